import JvmDerived
import JvmDerived.Pilot.@@N@@Statement
import JvmDerived.Pilot.@@N@@Code
set_option linter.unusedVariables false
set_option linter.unusedSimpArgs false
set_option maxHeartbeats 4000000
namespace Jvm.OwnK
open Sem ClassFile Op Lib Jvm.Free Jvm.Stand Jvm.LawKit Jvm.RoadKit
theorem iadd {tb : Tables} [Ours tb] {e : Env} {below : List Frame} {T target : State} {m : MethodId} {c : Code} {g : JFrame} (h : At T m c below) (hx : tb.exec = Jvm.exec) (hg : g.method = m) {x v : Int32} {y : Int32} {rest : List Value} (hd : decode c.code g.pc = .ok (.iadd, 1)) (hs : g.stack = .int y :: .int x :: rest) (hv : x + y = v)
    (hr : Steps tb e below (T.setTop { g with pc := g.pc + 1, stack := .int v :: rest }) target) : Steps tb e below (T.setTop g) target := by
  subst hv
  exact XS.iadd h hx hg hd hs hr
theorem isub {tb : Tables} [Ours tb] {e : Env} {below : List Frame} {T target : State} {m : MethodId} {c : Code} {g : JFrame} (h : At T m c below) (hx : tb.exec = Jvm.exec) (hg : g.method = m) {x v : Int32} {y : Int32} {rest : List Value} (hd : decode c.code g.pc = .ok (.isub, 1)) (hs : g.stack = .int y :: .int x :: rest) (hv : x - y = v)
    (hr : Steps tb e below (T.setTop { g with pc := g.pc + 1, stack := .int v :: rest }) target) : Steps tb e below (T.setTop g) target := by
  subst hv
  exact XS.isub h hx hg hd hs hr
theorem imul {tb : Tables} [Ours tb] {e : Env} {below : List Frame} {T target : State} {m : MethodId} {c : Code} {g : JFrame} (h : At T m c below) (hx : tb.exec = Jvm.exec) (hg : g.method = m) {x v : Int32} {y : Int32} {rest : List Value} (hd : decode c.code g.pc = .ok (.imul, 1)) (hs : g.stack = .int y :: .int x :: rest) (hv : x * y = v)
    (hr : Steps tb e below (T.setTop { g with pc := g.pc + 1, stack := .int v :: rest }) target) : Steps tb e below (T.setTop g) target := by
  subst hv
  exact XS.imul h hx hg hd hs hr
theorem iand {tb : Tables} [Ours tb] {e : Env} {below : List Frame} {T target : State} {m : MethodId} {c : Code} {g : JFrame} (h : At T m c below) (hx : tb.exec = Jvm.exec) (hg : g.method = m) {x v : Int32} {y : Int32} {rest : List Value} (hd : decode c.code g.pc = .ok (.iand, 1)) (hs : g.stack = .int y :: .int x :: rest) (hv : x &&& y = v)
    (hr : Steps tb e below (T.setTop { g with pc := g.pc + 1, stack := .int v :: rest }) target) : Steps tb e below (T.setTop g) target := by
  subst hv
  exact XS.iand h hx hg hd hs hr
theorem ior {tb : Tables} [Ours tb] {e : Env} {below : List Frame} {T target : State} {m : MethodId} {c : Code} {g : JFrame} (h : At T m c below) (hx : tb.exec = Jvm.exec) (hg : g.method = m) {x v : Int32} {y : Int32} {rest : List Value} (hd : decode c.code g.pc = .ok (.ior, 1)) (hs : g.stack = .int y :: .int x :: rest) (hv : x ||| y = v)
    (hr : Steps tb e below (T.setTop { g with pc := g.pc + 1, stack := .int v :: rest }) target) : Steps tb e below (T.setTop g) target := by
  subst hv
  exact XS.ior h hx hg hd hs hr
theorem ixor {tb : Tables} [Ours tb] {e : Env} {below : List Frame} {T target : State} {m : MethodId} {c : Code} {g : JFrame} (h : At T m c below) (hx : tb.exec = Jvm.exec) (hg : g.method = m) {x v : Int32} {y : Int32} {rest : List Value} (hd : decode c.code g.pc = .ok (.ixor, 1)) (hs : g.stack = .int y :: .int x :: rest) (hv : x ^^^ y = v)
    (hr : Steps tb e below (T.setTop { g with pc := g.pc + 1, stack := .int v :: rest }) target) : Steps tb e below (T.setTop g) target := by
  subst hv
  exact XS.ixor h hx hg hd hs hr
theorem ishl {tb : Tables} [Ours tb] {e : Env} {below : List Frame} {T target : State} {m : MethodId} {c : Code} {g : JFrame} (h : At T m c below) (hx : tb.exec = Jvm.exec) (hg : g.method = m) {x v : Int32} {y : Int32} {rest : List Value} (hd : decode c.code g.pc = .ok (.ishl, 1)) (hs : g.stack = .int y :: .int x :: rest) (hv : x <<< (y &&& 31) = v)
    (hr : Steps tb e below (T.setTop { g with pc := g.pc + 1, stack := .int v :: rest }) target) : Steps tb e below (T.setTop g) target := by
  subst hv
  exact XS.ishl h hx hg hd hs hr
theorem ishr {tb : Tables} [Ours tb] {e : Env} {below : List Frame} {T target : State} {m : MethodId} {c : Code} {g : JFrame} (h : At T m c below) (hx : tb.exec = Jvm.exec) (hg : g.method = m) {x v : Int32} {y : Int32} {rest : List Value} (hd : decode c.code g.pc = .ok (.ishr, 1)) (hs : g.stack = .int y :: .int x :: rest) (hv : x >>> (y &&& 31) = v)
    (hr : Steps tb e below (T.setTop { g with pc := g.pc + 1, stack := .int v :: rest }) target) : Steps tb e below (T.setTop g) target := by
  subst hv
  exact XS.ishr h hx hg hd hs hr
theorem iushr {tb : Tables} [Ours tb] {e : Env} {below : List Frame} {T target : State} {m : MethodId} {c : Code} {g : JFrame} (h : At T m c below) (hx : tb.exec = Jvm.exec) (hg : g.method = m) {x v : Int32} {y : Int32} {rest : List Value} (hd : decode c.code g.pc = .ok (.iushr, 1)) (hs : g.stack = .int y :: .int x :: rest) (hv : (x.toUInt32 >>> (y &&& 31).toUInt32).toInt32 = v)
    (hr : Steps tb e below (T.setTop { g with pc := g.pc + 1, stack := .int v :: rest }) target) : Steps tb e below (T.setTop g) target := by
  subst hv
  exact XS.iushr h hx hg hd hs hr
theorem idiv {tb : Tables} [Ours tb] {e : Env} {below : List Frame} {T target : State} {m : MethodId} {c : Code} {g : JFrame} (h : At T m c below) (hx : tb.exec = Jvm.exec) (hg : g.method = m) {x v : Int32} {y : Int32} {rest : List Value} (hd : decode c.code g.pc = .ok (.idiv, 1)) (hs : g.stack = .int y :: .int x :: rest) (hy : ¬ y = 0) (hv : x / y = v)
    (hr : Steps tb e below (T.setTop { g with pc := g.pc + 1, stack := .int v :: rest }) target) : Steps tb e below (T.setTop g) target := by
  subst hv
  exact XS.idiv h hx hg hd hs hy hr
theorem irem {tb : Tables} [Ours tb] {e : Env} {below : List Frame} {T target : State} {m : MethodId} {c : Code} {g : JFrame} (h : At T m c below) (hx : tb.exec = Jvm.exec) (hg : g.method = m) {x v : Int32} {y : Int32} {rest : List Value} (hd : decode c.code g.pc = .ok (.irem, 1)) (hs : g.stack = .int y :: .int x :: rest) (hy : ¬ y = 0) (hv : x % y = v)
    (hr : Steps tb e below (T.setTop { g with pc := g.pc + 1, stack := .int v :: rest }) target) : Steps tb e below (T.setTop g) target := by
  subst hv
  have q : x - x / y * y = x % y := irem_eq_mod x y
  exact XS.irem h hx hg hd hs hy (by rw [q]; exact hr)
theorem ladd {tb : Tables} [Ours tb] {e : Env} {below : List Frame} {T target : State} {m : MethodId} {c : Code} {g : JFrame} (h : At T m c below) (hx : tb.exec = Jvm.exec) (hg : g.method = m) {x v : Int64} {y : Int64} {rest : List Value} (hd : decode c.code g.pc = .ok (.ladd, 1)) (hs : g.stack = .long y :: .long x :: rest) (hv : x + y = v)
    (hr : Steps tb e below (T.setTop { g with pc := g.pc + 1, stack := .long v :: rest }) target) : Steps tb e below (T.setTop g) target := by
  subst hv
  exact XS.ladd h hx hg hd hs hr
theorem lsub {tb : Tables} [Ours tb] {e : Env} {below : List Frame} {T target : State} {m : MethodId} {c : Code} {g : JFrame} (h : At T m c below) (hx : tb.exec = Jvm.exec) (hg : g.method = m) {x v : Int64} {y : Int64} {rest : List Value} (hd : decode c.code g.pc = .ok (.lsub, 1)) (hs : g.stack = .long y :: .long x :: rest) (hv : x - y = v)
    (hr : Steps tb e below (T.setTop { g with pc := g.pc + 1, stack := .long v :: rest }) target) : Steps tb e below (T.setTop g) target := by
  subst hv
  exact XS.lsub h hx hg hd hs hr
theorem lmul {tb : Tables} [Ours tb] {e : Env} {below : List Frame} {T target : State} {m : MethodId} {c : Code} {g : JFrame} (h : At T m c below) (hx : tb.exec = Jvm.exec) (hg : g.method = m) {x v : Int64} {y : Int64} {rest : List Value} (hd : decode c.code g.pc = .ok (.lmul, 1)) (hs : g.stack = .long y :: .long x :: rest) (hv : x * y = v)
    (hr : Steps tb e below (T.setTop { g with pc := g.pc + 1, stack := .long v :: rest }) target) : Steps tb e below (T.setTop g) target := by
  subst hv
  exact XS.lmul h hx hg hd hs hr
theorem land {tb : Tables} [Ours tb] {e : Env} {below : List Frame} {T target : State} {m : MethodId} {c : Code} {g : JFrame} (h : At T m c below) (hx : tb.exec = Jvm.exec) (hg : g.method = m) {x v : Int64} {y : Int64} {rest : List Value} (hd : decode c.code g.pc = .ok (.land, 1)) (hs : g.stack = .long y :: .long x :: rest) (hv : x &&& y = v)
    (hr : Steps tb e below (T.setTop { g with pc := g.pc + 1, stack := .long v :: rest }) target) : Steps tb e below (T.setTop g) target := by
  subst hv
  exact XS.land h hx hg hd hs hr
theorem lor {tb : Tables} [Ours tb] {e : Env} {below : List Frame} {T target : State} {m : MethodId} {c : Code} {g : JFrame} (h : At T m c below) (hx : tb.exec = Jvm.exec) (hg : g.method = m) {x v : Int64} {y : Int64} {rest : List Value} (hd : decode c.code g.pc = .ok (.lor, 1)) (hs : g.stack = .long y :: .long x :: rest) (hv : x ||| y = v)
    (hr : Steps tb e below (T.setTop { g with pc := g.pc + 1, stack := .long v :: rest }) target) : Steps tb e below (T.setTop g) target := by
  subst hv
  exact XS.lor h hx hg hd hs hr
theorem lxor {tb : Tables} [Ours tb] {e : Env} {below : List Frame} {T target : State} {m : MethodId} {c : Code} {g : JFrame} (h : At T m c below) (hx : tb.exec = Jvm.exec) (hg : g.method = m) {x v : Int64} {y : Int64} {rest : List Value} (hd : decode c.code g.pc = .ok (.lxor, 1)) (hs : g.stack = .long y :: .long x :: rest) (hv : x ^^^ y = v)
    (hr : Steps tb e below (T.setTop { g with pc := g.pc + 1, stack := .long v :: rest }) target) : Steps tb e below (T.setTop g) target := by
  subst hv
  exact XS.lxor h hx hg hd hs hr
theorem lshl {tb : Tables} [Ours tb] {e : Env} {below : List Frame} {T target : State} {m : MethodId} {c : Code} {g : JFrame} (h : At T m c below) (hx : tb.exec = Jvm.exec) (hg : g.method = m) {x v : Int64} {y : Int32} {rest : List Value} (hd : decode c.code g.pc = .ok (.lshl, 1)) (hs : g.stack = .int y :: .long x :: rest) (hv : x <<< (y &&& 0x3f).toInt64 = v)
    (hr : Steps tb e below (T.setTop { g with pc := g.pc + 1, stack := .long v :: rest }) target) : Steps tb e below (T.setTop g) target := by
  subst hv
  exact XS.lshl h hx hg hd hs hr
theorem lshr {tb : Tables} [Ours tb] {e : Env} {below : List Frame} {T target : State} {m : MethodId} {c : Code} {g : JFrame} (h : At T m c below) (hx : tb.exec = Jvm.exec) (hg : g.method = m) {x v : Int64} {y : Int32} {rest : List Value} (hd : decode c.code g.pc = .ok (.lshr, 1)) (hs : g.stack = .int y :: .long x :: rest) (hv : x >>> (y &&& 0x3f).toInt64 = v)
    (hr : Steps tb e below (T.setTop { g with pc := g.pc + 1, stack := .long v :: rest }) target) : Steps tb e below (T.setTop g) target := by
  subst hv
  exact XS.lshr h hx hg hd hs hr
theorem lushr {tb : Tables} [Ours tb] {e : Env} {below : List Frame} {T target : State} {m : MethodId} {c : Code} {g : JFrame} (h : At T m c below) (hx : tb.exec = Jvm.exec) (hg : g.method = m) {x v : Int64} {y : Int32} {rest : List Value} (hd : decode c.code g.pc = .ok (.lushr, 1)) (hs : g.stack = .int y :: .long x :: rest) (hv : (x.toUInt64 >>> (y &&& 0x3f).toInt64.toUInt64).toInt64 = v)
    (hr : Steps tb e below (T.setTop { g with pc := g.pc + 1, stack := .long v :: rest }) target) : Steps tb e below (T.setTop g) target := by
  subst hv
  exact XS.lushr h hx hg hd hs hr
theorem ldiv {tb : Tables} [Ours tb] {e : Env} {below : List Frame} {T target : State} {m : MethodId} {c : Code} {g : JFrame} (h : At T m c below) (hx : tb.exec = Jvm.exec) (hg : g.method = m) {x v : Int64} {y : Int64} {rest : List Value} (hd : decode c.code g.pc = .ok (.ldiv, 1)) (hs : g.stack = .long y :: .long x :: rest) (hy : ¬ y = 0) (hv : x / y = v)
    (hr : Steps tb e below (T.setTop { g with pc := g.pc + 1, stack := .long v :: rest }) target) : Steps tb e below (T.setTop g) target := by
  subst hv
  exact XS.ldiv h hx hg hd hs hy hr
theorem lrem {tb : Tables} [Ours tb] {e : Env} {below : List Frame} {T target : State} {m : MethodId} {c : Code} {g : JFrame} (h : At T m c below) (hx : tb.exec = Jvm.exec) (hg : g.method = m) {x v : Int64} {y : Int64} {rest : List Value} (hd : decode c.code g.pc = .ok (.lrem, 1)) (hs : g.stack = .long y :: .long x :: rest) (hy : ¬ y = 0) (hv : x % y = v)
    (hr : Steps tb e below (T.setTop { g with pc := g.pc + 1, stack := .long v :: rest }) target) : Steps tb e below (T.setTop g) target := by
  subst hv
  have q : x - x / y * y = x % y := lrem_mod x y
  exact XS.lrem h hx hg hd hs hy (by rw [q]; exact hr)
theorem ineg {tb : Tables} [Ours tb] {e : Env} {below : List Frame} {T target : State} {m : MethodId} {c : Code} {g : JFrame} (h : At T m c below) (hx : tb.exec = Jvm.exec) (hg : g.method = m) {x : Int32} {v : Int32} {rest : List Value} (hd : decode c.code g.pc = .ok (.ineg, 1)) (hs : g.stack = .int x :: rest) (hv : -x = v)
    (hr : Steps tb e below (T.setTop { g with pc := g.pc + 1, stack := .int v :: rest }) target) : Steps tb e below (T.setTop g) target := by
  subst hv
  exact XS.ineg h hx hg hd hs hr
theorem lneg {tb : Tables} [Ours tb] {e : Env} {below : List Frame} {T target : State} {m : MethodId} {c : Code} {g : JFrame} (h : At T m c below) (hx : tb.exec = Jvm.exec) (hg : g.method = m) {x : Int64} {v : Int64} {rest : List Value} (hd : decode c.code g.pc = .ok (.lneg, 1)) (hs : g.stack = .long x :: rest) (hv : -x = v)
    (hr : Steps tb e below (T.setTop { g with pc := g.pc + 1, stack := .long v :: rest }) target) : Steps tb e below (T.setTop g) target := by
  subst hv
  exact XS.lneg h hx hg hd hs hr
theorem i2l {tb : Tables} [Ours tb] {e : Env} {below : List Frame} {T target : State} {m : MethodId} {c : Code} {g : JFrame} (h : At T m c below) (hx : tb.exec = Jvm.exec) (hg : g.method = m) {x : Int32} {v : Int64} {rest : List Value} (hd : decode c.code g.pc = .ok (.i2l, 1)) (hs : g.stack = .int x :: rest) (hv : x.toInt64 = v)
    (hr : Steps tb e below (T.setTop { g with pc := g.pc + 1, stack := .long v :: rest }) target) : Steps tb e below (T.setTop g) target := by
  subst hv
  exact XS.i2l h hx hg hd hs hr
theorem l2i {tb : Tables} [Ours tb] {e : Env} {below : List Frame} {T target : State} {m : MethodId} {c : Code} {g : JFrame} (h : At T m c below) (hx : tb.exec = Jvm.exec) (hg : g.method = m) {x : Int64} {v : Int32} {rest : List Value} (hd : decode c.code g.pc = .ok (.l2i, 1)) (hs : g.stack = .long x :: rest) (hv : x.toInt32 = v)
    (hr : Steps tb e below (T.setTop { g with pc := g.pc + 1, stack := .int v :: rest }) target) : Steps tb e below (T.setTop g) target := by
  subst hv
  exact XS.l2i h hx hg hd hs hr
theorem i2b {tb : Tables} [Ours tb] {e : Env} {below : List Frame} {T target : State} {m : MethodId} {c : Code} {g : JFrame} (h : At T m c below) (hx : tb.exec = Jvm.exec) (hg : g.method = m) {x : Int32} {v : Int32} {rest : List Value} (hd : decode c.code g.pc = .ok (.i2b, 1)) (hs : g.stack = .int x :: rest) (hv : x.toInt8.toInt32 = v)
    (hr : Steps tb e below (T.setTop { g with pc := g.pc + 1, stack := .int v :: rest }) target) : Steps tb e below (T.setTop g) target := by
  subst hv
  exact XS.i2b h hx hg hd hs hr
theorem i2s {tb : Tables} [Ours tb] {e : Env} {below : List Frame} {T target : State} {m : MethodId} {c : Code} {g : JFrame} (h : At T m c below) (hx : tb.exec = Jvm.exec) (hg : g.method = m) {x : Int32} {v : Int32} {rest : List Value} (hd : decode c.code g.pc = .ok (.i2s, 1)) (hs : g.stack = .int x :: rest) (hv : x.toInt16.toInt32 = v)
    (hr : Steps tb e below (T.setTop { g with pc := g.pc + 1, stack := .int v :: rest }) target) : Steps tb e below (T.setTop g) target := by
  subst hv
  exact XS.i2s h hx hg hd hs hr
theorem dadd {tb : Tables} [Ours tb] {e : Env} {below : List Frame} {T target : State} {m : MethodId} {c : Code} {g : JFrame} (h : At T m c below) (hx : tb.exec = Jvm.exec) (hg : g.method = m) {x y v : UInt64} {rest : List Value} (hd : decode c.code g.pc = .ok (.dadd, 1)) (hs : g.stack = .double y :: .double x :: rest) (hv : FP.dadd x y = v) (hn : Jvm.Free.Fl.NoNaN64 v)
    (hr : Steps tb e below (T.setTop { g with pc := g.pc + 1, stack := .double v :: rest }) target) : Steps tb e below (T.setTop g) target := by
  subst hv
  exact XS.daddS h hx hg hd hs hn rfl hr
theorem dsub {tb : Tables} [Ours tb] {e : Env} {below : List Frame} {T target : State} {m : MethodId} {c : Code} {g : JFrame} (h : At T m c below) (hx : tb.exec = Jvm.exec) (hg : g.method = m) {x y v : UInt64} {rest : List Value} (hd : decode c.code g.pc = .ok (.dsub, 1)) (hs : g.stack = .double y :: .double x :: rest) (hv : FP.dsub x y = v) (hn : Jvm.Free.Fl.NoNaN64 v)
    (hr : Steps tb e below (T.setTop { g with pc := g.pc + 1, stack := .double v :: rest }) target) : Steps tb e below (T.setTop g) target := by
  subst hv
  exact XS.dsubS h hx hg hd hs hn rfl hr
theorem dmul {tb : Tables} [Ours tb] {e : Env} {below : List Frame} {T target : State} {m : MethodId} {c : Code} {g : JFrame} (h : At T m c below) (hx : tb.exec = Jvm.exec) (hg : g.method = m) {x y v : UInt64} {rest : List Value} (hd : decode c.code g.pc = .ok (.dmul, 1)) (hs : g.stack = .double y :: .double x :: rest) (hv : FP.dmul x y = v) (hn : Jvm.Free.Fl.NoNaN64 v)
    (hr : Steps tb e below (T.setTop { g with pc := g.pc + 1, stack := .double v :: rest }) target) : Steps tb e below (T.setTop g) target := by
  subst hv
  exact XS.dmulS h hx hg hd hs hn rfl hr
theorem ddiv {tb : Tables} [Ours tb] {e : Env} {below : List Frame} {T target : State} {m : MethodId} {c : Code} {g : JFrame} (h : At T m c below) (hx : tb.exec = Jvm.exec) (hg : g.method = m) {x y v : UInt64} {rest : List Value} (hd : decode c.code g.pc = .ok (.ddiv, 1)) (hs : g.stack = .double y :: .double x :: rest) (hv : FP.ddiv x y = v) (hn : Jvm.Free.Fl.NoNaN64 v)
    (hr : Steps tb e below (T.setTop { g with pc := g.pc + 1, stack := .double v :: rest }) target) : Steps tb e below (T.setTop g) target := by
  subst hv
  exact XS.ddivS h hx hg hd hs hn rfl hr
theorem drem {tb : Tables} [Ours tb] {e : Env} {below : List Frame} {T target : State} {m : MethodId} {c : Code} {g : JFrame} (h : At T m c below) (hx : tb.exec = Jvm.exec) (hg : g.method = m) {x y v : UInt64} {rest : List Value} (hd : decode c.code g.pc = .ok (.drem, 1)) (hs : g.stack = .double y :: .double x :: rest) (hv : FP.drem x y = v) (hn : Jvm.Free.Fl.NoNaN64 v)
    (hr : Steps tb e below (T.setTop { g with pc := g.pc + 1, stack := .double v :: rest }) target) : Steps tb e below (T.setTop g) target := by
  subst hg
  subst hv
  obtain ⟨gm, gp, gl, gs, gk, ge, gr⟩ := g
  simp only at hs hd
  subst hs
  jvm_step h [h.top, hx, hd, Op.drem.at_number h.top hn]
  exact hr
theorem lcmp {tb : Tables} [Ours tb] {e : Env} {below : List Frame} {T target : State} {m : MethodId} {c : Code} {g : JFrame} (h : At T m c below) (hx : tb.exec = Jvm.exec) (hg : g.method = m) {x y : Int64} {v : Int32} {rest : List Value} (hd : decode c.code g.pc = .ok (.lcmp, 1)) (hs : g.stack = .long y :: .long x :: rest) (hv : lcmpW x y = v)
    (hr : Steps tb e below (T.setTop { g with pc := g.pc + 1, stack := .int v :: rest }) target) : Steps tb e below (T.setTop g) target := by
  subst hv
  exact XS.lcmp h hx hg hd hs hr
theorem iinc {tb : Tables} [Ours tb] {e : Env} {below : List Frame} {T target : State} {m : MethodId} {c : Code} {g : JFrame} (h : At T m c below) (hx : tb.exec = Jvm.exec) (hg : g.method = m) {k : Nat} {cst : Int} {x v : Int32} {l' : Array Slot} (hd : decode c.code g.pc = .ok (.iinc k cst, 3)) (hl : g.locals[k]? = some (.val (.int x))) (hv : x + Int32.ofInt cst = v) (hl' : storeLocals g.locals k (.int v) = some l')
    (hr : Steps tb e below (T.setTop { g with pc := g.pc + 3, locals := l' }) target) : Steps tb e below (T.setTop g) target := by
  subst hv
  exact XS.iinc h hx hg hd hl hl' hr
theorem dup2 {tb : Tables} [Ours tb] {e : Env} {below : List Frame} {T target : State} {m : MethodId} {c : Code} {g : JFrame} (h : At T m c below) (hx : tb.exec = Jvm.exec) (hg : g.method = m) {x y : Value} {rest : List Value} (hd : decode c.code g.pc = .ok (.dup2, 1)) (hs : g.stack = x :: y :: rest) (hc : x.category = 1) (hc' : y.category = 1)
    (hr : Steps tb e below (T.setTop { g with pc := g.pc + 1, stack := x :: y :: x :: y :: rest }) target) : Steps tb e below (T.setTop g) target := Jvm.Free.XT.dup2 h hx hg hd hs hc hc' hr
theorem dup2W {tb : Tables} [Ours tb] {e : Env} {below : List Frame} {T target : State} {m : MethodId} {c : Code} {g : JFrame} (h : At T m c below) (hx : tb.exec = Jvm.exec) (hg : g.method = m) {x : Value} {rest : List Value} (hd : decode c.code g.pc = .ok (.dup2, 1)) (hs : g.stack = x :: rest) (hc : x.category = 2)
    (hr : Steps tb e below (T.setTop { g with pc := g.pc + 1, stack := x :: x :: rest }) target) : Steps tb e below (T.setTop g) target := by
  subst hg
  jvm_step h [h.top, hx, hd, hs, hc]
  exact hr
theorem Sta_keep {Z : State} {h h' : Heap} {C n d : String} {w : Value} {ws : List Addr} (F : Sta Z h C n d w) (K : Keep h h' ws) (hn : ∀ x ∈ ws, ∀ cell : Cell, h[x]? = some cell → cell.vm.isStatics = false) : Sta Z h' C n d w := by
  obtain ⟨cf, i, k, f, st, cell, h1, h2, h3, h4, h5, h6, h7⟩ := F
  refine ⟨cf, i, k, f, st, cell, h1, h2, h3, h4, K.2.1 st cell h5 (fun q => ?_), h6, h7⟩
  rw [hn st q cell h5] at h6; cases h6
end Jvm.OwnK
namespace Jvm.OwnF
open Jvm.FP Jvm.FP.Core
/-! doubles as whole numbers of units of 2^-1074 -/
def V (a : UInt64) : Int := zval b64 (val64 a)
def BIG : Nat := 2 ^ 2000
/-- the rounding of n / d, in units -/
def rnd (n : Int) (d : Nat) : Int := zval b64 (roundRatio b64 (decide (n < 0)) n.natAbs d (-1074))
theorem zval_zero (s : Bool) (d : Nat) (e : Int) : zval b64 (roundRatio b64 s 0 d e) = 0 := by
  unfold roundRatio
  rw [if_pos rfl]
  show signed s (0 * 2 ^ (b64.qmin - b64.qmin).toNat) = 0
  rw [Nat.zero_mul, signed_zero]
theorem rnd_signed (s : Bool) (N d : Nat) : zval b64 (roundRatio b64 s N d (-1074)) = rnd (signed s N) d := by
  unfold rnd
  rw [natAbs_signed]
  by_cases h : N = 0
  · subst h; rw [zval_zero, zval_zero]
  · rw [signed_lt_zero s (by omega)]
theorem signed_natAbs (n : Int) : signed (decide (n < 0)) n.natAbs = n := by
  unfold signed
  by_cases h : n < 0 <;> simp [h] <;> omega
theorem bigV : Jvm.FP.Core.fits b64 (.fin false (2 ^ 52) 874) := by refine ⟨?_, ?_, ?_, ?_⟩ <;> decide
theorem bigZ : zmag b64 (.fin false (2 ^ 52) 874) = BIG := by
  show 2 ^ 52 * 2 ^ (874 - b64.qmin).toNat = 2 ^ 2000
  rw [qmin_b64, show (874 - (-1074) : Int).toNat = 1948 from rfl, ← Nat.pow_add]
theorem big_lt : BIG < b64.tails * 2 ^ (b64.exps - 2) := by
  rw [tails_b64, show b64.exps - 2 = 2046 by decide, ← Nat.pow_add]
  exact Nat.pow_lt_pow_right (by decide) (by decide)
theorem un0 (A : Nat) : inUnits A (-1074) (-1074) = A := by unfold inUnits; simp
theorem round_le_big {s : Bool} {A B : Nat} (hB : 0 < B) (h : A ≤ BIG * B) : zmag b64 (roundRatio b64 s A B (-1074)) ≤ BIG := by
  have := zmag_roundRatio_le good_b64 (s := s) (A := A) (B := B) (e := -1074) (e0 := -1074) hB bigV Datum.noConfusion (by rw [qmin_b64]; decide) (by decide) (by rw [bigZ, un0, qmin_b64]; simpa using h)
  rwa [bigZ] at this
theorem fin_round {s : Bool} {A B : Nat} (hB : 0 < B) (h : A ≤ BIG * B) : ∃ c q, roundRatio b64 s A B (-1074) = .fin s c q := by
  rcases roundRatio_cases b64 s A B (-1074) with h1 | h1
  · exact h1
  · exfalso
    have h2 := round_le_big (s := s) hB h
    rw [h1] at h2
    have h3 : zmag b64 (.inf s) = b64.tails * 2 ^ (b64.exps - 2) := rfl
    have := big_lt
    omega
theorem noNaN_fin {a : UInt64} (h : DFin a) : Jvm.Free.Fl.NoNaN64 a := by
  rw [Jvm.Free.Fl.val64_no]; obtain ⟨s, c, q, e⟩ := h; rw [e]; exact Datum.noConfusion
theorem V_dadd {a b : UInt64} (ha : DFin a) (hb : DFin b) (h : (V a + V b).natAbs ≤ BIG) : DFin (FP.dadd a b) ∧ V (FP.dadd a b) = rnd (V a + V b) 1 := by
  obtain ⟨s, c, q, ea⟩ := ha
  obtain ⟨t, d, r, eb⟩ := hb
  have fa : Jvm.FP.Core.fits b64 (.fin s c q) := ea ▸ val64_fits a
  have fb : Jvm.FP.Core.fits b64 (.fin t d r) := eb ▸ val64_fits b
  obtain ⟨sg, n, e, p1, p2, p3⟩ := sum_units fa fb
  rw [qmin_b64] at p2 p3
  have hv : val64 (FP.dadd a b) = roundRatio b64 sg (inUnits n e (-1074)) 1 (-1074) := by
    rw [show FP.dadd a b = Core.dadd a b from rfl, val64_dadd, ea, eb, p1]
    show roundRatio b64 sg n 1 e = _
    refine roundRatio_congr (by decide) (by decide) ?_
    rw [show (-1074 - e).toNat = 0 by omega]
    unfold inUnits; simp
  have hS : signed sg (inUnits n e (-1074)) = V a + V b := by unfold V; rw [ea, eb]; exact p3
  have hN : inUnits n e (-1074) = (V a + V b).natAbs := by rw [← hS, natAbs_signed]
  obtain ⟨c', q', hh⟩ := fin_round (s := sg) (A := inUnits n e (-1074)) (B := 1) (by decide) (by rw [Nat.mul_one, hN]; exact h)
  refine ⟨⟨sg, c', q', hv.trans hh⟩, ?_⟩
  show zval b64 (val64 (FP.dadd a b)) = _
  rw [hv, rnd_signed, hS]
theorem V_neg (a : UInt64) : V (Core.dneg a) = -V a := by unfold V; rw [Core.val64_dneg, zval_negate]
theorem fin_neg {a : UInt64} (h : DFin a) : DFin (Core.dneg a) := by
  obtain ⟨s, c, q, e⟩ := h
  exact ⟨!s, c, q, by rw [Core.val64_dneg, e]; rfl⟩
theorem V_dsub {a b : UInt64} (ha : DFin a) (hb : DFin b) (h : (V a - V b).natAbs ≤ BIG) : DFin (FP.dsub a b) ∧ V (FP.dsub a b) = rnd (V a - V b) 1 := by
  have e : FP.dsub a b = FP.dadd a (Core.dneg b) := dsub_eq a b
  rw [e]
  have := V_dadd ha (fin_neg hb) (by rw [V_neg]; exact h)
  rw [V_neg] at this
  exact this
theorem zmag_V (a : UInt64) : zmag b64 (val64 a) = (V a).natAbs := by unfold V zval; rw [natAbs_signed]
theorem V_dmul {a b : UInt64} (ha : DFin a) (hb : DFin b) (h : (V a * V b).natAbs ≤ BIG * one64) : DFin (FP.dmul a b) ∧ V (FP.dmul a b) = rnd (V a * V b) one64 := by
  have za := zmag_V a
  have zb := zmag_V b
  obtain ⟨s, c, q, ea⟩ := ha
  obtain ⟨t, d, r, eb⟩ := hb
  have fa : Jvm.FP.Core.fits b64 (.fin s c q) := ea ▸ val64_fits a
  have fb : Jvm.FP.Core.fits b64 (.fin t d r) := eb ▸ val64_fits b
  obtain ⟨p1, p2, p3⟩ := product_units fa fb
  rw [← ea, ← eb, za, zb, ← Int.natAbs_mul] at p3
  rw [qmin_b64] at p2 p3
  have hv : val64 (FP.dmul a b) = roundRatio b64 (s != t) (V a * V b).natAbs one64 (-1074) := by
    rw [show FP.dmul a b = Core.dmul a b from rfl, val64_dmul, ea, eb, p1]
    show roundRatio b64 (s != t) (c * d) 1 (q + r) = _
    refine roundRatio_congr (by decide) one64_pos ?_
    rw [← p3]
    unfold inUnits one64
    rw [Nat.mul_one, Nat.mul_assoc (c * d), Nat.mul_assoc (c * d), ← Nat.pow_add, ← Nat.pow_add]
    congr 2
    omega
  have hS : signed (s != t) (V a * V b).natAbs = V a * V b := by
    rw [Int.natAbs_mul, signed_xor, ← za, ← zb]
    unfold V zval
    rw [ea, eb]
    rfl
  obtain ⟨c', q', hh⟩ := fin_round (s := s != t) (A := (V a * V b).natAbs) (B := one64) one64_pos h
  refine ⟨⟨_, c', q', hv.trans hh⟩, ?_⟩
  show zval b64 (val64 (FP.dmul a b)) = _
  rw [hv, rnd_signed, hS]
theorem pw2 (c d x y : Nat) : c * (d * 2 ^ x) * 2 ^ y = c * d * 2 ^ (x + y) := by rw [Nat.pow_add]; ac_rfl
theorem pw3 (c d x y z : Nat) : c * 2 ^ x * 2 ^ y * d * 2 ^ z = c * d * 2 ^ (x + y + z) := by rw [Nat.pow_add, Nat.pow_add]; ac_rfl
theorem V_ddiv {a b : UInt64} (ha : DFin a) (hb : DFin b) (h0 : V b ≠ 0) (h : (V a).natAbs * one64 ≤ BIG * (V b).natAbs) : DFin (FP.ddiv a b) ∧ V (FP.ddiv a b) = rnd (V a * (one64 : Int) * (V b).sign) (V b).natAbs := by
  have za := zmag_V a
  have zb := zmag_V b
  have sb : (V b).sign = signed (sgn (val64 b)) 1 := by
    unfold V zval at h0 ⊢
    cases hsg : sgn (val64 b) <;> rw [hsg] at h0 <;> simp only [signed, if_true, Bool.false_eq_true, if_false] at h0 ⊢
    · exact Int.sign_eq_one_of_pos (by omega)
    · exact Int.sign_eq_neg_one_of_neg (by omega)
  obtain ⟨s, c, q, ea⟩ := ha
  obtain ⟨t, d, r, eb⟩ := hb
  have fa : Jvm.FP.Core.fits b64 (.fin s c q) := ea ▸ val64_fits a
  have fb : Jvm.FP.Core.fits b64 (.fin t d r) := eb ▸ val64_fits b
  have hq1 := fa.2.1
  have hr1 := fb.2.1
  rw [qmin_b64] at hq1 hr1
  have ma : (V a).natAbs = c * 2 ^ (q - (-1074)).toNat := by rw [← za, ea]; show inUnits c q b64.qmin = _; rw [qmin_b64]; rfl
  have mb : (V b).natAbs = d * 2 ^ (r - (-1074)).toNat := by rw [← zb, eb]; show inUnits d r b64.qmin = _; rw [qmin_b64]; rfl
  have hd0 : d ≠ 0 := by
    rintro rfl
    rw [Nat.zero_mul] at mb; omega
  have hBp : 0 < (V b).natAbs := by omega
  have hv : val64 (FP.ddiv a b) = roundRatio b64 (s != t) ((V a).natAbs * one64) (V b).natAbs (-1074) := by
    rw [show FP.ddiv a b = Core.ddiv a b from rfl, val64_ddiv, ea, eb]
    simp only [quotient, if_neg hd0]
    refine roundRatio_congr (by omega) hBp ?_
    rw [ma, mb]
    unfold one64
    rw [pw2, pw3]
    congr 2
    omega
  have hS : signed (s != t) ((V a).natAbs * one64) = V a * (one64 : Int) * (V b).sign := by
    rw [sb, eb]
    show _ = _ * signed t 1
    have : signed (s != t) ((V a).natAbs * one64 * 1) = signed s ((V a).natAbs * one64) * signed t 1 := signed_xor s t _ 1
    rw [Nat.mul_one] at this
    rw [this, signed_mul]
    congr 2
    rw [← za]
    unfold V zval
    rw [ea]
    rfl
  obtain ⟨c', q', hh⟩ := fin_round (s := s != t) (A := (V a).natAbs * one64) (B := (V b).natAbs) hBp h
  refine ⟨⟨_, c', q', hv.trans hh⟩, ?_⟩
  show zval b64 (val64 (FP.ddiv a b)) = _
  rw [hv, rnd_signed, hS]
theorem V_of_int {a : UInt64} {n : Int} (ha : val64 a = round b64 (ofInt n)) (h : n.natAbs ≤ 2 ^ 64) : DFin a ∧ V a = rnd (n * (one64 : Int)) 1 := by
  have hv : val64 a = roundRatio b64 (decide (n < 0)) (n.natAbs * one64) 1 (-1074) := by
    rw [ha]
    show roundRatio b64 (decide (n < 0)) n.natAbs 1 0 = _
    refine roundRatio_congr (by decide) (by decide) ?_
    unfold one64
    rw [show (0 - (-1074) : Int).toNat = 1074 from rfl, show (-1074 - 0 : Int).toNat = 0 from rfl]
    simp
  have hS : signed (decide (n < 0)) (n.natAbs * one64) = n * (one64 : Int) := by rw [signed_mul, signed_natAbs]
  have hB : n.natAbs * one64 ≤ BIG := by
    refine Nat.le_trans (Nat.mul_le_mul_right _ h) ?_
    unfold one64 BIG
    rw [← Nat.pow_add]
    exact Nat.pow_le_pow_right (by decide) (by decide)
  obtain ⟨c', q', hh⟩ := fin_round (s := decide (n < 0)) (A := n.natAbs * one64) (B := 1) (by decide) (by rw [Nat.mul_one]; exact hB)
  refine ⟨⟨_, c', q', hv.trans hh⟩, ?_⟩
  show zval b64 (val64 a) = _
  rw [hv, rnd_signed, hS]
theorem V_l2d (n : Int64) : DFin (FP.l2d n) ∧ V (FP.l2d n) = rnd (n.toInt * (one64 : Int)) 1 :=
  V_of_int (val64_l2d n) (Nat.le_trans (int64_abs n) (by decide))
theorem V_i2d (n : Int32) : DFin (FP.i2d n) ∧ V (FP.i2d n) = rnd (n.toInt * (one64 : Int)) 1 :=
  V_of_int (val64_i2d n) (Nat.le_trans (int32_abs n) (by decide))
theorem V_drem {a b : UInt64} (ha : DFin a) (hb : DFin b) (h0 : V b ≠ 0) : DFin (FP.drem a b) ∧ V (FP.drem a b) = (V a).tmod (V b) := by
  have za := zmag_V a
  have zb := zmag_V b
  obtain ⟨s, c, q, ea⟩ := ha
  obtain ⟨t, d, r, eb⟩ := hb
  have fa : Jvm.FP.Core.fits b64 (.fin s c q) := ea ▸ val64_fits a
  have fb : Jvm.FP.Core.fits b64 (.fin t d r) := eb ▸ val64_fits b
  have hd0 : d ≠ 0 := by
    rintro rfl
    rw [eb] at zb
    have : zmag b64 (.fin t 0 r) = 0 := Nat.zero_mul _
    omega
  obtain ⟨c', q', h1, h2⟩ := remainder_exact good_b64 fa fb hd0
  have hv : val64 (FP.drem a b) = .fin s c' q' := by rw [show FP.drem a b = Core.drem a b from rfl, val64_drem, ea, eb, h1]
  refine ⟨⟨_, _, _, hv⟩, ?_⟩
  have h3 : zmag b64 (.fin s c' q') = (V a).natAbs % (V b).natAbs := by rw [← za, ← zb, ea, eb]; exact h2
  have hVa : V a = signed s (V a).natAbs := by rw [← za]; unfold V zval; rw [ea]; rfl
  show zval b64 (val64 (FP.drem a b)) = _
  rw [hv]
  show signed s (zmag b64 (.fin s c' q')) = _
  rw [h3]
  have hb2 : ∀ x : Int, x.tmod (V b) = x.tmod ((V b).natAbs : Int) := by
    intro x
    rcases Int.natAbs_eq (V b) with e | e
    · rw [← e]
    · rw [e, Int.tmod_neg]; simp
  rw [hb2]
  generalize (V b).natAbs = B at *
  generalize (V a).natAbs = A at *
  rw [hVa]
  cases s <;> simp [signed] <;> exact (Int.tmod_eq_emod_of_nonneg (Int.natCast_nonneg A)).symm
theorem cmp_V {a b : UInt64} (ha : DFin a) (hb : DFin b) : FP.dcmp a b = some (compare (V a) (V b)) := by
  obtain ⟨s, c, q, ea⟩ := ha
  obtain ⟨t, d, r, eb⟩ := hb
  exact dcmp_zval (by rw [ea]; exact Datum.noConfusion) (by rw [eb]; exact Datum.noConfusion)
/-! the rounding -/
theorem rnd_congr {n n' : Int} {d d' : Nat} (hd : 0 < d) (hd' : 0 < d') (h : n * (d' : Int) = n' * (d : Int)) : rnd n d = rnd n' d' := by
  have hs : (n < 0) ↔ (n' < 0) := by
    have p1 : (0 : Int) < d := by omega
    have p2 : (0 : Int) < d' := by omega
    constructor
    · intro q
      have := Int.mul_neg_of_neg_of_pos q p2
      refine Int.lt_of_not_ge fun q' => ?_
      have := Int.mul_nonneg q' (Int.le_of_lt p1)
      omega
    · intro q
      have := Int.mul_neg_of_neg_of_pos q p1
      refine Int.lt_of_not_ge fun q' => ?_
      have := Int.mul_nonneg q' (Int.le_of_lt p2)
      omega
  have hm : n.natAbs * d' = n'.natAbs * d := by
    have := congrArg Int.natAbs h
    rwa [Int.natAbs_mul, Int.natAbs_mul, Int.natAbs_natCast, Int.natAbs_natCast] at this
  unfold rnd
  rw [show decide (n < 0) = decide (n' < 0) from decide_eq_decide.mpr hs]
  congr 1
  exact roundRatio_congr hd hd' (by simpa using hm)
/-- at most 53 binary digits -/
def Rep (r : Int) : Prop := ∃ (m : Int) (e : Nat), r = m * ((2 ^ e : Nat) : Int) ∧ m.natAbs < 2 ^ 53 ∧ e ≤ 2045
theorem rnd_exact {n : Int} {d : Nat} {r : Int} (hd : 0 < d) (h : n = r * (d : Int)) (hr : Rep r) : rnd n d = r := by
  rw [rnd_congr (n' := r) (d' := 1) hd (by decide) (by rw [h]; simp)]
  obtain ⟨m, e, rfl, hm, he⟩ := hr
  have hsg : ∀ k : Nat, signed (decide (m < 0)) (m.natAbs * k) = m * (k : Int) := fun k => by rw [signed_mul, signed_natAbs]
  have h1 : rnd (m * ((2 ^ e : Nat) : Int)) 1 = zval b64 (roundRatio b64 (decide (m < 0)) (m.natAbs * 2 ^ e) 1 (-1074)) := by rw [rnd_signed, hsg]
  rw [h1]
  obtain ⟨c', q', h2, h3⟩ := round_exact good_b64 (decide (m < 0)) (c := m.natAbs) (q := (e : Int) - 1074) hm (by rw [qmin_b64]; omega) (by rw [show b64.qmax = 971 by decide]; omega)
  have h4 : roundRatio b64 (decide (m < 0)) (m.natAbs * 2 ^ e) 1 (-1074) = roundRatio b64 (decide (m < 0)) m.natAbs 1 ((e : Int) - 1074) := by
    refine roundRatio_congr (by decide) (by decide) ?_
    rw [show (-1074 - ((e : Int) - 1074)).toNat = 0 by omega, show ((e : Int) - 1074 - -1074).toNat = e by omega]
    simp
  rw [h4]
  have h5 : roundRatio b64 (decide (m < 0)) m.natAbs 1 ((e : Int) - 1074) = .fin (decide (m < 0)) c' q' := h2
  rw [h5]
  show signed _ (inUnits c' q' b64.qmin) = _
  rw [h3, ← hsg]
  unfold inUnits
  rw [qmin_b64, show ((e : Int) - 1074 - -1074).toNat = e by omega]
  rfl
theorem rep_V {a : UInt64} (ha : DFin a) : Rep (V a) := by
  obtain ⟨s, c, q, ea⟩ := ha
  have fa : Jvm.FP.Core.fits b64 (.fin s c q) := ea ▸ val64_fits a
  obtain ⟨h1, h2, h3, -⟩ := fa
  rw [qmin_b64] at h2
  rw [show b64.qmax = 971 by decide] at h3
  refine ⟨signed s c, (q - (-1074)).toNat, ?_, by rw [natAbs_signed]; exact h1, by omega⟩
  unfold V zval
  rw [ea]
  show signed s (c * 2 ^ (q - b64.qmin).toNat) = _
  rw [signed_mul, qmin_b64]
theorem V_le {a : UInt64} : (V a).natAbs ≤ (V a).natAbs := Nat.le_refl _
end Jvm.OwnF
namespace Jvm.OwnF
open Jvm.FP Jvm.FP.Core
/-! exact values: a is n / 2^k -/
def R53 (n : Int) : Prop := ∃ (m : Int) (e : Nat), n = m * ((2 ^ e : Nat) : Int) ∧ m.natAbs ≤ 2 ^ 53 ∧ e ≤ 800
def DV (n : Int) (k : Nat) (a : UInt64) : Prop := DFin a ∧ k ≤ 1074 ∧ V a = n * ((2 ^ (1074 - k) : Nat) : Int)
theorem r53 {n : Int} (h : n.natAbs ≤ 2 ^ 53) : R53 n := ⟨n, 0, by simp, h, by decide⟩
theorem rep_of {m : Int} {e : Nat} (hm : m.natAbs ≤ 2 ^ 53) (he : e ≤ 1900) : Rep (m * ((2 ^ e : Nat) : Int)) := by
  by_cases h : m.natAbs < 2 ^ 53
  · exact ⟨m, e, rfl, h, by omega⟩
  · refine ⟨m.sign, e + 53, ?_, ?_, by omega⟩
    · have h1 : m.natAbs = 2 ^ 53 := by omega
      have h2 : m = m.sign * (m.natAbs : Int) := (Int.sign_mul_natAbs m).symm
      conv => lhs; rw [h2, h1]
      rw [Nat.pow_add, Int.natCast_mul, Int.mul_assoc]
      congr 1
      rw [Int.mul_comm]
    · have : m.sign.natAbs ≤ 1 := by
        rcases Int.lt_trichotomy m 0 with q | q | q
        · rw [Int.sign_eq_neg_one_of_neg q]; decide
        · rw [q]; decide
        · rw [Int.sign_eq_one_of_pos q]; decide
      omega
theorem rep_R {n : Int} (h : R53 n) {k : Nat} (hk : k ≤ 1074) : Rep (n * ((2 ^ k : Nat) : Int)) := by
  obtain ⟨m, e, rfl, hm, he⟩ := h
  rw [Int.mul_assoc, ← Int.natCast_mul, ← Nat.pow_add]
  exact rep_of hm (by omega)
theorem big_R {n : Int} (h : R53 n) {k : Nat} (hk : k ≤ 1074) : (n * ((2 ^ k : Nat) : Int)).natAbs ≤ BIG := by
  obtain ⟨m, e, rfl, hm, he⟩ := h
  rw [Int.natAbs_mul, Int.natAbs_mul, Int.natAbs_natCast, Int.natAbs_natCast, Nat.mul_assoc, ← Nat.pow_add]
  refine Nat.le_trans (Nat.mul_le_mul_right _ hm) ?_
  unfold BIG
  rw [← Nat.pow_add]
  exact Nat.pow_le_pow_right (by decide) (by omega)
theorem DV.fin {n : Int} {k : Nat} {a : UInt64} (h : DV n k a) : DFin a := h.1
theorem DV.nn {n : Int} {k : Nat} {a : UInt64} (h : DV n k a) : Jvm.Free.Fl.NoNaN64 a := noNaN_fin h.1
theorem DV.of_eq {n m : Int} {k : Nat} {a : UInt64} (h : DV n k a) (e : n = m) : DV m k a := e ▸ h
theorem DV.up {n : Int} {k : Nat} {a : UInt64} (h : DV n k a) (j : Nat) (hj : k + j ≤ 1074) : DV (n * ((2 ^ j : Nat) : Int)) (k + j) a := by
  refine ⟨h.1, hj, ?_⟩
  rw [h.2.2, Int.mul_assoc, ← Int.natCast_mul, ← Nat.pow_add]
  congr 4
  omega
theorem DV.down {n : Int} {k j : Nat} {a : UInt64} (h : DV (n * ((2 ^ j : Nat) : Int)) (k + j) a) : DV n k a := by
  refine ⟨h.1, by have := h.2.1; omega, ?_⟩
  rw [h.2.2, Int.mul_assoc, ← Int.natCast_mul, ← Nat.pow_add]
  congr 4
  have := h.2.1; omega
theorem DV_of_V {n : Int} {k : Nat} {a : UInt64} (hf : DFin a) (hk : k ≤ 1074) (hn : R53 n) (h : V a = rnd (n * ((2 ^ (1074 - k) : Nat) : Int)) 1) : DV n k a :=
  ⟨hf, hk, by rw [h]; exact rnd_exact (by decide) (by simp) (rep_R hn (by omega))⟩
theorem DV_add {n m : Int} {k : Nat} {a b : UInt64} (ha : DV n k a) (hb : DV m k b) (h : R53 (n + m)) : DV (n + m) k (FP.dadd a b) := by
  have e : V a + V b = (n + m) * ((2 ^ (1074 - k) : Nat) : Int) := by rw [ha.2.2, hb.2.2, Int.add_mul]
  obtain ⟨h1, h2⟩ := V_dadd ha.1 hb.1 (by rw [e]; exact big_R h (by omega))
  exact DV_of_V h1 ha.2.1 h (by rw [h2, e])
theorem DV_sub {n m : Int} {k : Nat} {a b : UInt64} (ha : DV n k a) (hb : DV m k b) (h : R53 (n - m)) : DV (n - m) k (FP.dsub a b) := by
  have e : V a - V b = (n - m) * ((2 ^ (1074 - k) : Nat) : Int) := by rw [ha.2.2, hb.2.2, Int.sub_mul]
  obtain ⟨h1, h2⟩ := V_dsub ha.1 hb.1 (by rw [e]; exact big_R h (by omega))
  exact DV_of_V h1 ha.2.1 h (by rw [h2, e])
theorem DV_mul {n m : Int} {k j : Nat} {a b : UInt64} (ha : DV n k a) (hb : DV m j b) (hkj : k + j ≤ 1074) (h : R53 (n * m)) : DV (n * m) (k + j) (FP.dmul a b) := by
  have e : V a * V b = (n * m) * ((2 ^ (1074 - (k + j)) : Nat) : Int) * (one64 : Int) := by
    rw [ha.2.2, hb.2.2]
    have : ((2 ^ (1074 - (k + j)) : Nat) : Int) * (one64 : Int) = ((2 ^ (1074 - k) : Nat) : Int) * ((2 ^ (1074 - j) : Nat) : Int) := by
      rw [← Int.natCast_mul, ← Int.natCast_mul]
      unfold one64
      rw [← Nat.pow_add, ← Nat.pow_add]
      congr 2
      have := ha.2.1; have := hb.2.1; omega
    rw [Int.mul_assoc (n * m), this]
    ac_rfl
  obtain ⟨h1, h2⟩ := V_dmul ha.1 hb.1 (by
    rw [e, Int.natAbs_mul, Int.natAbs_natCast]
    exact Nat.mul_le_mul_right _ (big_R h (by omega)))
  refine ⟨h1, hkj, ?_⟩
  rw [h2]
  exact rnd_exact one64_pos e (rep_R h (by omega))
theorem divalg {n c m P Q X U I J : Int} (h : n * P = c * m * Q) (e2 : X * Q = U) (e3 : I * J * P = U * U) : n * X * U * (Q * P) = c * I * (m * J) * (Q * P) := by
  have l : n * X * U * (Q * P) = (n * P) * (X * Q) * U := by ac_rfl
  have r : c * I * (m * J) * (Q * P) = c * m * Q * (I * J * P) := by ac_rfl
  rw [l, r, h, e2, e3, Int.mul_assoc (c * m * Q)]
theorem DV_div {n m c : Int} {k j i : Nat} {a b : UInt64} (ha : DV n k a) (hb : DV m j b) (hi : i ≤ 1074) (hm : m ≠ 0) (hc : R53 c) (h : n * ((2 ^ (j + i) : Nat) : Int) = c * m * ((2 ^ k : Nat) : Int)) : DV c i (FP.ddiv a b) := by
  have hb0 : V b ≠ 0 := by
    rw [hb.2.2]
    intro q
    rcases Int.mul_eq_zero.mp q with q | q
    · exact hm q
    · have := Nat.two_pow_pos (1074 - j); omega
  have hk := ha.2.1
  have hj := hb.2.1
  -- V a * U = (c * 2^(1074 - i)) * V b
  have e : V a * (one64 : Int) = c * ((2 ^ (1074 - i) : Nat) : Int) * V b := by
    have pp : ((2 ^ (k + j + i) : Nat) : Int) ≠ 0 := by have := Nat.two_pow_pos (k + j + i); omega
    refine Int.eq_of_mul_eq_mul_right pp ?_
    rw [ha.2.2, hb.2.2]
    have e1 : ((2 ^ (k + j + i) : Nat) : Int) = ((2 ^ k : Nat) : Int) * ((2 ^ (j + i) : Nat) : Int) := by rw [← Int.natCast_mul, ← Nat.pow_add, Nat.add_assoc]
    have e2 : ((2 ^ (1074 - k) : Nat) : Int) * ((2 ^ k : Nat) : Int) = (one64 : Int) := by rw [← Int.natCast_mul, ← Nat.pow_add, Nat.sub_add_cancel hk]; rfl
    have e3 : ((2 ^ (1074 - i) : Nat) : Int) * ((2 ^ (1074 - j) : Nat) : Int) * ((2 ^ (j + i) : Nat) : Int) = (one64 : Int) * (one64 : Int) := by
      rw [← Int.natCast_mul, ← Int.natCast_mul, ← Int.natCast_mul]
      unfold one64
      rw [← Nat.pow_add, ← Nat.pow_add, ← Nat.pow_add]
      congr 2
      omega
    rw [e1]
    exact divalg h e2 e3
  have ea : (V a).natAbs * one64 = (c * ((2 ^ (1074 - i) : Nat) : Int)).natAbs * (V b).natAbs := by
    have := congrArg Int.natAbs e
    rwa [Int.natAbs_mul, Int.natAbs_mul, Int.natAbs_natCast] at this
  obtain ⟨h1, h2⟩ := V_ddiv ha.1 hb.1 hb0 (by rw [ea]; exact Nat.mul_le_mul_right _ (big_R hc (by omega)))
  refine ⟨h1, hi, ?_⟩
  rw [h2]
  refine rnd_exact (by omega) ?_ (rep_R hc (by omega))
  rw [e, Int.mul_assoc, Int.mul_sign_self]
theorem DV_l2d {n : Int64} (h : R53 n.toInt) : DV n.toInt 0 (FP.l2d n) := by
  obtain ⟨h1, h2⟩ := V_l2d n
  exact DV_of_V h1 (by decide) h h2
theorem DV_i2d (n : Int32) : DV n.toInt 0 (FP.i2d n) := by
  obtain ⟨h1, h2⟩ := V_i2d n
  exact DV_of_V h1 (by decide) (r53 (Nat.le_trans (int32_abs n) (by decide))) h2
theorem DV_const {a : UInt64} {n : Int} {k : Nat} (h1 : a.toNat % 2 ^ 63 < 9218868437227405312) (hk : k ≤ 1074) (h2 : V a = n * ((2 ^ (1074 - k) : Nat) : Int)) : DV n k a := ⟨(fin_bits a).mpr h1, hk, h2⟩
theorem DV_0 : DV 0 0 FP.dconst0 := DV_const (by decide) (by decide) (by decide +kernel)
theorem DV_1 : DV 1 0 FP.dconst1 := DV_const (by decide) (by decide) (by decide +kernel)
theorem DV_z : DV 0 0 (0 : UInt64) := DV_const (by decide) (by decide) (by decide +kernel)
theorem cmpv_V {a b : UInt64} (ha : DFin a) (hb : DFin b) (o : ClassFile.CmpOp) : (V a < V b → Op.cmpValue (FP.dcmp a b) o = -1) ∧ (V a = V b → Op.cmpValue (FP.dcmp a b) o = 0) ∧ (V b < V a → Op.cmpValue (FP.dcmp a b) o = 1) := by
  rw [cmp_V ha hb]
  refine ⟨fun h => ?_, fun h => ?_, fun h => ?_⟩
  · rw [(compare_lt_iff _ _).mpr h]; rfl
  · rw [(compare_eq_iff _ _).mpr h]; rfl
  · rw [(compare_gt_iff _ _).mpr h]; rfl
theorem DV_le {n m : Int} {k : Nat} {a b : UInt64} (ha : DV n k a) (hb : DV m k b) : (V a < V b ↔ n < m) ∧ (V a = V b ↔ n = m) := by
  rw [ha.2.2, hb.2.2]
  have hp : (0 : Int) < ((2 ^ (1074 - k) : Nat) : Int) := by have := Nat.two_pow_pos (1074 - k); omega
  exact ⟨Int.mul_lt_mul_right hp, ⟨fun q => Int.eq_of_mul_eq_mul_right (by omega) q, fun q => by rw [q]⟩⟩
theorem DV_cmp {n m : Int} {k : Nat} {a b : UInt64} (ha : DV n k a) (hb : DV m k b) (o : ClassFile.CmpOp) : (n < m → Op.cmpValue (FP.dcmp a b) o = -1) ∧ (n = m → Op.cmpValue (FP.dcmp a b) o = 0) ∧ (m < n → Op.cmpValue (FP.dcmp a b) o = 1) := by
  obtain ⟨h1, h2, h3⟩ := cmpv_V ha.1 hb.1 o
  exact ⟨fun q => h1 ((DV_le ha hb).1.mpr q), fun q => h2 ((DV_le ha hb).2.mpr q), fun q => h3 ((DV_le hb ha).1.mpr q)⟩
theorem DV_eq0 {n : Int} {k : Nat} {a b : UInt64} (ha : DV n k a) (hb : DV n k b) (o : ClassFile.CmpOp) : Op.cmpValue (FP.dcmp a b) o = 0 := (DV_cmp ha hb o).2.1 rfl
theorem DV_d2l {n : Int} {a : UInt64} (h : DV n 0 a) (h1 : -9223372036854775808 ≤ n) (h2 : n < 9223372036854775808) : (FP.d2l a).toInt = n := by
  obtain ⟨hf, -, hv⟩ := h
  have hn : val64 a ≠ .nan := by obtain ⟨s, c, q, e⟩ := hf; rw [e]; exact Datum.noConfusion
  rw [show FP.d2l a = Core.d2l a from rfl, d2l_val hn, zmag_V]
  have hs : signed (sgn (val64 a)) (V a).natAbs = V a := by rw [← zmag_V]; rfl
  have ho : (1074 - 0 : Nat) = 1074 := rfl
  rw [ho, show (2 ^ 1074 : Nat) = one64 from rfl] at hv
  have hm : (V a).natAbs = n.natAbs * one64 := by rw [hv, Int.natAbs_mul, Int.natAbs_natCast]
  have hd : (V a).natAbs / one64 = n.natAbs := by rw [hm, Nat.mul_div_cancel _ one64_pos]
  rw [hd]
  have hsn : signed (sgn (val64 a)) n.natAbs = n := by
    rw [hm, signed_mul, hv] at hs
    exact Int.eq_of_mul_eq_mul_right (by have := one64_pos; omega) hs
  rw [hsn]
  omega
end Jvm.OwnF
namespace Jvm.OwnF
open Jvm.RoadKit
/-! ints and longs as whole numbers -/
theorem mul_bd {a b : Int} {A B : Nat} (ha : a.natAbs ≤ A) (hb : b.natAbs ≤ B) : (a * b).natAbs ≤ A * B := by rw [Int.natAbs_mul]; exact Nat.mul_le_mul ha hb
theorem iadd_v {x y z : Int32} (h : x + y = z) (hb : (x.toInt + y.toInt).natAbs < 2147483648) : z.toInt = x.toInt + y.toInt := by rw [← h, Int32.toInt_add]; exact Int.bmod_eq_of_le (by omega) (by omega)
theorem isub_v {x y z : Int32} (h : x - y = z) (hb : (x.toInt - y.toInt).natAbs < 2147483648) : z.toInt = x.toInt - y.toInt := by rw [← h, Int32.toInt_sub]; exact Int.bmod_eq_of_le (by omega) (by omega)
theorem imul_v {x y z : Int32} (h : x * y = z) (hb : (x.toInt * y.toInt).natAbs < 2147483648) : z.toInt = x.toInt * y.toInt := by rw [← h, Int32.toInt_mul]; exact Int.bmod_eq_of_le (by omega) (by omega)
theorem ladd_v {x y z : Int64} (h : x + y = z) (hb : (x.toInt + y.toInt).natAbs < 9223372036854775808) : z.toInt = x.toInt + y.toInt := by rw [← h, Int64.toInt_add]; exact Int.bmod_eq_of_le (by omega) (by omega)
theorem lsub_v {x y z : Int64} (h : x - y = z) (hb : (x.toInt - y.toInt).natAbs < 9223372036854775808) : z.toInt = x.toInt - y.toInt := by rw [← h, Int64.toInt_sub]; exact Int.bmod_eq_of_le (by omega) (by omega)
theorem lmul_v {x y z : Int64} (h : x * y = z) (hb : (x.toInt * y.toInt).natAbs < 9223372036854775808) : z.toInt = x.toInt * y.toInt := by rw [← h, Int64.toInt_mul]; exact Int.bmod_eq_of_le (by omega) (by omega)
theorem i2l_v {x : Int32} {z : Int64} (h : x.toInt64 = z) : z.toInt = x.toInt := by rw [← h]; exact c_i2l x
theorem l2i_v {x : Int64} {z : Int32} (h : x.toInt32 = z) (hb : -2147483648 ≤ x.toInt ∧ x.toInt < 2147483648) : z.toInt = x.toInt := by
  rw [← h]; have h1 := c_l2i x; have h2 := rng32 x.toInt32; omega
theorem rng32b (x : Int32) : x.toInt.natAbs ≤ 2147483648 := by have := rng32 x; omega
theorem rng64b (x : Int64) : x.toInt.natAbs ≤ 9223372036854775808 := by have := rng64 x; omega
theorem ishr16 {p z : Int32} (h : p >>> ((16 : Int32) &&& 31) = z) : z.toInt = p.toInt / 65536 := by
  rw [← h, c_ishr p 16 16 (by decide)]; rfl
theorem i2s_b {x z : Int32} (h : x.toInt16.toInt32 = z) : -32768 ≤ z.toInt ∧ z.toInt < 32768 := by rw [← h]; exact (c_i2s x).2
/-- x % y, y > 0, x ≥ 0 -/
theorem irem_v {x y z : Int32} (h : x % y = z) (hx : 0 ≤ x.toInt) : z.toInt = x.toInt % y.toInt := by rw [← h, Int32.toInt_mod]; exact Int.tmod_eq_emod_of_nonneg hx
theorem lrem_v {x y z : Int64} (h : x % y = z) (hx : 0 ≤ x.toInt) : z.toInt = x.toInt % y.toInt := by rw [← h, Int64.toInt_mod]; exact Int.tmod_eq_emod_of_nonneg hx
theorem mask31 {x z : Int32} (h : x &&& (2147483647 : Int32) = z) : 0 ≤ z.toInt ∧ z.toInt < 2147483648 := by
  rw [← h, c_mask x 2147483647 31 (by decide) (by decide)]
  have e : ((2 ^ 31 : Nat) : Int) = 2147483648 := by decide
  rw [e]; omega
/-- x << q, q < 64, no overflow -/
theorem lshl_v {x z : Int64} {q : Int32} (h : x <<< (q &&& 0x3f).toInt64 = z) {k : Nat} (hq : q.toInt = (k : Int)) (hk : k < 64) (hb : (x.toInt * ((2 ^ k : Nat) : Int)).natAbs < 9223372036854775808) : z.toInt = x.toInt * ((2 ^ k : Nat) : Int) := by
  have hn : q.toBitVec.toNat % 64 = k := by
    have e : q.toBitVec.toNat = k := by
      have h1 : q.toBitVec.toInt = (k : Int) := hq
      have h2 := BitVec.toInt_eq_toNat_bmod q.toBitVec
      rw [h1] at h2
      have h3 := q.toBitVec.isLt
      have h4 := Int.bmod_emod (x := (q.toBitVec.toNat : Int)) (m := 2 ^ 32)
      omega
    omega
  have := c_lshl x q k hn
  rw [h] at this
  have r := rng64 z
  omega
end Jvm.OwnF
namespace Jvm.OwnF
open Jvm.RoadKit
theorem nat32 {q : Int32} {k : Nat} (hq : q.toInt = (k : Int)) : q.toBitVec.toNat = k := by
  have h1 : q.toBitVec.toInt = (k : Int) := hq
  have h2 := BitVec.toInt_eq_toNat_bmod q.toBitVec
  rw [h1] at h2
  have h3 := q.toBitVec.isLt
  have h5 := rng32 q
  have h4 := Int.bmod_emod (x := (q.toBitVec.toNat : Int)) (m := 2 ^ 32)
  omega
theorem ishl_v {x z q : Int32} (h : x <<< (q &&& 31) = z) {k : Nat} (hq : q.toInt = (k : Int)) (hk : k < 32) (hb : (x.toInt * ((2 ^ k : Nat) : Int)).natAbs < 2147483648) : z.toInt = x.toInt * ((2 ^ k : Nat) : Int) := by
  have hn : q.toBitVec.toNat % 32 = k := by rw [nat32 hq]; omega
  have := c_ishl x q k hn
  rw [h] at this
  have r := rng32 z
  omega
theorem ishl_1 {z q : Int32} (h : (1 : Int32) <<< (q &&& 31) = z) {k : Nat} (hq : q.toInt = (k : Int)) (hk : k < 31) : z.toInt = ((2 ^ k : Nat) : Int) := by
  have p : 2 ^ k ≤ 2 ^ 30 := Nat.pow_le_pow_right (by decide) (by omega)
  have := ishl_v h hq (by omega) (by rw [show (1 : Int32).toInt = 1 by decide, Int.one_mul, Int.natAbs_natCast]; omega)
  rw [show (1 : Int32).toInt = 1 by decide, Int.one_mul] at this
  exact this
end Jvm.OwnF
namespace Jvm.Pilot.@@N@@
open Jvm Jvm.ClassFile Sem Op Lib Jvm.Free Jvm.Stand Jvm.LawKit Jvm.RoadKit Bundle Jvm.Pilot.@@N@@.Jvm.D
open Jvm.OwnF in
theorem cf {x z4 z7 : Int32} (h4 : x &&& (15 : Int32) = z4) (h7 : z4 % (9 : Int32) = z7) : 0 ≤ z7.toInt ∧ z7.toInt ≤ 8 := by
  have a1 : 0 ≤ z4.toInt ∧ z4.toInt < 16 := by
    rw [← h4, Jvm.RoadKit.c_mask x 15 4 (by decide) (by decide)]
    have e : ((2 ^ 4 : Nat) : Int) = 16 := by decide
    rw [e]; omega
  have i7 := irem_v h7 a1.1
  rw [show (9 : Int32).toInt = 9 by decide] at i7
  omega
open Jvm.OwnF in
theorem unit {n : Int} {k : Nat} {d : UInt64} {w v : Int32} (hk : k ≤ 20) (h : DV n k d) (h0 : 0 ≤ n) (h1 : n ≤ ((2 ^ k : Nat) : Int)) (hw : cmpValue (FP.dcmp d FP.dconst0) .l = w) (hv : cmpValue (FP.dcmp d FP.dconst1) .g = v) : ¬ w < 0 ∧ ¬ (0 : Int32) < v := by
  have e0 := DV_0.up k (by omega)
  have e1 := DV_1.up k (by omega)
  rw [Nat.zero_add] at e0 e1
  rw [Int.zero_mul] at e0
  rw [Int.one_mul] at e1
  refine ⟨?_, ?_⟩
  · have q := DV_cmp h e0 .l
    rcases Int.lt_or_eq_of_le h0 with t | t
    · rw [← hw, q.2.2 t]; decide
    · rw [← hw, q.2.1 t.symm]; decide
  · have q := DV_cmp h e1 .g
    rcases Int.lt_or_eq_of_le h1 with t | t
    · rw [← hv, q.1 t]; decide
    · rw [← hv, q.2.1 t]; decide
open Jvm.OwnF in
theorem eighth {n : Int32} {x z : UInt64} (h0 : 0 ≤ n.toInt ∧ n.toInt ≤ 8) (h1 : FP.i2d n = x) (h2 : FP.ddiv x (4620693217682128896 : UInt64) = z) : DV n.toInt 3 z := by
  have dk : DV 8 0 (4620693217682128896 : UInt64) := DV_const (by decide) (by decide) (by decide +kernel)
  have d1 : DV n.toInt 0 x := h1 ▸ DV_i2d n
  exact h2 ▸ DV_div d1 dk (by decide) (by decide) (r53 (by omega)) (by rw [show 0 + 3 = 3 from rfl, show ((2 ^ 3 : Nat) : Int) = 8 by decide]; simp)
open Jvm.OwnF in
/-- the product's confidence; the comparison -/
theorem pl {p q pq : Int32} {a b ab z144 z148 : UInt64} {g : Int32} (hp : 0 ≤ p.toInt ∧ p.toInt ≤ 8) (hq : 0 ≤ q.toInt ∧ q.toInt ≤ 8) (da : DV p.toInt 3 a) (db : DV q.toInt 3 b) (h1 : FP.dmul a b = ab) (h2 : p * q = pq) (h3 : FP.i2d pq = z144) (h4 : FP.ddiv z144 (4634204016564240384 : UInt64) = z148) (hg : cmpValue (FP.dcmp b a) .g = g) :
    Jvm.Free.Fl.NoNaN64 ab ∧ Jvm.Free.Fl.NoNaN64 z148 ∧ (∃ n, DV n 6 ab ∧ 0 ≤ n ∧ n ≤ ((2 ^ 6 : Nat) : Int)) ∧ cmpValue (FP.dcmp ab z148) .l = 0 ∧ (q < p → g < 0) ∧ (¬ q < p → ¬ g < 0) := by
  have m : (p.toInt * q.toInt).natAbs ≤ 8 * 8 := mul_bd (by omega) (by omega)
  have m0 : 0 ≤ p.toInt * q.toInt := Int.mul_nonneg hp.1 hq.1
  have i := imul_v h2 (by omega)
  have dab : DV (p.toInt * q.toInt) 6 ab := h1 ▸ DV_mul da db (by decide) (r53 (by omega))
  have dk : DV 64 0 (4634204016564240384 : UInt64) := DV_const (by decide) (by decide) (by decide +kernel)
  have d3 : DV pq.toInt 0 z144 := h3 ▸ DV_i2d pq
  have d4 : DV pq.toInt 6 z148 := h4 ▸ DV_div d3 dk (by decide) (by decide) (r53 (by omega)) (by rw [show 0 + 6 = 6 from rfl, show ((2 ^ 6 : Nat) : Int) = 64 by decide]; simp)
  have k := DV_cmp db da .g
  refine ⟨dab.nn, d4.nn, ⟨_, dab, m0, by rw [show ((2 ^ 6 : Nat) : Int) = 64 by decide]; omega⟩, DV_eq0 dab (d4.of_eq i) _, fun t => ?_, fun t => ?_⟩
  · rw [Int32.lt_iff_toInt_lt] at t
    rw [← hg, k.1 t]; decide
  · rw [Int32.lt_iff_toInt_lt] at t
    rcases Int.lt_or_eq_of_le (show p.toInt ≤ q.toInt by omega) with u | u
    · rw [← hg, k.2.2 u]; decide
    · rw [← hg, k.2.1 u.symm]; decide
theorem d1_0 : decode method_2_code 0 = .ok (.iload_n 0, 1) := by decide +kernel
theorem d1_1 : decode method_2_code 1 = .ok (.ifCond .ne 7, 3) := by decide +kernel
theorem d1_4 : decode method_2_code 4 = .ok (.getstatic 7, 3) := by decide +kernel
theorem d1_7 : decode method_2_code 7 = .ok (.areturn, 1) := by decide +kernel
theorem d1_8 : decode method_2_code 8 = .ok (.iload_n 0, 1) := by decide +kernel
theorem d1_9 : decode method_2_code 9 = .ok (.iconst 1, 1) := by decide +kernel
theorem d1_10 : decode method_2_code 10 = .ok (.if_icmp .ne 7, 3) := by decide +kernel
theorem d1_13 : decode method_2_code 13 = .ok (.getstatic 13, 3) := by decide +kernel
theorem d1_16 : decode method_2_code 16 = .ok (.areturn, 1) := by decide +kernel
theorem d1_17 : decode method_2_code 17 = .ok (.iload_n 0, 1) := by decide +kernel
theorem d1_18 : decode method_2_code 18 = .ok (.iconst 2, 1) := by decide +kernel
theorem d1_19 : decode method_2_code 19 = .ok (.if_icmp .ne 7, 3) := by decide +kernel
theorem d1_22 : decode method_2_code 22 = .ok (.getstatic 16, 3) := by decide +kernel
theorem d1_25 : decode method_2_code 25 = .ok (.areturn, 1) := by decide +kernel
theorem d1_26 : decode method_2_code 26 = .ok (.getstatic 19, 3) := by decide +kernel
theorem d1_29 : decode method_2_code 29 = .ok (.areturn, 1) := by decide +kernel
theorem pn_0 : plainName "com/example/vetrino/vetrino/PairShiftRemeasuredPinLaw" = true := by first | (simp [plainName, overriddenIn]; done) | decide +kernel
theorem ef_rm1 (m : MethodId) (p0 : Int32) : entryFrame m #[(.int p0)] 1 = mkF m 0 #[.val (.int p0)] [] := by first | (simp [entryFrame, mkF, argsToLocals, Value.category]; done) | rfl
theorem d2_0 : decode prog_8_method_2_code 0 = .ok (.aload_n 0, 1) := by decide +kernel
theorem d2_1 : decode prog_8_method_2_code 1 = .ok (.invokespecial 13, 3) := by decide +kernel
theorem d2_4 : decode prog_8_method_2_code 4 = .ok (.dload 7, 2) := by decide +kernel
theorem d2_6 : decode prog_8_method_2_code 6 = .ok (.dconst 0, 1) := by decide +kernel
theorem d2_7 : decode prog_8_method_2_code 7 = .ok (.dcmp .l, 1) := by decide +kernel
theorem d2_8 : decode prog_8_method_2_code 8 = .ok (.ifCond .lt 10, 3) := by decide +kernel
theorem d2_11 : decode prog_8_method_2_code 11 = .ok (.dload 7, 2) := by decide +kernel
theorem d2_13 : decode prog_8_method_2_code 13 = .ok (.dconst 1, 1) := by decide +kernel
theorem d2_14 : decode prog_8_method_2_code 14 = .ok (.dcmp .g, 1) := by decide +kernel
theorem d2_15 : decode prog_8_method_2_code 15 = .ok (.ifCond .le 18, 3) := by decide +kernel
theorem d2_33 : decode prog_8_method_2_code 33 = .ok (.aload_n 0, 1) := by decide +kernel
theorem d2_34 : decode prog_8_method_2_code 34 = .ok (.iload_n 1, 1) := by decide +kernel
theorem d2_35 : decode prog_8_method_2_code 35 = .ok (.putfield 27, 3) := by decide +kernel
theorem d2_38 : decode prog_8_method_2_code 38 = .ok (.aload_n 0, 1) := by decide +kernel
theorem d2_39 : decode prog_8_method_2_code 39 = .ok (.iload_n 2, 1) := by decide +kernel
theorem d2_40 : decode prog_8_method_2_code 40 = .ok (.putfield 31, 3) := by decide +kernel
theorem d2_43 : decode prog_8_method_2_code 43 = .ok (.aload_n 0, 1) := by decide +kernel
theorem d2_44 : decode prog_8_method_2_code 44 = .ok (.dload_n 3, 1) := by decide +kernel
theorem d2_45 : decode prog_8_method_2_code 45 = .ok (.putfield 34, 3) := by decide +kernel
theorem d2_48 : decode prog_8_method_2_code 48 = .ok (.aload_n 0, 1) := by decide +kernel
theorem d2_49 : decode prog_8_method_2_code 49 = .ok (.dload 5, 2) := by decide +kernel
theorem d2_51 : decode prog_8_method_2_code 51 = .ok (.putfield 38, 3) := by decide +kernel
theorem d2_54 : decode prog_8_method_2_code 54 = .ok (.aload_n 0, 1) := by decide +kernel
theorem d2_55 : decode prog_8_method_2_code 55 = .ok (.dload 7, 2) := by decide +kernel
theorem d2_57 : decode prog_8_method_2_code 57 = .ok (.putfield 41, 3) := by decide +kernel
theorem d2_60 : decode prog_8_method_2_code 60 = .ok (.aload_n 0, 1) := by decide +kernel
theorem d2_61 : decode prog_8_method_2_code 61 = .ok (.iload 9, 2) := by decide +kernel
theorem d2_63 : decode prog_8_method_2_code 63 = .ok (.putfield 44, 3) := by decide +kernel
theorem d2_66 : decode prog_8_method_2_code 66 = .ok (.aload_n 0, 1) := by decide +kernel
theorem d2_67 : decode prog_8_method_2_code 67 = .ok (.aload 10, 2) := by decide +kernel
theorem d2_69 : decode prog_8_method_2_code 69 = .ok (.putfield 48, 3) := by decide +kernel
theorem d2_72 : decode prog_8_method_2_code 72 = .ok (.return_, 1) := by decide +kernel
theorem pn_1 : plainName "com/example/vetrino/vetrino/PairShift" = true := by first | (simp [plainName, overriddenIn]; done) | decide +kernel
theorem ef_rm2 (m : MethodId) (o0 : Addr) (p1 : Int32) (p2 : Int32) (d3 : UInt64) (d4 : UInt64) (d5 : UInt64) (p6 : Int32) (o7 : Addr) : entryFrame m #[(.ref o0), (.int p1), (.int p2), (.double d3), (.double d4), (.double d5), (.int p6), (.ref o7)] 11 = mkF m 0 #[.val (.ref o0), .val (.int p1), .val (.int p2), .val (.double d3), .second, .val (.double d4), .second, .val (.double d5), .second, .val (.int p6), .val (.ref o7)] [] := by first | (simp [entryFrame, mkF, argsToLocals, Value.category]; done) | rfl
theorem d4_0 : decode prog_8_method_10_code 0 = .ok (.new 8, 3) := by decide +kernel
theorem d4_3 : decode prog_8_method_10_code 3 = .ok (.dup, 1) := by decide +kernel
theorem d4_4 : decode prog_8_method_10_code 4 = .ok (.aload_n 0, 1) := by decide +kernel
theorem d4_5 : decode prog_8_method_10_code 5 = .ok (.getfield 27, 3) := by decide +kernel
theorem d4_8 : decode prog_8_method_10_code 8 = .ok (.aload_n 0, 1) := by decide +kernel
theorem d4_9 : decode prog_8_method_10_code 9 = .ok (.getfield 31, 3) := by decide +kernel
theorem d4_12 : decode prog_8_method_10_code 12 = .ok (.dload_n 1, 1) := by decide +kernel
theorem d4_13 : decode prog_8_method_10_code 13 = .ok (.dload_n 3, 1) := by decide +kernel
theorem d4_14 : decode prog_8_method_10_code 14 = .ok (.aload_n 0, 1) := by decide +kernel
theorem d4_15 : decode prog_8_method_10_code 15 = .ok (.getfield 41, 3) := by decide +kernel
theorem d4_18 : decode prog_8_method_10_code 18 = .ok (.dload 5, 2) := by decide +kernel
theorem d4_20 : decode prog_8_method_10_code 20 = .ok (.dmul, 1) := by decide +kernel
theorem d4_21 : decode prog_8_method_10_code 21 = .ok (.aload_n 0, 1) := by decide +kernel
theorem d4_22 : decode prog_8_method_10_code 22 = .ok (.getfield 44, 3) := by decide +kernel
theorem d4_25 : decode prog_8_method_10_code 25 = .ok (.dload 5, 2) := by decide +kernel
theorem d4_27 : decode prog_8_method_10_code 27 = .ok (.aload_n 0, 1) := by decide +kernel
theorem d4_28 : decode prog_8_method_10_code 28 = .ok (.getfield 41, 3) := by decide +kernel
theorem d4_31 : decode prog_8_method_10_code 31 = .ok (.dcmp .g, 1) := by decide +kernel
theorem d4_32 : decode prog_8_method_10_code 32 = .ok (.ifCond .ge 8, 3) := by decide +kernel
theorem d4_35 : decode prog_8_method_10_code 35 = .ok (.aload 7, 2) := by decide +kernel
theorem d4_37 : decode prog_8_method_10_code 37 = .ok (.goto 7, 3) := by decide +kernel
theorem d4_44 : decode prog_8_method_10_code 44 = .ok (.invokespecial 7, 3) := by decide +kernel
theorem pd_0 : parseMethodDescriptor "(IIDDDZLcom/example/vetrino/vetrino/PairShift$Doubt;)V" = some ⟨[.int, .int, .double, .double, .double, .boolean, (.object "com/example/vetrino/vetrino/PairShift$Doubt")], none⟩ := by decide +kernel
theorem d4_47 : decode prog_8_method_10_code 47 = .ok (.areturn, 1) := by decide +kernel
theorem ef_rm4_f (m : MethodId) (o0 : Addr) (d1 : UInt64) (d2 : UInt64) (d3 : UInt64) (o4 : Addr) : entryFrame m #[(.ref o0), (.double d1), (.double d2), (.double d3), (.ref o4)] 8 = mkF m 0 #[.val (.ref o0), .val (.double d1), .second, .val (.double d2), .second, .val (.double d3), .second, .val (.ref o4)] [] := by first | (simp [entryFrame, mkF, argsToLocals, Value.category]; done) | rfl
theorem d4_40 : decode prog_8_method_10_code 40 = .ok (.aload_n 0, 1) := by decide +kernel
theorem d4_41 : decode prog_8_method_10_code 41 = .ok (.getfield 48, 3) := by decide +kernel
theorem ef_rm4_t (m : MethodId) (o0 : Addr) (d1 : UInt64) (d2 : UInt64) (d3 : UInt64) (o4 : Addr) : entryFrame m #[(.ref o0), (.double d1), (.double d2), (.double d3), (.ref o4)] 8 = mkF m 0 #[.val (.ref o0), .val (.double d1), .second, .val (.double d2), .second, .val (.double d3), .second, .val (.ref o4)] [] := by first | (simp [entryFrame, mkF, argsToLocals, Value.category]; done) | rfl
theorem d5_0 : decode prog_8_method_3_code 0 = .ok (.aload_n 0, 1) := by decide +kernel
theorem d5_1 : decode prog_8_method_3_code 1 = .ok (.getfield 27, 3) := by decide +kernel
theorem d5_4 : decode prog_8_method_3_code 4 = .ok (.ireturn, 1) := by decide +kernel
theorem ef_rm5 (m : MethodId) (o0 : Addr) : entryFrame m #[(.ref o0)] 1 = mkF m 0 #[.val (.ref o0)] [] := by first | (simp [entryFrame, mkF, argsToLocals, Value.category]; done) | rfl
theorem d6_0 : decode prog_8_method_4_code 0 = .ok (.aload_n 0, 1) := by decide +kernel
theorem d6_1 : decode prog_8_method_4_code 1 = .ok (.getfield 31, 3) := by decide +kernel
theorem d6_4 : decode prog_8_method_4_code 4 = .ok (.ireturn, 1) := by decide +kernel
theorem ef_rm6 (m : MethodId) (o0 : Addr) : entryFrame m #[(.ref o0)] 1 = mkF m 0 #[.val (.ref o0)] [] := by first | (simp [entryFrame, mkF, argsToLocals, Value.category]; done) | rfl
theorem d7_0 : decode prog_8_method_5_code 0 = .ok (.aload_n 0, 1) := by decide +kernel
theorem d7_1 : decode prog_8_method_5_code 1 = .ok (.getfield 34, 3) := by decide +kernel
theorem d7_4 : decode prog_8_method_5_code 4 = .ok (.dreturn, 1) := by decide +kernel
theorem ef_rm7 (m : MethodId) (o0 : Addr) : entryFrame m #[(.ref o0)] 1 = mkF m 0 #[.val (.ref o0)] [] := by first | (simp [entryFrame, mkF, argsToLocals, Value.category]; done) | rfl
theorem d8_0 : decode prog_8_method_6_code 0 = .ok (.aload_n 0, 1) := by decide +kernel
theorem d8_1 : decode prog_8_method_6_code 1 = .ok (.getfield 38, 3) := by decide +kernel
theorem d8_4 : decode prog_8_method_6_code 4 = .ok (.dreturn, 1) := by decide +kernel
theorem ef_rm8 (m : MethodId) (o0 : Addr) : entryFrame m #[(.ref o0)] 1 = mkF m 0 #[.val (.ref o0)] [] := by first | (simp [entryFrame, mkF, argsToLocals, Value.category]; done) | rfl
theorem d9_0 : decode prog_8_method_7_code 0 = .ok (.aload_n 0, 1) := by decide +kernel
theorem d9_1 : decode prog_8_method_7_code 1 = .ok (.getfield 41, 3) := by decide +kernel
theorem d9_4 : decode prog_8_method_7_code 4 = .ok (.dreturn, 1) := by decide +kernel
theorem ef_rm9 (m : MethodId) (o0 : Addr) : entryFrame m #[(.ref o0)] 1 = mkF m 0 #[.val (.ref o0)] [] := by first | (simp [entryFrame, mkF, argsToLocals, Value.category]; done) | rfl
theorem d10_0 : decode prog_8_method_8_code 0 = .ok (.aload_n 0, 1) := by decide +kernel
theorem d10_1 : decode prog_8_method_8_code 1 = .ok (.getfield 44, 3) := by decide +kernel
theorem d10_4 : decode prog_8_method_8_code 4 = .ok (.ireturn, 1) := by decide +kernel
theorem ef_rm10 (m : MethodId) (o0 : Addr) : entryFrame m #[(.ref o0)] 1 = mkF m 0 #[.val (.ref o0)] [] := by first | (simp [entryFrame, mkF, argsToLocals, Value.category]; done) | rfl
theorem d11_0 : decode prog_8_method_9_code 0 = .ok (.aload_n 0, 1) := by decide +kernel
theorem d11_1 : decode prog_8_method_9_code 1 = .ok (.getfield 48, 3) := by decide +kernel
theorem d11_4 : decode prog_8_method_9_code 4 = .ok (.areturn, 1) := by decide +kernel
theorem ef_rm11 (m : MethodId) (o0 : Addr) : entryFrame m #[(.ref o0)] 1 = mkF m 0 #[.val (.ref o0)] [] := by first | (simp [entryFrame, mkF, argsToLocals, Value.category]; done) | rfl
theorem pd_1 : parseMethodDescriptor "(I)Lcom/example/vetrino/vetrino/PairShift$Doubt;" = some ⟨[.int], some (.object "com/example/vetrino/vetrino/PairShift$Doubt")⟩ := by decide +kernel
theorem pd_2 : parseMethodDescriptor "(DDDLcom/example/vetrino/vetrino/PairShift$Doubt;)Lcom/example/vetrino/vetrino/PairShift;" = some ⟨[.double, .double, .double, (.object "com/example/vetrino/vetrino/PairShift$Doubt")], some (.object "com/example/vetrino/vetrino/PairShift")⟩ := by decide +kernel
theorem pd_3 : parseMethodDescriptor "()I" = some ⟨[], some .int⟩ := by decide +kernel
theorem pd_4 : parseMethodDescriptor "()D" = some ⟨[], some .double⟩ := by decide +kernel
theorem pd_5 : parseMethodDescriptor "()Z" = some ⟨[], some .boolean⟩ := by decide +kernel
theorem pd_6 : parseMethodDescriptor "()Lcom/example/vetrino/vetrino/PairShift$Doubt;" = some ⟨[], some (.object "com/example/vetrino/vetrino/PairShift$Doubt")⟩ := by decide +kernel
theorem ef_rm0 (m : MethodId) (p0 : Int32) (p1 : Int32) (p2 : Int32) (p3 : Int32) (p4 : Int32) (p5 : Int32) : entryFrame m #[(.int p0), (.int p1), (.int p2), (.int p3), (.int p4), (.int p5)] maxLocals = mkF m 0 #[.val (.int p0), .val (.int p1), .val (.int p2), .val (.int p3), .val (.int p4), .val (.int p5), .unset, .unset, .unset, .unset, .unset, .unset, .unset, .unset, .unset, .unset, .unset, .unset, .unset, .unset, .unset, .unset, .unset, .unset, .unset, .unset, .unset, .unset] [] := by first | (simp [entryFrame, mkF, argsToLocals, Value.category, maxLocals]; done) | rfl
def Q1 (Z : State) (p0 : Int32) (w_RIVALS : Addr) (w_PAST_SEARCH : Addr) (w_LOOSE : Addr) (w_THIN : Addr) (rv : Addr) (h0 : Heap) (n0 : Nat) (v : Option Value) (h : Heap) (L : List Loc) : Prop := v = some (.ref rv) ∧ Fr n0 L ∧ h = h0
set_option maxRecDepth 65536 in
set_option maxHeartbeats 40000000 in
theorem rm1 (l : Launch) (Z : State) (a0 : Array Value) (hw : ∀ d ∈ tables_1, d.before a0 Z = true) (ws : List Jvm.Cond) (p0 : Int32) (w_RIVALS : Addr) (w_PAST_SEARCH : Addr) (w_LOOSE : Addr) (w_THIN : Addr) (rv : Addr) (h0 : Heap) (n0 : Nat) (Z0 : n0 ≤ h0.size) (S_RIVALS : Sta Z h0 "com/example/vetrino/vetrino/PairShift$Doubt" "RIVALS" "Lcom/example/vetrino/vetrino/PairShift$Doubt;" (.ref w_RIVALS)) (S_PAST_SEARCH : Sta Z h0 "com/example/vetrino/vetrino/PairShift$Doubt" "PAST_SEARCH" "Lcom/example/vetrino/vetrino/PairShift$Doubt;" (.ref w_PAST_SEARCH)) (S_LOOSE : Sta Z h0 "com/example/vetrino/vetrino/PairShift$Doubt" "LOOSE" "Lcom/example/vetrino/vetrino/PairShift$Doubt;" (.ref w_LOOSE)) (S_THIN : Sta Z h0 "com/example/vetrino/vetrino/PairShift$Doubt" "THIN" "Lcom/example/vetrino/vetrino/PairShift$Doubt;" (.ref w_THIN)) (hrv : (if p0 = (0 : Int32) then w_RIVALS else (if p0 = (1 : Int32) then w_PAST_SEARCH else (if p0 = (2 : Int32) then w_LOOSE else w_THIN))) = rv) :
    MetFree l (⟨"com/example/vetrino/vetrino/PairShiftRemeasuredPinLaw", "pick", "(I)Lcom/example/vetrino/vetrino/PairShift$Doubt;"⟩ : MethodName) (head1 (Jvm.Cond.code (⟨"com/example/vetrino/vetrino/PairShiftRemeasuredPinLaw", "pick", "(I)Lcom/example/vetrino/vetrino/PairShift$Doubt;"⟩ : MethodName) method_2_code 1 (some (.object "com/example/vetrino/vetrino/PairShift$Doubt")) :: ws) ({ frames := 0, cells := 0, slots := 0, locals := 0 } : Room)) (fun a U => a = #[(.int p0)] ∧ Z.Warmed39 U.vm ∧ U.heap = h0) (fun _ _ _ _ _ => True) (fun _ U o U' => ∃ v L, o = .returned v ∧ Q1 Z p0 w_RIVALS w_PAST_SEARCH w_LOOSE w_THIN rv h0 n0 v U'.heap L ∧ FrameEnd U o U' L ({ frames := 0, cells := 0, slots := 0, locals := 0 } : Room).cells ({ frames := 0, cells := 0, slots := 0, locals := 0 } : Room).slots) := by
  refine MetFree.of_bodySF (plainFor_of_name pn_0) hisR ?_
  intro p e s m args below meth c s₁ Bd hml0 hP hK
  obtain ⟨rfl, hZ, hh⟩ := hP
  have hx := Bd.exec
  have hby := Bd.bytes
  have hml : c.maxLocals = 1 := hml0
  have hown : s.vm.findClass "com/example/vetrino/vetrino/PairShiftRemeasuredPinLaw" = some m.cls := findClass_of_methodNamed Bd.named
  have hnm := (name_of_methodNamed Bd.named Bd.method).1
  have X0 : Stand p l e ({ frames := 0, cells := 0, slots := 0, locals := 0 } : Room) s m #[(.int p0)] below meth c s₁ [] 0 0 := Stand.of_body Bd
  have e0 : s₁.heap = h0 := by rw [← hh, Bd.state]; rfl
  have N0 := Fr.nil n0
  have c0 : ∀ t, Steps p.tables e below (s₁.setTop (mkF m 0 #[.val (.int p0)] [])) t → Steps p.tables e below (s₁.setTop (entryFrame m #[(.int p0)] 1)) t := fun t k => castTop (ef_rm1 m p0) k
  have c1 : ∀ t, Steps p.tables e below (s₁.setTop (mkF m 1 #[.val (.int p0)] [(.int p0)])) t → Steps p.tables e below (s₁.setTop (entryFrame m #[(.int p0)] 1)) t := by
    intro t k
    refine c0 t ?_
    show Steps p.tables e below (s₁.setTop (mkF m 0 #[.val (.int p0)] [])) _
    refine XS.iloadN X0.here hx rfl (hb hby d1_0) rfl ?_
    exact k
  by_cases hb1 : p0 = (0 : Int32)
  · skip
    obtain ⟨T2, X2, e2, st2⟩ := getS2 X0 hx hZ hown (host := "") (Or.inl (hw _ (List.mem_of_getElem? (i := 4) rfl))) Via.refl e0 S_RIVALS (g := (mkF m 4 #[.val (.int p0)] [])) rfl (hb hby d1_4)
    have c3 : ∀ t, Steps p.tables e below (T2.setTop (mkF m 7 #[.val (.int p0)] [(.ref w_RIVALS)])) t → Steps p.tables e below (s₁.setTop (entryFrame m #[(.int p0)] 1)) t := by
      intro t k
      refine c1 t ?_
      show Steps p.tables e below (s₁.setTop (mkF m 1 #[.val (.int p0)] [(.int p0)])) _
      refine XS.ifNo X0.here hx rfl (hb hby d1_1) rfl (Jvm.Free.XT.i0_ne_f hb1) ?_
      show Steps p.tables e below (s₁.setTop (mkF m 4 #[.val (.int p0)] [])) _
      refine st2 _ ?_
      exact k
    obtain ⟨fs, hr, hrun, hended, hW, hsame⟩ := X2.leave (v := some (.ref w_RIVALS)) (fun h => by rw [Bd.returns] at h; cases h)
    refine ⟨_, _, c3 _ ?_, hrun, hended, _, _, rfl, ?_, ⟨_, rfl⟩, hW, hsame.mono (by decide) (by decide)⟩
    · show Steps p.tables e below (T2.setTop (mkF m 7 #[.val (.int p0)] [(.ref w_RIVALS)])) _
      exact retOut X2 hx Bd.returns rfl (Or.inr (Or.inr (Or.inr (Or.inr ⟨rfl, rfl, rfl⟩)))) (hb hby d1_7) hr
    · show Q1 Z p0 w_RIVALS w_PAST_SEARCH w_LOOSE w_THIN rv h0 n0 _ T2.heap _
      rw [e2]
      exact ⟨(congrArg (fun z => some (Value.ref z)) (show w_RIVALS = rv by rw [← hrv]; simp only [if_pos hb1])), by first | assumption | exact N0, rfl⟩
  · skip
    have c4 : ∀ t, Steps p.tables e below (s₁.setTop (mkF m 10 #[.val (.int p0)] [(.int (1 : Int32)), (.int p0)])) t → Steps p.tables e below (s₁.setTop (entryFrame m #[(.int p0)] 1)) t := by
      intro t k
      refine c1 t ?_
      show Steps p.tables e below (s₁.setTop (mkF m 1 #[.val (.int p0)] [(.int p0)])) _
      refine XS.ifYes X0.here hx rfl (pc0 := 1) (pc' := 8) rfl (hb hby d1_1) rfl (Jvm.Free.XT.i0_ne_t hb1) (by decide) (by decide) ?_
      show Steps p.tables e below (s₁.setTop (mkF m 8 #[.val (.int p0)] [])) _
      refine XS.iloadN X0.here hx rfl (hb hby d1_8) rfl ?_
      show Steps p.tables e below (s₁.setTop (mkF m 9 #[.val (.int p0)] [(.int p0)])) _
      refine XS.iconst X0.here hx rfl (hb hby d1_9) ?_
      exact k
    by_cases hb10 : p0 = (1 : Int32)
    · skip
      obtain ⟨T5, X5, e5, st5⟩ := getS2 X0 hx hZ hown (host := "") (Or.inl (hw _ (List.mem_of_getElem? (i := 76) rfl))) Via.refl e0 S_PAST_SEARCH (g := (mkF m 13 #[.val (.int p0)] [])) rfl (hb hby d1_13)
      have c6 : ∀ t, Steps p.tables e below (T5.setTop (mkF m 16 #[.val (.int p0)] [(.ref w_PAST_SEARCH)])) t → Steps p.tables e below (s₁.setTop (entryFrame m #[(.int p0)] 1)) t := by
        intro t k
        refine c4 t ?_
        show Steps p.tables e below (s₁.setTop (mkF m 10 #[.val (.int p0)] [(.int (1 : Int32)), (.int p0)])) _
        refine XS.icmpNo X0.here hx rfl (hb hby d1_10) rfl (Jvm.Free.XT.ii_ne_f hb10) ?_
        show Steps p.tables e below (s₁.setTop (mkF m 13 #[.val (.int p0)] [])) _
        refine st5 _ ?_
        exact k
      obtain ⟨fs, hr, hrun, hended, hW, hsame⟩ := X5.leave (v := some (.ref w_PAST_SEARCH)) (fun h => by rw [Bd.returns] at h; cases h)
      refine ⟨_, _, c6 _ ?_, hrun, hended, _, _, rfl, ?_, ⟨_, rfl⟩, hW, hsame.mono (by decide) (by decide)⟩
      · show Steps p.tables e below (T5.setTop (mkF m 16 #[.val (.int p0)] [(.ref w_PAST_SEARCH)])) _
        exact retOut X5 hx Bd.returns rfl (Or.inr (Or.inr (Or.inr (Or.inr ⟨rfl, rfl, rfl⟩)))) (hb hby d1_16) hr
      · show Q1 Z p0 w_RIVALS w_PAST_SEARCH w_LOOSE w_THIN rv h0 n0 _ T5.heap _
        rw [e5]
        exact ⟨(congrArg (fun z => some (Value.ref z)) (show w_PAST_SEARCH = rv by rw [← hrv]; simp only [if_neg hb1, if_pos hb10])), by first | assumption | exact N0, rfl⟩
    · skip
      have c7 : ∀ t, Steps p.tables e below (s₁.setTop (mkF m 19 #[.val (.int p0)] [(.int (2 : Int32)), (.int p0)])) t → Steps p.tables e below (s₁.setTop (entryFrame m #[(.int p0)] 1)) t := by
        intro t k
        refine c4 t ?_
        show Steps p.tables e below (s₁.setTop (mkF m 10 #[.val (.int p0)] [(.int (1 : Int32)), (.int p0)])) _
        refine XS.icmpYes X0.here hx rfl (pc0 := 10) (pc' := 17) rfl (hb hby d1_10) rfl (Jvm.Free.XT.ii_ne_t hb10) (by decide) (by decide) ?_
        show Steps p.tables e below (s₁.setTop (mkF m 17 #[.val (.int p0)] [])) _
        refine XS.iloadN X0.here hx rfl (hb hby d1_17) rfl ?_
        show Steps p.tables e below (s₁.setTop (mkF m 18 #[.val (.int p0)] [(.int p0)])) _
        refine XS.iconst X0.here hx rfl (hb hby d1_18) ?_
        exact k
      by_cases hb19 : p0 = (2 : Int32)
      · skip
        obtain ⟨T8, X8, e8, st8⟩ := getS2 X0 hx hZ hown (host := "") (Or.inl (hw _ (List.mem_of_getElem? (i := 78) rfl))) Via.refl e0 S_LOOSE (g := (mkF m 22 #[.val (.int p0)] [])) rfl (hb hby d1_22)
        have c9 : ∀ t, Steps p.tables e below (T8.setTop (mkF m 25 #[.val (.int p0)] [(.ref w_LOOSE)])) t → Steps p.tables e below (s₁.setTop (entryFrame m #[(.int p0)] 1)) t := by
          intro t k
          refine c7 t ?_
          show Steps p.tables e below (s₁.setTop (mkF m 19 #[.val (.int p0)] [(.int (2 : Int32)), (.int p0)])) _
          refine XS.icmpNo X0.here hx rfl (hb hby d1_19) rfl (Jvm.Free.XT.ii_ne_f hb19) ?_
          show Steps p.tables e below (s₁.setTop (mkF m 22 #[.val (.int p0)] [])) _
          refine st8 _ ?_
          exact k
        obtain ⟨fs, hr, hrun, hended, hW, hsame⟩ := X8.leave (v := some (.ref w_LOOSE)) (fun h => by rw [Bd.returns] at h; cases h)
        refine ⟨_, _, c9 _ ?_, hrun, hended, _, _, rfl, ?_, ⟨_, rfl⟩, hW, hsame.mono (by decide) (by decide)⟩
        · show Steps p.tables e below (T8.setTop (mkF m 25 #[.val (.int p0)] [(.ref w_LOOSE)])) _
          exact retOut X8 hx Bd.returns rfl (Or.inr (Or.inr (Or.inr (Or.inr ⟨rfl, rfl, rfl⟩)))) (hb hby d1_25) hr
        · show Q1 Z p0 w_RIVALS w_PAST_SEARCH w_LOOSE w_THIN rv h0 n0 _ T8.heap _
          rw [e8]
          exact ⟨(congrArg (fun z => some (Value.ref z)) (show w_LOOSE = rv by rw [← hrv]; simp only [if_neg hb1, if_neg hb10, if_pos hb19])), by first | assumption | exact N0, rfl⟩
      · skip
        obtain ⟨T10, X10, e10, st10⟩ := getS2 X0 hx hZ hown (host := "") (Or.inl (hw _ (List.mem_of_getElem? (i := 74) rfl))) Via.refl e0 S_THIN (g := (mkF m 26 #[.val (.int p0)] [])) rfl (hb hby d1_26)
        have c11 : ∀ t, Steps p.tables e below (T10.setTop (mkF m 29 #[.val (.int p0)] [(.ref w_THIN)])) t → Steps p.tables e below (s₁.setTop (entryFrame m #[(.int p0)] 1)) t := by
          intro t k
          refine c7 t ?_
          show Steps p.tables e below (s₁.setTop (mkF m 19 #[.val (.int p0)] [(.int (2 : Int32)), (.int p0)])) _
          refine XS.icmpYes X0.here hx rfl (pc0 := 19) (pc' := 26) rfl (hb hby d1_19) rfl (Jvm.Free.XT.ii_ne_t hb19) (by decide) (by decide) ?_
          show Steps p.tables e below (s₁.setTop (mkF m 26 #[.val (.int p0)] [])) _
          refine st10 _ ?_
          exact k
        obtain ⟨fs, hr, hrun, hended, hW, hsame⟩ := X10.leave (v := some (.ref w_THIN)) (fun h => by rw [Bd.returns] at h; cases h)
        refine ⟨_, _, c11 _ ?_, hrun, hended, _, _, rfl, ?_, ⟨_, rfl⟩, hW, hsame.mono (by decide) (by decide)⟩
        · show Steps p.tables e below (T10.setTop (mkF m 29 #[.val (.int p0)] [(.ref w_THIN)])) _
          exact retOut X10 hx Bd.returns rfl (Or.inr (Or.inr (Or.inr (Or.inr ⟨rfl, rfl, rfl⟩)))) (hb hby d1_29) hr
        · show Q1 Z p0 w_RIVALS w_PAST_SEARCH w_LOOSE w_THIN rv h0 n0 _ T10.heap _
          rw [e10]
          exact ⟨(congrArg (fun z => some (Value.ref z)) (show w_THIN = rv by rw [← hrv]; simp only [if_neg hb1, if_neg hb10, if_neg hb19])), by first | assumption | exact N0, rfl⟩
def Q2 (Z : State) (o0 : Addr) (p1 : Int32) (p2 : Int32) (d3 : UInt64) (d4 : UInt64) (d5 : UInt64) (p6 : Int32) (o7 : Addr) (u_first_o0 : Value) (u_second_o0 : Value) (u_dx_o0 : Value) (u_dy_o0 : Value) (u_confidence_o0 : Value) (u_used_o0 : Value) (u_doubt_o0 : Value) (z7 : Int32) (z14 : Int32) (h0 : Heap) (n0 : Nat) (v : Option Value) (h : Heap) (L : List Loc) : Prop := v = none ∧ Fr n0 L ∧ Keep h0 h [o0] ∧ Exa Z h o0 "com/example/vetrino/vetrino/PairShift" ∧ Fld Z h o0 "com/example/vetrino/vetrino/PairShift" "first" "I" (.int p1) ∧ Fld Z h o0 "com/example/vetrino/vetrino/PairShift" "second" "I" (.int p2) ∧ Fld Z h o0 "com/example/vetrino/vetrino/PairShift" "dx" "D" (.double d3) ∧ Fld Z h o0 "com/example/vetrino/vetrino/PairShift" "dy" "D" (.double d4) ∧ Fld Z h o0 "com/example/vetrino/vetrino/PairShift" "confidence" "D" (.double d5) ∧ Fld Z h o0 "com/example/vetrino/vetrino/PairShift" "used" "Z" (.int p6) ∧ Fld Z h o0 "com/example/vetrino/vetrino/PairShift" "doubt" "Lcom/example/vetrino/vetrino/PairShift$Doubt;" (.ref o7)
set_option maxRecDepth 65536 in
set_option maxHeartbeats 40000000 in
theorem rm2 (l : Launch) (Z : State) (a0 : Array Value) (hw : ∀ d ∈ tables_1, d.before a0 Z = true) (ws : List Jvm.Cond) (o0 : Addr) (p1 : Int32) (p2 : Int32) (d3 : UInt64) (d4 : UInt64) (d5 : UInt64) (p6 : Int32) (o7 : Addr) (u_first_o0 : Value) (u_second_o0 : Value) (u_dx_o0 : Value) (u_dy_o0 : Value) (u_confidence_o0 : Value) (u_used_o0 : Value) (u_doubt_o0 : Value) (z7 : Int32) (z14 : Int32) (h0 : Heap) (n0 : Nat) (Z0 : n0 ≤ h0.size) (E_o0 : Exa Z h0 o0 "com/example/vetrino/vetrino/PairShift") (F_first_o0 : Fld Z h0 o0 "com/example/vetrino/vetrino/PairShift" "first" "I" u_first_o0) (g_o0 : n0 ≤ o0) (F_second_o0 : Fld Z h0 o0 "com/example/vetrino/vetrino/PairShift" "second" "I" u_second_o0) (F_dx_o0 : Fld Z h0 o0 "com/example/vetrino/vetrino/PairShift" "dx" "D" u_dx_o0) (F_dy_o0 : Fld Z h0 o0 "com/example/vetrino/vetrino/PairShift" "dy" "D" u_dy_o0) (F_confidence_o0 : Fld Z h0 o0 "com/example/vetrino/vetrino/PairShift" "confidence" "D" u_confidence_o0) (F_used_o0 : Fld Z h0 o0 "com/example/vetrino/vetrino/PairShift" "used" "Z" u_used_o0) (F_doubt_o0 : Fld Z h0 o0 "com/example/vetrino/vetrino/PairShift" "doubt" "Lcom/example/vetrino/vetrino/PairShift$Doubt;" u_doubt_o0) (hz7 : cmpValue (FP.dcmp d5 FP.dconst0) .l = z7) (hz14 : cmpValue (FP.dcmp d5 FP.dconst1) .g = z14) (br8 : ¬ z7 < (0 : Int32)) (br15 : ¬ (0 : Int32) < z14) (na63 : narrow .boolean (.int p6) = (.int p6)) (fi63 : fits .boolean (.int p6) = true) :
    MetFree l (⟨"com/example/vetrino/vetrino/PairShift", "<init>", "(IIDDDZLcom/example/vetrino/vetrino/PairShift$Doubt;)V"⟩ : MethodName) (head1 (Jvm.Cond.code (⟨"com/example/vetrino/vetrino/PairShift", "<init>", "(IIDDDZLcom/example/vetrino/vetrino/PairShift$Doubt;)V"⟩ : MethodName) prog_8_method_2_code 11 none :: ws) ({ frames := 1, cells := 0, slots := 0, locals := 12 } : Room)) (fun a U => a = #[(.ref o0), (.int p1), (.int p2), (.double d3), (.double d4), (.double d5), (.int p6), (.ref o7)] ∧ Z.Warmed39 U.vm ∧ U.heap = h0) (fun _ _ _ _ _ => True) (fun _ U o U' => ∃ v L, o = .returned v ∧ Q2 Z o0 p1 p2 d3 d4 d5 p6 o7 u_first_o0 u_second_o0 u_dx_o0 u_dy_o0 u_confidence_o0 u_used_o0 u_doubt_o0 z7 z14 h0 n0 v U'.heap L ∧ FrameEnd U o U' L ({ frames := 1, cells := 0, slots := 0, locals := 12 } : Room).cells ({ frames := 1, cells := 0, slots := 0, locals := 12 } : Room).slots) := by
  refine MetFree.of_bodySF (plainFor_of_name pn_1) hisR ?_
  intro p e s m args below meth c s₁ Bd hml0 hP hK
  obtain ⟨rfl, hZ, hh⟩ := hP
  have hx := Bd.exec
  have hby := Bd.bytes
  have hml : c.maxLocals = 11 := hml0
  have hown : s.vm.findClass "com/example/vetrino/vetrino/PairShift" = some m.cls := findClass_of_methodNamed Bd.named
  have hnm := (name_of_methodNamed Bd.named Bd.method).1
  have X0 : Stand p l e ({ frames := 1, cells := 0, slots := 0, locals := 12 } : Room) s m #[(.ref o0), (.int p1), (.int p2), (.double d3), (.double d4), (.double d5), (.int p6), (.ref o7)] below meth c s₁ [] 0 0 := Stand.of_body Bd
  have e0 : s₁.heap = h0 := by rw [← hh, Bd.state]; rfl
  have N0 := Fr.nil n0
  have c0 : ∀ t, Steps p.tables e below (s₁.setTop (mkF m 0 #[.val (.ref o0), .val (.int p1), .val (.int p2), .val (.double d3), .second, .val (.double d4), .second, .val (.double d5), .second, .val (.int p6), .val (.ref o7)] [])) t → Steps p.tables e below (s₁.setTop (entryFrame m #[(.ref o0), (.int p1), (.int p2), (.double d3), (.double d4), (.double d5), (.int p6), (.ref o7)] 11)) t := fun t k => castTop (ef_rm2 m o0 p1 p2 d3 d4 d5 p6 o7) k
  obtain ⟨T1, X1, e1, st1⟩ := initO X0 hx hZ hown (hw _ (List.mem_of_getElem? (i := 14) rfl)) (hw _ (List.mem_of_getElem? (i := 15) rfl)) (hw _ (List.mem_of_getElem? (i := 16) rfl)) e0 (g := (mkF m 1 #[.val (.ref o0), .val (.int p1), .val (.int p2), .val (.double d3), .second, .val (.double d4), .second, .val (.double d5), .second, .val (.int p6), .val (.ref o7)] [(.ref o0)])) rfl (by rw [hml]; rfl) rfl (hb hby d2_1) (by decide) (W := 0) (by show 2 * 0 + _ ≤ _; exact Nat.le_of_eq rfl) (by decide)
  obtain ⟨T2, h2, X2, e2, W2, st2⟩ := putF X1 hx hZ hown (host := "") (Or.inl (hw _ (List.mem_of_getElem? (i := 17) rfl))) Via.refl e1 F_first_o0 E_o0 (Or.inr ⟨(hw _ (List.mem_of_getElem? (i := 18) rfl)), rfl, hnm⟩) (hw _ (List.mem_of_getElem? (i := 9) rfl)) (ty := .int) (by decide) rfl rfl (g := (mkF m 35 #[.val (.ref o0), .val (.int p1), .val (.int p2), .val (.double d3), .second, .val (.double d4), .second, .val (.double d5), .second, .val (.int p6), .val (.ref o7)] [(.int p1), (.ref o0)])) rfl rfl (hb hby d2_35)
  have N2 := Fr.snoc X2 N0 g_o0
  have K3 : Keep h0 h2 [o0] := (Keep.refl h0 [o0]).wr W2 (Or.inl (by simp))
  have F2w := F_first_o0.same W2
  have f4 := (E_o0.wr W2)
  have f5 := (F_second_o0.other W2 (Or.inr (slot_ne (Or.inr (hw _ (List.mem_of_getElem? (i := 20) rfl))) (Or.inr (hw _ (List.mem_of_getElem? (i := 18) rfl))) (by decide) (t := .int) (t' := .int) (by decide) (by decide))))
  obtain ⟨T6, h6, X6, e6, W6, st6⟩ := putF X2 hx hZ hown (host := "") (Or.inl (hw _ (List.mem_of_getElem? (i := 19) rfl))) Via.refl e2 f5 f4 (Or.inr ⟨(hw _ (List.mem_of_getElem? (i := 20) rfl)), rfl, hnm⟩) (hw _ (List.mem_of_getElem? (i := 9) rfl)) (ty := .int) (by decide) rfl rfl (g := (mkF m 40 #[.val (.ref o0), .val (.int p1), .val (.int p2), .val (.double d3), .second, .val (.double d4), .second, .val (.double d5), .second, .val (.int p6), .val (.ref o7)] [(.int p2), (.ref o0)])) rfl rfl (hb hby d2_40)
  have N6 := Fr.snoc X6 N2 g_o0
  have K7 : Keep h0 h6 [o0] := K3.wr W6 (Or.inl (by simp))
  have F6w := f5.same W6
  have f8 := (f4.wr W6)
  have f9 := ((F_dx_o0.other W2 (Or.inr (slot_ne (Or.inr (hw _ (List.mem_of_getElem? (i := 22) rfl))) (Or.inr (hw _ (List.mem_of_getElem? (i := 18) rfl))) (by decide) (t := .double) (t' := .int) (by decide) (by decide)))).other W6 (Or.inr (slot_ne (Or.inr (hw _ (List.mem_of_getElem? (i := 22) rfl))) (Or.inr (hw _ (List.mem_of_getElem? (i := 20) rfl))) (by decide) (t := .double) (t' := .int) (by decide) (by decide))))
  obtain ⟨T10, h10, X10, e10, W10, st10⟩ := putF X6 hx hZ hown (host := "") (Or.inl (hw _ (List.mem_of_getElem? (i := 21) rfl))) Via.refl e6 f9 f8 (Or.inr ⟨(hw _ (List.mem_of_getElem? (i := 22) rfl)), rfl, hnm⟩) (hw _ (List.mem_of_getElem? (i := 9) rfl)) (ty := .double) (by decide) rfl rfl (g := (mkF m 45 #[.val (.ref o0), .val (.int p1), .val (.int p2), .val (.double d3), .second, .val (.double d4), .second, .val (.double d5), .second, .val (.int p6), .val (.ref o7)] [(.double d3), (.ref o0)])) rfl rfl (hb hby d2_45)
  have N10 := Fr.snoc X10 N6 g_o0
  have K11 : Keep h0 h10 [o0] := K7.wr W10 (Or.inl (by simp))
  have F10w := f9.same W10
  have f12 := (f8.wr W10)
  have f13 := (((F_dy_o0.other W2 (Or.inr (slot_ne (Or.inr (hw _ (List.mem_of_getElem? (i := 24) rfl))) (Or.inr (hw _ (List.mem_of_getElem? (i := 18) rfl))) (by decide) (t := .double) (t' := .int) (by decide) (by decide)))).other W6 (Or.inr (slot_ne (Or.inr (hw _ (List.mem_of_getElem? (i := 24) rfl))) (Or.inr (hw _ (List.mem_of_getElem? (i := 20) rfl))) (by decide) (t := .double) (t' := .int) (by decide) (by decide)))).other W10 (Or.inr (slot_ne (Or.inr (hw _ (List.mem_of_getElem? (i := 24) rfl))) (Or.inr (hw _ (List.mem_of_getElem? (i := 22) rfl))) (by decide) (t := .double) (t' := .double) (by decide) (by decide))))
  obtain ⟨T14, h14, X14, e14, W14, st14⟩ := putF X10 hx hZ hown (host := "") (Or.inl (hw _ (List.mem_of_getElem? (i := 23) rfl))) Via.refl e10 f13 f12 (Or.inr ⟨(hw _ (List.mem_of_getElem? (i := 24) rfl)), rfl, hnm⟩) (hw _ (List.mem_of_getElem? (i := 9) rfl)) (ty := .double) (by decide) rfl rfl (g := (mkF m 51 #[.val (.ref o0), .val (.int p1), .val (.int p2), .val (.double d3), .second, .val (.double d4), .second, .val (.double d5), .second, .val (.int p6), .val (.ref o7)] [(.double d4), (.ref o0)])) rfl rfl (hb hby d2_51)
  have N14 := Fr.snoc X14 N10 g_o0
  have K15 : Keep h0 h14 [o0] := K11.wr W14 (Or.inl (by simp))
  have F14w := f13.same W14
  have f16 := (f12.wr W14)
  have f17 := ((((F_confidence_o0.other W2 (Or.inr (slot_ne (Or.inr (hw _ (List.mem_of_getElem? (i := 26) rfl))) (Or.inr (hw _ (List.mem_of_getElem? (i := 18) rfl))) (by decide) (t := .double) (t' := .int) (by decide) (by decide)))).other W6 (Or.inr (slot_ne (Or.inr (hw _ (List.mem_of_getElem? (i := 26) rfl))) (Or.inr (hw _ (List.mem_of_getElem? (i := 20) rfl))) (by decide) (t := .double) (t' := .int) (by decide) (by decide)))).other W10 (Or.inr (slot_ne (Or.inr (hw _ (List.mem_of_getElem? (i := 26) rfl))) (Or.inr (hw _ (List.mem_of_getElem? (i := 22) rfl))) (by decide) (t := .double) (t' := .double) (by decide) (by decide)))).other W14 (Or.inr (slot_ne (Or.inr (hw _ (List.mem_of_getElem? (i := 26) rfl))) (Or.inr (hw _ (List.mem_of_getElem? (i := 24) rfl))) (by decide) (t := .double) (t' := .double) (by decide) (by decide))))
  obtain ⟨T18, h18, X18, e18, W18, st18⟩ := putF X14 hx hZ hown (host := "") (Or.inl (hw _ (List.mem_of_getElem? (i := 25) rfl))) Via.refl e14 f17 f16 (Or.inr ⟨(hw _ (List.mem_of_getElem? (i := 26) rfl)), rfl, hnm⟩) (hw _ (List.mem_of_getElem? (i := 9) rfl)) (ty := .double) (by decide) rfl rfl (g := (mkF m 57 #[.val (.ref o0), .val (.int p1), .val (.int p2), .val (.double d3), .second, .val (.double d4), .second, .val (.double d5), .second, .val (.int p6), .val (.ref o7)] [(.double d5), (.ref o0)])) rfl rfl (hb hby d2_57)
  have N18 := Fr.snoc X18 N14 g_o0
  have K19 : Keep h0 h18 [o0] := K15.wr W18 (Or.inl (by simp))
  have F18w := f17.same W18
  have f20 := (f16.wr W18)
  have f21 := (((((F_used_o0.other W2 (Or.inr (slot_ne (Or.inr (hw _ (List.mem_of_getElem? (i := 28) rfl))) (Or.inr (hw _ (List.mem_of_getElem? (i := 18) rfl))) (by decide) (t := .boolean) (t' := .int) (by decide) (by decide)))).other W6 (Or.inr (slot_ne (Or.inr (hw _ (List.mem_of_getElem? (i := 28) rfl))) (Or.inr (hw _ (List.mem_of_getElem? (i := 20) rfl))) (by decide) (t := .boolean) (t' := .int) (by decide) (by decide)))).other W10 (Or.inr (slot_ne (Or.inr (hw _ (List.mem_of_getElem? (i := 28) rfl))) (Or.inr (hw _ (List.mem_of_getElem? (i := 22) rfl))) (by decide) (t := .boolean) (t' := .double) (by decide) (by decide)))).other W14 (Or.inr (slot_ne (Or.inr (hw _ (List.mem_of_getElem? (i := 28) rfl))) (Or.inr (hw _ (List.mem_of_getElem? (i := 24) rfl))) (by decide) (t := .boolean) (t' := .double) (by decide) (by decide)))).other W18 (Or.inr (slot_ne (Or.inr (hw _ (List.mem_of_getElem? (i := 28) rfl))) (Or.inr (hw _ (List.mem_of_getElem? (i := 26) rfl))) (by decide) (t := .boolean) (t' := .double) (by decide) (by decide))))
  obtain ⟨T22, h22, X22, e22, W22, st22⟩ := putF X18 hx hZ hown (host := "") (Or.inl (hw _ (List.mem_of_getElem? (i := 27) rfl))) Via.refl e18 f21 f20 (Or.inr ⟨(hw _ (List.mem_of_getElem? (i := 28) rfl)), rfl, hnm⟩) (hw _ (List.mem_of_getElem? (i := 9) rfl)) (ty := .boolean) (by decide) na63 fi63 (g := (mkF m 63 #[.val (.ref o0), .val (.int p1), .val (.int p2), .val (.double d3), .second, .val (.double d4), .second, .val (.double d5), .second, .val (.int p6), .val (.ref o7)] [(.int p6), (.ref o0)])) rfl rfl (hb hby d2_63)
  have N22 := Fr.snoc X22 N18 g_o0
  have K23 : Keep h0 h22 [o0] := K19.wr W22 (Or.inl (by simp))
  have F22w := f21.same W22
  have f24 := (f20.wr W22)
  have f25 := ((((((F_doubt_o0.other W2 (Or.inr (slot_ne (Or.inr (hw _ (List.mem_of_getElem? (i := 30) rfl))) (Or.inr (hw _ (List.mem_of_getElem? (i := 18) rfl))) (by decide) (t := (.object "com/example/vetrino/vetrino/PairShift$Doubt")) (t' := .int) (by decide) (by decide)))).other W6 (Or.inr (slot_ne (Or.inr (hw _ (List.mem_of_getElem? (i := 30) rfl))) (Or.inr (hw _ (List.mem_of_getElem? (i := 20) rfl))) (by decide) (t := (.object "com/example/vetrino/vetrino/PairShift$Doubt")) (t' := .int) (by decide) (by decide)))).other W10 (Or.inr (slot_ne (Or.inr (hw _ (List.mem_of_getElem? (i := 30) rfl))) (Or.inr (hw _ (List.mem_of_getElem? (i := 22) rfl))) (by decide) (t := (.object "com/example/vetrino/vetrino/PairShift$Doubt")) (t' := .double) (by decide) (by decide)))).other W14 (Or.inr (slot_ne (Or.inr (hw _ (List.mem_of_getElem? (i := 30) rfl))) (Or.inr (hw _ (List.mem_of_getElem? (i := 24) rfl))) (by decide) (t := (.object "com/example/vetrino/vetrino/PairShift$Doubt")) (t' := .double) (by decide) (by decide)))).other W18 (Or.inr (slot_ne (Or.inr (hw _ (List.mem_of_getElem? (i := 30) rfl))) (Or.inr (hw _ (List.mem_of_getElem? (i := 26) rfl))) (by decide) (t := (.object "com/example/vetrino/vetrino/PairShift$Doubt")) (t' := .double) (by decide) (by decide)))).other W22 (Or.inr (slot_ne (Or.inr (hw _ (List.mem_of_getElem? (i := 30) rfl))) (Or.inr (hw _ (List.mem_of_getElem? (i := 28) rfl))) (by decide) (t := (.object "com/example/vetrino/vetrino/PairShift$Doubt")) (t' := .boolean) (by decide) (by decide))))
  obtain ⟨T26, h26, X26, e26, W26, st26⟩ := putF X22 hx hZ hown (host := "") (Or.inl (hw _ (List.mem_of_getElem? (i := 29) rfl))) Via.refl e22 f25 f24 (Or.inr ⟨(hw _ (List.mem_of_getElem? (i := 30) rfl)), rfl, hnm⟩) (hw _ (List.mem_of_getElem? (i := 9) rfl)) (ty := (.object "com/example/vetrino/vetrino/PairShift$Doubt")) (by decide) rfl rfl (g := (mkF m 69 #[.val (.ref o0), .val (.int p1), .val (.int p2), .val (.double d3), .second, .val (.double d4), .second, .val (.double d5), .second, .val (.int p6), .val (.ref o7)] [(.ref o7), (.ref o0)])) rfl rfl (hb hby d2_69)
  have N26 := Fr.snoc X26 N22 g_o0
  have K27 : Keep h0 h26 [o0] := K23.wr W26 (Or.inl (by simp))
  have F26w := f25.same W26
  have c28 : ∀ t, Steps p.tables e below (T26.setTop (mkF m 72 #[.val (.ref o0), .val (.int p1), .val (.int p2), .val (.double d3), .second, .val (.double d4), .second, .val (.double d5), .second, .val (.int p6), .val (.ref o7)] [])) t → Steps p.tables e below (s₁.setTop (entryFrame m #[(.ref o0), (.int p1), (.int p2), (.double d3), (.double d4), (.double d5), (.int p6), (.ref o7)] 11)) t := by
    intro t k
    refine c0 t ?_
    show Steps p.tables e below (s₁.setTop (mkF m 0 #[.val (.ref o0), .val (.int p1), .val (.int p2), .val (.double d3), .second, .val (.double d4), .second, .val (.double d5), .second, .val (.int p6), .val (.ref o7)] [])) _
    refine XS.aloadN X0.here hx rfl (hb hby d2_0) rfl rfl ?_
    show Steps p.tables e below (s₁.setTop (mkF m 1 #[.val (.ref o0), .val (.int p1), .val (.int p2), .val (.double d3), .second, .val (.double d4), .second, .val (.double d5), .second, .val (.int p6), .val (.ref o7)] [(.ref o0)])) _
    refine st1 _ ?_
    show Steps p.tables e below (T1.setTop (mkF m 4 #[.val (.ref o0), .val (.int p1), .val (.int p2), .val (.double d3), .second, .val (.double d4), .second, .val (.double d5), .second, .val (.int p6), .val (.ref o7)] [])) _
    refine XS.dload X1.here hx rfl (hb hby d2_4) rfl ?_
    show Steps p.tables e below (T1.setTop (mkF m 6 #[.val (.ref o0), .val (.int p1), .val (.int p2), .val (.double d3), .second, .val (.double d4), .second, .val (.double d5), .second, .val (.int p6), .val (.ref o7)] [(.double d5)])) _
    refine XS.dconst0 X1.here hx rfl (hb hby d2_6) (v := FP.dconst0) rfl ?_
    show Steps p.tables e below (T1.setTop (mkF m 7 #[.val (.ref o0), .val (.int p1), .val (.int p2), .val (.double d3), .second, .val (.double d4), .second, .val (.double d5), .second, .val (.int p6), .val (.ref o7)] [(.double FP.dconst0), (.double d5)])) _
    refine XS.dcmpS X1.here hx rfl (hb hby d2_7) rfl hz7 ?_
    show Steps p.tables e below (T1.setTop (mkF m 8 #[.val (.ref o0), .val (.int p1), .val (.int p2), .val (.double d3), .second, .val (.double d4), .second, .val (.double d5), .second, .val (.int p6), .val (.ref o7)] [(.int z7)])) _
    refine XS.ifNo X1.here hx rfl (hb hby d2_8) rfl (Jvm.Free.XT.i0_lt_f br8) ?_
    show Steps p.tables e below (T1.setTop (mkF m 11 #[.val (.ref o0), .val (.int p1), .val (.int p2), .val (.double d3), .second, .val (.double d4), .second, .val (.double d5), .second, .val (.int p6), .val (.ref o7)] [])) _
    refine XS.dload X1.here hx rfl (hb hby d2_11) rfl ?_
    show Steps p.tables e below (T1.setTop (mkF m 13 #[.val (.ref o0), .val (.int p1), .val (.int p2), .val (.double d3), .second, .val (.double d4), .second, .val (.double d5), .second, .val (.int p6), .val (.ref o7)] [(.double d5)])) _
    refine XS.dconst1 X1.here hx rfl (hb hby d2_13) (v := FP.dconst1) rfl ?_
    show Steps p.tables e below (T1.setTop (mkF m 14 #[.val (.ref o0), .val (.int p1), .val (.int p2), .val (.double d3), .second, .val (.double d4), .second, .val (.double d5), .second, .val (.int p6), .val (.ref o7)] [(.double FP.dconst1), (.double d5)])) _
    refine XS.dcmpS X1.here hx rfl (hb hby d2_14) rfl hz14 ?_
    show Steps p.tables e below (T1.setTop (mkF m 15 #[.val (.ref o0), .val (.int p1), .val (.int p2), .val (.double d3), .second, .val (.double d4), .second, .val (.double d5), .second, .val (.int p6), .val (.ref o7)] [(.int z14)])) _
    refine XS.ifYes X1.here hx rfl (pc0 := 15) (pc' := 33) rfl (hb hby d2_15) rfl (Jvm.Free.XT.i0_le_t br15) (by decide) (by decide) ?_
    show Steps p.tables e below (T1.setTop (mkF m 33 #[.val (.ref o0), .val (.int p1), .val (.int p2), .val (.double d3), .second, .val (.double d4), .second, .val (.double d5), .second, .val (.int p6), .val (.ref o7)] [])) _
    refine XS.aloadN X1.here hx rfl (hb hby d2_33) rfl rfl ?_
    show Steps p.tables e below (T1.setTop (mkF m 34 #[.val (.ref o0), .val (.int p1), .val (.int p2), .val (.double d3), .second, .val (.double d4), .second, .val (.double d5), .second, .val (.int p6), .val (.ref o7)] [(.ref o0)])) _
    refine XS.iloadN X1.here hx rfl (hb hby d2_34) rfl ?_
    show Steps p.tables e below (T1.setTop (mkF m 35 #[.val (.ref o0), .val (.int p1), .val (.int p2), .val (.double d3), .second, .val (.double d4), .second, .val (.double d5), .second, .val (.int p6), .val (.ref o7)] [(.int p1), (.ref o0)])) _
    refine st2 _ ?_
    show Steps p.tables e below (T2.setTop (mkF m 38 #[.val (.ref o0), .val (.int p1), .val (.int p2), .val (.double d3), .second, .val (.double d4), .second, .val (.double d5), .second, .val (.int p6), .val (.ref o7)] [])) _
    refine XS.aloadN X2.here hx rfl (hb hby d2_38) rfl rfl ?_
    show Steps p.tables e below (T2.setTop (mkF m 39 #[.val (.ref o0), .val (.int p1), .val (.int p2), .val (.double d3), .second, .val (.double d4), .second, .val (.double d5), .second, .val (.int p6), .val (.ref o7)] [(.ref o0)])) _
    refine XS.iloadN X2.here hx rfl (hb hby d2_39) rfl ?_
    show Steps p.tables e below (T2.setTop (mkF m 40 #[.val (.ref o0), .val (.int p1), .val (.int p2), .val (.double d3), .second, .val (.double d4), .second, .val (.double d5), .second, .val (.int p6), .val (.ref o7)] [(.int p2), (.ref o0)])) _
    refine st6 _ ?_
    show Steps p.tables e below (T6.setTop (mkF m 43 #[.val (.ref o0), .val (.int p1), .val (.int p2), .val (.double d3), .second, .val (.double d4), .second, .val (.double d5), .second, .val (.int p6), .val (.ref o7)] [])) _
    refine XS.aloadN X6.here hx rfl (hb hby d2_43) rfl rfl ?_
    show Steps p.tables e below (T6.setTop (mkF m 44 #[.val (.ref o0), .val (.int p1), .val (.int p2), .val (.double d3), .second, .val (.double d4), .second, .val (.double d5), .second, .val (.int p6), .val (.ref o7)] [(.ref o0)])) _
    refine XS.dloadN X6.here hx rfl (hb hby d2_44) rfl ?_
    show Steps p.tables e below (T6.setTop (mkF m 45 #[.val (.ref o0), .val (.int p1), .val (.int p2), .val (.double d3), .second, .val (.double d4), .second, .val (.double d5), .second, .val (.int p6), .val (.ref o7)] [(.double d3), (.ref o0)])) _
    refine st10 _ ?_
    show Steps p.tables e below (T10.setTop (mkF m 48 #[.val (.ref o0), .val (.int p1), .val (.int p2), .val (.double d3), .second, .val (.double d4), .second, .val (.double d5), .second, .val (.int p6), .val (.ref o7)] [])) _
    refine XS.aloadN X10.here hx rfl (hb hby d2_48) rfl rfl ?_
    show Steps p.tables e below (T10.setTop (mkF m 49 #[.val (.ref o0), .val (.int p1), .val (.int p2), .val (.double d3), .second, .val (.double d4), .second, .val (.double d5), .second, .val (.int p6), .val (.ref o7)] [(.ref o0)])) _
    refine XS.dload X10.here hx rfl (hb hby d2_49) rfl ?_
    show Steps p.tables e below (T10.setTop (mkF m 51 #[.val (.ref o0), .val (.int p1), .val (.int p2), .val (.double d3), .second, .val (.double d4), .second, .val (.double d5), .second, .val (.int p6), .val (.ref o7)] [(.double d4), (.ref o0)])) _
    refine st14 _ ?_
    show Steps p.tables e below (T14.setTop (mkF m 54 #[.val (.ref o0), .val (.int p1), .val (.int p2), .val (.double d3), .second, .val (.double d4), .second, .val (.double d5), .second, .val (.int p6), .val (.ref o7)] [])) _
    refine XS.aloadN X14.here hx rfl (hb hby d2_54) rfl rfl ?_
    show Steps p.tables e below (T14.setTop (mkF m 55 #[.val (.ref o0), .val (.int p1), .val (.int p2), .val (.double d3), .second, .val (.double d4), .second, .val (.double d5), .second, .val (.int p6), .val (.ref o7)] [(.ref o0)])) _
    refine XS.dload X14.here hx rfl (hb hby d2_55) rfl ?_
    show Steps p.tables e below (T14.setTop (mkF m 57 #[.val (.ref o0), .val (.int p1), .val (.int p2), .val (.double d3), .second, .val (.double d4), .second, .val (.double d5), .second, .val (.int p6), .val (.ref o7)] [(.double d5), (.ref o0)])) _
    refine st18 _ ?_
    show Steps p.tables e below (T18.setTop (mkF m 60 #[.val (.ref o0), .val (.int p1), .val (.int p2), .val (.double d3), .second, .val (.double d4), .second, .val (.double d5), .second, .val (.int p6), .val (.ref o7)] [])) _
    refine XS.aloadN X18.here hx rfl (hb hby d2_60) rfl rfl ?_
    show Steps p.tables e below (T18.setTop (mkF m 61 #[.val (.ref o0), .val (.int p1), .val (.int p2), .val (.double d3), .second, .val (.double d4), .second, .val (.double d5), .second, .val (.int p6), .val (.ref o7)] [(.ref o0)])) _
    refine XS.iload X18.here hx rfl (hb hby d2_61) rfl ?_
    show Steps p.tables e below (T18.setTop (mkF m 63 #[.val (.ref o0), .val (.int p1), .val (.int p2), .val (.double d3), .second, .val (.double d4), .second, .val (.double d5), .second, .val (.int p6), .val (.ref o7)] [(.int p6), (.ref o0)])) _
    refine st22 _ ?_
    show Steps p.tables e below (T22.setTop (mkF m 66 #[.val (.ref o0), .val (.int p1), .val (.int p2), .val (.double d3), .second, .val (.double d4), .second, .val (.double d5), .second, .val (.int p6), .val (.ref o7)] [])) _
    refine XS.aloadN X22.here hx rfl (hb hby d2_66) rfl rfl ?_
    show Steps p.tables e below (T22.setTop (mkF m 67 #[.val (.ref o0), .val (.int p1), .val (.int p2), .val (.double d3), .second, .val (.double d4), .second, .val (.double d5), .second, .val (.int p6), .val (.ref o7)] [(.ref o0)])) _
    refine XS.aload X22.here hx rfl (hb hby d2_67) rfl rfl ?_
    show Steps p.tables e below (T22.setTop (mkF m 69 #[.val (.ref o0), .val (.int p1), .val (.int p2), .val (.double d3), .second, .val (.double d4), .second, .val (.double d5), .second, .val (.int p6), .val (.ref o7)] [(.ref o7), (.ref o0)])) _
    refine st26 _ ?_
    exact k
  obtain ⟨fs, hr, hrun, hended, hW, hsame⟩ := X26.leave (v := none) (fun _ => rfl)
  refine ⟨_, _, c28 _ ?_, hrun, hended, _, _, rfl, ?_, ⟨_, rfl⟩, hW, hsame.mono (by decide) (by decide)⟩
  · show Steps p.tables e below (T26.setTop (mkF m 72 #[.val (.ref o0), .val (.int p1), .val (.int p2), .val (.double d3), .second, .val (.double d4), .second, .val (.double d5), .second, .val (.int p6), .val (.ref o7)] [])) _
    exact X26.returnOut hx Bd.returns (hb hby d2_72) hr
  · show Q2 Z o0 p1 p2 d3 d4 d5 p6 o7 u_first_o0 u_second_o0 u_dx_o0 u_dy_o0 u_confidence_o0 u_used_o0 u_doubt_o0 z7 z14 h0 n0 _ T26.heap _
    rw [e26]
    exact ⟨rfl, N26, K27, (f24.wr W26), ((((((F2w.other W6 (Or.inr (slot_ne (Or.inr (hw _ (List.mem_of_getElem? (i := 18) rfl))) (Or.inr (hw _ (List.mem_of_getElem? (i := 20) rfl))) (by decide) (t := .int) (t' := .int) (by decide) (by decide)))).other W10 (Or.inr (slot_ne (Or.inr (hw _ (List.mem_of_getElem? (i := 18) rfl))) (Or.inr (hw _ (List.mem_of_getElem? (i := 22) rfl))) (by decide) (t := .int) (t' := .double) (by decide) (by decide)))).other W14 (Or.inr (slot_ne (Or.inr (hw _ (List.mem_of_getElem? (i := 18) rfl))) (Or.inr (hw _ (List.mem_of_getElem? (i := 24) rfl))) (by decide) (t := .int) (t' := .double) (by decide) (by decide)))).other W18 (Or.inr (slot_ne (Or.inr (hw _ (List.mem_of_getElem? (i := 18) rfl))) (Or.inr (hw _ (List.mem_of_getElem? (i := 26) rfl))) (by decide) (t := .int) (t' := .double) (by decide) (by decide)))).other W22 (Or.inr (slot_ne (Or.inr (hw _ (List.mem_of_getElem? (i := 18) rfl))) (Or.inr (hw _ (List.mem_of_getElem? (i := 28) rfl))) (by decide) (t := .int) (t' := .boolean) (by decide) (by decide)))).other W26 (Or.inr (slot_ne (Or.inr (hw _ (List.mem_of_getElem? (i := 18) rfl))) (Or.inr (hw _ (List.mem_of_getElem? (i := 30) rfl))) (by decide) (t := .int) (t' := (.object "com/example/vetrino/vetrino/PairShift$Doubt")) (by decide) (by decide)))), (((((F6w.other W10 (Or.inr (slot_ne (Or.inr (hw _ (List.mem_of_getElem? (i := 20) rfl))) (Or.inr (hw _ (List.mem_of_getElem? (i := 22) rfl))) (by decide) (t := .int) (t' := .double) (by decide) (by decide)))).other W14 (Or.inr (slot_ne (Or.inr (hw _ (List.mem_of_getElem? (i := 20) rfl))) (Or.inr (hw _ (List.mem_of_getElem? (i := 24) rfl))) (by decide) (t := .int) (t' := .double) (by decide) (by decide)))).other W18 (Or.inr (slot_ne (Or.inr (hw _ (List.mem_of_getElem? (i := 20) rfl))) (Or.inr (hw _ (List.mem_of_getElem? (i := 26) rfl))) (by decide) (t := .int) (t' := .double) (by decide) (by decide)))).other W22 (Or.inr (slot_ne (Or.inr (hw _ (List.mem_of_getElem? (i := 20) rfl))) (Or.inr (hw _ (List.mem_of_getElem? (i := 28) rfl))) (by decide) (t := .int) (t' := .boolean) (by decide) (by decide)))).other W26 (Or.inr (slot_ne (Or.inr (hw _ (List.mem_of_getElem? (i := 20) rfl))) (Or.inr (hw _ (List.mem_of_getElem? (i := 30) rfl))) (by decide) (t := .int) (t' := (.object "com/example/vetrino/vetrino/PairShift$Doubt")) (by decide) (by decide)))), ((((F10w.other W14 (Or.inr (slot_ne (Or.inr (hw _ (List.mem_of_getElem? (i := 22) rfl))) (Or.inr (hw _ (List.mem_of_getElem? (i := 24) rfl))) (by decide) (t := .double) (t' := .double) (by decide) (by decide)))).other W18 (Or.inr (slot_ne (Or.inr (hw _ (List.mem_of_getElem? (i := 22) rfl))) (Or.inr (hw _ (List.mem_of_getElem? (i := 26) rfl))) (by decide) (t := .double) (t' := .double) (by decide) (by decide)))).other W22 (Or.inr (slot_ne (Or.inr (hw _ (List.mem_of_getElem? (i := 22) rfl))) (Or.inr (hw _ (List.mem_of_getElem? (i := 28) rfl))) (by decide) (t := .double) (t' := .boolean) (by decide) (by decide)))).other W26 (Or.inr (slot_ne (Or.inr (hw _ (List.mem_of_getElem? (i := 22) rfl))) (Or.inr (hw _ (List.mem_of_getElem? (i := 30) rfl))) (by decide) (t := .double) (t' := (.object "com/example/vetrino/vetrino/PairShift$Doubt")) (by decide) (by decide)))), (((F14w.other W18 (Or.inr (slot_ne (Or.inr (hw _ (List.mem_of_getElem? (i := 24) rfl))) (Or.inr (hw _ (List.mem_of_getElem? (i := 26) rfl))) (by decide) (t := .double) (t' := .double) (by decide) (by decide)))).other W22 (Or.inr (slot_ne (Or.inr (hw _ (List.mem_of_getElem? (i := 24) rfl))) (Or.inr (hw _ (List.mem_of_getElem? (i := 28) rfl))) (by decide) (t := .double) (t' := .boolean) (by decide) (by decide)))).other W26 (Or.inr (slot_ne (Or.inr (hw _ (List.mem_of_getElem? (i := 24) rfl))) (Or.inr (hw _ (List.mem_of_getElem? (i := 30) rfl))) (by decide) (t := .double) (t' := (.object "com/example/vetrino/vetrino/PairShift$Doubt")) (by decide) (by decide)))), ((F18w.other W22 (Or.inr (slot_ne (Or.inr (hw _ (List.mem_of_getElem? (i := 26) rfl))) (Or.inr (hw _ (List.mem_of_getElem? (i := 28) rfl))) (by decide) (t := .double) (t' := .boolean) (by decide) (by decide)))).other W26 (Or.inr (slot_ne (Or.inr (hw _ (List.mem_of_getElem? (i := 26) rfl))) (Or.inr (hw _ (List.mem_of_getElem? (i := 30) rfl))) (by decide) (t := .double) (t' := (.object "com/example/vetrino/vetrino/PairShift$Doubt")) (by decide) (by decide)))), (F22w.other W26 (Or.inr (slot_ne (Or.inr (hw _ (List.mem_of_getElem? (i := 28) rfl))) (Or.inr (hw _ (List.mem_of_getElem? (i := 30) rfl))) (by decide) (t := .boolean) (t' := (.object "com/example/vetrino/vetrino/PairShift$Doubt")) (by decide) (by decide)))), F26w⟩
def Q4_f (Z : State) (o0 : Addr) (d1 : UInt64) (d2 : UInt64) (d3 : UInt64) (o4 : Addr) (w_first_o0 : Int32) (w_second_o0 : Int32) (w_confidence_o0 : UInt64) (w_used_o0 : Int32) (z20 : UInt64) (z31 : Int32) (c44_z7 : Int32) (c44_z14 : Int32) (h0 : Heap) (n0 : Nat) (v : Option Value) (h : Heap) (L : List Loc) : Prop := ∃ b1 : Addr, v = some (.ref b1) ∧ Fr n0 L ∧ h0.size ≤ b1 ∧ Keep h0 h [] ∧ Exa Z h b1 "com/example/vetrino/vetrino/PairShift" ∧ Fld Z h b1 "com/example/vetrino/vetrino/PairShift" "first" "I" (.int w_first_o0) ∧ Fld Z h b1 "com/example/vetrino/vetrino/PairShift" "second" "I" (.int w_second_o0) ∧ Fld Z h b1 "com/example/vetrino/vetrino/PairShift" "dx" "D" (.double d1) ∧ Fld Z h b1 "com/example/vetrino/vetrino/PairShift" "dy" "D" (.double d2) ∧ Fld Z h b1 "com/example/vetrino/vetrino/PairShift" "confidence" "D" (.double z20) ∧ Fld Z h b1 "com/example/vetrino/vetrino/PairShift" "used" "Z" (.int w_used_o0) ∧ Fld Z h b1 "com/example/vetrino/vetrino/PairShift" "doubt" "Lcom/example/vetrino/vetrino/PairShift$Doubt;" (.ref o4)
set_option maxRecDepth 65536 in
set_option maxHeartbeats 40000000 in
theorem rm4_f (l : Launch) (Z : State) (a0 : Array Value) (hw : ∀ d ∈ tables_1, d.before a0 Z = true) (ws : List Jvm.Cond) (o0 : Addr) (d1 : UInt64) (d2 : UInt64) (d3 : UInt64) (o4 : Addr) (w_first_o0 : Int32) (w_second_o0 : Int32) (w_confidence_o0 : UInt64) (w_used_o0 : Int32) (z20 : UInt64) (z31 : Int32) (c44_z7 : Int32) (c44_z14 : Int32) (h0 : Heap) (n0 : Nat) (Z0 : n0 ≤ h0.size) (F_first_o0 : Fld Z h0 o0 "com/example/vetrino/vetrino/PairShift" "first" "I" (.int w_first_o0)) (F_second_o0 : Fld Z h0 o0 "com/example/vetrino/vetrino/PairShift" "second" "I" (.int w_second_o0)) (F_confidence_o0 : Fld Z h0 o0 "com/example/vetrino/vetrino/PairShift" "confidence" "D" (.double w_confidence_o0)) (F_used_o0 : Fld Z h0 o0 "com/example/vetrino/vetrino/PairShift" "used" "Z" (.int w_used_o0)) (hz20 : FP.dmul w_confidence_o0 d3 = z20) (hz31 : cmpValue (FP.dcmp d3 w_confidence_o0) .g = z31) (hc44_z7 : cmpValue (FP.dcmp z20 FP.dconst0) .l = c44_z7) (hc44_z14 : cmpValue (FP.dcmp z20 FP.dconst1) .g = c44_z14) (nn20 : Jvm.Free.Fl.NoNaN64 z20) (br32 : z31 < (0 : Int32)) (c44_br8 : ¬ c44_z7 < (0 : Int32)) (c44_br15 : ¬ (0 : Int32) < c44_z14) (c44_na63 : narrow .boolean (.int w_used_o0) = (.int w_used_o0)) (c44_fi63 : fits .boolean (.int w_used_o0) = true) :
    MetFree l (⟨"com/example/vetrino/vetrino/PairShift", "remeasured", "(DDDLcom/example/vetrino/vetrino/PairShift$Doubt;)Lcom/example/vetrino/vetrino/PairShift;"⟩ : MethodName) (head1 (Jvm.Cond.code (⟨"com/example/vetrino/vetrino/PairShift", "remeasured", "(DDDLcom/example/vetrino/vetrino/PairShift$Doubt;)Lcom/example/vetrino/vetrino/PairShift;"⟩ : MethodName) prog_8_method_10_code 8 (some (.object "com/example/vetrino/vetrino/PairShift")) :: ws) ({ frames := 2, cells := 1, slots := 7, locals := 35 } : Room)) (fun a U => a = #[(.ref o0), (.double d1), (.double d2), (.double d3), (.ref o4)] ∧ Z.Warmed39 U.vm ∧ U.heap = h0) (fun _ _ _ _ _ => True) (fun _ U o U' => ∃ v L, o = .returned v ∧ Q4_f Z o0 d1 d2 d3 o4 w_first_o0 w_second_o0 w_confidence_o0 w_used_o0 z20 z31 c44_z7 c44_z14 h0 n0 v U'.heap L ∧ FrameEnd U o U' L ({ frames := 2, cells := 1, slots := 7, locals := 35 } : Room).cells ({ frames := 2, cells := 1, slots := 7, locals := 35 } : Room).slots) := by
  refine MetFree.of_bodySF (plainFor_of_name pn_1) hisR ?_
  intro p e s m args below meth c s₁ Bd hml0 hP hK
  obtain ⟨rfl, hZ, hh⟩ := hP
  have hx := Bd.exec
  have hby := Bd.bytes
  have hml : c.maxLocals = 8 := hml0
  have hown : s.vm.findClass "com/example/vetrino/vetrino/PairShift" = some m.cls := findClass_of_methodNamed Bd.named
  have hnm := (name_of_methodNamed Bd.named Bd.method).1
  have X0 : Stand p l e ({ frames := 2, cells := 1, slots := 7, locals := 35 } : Room) s m #[(.ref o0), (.double d1), (.double d2), (.double d3), (.ref o4)] below meth c s₁ [] 0 0 := Stand.of_body Bd
  have e0 : s₁.heap = h0 := by rw [← hh, Bd.state]; rfl
  have N0 := Fr.nil n0
  have c0 : ∀ t, Steps p.tables e below (s₁.setTop (mkF m 0 #[.val (.ref o0), .val (.double d1), .second, .val (.double d2), .second, .val (.double d3), .second, .val (.ref o4)] [])) t → Steps p.tables e below (s₁.setTop (entryFrame m #[(.ref o0), (.double d1), (.double d2), (.double d3), (.ref o4)] 8)) t := fun t k => castTop (ef_rm4_f m o0 d1 d2 d3 o4) k
  obtain ⟨T1, h1, X1, e1, E1, A1, D1, -, st1⟩ := newO X0 hx hZ hown (hw _ (List.mem_of_getElem? (i := 36) rfl)) (hw _ (List.mem_of_getElem? (i := 9) rfl)) (hw _ (List.mem_of_getElem? (i := 10) rfl)) e0 (g := (mkF m 0 #[.val (.ref o0), .val (.double d1), .second, .val (.double d2), .second, .val (.double d3), .second, .val (.ref o4)] [])) rfl (hb hby d4_0) (by decide) (by decide)
  obtain ⟨b1, g1⟩ : ∃ z, z = h0.size := ⟨_, rfl⟩
  rw [← g1] at A1 D1 st1
  have gn1 : n0 ≤ b1 := Nat.le_trans Z0 (Nat.le_of_eq g1.symm)
  have gz1 : h0.size ≤ b1 := Nat.le_trans ((Keep.refl h0 [])).1 (Nat.le_of_eq g1.symm)
  have K2 : Keep h0 h1 [] := (Keep.refl h0 []).ext E1
  have F1_first : Fld Z h1 b1 "com/example/vetrino/vetrino/PairShift" "first" "I" (.int (0 : Int32)) := D1 (Or.inr (hw _ (List.mem_of_getElem? (i := 18) rfl))) (ty := .int) (by decide)
  have F1_second : Fld Z h1 b1 "com/example/vetrino/vetrino/PairShift" "second" "I" (.int (0 : Int32)) := D1 (Or.inr (hw _ (List.mem_of_getElem? (i := 20) rfl))) (ty := .int) (by decide)
  have F1_dx : Fld Z h1 b1 "com/example/vetrino/vetrino/PairShift" "dx" "D" (.double (0 : UInt64)) := D1 (Or.inr (hw _ (List.mem_of_getElem? (i := 22) rfl))) (ty := .double) (by decide)
  have F1_dy : Fld Z h1 b1 "com/example/vetrino/vetrino/PairShift" "dy" "D" (.double (0 : UInt64)) := D1 (Or.inr (hw _ (List.mem_of_getElem? (i := 24) rfl))) (ty := .double) (by decide)
  have F1_confidence : Fld Z h1 b1 "com/example/vetrino/vetrino/PairShift" "confidence" "D" (.double (0 : UInt64)) := D1 (Or.inr (hw _ (List.mem_of_getElem? (i := 26) rfl))) (ty := .double) (by decide)
  have F1_used : Fld Z h1 b1 "com/example/vetrino/vetrino/PairShift" "used" "Z" (.int (0 : Int32)) := D1 (Or.inr (hw _ (List.mem_of_getElem? (i := 28) rfl))) (ty := .boolean) (by decide)
  have F1_doubt : Fld Z h1 b1 "com/example/vetrino/vetrino/PairShift" "doubt" "Lcom/example/vetrino/vetrino/PairShift$Doubt;" .null := D1 (Or.inr (hw _ (List.mem_of_getElem? (i := 30) rfl))) (ty := (.object "com/example/vetrino/vetrino/PairShift$Doubt")) (by decide)
  have f3 := (F_first_o0.ext E1)
  obtain ⟨T4, X4, e4, st4⟩ := getF X1 hx hZ hown (host := "") (Or.inl (hw _ (List.mem_of_getElem? (i := 17) rfl))) Via.refl e1 f3 (g := (mkF m 5 #[.val (.ref o0), .val (.double d1), .second, .val (.double d2), .second, .val (.double d3), .second, .val (.ref o4)] [(.ref o0), (.ref b1), (.ref b1)])) rfl rfl (hb hby d4_5)
  have f5 := (F_second_o0.ext E1)
  obtain ⟨T6, X6, e6, st6⟩ := getF X4 hx hZ hown (host := "") (Or.inl (hw _ (List.mem_of_getElem? (i := 19) rfl))) Via.refl e4 f5 (g := (mkF m 9 #[.val (.ref o0), .val (.double d1), .second, .val (.double d2), .second, .val (.double d3), .second, .val (.ref o4)] [(.ref o0), (.int w_first_o0), (.ref b1), (.ref b1)])) rfl rfl (hb hby d4_9)
  have f7 := (F_confidence_o0.ext E1)
  obtain ⟨T8, X8, e8, st8⟩ := getF X6 hx hZ hown (host := "") (Or.inl (hw _ (List.mem_of_getElem? (i := 25) rfl))) Via.refl e6 f7 (g := (mkF m 15 #[.val (.ref o0), .val (.double d1), .second, .val (.double d2), .second, .val (.double d3), .second, .val (.ref o4)] [(.ref o0), (.double d2), (.double d1), (.int w_second_o0), (.int w_first_o0), (.ref b1), (.ref b1)])) rfl rfl (hb hby d4_15)
  have f9 := (F_used_o0.ext E1)
  obtain ⟨T10, X10, e10, st10⟩ := getF X8 hx hZ hown (host := "") (Or.inl (hw _ (List.mem_of_getElem? (i := 27) rfl))) Via.refl e8 f9 (g := (mkF m 22 #[.val (.ref o0), .val (.double d1), .second, .val (.double d2), .second, .val (.double d3), .second, .val (.ref o4)] [(.ref o0), (.double z20), (.double d2), (.double d1), (.int w_second_o0), (.int w_first_o0), (.ref b1), (.ref b1)])) rfl rfl (hb hby d4_22)
  obtain ⟨T11, X11, e11, st11⟩ := getF X10 hx hZ hown (host := "") (Or.inl (hw _ (List.mem_of_getElem? (i := 25) rfl))) Via.refl e10 f7 (g := (mkF m 28 #[.val (.ref o0), .val (.double d1), .second, .val (.double d2), .second, .val (.double d3), .second, .val (.ref o4)] [(.ref o0), (.double d3), (.int w_used_o0), (.double z20), (.double d2), (.double d1), (.int w_second_o0), (.int w_first_o0), (.ref b1), (.ref b1)])) rfl rfl (hb hby d4_28)
  obtain ⟨_, _, ⟨T12, L12, k12, n12⟩, -, X12, ⟨Lc12, hQ12, ql12, qy12, qz12⟩, st12⟩ := X11.specialBack hx (y := (⟨"com/example/vetrino/vetrino/PairShift", "<init>", "(IIDDDZLcom/example/vetrino/vetrino/PairShift$Doubt;)V"⟩ : MethodName)) rfl hown (mvT hZ (hw _ (List.mem_of_getElem? (i := 37) rfl))) (mvT hZ (hw _ (List.mem_of_getElem? (i := 12) rfl))) (mvT hZ (hw _ (List.mem_of_getElem? (i := 13) rfl))) (by decide) (backOf (W := 1) (rm2 l Z a0 hw [] b1 w_first_o0 w_second_o0 d1 d2 z20 w_used_o0 o4 ((.int (0 : Int32))) ((.int (0 : Int32))) ((.double (0 : UInt64))) ((.double (0 : UInt64))) ((.double (0 : UInt64))) ((.int (0 : Int32))) (.null) c44_z7 c44_z14 h1 n0 (Nat.le_trans Z0 E1.1) A1 F1_first gn1 F1_second F1_dx F1_dy F1_confidence F1_used F1_doubt hc44_z7 hc44_z14 c44_br8 c44_br15 c44_na63 c44_fi63) hZ (hw _ (List.mem_of_getElem? (i := 13) rfl)) (hw _ (List.mem_of_getElem? (i := 10) rfl)) (by decide) (by decide)) (g := (mkF m 44 #[.val (.ref o0), .val (.double d1), .second, .val (.double d2), .second, .val (.double d3), .second, .val (.ref o4)] [(.ref o4), (.int w_used_o0), (.double z20), (.double d2), (.double d1), (.int w_second_o0), (.int w_first_o0), (.ref b1), (.ref b1)])) rfl (by rw [hml]; rfl) (Steps.refl _) (a := b1) (argsL := [(.int w_first_o0), (.int w_second_o0), (.double d1), (.double d2), (.double z20), (.int w_used_o0), (.ref o4)]) (rest := [(.ref b1)]) (lenOf pd_0 rfl) rfl (by show 2 * 0 + _ ≤ _; exact Nat.le_of_eq rfl) (hb hby d4_44) (fun _ _ => ⟨rfl, e11, (by decide : 1 + 0 ≤ _), (by decide : 7 + 0 ≤ _)⟩)
  dsimp only [Pt.U, Pt.locs, Pt.cells, Pt.slots] at X12 ql12 qy12 qz12 st12 hQ12
  subst ql12 qy12 qz12
  obtain ⟨rfl, N12q, K12q, Q12_0, Q12_1, Q12_2, Q12_3, Q12_4, Q12_5, Q12_6, Q12_7⟩ := hQ12
  have N12 := Fr.app N0 N12q
  have K13 : Keep h0 T12.heap [] := Keep.trans K2 K12q (allS (Or.inr gz1) all0)
  have c14 : ∀ t, Steps p.tables e below (T12.setTop (mkF m 47 #[.val (.ref o0), .val (.double d1), .second, .val (.double d2), .second, .val (.double d3), .second, .val (.ref o4)] [(.ref b1)])) t → Steps p.tables e below (s₁.setTop (entryFrame m #[(.ref o0), (.double d1), (.double d2), (.double d3), (.ref o4)] 8)) t := by
    intro t k
    refine c0 t ?_
    show Steps p.tables e below (s₁.setTop (mkF m 0 #[.val (.ref o0), .val (.double d1), .second, .val (.double d2), .second, .val (.double d3), .second, .val (.ref o4)] [])) _
    refine st1 _ ?_
    show Steps p.tables e below (T1.setTop (mkF m 3 #[.val (.ref o0), .val (.double d1), .second, .val (.double d2), .second, .val (.double d3), .second, .val (.ref o4)] [(.ref b1)])) _
    refine XS.dup X1.here hx rfl (hb hby d4_3) rfl rfl ?_
    show Steps p.tables e below (T1.setTop (mkF m 4 #[.val (.ref o0), .val (.double d1), .second, .val (.double d2), .second, .val (.double d3), .second, .val (.ref o4)] [(.ref b1), (.ref b1)])) _
    refine XS.aloadN X1.here hx rfl (hb hby d4_4) rfl rfl ?_
    show Steps p.tables e below (T1.setTop (mkF m 5 #[.val (.ref o0), .val (.double d1), .second, .val (.double d2), .second, .val (.double d3), .second, .val (.ref o4)] [(.ref o0), (.ref b1), (.ref b1)])) _
    refine st4 _ ?_
    show Steps p.tables e below (T4.setTop (mkF m 8 #[.val (.ref o0), .val (.double d1), .second, .val (.double d2), .second, .val (.double d3), .second, .val (.ref o4)] [(.int w_first_o0), (.ref b1), (.ref b1)])) _
    refine XS.aloadN X4.here hx rfl (hb hby d4_8) rfl rfl ?_
    show Steps p.tables e below (T4.setTop (mkF m 9 #[.val (.ref o0), .val (.double d1), .second, .val (.double d2), .second, .val (.double d3), .second, .val (.ref o4)] [(.ref o0), (.int w_first_o0), (.ref b1), (.ref b1)])) _
    refine st6 _ ?_
    show Steps p.tables e below (T6.setTop (mkF m 12 #[.val (.ref o0), .val (.double d1), .second, .val (.double d2), .second, .val (.double d3), .second, .val (.ref o4)] [(.int w_second_o0), (.int w_first_o0), (.ref b1), (.ref b1)])) _
    refine XS.dloadN X6.here hx rfl (hb hby d4_12) rfl ?_
    show Steps p.tables e below (T6.setTop (mkF m 13 #[.val (.ref o0), .val (.double d1), .second, .val (.double d2), .second, .val (.double d3), .second, .val (.ref o4)] [(.double d1), (.int w_second_o0), (.int w_first_o0), (.ref b1), (.ref b1)])) _
    refine XS.dloadN X6.here hx rfl (hb hby d4_13) rfl ?_
    show Steps p.tables e below (T6.setTop (mkF m 14 #[.val (.ref o0), .val (.double d1), .second, .val (.double d2), .second, .val (.double d3), .second, .val (.ref o4)] [(.double d2), (.double d1), (.int w_second_o0), (.int w_first_o0), (.ref b1), (.ref b1)])) _
    refine XS.aloadN X6.here hx rfl (hb hby d4_14) rfl rfl ?_
    show Steps p.tables e below (T6.setTop (mkF m 15 #[.val (.ref o0), .val (.double d1), .second, .val (.double d2), .second, .val (.double d3), .second, .val (.ref o4)] [(.ref o0), (.double d2), (.double d1), (.int w_second_o0), (.int w_first_o0), (.ref b1), (.ref b1)])) _
    refine st8 _ ?_
    show Steps p.tables e below (T8.setTop (mkF m 18 #[.val (.ref o0), .val (.double d1), .second, .val (.double d2), .second, .val (.double d3), .second, .val (.ref o4)] [(.double w_confidence_o0), (.double d2), (.double d1), (.int w_second_o0), (.int w_first_o0), (.ref b1), (.ref b1)])) _
    refine XS.dload X8.here hx rfl (hb hby d4_18) rfl ?_
    show Steps p.tables e below (T8.setTop (mkF m 20 #[.val (.ref o0), .val (.double d1), .second, .val (.double d2), .second, .val (.double d3), .second, .val (.ref o4)] [(.double d3), (.double w_confidence_o0), (.double d2), (.double d1), (.int w_second_o0), (.int w_first_o0), (.ref b1), (.ref b1)])) _
    refine Jvm.OwnK.dmul X8.here hx rfl (hb hby d4_20) rfl hz20 nn20 ?_
    show Steps p.tables e below (T8.setTop (mkF m 21 #[.val (.ref o0), .val (.double d1), .second, .val (.double d2), .second, .val (.double d3), .second, .val (.ref o4)] [(.double z20), (.double d2), (.double d1), (.int w_second_o0), (.int w_first_o0), (.ref b1), (.ref b1)])) _
    refine XS.aloadN X8.here hx rfl (hb hby d4_21) rfl rfl ?_
    show Steps p.tables e below (T8.setTop (mkF m 22 #[.val (.ref o0), .val (.double d1), .second, .val (.double d2), .second, .val (.double d3), .second, .val (.ref o4)] [(.ref o0), (.double z20), (.double d2), (.double d1), (.int w_second_o0), (.int w_first_o0), (.ref b1), (.ref b1)])) _
    refine st10 _ ?_
    show Steps p.tables e below (T10.setTop (mkF m 25 #[.val (.ref o0), .val (.double d1), .second, .val (.double d2), .second, .val (.double d3), .second, .val (.ref o4)] [(.int w_used_o0), (.double z20), (.double d2), (.double d1), (.int w_second_o0), (.int w_first_o0), (.ref b1), (.ref b1)])) _
    refine XS.dload X10.here hx rfl (hb hby d4_25) rfl ?_
    show Steps p.tables e below (T10.setTop (mkF m 27 #[.val (.ref o0), .val (.double d1), .second, .val (.double d2), .second, .val (.double d3), .second, .val (.ref o4)] [(.double d3), (.int w_used_o0), (.double z20), (.double d2), (.double d1), (.int w_second_o0), (.int w_first_o0), (.ref b1), (.ref b1)])) _
    refine XS.aloadN X10.here hx rfl (hb hby d4_27) rfl rfl ?_
    show Steps p.tables e below (T10.setTop (mkF m 28 #[.val (.ref o0), .val (.double d1), .second, .val (.double d2), .second, .val (.double d3), .second, .val (.ref o4)] [(.ref o0), (.double d3), (.int w_used_o0), (.double z20), (.double d2), (.double d1), (.int w_second_o0), (.int w_first_o0), (.ref b1), (.ref b1)])) _
    refine st11 _ ?_
    show Steps p.tables e below (T11.setTop (mkF m 31 #[.val (.ref o0), .val (.double d1), .second, .val (.double d2), .second, .val (.double d3), .second, .val (.ref o4)] [(.double w_confidence_o0), (.double d3), (.int w_used_o0), (.double z20), (.double d2), (.double d1), (.int w_second_o0), (.int w_first_o0), (.ref b1), (.ref b1)])) _
    refine XS.dcmpS X11.here hx rfl (hb hby d4_31) rfl hz31 ?_
    show Steps p.tables e below (T11.setTop (mkF m 32 #[.val (.ref o0), .val (.double d1), .second, .val (.double d2), .second, .val (.double d3), .second, .val (.ref o4)] [(.int z31), (.int w_used_o0), (.double z20), (.double d2), (.double d1), (.int w_second_o0), (.int w_first_o0), (.ref b1), (.ref b1)])) _
    refine XS.ifNo X11.here hx rfl (hb hby d4_32) rfl (Jvm.Free.XT.i0_ge_f br32) ?_
    show Steps p.tables e below (T11.setTop (mkF m 35 #[.val (.ref o0), .val (.double d1), .second, .val (.double d2), .second, .val (.double d3), .second, .val (.ref o4)] [(.int w_used_o0), (.double z20), (.double d2), (.double d1), (.int w_second_o0), (.int w_first_o0), (.ref b1), (.ref b1)])) _
    refine XS.aload X11.here hx rfl (hb hby d4_35) rfl rfl ?_
    show Steps p.tables e below (T11.setTop (mkF m 37 #[.val (.ref o0), .val (.double d1), .second, .val (.double d2), .second, .val (.double d3), .second, .val (.ref o4)] [(.ref o4), (.int w_used_o0), (.double z20), (.double d2), (.double d1), (.int w_second_o0), (.int w_first_o0), (.ref b1), (.ref b1)])) _
    refine XS.goto X11.here hx rfl (pc0 := 37) (pc' := 44) rfl (hb hby d4_37) (by decide) (by decide) ?_
    show Steps p.tables e below (T11.setTop (mkF m 44 #[.val (.ref o0), .val (.double d1), .second, .val (.double d2), .second, .val (.double d3), .second, .val (.ref o4)] [(.ref o4), (.int w_used_o0), (.double z20), (.double d2), (.double d1), (.int w_second_o0), (.int w_first_o0), (.ref b1), (.ref b1)])) _
    refine st12.trans ?_
    exact k
  obtain ⟨fs, hr, hrun, hended, hW, hsame⟩ := X12.leave (v := some (.ref b1)) (fun h => by rw [Bd.returns] at h; cases h)
  refine ⟨_, _, c14 _ ?_, hrun, hended, _, _, rfl, ?_, ⟨_, rfl⟩, hW, hsame.mono (by decide) (by decide)⟩
  · show Steps p.tables e below (T12.setTop (mkF m 47 #[.val (.ref o0), .val (.double d1), .second, .val (.double d2), .second, .val (.double d3), .second, .val (.ref o4)] [(.ref b1)])) _
    exact retOut X12 hx Bd.returns rfl (Or.inr (Or.inr (Or.inr (Or.inr ⟨rfl, rfl, rfl⟩)))) (hb hby d4_47) hr
  · show Q4_f Z o0 d1 d2 d3 o4 w_first_o0 w_second_o0 w_confidence_o0 w_used_o0 z20 z31 c44_z7 c44_z14 h0 n0 _ T12.heap _
    exact ⟨b1, rfl, N12, gz1, K13, Q12_0, Q12_1, Q12_2, Q12_3, Q12_4, Q12_5, Q12_6, Q12_7⟩
def Q4_t (Z : State) (o0 : Addr) (d1 : UInt64) (d2 : UInt64) (d3 : UInt64) (o4 : Addr) (w_first_o0 : Int32) (w_second_o0 : Int32) (w_confidence_o0 : UInt64) (w_used_o0 : Int32) (w_doubt_o0 : Addr) (z20 : UInt64) (z31 : Int32) (c44_z7 : Int32) (c44_z14 : Int32) (h0 : Heap) (n0 : Nat) (v : Option Value) (h : Heap) (L : List Loc) : Prop := ∃ b1 : Addr, v = some (.ref b1) ∧ Fr n0 L ∧ h0.size ≤ b1 ∧ Keep h0 h [] ∧ Exa Z h b1 "com/example/vetrino/vetrino/PairShift" ∧ Fld Z h b1 "com/example/vetrino/vetrino/PairShift" "first" "I" (.int w_first_o0) ∧ Fld Z h b1 "com/example/vetrino/vetrino/PairShift" "second" "I" (.int w_second_o0) ∧ Fld Z h b1 "com/example/vetrino/vetrino/PairShift" "dx" "D" (.double d1) ∧ Fld Z h b1 "com/example/vetrino/vetrino/PairShift" "dy" "D" (.double d2) ∧ Fld Z h b1 "com/example/vetrino/vetrino/PairShift" "confidence" "D" (.double z20) ∧ Fld Z h b1 "com/example/vetrino/vetrino/PairShift" "used" "Z" (.int w_used_o0) ∧ Fld Z h b1 "com/example/vetrino/vetrino/PairShift" "doubt" "Lcom/example/vetrino/vetrino/PairShift$Doubt;" (.ref w_doubt_o0)
set_option maxRecDepth 65536 in
set_option maxHeartbeats 40000000 in
theorem rm4_t (l : Launch) (Z : State) (a0 : Array Value) (hw : ∀ d ∈ tables_1, d.before a0 Z = true) (ws : List Jvm.Cond) (o0 : Addr) (d1 : UInt64) (d2 : UInt64) (d3 : UInt64) (o4 : Addr) (w_first_o0 : Int32) (w_second_o0 : Int32) (w_confidence_o0 : UInt64) (w_used_o0 : Int32) (w_doubt_o0 : Addr) (z20 : UInt64) (z31 : Int32) (c44_z7 : Int32) (c44_z14 : Int32) (h0 : Heap) (n0 : Nat) (Z0 : n0 ≤ h0.size) (F_first_o0 : Fld Z h0 o0 "com/example/vetrino/vetrino/PairShift" "first" "I" (.int w_first_o0)) (F_second_o0 : Fld Z h0 o0 "com/example/vetrino/vetrino/PairShift" "second" "I" (.int w_second_o0)) (F_confidence_o0 : Fld Z h0 o0 "com/example/vetrino/vetrino/PairShift" "confidence" "D" (.double w_confidence_o0)) (F_used_o0 : Fld Z h0 o0 "com/example/vetrino/vetrino/PairShift" "used" "Z" (.int w_used_o0)) (F_doubt_o0 : Fld Z h0 o0 "com/example/vetrino/vetrino/PairShift" "doubt" "Lcom/example/vetrino/vetrino/PairShift$Doubt;" (.ref w_doubt_o0)) (hz20 : FP.dmul w_confidence_o0 d3 = z20) (hz31 : cmpValue (FP.dcmp d3 w_confidence_o0) .g = z31) (hc44_z7 : cmpValue (FP.dcmp z20 FP.dconst0) .l = c44_z7) (hc44_z14 : cmpValue (FP.dcmp z20 FP.dconst1) .g = c44_z14) (nn20 : Jvm.Free.Fl.NoNaN64 z20) (br32 : ¬ z31 < (0 : Int32)) (c44_br8 : ¬ c44_z7 < (0 : Int32)) (c44_br15 : ¬ (0 : Int32) < c44_z14) (c44_na63 : narrow .boolean (.int w_used_o0) = (.int w_used_o0)) (c44_fi63 : fits .boolean (.int w_used_o0) = true) :
    MetFree l (⟨"com/example/vetrino/vetrino/PairShift", "remeasured", "(DDDLcom/example/vetrino/vetrino/PairShift$Doubt;)Lcom/example/vetrino/vetrino/PairShift;"⟩ : MethodName) (head1 (Jvm.Cond.code (⟨"com/example/vetrino/vetrino/PairShift", "remeasured", "(DDDLcom/example/vetrino/vetrino/PairShift$Doubt;)Lcom/example/vetrino/vetrino/PairShift;"⟩ : MethodName) prog_8_method_10_code 8 (some (.object "com/example/vetrino/vetrino/PairShift")) :: ws) ({ frames := 2, cells := 1, slots := 7, locals := 35 } : Room)) (fun a U => a = #[(.ref o0), (.double d1), (.double d2), (.double d3), (.ref o4)] ∧ Z.Warmed39 U.vm ∧ U.heap = h0) (fun _ _ _ _ _ => True) (fun _ U o U' => ∃ v L, o = .returned v ∧ Q4_t Z o0 d1 d2 d3 o4 w_first_o0 w_second_o0 w_confidence_o0 w_used_o0 w_doubt_o0 z20 z31 c44_z7 c44_z14 h0 n0 v U'.heap L ∧ FrameEnd U o U' L ({ frames := 2, cells := 1, slots := 7, locals := 35 } : Room).cells ({ frames := 2, cells := 1, slots := 7, locals := 35 } : Room).slots) := by
  refine MetFree.of_bodySF (plainFor_of_name pn_1) hisR ?_
  intro p e s m args below meth c s₁ Bd hml0 hP hK
  obtain ⟨rfl, hZ, hh⟩ := hP
  have hx := Bd.exec
  have hby := Bd.bytes
  have hml : c.maxLocals = 8 := hml0
  have hown : s.vm.findClass "com/example/vetrino/vetrino/PairShift" = some m.cls := findClass_of_methodNamed Bd.named
  have hnm := (name_of_methodNamed Bd.named Bd.method).1
  have X0 : Stand p l e ({ frames := 2, cells := 1, slots := 7, locals := 35 } : Room) s m #[(.ref o0), (.double d1), (.double d2), (.double d3), (.ref o4)] below meth c s₁ [] 0 0 := Stand.of_body Bd
  have e0 : s₁.heap = h0 := by rw [← hh, Bd.state]; rfl
  have N0 := Fr.nil n0
  have c0 : ∀ t, Steps p.tables e below (s₁.setTop (mkF m 0 #[.val (.ref o0), .val (.double d1), .second, .val (.double d2), .second, .val (.double d3), .second, .val (.ref o4)] [])) t → Steps p.tables e below (s₁.setTop (entryFrame m #[(.ref o0), (.double d1), (.double d2), (.double d3), (.ref o4)] 8)) t := fun t k => castTop (ef_rm4_t m o0 d1 d2 d3 o4) k
  obtain ⟨T1, h1, X1, e1, E1, A1, D1, -, st1⟩ := newO X0 hx hZ hown (hw _ (List.mem_of_getElem? (i := 36) rfl)) (hw _ (List.mem_of_getElem? (i := 9) rfl)) (hw _ (List.mem_of_getElem? (i := 10) rfl)) e0 (g := (mkF m 0 #[.val (.ref o0), .val (.double d1), .second, .val (.double d2), .second, .val (.double d3), .second, .val (.ref o4)] [])) rfl (hb hby d4_0) (by decide) (by decide)
  obtain ⟨b1, g1⟩ : ∃ z, z = h0.size := ⟨_, rfl⟩
  rw [← g1] at A1 D1 st1
  have gn1 : n0 ≤ b1 := Nat.le_trans Z0 (Nat.le_of_eq g1.symm)
  have gz1 : h0.size ≤ b1 := Nat.le_trans ((Keep.refl h0 [])).1 (Nat.le_of_eq g1.symm)
  have K2 : Keep h0 h1 [] := (Keep.refl h0 []).ext E1
  have F1_first : Fld Z h1 b1 "com/example/vetrino/vetrino/PairShift" "first" "I" (.int (0 : Int32)) := D1 (Or.inr (hw _ (List.mem_of_getElem? (i := 18) rfl))) (ty := .int) (by decide)
  have F1_second : Fld Z h1 b1 "com/example/vetrino/vetrino/PairShift" "second" "I" (.int (0 : Int32)) := D1 (Or.inr (hw _ (List.mem_of_getElem? (i := 20) rfl))) (ty := .int) (by decide)
  have F1_dx : Fld Z h1 b1 "com/example/vetrino/vetrino/PairShift" "dx" "D" (.double (0 : UInt64)) := D1 (Or.inr (hw _ (List.mem_of_getElem? (i := 22) rfl))) (ty := .double) (by decide)
  have F1_dy : Fld Z h1 b1 "com/example/vetrino/vetrino/PairShift" "dy" "D" (.double (0 : UInt64)) := D1 (Or.inr (hw _ (List.mem_of_getElem? (i := 24) rfl))) (ty := .double) (by decide)
  have F1_confidence : Fld Z h1 b1 "com/example/vetrino/vetrino/PairShift" "confidence" "D" (.double (0 : UInt64)) := D1 (Or.inr (hw _ (List.mem_of_getElem? (i := 26) rfl))) (ty := .double) (by decide)
  have F1_used : Fld Z h1 b1 "com/example/vetrino/vetrino/PairShift" "used" "Z" (.int (0 : Int32)) := D1 (Or.inr (hw _ (List.mem_of_getElem? (i := 28) rfl))) (ty := .boolean) (by decide)
  have F1_doubt : Fld Z h1 b1 "com/example/vetrino/vetrino/PairShift" "doubt" "Lcom/example/vetrino/vetrino/PairShift$Doubt;" .null := D1 (Or.inr (hw _ (List.mem_of_getElem? (i := 30) rfl))) (ty := (.object "com/example/vetrino/vetrino/PairShift$Doubt")) (by decide)
  have f3 := (F_first_o0.ext E1)
  obtain ⟨T4, X4, e4, st4⟩ := getF X1 hx hZ hown (host := "") (Or.inl (hw _ (List.mem_of_getElem? (i := 17) rfl))) Via.refl e1 f3 (g := (mkF m 5 #[.val (.ref o0), .val (.double d1), .second, .val (.double d2), .second, .val (.double d3), .second, .val (.ref o4)] [(.ref o0), (.ref b1), (.ref b1)])) rfl rfl (hb hby d4_5)
  have f5 := (F_second_o0.ext E1)
  obtain ⟨T6, X6, e6, st6⟩ := getF X4 hx hZ hown (host := "") (Or.inl (hw _ (List.mem_of_getElem? (i := 19) rfl))) Via.refl e4 f5 (g := (mkF m 9 #[.val (.ref o0), .val (.double d1), .second, .val (.double d2), .second, .val (.double d3), .second, .val (.ref o4)] [(.ref o0), (.int w_first_o0), (.ref b1), (.ref b1)])) rfl rfl (hb hby d4_9)
  have f7 := (F_confidence_o0.ext E1)
  obtain ⟨T8, X8, e8, st8⟩ := getF X6 hx hZ hown (host := "") (Or.inl (hw _ (List.mem_of_getElem? (i := 25) rfl))) Via.refl e6 f7 (g := (mkF m 15 #[.val (.ref o0), .val (.double d1), .second, .val (.double d2), .second, .val (.double d3), .second, .val (.ref o4)] [(.ref o0), (.double d2), (.double d1), (.int w_second_o0), (.int w_first_o0), (.ref b1), (.ref b1)])) rfl rfl (hb hby d4_15)
  have f9 := (F_used_o0.ext E1)
  obtain ⟨T10, X10, e10, st10⟩ := getF X8 hx hZ hown (host := "") (Or.inl (hw _ (List.mem_of_getElem? (i := 27) rfl))) Via.refl e8 f9 (g := (mkF m 22 #[.val (.ref o0), .val (.double d1), .second, .val (.double d2), .second, .val (.double d3), .second, .val (.ref o4)] [(.ref o0), (.double z20), (.double d2), (.double d1), (.int w_second_o0), (.int w_first_o0), (.ref b1), (.ref b1)])) rfl rfl (hb hby d4_22)
  obtain ⟨T11, X11, e11, st11⟩ := getF X10 hx hZ hown (host := "") (Or.inl (hw _ (List.mem_of_getElem? (i := 25) rfl))) Via.refl e10 f7 (g := (mkF m 28 #[.val (.ref o0), .val (.double d1), .second, .val (.double d2), .second, .val (.double d3), .second, .val (.ref o4)] [(.ref o0), (.double d3), (.int w_used_o0), (.double z20), (.double d2), (.double d1), (.int w_second_o0), (.int w_first_o0), (.ref b1), (.ref b1)])) rfl rfl (hb hby d4_28)
  have f12 := (F_doubt_o0.ext E1)
  obtain ⟨T13, X13, e13, st13⟩ := getF X11 hx hZ hown (host := "") (Or.inl (hw _ (List.mem_of_getElem? (i := 29) rfl))) Via.refl e11 f12 (g := (mkF m 41 #[.val (.ref o0), .val (.double d1), .second, .val (.double d2), .second, .val (.double d3), .second, .val (.ref o4)] [(.ref o0), (.int w_used_o0), (.double z20), (.double d2), (.double d1), (.int w_second_o0), (.int w_first_o0), (.ref b1), (.ref b1)])) rfl rfl (hb hby d4_41)
  obtain ⟨_, _, ⟨T14, L14, k14, n14⟩, -, X14, ⟨Lc14, hQ14, ql14, qy14, qz14⟩, st14⟩ := X13.specialBack hx (y := (⟨"com/example/vetrino/vetrino/PairShift", "<init>", "(IIDDDZLcom/example/vetrino/vetrino/PairShift$Doubt;)V"⟩ : MethodName)) rfl hown (mvT hZ (hw _ (List.mem_of_getElem? (i := 37) rfl))) (mvT hZ (hw _ (List.mem_of_getElem? (i := 12) rfl))) (mvT hZ (hw _ (List.mem_of_getElem? (i := 13) rfl))) (by decide) (backOf (W := 1) (rm2 l Z a0 hw [] b1 w_first_o0 w_second_o0 d1 d2 z20 w_used_o0 w_doubt_o0 ((.int (0 : Int32))) ((.int (0 : Int32))) ((.double (0 : UInt64))) ((.double (0 : UInt64))) ((.double (0 : UInt64))) ((.int (0 : Int32))) (.null) c44_z7 c44_z14 h1 n0 (Nat.le_trans Z0 E1.1) A1 F1_first gn1 F1_second F1_dx F1_dy F1_confidence F1_used F1_doubt hc44_z7 hc44_z14 c44_br8 c44_br15 c44_na63 c44_fi63) hZ (hw _ (List.mem_of_getElem? (i := 13) rfl)) (hw _ (List.mem_of_getElem? (i := 10) rfl)) (by decide) (by decide)) (g := (mkF m 44 #[.val (.ref o0), .val (.double d1), .second, .val (.double d2), .second, .val (.double d3), .second, .val (.ref o4)] [(.ref w_doubt_o0), (.int w_used_o0), (.double z20), (.double d2), (.double d1), (.int w_second_o0), (.int w_first_o0), (.ref b1), (.ref b1)])) rfl (by rw [hml]; rfl) (Steps.refl _) (a := b1) (argsL := [(.int w_first_o0), (.int w_second_o0), (.double d1), (.double d2), (.double z20), (.int w_used_o0), (.ref w_doubt_o0)]) (rest := [(.ref b1)]) (lenOf pd_0 rfl) rfl (by show 2 * 0 + _ ≤ _; exact Nat.le_of_eq rfl) (hb hby d4_44) (fun _ _ => ⟨rfl, e13, (by decide : 1 + 0 ≤ _), (by decide : 7 + 0 ≤ _)⟩)
  dsimp only [Pt.U, Pt.locs, Pt.cells, Pt.slots] at X14 ql14 qy14 qz14 st14 hQ14
  subst ql14 qy14 qz14
  obtain ⟨rfl, N14q, K14q, Q14_0, Q14_1, Q14_2, Q14_3, Q14_4, Q14_5, Q14_6, Q14_7⟩ := hQ14
  have N14 := Fr.app N0 N14q
  have K15 : Keep h0 T14.heap [] := Keep.trans K2 K14q (allS (Or.inr gz1) all0)
  have c16 : ∀ t, Steps p.tables e below (T14.setTop (mkF m 47 #[.val (.ref o0), .val (.double d1), .second, .val (.double d2), .second, .val (.double d3), .second, .val (.ref o4)] [(.ref b1)])) t → Steps p.tables e below (s₁.setTop (entryFrame m #[(.ref o0), (.double d1), (.double d2), (.double d3), (.ref o4)] 8)) t := by
    intro t k
    refine c0 t ?_
    show Steps p.tables e below (s₁.setTop (mkF m 0 #[.val (.ref o0), .val (.double d1), .second, .val (.double d2), .second, .val (.double d3), .second, .val (.ref o4)] [])) _
    refine st1 _ ?_
    show Steps p.tables e below (T1.setTop (mkF m 3 #[.val (.ref o0), .val (.double d1), .second, .val (.double d2), .second, .val (.double d3), .second, .val (.ref o4)] [(.ref b1)])) _
    refine XS.dup X1.here hx rfl (hb hby d4_3) rfl rfl ?_
    show Steps p.tables e below (T1.setTop (mkF m 4 #[.val (.ref o0), .val (.double d1), .second, .val (.double d2), .second, .val (.double d3), .second, .val (.ref o4)] [(.ref b1), (.ref b1)])) _
    refine XS.aloadN X1.here hx rfl (hb hby d4_4) rfl rfl ?_
    show Steps p.tables e below (T1.setTop (mkF m 5 #[.val (.ref o0), .val (.double d1), .second, .val (.double d2), .second, .val (.double d3), .second, .val (.ref o4)] [(.ref o0), (.ref b1), (.ref b1)])) _
    refine st4 _ ?_
    show Steps p.tables e below (T4.setTop (mkF m 8 #[.val (.ref o0), .val (.double d1), .second, .val (.double d2), .second, .val (.double d3), .second, .val (.ref o4)] [(.int w_first_o0), (.ref b1), (.ref b1)])) _
    refine XS.aloadN X4.here hx rfl (hb hby d4_8) rfl rfl ?_
    show Steps p.tables e below (T4.setTop (mkF m 9 #[.val (.ref o0), .val (.double d1), .second, .val (.double d2), .second, .val (.double d3), .second, .val (.ref o4)] [(.ref o0), (.int w_first_o0), (.ref b1), (.ref b1)])) _
    refine st6 _ ?_
    show Steps p.tables e below (T6.setTop (mkF m 12 #[.val (.ref o0), .val (.double d1), .second, .val (.double d2), .second, .val (.double d3), .second, .val (.ref o4)] [(.int w_second_o0), (.int w_first_o0), (.ref b1), (.ref b1)])) _
    refine XS.dloadN X6.here hx rfl (hb hby d4_12) rfl ?_
    show Steps p.tables e below (T6.setTop (mkF m 13 #[.val (.ref o0), .val (.double d1), .second, .val (.double d2), .second, .val (.double d3), .second, .val (.ref o4)] [(.double d1), (.int w_second_o0), (.int w_first_o0), (.ref b1), (.ref b1)])) _
    refine XS.dloadN X6.here hx rfl (hb hby d4_13) rfl ?_
    show Steps p.tables e below (T6.setTop (mkF m 14 #[.val (.ref o0), .val (.double d1), .second, .val (.double d2), .second, .val (.double d3), .second, .val (.ref o4)] [(.double d2), (.double d1), (.int w_second_o0), (.int w_first_o0), (.ref b1), (.ref b1)])) _
    refine XS.aloadN X6.here hx rfl (hb hby d4_14) rfl rfl ?_
    show Steps p.tables e below (T6.setTop (mkF m 15 #[.val (.ref o0), .val (.double d1), .second, .val (.double d2), .second, .val (.double d3), .second, .val (.ref o4)] [(.ref o0), (.double d2), (.double d1), (.int w_second_o0), (.int w_first_o0), (.ref b1), (.ref b1)])) _
    refine st8 _ ?_
    show Steps p.tables e below (T8.setTop (mkF m 18 #[.val (.ref o0), .val (.double d1), .second, .val (.double d2), .second, .val (.double d3), .second, .val (.ref o4)] [(.double w_confidence_o0), (.double d2), (.double d1), (.int w_second_o0), (.int w_first_o0), (.ref b1), (.ref b1)])) _
    refine XS.dload X8.here hx rfl (hb hby d4_18) rfl ?_
    show Steps p.tables e below (T8.setTop (mkF m 20 #[.val (.ref o0), .val (.double d1), .second, .val (.double d2), .second, .val (.double d3), .second, .val (.ref o4)] [(.double d3), (.double w_confidence_o0), (.double d2), (.double d1), (.int w_second_o0), (.int w_first_o0), (.ref b1), (.ref b1)])) _
    refine Jvm.OwnK.dmul X8.here hx rfl (hb hby d4_20) rfl hz20 nn20 ?_
    show Steps p.tables e below (T8.setTop (mkF m 21 #[.val (.ref o0), .val (.double d1), .second, .val (.double d2), .second, .val (.double d3), .second, .val (.ref o4)] [(.double z20), (.double d2), (.double d1), (.int w_second_o0), (.int w_first_o0), (.ref b1), (.ref b1)])) _
    refine XS.aloadN X8.here hx rfl (hb hby d4_21) rfl rfl ?_
    show Steps p.tables e below (T8.setTop (mkF m 22 #[.val (.ref o0), .val (.double d1), .second, .val (.double d2), .second, .val (.double d3), .second, .val (.ref o4)] [(.ref o0), (.double z20), (.double d2), (.double d1), (.int w_second_o0), (.int w_first_o0), (.ref b1), (.ref b1)])) _
    refine st10 _ ?_
    show Steps p.tables e below (T10.setTop (mkF m 25 #[.val (.ref o0), .val (.double d1), .second, .val (.double d2), .second, .val (.double d3), .second, .val (.ref o4)] [(.int w_used_o0), (.double z20), (.double d2), (.double d1), (.int w_second_o0), (.int w_first_o0), (.ref b1), (.ref b1)])) _
    refine XS.dload X10.here hx rfl (hb hby d4_25) rfl ?_
    show Steps p.tables e below (T10.setTop (mkF m 27 #[.val (.ref o0), .val (.double d1), .second, .val (.double d2), .second, .val (.double d3), .second, .val (.ref o4)] [(.double d3), (.int w_used_o0), (.double z20), (.double d2), (.double d1), (.int w_second_o0), (.int w_first_o0), (.ref b1), (.ref b1)])) _
    refine XS.aloadN X10.here hx rfl (hb hby d4_27) rfl rfl ?_
    show Steps p.tables e below (T10.setTop (mkF m 28 #[.val (.ref o0), .val (.double d1), .second, .val (.double d2), .second, .val (.double d3), .second, .val (.ref o4)] [(.ref o0), (.double d3), (.int w_used_o0), (.double z20), (.double d2), (.double d1), (.int w_second_o0), (.int w_first_o0), (.ref b1), (.ref b1)])) _
    refine st11 _ ?_
    show Steps p.tables e below (T11.setTop (mkF m 31 #[.val (.ref o0), .val (.double d1), .second, .val (.double d2), .second, .val (.double d3), .second, .val (.ref o4)] [(.double w_confidence_o0), (.double d3), (.int w_used_o0), (.double z20), (.double d2), (.double d1), (.int w_second_o0), (.int w_first_o0), (.ref b1), (.ref b1)])) _
    refine XS.dcmpS X11.here hx rfl (hb hby d4_31) rfl hz31 ?_
    show Steps p.tables e below (T11.setTop (mkF m 32 #[.val (.ref o0), .val (.double d1), .second, .val (.double d2), .second, .val (.double d3), .second, .val (.ref o4)] [(.int z31), (.int w_used_o0), (.double z20), (.double d2), (.double d1), (.int w_second_o0), (.int w_first_o0), (.ref b1), (.ref b1)])) _
    refine XS.ifYes X11.here hx rfl (pc0 := 32) (pc' := 40) rfl (hb hby d4_32) rfl (Jvm.Free.XT.i0_ge_t br32) (by decide) (by decide) ?_
    show Steps p.tables e below (T11.setTop (mkF m 40 #[.val (.ref o0), .val (.double d1), .second, .val (.double d2), .second, .val (.double d3), .second, .val (.ref o4)] [(.int w_used_o0), (.double z20), (.double d2), (.double d1), (.int w_second_o0), (.int w_first_o0), (.ref b1), (.ref b1)])) _
    refine XS.aloadN X11.here hx rfl (hb hby d4_40) rfl rfl ?_
    show Steps p.tables e below (T11.setTop (mkF m 41 #[.val (.ref o0), .val (.double d1), .second, .val (.double d2), .second, .val (.double d3), .second, .val (.ref o4)] [(.ref o0), (.int w_used_o0), (.double z20), (.double d2), (.double d1), (.int w_second_o0), (.int w_first_o0), (.ref b1), (.ref b1)])) _
    refine st13 _ ?_
    show Steps p.tables e below (T13.setTop (mkF m 44 #[.val (.ref o0), .val (.double d1), .second, .val (.double d2), .second, .val (.double d3), .second, .val (.ref o4)] [(.ref w_doubt_o0), (.int w_used_o0), (.double z20), (.double d2), (.double d1), (.int w_second_o0), (.int w_first_o0), (.ref b1), (.ref b1)])) _
    refine st14.trans ?_
    exact k
  obtain ⟨fs, hr, hrun, hended, hW, hsame⟩ := X14.leave (v := some (.ref b1)) (fun h => by rw [Bd.returns] at h; cases h)
  refine ⟨_, _, c16 _ ?_, hrun, hended, _, _, rfl, ?_, ⟨_, rfl⟩, hW, hsame.mono (by decide) (by decide)⟩
  · show Steps p.tables e below (T14.setTop (mkF m 47 #[.val (.ref o0), .val (.double d1), .second, .val (.double d2), .second, .val (.double d3), .second, .val (.ref o4)] [(.ref b1)])) _
    exact retOut X14 hx Bd.returns rfl (Or.inr (Or.inr (Or.inr (Or.inr ⟨rfl, rfl, rfl⟩)))) (hb hby d4_47) hr
  · show Q4_t Z o0 d1 d2 d3 o4 w_first_o0 w_second_o0 w_confidence_o0 w_used_o0 w_doubt_o0 z20 z31 c44_z7 c44_z14 h0 n0 _ T14.heap _
    exact ⟨b1, rfl, N14, gz1, K15, Q14_0, Q14_1, Q14_2, Q14_3, Q14_4, Q14_5, Q14_6, Q14_7⟩
def Q5 (Z : State) (o0 : Addr) (w_first_o0 : Int32)  (h0 : Heap) (n0 : Nat) (v : Option Value) (h : Heap) (L : List Loc) : Prop := v = some (.int w_first_o0) ∧ Fr n0 L ∧ h = h0
set_option maxRecDepth 65536 in
set_option maxHeartbeats 40000000 in
theorem rm5 (l : Launch) (Z : State) (a0 : Array Value) (hw : ∀ d ∈ tables_1, d.before a0 Z = true) (ws : List Jvm.Cond) (o0 : Addr) (w_first_o0 : Int32)  (h0 : Heap) (n0 : Nat) (Z0 : n0 ≤ h0.size) (F_first_o0 : Fld Z h0 o0 "com/example/vetrino/vetrino/PairShift" "first" "I" (.int w_first_o0)) :
    MetFree l (⟨"com/example/vetrino/vetrino/PairShift", "first", "()I"⟩ : MethodName) (head1 (Jvm.Cond.code (⟨"com/example/vetrino/vetrino/PairShift", "first", "()I"⟩ : MethodName) prog_8_method_3_code 1 (some .int) :: ws) ({ frames := 0, cells := 0, slots := 0, locals := 0 } : Room)) (fun a U => a = #[(.ref o0)] ∧ Z.Warmed39 U.vm ∧ U.heap = h0) (fun _ _ _ _ _ => True) (fun _ U o U' => ∃ v L, o = .returned v ∧ Q5 Z o0 w_first_o0  h0 n0 v U'.heap L ∧ FrameEnd U o U' L ({ frames := 0, cells := 0, slots := 0, locals := 0 } : Room).cells ({ frames := 0, cells := 0, slots := 0, locals := 0 } : Room).slots) := by
  refine MetFree.of_bodySF (plainFor_of_name pn_1) hisR ?_
  intro p e s m args below meth c s₁ Bd hml0 hP hK
  obtain ⟨rfl, hZ, hh⟩ := hP
  have hx := Bd.exec
  have hby := Bd.bytes
  have hml : c.maxLocals = 1 := hml0
  have hown : s.vm.findClass "com/example/vetrino/vetrino/PairShift" = some m.cls := findClass_of_methodNamed Bd.named
  have hnm := (name_of_methodNamed Bd.named Bd.method).1
  have X0 : Stand p l e ({ frames := 0, cells := 0, slots := 0, locals := 0 } : Room) s m #[(.ref o0)] below meth c s₁ [] 0 0 := Stand.of_body Bd
  have e0 : s₁.heap = h0 := by rw [← hh, Bd.state]; rfl
  have N0 := Fr.nil n0
  have c0 : ∀ t, Steps p.tables e below (s₁.setTop (mkF m 0 #[.val (.ref o0)] [])) t → Steps p.tables e below (s₁.setTop (entryFrame m #[(.ref o0)] 1)) t := fun t k => castTop (ef_rm5 m o0) k
  obtain ⟨T1, X1, e1, st1⟩ := getF X0 hx hZ hown (host := "") (Or.inl (hw _ (List.mem_of_getElem? (i := 17) rfl))) Via.refl e0 F_first_o0 (g := (mkF m 1 #[.val (.ref o0)] [(.ref o0)])) rfl rfl (hb hby d5_1)
  have c2 : ∀ t, Steps p.tables e below (T1.setTop (mkF m 4 #[.val (.ref o0)] [(.int w_first_o0)])) t → Steps p.tables e below (s₁.setTop (entryFrame m #[(.ref o0)] 1)) t := by
    intro t k
    refine c0 t ?_
    show Steps p.tables e below (s₁.setTop (mkF m 0 #[.val (.ref o0)] [])) _
    refine XS.aloadN X0.here hx rfl (hb hby d5_0) rfl rfl ?_
    show Steps p.tables e below (s₁.setTop (mkF m 1 #[.val (.ref o0)] [(.ref o0)])) _
    refine st1 _ ?_
    exact k
  obtain ⟨fs, hr, hrun, hended, hW, hsame⟩ := X1.leave (v := some (.int w_first_o0)) (fun h => by rw [Bd.returns] at h; cases h)
  refine ⟨_, _, c2 _ ?_, hrun, hended, _, _, rfl, ?_, ⟨_, rfl⟩, hW, hsame.mono (by decide) (by decide)⟩
  · show Steps p.tables e below (T1.setTop (mkF m 4 #[.val (.ref o0)] [(.int w_first_o0)])) _
    exact retOut X1 hx Bd.returns rfl (Or.inl ⟨rfl, by simp, _, rfl⟩) (hb hby d5_4) hr
  · show Q5 Z o0 w_first_o0  h0 n0 _ T1.heap _
    rw [e1]
    exact ⟨rfl, N0, rfl⟩
def Q6 (Z : State) (o0 : Addr) (w_second_o0 : Int32)  (h0 : Heap) (n0 : Nat) (v : Option Value) (h : Heap) (L : List Loc) : Prop := v = some (.int w_second_o0) ∧ Fr n0 L ∧ h = h0
set_option maxRecDepth 65536 in
set_option maxHeartbeats 40000000 in
theorem rm6 (l : Launch) (Z : State) (a0 : Array Value) (hw : ∀ d ∈ tables_1, d.before a0 Z = true) (ws : List Jvm.Cond) (o0 : Addr) (w_second_o0 : Int32)  (h0 : Heap) (n0 : Nat) (Z0 : n0 ≤ h0.size) (F_second_o0 : Fld Z h0 o0 "com/example/vetrino/vetrino/PairShift" "second" "I" (.int w_second_o0)) :
    MetFree l (⟨"com/example/vetrino/vetrino/PairShift", "second", "()I"⟩ : MethodName) (head1 (Jvm.Cond.code (⟨"com/example/vetrino/vetrino/PairShift", "second", "()I"⟩ : MethodName) prog_8_method_4_code 1 (some .int) :: ws) ({ frames := 0, cells := 0, slots := 0, locals := 0 } : Room)) (fun a U => a = #[(.ref o0)] ∧ Z.Warmed39 U.vm ∧ U.heap = h0) (fun _ _ _ _ _ => True) (fun _ U o U' => ∃ v L, o = .returned v ∧ Q6 Z o0 w_second_o0  h0 n0 v U'.heap L ∧ FrameEnd U o U' L ({ frames := 0, cells := 0, slots := 0, locals := 0 } : Room).cells ({ frames := 0, cells := 0, slots := 0, locals := 0 } : Room).slots) := by
  refine MetFree.of_bodySF (plainFor_of_name pn_1) hisR ?_
  intro p e s m args below meth c s₁ Bd hml0 hP hK
  obtain ⟨rfl, hZ, hh⟩ := hP
  have hx := Bd.exec
  have hby := Bd.bytes
  have hml : c.maxLocals = 1 := hml0
  have hown : s.vm.findClass "com/example/vetrino/vetrino/PairShift" = some m.cls := findClass_of_methodNamed Bd.named
  have hnm := (name_of_methodNamed Bd.named Bd.method).1
  have X0 : Stand p l e ({ frames := 0, cells := 0, slots := 0, locals := 0 } : Room) s m #[(.ref o0)] below meth c s₁ [] 0 0 := Stand.of_body Bd
  have e0 : s₁.heap = h0 := by rw [← hh, Bd.state]; rfl
  have N0 := Fr.nil n0
  have c0 : ∀ t, Steps p.tables e below (s₁.setTop (mkF m 0 #[.val (.ref o0)] [])) t → Steps p.tables e below (s₁.setTop (entryFrame m #[(.ref o0)] 1)) t := fun t k => castTop (ef_rm6 m o0) k
  obtain ⟨T1, X1, e1, st1⟩ := getF X0 hx hZ hown (host := "") (Or.inl (hw _ (List.mem_of_getElem? (i := 19) rfl))) Via.refl e0 F_second_o0 (g := (mkF m 1 #[.val (.ref o0)] [(.ref o0)])) rfl rfl (hb hby d6_1)
  have c2 : ∀ t, Steps p.tables e below (T1.setTop (mkF m 4 #[.val (.ref o0)] [(.int w_second_o0)])) t → Steps p.tables e below (s₁.setTop (entryFrame m #[(.ref o0)] 1)) t := by
    intro t k
    refine c0 t ?_
    show Steps p.tables e below (s₁.setTop (mkF m 0 #[.val (.ref o0)] [])) _
    refine XS.aloadN X0.here hx rfl (hb hby d6_0) rfl rfl ?_
    show Steps p.tables e below (s₁.setTop (mkF m 1 #[.val (.ref o0)] [(.ref o0)])) _
    refine st1 _ ?_
    exact k
  obtain ⟨fs, hr, hrun, hended, hW, hsame⟩ := X1.leave (v := some (.int w_second_o0)) (fun h => by rw [Bd.returns] at h; cases h)
  refine ⟨_, _, c2 _ ?_, hrun, hended, _, _, rfl, ?_, ⟨_, rfl⟩, hW, hsame.mono (by decide) (by decide)⟩
  · show Steps p.tables e below (T1.setTop (mkF m 4 #[.val (.ref o0)] [(.int w_second_o0)])) _
    exact retOut X1 hx Bd.returns rfl (Or.inl ⟨rfl, by simp, _, rfl⟩) (hb hby d6_4) hr
  · show Q6 Z o0 w_second_o0  h0 n0 _ T1.heap _
    rw [e1]
    exact ⟨rfl, N0, rfl⟩
def Q7 (Z : State) (o0 : Addr) (w_dx_o0 : UInt64)  (h0 : Heap) (n0 : Nat) (v : Option Value) (h : Heap) (L : List Loc) : Prop := v = some (.double w_dx_o0) ∧ Fr n0 L ∧ h = h0
set_option maxRecDepth 65536 in
set_option maxHeartbeats 40000000 in
theorem rm7 (l : Launch) (Z : State) (a0 : Array Value) (hw : ∀ d ∈ tables_1, d.before a0 Z = true) (ws : List Jvm.Cond) (o0 : Addr) (w_dx_o0 : UInt64)  (h0 : Heap) (n0 : Nat) (Z0 : n0 ≤ h0.size) (F_dx_o0 : Fld Z h0 o0 "com/example/vetrino/vetrino/PairShift" "dx" "D" (.double w_dx_o0)) :
    MetFree l (⟨"com/example/vetrino/vetrino/PairShift", "dx", "()D"⟩ : MethodName) (head1 (Jvm.Cond.code (⟨"com/example/vetrino/vetrino/PairShift", "dx", "()D"⟩ : MethodName) prog_8_method_5_code 1 (some .double) :: ws) ({ frames := 0, cells := 0, slots := 0, locals := 0 } : Room)) (fun a U => a = #[(.ref o0)] ∧ Z.Warmed39 U.vm ∧ U.heap = h0) (fun _ _ _ _ _ => True) (fun _ U o U' => ∃ v L, o = .returned v ∧ Q7 Z o0 w_dx_o0  h0 n0 v U'.heap L ∧ FrameEnd U o U' L ({ frames := 0, cells := 0, slots := 0, locals := 0 } : Room).cells ({ frames := 0, cells := 0, slots := 0, locals := 0 } : Room).slots) := by
  refine MetFree.of_bodySF (plainFor_of_name pn_1) hisR ?_
  intro p e s m args below meth c s₁ Bd hml0 hP hK
  obtain ⟨rfl, hZ, hh⟩ := hP
  have hx := Bd.exec
  have hby := Bd.bytes
  have hml : c.maxLocals = 1 := hml0
  have hown : s.vm.findClass "com/example/vetrino/vetrino/PairShift" = some m.cls := findClass_of_methodNamed Bd.named
  have hnm := (name_of_methodNamed Bd.named Bd.method).1
  have X0 : Stand p l e ({ frames := 0, cells := 0, slots := 0, locals := 0 } : Room) s m #[(.ref o0)] below meth c s₁ [] 0 0 := Stand.of_body Bd
  have e0 : s₁.heap = h0 := by rw [← hh, Bd.state]; rfl
  have N0 := Fr.nil n0
  have c0 : ∀ t, Steps p.tables e below (s₁.setTop (mkF m 0 #[.val (.ref o0)] [])) t → Steps p.tables e below (s₁.setTop (entryFrame m #[(.ref o0)] 1)) t := fun t k => castTop (ef_rm7 m o0) k
  obtain ⟨T1, X1, e1, st1⟩ := getF X0 hx hZ hown (host := "") (Or.inl (hw _ (List.mem_of_getElem? (i := 21) rfl))) Via.refl e0 F_dx_o0 (g := (mkF m 1 #[.val (.ref o0)] [(.ref o0)])) rfl rfl (hb hby d7_1)
  have c2 : ∀ t, Steps p.tables e below (T1.setTop (mkF m 4 #[.val (.ref o0)] [(.double w_dx_o0)])) t → Steps p.tables e below (s₁.setTop (entryFrame m #[(.ref o0)] 1)) t := by
    intro t k
    refine c0 t ?_
    show Steps p.tables e below (s₁.setTop (mkF m 0 #[.val (.ref o0)] [])) _
    refine XS.aloadN X0.here hx rfl (hb hby d7_0) rfl rfl ?_
    show Steps p.tables e below (s₁.setTop (mkF m 1 #[.val (.ref o0)] [(.ref o0)])) _
    refine st1 _ ?_
    exact k
  obtain ⟨fs, hr, hrun, hended, hW, hsame⟩ := X1.leave (v := some (.double w_dx_o0)) (fun h => by rw [Bd.returns] at h; cases h)
  refine ⟨_, _, c2 _ ?_, hrun, hended, _, _, rfl, ?_, ⟨_, rfl⟩, hW, hsame.mono (by decide) (by decide)⟩
  · show Steps p.tables e below (T1.setTop (mkF m 4 #[.val (.ref o0)] [(.double w_dx_o0)])) _
    exact retOut X1 hx Bd.returns rfl (Or.inr (Or.inr (Or.inl ⟨rfl, rfl, _, rfl⟩))) (hb hby d7_4) hr
  · show Q7 Z o0 w_dx_o0  h0 n0 _ T1.heap _
    rw [e1]
    exact ⟨rfl, N0, rfl⟩
def Q8 (Z : State) (o0 : Addr) (w_dy_o0 : UInt64)  (h0 : Heap) (n0 : Nat) (v : Option Value) (h : Heap) (L : List Loc) : Prop := v = some (.double w_dy_o0) ∧ Fr n0 L ∧ h = h0
set_option maxRecDepth 65536 in
set_option maxHeartbeats 40000000 in
theorem rm8 (l : Launch) (Z : State) (a0 : Array Value) (hw : ∀ d ∈ tables_1, d.before a0 Z = true) (ws : List Jvm.Cond) (o0 : Addr) (w_dy_o0 : UInt64)  (h0 : Heap) (n0 : Nat) (Z0 : n0 ≤ h0.size) (F_dy_o0 : Fld Z h0 o0 "com/example/vetrino/vetrino/PairShift" "dy" "D" (.double w_dy_o0)) :
    MetFree l (⟨"com/example/vetrino/vetrino/PairShift", "dy", "()D"⟩ : MethodName) (head1 (Jvm.Cond.code (⟨"com/example/vetrino/vetrino/PairShift", "dy", "()D"⟩ : MethodName) prog_8_method_6_code 1 (some .double) :: ws) ({ frames := 0, cells := 0, slots := 0, locals := 0 } : Room)) (fun a U => a = #[(.ref o0)] ∧ Z.Warmed39 U.vm ∧ U.heap = h0) (fun _ _ _ _ _ => True) (fun _ U o U' => ∃ v L, o = .returned v ∧ Q8 Z o0 w_dy_o0  h0 n0 v U'.heap L ∧ FrameEnd U o U' L ({ frames := 0, cells := 0, slots := 0, locals := 0 } : Room).cells ({ frames := 0, cells := 0, slots := 0, locals := 0 } : Room).slots) := by
  refine MetFree.of_bodySF (plainFor_of_name pn_1) hisR ?_
  intro p e s m args below meth c s₁ Bd hml0 hP hK
  obtain ⟨rfl, hZ, hh⟩ := hP
  have hx := Bd.exec
  have hby := Bd.bytes
  have hml : c.maxLocals = 1 := hml0
  have hown : s.vm.findClass "com/example/vetrino/vetrino/PairShift" = some m.cls := findClass_of_methodNamed Bd.named
  have hnm := (name_of_methodNamed Bd.named Bd.method).1
  have X0 : Stand p l e ({ frames := 0, cells := 0, slots := 0, locals := 0 } : Room) s m #[(.ref o0)] below meth c s₁ [] 0 0 := Stand.of_body Bd
  have e0 : s₁.heap = h0 := by rw [← hh, Bd.state]; rfl
  have N0 := Fr.nil n0
  have c0 : ∀ t, Steps p.tables e below (s₁.setTop (mkF m 0 #[.val (.ref o0)] [])) t → Steps p.tables e below (s₁.setTop (entryFrame m #[(.ref o0)] 1)) t := fun t k => castTop (ef_rm8 m o0) k
  obtain ⟨T1, X1, e1, st1⟩ := getF X0 hx hZ hown (host := "") (Or.inl (hw _ (List.mem_of_getElem? (i := 23) rfl))) Via.refl e0 F_dy_o0 (g := (mkF m 1 #[.val (.ref o0)] [(.ref o0)])) rfl rfl (hb hby d8_1)
  have c2 : ∀ t, Steps p.tables e below (T1.setTop (mkF m 4 #[.val (.ref o0)] [(.double w_dy_o0)])) t → Steps p.tables e below (s₁.setTop (entryFrame m #[(.ref o0)] 1)) t := by
    intro t k
    refine c0 t ?_
    show Steps p.tables e below (s₁.setTop (mkF m 0 #[.val (.ref o0)] [])) _
    refine XS.aloadN X0.here hx rfl (hb hby d8_0) rfl rfl ?_
    show Steps p.tables e below (s₁.setTop (mkF m 1 #[.val (.ref o0)] [(.ref o0)])) _
    refine st1 _ ?_
    exact k
  obtain ⟨fs, hr, hrun, hended, hW, hsame⟩ := X1.leave (v := some (.double w_dy_o0)) (fun h => by rw [Bd.returns] at h; cases h)
  refine ⟨_, _, c2 _ ?_, hrun, hended, _, _, rfl, ?_, ⟨_, rfl⟩, hW, hsame.mono (by decide) (by decide)⟩
  · show Steps p.tables e below (T1.setTop (mkF m 4 #[.val (.ref o0)] [(.double w_dy_o0)])) _
    exact retOut X1 hx Bd.returns rfl (Or.inr (Or.inr (Or.inl ⟨rfl, rfl, _, rfl⟩))) (hb hby d8_4) hr
  · show Q8 Z o0 w_dy_o0  h0 n0 _ T1.heap _
    rw [e1]
    exact ⟨rfl, N0, rfl⟩
def Q9 (Z : State) (o0 : Addr) (w_confidence_o0 : UInt64)  (h0 : Heap) (n0 : Nat) (v : Option Value) (h : Heap) (L : List Loc) : Prop := v = some (.double w_confidence_o0) ∧ Fr n0 L ∧ h = h0
set_option maxRecDepth 65536 in
set_option maxHeartbeats 40000000 in
theorem rm9 (l : Launch) (Z : State) (a0 : Array Value) (hw : ∀ d ∈ tables_1, d.before a0 Z = true) (ws : List Jvm.Cond) (o0 : Addr) (w_confidence_o0 : UInt64)  (h0 : Heap) (n0 : Nat) (Z0 : n0 ≤ h0.size) (F_confidence_o0 : Fld Z h0 o0 "com/example/vetrino/vetrino/PairShift" "confidence" "D" (.double w_confidence_o0)) :
    MetFree l (⟨"com/example/vetrino/vetrino/PairShift", "confidence", "()D"⟩ : MethodName) (head1 (Jvm.Cond.code (⟨"com/example/vetrino/vetrino/PairShift", "confidence", "()D"⟩ : MethodName) prog_8_method_7_code 1 (some .double) :: ws) ({ frames := 0, cells := 0, slots := 0, locals := 0 } : Room)) (fun a U => a = #[(.ref o0)] ∧ Z.Warmed39 U.vm ∧ U.heap = h0) (fun _ _ _ _ _ => True) (fun _ U o U' => ∃ v L, o = .returned v ∧ Q9 Z o0 w_confidence_o0  h0 n0 v U'.heap L ∧ FrameEnd U o U' L ({ frames := 0, cells := 0, slots := 0, locals := 0 } : Room).cells ({ frames := 0, cells := 0, slots := 0, locals := 0 } : Room).slots) := by
  refine MetFree.of_bodySF (plainFor_of_name pn_1) hisR ?_
  intro p e s m args below meth c s₁ Bd hml0 hP hK
  obtain ⟨rfl, hZ, hh⟩ := hP
  have hx := Bd.exec
  have hby := Bd.bytes
  have hml : c.maxLocals = 1 := hml0
  have hown : s.vm.findClass "com/example/vetrino/vetrino/PairShift" = some m.cls := findClass_of_methodNamed Bd.named
  have hnm := (name_of_methodNamed Bd.named Bd.method).1
  have X0 : Stand p l e ({ frames := 0, cells := 0, slots := 0, locals := 0 } : Room) s m #[(.ref o0)] below meth c s₁ [] 0 0 := Stand.of_body Bd
  have e0 : s₁.heap = h0 := by rw [← hh, Bd.state]; rfl
  have N0 := Fr.nil n0
  have c0 : ∀ t, Steps p.tables e below (s₁.setTop (mkF m 0 #[.val (.ref o0)] [])) t → Steps p.tables e below (s₁.setTop (entryFrame m #[(.ref o0)] 1)) t := fun t k => castTop (ef_rm9 m o0) k
  obtain ⟨T1, X1, e1, st1⟩ := getF X0 hx hZ hown (host := "") (Or.inl (hw _ (List.mem_of_getElem? (i := 25) rfl))) Via.refl e0 F_confidence_o0 (g := (mkF m 1 #[.val (.ref o0)] [(.ref o0)])) rfl rfl (hb hby d9_1)
  have c2 : ∀ t, Steps p.tables e below (T1.setTop (mkF m 4 #[.val (.ref o0)] [(.double w_confidence_o0)])) t → Steps p.tables e below (s₁.setTop (entryFrame m #[(.ref o0)] 1)) t := by
    intro t k
    refine c0 t ?_
    show Steps p.tables e below (s₁.setTop (mkF m 0 #[.val (.ref o0)] [])) _
    refine XS.aloadN X0.here hx rfl (hb hby d9_0) rfl rfl ?_
    show Steps p.tables e below (s₁.setTop (mkF m 1 #[.val (.ref o0)] [(.ref o0)])) _
    refine st1 _ ?_
    exact k
  obtain ⟨fs, hr, hrun, hended, hW, hsame⟩ := X1.leave (v := some (.double w_confidence_o0)) (fun h => by rw [Bd.returns] at h; cases h)
  refine ⟨_, _, c2 _ ?_, hrun, hended, _, _, rfl, ?_, ⟨_, rfl⟩, hW, hsame.mono (by decide) (by decide)⟩
  · show Steps p.tables e below (T1.setTop (mkF m 4 #[.val (.ref o0)] [(.double w_confidence_o0)])) _
    exact retOut X1 hx Bd.returns rfl (Or.inr (Or.inr (Or.inl ⟨rfl, rfl, _, rfl⟩))) (hb hby d9_4) hr
  · show Q9 Z o0 w_confidence_o0  h0 n0 _ T1.heap _
    rw [e1]
    exact ⟨rfl, N0, rfl⟩
def Q10 (Z : State) (o0 : Addr) (w_used_o0 : Int32)  (h0 : Heap) (n0 : Nat) (v : Option Value) (h : Heap) (L : List Loc) : Prop := v = some (.int w_used_o0) ∧ Fr n0 L ∧ h = h0
set_option maxRecDepth 65536 in
set_option maxHeartbeats 40000000 in
theorem rm10 (l : Launch) (Z : State) (a0 : Array Value) (hw : ∀ d ∈ tables_1, d.before a0 Z = true) (ws : List Jvm.Cond) (o0 : Addr) (w_used_o0 : Int32)  (h0 : Heap) (n0 : Nat) (Z0 : n0 ≤ h0.size) (F_used_o0 : Fld Z h0 o0 "com/example/vetrino/vetrino/PairShift" "used" "Z" (.int w_used_o0)) (na4 : narrow .boolean (.int w_used_o0) = (.int w_used_o0)) :
    MetFree l (⟨"com/example/vetrino/vetrino/PairShift", "used", "()Z"⟩ : MethodName) (head1 (Jvm.Cond.code (⟨"com/example/vetrino/vetrino/PairShift", "used", "()Z"⟩ : MethodName) prog_8_method_8_code 1 (some .boolean) :: ws) ({ frames := 0, cells := 0, slots := 0, locals := 0 } : Room)) (fun a U => a = #[(.ref o0)] ∧ Z.Warmed39 U.vm ∧ U.heap = h0) (fun _ _ _ _ _ => True) (fun _ U o U' => ∃ v L, o = .returned v ∧ Q10 Z o0 w_used_o0  h0 n0 v U'.heap L ∧ FrameEnd U o U' L ({ frames := 0, cells := 0, slots := 0, locals := 0 } : Room).cells ({ frames := 0, cells := 0, slots := 0, locals := 0 } : Room).slots) := by
  refine MetFree.of_bodySF (plainFor_of_name pn_1) hisR ?_
  intro p e s m args below meth c s₁ Bd hml0 hP hK
  obtain ⟨rfl, hZ, hh⟩ := hP
  have hx := Bd.exec
  have hby := Bd.bytes
  have hml : c.maxLocals = 1 := hml0
  have hown : s.vm.findClass "com/example/vetrino/vetrino/PairShift" = some m.cls := findClass_of_methodNamed Bd.named
  have hnm := (name_of_methodNamed Bd.named Bd.method).1
  have X0 : Stand p l e ({ frames := 0, cells := 0, slots := 0, locals := 0 } : Room) s m #[(.ref o0)] below meth c s₁ [] 0 0 := Stand.of_body Bd
  have e0 : s₁.heap = h0 := by rw [← hh, Bd.state]; rfl
  have N0 := Fr.nil n0
  have c0 : ∀ t, Steps p.tables e below (s₁.setTop (mkF m 0 #[.val (.ref o0)] [])) t → Steps p.tables e below (s₁.setTop (entryFrame m #[(.ref o0)] 1)) t := fun t k => castTop (ef_rm10 m o0) k
  obtain ⟨T1, X1, e1, st1⟩ := getF X0 hx hZ hown (host := "") (Or.inl (hw _ (List.mem_of_getElem? (i := 27) rfl))) Via.refl e0 F_used_o0 (g := (mkF m 1 #[.val (.ref o0)] [(.ref o0)])) rfl rfl (hb hby d10_1)
  have c2 : ∀ t, Steps p.tables e below (T1.setTop (mkF m 4 #[.val (.ref o0)] [(.int w_used_o0)])) t → Steps p.tables e below (s₁.setTop (entryFrame m #[(.ref o0)] 1)) t := by
    intro t k
    refine c0 t ?_
    show Steps p.tables e below (s₁.setTop (mkF m 0 #[.val (.ref o0)] [])) _
    refine XS.aloadN X0.here hx rfl (hb hby d10_0) rfl rfl ?_
    show Steps p.tables e below (s₁.setTop (mkF m 1 #[.val (.ref o0)] [(.ref o0)])) _
    refine st1 _ ?_
    exact k
  obtain ⟨fs, hr, hrun, hended, hW, hsame⟩ := X1.leave (v := some (.int w_used_o0)) (fun h => by rw [Bd.returns] at h; cases h)
  refine ⟨_, _, c2 _ ?_, hrun, hended, _, _, rfl, ?_, ⟨_, rfl⟩, hW, hsame.mono (by decide) (by decide)⟩
  · show Steps p.tables e below (T1.setTop (mkF m 4 #[.val (.ref o0)] [(.int w_used_o0)])) _
    exact retOut X1 hx Bd.returns na4 (Or.inl ⟨rfl, by simp, _, rfl⟩) (hb hby d10_4) hr
  · show Q10 Z o0 w_used_o0  h0 n0 _ T1.heap _
    rw [e1]
    exact ⟨rfl, N0, rfl⟩
def Q11 (Z : State) (o0 : Addr) (w_doubt_o0 : Addr)  (h0 : Heap) (n0 : Nat) (v : Option Value) (h : Heap) (L : List Loc) : Prop := v = some (.ref w_doubt_o0) ∧ Fr n0 L ∧ h = h0
set_option maxRecDepth 65536 in
set_option maxHeartbeats 40000000 in
theorem rm11 (l : Launch) (Z : State) (a0 : Array Value) (hw : ∀ d ∈ tables_1, d.before a0 Z = true) (ws : List Jvm.Cond) (o0 : Addr) (w_doubt_o0 : Addr)  (h0 : Heap) (n0 : Nat) (Z0 : n0 ≤ h0.size) (F_doubt_o0 : Fld Z h0 o0 "com/example/vetrino/vetrino/PairShift" "doubt" "Lcom/example/vetrino/vetrino/PairShift$Doubt;" (.ref w_doubt_o0)) :
    MetFree l (⟨"com/example/vetrino/vetrino/PairShift", "doubt", "()Lcom/example/vetrino/vetrino/PairShift$Doubt;"⟩ : MethodName) (head1 (Jvm.Cond.code (⟨"com/example/vetrino/vetrino/PairShift", "doubt", "()Lcom/example/vetrino/vetrino/PairShift$Doubt;"⟩ : MethodName) prog_8_method_9_code 1 (some (.object "com/example/vetrino/vetrino/PairShift$Doubt")) :: ws) ({ frames := 0, cells := 0, slots := 0, locals := 0 } : Room)) (fun a U => a = #[(.ref o0)] ∧ Z.Warmed39 U.vm ∧ U.heap = h0) (fun _ _ _ _ _ => True) (fun _ U o U' => ∃ v L, o = .returned v ∧ Q11 Z o0 w_doubt_o0  h0 n0 v U'.heap L ∧ FrameEnd U o U' L ({ frames := 0, cells := 0, slots := 0, locals := 0 } : Room).cells ({ frames := 0, cells := 0, slots := 0, locals := 0 } : Room).slots) := by
  refine MetFree.of_bodySF (plainFor_of_name pn_1) hisR ?_
  intro p e s m args below meth c s₁ Bd hml0 hP hK
  obtain ⟨rfl, hZ, hh⟩ := hP
  have hx := Bd.exec
  have hby := Bd.bytes
  have hml : c.maxLocals = 1 := hml0
  have hown : s.vm.findClass "com/example/vetrino/vetrino/PairShift" = some m.cls := findClass_of_methodNamed Bd.named
  have hnm := (name_of_methodNamed Bd.named Bd.method).1
  have X0 : Stand p l e ({ frames := 0, cells := 0, slots := 0, locals := 0 } : Room) s m #[(.ref o0)] below meth c s₁ [] 0 0 := Stand.of_body Bd
  have e0 : s₁.heap = h0 := by rw [← hh, Bd.state]; rfl
  have N0 := Fr.nil n0
  have c0 : ∀ t, Steps p.tables e below (s₁.setTop (mkF m 0 #[.val (.ref o0)] [])) t → Steps p.tables e below (s₁.setTop (entryFrame m #[(.ref o0)] 1)) t := fun t k => castTop (ef_rm11 m o0) k
  obtain ⟨T1, X1, e1, st1⟩ := getF X0 hx hZ hown (host := "") (Or.inl (hw _ (List.mem_of_getElem? (i := 29) rfl))) Via.refl e0 F_doubt_o0 (g := (mkF m 1 #[.val (.ref o0)] [(.ref o0)])) rfl rfl (hb hby d11_1)
  have c2 : ∀ t, Steps p.tables e below (T1.setTop (mkF m 4 #[.val (.ref o0)] [(.ref w_doubt_o0)])) t → Steps p.tables e below (s₁.setTop (entryFrame m #[(.ref o0)] 1)) t := by
    intro t k
    refine c0 t ?_
    show Steps p.tables e below (s₁.setTop (mkF m 0 #[.val (.ref o0)] [])) _
    refine XS.aloadN X0.here hx rfl (hb hby d11_0) rfl rfl ?_
    show Steps p.tables e below (s₁.setTop (mkF m 1 #[.val (.ref o0)] [(.ref o0)])) _
    refine st1 _ ?_
    exact k
  obtain ⟨fs, hr, hrun, hended, hW, hsame⟩ := X1.leave (v := some (.ref w_doubt_o0)) (fun h => by rw [Bd.returns] at h; cases h)
  refine ⟨_, _, c2 _ ?_, hrun, hended, _, _, rfl, ?_, ⟨_, rfl⟩, hW, hsame.mono (by decide) (by decide)⟩
  · show Steps p.tables e below (T1.setTop (mkF m 4 #[.val (.ref o0)] [(.ref w_doubt_o0)])) _
    exact retOut X1 hx Bd.returns rfl (Or.inr (Or.inr (Or.inr (Or.inr ⟨rfl, rfl, rfl⟩)))) (hb hby d11_4) hr
  · show Q11 Z o0 w_doubt_o0  h0 n0 _ T1.heap _
    rw [e1]
    exact ⟨rfl, N0, rfl⟩
def Q0 (n0 : Nat) (v : Option Value) (h : Heap) (L : List Loc) : Prop := v = some (.int 1) ∧ Fr n0 L
set_option maxRecDepth 65536 in
set_option maxHeartbeats 40000000 in
theorem rm0 (l : Launch) (Z : State) (a0 : Array Value) (hw : ∀ d ∈ tables_1, d.before a0 Z = true) (ws : List Jvm.Cond) (p0 : Int32) (p1 : Int32) (p2 : Int32) (p3 : Int32) (p4 : Int32) (p5 : Int32) (w_RIVALS : Addr) (w_PAST_SEARCH : Addr) (w_LOOSE : Addr) (w_THIN : Addr)  (h0 : Heap) (n0 : Nat) (Z0 : n0 ≤ h0.size) (S_RIVALS : Sta Z h0 "com/example/vetrino/vetrino/PairShift$Doubt" "RIVALS" "Lcom/example/vetrino/vetrino/PairShift$Doubt;" (.ref w_RIVALS)) (S_PAST_SEARCH : Sta Z h0 "com/example/vetrino/vetrino/PairShift$Doubt" "PAST_SEARCH" "Lcom/example/vetrino/vetrino/PairShift$Doubt;" (.ref w_PAST_SEARCH)) (S_LOOSE : Sta Z h0 "com/example/vetrino/vetrino/PairShift$Doubt" "LOOSE" "Lcom/example/vetrino/vetrino/PairShift$Doubt;" (.ref w_LOOSE)) (S_THIN : Sta Z h0 "com/example/vetrino/vetrino/PairShift$Doubt" "THIN" "Lcom/example/vetrino/vetrino/PairShift$Doubt;" (.ref w_THIN)) :
    MetFree l x (head1 (Jvm.Cond.code x code maxLocals ret :: ws) room_1) (fun a U => a = #[(.int p0), (.int p1), (.int p2), (.int p3), (.int p4), (.int p5)] ∧ Z.Warmed39 U.vm ∧ U.heap = h0) (fun _ _ _ _ _ => True) (fun _ U o U' => ∃ v L, o = .returned v ∧ Q0 n0 v U'.heap L ∧ FrameEnd U o U' L room_1.cells room_1.slots) := by
  refine MetFree.of_bodySF (plainFor_of_name pn_0) hisR ?_
  intro p e s m args below meth c s₁ Bd hml0 hP hK
  obtain ⟨rfl, hZ, hh⟩ := hP
  have hx := Bd.exec
  have hby := Bd.bytes
  have hml : c.maxLocals = 28 := hml0
  have hown : s.vm.findClass "com/example/vetrino/vetrino/PairShiftRemeasuredPinLaw" = some m.cls := findClass_of_methodNamed Bd.named
  have hnm := (name_of_methodNamed Bd.named Bd.method).1
  have X0 : Stand p l e room_1 s m #[(.int p0), (.int p1), (.int p2), (.int p3), (.int p4), (.int p5)] below meth c s₁ [] 0 0 := Stand.of_body Bd
  have e0 : s₁.heap = h0 := by rw [← hh, Bd.state]; rfl
  have N0 := Fr.nil n0
  have c0 : ∀ t, Steps p.tables e below (s₁.setTop (mkF m 0 #[.val (.int p0), .val (.int p1), .val (.int p2), .val (.int p3), .val (.int p4), .val (.int p5), .unset, .unset, .unset, .unset, .unset, .unset, .unset, .unset, .unset, .unset, .unset, .unset, .unset, .unset, .unset, .unset, .unset, .unset, .unset, .unset, .unset, .unset] [])) t → Steps p.tables e below (s₁.setTop (entryFrame m #[(.int p0), (.int p1), (.int p2), (.int p3), (.int p4), (.int p5)] maxLocals)) t := fun t k => castTop (ef_rm0 m p0 p1 p2 p3 p4 p5) k
  obtain ⟨z4, hz4⟩ : ∃ z : Int32, p5 &&& (15 : Int32) = z := ⟨_, rfl⟩
  obtain ⟨z7, hz7⟩ : ∃ z : Int32, z4 % (9 : Int32) = z := ⟨_, rfl⟩
  obtain ⟨z13, hz13⟩ : ∃ z : Int32, (p5.toUInt32 >>> ((4 : Int32) &&& 31).toUInt32).toInt32 = z := ⟨_, rfl⟩
  obtain ⟨z16, hz16⟩ : ∃ z : Int32, z13 &&& (15 : Int32) = z := ⟨_, rfl⟩
  obtain ⟨z19, hz19⟩ : ∃ z : Int32, z16 % (9 : Int32) = z := ⟨_, rfl⟩
  obtain ⟨z26, hz26⟩ : ∃ z : Int32, (p5.toUInt32 >>> ((8 : Int32) &&& 31).toUInt32).toInt32 = z := ⟨_, rfl⟩
  obtain ⟨z28, hz28⟩ : ∃ z : Int32, z26 &&& (1 : Int32) = z := ⟨_, rfl⟩
  obtain ⟨m29_s0, hm29_s0⟩ : ∃ z : Int32, (if z28 = (0 : Int32) then (0 : Int32) else (1 : Int32)) = z := ⟨_, rfl⟩
  obtain ⟨z43, hz43⟩ : ∃ z : Int32, (p5.toUInt32 >>> ((9 : Int32) &&& 31).toUInt32).toInt32 = z := ⟨_, rfl⟩
  obtain ⟨z45, hz45⟩ : ∃ z : Int32, z43 &&& (3 : Int32) = z := ⟨_, rfl⟩
  obtain ⟨c46_rv, hc46_rv⟩ : ∃ z : Addr, (if z45 = (0 : Int32) then w_RIVALS else (if z45 = (1 : Int32) then w_PAST_SEARCH else (if z45 = (2 : Int32) then w_LOOSE else w_THIN))) = z := ⟨_, rfl⟩
  obtain ⟨z55, hz55⟩ : ∃ z : Int32, (p5.toUInt32 >>> ((11 : Int32) &&& 31).toUInt32).toInt32 = z := ⟨_, rfl⟩
  obtain ⟨z57, hz57⟩ : ∃ z : Int32, z55 &&& (3 : Int32) = z := ⟨_, rfl⟩
  obtain ⟨c58_rv, hc58_rv⟩ : ∃ z : Addr, (if z57 = (0 : Int32) then w_RIVALS else (if z57 = (1 : Int32) then w_PAST_SEARCH else (if z57 = (2 : Int32) then w_LOOSE else w_THIN))) = z := ⟨_, rfl⟩
  obtain ⟨z65, hz65⟩ : ∃ z : Int32, p4.toInt16.toInt32 = z := ⟨_, rfl⟩
  obtain ⟨z66, hz66⟩ : ∃ z : UInt64, FP.i2d z65 = z := ⟨_, rfl⟩
  obtain ⟨z73, hz73⟩ : ∃ z : Int32, p4 >>> ((16 : Int32) &&& 31) = z := ⟨_, rfl⟩
  obtain ⟨z74, hz74⟩ : ∃ z : UInt64, FP.i2d z73 = z := ⟨_, rfl⟩
  obtain ⟨z79, hz79⟩ : ∃ z : UInt64, FP.i2d z7 = z := ⟨_, rfl⟩
  obtain ⟨z83, hz83⟩ : ∃ z : UInt64, FP.ddiv z79 (4620693217682128896 : UInt64) = z := ⟨_, rfl⟩
  obtain ⟨z88, hz88⟩ : ∃ z : UInt64, FP.i2d z19 = z := ⟨_, rfl⟩
  obtain ⟨z92, hz92⟩ : ∃ z : UInt64, FP.ddiv z88 (4620693217682128896 : UInt64) = z := ⟨_, rfl⟩
  obtain ⟨z96, hz96⟩ : ∃ z : UInt64, FP.i2d p2 = z := ⟨_, rfl⟩
  obtain ⟨z100, hz100⟩ : ∃ z : UInt64, FP.i2d p3 = z := ⟨_, rfl⟩
  obtain ⟨c119_z7, hc119_z7⟩ : ∃ z : Int32, cmpValue (FP.dcmp z83 FP.dconst0) .l = z := ⟨_, rfl⟩
  obtain ⟨c119_z14, hc119_z14⟩ : ∃ z : Int32, cmpValue (FP.dcmp z83 FP.dconst1) .g = z := ⟨_, rfl⟩
  have c1 : ∀ t, Steps p.tables e below (s₁.setTop (mkF m 37 #[.val (.int p0), .val (.int p1), .val (.int p2), .val (.int p3), .val (.int p4), .val (.int p5), .val (.int z7), .val (.int z19), .unset, .unset, .unset, .unset, .unset, .unset, .unset, .unset, .unset, .unset, .unset, .unset, .unset, .unset, .unset, .unset, .unset, .unset, .unset, .unset] [(.int m29_s0)])) t → Steps p.tables e below (s₁.setTop (entryFrame m #[(.int p0), (.int p1), (.int p2), (.int p3), (.int p4), (.int p5)] maxLocals)) t := by
    intro t k
    refine c0 t ?_
    show Steps p.tables e below (s₁.setTop (mkF m 0 #[.val (.int p0), .val (.int p1), .val (.int p2), .val (.int p3), .val (.int p4), .val (.int p5), .unset, .unset, .unset, .unset, .unset, .unset, .unset, .unset, .unset, .unset, .unset, .unset, .unset, .unset, .unset, .unset, .unset, .unset, .unset, .unset, .unset, .unset] [])) _
    refine XS.iload X0.here hx rfl (hb hby at_0) rfl ?_
    show Steps p.tables e below (s₁.setTop (mkF m 2 #[.val (.int p0), .val (.int p1), .val (.int p2), .val (.int p3), .val (.int p4), .val (.int p5), .unset, .unset, .unset, .unset, .unset, .unset, .unset, .unset, .unset, .unset, .unset, .unset, .unset, .unset, .unset, .unset, .unset, .unset, .unset, .unset, .unset, .unset] [(.int p5)])) _
    refine XS.bipush X0.here hx rfl (hb hby at_2) ?_
    show Steps p.tables e below (s₁.setTop (mkF m 4 #[.val (.int p0), .val (.int p1), .val (.int p2), .val (.int p3), .val (.int p4), .val (.int p5), .unset, .unset, .unset, .unset, .unset, .unset, .unset, .unset, .unset, .unset, .unset, .unset, .unset, .unset, .unset, .unset, .unset, .unset, .unset, .unset, .unset, .unset] [(.int (15 : Int32)), (.int p5)])) _
    refine Jvm.OwnK.iand X0.here hx rfl (hb hby at_4) rfl hz4 ?_
    show Steps p.tables e below (s₁.setTop (mkF m 5 #[.val (.int p0), .val (.int p1), .val (.int p2), .val (.int p3), .val (.int p4), .val (.int p5), .unset, .unset, .unset, .unset, .unset, .unset, .unset, .unset, .unset, .unset, .unset, .unset, .unset, .unset, .unset, .unset, .unset, .unset, .unset, .unset, .unset, .unset] [(.int z4)])) _
    refine XS.bipush X0.here hx rfl (hb hby at_5) ?_
    show Steps p.tables e below (s₁.setTop (mkF m 7 #[.val (.int p0), .val (.int p1), .val (.int p2), .val (.int p3), .val (.int p4), .val (.int p5), .unset, .unset, .unset, .unset, .unset, .unset, .unset, .unset, .unset, .unset, .unset, .unset, .unset, .unset, .unset, .unset, .unset, .unset, .unset, .unset, .unset, .unset] [(.int (9 : Int32)), (.int z4)])) _
    refine Jvm.OwnK.irem X0.here hx rfl (hb hby at_7) rfl (by decide) hz7 ?_
    show Steps p.tables e below (s₁.setTop (mkF m 8 #[.val (.int p0), .val (.int p1), .val (.int p2), .val (.int p3), .val (.int p4), .val (.int p5), .unset, .unset, .unset, .unset, .unset, .unset, .unset, .unset, .unset, .unset, .unset, .unset, .unset, .unset, .unset, .unset, .unset, .unset, .unset, .unset, .unset, .unset] [(.int z7)])) _
    refine XS.istore X0.here hx rfl (hb hby at_8) rfl (l' := #[.val (.int p0), .val (.int p1), .val (.int p2), .val (.int p3), .val (.int p4), .val (.int p5), .val (.int z7), .unset, .unset, .unset, .unset, .unset, .unset, .unset, .unset, .unset, .unset, .unset, .unset, .unset, .unset, .unset, .unset, .unset, .unset, .unset, .unset, .unset]) rfl ?_
    show Steps p.tables e below (s₁.setTop (mkF m 10 #[.val (.int p0), .val (.int p1), .val (.int p2), .val (.int p3), .val (.int p4), .val (.int p5), .val (.int z7), .unset, .unset, .unset, .unset, .unset, .unset, .unset, .unset, .unset, .unset, .unset, .unset, .unset, .unset, .unset, .unset, .unset, .unset, .unset, .unset, .unset] [])) _
    refine XS.iload X0.here hx rfl (hb hby at_10) rfl ?_
    show Steps p.tables e below (s₁.setTop (mkF m 12 #[.val (.int p0), .val (.int p1), .val (.int p2), .val (.int p3), .val (.int p4), .val (.int p5), .val (.int z7), .unset, .unset, .unset, .unset, .unset, .unset, .unset, .unset, .unset, .unset, .unset, .unset, .unset, .unset, .unset, .unset, .unset, .unset, .unset, .unset, .unset] [(.int p5)])) _
    refine XS.iconst X0.here hx rfl (hb hby at_12) ?_
    show Steps p.tables e below (s₁.setTop (mkF m 13 #[.val (.int p0), .val (.int p1), .val (.int p2), .val (.int p3), .val (.int p4), .val (.int p5), .val (.int z7), .unset, .unset, .unset, .unset, .unset, .unset, .unset, .unset, .unset, .unset, .unset, .unset, .unset, .unset, .unset, .unset, .unset, .unset, .unset, .unset, .unset] [(.int (4 : Int32)), (.int p5)])) _
    refine Jvm.OwnK.iushr X0.here hx rfl (hb hby at_13) rfl hz13 ?_
    show Steps p.tables e below (s₁.setTop (mkF m 14 #[.val (.int p0), .val (.int p1), .val (.int p2), .val (.int p3), .val (.int p4), .val (.int p5), .val (.int z7), .unset, .unset, .unset, .unset, .unset, .unset, .unset, .unset, .unset, .unset, .unset, .unset, .unset, .unset, .unset, .unset, .unset, .unset, .unset, .unset, .unset] [(.int z13)])) _
    refine XS.bipush X0.here hx rfl (hb hby at_14) ?_
    show Steps p.tables e below (s₁.setTop (mkF m 16 #[.val (.int p0), .val (.int p1), .val (.int p2), .val (.int p3), .val (.int p4), .val (.int p5), .val (.int z7), .unset, .unset, .unset, .unset, .unset, .unset, .unset, .unset, .unset, .unset, .unset, .unset, .unset, .unset, .unset, .unset, .unset, .unset, .unset, .unset, .unset] [(.int (15 : Int32)), (.int z13)])) _
    refine Jvm.OwnK.iand X0.here hx rfl (hb hby at_16) rfl hz16 ?_
    show Steps p.tables e below (s₁.setTop (mkF m 17 #[.val (.int p0), .val (.int p1), .val (.int p2), .val (.int p3), .val (.int p4), .val (.int p5), .val (.int z7), .unset, .unset, .unset, .unset, .unset, .unset, .unset, .unset, .unset, .unset, .unset, .unset, .unset, .unset, .unset, .unset, .unset, .unset, .unset, .unset, .unset] [(.int z16)])) _
    refine XS.bipush X0.here hx rfl (hb hby at_17) ?_
    show Steps p.tables e below (s₁.setTop (mkF m 19 #[.val (.int p0), .val (.int p1), .val (.int p2), .val (.int p3), .val (.int p4), .val (.int p5), .val (.int z7), .unset, .unset, .unset, .unset, .unset, .unset, .unset, .unset, .unset, .unset, .unset, .unset, .unset, .unset, .unset, .unset, .unset, .unset, .unset, .unset, .unset] [(.int (9 : Int32)), (.int z16)])) _
    refine Jvm.OwnK.irem X0.here hx rfl (hb hby at_19) rfl (by decide) hz19 ?_
    show Steps p.tables e below (s₁.setTop (mkF m 20 #[.val (.int p0), .val (.int p1), .val (.int p2), .val (.int p3), .val (.int p4), .val (.int p5), .val (.int z7), .unset, .unset, .unset, .unset, .unset, .unset, .unset, .unset, .unset, .unset, .unset, .unset, .unset, .unset, .unset, .unset, .unset, .unset, .unset, .unset, .unset] [(.int z19)])) _
    refine XS.istore X0.here hx rfl (hb hby at_20) rfl (l' := #[.val (.int p0), .val (.int p1), .val (.int p2), .val (.int p3), .val (.int p4), .val (.int p5), .val (.int z7), .val (.int z19), .unset, .unset, .unset, .unset, .unset, .unset, .unset, .unset, .unset, .unset, .unset, .unset, .unset, .unset, .unset, .unset, .unset, .unset, .unset, .unset]) rfl ?_
    show Steps p.tables e below (s₁.setTop (mkF m 22 #[.val (.int p0), .val (.int p1), .val (.int p2), .val (.int p3), .val (.int p4), .val (.int p5), .val (.int z7), .val (.int z19), .unset, .unset, .unset, .unset, .unset, .unset, .unset, .unset, .unset, .unset, .unset, .unset, .unset, .unset, .unset, .unset, .unset, .unset, .unset, .unset] [])) _
    refine XS.iload X0.here hx rfl (hb hby at_22) rfl ?_
    show Steps p.tables e below (s₁.setTop (mkF m 24 #[.val (.int p0), .val (.int p1), .val (.int p2), .val (.int p3), .val (.int p4), .val (.int p5), .val (.int z7), .val (.int z19), .unset, .unset, .unset, .unset, .unset, .unset, .unset, .unset, .unset, .unset, .unset, .unset, .unset, .unset, .unset, .unset, .unset, .unset, .unset, .unset] [(.int p5)])) _
    refine XS.bipush X0.here hx rfl (hb hby at_24) ?_
    show Steps p.tables e below (s₁.setTop (mkF m 26 #[.val (.int p0), .val (.int p1), .val (.int p2), .val (.int p3), .val (.int p4), .val (.int p5), .val (.int z7), .val (.int z19), .unset, .unset, .unset, .unset, .unset, .unset, .unset, .unset, .unset, .unset, .unset, .unset, .unset, .unset, .unset, .unset, .unset, .unset, .unset, .unset] [(.int (8 : Int32)), (.int p5)])) _
    refine Jvm.OwnK.iushr X0.here hx rfl (hb hby at_26) rfl hz26 ?_
    show Steps p.tables e below (s₁.setTop (mkF m 27 #[.val (.int p0), .val (.int p1), .val (.int p2), .val (.int p3), .val (.int p4), .val (.int p5), .val (.int z7), .val (.int z19), .unset, .unset, .unset, .unset, .unset, .unset, .unset, .unset, .unset, .unset, .unset, .unset, .unset, .unset, .unset, .unset, .unset, .unset, .unset, .unset] [(.int z26)])) _
    refine XS.iconst X0.here hx rfl (hb hby at_27) ?_
    show Steps p.tables e below (s₁.setTop (mkF m 28 #[.val (.int p0), .val (.int p1), .val (.int p2), .val (.int p3), .val (.int p4), .val (.int p5), .val (.int z7), .val (.int z19), .unset, .unset, .unset, .unset, .unset, .unset, .unset, .unset, .unset, .unset, .unset, .unset, .unset, .unset, .unset, .unset, .unset, .unset, .unset, .unset] [(.int (1 : Int32)), (.int z26)])) _
    refine Jvm.OwnK.iand X0.here hx rfl (hb hby at_28) rfl hz28 ?_
    by_cases hm29_0 : z28 = (0 : Int32)
    · skip
      show Steps p.tables e below (s₁.setTop (mkF m 29 #[.val (.int p0), .val (.int p1), .val (.int p2), .val (.int p3), .val (.int p4), .val (.int p5), .val (.int z7), .val (.int z19), .unset, .unset, .unset, .unset, .unset, .unset, .unset, .unset, .unset, .unset, .unset, .unset, .unset, .unset, .unset, .unset, .unset, .unset, .unset, .unset] [(.int z28)])) _
      refine XS.ifYes X0.here hx rfl (pc0 := 29) (pc' := 36) rfl (hb hby at_29) rfl (Jvm.Free.XT.i0_eq_t hm29_0) (by decide) (by decide) ?_
      show Steps p.tables e below (s₁.setTop (mkF m 36 #[.val (.int p0), .val (.int p1), .val (.int p2), .val (.int p3), .val (.int p4), .val (.int p5), .val (.int z7), .val (.int z19), .unset, .unset, .unset, .unset, .unset, .unset, .unset, .unset, .unset, .unset, .unset, .unset, .unset, .unset, .unset, .unset, .unset, .unset, .unset, .unset] [])) _
      refine XS.iconst X0.here hx rfl (hb hby at_36) ?_
      obtain rfl : (0 : Int32) = m29_s0 := by rw [← hm29_s0]; simp only [if_pos hm29_0]
      exact k
    · skip
      show Steps p.tables e below (s₁.setTop (mkF m 29 #[.val (.int p0), .val (.int p1), .val (.int p2), .val (.int p3), .val (.int p4), .val (.int p5), .val (.int z7), .val (.int z19), .unset, .unset, .unset, .unset, .unset, .unset, .unset, .unset, .unset, .unset, .unset, .unset, .unset, .unset, .unset, .unset, .unset, .unset, .unset, .unset] [(.int z28)])) _
      refine XS.ifNo X0.here hx rfl (hb hby at_29) rfl (Jvm.Free.XT.i0_eq_f hm29_0) ?_
      show Steps p.tables e below (s₁.setTop (mkF m 32 #[.val (.int p0), .val (.int p1), .val (.int p2), .val (.int p3), .val (.int p4), .val (.int p5), .val (.int z7), .val (.int z19), .unset, .unset, .unset, .unset, .unset, .unset, .unset, .unset, .unset, .unset, .unset, .unset, .unset, .unset, .unset, .unset, .unset, .unset, .unset, .unset] [])) _
      refine XS.iconst X0.here hx rfl (hb hby at_32) ?_
      show Steps p.tables e below (s₁.setTop (mkF m 33 #[.val (.int p0), .val (.int p1), .val (.int p2), .val (.int p3), .val (.int p4), .val (.int p5), .val (.int z7), .val (.int z19), .unset, .unset, .unset, .unset, .unset, .unset, .unset, .unset, .unset, .unset, .unset, .unset, .unset, .unset, .unset, .unset, .unset, .unset, .unset, .unset] [(.int (1 : Int32))])) _
      refine XS.goto X0.here hx rfl (pc0 := 33) (pc' := 37) rfl (hb hby at_33) (by decide) (by decide) ?_
      obtain rfl : (1 : Int32) = m29_s0 := by rw [← hm29_s0]; simp only [if_neg hm29_0]
      exact k
  obtain ⟨_, _, ⟨T2, L2, k2, n2⟩, -, X2, ⟨Lc2, hQ2, ql2, qy2, qz2⟩, st2⟩ := Jvm.LawKit.callS X0 hx (y := (⟨"com/example/vetrino/vetrino/PairShiftRemeasuredPinLaw", "pick", "(I)Lcom/example/vetrino/vetrino/PairShift$Doubt;"⟩ : MethodName)) hown (mvT hZ (hw _ (List.mem_of_getElem? (i := 0) rfl))) (mvT hZ (hw _ (List.mem_of_getElem? (i := 1) rfl))) (mvT hZ (hw _ (List.mem_of_getElem? (i := 2) rfl))) (mvT hZ (hw _ (List.mem_of_getElem? (i := 3) rfl))) (by decide) (backOf (W := 0) (rm1 l Z a0 hw [] z45 w_RIVALS w_PAST_SEARCH w_LOOSE w_THIN c46_rv h0 n0 Z0 S_RIVALS S_PAST_SEARCH S_LOOSE S_THIN hc46_rv) hZ (hw _ (List.mem_of_getElem? (i := 3) rfl)) (hw _ (List.mem_of_getElem? (i := 2) rfl)) (by decide) (by decide)) (g := (mkF m 46 #[.val (.int p0), .val (.int p1), .val (.int p2), .val (.int p3), .val (.int p4), .val (.int p5), .val (.int z7), .val (.int z19), .val (.int m29_s0), .unset, .unset, .unset, .unset, .unset, .unset, .unset, .unset, .unset, .unset, .unset, .unset, .unset, .unset, .unset, .unset, .unset, .unset, .unset] [(.int z45)])) rfl (by rw [hml]; rfl) (argsL := [(.int z45)]) (rest := []) (lenOf pd_1 rfl) rfl (by show 2 * 0 + _ ≤ _; exact Nat.le_of_eq rfl) (hb hby at_46) (fun _ _ => ⟨rfl, e0, (by decide : 0 + 0 ≤ _), (by decide : 0 + 0 ≤ _)⟩)
  dsimp only [Pt.U, Pt.locs, Pt.cells, Pt.slots] at X2 ql2 qy2 qz2 st2 hQ2
  subst ql2 qy2 qz2
  obtain ⟨rfl, N2q, e2⟩ := hQ2
  have N2 := Fr.app N0 N2q
  obtain ⟨_, _, ⟨T3, L3, k3, n3⟩, -, X3, ⟨Lc3, hQ3, ql3, qy3, qz3⟩, st3⟩ := Jvm.LawKit.callS X2 hx (y := (⟨"com/example/vetrino/vetrino/PairShiftRemeasuredPinLaw", "pick", "(I)Lcom/example/vetrino/vetrino/PairShift$Doubt;"⟩ : MethodName)) hown (mvT hZ (hw _ (List.mem_of_getElem? (i := 0) rfl))) (mvT hZ (hw _ (List.mem_of_getElem? (i := 1) rfl))) (mvT hZ (hw _ (List.mem_of_getElem? (i := 2) rfl))) (mvT hZ (hw _ (List.mem_of_getElem? (i := 3) rfl))) (by decide) (backOf (W := 0) (rm1 l Z a0 hw [] z57 w_RIVALS w_PAST_SEARCH w_LOOSE w_THIN c58_rv h0 n0 Z0 S_RIVALS S_PAST_SEARCH S_LOOSE S_THIN hc58_rv) hZ (hw _ (List.mem_of_getElem? (i := 3) rfl)) (hw _ (List.mem_of_getElem? (i := 2) rfl)) (by decide) (by decide)) (g := (mkF m 58 #[.val (.int p0), .val (.int p1), .val (.int p2), .val (.int p3), .val (.int p4), .val (.int p5), .val (.int z7), .val (.int z19), .val (.int m29_s0), .val (.ref c46_rv), .unset, .unset, .unset, .unset, .unset, .unset, .unset, .unset, .unset, .unset, .unset, .unset, .unset, .unset, .unset, .unset, .unset, .unset] [(.int z57)])) rfl (by rw [hml]; rfl) (argsL := [(.int z57)]) (rest := []) (lenOf pd_1 rfl) rfl (by show 2 * 0 + _ ≤ _; exact Nat.le_of_eq rfl) (hb hby at_58) (fun _ _ => ⟨rfl, e2, (by decide : 0 + 0 ≤ _), (by decide : 0 + 0 ≤ _)⟩)
  dsimp only [Pt.U, Pt.locs, Pt.cells, Pt.slots] at X3 ql3 qy3 qz3 st3 hQ3
  subst ql3 qy3 qz3
  obtain ⟨rfl, N3q, e3⟩ := hQ3
  have N3 := Fr.app N2 N3q
  have hP := cf hz4 hz7
  have hQ := cf hz16 hz19
  have dp := eighth hP hz79 hz83
  have dq := eighth hQ hz88 hz92
  have nn83 := dp.nn
  have nn92 := dq.nn
  obtain ⟨T4, h4, X4, e4, E4, A4, D4, -, st4⟩ := newO X3 hx hZ hown (hw _ (List.mem_of_getElem? (i := 8) rfl)) (hw _ (List.mem_of_getElem? (i := 9) rfl)) (hw _ (List.mem_of_getElem? (i := 10) rfl)) e3 (g := (mkF m 103 #[.val (.int p0), .val (.int p1), .val (.int p2), .val (.int p3), .val (.int p4), .val (.int p5), .val (.int z7), .val (.int z19), .val (.int m29_s0), .val (.ref c46_rv), .val (.ref c58_rv), .val (.double z66), .second, .val (.double z74), .second, .val (.double z83), .second, .val (.double z92), .second, .val (.double z96), .second, .val (.double z100), .second, .unset, .unset, .unset, .unset, .unset] [])) rfl (hb hby at_103) (by decide) (by decide)
  obtain ⟨b4, g4⟩ : ∃ z, z = h0.size := ⟨_, rfl⟩
  rw [← g4] at A4 D4 st4
  have gn4 : n0 ≤ b4 := Nat.le_trans Z0 (Nat.le_of_eq g4.symm)
  have gz4 : h0.size ≤ b4 := Nat.le_trans ((Keep.refl h0 [])).1 (Nat.le_of_eq g4.symm)
  have K5 : Keep h0 h4 [] := (Keep.refl h0 []).ext E4
  have F4_first : Fld Z h4 b4 "com/example/vetrino/vetrino/PairShift" "first" "I" (.int (0 : Int32)) := D4 (Or.inr (hw _ (List.mem_of_getElem? (i := 18) rfl))) (ty := .int) (by decide)
  have F4_second : Fld Z h4 b4 "com/example/vetrino/vetrino/PairShift" "second" "I" (.int (0 : Int32)) := D4 (Or.inr (hw _ (List.mem_of_getElem? (i := 20) rfl))) (ty := .int) (by decide)
  have F4_dx : Fld Z h4 b4 "com/example/vetrino/vetrino/PairShift" "dx" "D" (.double (0 : UInt64)) := D4 (Or.inr (hw _ (List.mem_of_getElem? (i := 22) rfl))) (ty := .double) (by decide)
  have F4_dy : Fld Z h4 b4 "com/example/vetrino/vetrino/PairShift" "dy" "D" (.double (0 : UInt64)) := D4 (Or.inr (hw _ (List.mem_of_getElem? (i := 24) rfl))) (ty := .double) (by decide)
  have F4_confidence : Fld Z h4 b4 "com/example/vetrino/vetrino/PairShift" "confidence" "D" (.double (0 : UInt64)) := D4 (Or.inr (hw _ (List.mem_of_getElem? (i := 26) rfl))) (ty := .double) (by decide)
  have F4_used : Fld Z h4 b4 "com/example/vetrino/vetrino/PairShift" "used" "Z" (.int (0 : Int32)) := D4 (Or.inr (hw _ (List.mem_of_getElem? (i := 28) rfl))) (ty := .boolean) (by decide)
  have F4_doubt : Fld Z h4 b4 "com/example/vetrino/vetrino/PairShift" "doubt" "Lcom/example/vetrino/vetrino/PairShift$Doubt;" .null := D4 (Or.inr (hw _ (List.mem_of_getElem? (i := 30) rfl))) (ty := (.object "com/example/vetrino/vetrino/PairShift$Doubt")) (by decide)
  obtain ⟨c119_br8, c119_br15⟩ := unit (k := 3) (by decide) dp hP.1 hP.2 hc119_z7 hc119_z14
  have c119_na63 : narrow .boolean (.int m29_s0) = (.int m29_s0) := by rw [← hm29_s0]; split <;> rfl
  have c119_fi63 : fits .boolean (.int m29_s0) = true := by rw [← hm29_s0]; split <;> rfl
  obtain ⟨_, _, ⟨T6, L6, k6, n6⟩, -, X6, ⟨Lc6, hQ6, ql6, qy6, qz6⟩, st6⟩ := X4.specialBack hx (y := (⟨"com/example/vetrino/vetrino/PairShift", "<init>", "(IIDDDZLcom/example/vetrino/vetrino/PairShift$Doubt;)V"⟩ : MethodName)) rfl hown (mvT hZ (hw _ (List.mem_of_getElem? (i := 11) rfl))) (mvT hZ (hw _ (List.mem_of_getElem? (i := 12) rfl))) (mvT hZ (hw _ (List.mem_of_getElem? (i := 13) rfl))) (by decide) (backOf (W := 1) (rm2 l Z a0 hw [] b4 p0 p1 z66 z74 z83 m29_s0 c46_rv ((.int (0 : Int32))) ((.int (0 : Int32))) ((.double (0 : UInt64))) ((.double (0 : UInt64))) ((.double (0 : UInt64))) ((.int (0 : Int32))) (.null) c119_z7 c119_z14 h4 n0 (Nat.le_trans Z0 E4.1) A4 F4_first gn4 F4_second F4_dx F4_dy F4_confidence F4_used F4_doubt hc119_z7 hc119_z14 c119_br8 c119_br15 c119_na63 c119_fi63) hZ (hw _ (List.mem_of_getElem? (i := 13) rfl)) (hw _ (List.mem_of_getElem? (i := 10) rfl)) (by decide) (by decide)) (g := (mkF m 119 #[.val (.int p0), .val (.int p1), .val (.int p2), .val (.int p3), .val (.int p4), .val (.int p5), .val (.int z7), .val (.int z19), .val (.int m29_s0), .val (.ref c46_rv), .val (.ref c58_rv), .val (.double z66), .second, .val (.double z74), .second, .val (.double z83), .second, .val (.double z92), .second, .val (.double z96), .second, .val (.double z100), .second, .unset, .unset, .unset, .unset, .unset] [(.ref c46_rv), (.int m29_s0), (.double z83), (.double z74), (.double z66), (.int p1), (.int p0), (.ref b4), (.ref b4)])) rfl (by rw [hml]; rfl) (Steps.refl _) (a := b4) (argsL := [(.int p0), (.int p1), (.double z66), (.double z74), (.double z83), (.int m29_s0), (.ref c46_rv)]) (rest := [(.ref b4)]) (lenOf pd_0 rfl) rfl (by show 2 * 0 + _ ≤ _; exact Nat.le_of_eq rfl) (hb hby at_119) (fun _ _ => ⟨rfl, e4, (by decide : 1 + 0 ≤ _), (by decide : 7 + 0 ≤ _)⟩)
  dsimp only [Pt.U, Pt.locs, Pt.cells, Pt.slots] at X6 ql6 qy6 qz6 st6 hQ6
  subst ql6 qy6 qz6
  obtain ⟨rfl, N6q, K6q, Q6_0, Q6_1, Q6_2, Q6_3, Q6_4, Q6_5, Q6_6, Q6_7⟩ := hQ6
  have N6 := Fr.app N3 N6q
  have K7 : Keep h0 T6.heap [] := Keep.trans K5 K6q (allS (Or.inr gz4) all0)
  have c8 : ∀ t, Steps p.tables e below (T6.setTop (mkF m 134 #[.val (.int p0), .val (.int p1), .val (.int p2), .val (.int p3), .val (.int p4), .val (.int p5), .val (.int z7), .val (.int z19), .val (.int m29_s0), .val (.ref c46_rv), .val (.ref c58_rv), .val (.double z66), .second, .val (.double z74), .second, .val (.double z83), .second, .val (.double z92), .second, .val (.double z96), .second, .val (.double z100), .second, .val (.ref b4), .unset, .unset, .unset, .unset] [(.ref c58_rv), (.double z92), (.double z100), (.double z96), (.ref b4)])) t → Steps p.tables e below (s₁.setTop (entryFrame m #[(.int p0), (.int p1), (.int p2), (.int p3), (.int p4), (.int p5)] maxLocals)) t := by
    intro t k
    refine c1 t ?_
    show Steps p.tables e below (s₁.setTop (mkF m 37 #[.val (.int p0), .val (.int p1), .val (.int p2), .val (.int p3), .val (.int p4), .val (.int p5), .val (.int z7), .val (.int z19), .unset, .unset, .unset, .unset, .unset, .unset, .unset, .unset, .unset, .unset, .unset, .unset, .unset, .unset, .unset, .unset, .unset, .unset, .unset, .unset] [(.int m29_s0)])) _
    refine XS.istore X0.here hx rfl (hb hby at_37) rfl (l' := #[.val (.int p0), .val (.int p1), .val (.int p2), .val (.int p3), .val (.int p4), .val (.int p5), .val (.int z7), .val (.int z19), .val (.int m29_s0), .unset, .unset, .unset, .unset, .unset, .unset, .unset, .unset, .unset, .unset, .unset, .unset, .unset, .unset, .unset, .unset, .unset, .unset, .unset]) rfl ?_
    show Steps p.tables e below (s₁.setTop (mkF m 39 #[.val (.int p0), .val (.int p1), .val (.int p2), .val (.int p3), .val (.int p4), .val (.int p5), .val (.int z7), .val (.int z19), .val (.int m29_s0), .unset, .unset, .unset, .unset, .unset, .unset, .unset, .unset, .unset, .unset, .unset, .unset, .unset, .unset, .unset, .unset, .unset, .unset, .unset] [])) _
    refine XS.iload X0.here hx rfl (hb hby at_39) rfl ?_
    show Steps p.tables e below (s₁.setTop (mkF m 41 #[.val (.int p0), .val (.int p1), .val (.int p2), .val (.int p3), .val (.int p4), .val (.int p5), .val (.int z7), .val (.int z19), .val (.int m29_s0), .unset, .unset, .unset, .unset, .unset, .unset, .unset, .unset, .unset, .unset, .unset, .unset, .unset, .unset, .unset, .unset, .unset, .unset, .unset] [(.int p5)])) _
    refine XS.bipush X0.here hx rfl (hb hby at_41) ?_
    show Steps p.tables e below (s₁.setTop (mkF m 43 #[.val (.int p0), .val (.int p1), .val (.int p2), .val (.int p3), .val (.int p4), .val (.int p5), .val (.int z7), .val (.int z19), .val (.int m29_s0), .unset, .unset, .unset, .unset, .unset, .unset, .unset, .unset, .unset, .unset, .unset, .unset, .unset, .unset, .unset, .unset, .unset, .unset, .unset] [(.int (9 : Int32)), (.int p5)])) _
    refine Jvm.OwnK.iushr X0.here hx rfl (hb hby at_43) rfl hz43 ?_
    show Steps p.tables e below (s₁.setTop (mkF m 44 #[.val (.int p0), .val (.int p1), .val (.int p2), .val (.int p3), .val (.int p4), .val (.int p5), .val (.int z7), .val (.int z19), .val (.int m29_s0), .unset, .unset, .unset, .unset, .unset, .unset, .unset, .unset, .unset, .unset, .unset, .unset, .unset, .unset, .unset, .unset, .unset, .unset, .unset] [(.int z43)])) _
    refine XS.iconst X0.here hx rfl (hb hby at_44) ?_
    show Steps p.tables e below (s₁.setTop (mkF m 45 #[.val (.int p0), .val (.int p1), .val (.int p2), .val (.int p3), .val (.int p4), .val (.int p5), .val (.int z7), .val (.int z19), .val (.int m29_s0), .unset, .unset, .unset, .unset, .unset, .unset, .unset, .unset, .unset, .unset, .unset, .unset, .unset, .unset, .unset, .unset, .unset, .unset, .unset] [(.int (3 : Int32)), (.int z43)])) _
    refine Jvm.OwnK.iand X0.here hx rfl (hb hby at_45) rfl hz45 ?_
    show Steps p.tables e below (s₁.setTop (mkF m 46 #[.val (.int p0), .val (.int p1), .val (.int p2), .val (.int p3), .val (.int p4), .val (.int p5), .val (.int z7), .val (.int z19), .val (.int m29_s0), .unset, .unset, .unset, .unset, .unset, .unset, .unset, .unset, .unset, .unset, .unset, .unset, .unset, .unset, .unset, .unset, .unset, .unset, .unset] [(.int z45)])) _
    refine st2 _ ?_
    show Steps p.tables e below (T2.setTop (mkF m 49 #[.val (.int p0), .val (.int p1), .val (.int p2), .val (.int p3), .val (.int p4), .val (.int p5), .val (.int z7), .val (.int z19), .val (.int m29_s0), .unset, .unset, .unset, .unset, .unset, .unset, .unset, .unset, .unset, .unset, .unset, .unset, .unset, .unset, .unset, .unset, .unset, .unset, .unset] [(.ref c46_rv)])) _
    refine XS.astore X2.here hx rfl (hb hby at_49) rfl rfl (l' := #[.val (.int p0), .val (.int p1), .val (.int p2), .val (.int p3), .val (.int p4), .val (.int p5), .val (.int z7), .val (.int z19), .val (.int m29_s0), .val (.ref c46_rv), .unset, .unset, .unset, .unset, .unset, .unset, .unset, .unset, .unset, .unset, .unset, .unset, .unset, .unset, .unset, .unset, .unset, .unset]) rfl ?_
    show Steps p.tables e below (T2.setTop (mkF m 51 #[.val (.int p0), .val (.int p1), .val (.int p2), .val (.int p3), .val (.int p4), .val (.int p5), .val (.int z7), .val (.int z19), .val (.int m29_s0), .val (.ref c46_rv), .unset, .unset, .unset, .unset, .unset, .unset, .unset, .unset, .unset, .unset, .unset, .unset, .unset, .unset, .unset, .unset, .unset, .unset] [])) _
    refine XS.iload X2.here hx rfl (hb hby at_51) rfl ?_
    show Steps p.tables e below (T2.setTop (mkF m 53 #[.val (.int p0), .val (.int p1), .val (.int p2), .val (.int p3), .val (.int p4), .val (.int p5), .val (.int z7), .val (.int z19), .val (.int m29_s0), .val (.ref c46_rv), .unset, .unset, .unset, .unset, .unset, .unset, .unset, .unset, .unset, .unset, .unset, .unset, .unset, .unset, .unset, .unset, .unset, .unset] [(.int p5)])) _
    refine XS.bipush X2.here hx rfl (hb hby at_53) ?_
    show Steps p.tables e below (T2.setTop (mkF m 55 #[.val (.int p0), .val (.int p1), .val (.int p2), .val (.int p3), .val (.int p4), .val (.int p5), .val (.int z7), .val (.int z19), .val (.int m29_s0), .val (.ref c46_rv), .unset, .unset, .unset, .unset, .unset, .unset, .unset, .unset, .unset, .unset, .unset, .unset, .unset, .unset, .unset, .unset, .unset, .unset] [(.int (11 : Int32)), (.int p5)])) _
    refine Jvm.OwnK.iushr X2.here hx rfl (hb hby at_55) rfl hz55 ?_
    show Steps p.tables e below (T2.setTop (mkF m 56 #[.val (.int p0), .val (.int p1), .val (.int p2), .val (.int p3), .val (.int p4), .val (.int p5), .val (.int z7), .val (.int z19), .val (.int m29_s0), .val (.ref c46_rv), .unset, .unset, .unset, .unset, .unset, .unset, .unset, .unset, .unset, .unset, .unset, .unset, .unset, .unset, .unset, .unset, .unset, .unset] [(.int z55)])) _
    refine XS.iconst X2.here hx rfl (hb hby at_56) ?_
    show Steps p.tables e below (T2.setTop (mkF m 57 #[.val (.int p0), .val (.int p1), .val (.int p2), .val (.int p3), .val (.int p4), .val (.int p5), .val (.int z7), .val (.int z19), .val (.int m29_s0), .val (.ref c46_rv), .unset, .unset, .unset, .unset, .unset, .unset, .unset, .unset, .unset, .unset, .unset, .unset, .unset, .unset, .unset, .unset, .unset, .unset] [(.int (3 : Int32)), (.int z55)])) _
    refine Jvm.OwnK.iand X2.here hx rfl (hb hby at_57) rfl hz57 ?_
    show Steps p.tables e below (T2.setTop (mkF m 58 #[.val (.int p0), .val (.int p1), .val (.int p2), .val (.int p3), .val (.int p4), .val (.int p5), .val (.int z7), .val (.int z19), .val (.int m29_s0), .val (.ref c46_rv), .unset, .unset, .unset, .unset, .unset, .unset, .unset, .unset, .unset, .unset, .unset, .unset, .unset, .unset, .unset, .unset, .unset, .unset] [(.int z57)])) _
    refine st3 _ ?_
    show Steps p.tables e below (T3.setTop (mkF m 61 #[.val (.int p0), .val (.int p1), .val (.int p2), .val (.int p3), .val (.int p4), .val (.int p5), .val (.int z7), .val (.int z19), .val (.int m29_s0), .val (.ref c46_rv), .unset, .unset, .unset, .unset, .unset, .unset, .unset, .unset, .unset, .unset, .unset, .unset, .unset, .unset, .unset, .unset, .unset, .unset] [(.ref c58_rv)])) _
    refine XS.astore X3.here hx rfl (hb hby at_61) rfl rfl (l' := #[.val (.int p0), .val (.int p1), .val (.int p2), .val (.int p3), .val (.int p4), .val (.int p5), .val (.int z7), .val (.int z19), .val (.int m29_s0), .val (.ref c46_rv), .val (.ref c58_rv), .unset, .unset, .unset, .unset, .unset, .unset, .unset, .unset, .unset, .unset, .unset, .unset, .unset, .unset, .unset, .unset, .unset]) rfl ?_
    show Steps p.tables e below (T3.setTop (mkF m 63 #[.val (.int p0), .val (.int p1), .val (.int p2), .val (.int p3), .val (.int p4), .val (.int p5), .val (.int z7), .val (.int z19), .val (.int m29_s0), .val (.ref c46_rv), .val (.ref c58_rv), .unset, .unset, .unset, .unset, .unset, .unset, .unset, .unset, .unset, .unset, .unset, .unset, .unset, .unset, .unset, .unset, .unset] [])) _
    refine XS.iload X3.here hx rfl (hb hby at_63) rfl ?_
    show Steps p.tables e below (T3.setTop (mkF m 65 #[.val (.int p0), .val (.int p1), .val (.int p2), .val (.int p3), .val (.int p4), .val (.int p5), .val (.int z7), .val (.int z19), .val (.int m29_s0), .val (.ref c46_rv), .val (.ref c58_rv), .unset, .unset, .unset, .unset, .unset, .unset, .unset, .unset, .unset, .unset, .unset, .unset, .unset, .unset, .unset, .unset, .unset] [(.int p4)])) _
    refine Jvm.OwnK.i2s X3.here hx rfl (hb hby at_65) rfl hz65 ?_
    show Steps p.tables e below (T3.setTop (mkF m 66 #[.val (.int p0), .val (.int p1), .val (.int p2), .val (.int p3), .val (.int p4), .val (.int p5), .val (.int z7), .val (.int z19), .val (.int m29_s0), .val (.ref c46_rv), .val (.ref c58_rv), .unset, .unset, .unset, .unset, .unset, .unset, .unset, .unset, .unset, .unset, .unset, .unset, .unset, .unset, .unset, .unset, .unset] [(.int z65)])) _
    refine XS.i2dS X3.here hx rfl (hb hby at_66) rfl hz66 ?_
    show Steps p.tables e below (T3.setTop (mkF m 67 #[.val (.int p0), .val (.int p1), .val (.int p2), .val (.int p3), .val (.int p4), .val (.int p5), .val (.int z7), .val (.int z19), .val (.int m29_s0), .val (.ref c46_rv), .val (.ref c58_rv), .unset, .unset, .unset, .unset, .unset, .unset, .unset, .unset, .unset, .unset, .unset, .unset, .unset, .unset, .unset, .unset, .unset] [(.double z66)])) _
    refine XS.dstore X3.here hx rfl (hb hby at_67) rfl (l' := #[.val (.int p0), .val (.int p1), .val (.int p2), .val (.int p3), .val (.int p4), .val (.int p5), .val (.int z7), .val (.int z19), .val (.int m29_s0), .val (.ref c46_rv), .val (.ref c58_rv), .val (.double z66), .second, .unset, .unset, .unset, .unset, .unset, .unset, .unset, .unset, .unset, .unset, .unset, .unset, .unset, .unset, .unset]) rfl ?_
    show Steps p.tables e below (T3.setTop (mkF m 69 #[.val (.int p0), .val (.int p1), .val (.int p2), .val (.int p3), .val (.int p4), .val (.int p5), .val (.int z7), .val (.int z19), .val (.int m29_s0), .val (.ref c46_rv), .val (.ref c58_rv), .val (.double z66), .second, .unset, .unset, .unset, .unset, .unset, .unset, .unset, .unset, .unset, .unset, .unset, .unset, .unset, .unset, .unset] [])) _
    refine XS.iload X3.here hx rfl (hb hby at_69) rfl ?_
    show Steps p.tables e below (T3.setTop (mkF m 71 #[.val (.int p0), .val (.int p1), .val (.int p2), .val (.int p3), .val (.int p4), .val (.int p5), .val (.int z7), .val (.int z19), .val (.int m29_s0), .val (.ref c46_rv), .val (.ref c58_rv), .val (.double z66), .second, .unset, .unset, .unset, .unset, .unset, .unset, .unset, .unset, .unset, .unset, .unset, .unset, .unset, .unset, .unset] [(.int p4)])) _
    refine XS.bipush X3.here hx rfl (hb hby at_71) ?_
    show Steps p.tables e below (T3.setTop (mkF m 73 #[.val (.int p0), .val (.int p1), .val (.int p2), .val (.int p3), .val (.int p4), .val (.int p5), .val (.int z7), .val (.int z19), .val (.int m29_s0), .val (.ref c46_rv), .val (.ref c58_rv), .val (.double z66), .second, .unset, .unset, .unset, .unset, .unset, .unset, .unset, .unset, .unset, .unset, .unset, .unset, .unset, .unset, .unset] [(.int (16 : Int32)), (.int p4)])) _
    refine Jvm.OwnK.ishr X3.here hx rfl (hb hby at_73) rfl hz73 ?_
    show Steps p.tables e below (T3.setTop (mkF m 74 #[.val (.int p0), .val (.int p1), .val (.int p2), .val (.int p3), .val (.int p4), .val (.int p5), .val (.int z7), .val (.int z19), .val (.int m29_s0), .val (.ref c46_rv), .val (.ref c58_rv), .val (.double z66), .second, .unset, .unset, .unset, .unset, .unset, .unset, .unset, .unset, .unset, .unset, .unset, .unset, .unset, .unset, .unset] [(.int z73)])) _
    refine XS.i2dS X3.here hx rfl (hb hby at_74) rfl hz74 ?_
    show Steps p.tables e below (T3.setTop (mkF m 75 #[.val (.int p0), .val (.int p1), .val (.int p2), .val (.int p3), .val (.int p4), .val (.int p5), .val (.int z7), .val (.int z19), .val (.int m29_s0), .val (.ref c46_rv), .val (.ref c58_rv), .val (.double z66), .second, .unset, .unset, .unset, .unset, .unset, .unset, .unset, .unset, .unset, .unset, .unset, .unset, .unset, .unset, .unset] [(.double z74)])) _
    refine XS.dstore X3.here hx rfl (hb hby at_75) rfl (l' := #[.val (.int p0), .val (.int p1), .val (.int p2), .val (.int p3), .val (.int p4), .val (.int p5), .val (.int z7), .val (.int z19), .val (.int m29_s0), .val (.ref c46_rv), .val (.ref c58_rv), .val (.double z66), .second, .val (.double z74), .second, .unset, .unset, .unset, .unset, .unset, .unset, .unset, .unset, .unset, .unset, .unset, .unset, .unset]) rfl ?_
    show Steps p.tables e below (T3.setTop (mkF m 77 #[.val (.int p0), .val (.int p1), .val (.int p2), .val (.int p3), .val (.int p4), .val (.int p5), .val (.int z7), .val (.int z19), .val (.int m29_s0), .val (.ref c46_rv), .val (.ref c58_rv), .val (.double z66), .second, .val (.double z74), .second, .unset, .unset, .unset, .unset, .unset, .unset, .unset, .unset, .unset, .unset, .unset, .unset, .unset] [])) _
    refine XS.iload X3.here hx rfl (hb hby at_77) rfl ?_
    show Steps p.tables e below (T3.setTop (mkF m 79 #[.val (.int p0), .val (.int p1), .val (.int p2), .val (.int p3), .val (.int p4), .val (.int p5), .val (.int z7), .val (.int z19), .val (.int m29_s0), .val (.ref c46_rv), .val (.ref c58_rv), .val (.double z66), .second, .val (.double z74), .second, .unset, .unset, .unset, .unset, .unset, .unset, .unset, .unset, .unset, .unset, .unset, .unset, .unset] [(.int z7)])) _
    refine XS.i2dS X3.here hx rfl (hb hby at_79) rfl hz79 ?_
    show Steps p.tables e below (T3.setTop (mkF m 80 #[.val (.int p0), .val (.int p1), .val (.int p2), .val (.int p3), .val (.int p4), .val (.int p5), .val (.int z7), .val (.int z19), .val (.int m29_s0), .val (.ref c46_rv), .val (.ref c58_rv), .val (.double z66), .second, .val (.double z74), .second, .unset, .unset, .unset, .unset, .unset, .unset, .unset, .unset, .unset, .unset, .unset, .unset, .unset] [(.double z79)])) _
    refine X3.ldc2DoubleC hx hown (mvT hZ (hw _ (List.mem_of_getElem? (i := 7) rfl))) (g := (mkF m 80 #[.val (.int p0), .val (.int p1), .val (.int p2), .val (.int p3), .val (.int p4), .val (.int p5), .val (.int z7), .val (.int z19), .val (.int m29_s0), .val (.ref c46_rv), .val (.ref c58_rv), .val (.double z66), .second, .val (.double z74), .second, .unset, .unset, .unset, .unset, .unset, .unset, .unset, .unset, .unset, .unset, .unset, .unset, .unset] [(.double z79)])) rfl (hb hby at_80) _ ?_
    show Steps p.tables e below (T3.setTop (mkF m 83 #[.val (.int p0), .val (.int p1), .val (.int p2), .val (.int p3), .val (.int p4), .val (.int p5), .val (.int z7), .val (.int z19), .val (.int m29_s0), .val (.ref c46_rv), .val (.ref c58_rv), .val (.double z66), .second, .val (.double z74), .second, .unset, .unset, .unset, .unset, .unset, .unset, .unset, .unset, .unset, .unset, .unset, .unset, .unset] [(.double (4620693217682128896 : UInt64)), (.double z79)])) _
    refine Jvm.OwnK.ddiv X3.here hx rfl (hb hby at_83) rfl hz83 nn83 ?_
    show Steps p.tables e below (T3.setTop (mkF m 84 #[.val (.int p0), .val (.int p1), .val (.int p2), .val (.int p3), .val (.int p4), .val (.int p5), .val (.int z7), .val (.int z19), .val (.int m29_s0), .val (.ref c46_rv), .val (.ref c58_rv), .val (.double z66), .second, .val (.double z74), .second, .unset, .unset, .unset, .unset, .unset, .unset, .unset, .unset, .unset, .unset, .unset, .unset, .unset] [(.double z83)])) _
    refine XS.dstore X3.here hx rfl (hb hby at_84) rfl (l' := #[.val (.int p0), .val (.int p1), .val (.int p2), .val (.int p3), .val (.int p4), .val (.int p5), .val (.int z7), .val (.int z19), .val (.int m29_s0), .val (.ref c46_rv), .val (.ref c58_rv), .val (.double z66), .second, .val (.double z74), .second, .val (.double z83), .second, .unset, .unset, .unset, .unset, .unset, .unset, .unset, .unset, .unset, .unset, .unset]) rfl ?_
    show Steps p.tables e below (T3.setTop (mkF m 86 #[.val (.int p0), .val (.int p1), .val (.int p2), .val (.int p3), .val (.int p4), .val (.int p5), .val (.int z7), .val (.int z19), .val (.int m29_s0), .val (.ref c46_rv), .val (.ref c58_rv), .val (.double z66), .second, .val (.double z74), .second, .val (.double z83), .second, .unset, .unset, .unset, .unset, .unset, .unset, .unset, .unset, .unset, .unset, .unset] [])) _
    refine XS.iload X3.here hx rfl (hb hby at_86) rfl ?_
    show Steps p.tables e below (T3.setTop (mkF m 88 #[.val (.int p0), .val (.int p1), .val (.int p2), .val (.int p3), .val (.int p4), .val (.int p5), .val (.int z7), .val (.int z19), .val (.int m29_s0), .val (.ref c46_rv), .val (.ref c58_rv), .val (.double z66), .second, .val (.double z74), .second, .val (.double z83), .second, .unset, .unset, .unset, .unset, .unset, .unset, .unset, .unset, .unset, .unset, .unset] [(.int z19)])) _
    refine XS.i2dS X3.here hx rfl (hb hby at_88) rfl hz88 ?_
    show Steps p.tables e below (T3.setTop (mkF m 89 #[.val (.int p0), .val (.int p1), .val (.int p2), .val (.int p3), .val (.int p4), .val (.int p5), .val (.int z7), .val (.int z19), .val (.int m29_s0), .val (.ref c46_rv), .val (.ref c58_rv), .val (.double z66), .second, .val (.double z74), .second, .val (.double z83), .second, .unset, .unset, .unset, .unset, .unset, .unset, .unset, .unset, .unset, .unset, .unset] [(.double z88)])) _
    refine X3.ldc2DoubleC hx hown (mvT hZ (hw _ (List.mem_of_getElem? (i := 7) rfl))) (g := (mkF m 89 #[.val (.int p0), .val (.int p1), .val (.int p2), .val (.int p3), .val (.int p4), .val (.int p5), .val (.int z7), .val (.int z19), .val (.int m29_s0), .val (.ref c46_rv), .val (.ref c58_rv), .val (.double z66), .second, .val (.double z74), .second, .val (.double z83), .second, .unset, .unset, .unset, .unset, .unset, .unset, .unset, .unset, .unset, .unset, .unset] [(.double z88)])) rfl (hb hby at_89) _ ?_
    show Steps p.tables e below (T3.setTop (mkF m 92 #[.val (.int p0), .val (.int p1), .val (.int p2), .val (.int p3), .val (.int p4), .val (.int p5), .val (.int z7), .val (.int z19), .val (.int m29_s0), .val (.ref c46_rv), .val (.ref c58_rv), .val (.double z66), .second, .val (.double z74), .second, .val (.double z83), .second, .unset, .unset, .unset, .unset, .unset, .unset, .unset, .unset, .unset, .unset, .unset] [(.double (4620693217682128896 : UInt64)), (.double z88)])) _
    refine Jvm.OwnK.ddiv X3.here hx rfl (hb hby at_92) rfl hz92 nn92 ?_
    show Steps p.tables e below (T3.setTop (mkF m 93 #[.val (.int p0), .val (.int p1), .val (.int p2), .val (.int p3), .val (.int p4), .val (.int p5), .val (.int z7), .val (.int z19), .val (.int m29_s0), .val (.ref c46_rv), .val (.ref c58_rv), .val (.double z66), .second, .val (.double z74), .second, .val (.double z83), .second, .unset, .unset, .unset, .unset, .unset, .unset, .unset, .unset, .unset, .unset, .unset] [(.double z92)])) _
    refine XS.dstore X3.here hx rfl (hb hby at_93) rfl (l' := #[.val (.int p0), .val (.int p1), .val (.int p2), .val (.int p3), .val (.int p4), .val (.int p5), .val (.int z7), .val (.int z19), .val (.int m29_s0), .val (.ref c46_rv), .val (.ref c58_rv), .val (.double z66), .second, .val (.double z74), .second, .val (.double z83), .second, .val (.double z92), .second, .unset, .unset, .unset, .unset, .unset, .unset, .unset, .unset, .unset]) rfl ?_
    show Steps p.tables e below (T3.setTop (mkF m 95 #[.val (.int p0), .val (.int p1), .val (.int p2), .val (.int p3), .val (.int p4), .val (.int p5), .val (.int z7), .val (.int z19), .val (.int m29_s0), .val (.ref c46_rv), .val (.ref c58_rv), .val (.double z66), .second, .val (.double z74), .second, .val (.double z83), .second, .val (.double z92), .second, .unset, .unset, .unset, .unset, .unset, .unset, .unset, .unset, .unset] [])) _
    refine XS.iloadN X3.here hx rfl (hb hby at_95) rfl ?_
    show Steps p.tables e below (T3.setTop (mkF m 96 #[.val (.int p0), .val (.int p1), .val (.int p2), .val (.int p3), .val (.int p4), .val (.int p5), .val (.int z7), .val (.int z19), .val (.int m29_s0), .val (.ref c46_rv), .val (.ref c58_rv), .val (.double z66), .second, .val (.double z74), .second, .val (.double z83), .second, .val (.double z92), .second, .unset, .unset, .unset, .unset, .unset, .unset, .unset, .unset, .unset] [(.int p2)])) _
    refine XS.i2dS X3.here hx rfl (hb hby at_96) rfl hz96 ?_
    show Steps p.tables e below (T3.setTop (mkF m 97 #[.val (.int p0), .val (.int p1), .val (.int p2), .val (.int p3), .val (.int p4), .val (.int p5), .val (.int z7), .val (.int z19), .val (.int m29_s0), .val (.ref c46_rv), .val (.ref c58_rv), .val (.double z66), .second, .val (.double z74), .second, .val (.double z83), .second, .val (.double z92), .second, .unset, .unset, .unset, .unset, .unset, .unset, .unset, .unset, .unset] [(.double z96)])) _
    refine XS.dstore X3.here hx rfl (hb hby at_97) rfl (l' := #[.val (.int p0), .val (.int p1), .val (.int p2), .val (.int p3), .val (.int p4), .val (.int p5), .val (.int z7), .val (.int z19), .val (.int m29_s0), .val (.ref c46_rv), .val (.ref c58_rv), .val (.double z66), .second, .val (.double z74), .second, .val (.double z83), .second, .val (.double z92), .second, .val (.double z96), .second, .unset, .unset, .unset, .unset, .unset, .unset, .unset]) rfl ?_
    show Steps p.tables e below (T3.setTop (mkF m 99 #[.val (.int p0), .val (.int p1), .val (.int p2), .val (.int p3), .val (.int p4), .val (.int p5), .val (.int z7), .val (.int z19), .val (.int m29_s0), .val (.ref c46_rv), .val (.ref c58_rv), .val (.double z66), .second, .val (.double z74), .second, .val (.double z83), .second, .val (.double z92), .second, .val (.double z96), .second, .unset, .unset, .unset, .unset, .unset, .unset, .unset] [])) _
    refine XS.iloadN X3.here hx rfl (hb hby at_99) rfl ?_
    show Steps p.tables e below (T3.setTop (mkF m 100 #[.val (.int p0), .val (.int p1), .val (.int p2), .val (.int p3), .val (.int p4), .val (.int p5), .val (.int z7), .val (.int z19), .val (.int m29_s0), .val (.ref c46_rv), .val (.ref c58_rv), .val (.double z66), .second, .val (.double z74), .second, .val (.double z83), .second, .val (.double z92), .second, .val (.double z96), .second, .unset, .unset, .unset, .unset, .unset, .unset, .unset] [(.int p3)])) _
    refine XS.i2dS X3.here hx rfl (hb hby at_100) rfl hz100 ?_
    show Steps p.tables e below (T3.setTop (mkF m 101 #[.val (.int p0), .val (.int p1), .val (.int p2), .val (.int p3), .val (.int p4), .val (.int p5), .val (.int z7), .val (.int z19), .val (.int m29_s0), .val (.ref c46_rv), .val (.ref c58_rv), .val (.double z66), .second, .val (.double z74), .second, .val (.double z83), .second, .val (.double z92), .second, .val (.double z96), .second, .unset, .unset, .unset, .unset, .unset, .unset, .unset] [(.double z100)])) _
    refine XS.dstore X3.here hx rfl (hb hby at_101) rfl (l' := #[.val (.int p0), .val (.int p1), .val (.int p2), .val (.int p3), .val (.int p4), .val (.int p5), .val (.int z7), .val (.int z19), .val (.int m29_s0), .val (.ref c46_rv), .val (.ref c58_rv), .val (.double z66), .second, .val (.double z74), .second, .val (.double z83), .second, .val (.double z92), .second, .val (.double z96), .second, .val (.double z100), .second, .unset, .unset, .unset, .unset, .unset]) rfl ?_
    show Steps p.tables e below (T3.setTop (mkF m 103 #[.val (.int p0), .val (.int p1), .val (.int p2), .val (.int p3), .val (.int p4), .val (.int p5), .val (.int z7), .val (.int z19), .val (.int m29_s0), .val (.ref c46_rv), .val (.ref c58_rv), .val (.double z66), .second, .val (.double z74), .second, .val (.double z83), .second, .val (.double z92), .second, .val (.double z96), .second, .val (.double z100), .second, .unset, .unset, .unset, .unset, .unset] [])) _
    refine st4 _ ?_
    show Steps p.tables e below (T4.setTop (mkF m 106 #[.val (.int p0), .val (.int p1), .val (.int p2), .val (.int p3), .val (.int p4), .val (.int p5), .val (.int z7), .val (.int z19), .val (.int m29_s0), .val (.ref c46_rv), .val (.ref c58_rv), .val (.double z66), .second, .val (.double z74), .second, .val (.double z83), .second, .val (.double z92), .second, .val (.double z96), .second, .val (.double z100), .second, .unset, .unset, .unset, .unset, .unset] [(.ref b4)])) _
    refine XS.dup X4.here hx rfl (hb hby at_106) rfl rfl ?_
    show Steps p.tables e below (T4.setTop (mkF m 107 #[.val (.int p0), .val (.int p1), .val (.int p2), .val (.int p3), .val (.int p4), .val (.int p5), .val (.int z7), .val (.int z19), .val (.int m29_s0), .val (.ref c46_rv), .val (.ref c58_rv), .val (.double z66), .second, .val (.double z74), .second, .val (.double z83), .second, .val (.double z92), .second, .val (.double z96), .second, .val (.double z100), .second, .unset, .unset, .unset, .unset, .unset] [(.ref b4), (.ref b4)])) _
    refine XS.iloadN X4.here hx rfl (hb hby at_107) rfl ?_
    show Steps p.tables e below (T4.setTop (mkF m 108 #[.val (.int p0), .val (.int p1), .val (.int p2), .val (.int p3), .val (.int p4), .val (.int p5), .val (.int z7), .val (.int z19), .val (.int m29_s0), .val (.ref c46_rv), .val (.ref c58_rv), .val (.double z66), .second, .val (.double z74), .second, .val (.double z83), .second, .val (.double z92), .second, .val (.double z96), .second, .val (.double z100), .second, .unset, .unset, .unset, .unset, .unset] [(.int p0), (.ref b4), (.ref b4)])) _
    refine XS.iloadN X4.here hx rfl (hb hby at_108) rfl ?_
    show Steps p.tables e below (T4.setTop (mkF m 109 #[.val (.int p0), .val (.int p1), .val (.int p2), .val (.int p3), .val (.int p4), .val (.int p5), .val (.int z7), .val (.int z19), .val (.int m29_s0), .val (.ref c46_rv), .val (.ref c58_rv), .val (.double z66), .second, .val (.double z74), .second, .val (.double z83), .second, .val (.double z92), .second, .val (.double z96), .second, .val (.double z100), .second, .unset, .unset, .unset, .unset, .unset] [(.int p1), (.int p0), (.ref b4), (.ref b4)])) _
    refine XS.dload X4.here hx rfl (hb hby at_109) rfl ?_
    show Steps p.tables e below (T4.setTop (mkF m 111 #[.val (.int p0), .val (.int p1), .val (.int p2), .val (.int p3), .val (.int p4), .val (.int p5), .val (.int z7), .val (.int z19), .val (.int m29_s0), .val (.ref c46_rv), .val (.ref c58_rv), .val (.double z66), .second, .val (.double z74), .second, .val (.double z83), .second, .val (.double z92), .second, .val (.double z96), .second, .val (.double z100), .second, .unset, .unset, .unset, .unset, .unset] [(.double z66), (.int p1), (.int p0), (.ref b4), (.ref b4)])) _
    refine XS.dload X4.here hx rfl (hb hby at_111) rfl ?_
    show Steps p.tables e below (T4.setTop (mkF m 113 #[.val (.int p0), .val (.int p1), .val (.int p2), .val (.int p3), .val (.int p4), .val (.int p5), .val (.int z7), .val (.int z19), .val (.int m29_s0), .val (.ref c46_rv), .val (.ref c58_rv), .val (.double z66), .second, .val (.double z74), .second, .val (.double z83), .second, .val (.double z92), .second, .val (.double z96), .second, .val (.double z100), .second, .unset, .unset, .unset, .unset, .unset] [(.double z74), (.double z66), (.int p1), (.int p0), (.ref b4), (.ref b4)])) _
    refine XS.dload X4.here hx rfl (hb hby at_113) rfl ?_
    show Steps p.tables e below (T4.setTop (mkF m 115 #[.val (.int p0), .val (.int p1), .val (.int p2), .val (.int p3), .val (.int p4), .val (.int p5), .val (.int z7), .val (.int z19), .val (.int m29_s0), .val (.ref c46_rv), .val (.ref c58_rv), .val (.double z66), .second, .val (.double z74), .second, .val (.double z83), .second, .val (.double z92), .second, .val (.double z96), .second, .val (.double z100), .second, .unset, .unset, .unset, .unset, .unset] [(.double z83), (.double z74), (.double z66), (.int p1), (.int p0), (.ref b4), (.ref b4)])) _
    refine XS.iload X4.here hx rfl (hb hby at_115) rfl ?_
    show Steps p.tables e below (T4.setTop (mkF m 117 #[.val (.int p0), .val (.int p1), .val (.int p2), .val (.int p3), .val (.int p4), .val (.int p5), .val (.int z7), .val (.int z19), .val (.int m29_s0), .val (.ref c46_rv), .val (.ref c58_rv), .val (.double z66), .second, .val (.double z74), .second, .val (.double z83), .second, .val (.double z92), .second, .val (.double z96), .second, .val (.double z100), .second, .unset, .unset, .unset, .unset, .unset] [(.int m29_s0), (.double z83), (.double z74), (.double z66), (.int p1), (.int p0), (.ref b4), (.ref b4)])) _
    refine XS.aload X4.here hx rfl (hb hby at_117) rfl rfl ?_
    show Steps p.tables e below (T4.setTop (mkF m 119 #[.val (.int p0), .val (.int p1), .val (.int p2), .val (.int p3), .val (.int p4), .val (.int p5), .val (.int z7), .val (.int z19), .val (.int m29_s0), .val (.ref c46_rv), .val (.ref c58_rv), .val (.double z66), .second, .val (.double z74), .second, .val (.double z83), .second, .val (.double z92), .second, .val (.double z96), .second, .val (.double z100), .second, .unset, .unset, .unset, .unset, .unset] [(.ref c46_rv), (.int m29_s0), (.double z83), (.double z74), (.double z66), (.int p1), (.int p0), (.ref b4), (.ref b4)])) _
    refine st6.trans ?_
    show Steps p.tables e below (T6.setTop (mkF m 122 #[.val (.int p0), .val (.int p1), .val (.int p2), .val (.int p3), .val (.int p4), .val (.int p5), .val (.int z7), .val (.int z19), .val (.int m29_s0), .val (.ref c46_rv), .val (.ref c58_rv), .val (.double z66), .second, .val (.double z74), .second, .val (.double z83), .second, .val (.double z92), .second, .val (.double z96), .second, .val (.double z100), .second, .unset, .unset, .unset, .unset, .unset] [(.ref b4)])) _
    refine XS.astore X6.here hx rfl (hb hby at_122) rfl rfl (l' := #[.val (.int p0), .val (.int p1), .val (.int p2), .val (.int p3), .val (.int p4), .val (.int p5), .val (.int z7), .val (.int z19), .val (.int m29_s0), .val (.ref c46_rv), .val (.ref c58_rv), .val (.double z66), .second, .val (.double z74), .second, .val (.double z83), .second, .val (.double z92), .second, .val (.double z96), .second, .val (.double z100), .second, .val (.ref b4), .unset, .unset, .unset, .unset]) rfl ?_
    show Steps p.tables e below (T6.setTop (mkF m 124 #[.val (.int p0), .val (.int p1), .val (.int p2), .val (.int p3), .val (.int p4), .val (.int p5), .val (.int z7), .val (.int z19), .val (.int m29_s0), .val (.ref c46_rv), .val (.ref c58_rv), .val (.double z66), .second, .val (.double z74), .second, .val (.double z83), .second, .val (.double z92), .second, .val (.double z96), .second, .val (.double z100), .second, .val (.ref b4), .unset, .unset, .unset, .unset] [])) _
    refine XS.aload X6.here hx rfl (hb hby at_124) rfl rfl ?_
    show Steps p.tables e below (T6.setTop (mkF m 126 #[.val (.int p0), .val (.int p1), .val (.int p2), .val (.int p3), .val (.int p4), .val (.int p5), .val (.int z7), .val (.int z19), .val (.int m29_s0), .val (.ref c46_rv), .val (.ref c58_rv), .val (.double z66), .second, .val (.double z74), .second, .val (.double z83), .second, .val (.double z92), .second, .val (.double z96), .second, .val (.double z100), .second, .val (.ref b4), .unset, .unset, .unset, .unset] [(.ref b4)])) _
    refine XS.dload X6.here hx rfl (hb hby at_126) rfl ?_
    show Steps p.tables e below (T6.setTop (mkF m 128 #[.val (.int p0), .val (.int p1), .val (.int p2), .val (.int p3), .val (.int p4), .val (.int p5), .val (.int z7), .val (.int z19), .val (.int m29_s0), .val (.ref c46_rv), .val (.ref c58_rv), .val (.double z66), .second, .val (.double z74), .second, .val (.double z83), .second, .val (.double z92), .second, .val (.double z96), .second, .val (.double z100), .second, .val (.ref b4), .unset, .unset, .unset, .unset] [(.double z96), (.ref b4)])) _
    refine XS.dload X6.here hx rfl (hb hby at_128) rfl ?_
    show Steps p.tables e below (T6.setTop (mkF m 130 #[.val (.int p0), .val (.int p1), .val (.int p2), .val (.int p3), .val (.int p4), .val (.int p5), .val (.int z7), .val (.int z19), .val (.int m29_s0), .val (.ref c46_rv), .val (.ref c58_rv), .val (.double z66), .second, .val (.double z74), .second, .val (.double z83), .second, .val (.double z92), .second, .val (.double z96), .second, .val (.double z100), .second, .val (.ref b4), .unset, .unset, .unset, .unset] [(.double z100), (.double z96), (.ref b4)])) _
    refine XS.dload X6.here hx rfl (hb hby at_130) rfl ?_
    show Steps p.tables e below (T6.setTop (mkF m 132 #[.val (.int p0), .val (.int p1), .val (.int p2), .val (.int p3), .val (.int p4), .val (.int p5), .val (.int z7), .val (.int z19), .val (.int m29_s0), .val (.ref c46_rv), .val (.ref c58_rv), .val (.double z66), .second, .val (.double z74), .second, .val (.double z83), .second, .val (.double z92), .second, .val (.double z96), .second, .val (.double z100), .second, .val (.ref b4), .unset, .unset, .unset, .unset] [(.double z92), (.double z100), (.double z96), (.ref b4)])) _
    refine XS.aload X6.here hx rfl (hb hby at_132) rfl rfl ?_
    exact k
  by_cases hs134 : z19 < z7
  · skip
    obtain ⟨c134_z20, hc134_z20⟩ : ∃ z : UInt64, FP.dmul z83 z92 = z := ⟨_, rfl⟩
    obtain ⟨c134_z31, hc134_z31⟩ : ∃ z : Int32, cmpValue (FP.dcmp z92 z83) .g = z := ⟨_, rfl⟩
    obtain ⟨c134_c44_z7, hc134_c44_z7⟩ : ∃ z : Int32, cmpValue (FP.dcmp c134_z20 FP.dconst0) .l = z := ⟨_, rfl⟩
    obtain ⟨c134_c44_z14, hc134_c44_z14⟩ : ∃ z : Int32, cmpValue (FP.dcmp c134_z20 FP.dconst1) .g = z := ⟨_, rfl⟩
    obtain ⟨z143, hz143⟩ : ∃ z : Int32, z7 * z19 = z := ⟨_, rfl⟩
    obtain ⟨z144, hz144⟩ : ∃ z : UInt64, FP.i2d z143 = z := ⟨_, rfl⟩
    obtain ⟨z148, hz148⟩ : ∃ z : UInt64, FP.ddiv z144 (4634204016564240384 : UInt64) = z := ⟨_, rfl⟩
    obtain ⟨z194, hz194⟩ : ∃ z : Int32, cmpValue (FP.dcmp z96 z96) .l = z := ⟨_, rfl⟩
    obtain ⟨z205, hz205⟩ : ∃ z : Int32, cmpValue (FP.dcmp z100 z100) .l = z := ⟨_, rfl⟩
    obtain ⟨z216, hz216⟩ : ∃ z : Int32, cmpValue (FP.dcmp c134_z20 z148) .l = z := ⟨_, rfl⟩
    obtain ⟨c134_nn20, nn148, ⟨nab, dab, ab0, ab1⟩, fin, gl, ge⟩ := pl hP hQ dp dq hc134_z20 hz143 hz144 hz148 hc134_z31
    have c134_br32 := gl hs134
    obtain ⟨c134_c44_br8, c134_c44_br15⟩ := unit (by decide) dab ab0 ab1 hc134_c44_z7 hc134_c44_z14
    have c134_c44_na63 := c119_na63
    have c134_c44_fi63 := c119_fi63
    obtain ⟨cq9, kq9, q9a, q9b, q9c⟩ := isOf hZ rfl Q6_0
    obtain ⟨_, _, ⟨T9, L9, k9, n9⟩, -, X9, ⟨Lc9, hQ9, ql9, qy9, qz9⟩, st9⟩ := X6.virtualBack hx (y := (⟨"com/example/vetrino/vetrino/PairShift", "remeasured", "(DDDLcom/example/vetrino/vetrino/PairShift$Doubt;)Lcom/example/vetrino/vetrino/PairShift;"⟩ : MethodName)) (z := (⟨"com/example/vetrino/vetrino/PairShift", "remeasured", "(DDDLcom/example/vetrino/vetrino/PairShift$Doubt;)Lcom/example/vetrino/vetrino/PairShift;"⟩ : MethodName)) hown (mvT hZ (hw _ (List.mem_of_getElem? (i := 31) rfl))) (mvT hZ (hw _ (List.mem_of_getElem? (i := 32) rfl))) (notFace_of_selects (args := #[]) (mvT hZ (hw _ (List.mem_of_getElem? (i := 34) rfl)))) (mvT hZ (hw _ (List.mem_of_getElem? (i := 34) rfl))) (mvT hZ (hw _ (List.mem_of_getElem? (i := 33) rfl))) (by decide) (backOf (W := 0) (rm4_f l Z a0 hw [] b4 z96 z100 z92 c58_rv p0 p1 z83 m29_s0 c134_z20 c134_z31 c134_c44_z7 c134_c44_z14 T6.heap n0 (Nat.le_trans (Nat.le_trans Z0 E4.1) K6q.1) Q6_1 Q6_2 Q6_5 Q6_6 hc134_z20 hc134_z31 hc134_c44_z7 hc134_c44_z14 c134_nn20 c134_br32 c134_c44_br8 c134_c44_br15 c134_c44_na63 c134_c44_fi63) hZ (hw _ (List.mem_of_getElem? (i := 35) rfl)) (hw _ (List.mem_of_getElem? (i := 10) rfl)) (by decide) (by decide)) q9a q9c (g := (mkF m 134 #[.val (.int p0), .val (.int p1), .val (.int p2), .val (.int p3), .val (.int p4), .val (.int p5), .val (.int z7), .val (.int z19), .val (.int m29_s0), .val (.ref c46_rv), .val (.ref c58_rv), .val (.double z66), .second, .val (.double z74), .second, .val (.double z83), .second, .val (.double z92), .second, .val (.double z96), .second, .val (.double z100), .second, .val (.ref b4), .unset, .unset, .unset, .unset] [(.ref c58_rv), (.double z92), (.double z100), (.double z96), (.ref b4)])) rfl (by rw [hml]; rfl) (Steps.refl _) (argsL := [(.double z96), (.double z100), (.double z92), (.ref c58_rv)]) (rest := []) (lenOf pd_2 rfl) rfl (by show 2 * 0 + _ ≤ _; exact Nat.le_of_eq rfl) (hb hby at_134) (fun _ _ => ⟨rfl, rfl, (by decide : 1 + 1 ≤ _), (by decide : 7 + 7 ≤ _)⟩)
    dsimp only [Pt.U, Pt.locs, Pt.cells, Pt.slots] at X9 ql9 qy9 qz9 st9 hQ9
    subst ql9 qy9 qz9
    obtain ⟨rb9_b1, rfl, N9q, gz9_b1, K9q, Q9_0, Q9_1, Q9_2, Q9_3, Q9_4, Q9_5, Q9_6, Q9_7⟩ := hQ9
    have N9 := Fr.app N6 N9q
    have gn9_b1 : n0 ≤ rb9_b1 := Nat.le_trans (Nat.le_trans (Nat.le_trans Z0 E4.1) K6q.1) gz9_b1
    have gy9_b1 : h0.size ≤ rb9_b1 := Nat.le_trans (K7).1 gz9_b1
    have K10 : Keep h0 T9.heap [] := Keep.trans K7 K9q all0
    obtain ⟨cq11, kq11, q11a, q11b, q11c⟩ := isOf hZ rfl Q9_0
    obtain ⟨_, _, ⟨T11, L11, k11, n11⟩, -, X11, ⟨Lc11, hQ11, ql11, qy11, qz11⟩, st11⟩ := X9.virtualBack hx (y := (⟨"com/example/vetrino/vetrino/PairShift", "first", "()I"⟩ : MethodName)) (z := (⟨"com/example/vetrino/vetrino/PairShift", "first", "()I"⟩ : MethodName)) hown (mvT hZ (hw _ (List.mem_of_getElem? (i := 39) rfl))) (mvT hZ (hw _ (List.mem_of_getElem? (i := 40) rfl))) (notFace_of_selects (args := #[]) (mvT hZ (hw _ (List.mem_of_getElem? (i := 42) rfl)))) (mvT hZ (hw _ (List.mem_of_getElem? (i := 42) rfl))) (mvT hZ (hw _ (List.mem_of_getElem? (i := 41) rfl))) (by decide) (backOf (W := 0) (rm5 l Z a0 hw [] rb9_b1 p0  T9.heap n0 (Nat.le_trans (Nat.le_trans (Nat.le_trans Z0 E4.1) K6q.1) K9q.1) Q9_1) hZ (hw _ (List.mem_of_getElem? (i := 43) rfl)) (hw _ (List.mem_of_getElem? (i := 10) rfl)) (by decide) (by decide)) q11a q11c (g := (mkF m 171 #[.val (.int p0), .val (.int p1), .val (.int p2), .val (.int p3), .val (.int p4), .val (.int p5), .val (.int z7), .val (.int z19), .val (.int m29_s0), .val (.ref c46_rv), .val (.ref c58_rv), .val (.double z66), .second, .val (.double z74), .second, .val (.double z83), .second, .val (.double z92), .second, .val (.double z96), .second, .val (.double z100), .second, .val (.ref b4), .val (.ref rb9_b1), .val (.double z148), .second, .val (.ref c58_rv)] [(.ref rb9_b1)])) rfl (by rw [hml]; rfl) (Steps.refl _) (argsL := []) (rest := []) (lenOf pd_3 rfl) rfl (by show 2 * 0 + _ ≤ _; exact Nat.le_of_eq rfl) (hb hby at_171) (fun _ _ => ⟨rfl, rfl, (by decide : 2 + 0 ≤ _), (by decide : 14 + 0 ≤ _)⟩)
    dsimp only [Pt.U, Pt.locs, Pt.cells, Pt.slots] at X11 ql11 qy11 qz11 st11 hQ11
    subst ql11 qy11 qz11
    obtain ⟨rfl, N11q, e11⟩ := hQ11
    have N11 := Fr.app N9 N11q
    obtain ⟨cq12, kq12, q12a, q12b, q12c⟩ := isOf hZ e11 Q9_0
    obtain ⟨_, _, ⟨T12, L12, k12, n12⟩, -, X12, ⟨Lc12, hQ12, ql12, qy12, qz12⟩, st12⟩ := X11.virtualBack hx (y := (⟨"com/example/vetrino/vetrino/PairShift", "second", "()I"⟩ : MethodName)) (z := (⟨"com/example/vetrino/vetrino/PairShift", "second", "()I"⟩ : MethodName)) hown (mvT hZ (hw _ (List.mem_of_getElem? (i := 44) rfl))) (mvT hZ (hw _ (List.mem_of_getElem? (i := 45) rfl))) (notFace_of_selects (args := #[]) (mvT hZ (hw _ (List.mem_of_getElem? (i := 47) rfl)))) (mvT hZ (hw _ (List.mem_of_getElem? (i := 47) rfl))) (mvT hZ (hw _ (List.mem_of_getElem? (i := 46) rfl))) (by decide) (backOf (W := 0) (rm6 l Z a0 hw [] rb9_b1 p1  T9.heap n0 (Nat.le_trans (Nat.le_trans (Nat.le_trans Z0 E4.1) K6q.1) K9q.1) Q9_2) hZ (hw _ (List.mem_of_getElem? (i := 48) rfl)) (hw _ (List.mem_of_getElem? (i := 10) rfl)) (by decide) (by decide)) q12a q12c (g := (mkF m 180 #[.val (.int p0), .val (.int p1), .val (.int p2), .val (.int p3), .val (.int p4), .val (.int p5), .val (.int z7), .val (.int z19), .val (.int m29_s0), .val (.ref c46_rv), .val (.ref c58_rv), .val (.double z66), .second, .val (.double z74), .second, .val (.double z83), .second, .val (.double z92), .second, .val (.double z96), .second, .val (.double z100), .second, .val (.ref b4), .val (.ref rb9_b1), .val (.double z148), .second, .val (.ref c58_rv)] [(.ref rb9_b1)])) rfl (by rw [hml]; rfl) (Steps.refl _) (argsL := []) (rest := []) (lenOf pd_3 rfl) rfl (by show 2 * 0 + _ ≤ _; exact Nat.le_of_eq rfl) (hb hby at_180) (fun _ _ => ⟨rfl, e11, (by decide : 2 + 0 ≤ _), (by decide : 14 + 0 ≤ _)⟩)
    dsimp only [Pt.U, Pt.locs, Pt.cells, Pt.slots] at X12 ql12 qy12 qz12 st12 hQ12
    subst ql12 qy12 qz12
    obtain ⟨rfl, N12q, e12⟩ := hQ12
    have N12 := Fr.app N11 N12q
    obtain ⟨cq13, kq13, q13a, q13b, q13c⟩ := isOf hZ e12 Q9_0
    obtain ⟨_, _, ⟨T13, L13, k13, n13⟩, -, X13, ⟨Lc13, hQ13, ql13, qy13, qz13⟩, st13⟩ := X12.virtualBack hx (y := (⟨"com/example/vetrino/vetrino/PairShift", "dx", "()D"⟩ : MethodName)) (z := (⟨"com/example/vetrino/vetrino/PairShift", "dx", "()D"⟩ : MethodName)) hown (mvT hZ (hw _ (List.mem_of_getElem? (i := 49) rfl))) (mvT hZ (hw _ (List.mem_of_getElem? (i := 50) rfl))) (notFace_of_selects (args := #[]) (mvT hZ (hw _ (List.mem_of_getElem? (i := 52) rfl)))) (mvT hZ (hw _ (List.mem_of_getElem? (i := 52) rfl))) (mvT hZ (hw _ (List.mem_of_getElem? (i := 51) rfl))) (by decide) (backOf (W := 0) (rm7 l Z a0 hw [] rb9_b1 z96  T9.heap n0 (Nat.le_trans (Nat.le_trans (Nat.le_trans Z0 E4.1) K6q.1) K9q.1) Q9_3) hZ (hw _ (List.mem_of_getElem? (i := 53) rfl)) (hw _ (List.mem_of_getElem? (i := 10) rfl)) (by decide) (by decide)) q13a q13c (g := (mkF m 189 #[.val (.int p0), .val (.int p1), .val (.int p2), .val (.int p3), .val (.int p4), .val (.int p5), .val (.int z7), .val (.int z19), .val (.int m29_s0), .val (.ref c46_rv), .val (.ref c58_rv), .val (.double z66), .second, .val (.double z74), .second, .val (.double z83), .second, .val (.double z92), .second, .val (.double z96), .second, .val (.double z100), .second, .val (.ref b4), .val (.ref rb9_b1), .val (.double z148), .second, .val (.ref c58_rv)] [(.ref rb9_b1)])) rfl (by rw [hml]; rfl) (Steps.refl _) (argsL := []) (rest := []) (lenOf pd_4 rfl) rfl (by show 2 * 0 + _ ≤ _; exact Nat.le_of_eq rfl) (hb hby at_189) (fun _ _ => ⟨rfl, e12, (by decide : 2 + 0 ≤ _), (by decide : 14 + 0 ≤ _)⟩)
    dsimp only [Pt.U, Pt.locs, Pt.cells, Pt.slots] at X13 ql13 qy13 qz13 st13 hQ13
    subst ql13 qy13 qz13
    obtain ⟨rfl, N13q, e13⟩ := hQ13
    have N13 := Fr.app N12 N13q
    have br195 : z194 = 0 := by rw [← hz194, ← hz96]; exact dcmpV_self (Jvm.OwnF.DV_i2d _).nn _
    obtain ⟨cq14, kq14, q14a, q14b, q14c⟩ := isOf hZ e13 Q9_0
    obtain ⟨_, _, ⟨T14, L14, k14, n14⟩, -, X14, ⟨Lc14, hQ14, ql14, qy14, qz14⟩, st14⟩ := X13.virtualBack hx (y := (⟨"com/example/vetrino/vetrino/PairShift", "dy", "()D"⟩ : MethodName)) (z := (⟨"com/example/vetrino/vetrino/PairShift", "dy", "()D"⟩ : MethodName)) hown (mvT hZ (hw _ (List.mem_of_getElem? (i := 54) rfl))) (mvT hZ (hw _ (List.mem_of_getElem? (i := 55) rfl))) (notFace_of_selects (args := #[]) (mvT hZ (hw _ (List.mem_of_getElem? (i := 57) rfl)))) (mvT hZ (hw _ (List.mem_of_getElem? (i := 57) rfl))) (mvT hZ (hw _ (List.mem_of_getElem? (i := 56) rfl))) (by decide) (backOf (W := 0) (rm8 l Z a0 hw [] rb9_b1 z100  T9.heap n0 (Nat.le_trans (Nat.le_trans (Nat.le_trans Z0 E4.1) K6q.1) K9q.1) Q9_4) hZ (hw _ (List.mem_of_getElem? (i := 58) rfl)) (hw _ (List.mem_of_getElem? (i := 10) rfl)) (by decide) (by decide)) q14a q14c (g := (mkF m 200 #[.val (.int p0), .val (.int p1), .val (.int p2), .val (.int p3), .val (.int p4), .val (.int p5), .val (.int z7), .val (.int z19), .val (.int m29_s0), .val (.ref c46_rv), .val (.ref c58_rv), .val (.double z66), .second, .val (.double z74), .second, .val (.double z83), .second, .val (.double z92), .second, .val (.double z96), .second, .val (.double z100), .second, .val (.ref b4), .val (.ref rb9_b1), .val (.double z148), .second, .val (.ref c58_rv)] [(.ref rb9_b1)])) rfl (by rw [hml]; rfl) (Steps.refl _) (argsL := []) (rest := []) (lenOf pd_4 rfl) rfl (by show 2 * 0 + _ ≤ _; exact Nat.le_of_eq rfl) (hb hby at_200) (fun _ _ => ⟨rfl, e13, (by decide : 2 + 0 ≤ _), (by decide : 14 + 0 ≤ _)⟩)
    dsimp only [Pt.U, Pt.locs, Pt.cells, Pt.slots] at X14 ql14 qy14 qz14 st14 hQ14
    subst ql14 qy14 qz14
    obtain ⟨rfl, N14q, e14⟩ := hQ14
    have N14 := Fr.app N13 N14q
    have br206 : z205 = 0 := by rw [← hz205, ← hz100]; exact dcmpV_self (Jvm.OwnF.DV_i2d _).nn _
    obtain ⟨cq15, kq15, q15a, q15b, q15c⟩ := isOf hZ e14 Q9_0
    obtain ⟨_, _, ⟨T15, L15, k15, n15⟩, -, X15, ⟨Lc15, hQ15, ql15, qy15, qz15⟩, st15⟩ := X14.virtualBack hx (y := (⟨"com/example/vetrino/vetrino/PairShift", "confidence", "()D"⟩ : MethodName)) (z := (⟨"com/example/vetrino/vetrino/PairShift", "confidence", "()D"⟩ : MethodName)) hown (mvT hZ (hw _ (List.mem_of_getElem? (i := 59) rfl))) (mvT hZ (hw _ (List.mem_of_getElem? (i := 60) rfl))) (notFace_of_selects (args := #[]) (mvT hZ (hw _ (List.mem_of_getElem? (i := 62) rfl)))) (mvT hZ (hw _ (List.mem_of_getElem? (i := 62) rfl))) (mvT hZ (hw _ (List.mem_of_getElem? (i := 61) rfl))) (by decide) (backOf (W := 0) (rm9 l Z a0 hw [] rb9_b1 c134_z20  T9.heap n0 (Nat.le_trans (Nat.le_trans (Nat.le_trans Z0 E4.1) K6q.1) K9q.1) Q9_5) hZ (hw _ (List.mem_of_getElem? (i := 63) rfl)) (hw _ (List.mem_of_getElem? (i := 10) rfl)) (by decide) (by decide)) q15a q15c (g := (mkF m 211 #[.val (.int p0), .val (.int p1), .val (.int p2), .val (.int p3), .val (.int p4), .val (.int p5), .val (.int z7), .val (.int z19), .val (.int m29_s0), .val (.ref c46_rv), .val (.ref c58_rv), .val (.double z66), .second, .val (.double z74), .second, .val (.double z83), .second, .val (.double z92), .second, .val (.double z96), .second, .val (.double z100), .second, .val (.ref b4), .val (.ref rb9_b1), .val (.double z148), .second, .val (.ref c58_rv)] [(.ref rb9_b1)])) rfl (by rw [hml]; rfl) (Steps.refl _) (argsL := []) (rest := []) (lenOf pd_4 rfl) rfl (by show 2 * 0 + _ ≤ _; exact Nat.le_of_eq rfl) (hb hby at_211) (fun _ _ => ⟨rfl, e14, (by decide : 2 + 0 ≤ _), (by decide : 14 + 0 ≤ _)⟩)
    dsimp only [Pt.U, Pt.locs, Pt.cells, Pt.slots] at X15 ql15 qy15 qz15 st15 hQ15
    subst ql15 qy15 qz15
    obtain ⟨rfl, N15q, e15⟩ := hQ15
    have N15 := Fr.app N14 N15q
    have br217 : z216 = 0 := hz216.symm.trans fin
    have c222_na4 := c119_na63
    obtain ⟨cq16, kq16, q16a, q16b, q16c⟩ := isOf hZ e15 Q9_0
    obtain ⟨_, _, ⟨T16, L16, k16, n16⟩, -, X16, ⟨Lc16, hQ16, ql16, qy16, qz16⟩, st16⟩ := X15.virtualBack hx (y := (⟨"com/example/vetrino/vetrino/PairShift", "used", "()Z"⟩ : MethodName)) (z := (⟨"com/example/vetrino/vetrino/PairShift", "used", "()Z"⟩ : MethodName)) hown (mvT hZ (hw _ (List.mem_of_getElem? (i := 64) rfl))) (mvT hZ (hw _ (List.mem_of_getElem? (i := 65) rfl))) (notFace_of_selects (args := #[]) (mvT hZ (hw _ (List.mem_of_getElem? (i := 67) rfl)))) (mvT hZ (hw _ (List.mem_of_getElem? (i := 67) rfl))) (mvT hZ (hw _ (List.mem_of_getElem? (i := 66) rfl))) (by decide) (backOf (W := 0) (rm10 l Z a0 hw [] rb9_b1 m29_s0  T9.heap n0 (Nat.le_trans (Nat.le_trans (Nat.le_trans Z0 E4.1) K6q.1) K9q.1) Q9_6 c222_na4) hZ (hw _ (List.mem_of_getElem? (i := 68) rfl)) (hw _ (List.mem_of_getElem? (i := 10) rfl)) (by decide) (by decide)) q16a q16c (g := (mkF m 222 #[.val (.int p0), .val (.int p1), .val (.int p2), .val (.int p3), .val (.int p4), .val (.int p5), .val (.int z7), .val (.int z19), .val (.int m29_s0), .val (.ref c46_rv), .val (.ref c58_rv), .val (.double z66), .second, .val (.double z74), .second, .val (.double z83), .second, .val (.double z92), .second, .val (.double z96), .second, .val (.double z100), .second, .val (.ref b4), .val (.ref rb9_b1), .val (.double z148), .second, .val (.ref c58_rv)] [(.ref rb9_b1)])) rfl (by rw [hml]; rfl) (Steps.refl _) (argsL := []) (rest := []) (lenOf pd_5 rfl) rfl (by show 2 * 0 + _ ≤ _; exact Nat.le_of_eq rfl) (hb hby at_222) (fun _ _ => ⟨rfl, e15, (by decide : 2 + 0 ≤ _), (by decide : 14 + 0 ≤ _)⟩)
    dsimp only [Pt.U, Pt.locs, Pt.cells, Pt.slots] at X16 ql16 qy16 qz16 st16 hQ16
    subst ql16 qy16 qz16
    obtain ⟨rfl, N16q, e16⟩ := hQ16
    have N16 := Fr.app N15 N16q
    obtain ⟨cq17, kq17, q17a, q17b, q17c⟩ := isOf hZ e16 Q9_0
    obtain ⟨_, _, ⟨T17, L17, k17, n17⟩, -, X17, ⟨Lc17, hQ17, ql17, qy17, qz17⟩, st17⟩ := X16.virtualBack hx (y := (⟨"com/example/vetrino/vetrino/PairShift", "doubt", "()Lcom/example/vetrino/vetrino/PairShift$Doubt;"⟩ : MethodName)) (z := (⟨"com/example/vetrino/vetrino/PairShift", "doubt", "()Lcom/example/vetrino/vetrino/PairShift$Doubt;"⟩ : MethodName)) hown (mvT hZ (hw _ (List.mem_of_getElem? (i := 69) rfl))) (mvT hZ (hw _ (List.mem_of_getElem? (i := 70) rfl))) (notFace_of_selects (args := #[]) (mvT hZ (hw _ (List.mem_of_getElem? (i := 72) rfl)))) (mvT hZ (hw _ (List.mem_of_getElem? (i := 72) rfl))) (mvT hZ (hw _ (List.mem_of_getElem? (i := 71) rfl))) (by decide) (backOf (W := 0) (rm11 l Z a0 hw [] rb9_b1 c58_rv  T9.heap n0 (Nat.le_trans (Nat.le_trans (Nat.le_trans Z0 E4.1) K6q.1) K9q.1) Q9_7) hZ (hw _ (List.mem_of_getElem? (i := 73) rfl)) (hw _ (List.mem_of_getElem? (i := 10) rfl)) (by decide) (by decide)) q17a q17c (g := (mkF m 232 #[.val (.int p0), .val (.int p1), .val (.int p2), .val (.int p3), .val (.int p4), .val (.int p5), .val (.int z7), .val (.int z19), .val (.int m29_s0), .val (.ref c46_rv), .val (.ref c58_rv), .val (.double z66), .second, .val (.double z74), .second, .val (.double z83), .second, .val (.double z92), .second, .val (.double z96), .second, .val (.double z100), .second, .val (.ref b4), .val (.ref rb9_b1), .val (.double z148), .second, .val (.ref c58_rv)] [(.ref rb9_b1)])) rfl (by rw [hml]; rfl) (Steps.refl _) (argsL := []) (rest := []) (lenOf pd_6 rfl) rfl (by show 2 * 0 + _ ≤ _; exact Nat.le_of_eq rfl) (hb hby at_232) (fun _ _ => ⟨rfl, e16, (by decide : 2 + 0 ≤ _), (by decide : 14 + 0 ≤ _)⟩)
    dsimp only [Pt.U, Pt.locs, Pt.cells, Pt.slots] at X17 ql17 qy17 qz17 st17 hQ17
    subst ql17 qy17 qz17
    obtain ⟨rfl, N17q, e17⟩ := hQ17
    have N17 := Fr.app N16 N17q
    have c18 : ∀ t, Steps p.tables e below (T17.setTop (mkF m 245 #[.val (.int p0), .val (.int p1), .val (.int p2), .val (.int p3), .val (.int p4), .val (.int p5), .val (.int z7), .val (.int z19), .val (.int m29_s0), .val (.ref c46_rv), .val (.ref c58_rv), .val (.double z66), .second, .val (.double z74), .second, .val (.double z83), .second, .val (.double z92), .second, .val (.double z96), .second, .val (.double z100), .second, .val (.ref b4), .val (.ref rb9_b1), .val (.double z148), .second, .val (.ref c58_rv)] [(.int (1 : Int32))])) t → Steps p.tables e below (s₁.setTop (entryFrame m #[(.int p0), (.int p1), (.int p2), (.int p3), (.int p4), (.int p5)] maxLocals)) t := by
      intro t k
      refine c8 t ?_
      show Steps p.tables e below (T6.setTop (mkF m 134 #[.val (.int p0), .val (.int p1), .val (.int p2), .val (.int p3), .val (.int p4), .val (.int p5), .val (.int z7), .val (.int z19), .val (.int m29_s0), .val (.ref c46_rv), .val (.ref c58_rv), .val (.double z66), .second, .val (.double z74), .second, .val (.double z83), .second, .val (.double z92), .second, .val (.double z96), .second, .val (.double z100), .second, .val (.ref b4), .unset, .unset, .unset, .unset] [(.ref c58_rv), (.double z92), (.double z100), (.double z96), (.ref b4)])) _
      refine st9.trans ?_
      show Steps p.tables e below (T9.setTop (mkF m 137 #[.val (.int p0), .val (.int p1), .val (.int p2), .val (.int p3), .val (.int p4), .val (.int p5), .val (.int z7), .val (.int z19), .val (.int m29_s0), .val (.ref c46_rv), .val (.ref c58_rv), .val (.double z66), .second, .val (.double z74), .second, .val (.double z83), .second, .val (.double z92), .second, .val (.double z96), .second, .val (.double z100), .second, .val (.ref b4), .unset, .unset, .unset, .unset] [(.ref rb9_b1)])) _
      refine XS.astore X9.here hx rfl (hb hby at_137) rfl rfl (l' := #[.val (.int p0), .val (.int p1), .val (.int p2), .val (.int p3), .val (.int p4), .val (.int p5), .val (.int z7), .val (.int z19), .val (.int m29_s0), .val (.ref c46_rv), .val (.ref c58_rv), .val (.double z66), .second, .val (.double z74), .second, .val (.double z83), .second, .val (.double z92), .second, .val (.double z96), .second, .val (.double z100), .second, .val (.ref b4), .val (.ref rb9_b1), .unset, .unset, .unset]) rfl ?_
      show Steps p.tables e below (T9.setTop (mkF m 139 #[.val (.int p0), .val (.int p1), .val (.int p2), .val (.int p3), .val (.int p4), .val (.int p5), .val (.int z7), .val (.int z19), .val (.int m29_s0), .val (.ref c46_rv), .val (.ref c58_rv), .val (.double z66), .second, .val (.double z74), .second, .val (.double z83), .second, .val (.double z92), .second, .val (.double z96), .second, .val (.double z100), .second, .val (.ref b4), .val (.ref rb9_b1), .unset, .unset, .unset] [])) _
      refine XS.iload X9.here hx rfl (hb hby at_139) rfl ?_
      show Steps p.tables e below (T9.setTop (mkF m 141 #[.val (.int p0), .val (.int p1), .val (.int p2), .val (.int p3), .val (.int p4), .val (.int p5), .val (.int z7), .val (.int z19), .val (.int m29_s0), .val (.ref c46_rv), .val (.ref c58_rv), .val (.double z66), .second, .val (.double z74), .second, .val (.double z83), .second, .val (.double z92), .second, .val (.double z96), .second, .val (.double z100), .second, .val (.ref b4), .val (.ref rb9_b1), .unset, .unset, .unset] [(.int z7)])) _
      refine XS.iload X9.here hx rfl (hb hby at_141) rfl ?_
      show Steps p.tables e below (T9.setTop (mkF m 143 #[.val (.int p0), .val (.int p1), .val (.int p2), .val (.int p3), .val (.int p4), .val (.int p5), .val (.int z7), .val (.int z19), .val (.int m29_s0), .val (.ref c46_rv), .val (.ref c58_rv), .val (.double z66), .second, .val (.double z74), .second, .val (.double z83), .second, .val (.double z92), .second, .val (.double z96), .second, .val (.double z100), .second, .val (.ref b4), .val (.ref rb9_b1), .unset, .unset, .unset] [(.int z19), (.int z7)])) _
      refine Jvm.OwnK.imul X9.here hx rfl (hb hby at_143) rfl hz143 ?_
      show Steps p.tables e below (T9.setTop (mkF m 144 #[.val (.int p0), .val (.int p1), .val (.int p2), .val (.int p3), .val (.int p4), .val (.int p5), .val (.int z7), .val (.int z19), .val (.int m29_s0), .val (.ref c46_rv), .val (.ref c58_rv), .val (.double z66), .second, .val (.double z74), .second, .val (.double z83), .second, .val (.double z92), .second, .val (.double z96), .second, .val (.double z100), .second, .val (.ref b4), .val (.ref rb9_b1), .unset, .unset, .unset] [(.int z143)])) _
      refine XS.i2dS X9.here hx rfl (hb hby at_144) rfl hz144 ?_
      show Steps p.tables e below (T9.setTop (mkF m 145 #[.val (.int p0), .val (.int p1), .val (.int p2), .val (.int p3), .val (.int p4), .val (.int p5), .val (.int z7), .val (.int z19), .val (.int m29_s0), .val (.ref c46_rv), .val (.ref c58_rv), .val (.double z66), .second, .val (.double z74), .second, .val (.double z83), .second, .val (.double z92), .second, .val (.double z96), .second, .val (.double z100), .second, .val (.ref b4), .val (.ref rb9_b1), .unset, .unset, .unset] [(.double z144)])) _
      refine X9.ldc2DoubleC hx hown (mvT hZ (hw _ (List.mem_of_getElem? (i := 38) rfl))) (g := (mkF m 145 #[.val (.int p0), .val (.int p1), .val (.int p2), .val (.int p3), .val (.int p4), .val (.int p5), .val (.int z7), .val (.int z19), .val (.int m29_s0), .val (.ref c46_rv), .val (.ref c58_rv), .val (.double z66), .second, .val (.double z74), .second, .val (.double z83), .second, .val (.double z92), .second, .val (.double z96), .second, .val (.double z100), .second, .val (.ref b4), .val (.ref rb9_b1), .unset, .unset, .unset] [(.double z144)])) rfl (hb hby at_145) _ ?_
      show Steps p.tables e below (T9.setTop (mkF m 148 #[.val (.int p0), .val (.int p1), .val (.int p2), .val (.int p3), .val (.int p4), .val (.int p5), .val (.int z7), .val (.int z19), .val (.int m29_s0), .val (.ref c46_rv), .val (.ref c58_rv), .val (.double z66), .second, .val (.double z74), .second, .val (.double z83), .second, .val (.double z92), .second, .val (.double z96), .second, .val (.double z100), .second, .val (.ref b4), .val (.ref rb9_b1), .unset, .unset, .unset] [(.double (4634204016564240384 : UInt64)), (.double z144)])) _
      refine Jvm.OwnK.ddiv X9.here hx rfl (hb hby at_148) rfl hz148 nn148 ?_
      show Steps p.tables e below (T9.setTop (mkF m 149 #[.val (.int p0), .val (.int p1), .val (.int p2), .val (.int p3), .val (.int p4), .val (.int p5), .val (.int z7), .val (.int z19), .val (.int m29_s0), .val (.ref c46_rv), .val (.ref c58_rv), .val (.double z66), .second, .val (.double z74), .second, .val (.double z83), .second, .val (.double z92), .second, .val (.double z96), .second, .val (.double z100), .second, .val (.ref b4), .val (.ref rb9_b1), .unset, .unset, .unset] [(.double z148)])) _
      refine XS.dstore X9.here hx rfl (hb hby at_149) rfl (l' := #[.val (.int p0), .val (.int p1), .val (.int p2), .val (.int p3), .val (.int p4), .val (.int p5), .val (.int z7), .val (.int z19), .val (.int m29_s0), .val (.ref c46_rv), .val (.ref c58_rv), .val (.double z66), .second, .val (.double z74), .second, .val (.double z83), .second, .val (.double z92), .second, .val (.double z96), .second, .val (.double z100), .second, .val (.ref b4), .val (.ref rb9_b1), .val (.double z148), .second, .unset]) rfl ?_
      show Steps p.tables e below (T9.setTop (mkF m 151 #[.val (.int p0), .val (.int p1), .val (.int p2), .val (.int p3), .val (.int p4), .val (.int p5), .val (.int z7), .val (.int z19), .val (.int m29_s0), .val (.ref c46_rv), .val (.ref c58_rv), .val (.double z66), .second, .val (.double z74), .second, .val (.double z83), .second, .val (.double z92), .second, .val (.double z96), .second, .val (.double z100), .second, .val (.ref b4), .val (.ref rb9_b1), .val (.double z148), .second, .unset] [])) _
      refine XS.iload X9.here hx rfl (hb hby at_151) rfl ?_
      show Steps p.tables e below (T9.setTop (mkF m 153 #[.val (.int p0), .val (.int p1), .val (.int p2), .val (.int p3), .val (.int p4), .val (.int p5), .val (.int z7), .val (.int z19), .val (.int m29_s0), .val (.ref c46_rv), .val (.ref c58_rv), .val (.double z66), .second, .val (.double z74), .second, .val (.double z83), .second, .val (.double z92), .second, .val (.double z96), .second, .val (.double z100), .second, .val (.ref b4), .val (.ref rb9_b1), .val (.double z148), .second, .unset] [(.int z19)])) _
      refine XS.iload X9.here hx rfl (hb hby at_153) rfl ?_
      show Steps p.tables e below (T9.setTop (mkF m 155 #[.val (.int p0), .val (.int p1), .val (.int p2), .val (.int p3), .val (.int p4), .val (.int p5), .val (.int z7), .val (.int z19), .val (.int m29_s0), .val (.ref c46_rv), .val (.ref c58_rv), .val (.double z66), .second, .val (.double z74), .second, .val (.double z83), .second, .val (.double z92), .second, .val (.double z96), .second, .val (.double z100), .second, .val (.ref b4), .val (.ref rb9_b1), .val (.double z148), .second, .unset] [(.int z7), (.int z19)])) _
      refine XS.icmpNo X9.here hx rfl (hb hby at_155) rfl (Jvm.Free.XT.ii_ge_f hs134) ?_
      show Steps p.tables e below (T9.setTop (mkF m 158 #[.val (.int p0), .val (.int p1), .val (.int p2), .val (.int p3), .val (.int p4), .val (.int p5), .val (.int z7), .val (.int z19), .val (.int m29_s0), .val (.ref c46_rv), .val (.ref c58_rv), .val (.double z66), .second, .val (.double z74), .second, .val (.double z83), .second, .val (.double z92), .second, .val (.double z96), .second, .val (.double z100), .second, .val (.ref b4), .val (.ref rb9_b1), .val (.double z148), .second, .unset] [])) _
      refine XS.aload X9.here hx rfl (hb hby at_158) rfl rfl ?_
      show Steps p.tables e below (T9.setTop (mkF m 160 #[.val (.int p0), .val (.int p1), .val (.int p2), .val (.int p3), .val (.int p4), .val (.int p5), .val (.int z7), .val (.int z19), .val (.int m29_s0), .val (.ref c46_rv), .val (.ref c58_rv), .val (.double z66), .second, .val (.double z74), .second, .val (.double z83), .second, .val (.double z92), .second, .val (.double z96), .second, .val (.double z100), .second, .val (.ref b4), .val (.ref rb9_b1), .val (.double z148), .second, .unset] [(.ref c58_rv)])) _
      refine XS.astore X9.here hx rfl (hb hby at_160) rfl rfl (l' := #[.val (.int p0), .val (.int p1), .val (.int p2), .val (.int p3), .val (.int p4), .val (.int p5), .val (.int z7), .val (.int z19), .val (.int m29_s0), .val (.ref c46_rv), .val (.ref c58_rv), .val (.double z66), .second, .val (.double z74), .second, .val (.double z83), .second, .val (.double z92), .second, .val (.double z96), .second, .val (.double z100), .second, .val (.ref b4), .val (.ref rb9_b1), .val (.double z148), .second, .val (.ref c58_rv)]) rfl ?_
      show Steps p.tables e below (T9.setTop (mkF m 162 #[.val (.int p0), .val (.int p1), .val (.int p2), .val (.int p3), .val (.int p4), .val (.int p5), .val (.int z7), .val (.int z19), .val (.int m29_s0), .val (.ref c46_rv), .val (.ref c58_rv), .val (.double z66), .second, .val (.double z74), .second, .val (.double z83), .second, .val (.double z92), .second, .val (.double z96), .second, .val (.double z100), .second, .val (.ref b4), .val (.ref rb9_b1), .val (.double z148), .second, .val (.ref c58_rv)] [])) _
      refine XS.goto X9.here hx rfl (pc0 := 162) (pc' := 169) rfl (hb hby at_162) (by decide) (by decide) ?_
      show Steps p.tables e below (T9.setTop (mkF m 169 #[.val (.int p0), .val (.int p1), .val (.int p2), .val (.int p3), .val (.int p4), .val (.int p5), .val (.int z7), .val (.int z19), .val (.int m29_s0), .val (.ref c46_rv), .val (.ref c58_rv), .val (.double z66), .second, .val (.double z74), .second, .val (.double z83), .second, .val (.double z92), .second, .val (.double z96), .second, .val (.double z100), .second, .val (.ref b4), .val (.ref rb9_b1), .val (.double z148), .second, .val (.ref c58_rv)] [])) _
      refine XS.aload X9.here hx rfl (hb hby at_169) rfl rfl ?_
      show Steps p.tables e below (T9.setTop (mkF m 171 #[.val (.int p0), .val (.int p1), .val (.int p2), .val (.int p3), .val (.int p4), .val (.int p5), .val (.int z7), .val (.int z19), .val (.int m29_s0), .val (.ref c46_rv), .val (.ref c58_rv), .val (.double z66), .second, .val (.double z74), .second, .val (.double z83), .second, .val (.double z92), .second, .val (.double z96), .second, .val (.double z100), .second, .val (.ref b4), .val (.ref rb9_b1), .val (.double z148), .second, .val (.ref c58_rv)] [(.ref rb9_b1)])) _
      refine st11.trans ?_
      show Steps p.tables e below (T11.setTop (mkF m 174 #[.val (.int p0), .val (.int p1), .val (.int p2), .val (.int p3), .val (.int p4), .val (.int p5), .val (.int z7), .val (.int z19), .val (.int m29_s0), .val (.ref c46_rv), .val (.ref c58_rv), .val (.double z66), .second, .val (.double z74), .second, .val (.double z83), .second, .val (.double z92), .second, .val (.double z96), .second, .val (.double z100), .second, .val (.ref b4), .val (.ref rb9_b1), .val (.double z148), .second, .val (.ref c58_rv)] [(.int p0)])) _
      refine XS.iloadN X11.here hx rfl (hb hby at_174) rfl ?_
      show Steps p.tables e below (T11.setTop (mkF m 175 #[.val (.int p0), .val (.int p1), .val (.int p2), .val (.int p3), .val (.int p4), .val (.int p5), .val (.int z7), .val (.int z19), .val (.int m29_s0), .val (.ref c46_rv), .val (.ref c58_rv), .val (.double z66), .second, .val (.double z74), .second, .val (.double z83), .second, .val (.double z92), .second, .val (.double z96), .second, .val (.double z100), .second, .val (.ref b4), .val (.ref rb9_b1), .val (.double z148), .second, .val (.ref c58_rv)] [(.int p0), (.int p0)])) _
      refine XS.icmpNo X11.here hx rfl (hb hby at_175) rfl (Jvm.Free.XT.ii_ne_f rfl) ?_
      show Steps p.tables e below (T11.setTop (mkF m 178 #[.val (.int p0), .val (.int p1), .val (.int p2), .val (.int p3), .val (.int p4), .val (.int p5), .val (.int z7), .val (.int z19), .val (.int m29_s0), .val (.ref c46_rv), .val (.ref c58_rv), .val (.double z66), .second, .val (.double z74), .second, .val (.double z83), .second, .val (.double z92), .second, .val (.double z96), .second, .val (.double z100), .second, .val (.ref b4), .val (.ref rb9_b1), .val (.double z148), .second, .val (.ref c58_rv)] [])) _
      refine XS.aload X11.here hx rfl (hb hby at_178) rfl rfl ?_
      show Steps p.tables e below (T11.setTop (mkF m 180 #[.val (.int p0), .val (.int p1), .val (.int p2), .val (.int p3), .val (.int p4), .val (.int p5), .val (.int z7), .val (.int z19), .val (.int m29_s0), .val (.ref c46_rv), .val (.ref c58_rv), .val (.double z66), .second, .val (.double z74), .second, .val (.double z83), .second, .val (.double z92), .second, .val (.double z96), .second, .val (.double z100), .second, .val (.ref b4), .val (.ref rb9_b1), .val (.double z148), .second, .val (.ref c58_rv)] [(.ref rb9_b1)])) _
      refine st12.trans ?_
      show Steps p.tables e below (T12.setTop (mkF m 183 #[.val (.int p0), .val (.int p1), .val (.int p2), .val (.int p3), .val (.int p4), .val (.int p5), .val (.int z7), .val (.int z19), .val (.int m29_s0), .val (.ref c46_rv), .val (.ref c58_rv), .val (.double z66), .second, .val (.double z74), .second, .val (.double z83), .second, .val (.double z92), .second, .val (.double z96), .second, .val (.double z100), .second, .val (.ref b4), .val (.ref rb9_b1), .val (.double z148), .second, .val (.ref c58_rv)] [(.int p1)])) _
      refine XS.iloadN X12.here hx rfl (hb hby at_183) rfl ?_
      show Steps p.tables e below (T12.setTop (mkF m 184 #[.val (.int p0), .val (.int p1), .val (.int p2), .val (.int p3), .val (.int p4), .val (.int p5), .val (.int z7), .val (.int z19), .val (.int m29_s0), .val (.ref c46_rv), .val (.ref c58_rv), .val (.double z66), .second, .val (.double z74), .second, .val (.double z83), .second, .val (.double z92), .second, .val (.double z96), .second, .val (.double z100), .second, .val (.ref b4), .val (.ref rb9_b1), .val (.double z148), .second, .val (.ref c58_rv)] [(.int p1), (.int p1)])) _
      refine XS.icmpNo X12.here hx rfl (hb hby at_184) rfl (Jvm.Free.XT.ii_ne_f rfl) ?_
      show Steps p.tables e below (T12.setTop (mkF m 187 #[.val (.int p0), .val (.int p1), .val (.int p2), .val (.int p3), .val (.int p4), .val (.int p5), .val (.int z7), .val (.int z19), .val (.int m29_s0), .val (.ref c46_rv), .val (.ref c58_rv), .val (.double z66), .second, .val (.double z74), .second, .val (.double z83), .second, .val (.double z92), .second, .val (.double z96), .second, .val (.double z100), .second, .val (.ref b4), .val (.ref rb9_b1), .val (.double z148), .second, .val (.ref c58_rv)] [])) _
      refine XS.aload X12.here hx rfl (hb hby at_187) rfl rfl ?_
      show Steps p.tables e below (T12.setTop (mkF m 189 #[.val (.int p0), .val (.int p1), .val (.int p2), .val (.int p3), .val (.int p4), .val (.int p5), .val (.int z7), .val (.int z19), .val (.int m29_s0), .val (.ref c46_rv), .val (.ref c58_rv), .val (.double z66), .second, .val (.double z74), .second, .val (.double z83), .second, .val (.double z92), .second, .val (.double z96), .second, .val (.double z100), .second, .val (.ref b4), .val (.ref rb9_b1), .val (.double z148), .second, .val (.ref c58_rv)] [(.ref rb9_b1)])) _
      refine st13.trans ?_
      show Steps p.tables e below (T13.setTop (mkF m 192 #[.val (.int p0), .val (.int p1), .val (.int p2), .val (.int p3), .val (.int p4), .val (.int p5), .val (.int z7), .val (.int z19), .val (.int m29_s0), .val (.ref c46_rv), .val (.ref c58_rv), .val (.double z66), .second, .val (.double z74), .second, .val (.double z83), .second, .val (.double z92), .second, .val (.double z96), .second, .val (.double z100), .second, .val (.ref b4), .val (.ref rb9_b1), .val (.double z148), .second, .val (.ref c58_rv)] [(.double z96)])) _
      refine XS.dload X13.here hx rfl (hb hby at_192) rfl ?_
      show Steps p.tables e below (T13.setTop (mkF m 194 #[.val (.int p0), .val (.int p1), .val (.int p2), .val (.int p3), .val (.int p4), .val (.int p5), .val (.int z7), .val (.int z19), .val (.int m29_s0), .val (.ref c46_rv), .val (.ref c58_rv), .val (.double z66), .second, .val (.double z74), .second, .val (.double z83), .second, .val (.double z92), .second, .val (.double z96), .second, .val (.double z100), .second, .val (.ref b4), .val (.ref rb9_b1), .val (.double z148), .second, .val (.ref c58_rv)] [(.double z96), (.double z96)])) _
      refine XS.dcmpS X13.here hx rfl (hb hby at_194) rfl hz194 ?_
      show Steps p.tables e below (T13.setTop (mkF m 195 #[.val (.int p0), .val (.int p1), .val (.int p2), .val (.int p3), .val (.int p4), .val (.int p5), .val (.int z7), .val (.int z19), .val (.int m29_s0), .val (.ref c46_rv), .val (.ref c58_rv), .val (.double z66), .second, .val (.double z74), .second, .val (.double z83), .second, .val (.double z92), .second, .val (.double z96), .second, .val (.double z100), .second, .val (.ref b4), .val (.ref rb9_b1), .val (.double z148), .second, .val (.ref c58_rv)] [(.int z194)])) _
      refine XS.ifNo X13.here hx rfl (hb hby at_195) rfl (Jvm.Free.XT.i0_ne_f br195) ?_
      show Steps p.tables e below (T13.setTop (mkF m 198 #[.val (.int p0), .val (.int p1), .val (.int p2), .val (.int p3), .val (.int p4), .val (.int p5), .val (.int z7), .val (.int z19), .val (.int m29_s0), .val (.ref c46_rv), .val (.ref c58_rv), .val (.double z66), .second, .val (.double z74), .second, .val (.double z83), .second, .val (.double z92), .second, .val (.double z96), .second, .val (.double z100), .second, .val (.ref b4), .val (.ref rb9_b1), .val (.double z148), .second, .val (.ref c58_rv)] [])) _
      refine XS.aload X13.here hx rfl (hb hby at_198) rfl rfl ?_
      show Steps p.tables e below (T13.setTop (mkF m 200 #[.val (.int p0), .val (.int p1), .val (.int p2), .val (.int p3), .val (.int p4), .val (.int p5), .val (.int z7), .val (.int z19), .val (.int m29_s0), .val (.ref c46_rv), .val (.ref c58_rv), .val (.double z66), .second, .val (.double z74), .second, .val (.double z83), .second, .val (.double z92), .second, .val (.double z96), .second, .val (.double z100), .second, .val (.ref b4), .val (.ref rb9_b1), .val (.double z148), .second, .val (.ref c58_rv)] [(.ref rb9_b1)])) _
      refine st14.trans ?_
      show Steps p.tables e below (T14.setTop (mkF m 203 #[.val (.int p0), .val (.int p1), .val (.int p2), .val (.int p3), .val (.int p4), .val (.int p5), .val (.int z7), .val (.int z19), .val (.int m29_s0), .val (.ref c46_rv), .val (.ref c58_rv), .val (.double z66), .second, .val (.double z74), .second, .val (.double z83), .second, .val (.double z92), .second, .val (.double z96), .second, .val (.double z100), .second, .val (.ref b4), .val (.ref rb9_b1), .val (.double z148), .second, .val (.ref c58_rv)] [(.double z100)])) _
      refine XS.dload X14.here hx rfl (hb hby at_203) rfl ?_
      show Steps p.tables e below (T14.setTop (mkF m 205 #[.val (.int p0), .val (.int p1), .val (.int p2), .val (.int p3), .val (.int p4), .val (.int p5), .val (.int z7), .val (.int z19), .val (.int m29_s0), .val (.ref c46_rv), .val (.ref c58_rv), .val (.double z66), .second, .val (.double z74), .second, .val (.double z83), .second, .val (.double z92), .second, .val (.double z96), .second, .val (.double z100), .second, .val (.ref b4), .val (.ref rb9_b1), .val (.double z148), .second, .val (.ref c58_rv)] [(.double z100), (.double z100)])) _
      refine XS.dcmpS X14.here hx rfl (hb hby at_205) rfl hz205 ?_
      show Steps p.tables e below (T14.setTop (mkF m 206 #[.val (.int p0), .val (.int p1), .val (.int p2), .val (.int p3), .val (.int p4), .val (.int p5), .val (.int z7), .val (.int z19), .val (.int m29_s0), .val (.ref c46_rv), .val (.ref c58_rv), .val (.double z66), .second, .val (.double z74), .second, .val (.double z83), .second, .val (.double z92), .second, .val (.double z96), .second, .val (.double z100), .second, .val (.ref b4), .val (.ref rb9_b1), .val (.double z148), .second, .val (.ref c58_rv)] [(.int z205)])) _
      refine XS.ifNo X14.here hx rfl (hb hby at_206) rfl (Jvm.Free.XT.i0_ne_f br206) ?_
      show Steps p.tables e below (T14.setTop (mkF m 209 #[.val (.int p0), .val (.int p1), .val (.int p2), .val (.int p3), .val (.int p4), .val (.int p5), .val (.int z7), .val (.int z19), .val (.int m29_s0), .val (.ref c46_rv), .val (.ref c58_rv), .val (.double z66), .second, .val (.double z74), .second, .val (.double z83), .second, .val (.double z92), .second, .val (.double z96), .second, .val (.double z100), .second, .val (.ref b4), .val (.ref rb9_b1), .val (.double z148), .second, .val (.ref c58_rv)] [])) _
      refine XS.aload X14.here hx rfl (hb hby at_209) rfl rfl ?_
      show Steps p.tables e below (T14.setTop (mkF m 211 #[.val (.int p0), .val (.int p1), .val (.int p2), .val (.int p3), .val (.int p4), .val (.int p5), .val (.int z7), .val (.int z19), .val (.int m29_s0), .val (.ref c46_rv), .val (.ref c58_rv), .val (.double z66), .second, .val (.double z74), .second, .val (.double z83), .second, .val (.double z92), .second, .val (.double z96), .second, .val (.double z100), .second, .val (.ref b4), .val (.ref rb9_b1), .val (.double z148), .second, .val (.ref c58_rv)] [(.ref rb9_b1)])) _
      refine st15.trans ?_
      show Steps p.tables e below (T15.setTop (mkF m 214 #[.val (.int p0), .val (.int p1), .val (.int p2), .val (.int p3), .val (.int p4), .val (.int p5), .val (.int z7), .val (.int z19), .val (.int m29_s0), .val (.ref c46_rv), .val (.ref c58_rv), .val (.double z66), .second, .val (.double z74), .second, .val (.double z83), .second, .val (.double z92), .second, .val (.double z96), .second, .val (.double z100), .second, .val (.ref b4), .val (.ref rb9_b1), .val (.double z148), .second, .val (.ref c58_rv)] [(.double c134_z20)])) _
      refine XS.dload X15.here hx rfl (hb hby at_214) rfl ?_
      show Steps p.tables e below (T15.setTop (mkF m 216 #[.val (.int p0), .val (.int p1), .val (.int p2), .val (.int p3), .val (.int p4), .val (.int p5), .val (.int z7), .val (.int z19), .val (.int m29_s0), .val (.ref c46_rv), .val (.ref c58_rv), .val (.double z66), .second, .val (.double z74), .second, .val (.double z83), .second, .val (.double z92), .second, .val (.double z96), .second, .val (.double z100), .second, .val (.ref b4), .val (.ref rb9_b1), .val (.double z148), .second, .val (.ref c58_rv)] [(.double z148), (.double c134_z20)])) _
      refine XS.dcmpS X15.here hx rfl (hb hby at_216) rfl hz216 ?_
      show Steps p.tables e below (T15.setTop (mkF m 217 #[.val (.int p0), .val (.int p1), .val (.int p2), .val (.int p3), .val (.int p4), .val (.int p5), .val (.int z7), .val (.int z19), .val (.int m29_s0), .val (.ref c46_rv), .val (.ref c58_rv), .val (.double z66), .second, .val (.double z74), .second, .val (.double z83), .second, .val (.double z92), .second, .val (.double z96), .second, .val (.double z100), .second, .val (.ref b4), .val (.ref rb9_b1), .val (.double z148), .second, .val (.ref c58_rv)] [(.int z216)])) _
      refine XS.ifNo X15.here hx rfl (hb hby at_217) rfl (Jvm.Free.XT.i0_ne_f br217) ?_
      show Steps p.tables e below (T15.setTop (mkF m 220 #[.val (.int p0), .val (.int p1), .val (.int p2), .val (.int p3), .val (.int p4), .val (.int p5), .val (.int z7), .val (.int z19), .val (.int m29_s0), .val (.ref c46_rv), .val (.ref c58_rv), .val (.double z66), .second, .val (.double z74), .second, .val (.double z83), .second, .val (.double z92), .second, .val (.double z96), .second, .val (.double z100), .second, .val (.ref b4), .val (.ref rb9_b1), .val (.double z148), .second, .val (.ref c58_rv)] [])) _
      refine XS.aload X15.here hx rfl (hb hby at_220) rfl rfl ?_
      show Steps p.tables e below (T15.setTop (mkF m 222 #[.val (.int p0), .val (.int p1), .val (.int p2), .val (.int p3), .val (.int p4), .val (.int p5), .val (.int z7), .val (.int z19), .val (.int m29_s0), .val (.ref c46_rv), .val (.ref c58_rv), .val (.double z66), .second, .val (.double z74), .second, .val (.double z83), .second, .val (.double z92), .second, .val (.double z96), .second, .val (.double z100), .second, .val (.ref b4), .val (.ref rb9_b1), .val (.double z148), .second, .val (.ref c58_rv)] [(.ref rb9_b1)])) _
      refine st16.trans ?_
      show Steps p.tables e below (T16.setTop (mkF m 225 #[.val (.int p0), .val (.int p1), .val (.int p2), .val (.int p3), .val (.int p4), .val (.int p5), .val (.int z7), .val (.int z19), .val (.int m29_s0), .val (.ref c46_rv), .val (.ref c58_rv), .val (.double z66), .second, .val (.double z74), .second, .val (.double z83), .second, .val (.double z92), .second, .val (.double z96), .second, .val (.double z100), .second, .val (.ref b4), .val (.ref rb9_b1), .val (.double z148), .second, .val (.ref c58_rv)] [(.int m29_s0)])) _
      refine XS.iload X16.here hx rfl (hb hby at_225) rfl ?_
      show Steps p.tables e below (T16.setTop (mkF m 227 #[.val (.int p0), .val (.int p1), .val (.int p2), .val (.int p3), .val (.int p4), .val (.int p5), .val (.int z7), .val (.int z19), .val (.int m29_s0), .val (.ref c46_rv), .val (.ref c58_rv), .val (.double z66), .second, .val (.double z74), .second, .val (.double z83), .second, .val (.double z92), .second, .val (.double z96), .second, .val (.double z100), .second, .val (.ref b4), .val (.ref rb9_b1), .val (.double z148), .second, .val (.ref c58_rv)] [(.int m29_s0), (.int m29_s0)])) _
      refine XS.icmpNo X16.here hx rfl (hb hby at_227) rfl (Jvm.Free.XT.ii_ne_f rfl) ?_
      show Steps p.tables e below (T16.setTop (mkF m 230 #[.val (.int p0), .val (.int p1), .val (.int p2), .val (.int p3), .val (.int p4), .val (.int p5), .val (.int z7), .val (.int z19), .val (.int m29_s0), .val (.ref c46_rv), .val (.ref c58_rv), .val (.double z66), .second, .val (.double z74), .second, .val (.double z83), .second, .val (.double z92), .second, .val (.double z96), .second, .val (.double z100), .second, .val (.ref b4), .val (.ref rb9_b1), .val (.double z148), .second, .val (.ref c58_rv)] [])) _
      refine XS.aload X16.here hx rfl (hb hby at_230) rfl rfl ?_
      show Steps p.tables e below (T16.setTop (mkF m 232 #[.val (.int p0), .val (.int p1), .val (.int p2), .val (.int p3), .val (.int p4), .val (.int p5), .val (.int z7), .val (.int z19), .val (.int m29_s0), .val (.ref c46_rv), .val (.ref c58_rv), .val (.double z66), .second, .val (.double z74), .second, .val (.double z83), .second, .val (.double z92), .second, .val (.double z96), .second, .val (.double z100), .second, .val (.ref b4), .val (.ref rb9_b1), .val (.double z148), .second, .val (.ref c58_rv)] [(.ref rb9_b1)])) _
      refine st17.trans ?_
      show Steps p.tables e below (T17.setTop (mkF m 235 #[.val (.int p0), .val (.int p1), .val (.int p2), .val (.int p3), .val (.int p4), .val (.int p5), .val (.int z7), .val (.int z19), .val (.int m29_s0), .val (.ref c46_rv), .val (.ref c58_rv), .val (.double z66), .second, .val (.double z74), .second, .val (.double z83), .second, .val (.double z92), .second, .val (.double z96), .second, .val (.double z100), .second, .val (.ref b4), .val (.ref rb9_b1), .val (.double z148), .second, .val (.ref c58_rv)] [(.ref c58_rv)])) _
      refine XS.aload X17.here hx rfl (hb hby at_235) rfl rfl ?_
      show Steps p.tables e below (T17.setTop (mkF m 237 #[.val (.int p0), .val (.int p1), .val (.int p2), .val (.int p3), .val (.int p4), .val (.int p5), .val (.int z7), .val (.int z19), .val (.int m29_s0), .val (.ref c46_rv), .val (.ref c58_rv), .val (.double z66), .second, .val (.double z74), .second, .val (.double z83), .second, .val (.double z92), .second, .val (.double z96), .second, .val (.double z100), .second, .val (.ref b4), .val (.ref rb9_b1), .val (.double z148), .second, .val (.ref c58_rv)] [(.ref c58_rv), (.ref c58_rv)])) _
      refine Jvm.RoadKit.acmp (g := (mkF m 237 #[.val (.int p0), .val (.int p1), .val (.int p2), .val (.int p3), .val (.int p4), .val (.int p5), .val (.int z7), .val (.int z19), .val (.int m29_s0), .val (.ref c46_rv), .val (.ref c58_rv), .val (.double z66), .second, .val (.double z74), .second, .val (.double z83), .second, .val (.double z92), .second, .val (.double z96), .second, .val (.double z100), .second, .val (.ref b4), .val (.ref rb9_b1), .val (.double z148), .second, .val (.ref c58_rv)] [(.ref c58_rv), (.ref c58_rv)])) X17 hx rfl rfl rfl (pc0 := 237) (pc' := 240) (same := true) rfl (hb hby at_237) rfl (decide_eq_true rfl) (by decide) (by decide) ?_
      show Steps p.tables e below (T17.setTop (mkF m 240 #[.val (.int p0), .val (.int p1), .val (.int p2), .val (.int p3), .val (.int p4), .val (.int p5), .val (.int z7), .val (.int z19), .val (.int m29_s0), .val (.ref c46_rv), .val (.ref c58_rv), .val (.double z66), .second, .val (.double z74), .second, .val (.double z83), .second, .val (.double z92), .second, .val (.double z96), .second, .val (.double z100), .second, .val (.ref b4), .val (.ref rb9_b1), .val (.double z148), .second, .val (.ref c58_rv)] [])) _
      refine XS.iconst X17.here hx rfl (hb hby at_240) ?_
      show Steps p.tables e below (T17.setTop (mkF m 241 #[.val (.int p0), .val (.int p1), .val (.int p2), .val (.int p3), .val (.int p4), .val (.int p5), .val (.int z7), .val (.int z19), .val (.int m29_s0), .val (.ref c46_rv), .val (.ref c58_rv), .val (.double z66), .second, .val (.double z74), .second, .val (.double z83), .second, .val (.double z92), .second, .val (.double z96), .second, .val (.double z100), .second, .val (.ref b4), .val (.ref rb9_b1), .val (.double z148), .second, .val (.ref c58_rv)] [(.int (1 : Int32))])) _
      refine XS.goto X17.here hx rfl (pc0 := 241) (pc' := 245) rfl (hb hby at_241) (by decide) (by decide) ?_
      exact k
    obtain ⟨fs, hr, hrun, hended, hW, hsame⟩ := X17.leave (v := some (.int (1 : Int32))) (fun h => by rw [Bd.returns] at h; cases h)
    refine ⟨_, _, c18 _ ?_, hrun, hended, _, _, rfl, ?_, ⟨_, rfl⟩, hW, hsame.mono (by decide) (by decide)⟩
    · show Steps p.tables e below (T17.setTop (mkF m 245 #[.val (.int p0), .val (.int p1), .val (.int p2), .val (.int p3), .val (.int p4), .val (.int p5), .val (.int z7), .val (.int z19), .val (.int m29_s0), .val (.ref c46_rv), .val (.ref c58_rv), .val (.double z66), .second, .val (.double z74), .second, .val (.double z83), .second, .val (.double z92), .second, .val (.double z96), .second, .val (.double z100), .second, .val (.ref b4), .val (.ref rb9_b1), .val (.double z148), .second, .val (.ref c58_rv)] [(.int (1 : Int32))])) _
      exact retOut X17 hx Bd.returns rfl (Or.inl ⟨rfl, by simp, _, rfl⟩) (hb hby at_245) hr
    · show Q0 n0 _ T17.heap _
      rw [e17]
      exact ⟨rfl, by first | assumption | exact N0⟩
  · skip
    obtain ⟨c134_z20, hc134_z20⟩ : ∃ z : UInt64, FP.dmul z83 z92 = z := ⟨_, rfl⟩
    obtain ⟨c134_z31, hc134_z31⟩ : ∃ z : Int32, cmpValue (FP.dcmp z92 z83) .g = z := ⟨_, rfl⟩
    obtain ⟨c134_c44_z7, hc134_c44_z7⟩ : ∃ z : Int32, cmpValue (FP.dcmp c134_z20 FP.dconst0) .l = z := ⟨_, rfl⟩
    obtain ⟨c134_c44_z14, hc134_c44_z14⟩ : ∃ z : Int32, cmpValue (FP.dcmp c134_z20 FP.dconst1) .g = z := ⟨_, rfl⟩
    obtain ⟨z143, hz143⟩ : ∃ z : Int32, z7 * z19 = z := ⟨_, rfl⟩
    obtain ⟨z144, hz144⟩ : ∃ z : UInt64, FP.i2d z143 = z := ⟨_, rfl⟩
    obtain ⟨z148, hz148⟩ : ∃ z : UInt64, FP.ddiv z144 (4634204016564240384 : UInt64) = z := ⟨_, rfl⟩
    obtain ⟨z194, hz194⟩ : ∃ z : Int32, cmpValue (FP.dcmp z96 z96) .l = z := ⟨_, rfl⟩
    obtain ⟨z205, hz205⟩ : ∃ z : Int32, cmpValue (FP.dcmp z100 z100) .l = z := ⟨_, rfl⟩
    obtain ⟨z216, hz216⟩ : ∃ z : Int32, cmpValue (FP.dcmp c134_z20 z148) .l = z := ⟨_, rfl⟩
    obtain ⟨c134_nn20, nn148, ⟨nab, dab, ab0, ab1⟩, fin, gl, ge⟩ := pl hP hQ dp dq hc134_z20 hz143 hz144 hz148 hc134_z31
    have c134_br32 := ge hs134
    obtain ⟨c134_c44_br8, c134_c44_br15⟩ := unit (by decide) dab ab0 ab1 hc134_c44_z7 hc134_c44_z14
    have c134_c44_na63 := c119_na63
    have c134_c44_fi63 := c119_fi63
    obtain ⟨cq19, kq19, q19a, q19b, q19c⟩ := isOf hZ rfl Q6_0
    obtain ⟨_, _, ⟨T19, L19, k19, n19⟩, -, X19, ⟨Lc19, hQ19, ql19, qy19, qz19⟩, st19⟩ := X6.virtualBack hx (y := (⟨"com/example/vetrino/vetrino/PairShift", "remeasured", "(DDDLcom/example/vetrino/vetrino/PairShift$Doubt;)Lcom/example/vetrino/vetrino/PairShift;"⟩ : MethodName)) (z := (⟨"com/example/vetrino/vetrino/PairShift", "remeasured", "(DDDLcom/example/vetrino/vetrino/PairShift$Doubt;)Lcom/example/vetrino/vetrino/PairShift;"⟩ : MethodName)) hown (mvT hZ (hw _ (List.mem_of_getElem? (i := 31) rfl))) (mvT hZ (hw _ (List.mem_of_getElem? (i := 32) rfl))) (notFace_of_selects (args := #[]) (mvT hZ (hw _ (List.mem_of_getElem? (i := 34) rfl)))) (mvT hZ (hw _ (List.mem_of_getElem? (i := 34) rfl))) (mvT hZ (hw _ (List.mem_of_getElem? (i := 33) rfl))) (by decide) (backOf (W := 0) (rm4_t l Z a0 hw [] b4 z96 z100 z92 c58_rv p0 p1 z83 m29_s0 c46_rv c134_z20 c134_z31 c134_c44_z7 c134_c44_z14 T6.heap n0 (Nat.le_trans (Nat.le_trans Z0 E4.1) K6q.1) Q6_1 Q6_2 Q6_5 Q6_6 Q6_7 hc134_z20 hc134_z31 hc134_c44_z7 hc134_c44_z14 c134_nn20 c134_br32 c134_c44_br8 c134_c44_br15 c134_c44_na63 c134_c44_fi63) hZ (hw _ (List.mem_of_getElem? (i := 35) rfl)) (hw _ (List.mem_of_getElem? (i := 10) rfl)) (by decide) (by decide)) q19a q19c (g := (mkF m 134 #[.val (.int p0), .val (.int p1), .val (.int p2), .val (.int p3), .val (.int p4), .val (.int p5), .val (.int z7), .val (.int z19), .val (.int m29_s0), .val (.ref c46_rv), .val (.ref c58_rv), .val (.double z66), .second, .val (.double z74), .second, .val (.double z83), .second, .val (.double z92), .second, .val (.double z96), .second, .val (.double z100), .second, .val (.ref b4), .unset, .unset, .unset, .unset] [(.ref c58_rv), (.double z92), (.double z100), (.double z96), (.ref b4)])) rfl (by rw [hml]; rfl) (Steps.refl _) (argsL := [(.double z96), (.double z100), (.double z92), (.ref c58_rv)]) (rest := []) (lenOf pd_2 rfl) rfl (by show 2 * 0 + _ ≤ _; exact Nat.le_of_eq rfl) (hb hby at_134) (fun _ _ => ⟨rfl, rfl, (by decide : 1 + 1 ≤ _), (by decide : 7 + 7 ≤ _)⟩)
    dsimp only [Pt.U, Pt.locs, Pt.cells, Pt.slots] at X19 ql19 qy19 qz19 st19 hQ19
    subst ql19 qy19 qz19
    obtain ⟨rb19_b1, rfl, N19q, gz19_b1, K19q, Q19_0, Q19_1, Q19_2, Q19_3, Q19_4, Q19_5, Q19_6, Q19_7⟩ := hQ19
    have N19 := Fr.app N6 N19q
    have gn19_b1 : n0 ≤ rb19_b1 := Nat.le_trans (Nat.le_trans (Nat.le_trans Z0 E4.1) K6q.1) gz19_b1
    have gy19_b1 : h0.size ≤ rb19_b1 := Nat.le_trans (K7).1 gz19_b1
    have K20 : Keep h0 T19.heap [] := Keep.trans K7 K19q all0
    obtain ⟨cq21, kq21, q21a, q21b, q21c⟩ := isOf hZ rfl Q19_0
    obtain ⟨_, _, ⟨T21, L21, k21, n21⟩, -, X21, ⟨Lc21, hQ21, ql21, qy21, qz21⟩, st21⟩ := X19.virtualBack hx (y := (⟨"com/example/vetrino/vetrino/PairShift", "first", "()I"⟩ : MethodName)) (z := (⟨"com/example/vetrino/vetrino/PairShift", "first", "()I"⟩ : MethodName)) hown (mvT hZ (hw _ (List.mem_of_getElem? (i := 39) rfl))) (mvT hZ (hw _ (List.mem_of_getElem? (i := 40) rfl))) (notFace_of_selects (args := #[]) (mvT hZ (hw _ (List.mem_of_getElem? (i := 42) rfl)))) (mvT hZ (hw _ (List.mem_of_getElem? (i := 42) rfl))) (mvT hZ (hw _ (List.mem_of_getElem? (i := 41) rfl))) (by decide) (backOf (W := 0) (rm5 l Z a0 hw [] rb19_b1 p0  T19.heap n0 (Nat.le_trans (Nat.le_trans (Nat.le_trans Z0 E4.1) K6q.1) K19q.1) Q19_1) hZ (hw _ (List.mem_of_getElem? (i := 43) rfl)) (hw _ (List.mem_of_getElem? (i := 10) rfl)) (by decide) (by decide)) q21a q21c (g := (mkF m 171 #[.val (.int p0), .val (.int p1), .val (.int p2), .val (.int p3), .val (.int p4), .val (.int p5), .val (.int z7), .val (.int z19), .val (.int m29_s0), .val (.ref c46_rv), .val (.ref c58_rv), .val (.double z66), .second, .val (.double z74), .second, .val (.double z83), .second, .val (.double z92), .second, .val (.double z96), .second, .val (.double z100), .second, .val (.ref b4), .val (.ref rb19_b1), .val (.double z148), .second, .val (.ref c46_rv)] [(.ref rb19_b1)])) rfl (by rw [hml]; rfl) (Steps.refl _) (argsL := []) (rest := []) (lenOf pd_3 rfl) rfl (by show 2 * 0 + _ ≤ _; exact Nat.le_of_eq rfl) (hb hby at_171) (fun _ _ => ⟨rfl, rfl, (by decide : 2 + 0 ≤ _), (by decide : 14 + 0 ≤ _)⟩)
    dsimp only [Pt.U, Pt.locs, Pt.cells, Pt.slots] at X21 ql21 qy21 qz21 st21 hQ21
    subst ql21 qy21 qz21
    obtain ⟨rfl, N21q, e21⟩ := hQ21
    have N21 := Fr.app N19 N21q
    obtain ⟨cq22, kq22, q22a, q22b, q22c⟩ := isOf hZ e21 Q19_0
    obtain ⟨_, _, ⟨T22, L22, k22, n22⟩, -, X22, ⟨Lc22, hQ22, ql22, qy22, qz22⟩, st22⟩ := X21.virtualBack hx (y := (⟨"com/example/vetrino/vetrino/PairShift", "second", "()I"⟩ : MethodName)) (z := (⟨"com/example/vetrino/vetrino/PairShift", "second", "()I"⟩ : MethodName)) hown (mvT hZ (hw _ (List.mem_of_getElem? (i := 44) rfl))) (mvT hZ (hw _ (List.mem_of_getElem? (i := 45) rfl))) (notFace_of_selects (args := #[]) (mvT hZ (hw _ (List.mem_of_getElem? (i := 47) rfl)))) (mvT hZ (hw _ (List.mem_of_getElem? (i := 47) rfl))) (mvT hZ (hw _ (List.mem_of_getElem? (i := 46) rfl))) (by decide) (backOf (W := 0) (rm6 l Z a0 hw [] rb19_b1 p1  T19.heap n0 (Nat.le_trans (Nat.le_trans (Nat.le_trans Z0 E4.1) K6q.1) K19q.1) Q19_2) hZ (hw _ (List.mem_of_getElem? (i := 48) rfl)) (hw _ (List.mem_of_getElem? (i := 10) rfl)) (by decide) (by decide)) q22a q22c (g := (mkF m 180 #[.val (.int p0), .val (.int p1), .val (.int p2), .val (.int p3), .val (.int p4), .val (.int p5), .val (.int z7), .val (.int z19), .val (.int m29_s0), .val (.ref c46_rv), .val (.ref c58_rv), .val (.double z66), .second, .val (.double z74), .second, .val (.double z83), .second, .val (.double z92), .second, .val (.double z96), .second, .val (.double z100), .second, .val (.ref b4), .val (.ref rb19_b1), .val (.double z148), .second, .val (.ref c46_rv)] [(.ref rb19_b1)])) rfl (by rw [hml]; rfl) (Steps.refl _) (argsL := []) (rest := []) (lenOf pd_3 rfl) rfl (by show 2 * 0 + _ ≤ _; exact Nat.le_of_eq rfl) (hb hby at_180) (fun _ _ => ⟨rfl, e21, (by decide : 2 + 0 ≤ _), (by decide : 14 + 0 ≤ _)⟩)
    dsimp only [Pt.U, Pt.locs, Pt.cells, Pt.slots] at X22 ql22 qy22 qz22 st22 hQ22
    subst ql22 qy22 qz22
    obtain ⟨rfl, N22q, e22⟩ := hQ22
    have N22 := Fr.app N21 N22q
    obtain ⟨cq23, kq23, q23a, q23b, q23c⟩ := isOf hZ e22 Q19_0
    obtain ⟨_, _, ⟨T23, L23, k23, n23⟩, -, X23, ⟨Lc23, hQ23, ql23, qy23, qz23⟩, st23⟩ := X22.virtualBack hx (y := (⟨"com/example/vetrino/vetrino/PairShift", "dx", "()D"⟩ : MethodName)) (z := (⟨"com/example/vetrino/vetrino/PairShift", "dx", "()D"⟩ : MethodName)) hown (mvT hZ (hw _ (List.mem_of_getElem? (i := 49) rfl))) (mvT hZ (hw _ (List.mem_of_getElem? (i := 50) rfl))) (notFace_of_selects (args := #[]) (mvT hZ (hw _ (List.mem_of_getElem? (i := 52) rfl)))) (mvT hZ (hw _ (List.mem_of_getElem? (i := 52) rfl))) (mvT hZ (hw _ (List.mem_of_getElem? (i := 51) rfl))) (by decide) (backOf (W := 0) (rm7 l Z a0 hw [] rb19_b1 z96  T19.heap n0 (Nat.le_trans (Nat.le_trans (Nat.le_trans Z0 E4.1) K6q.1) K19q.1) Q19_3) hZ (hw _ (List.mem_of_getElem? (i := 53) rfl)) (hw _ (List.mem_of_getElem? (i := 10) rfl)) (by decide) (by decide)) q23a q23c (g := (mkF m 189 #[.val (.int p0), .val (.int p1), .val (.int p2), .val (.int p3), .val (.int p4), .val (.int p5), .val (.int z7), .val (.int z19), .val (.int m29_s0), .val (.ref c46_rv), .val (.ref c58_rv), .val (.double z66), .second, .val (.double z74), .second, .val (.double z83), .second, .val (.double z92), .second, .val (.double z96), .second, .val (.double z100), .second, .val (.ref b4), .val (.ref rb19_b1), .val (.double z148), .second, .val (.ref c46_rv)] [(.ref rb19_b1)])) rfl (by rw [hml]; rfl) (Steps.refl _) (argsL := []) (rest := []) (lenOf pd_4 rfl) rfl (by show 2 * 0 + _ ≤ _; exact Nat.le_of_eq rfl) (hb hby at_189) (fun _ _ => ⟨rfl, e22, (by decide : 2 + 0 ≤ _), (by decide : 14 + 0 ≤ _)⟩)
    dsimp only [Pt.U, Pt.locs, Pt.cells, Pt.slots] at X23 ql23 qy23 qz23 st23 hQ23
    subst ql23 qy23 qz23
    obtain ⟨rfl, N23q, e23⟩ := hQ23
    have N23 := Fr.app N22 N23q
    have br195 : z194 = 0 := by rw [← hz194, ← hz96]; exact dcmpV_self (Jvm.OwnF.DV_i2d _).nn _
    obtain ⟨cq24, kq24, q24a, q24b, q24c⟩ := isOf hZ e23 Q19_0
    obtain ⟨_, _, ⟨T24, L24, k24, n24⟩, -, X24, ⟨Lc24, hQ24, ql24, qy24, qz24⟩, st24⟩ := X23.virtualBack hx (y := (⟨"com/example/vetrino/vetrino/PairShift", "dy", "()D"⟩ : MethodName)) (z := (⟨"com/example/vetrino/vetrino/PairShift", "dy", "()D"⟩ : MethodName)) hown (mvT hZ (hw _ (List.mem_of_getElem? (i := 54) rfl))) (mvT hZ (hw _ (List.mem_of_getElem? (i := 55) rfl))) (notFace_of_selects (args := #[]) (mvT hZ (hw _ (List.mem_of_getElem? (i := 57) rfl)))) (mvT hZ (hw _ (List.mem_of_getElem? (i := 57) rfl))) (mvT hZ (hw _ (List.mem_of_getElem? (i := 56) rfl))) (by decide) (backOf (W := 0) (rm8 l Z a0 hw [] rb19_b1 z100  T19.heap n0 (Nat.le_trans (Nat.le_trans (Nat.le_trans Z0 E4.1) K6q.1) K19q.1) Q19_4) hZ (hw _ (List.mem_of_getElem? (i := 58) rfl)) (hw _ (List.mem_of_getElem? (i := 10) rfl)) (by decide) (by decide)) q24a q24c (g := (mkF m 200 #[.val (.int p0), .val (.int p1), .val (.int p2), .val (.int p3), .val (.int p4), .val (.int p5), .val (.int z7), .val (.int z19), .val (.int m29_s0), .val (.ref c46_rv), .val (.ref c58_rv), .val (.double z66), .second, .val (.double z74), .second, .val (.double z83), .second, .val (.double z92), .second, .val (.double z96), .second, .val (.double z100), .second, .val (.ref b4), .val (.ref rb19_b1), .val (.double z148), .second, .val (.ref c46_rv)] [(.ref rb19_b1)])) rfl (by rw [hml]; rfl) (Steps.refl _) (argsL := []) (rest := []) (lenOf pd_4 rfl) rfl (by show 2 * 0 + _ ≤ _; exact Nat.le_of_eq rfl) (hb hby at_200) (fun _ _ => ⟨rfl, e23, (by decide : 2 + 0 ≤ _), (by decide : 14 + 0 ≤ _)⟩)
    dsimp only [Pt.U, Pt.locs, Pt.cells, Pt.slots] at X24 ql24 qy24 qz24 st24 hQ24
    subst ql24 qy24 qz24
    obtain ⟨rfl, N24q, e24⟩ := hQ24
    have N24 := Fr.app N23 N24q
    have br206 : z205 = 0 := by rw [← hz205, ← hz100]; exact dcmpV_self (Jvm.OwnF.DV_i2d _).nn _
    obtain ⟨cq25, kq25, q25a, q25b, q25c⟩ := isOf hZ e24 Q19_0
    obtain ⟨_, _, ⟨T25, L25, k25, n25⟩, -, X25, ⟨Lc25, hQ25, ql25, qy25, qz25⟩, st25⟩ := X24.virtualBack hx (y := (⟨"com/example/vetrino/vetrino/PairShift", "confidence", "()D"⟩ : MethodName)) (z := (⟨"com/example/vetrino/vetrino/PairShift", "confidence", "()D"⟩ : MethodName)) hown (mvT hZ (hw _ (List.mem_of_getElem? (i := 59) rfl))) (mvT hZ (hw _ (List.mem_of_getElem? (i := 60) rfl))) (notFace_of_selects (args := #[]) (mvT hZ (hw _ (List.mem_of_getElem? (i := 62) rfl)))) (mvT hZ (hw _ (List.mem_of_getElem? (i := 62) rfl))) (mvT hZ (hw _ (List.mem_of_getElem? (i := 61) rfl))) (by decide) (backOf (W := 0) (rm9 l Z a0 hw [] rb19_b1 c134_z20  T19.heap n0 (Nat.le_trans (Nat.le_trans (Nat.le_trans Z0 E4.1) K6q.1) K19q.1) Q19_5) hZ (hw _ (List.mem_of_getElem? (i := 63) rfl)) (hw _ (List.mem_of_getElem? (i := 10) rfl)) (by decide) (by decide)) q25a q25c (g := (mkF m 211 #[.val (.int p0), .val (.int p1), .val (.int p2), .val (.int p3), .val (.int p4), .val (.int p5), .val (.int z7), .val (.int z19), .val (.int m29_s0), .val (.ref c46_rv), .val (.ref c58_rv), .val (.double z66), .second, .val (.double z74), .second, .val (.double z83), .second, .val (.double z92), .second, .val (.double z96), .second, .val (.double z100), .second, .val (.ref b4), .val (.ref rb19_b1), .val (.double z148), .second, .val (.ref c46_rv)] [(.ref rb19_b1)])) rfl (by rw [hml]; rfl) (Steps.refl _) (argsL := []) (rest := []) (lenOf pd_4 rfl) rfl (by show 2 * 0 + _ ≤ _; exact Nat.le_of_eq rfl) (hb hby at_211) (fun _ _ => ⟨rfl, e24, (by decide : 2 + 0 ≤ _), (by decide : 14 + 0 ≤ _)⟩)
    dsimp only [Pt.U, Pt.locs, Pt.cells, Pt.slots] at X25 ql25 qy25 qz25 st25 hQ25
    subst ql25 qy25 qz25
    obtain ⟨rfl, N25q, e25⟩ := hQ25
    have N25 := Fr.app N24 N25q
    have br217 : z216 = 0 := hz216.symm.trans fin
    have c222_na4 := c119_na63
    obtain ⟨cq26, kq26, q26a, q26b, q26c⟩ := isOf hZ e25 Q19_0
    obtain ⟨_, _, ⟨T26, L26, k26, n26⟩, -, X26, ⟨Lc26, hQ26, ql26, qy26, qz26⟩, st26⟩ := X25.virtualBack hx (y := (⟨"com/example/vetrino/vetrino/PairShift", "used", "()Z"⟩ : MethodName)) (z := (⟨"com/example/vetrino/vetrino/PairShift", "used", "()Z"⟩ : MethodName)) hown (mvT hZ (hw _ (List.mem_of_getElem? (i := 64) rfl))) (mvT hZ (hw _ (List.mem_of_getElem? (i := 65) rfl))) (notFace_of_selects (args := #[]) (mvT hZ (hw _ (List.mem_of_getElem? (i := 67) rfl)))) (mvT hZ (hw _ (List.mem_of_getElem? (i := 67) rfl))) (mvT hZ (hw _ (List.mem_of_getElem? (i := 66) rfl))) (by decide) (backOf (W := 0) (rm10 l Z a0 hw [] rb19_b1 m29_s0  T19.heap n0 (Nat.le_trans (Nat.le_trans (Nat.le_trans Z0 E4.1) K6q.1) K19q.1) Q19_6 c222_na4) hZ (hw _ (List.mem_of_getElem? (i := 68) rfl)) (hw _ (List.mem_of_getElem? (i := 10) rfl)) (by decide) (by decide)) q26a q26c (g := (mkF m 222 #[.val (.int p0), .val (.int p1), .val (.int p2), .val (.int p3), .val (.int p4), .val (.int p5), .val (.int z7), .val (.int z19), .val (.int m29_s0), .val (.ref c46_rv), .val (.ref c58_rv), .val (.double z66), .second, .val (.double z74), .second, .val (.double z83), .second, .val (.double z92), .second, .val (.double z96), .second, .val (.double z100), .second, .val (.ref b4), .val (.ref rb19_b1), .val (.double z148), .second, .val (.ref c46_rv)] [(.ref rb19_b1)])) rfl (by rw [hml]; rfl) (Steps.refl _) (argsL := []) (rest := []) (lenOf pd_5 rfl) rfl (by show 2 * 0 + _ ≤ _; exact Nat.le_of_eq rfl) (hb hby at_222) (fun _ _ => ⟨rfl, e25, (by decide : 2 + 0 ≤ _), (by decide : 14 + 0 ≤ _)⟩)
    dsimp only [Pt.U, Pt.locs, Pt.cells, Pt.slots] at X26 ql26 qy26 qz26 st26 hQ26
    subst ql26 qy26 qz26
    obtain ⟨rfl, N26q, e26⟩ := hQ26
    have N26 := Fr.app N25 N26q
    obtain ⟨cq27, kq27, q27a, q27b, q27c⟩ := isOf hZ e26 Q19_0
    obtain ⟨_, _, ⟨T27, L27, k27, n27⟩, -, X27, ⟨Lc27, hQ27, ql27, qy27, qz27⟩, st27⟩ := X26.virtualBack hx (y := (⟨"com/example/vetrino/vetrino/PairShift", "doubt", "()Lcom/example/vetrino/vetrino/PairShift$Doubt;"⟩ : MethodName)) (z := (⟨"com/example/vetrino/vetrino/PairShift", "doubt", "()Lcom/example/vetrino/vetrino/PairShift$Doubt;"⟩ : MethodName)) hown (mvT hZ (hw _ (List.mem_of_getElem? (i := 69) rfl))) (mvT hZ (hw _ (List.mem_of_getElem? (i := 70) rfl))) (notFace_of_selects (args := #[]) (mvT hZ (hw _ (List.mem_of_getElem? (i := 72) rfl)))) (mvT hZ (hw _ (List.mem_of_getElem? (i := 72) rfl))) (mvT hZ (hw _ (List.mem_of_getElem? (i := 71) rfl))) (by decide) (backOf (W := 0) (rm11 l Z a0 hw [] rb19_b1 c46_rv  T19.heap n0 (Nat.le_trans (Nat.le_trans (Nat.le_trans Z0 E4.1) K6q.1) K19q.1) Q19_7) hZ (hw _ (List.mem_of_getElem? (i := 73) rfl)) (hw _ (List.mem_of_getElem? (i := 10) rfl)) (by decide) (by decide)) q27a q27c (g := (mkF m 232 #[.val (.int p0), .val (.int p1), .val (.int p2), .val (.int p3), .val (.int p4), .val (.int p5), .val (.int z7), .val (.int z19), .val (.int m29_s0), .val (.ref c46_rv), .val (.ref c58_rv), .val (.double z66), .second, .val (.double z74), .second, .val (.double z83), .second, .val (.double z92), .second, .val (.double z96), .second, .val (.double z100), .second, .val (.ref b4), .val (.ref rb19_b1), .val (.double z148), .second, .val (.ref c46_rv)] [(.ref rb19_b1)])) rfl (by rw [hml]; rfl) (Steps.refl _) (argsL := []) (rest := []) (lenOf pd_6 rfl) rfl (by show 2 * 0 + _ ≤ _; exact Nat.le_of_eq rfl) (hb hby at_232) (fun _ _ => ⟨rfl, e26, (by decide : 2 + 0 ≤ _), (by decide : 14 + 0 ≤ _)⟩)
    dsimp only [Pt.U, Pt.locs, Pt.cells, Pt.slots] at X27 ql27 qy27 qz27 st27 hQ27
    subst ql27 qy27 qz27
    obtain ⟨rfl, N27q, e27⟩ := hQ27
    have N27 := Fr.app N26 N27q
    have c28 : ∀ t, Steps p.tables e below (T27.setTop (mkF m 245 #[.val (.int p0), .val (.int p1), .val (.int p2), .val (.int p3), .val (.int p4), .val (.int p5), .val (.int z7), .val (.int z19), .val (.int m29_s0), .val (.ref c46_rv), .val (.ref c58_rv), .val (.double z66), .second, .val (.double z74), .second, .val (.double z83), .second, .val (.double z92), .second, .val (.double z96), .second, .val (.double z100), .second, .val (.ref b4), .val (.ref rb19_b1), .val (.double z148), .second, .val (.ref c46_rv)] [(.int (1 : Int32))])) t → Steps p.tables e below (s₁.setTop (entryFrame m #[(.int p0), (.int p1), (.int p2), (.int p3), (.int p4), (.int p5)] maxLocals)) t := by
      intro t k
      refine c8 t ?_
      show Steps p.tables e below (T6.setTop (mkF m 134 #[.val (.int p0), .val (.int p1), .val (.int p2), .val (.int p3), .val (.int p4), .val (.int p5), .val (.int z7), .val (.int z19), .val (.int m29_s0), .val (.ref c46_rv), .val (.ref c58_rv), .val (.double z66), .second, .val (.double z74), .second, .val (.double z83), .second, .val (.double z92), .second, .val (.double z96), .second, .val (.double z100), .second, .val (.ref b4), .unset, .unset, .unset, .unset] [(.ref c58_rv), (.double z92), (.double z100), (.double z96), (.ref b4)])) _
      refine st19.trans ?_
      show Steps p.tables e below (T19.setTop (mkF m 137 #[.val (.int p0), .val (.int p1), .val (.int p2), .val (.int p3), .val (.int p4), .val (.int p5), .val (.int z7), .val (.int z19), .val (.int m29_s0), .val (.ref c46_rv), .val (.ref c58_rv), .val (.double z66), .second, .val (.double z74), .second, .val (.double z83), .second, .val (.double z92), .second, .val (.double z96), .second, .val (.double z100), .second, .val (.ref b4), .unset, .unset, .unset, .unset] [(.ref rb19_b1)])) _
      refine XS.astore X19.here hx rfl (hb hby at_137) rfl rfl (l' := #[.val (.int p0), .val (.int p1), .val (.int p2), .val (.int p3), .val (.int p4), .val (.int p5), .val (.int z7), .val (.int z19), .val (.int m29_s0), .val (.ref c46_rv), .val (.ref c58_rv), .val (.double z66), .second, .val (.double z74), .second, .val (.double z83), .second, .val (.double z92), .second, .val (.double z96), .second, .val (.double z100), .second, .val (.ref b4), .val (.ref rb19_b1), .unset, .unset, .unset]) rfl ?_
      show Steps p.tables e below (T19.setTop (mkF m 139 #[.val (.int p0), .val (.int p1), .val (.int p2), .val (.int p3), .val (.int p4), .val (.int p5), .val (.int z7), .val (.int z19), .val (.int m29_s0), .val (.ref c46_rv), .val (.ref c58_rv), .val (.double z66), .second, .val (.double z74), .second, .val (.double z83), .second, .val (.double z92), .second, .val (.double z96), .second, .val (.double z100), .second, .val (.ref b4), .val (.ref rb19_b1), .unset, .unset, .unset] [])) _
      refine XS.iload X19.here hx rfl (hb hby at_139) rfl ?_
      show Steps p.tables e below (T19.setTop (mkF m 141 #[.val (.int p0), .val (.int p1), .val (.int p2), .val (.int p3), .val (.int p4), .val (.int p5), .val (.int z7), .val (.int z19), .val (.int m29_s0), .val (.ref c46_rv), .val (.ref c58_rv), .val (.double z66), .second, .val (.double z74), .second, .val (.double z83), .second, .val (.double z92), .second, .val (.double z96), .second, .val (.double z100), .second, .val (.ref b4), .val (.ref rb19_b1), .unset, .unset, .unset] [(.int z7)])) _
      refine XS.iload X19.here hx rfl (hb hby at_141) rfl ?_
      show Steps p.tables e below (T19.setTop (mkF m 143 #[.val (.int p0), .val (.int p1), .val (.int p2), .val (.int p3), .val (.int p4), .val (.int p5), .val (.int z7), .val (.int z19), .val (.int m29_s0), .val (.ref c46_rv), .val (.ref c58_rv), .val (.double z66), .second, .val (.double z74), .second, .val (.double z83), .second, .val (.double z92), .second, .val (.double z96), .second, .val (.double z100), .second, .val (.ref b4), .val (.ref rb19_b1), .unset, .unset, .unset] [(.int z19), (.int z7)])) _
      refine Jvm.OwnK.imul X19.here hx rfl (hb hby at_143) rfl hz143 ?_
      show Steps p.tables e below (T19.setTop (mkF m 144 #[.val (.int p0), .val (.int p1), .val (.int p2), .val (.int p3), .val (.int p4), .val (.int p5), .val (.int z7), .val (.int z19), .val (.int m29_s0), .val (.ref c46_rv), .val (.ref c58_rv), .val (.double z66), .second, .val (.double z74), .second, .val (.double z83), .second, .val (.double z92), .second, .val (.double z96), .second, .val (.double z100), .second, .val (.ref b4), .val (.ref rb19_b1), .unset, .unset, .unset] [(.int z143)])) _
      refine XS.i2dS X19.here hx rfl (hb hby at_144) rfl hz144 ?_
      show Steps p.tables e below (T19.setTop (mkF m 145 #[.val (.int p0), .val (.int p1), .val (.int p2), .val (.int p3), .val (.int p4), .val (.int p5), .val (.int z7), .val (.int z19), .val (.int m29_s0), .val (.ref c46_rv), .val (.ref c58_rv), .val (.double z66), .second, .val (.double z74), .second, .val (.double z83), .second, .val (.double z92), .second, .val (.double z96), .second, .val (.double z100), .second, .val (.ref b4), .val (.ref rb19_b1), .unset, .unset, .unset] [(.double z144)])) _
      refine X19.ldc2DoubleC hx hown (mvT hZ (hw _ (List.mem_of_getElem? (i := 38) rfl))) (g := (mkF m 145 #[.val (.int p0), .val (.int p1), .val (.int p2), .val (.int p3), .val (.int p4), .val (.int p5), .val (.int z7), .val (.int z19), .val (.int m29_s0), .val (.ref c46_rv), .val (.ref c58_rv), .val (.double z66), .second, .val (.double z74), .second, .val (.double z83), .second, .val (.double z92), .second, .val (.double z96), .second, .val (.double z100), .second, .val (.ref b4), .val (.ref rb19_b1), .unset, .unset, .unset] [(.double z144)])) rfl (hb hby at_145) _ ?_
      show Steps p.tables e below (T19.setTop (mkF m 148 #[.val (.int p0), .val (.int p1), .val (.int p2), .val (.int p3), .val (.int p4), .val (.int p5), .val (.int z7), .val (.int z19), .val (.int m29_s0), .val (.ref c46_rv), .val (.ref c58_rv), .val (.double z66), .second, .val (.double z74), .second, .val (.double z83), .second, .val (.double z92), .second, .val (.double z96), .second, .val (.double z100), .second, .val (.ref b4), .val (.ref rb19_b1), .unset, .unset, .unset] [(.double (4634204016564240384 : UInt64)), (.double z144)])) _
      refine Jvm.OwnK.ddiv X19.here hx rfl (hb hby at_148) rfl hz148 nn148 ?_
      show Steps p.tables e below (T19.setTop (mkF m 149 #[.val (.int p0), .val (.int p1), .val (.int p2), .val (.int p3), .val (.int p4), .val (.int p5), .val (.int z7), .val (.int z19), .val (.int m29_s0), .val (.ref c46_rv), .val (.ref c58_rv), .val (.double z66), .second, .val (.double z74), .second, .val (.double z83), .second, .val (.double z92), .second, .val (.double z96), .second, .val (.double z100), .second, .val (.ref b4), .val (.ref rb19_b1), .unset, .unset, .unset] [(.double z148)])) _
      refine XS.dstore X19.here hx rfl (hb hby at_149) rfl (l' := #[.val (.int p0), .val (.int p1), .val (.int p2), .val (.int p3), .val (.int p4), .val (.int p5), .val (.int z7), .val (.int z19), .val (.int m29_s0), .val (.ref c46_rv), .val (.ref c58_rv), .val (.double z66), .second, .val (.double z74), .second, .val (.double z83), .second, .val (.double z92), .second, .val (.double z96), .second, .val (.double z100), .second, .val (.ref b4), .val (.ref rb19_b1), .val (.double z148), .second, .unset]) rfl ?_
      show Steps p.tables e below (T19.setTop (mkF m 151 #[.val (.int p0), .val (.int p1), .val (.int p2), .val (.int p3), .val (.int p4), .val (.int p5), .val (.int z7), .val (.int z19), .val (.int m29_s0), .val (.ref c46_rv), .val (.ref c58_rv), .val (.double z66), .second, .val (.double z74), .second, .val (.double z83), .second, .val (.double z92), .second, .val (.double z96), .second, .val (.double z100), .second, .val (.ref b4), .val (.ref rb19_b1), .val (.double z148), .second, .unset] [])) _
      refine XS.iload X19.here hx rfl (hb hby at_151) rfl ?_
      show Steps p.tables e below (T19.setTop (mkF m 153 #[.val (.int p0), .val (.int p1), .val (.int p2), .val (.int p3), .val (.int p4), .val (.int p5), .val (.int z7), .val (.int z19), .val (.int m29_s0), .val (.ref c46_rv), .val (.ref c58_rv), .val (.double z66), .second, .val (.double z74), .second, .val (.double z83), .second, .val (.double z92), .second, .val (.double z96), .second, .val (.double z100), .second, .val (.ref b4), .val (.ref rb19_b1), .val (.double z148), .second, .unset] [(.int z19)])) _
      refine XS.iload X19.here hx rfl (hb hby at_153) rfl ?_
      show Steps p.tables e below (T19.setTop (mkF m 155 #[.val (.int p0), .val (.int p1), .val (.int p2), .val (.int p3), .val (.int p4), .val (.int p5), .val (.int z7), .val (.int z19), .val (.int m29_s0), .val (.ref c46_rv), .val (.ref c58_rv), .val (.double z66), .second, .val (.double z74), .second, .val (.double z83), .second, .val (.double z92), .second, .val (.double z96), .second, .val (.double z100), .second, .val (.ref b4), .val (.ref rb19_b1), .val (.double z148), .second, .unset] [(.int z7), (.int z19)])) _
      refine XS.icmpYes X19.here hx rfl (pc0 := 155) (pc' := 165) rfl (hb hby at_155) rfl (Jvm.Free.XT.ii_ge_t hs134) (by decide) (by decide) ?_
      show Steps p.tables e below (T19.setTop (mkF m 165 #[.val (.int p0), .val (.int p1), .val (.int p2), .val (.int p3), .val (.int p4), .val (.int p5), .val (.int z7), .val (.int z19), .val (.int m29_s0), .val (.ref c46_rv), .val (.ref c58_rv), .val (.double z66), .second, .val (.double z74), .second, .val (.double z83), .second, .val (.double z92), .second, .val (.double z96), .second, .val (.double z100), .second, .val (.ref b4), .val (.ref rb19_b1), .val (.double z148), .second, .unset] [])) _
      refine XS.aload X19.here hx rfl (hb hby at_165) rfl rfl ?_
      show Steps p.tables e below (T19.setTop (mkF m 167 #[.val (.int p0), .val (.int p1), .val (.int p2), .val (.int p3), .val (.int p4), .val (.int p5), .val (.int z7), .val (.int z19), .val (.int m29_s0), .val (.ref c46_rv), .val (.ref c58_rv), .val (.double z66), .second, .val (.double z74), .second, .val (.double z83), .second, .val (.double z92), .second, .val (.double z96), .second, .val (.double z100), .second, .val (.ref b4), .val (.ref rb19_b1), .val (.double z148), .second, .unset] [(.ref c46_rv)])) _
      refine XS.astore X19.here hx rfl (hb hby at_167) rfl rfl (l' := #[.val (.int p0), .val (.int p1), .val (.int p2), .val (.int p3), .val (.int p4), .val (.int p5), .val (.int z7), .val (.int z19), .val (.int m29_s0), .val (.ref c46_rv), .val (.ref c58_rv), .val (.double z66), .second, .val (.double z74), .second, .val (.double z83), .second, .val (.double z92), .second, .val (.double z96), .second, .val (.double z100), .second, .val (.ref b4), .val (.ref rb19_b1), .val (.double z148), .second, .val (.ref c46_rv)]) rfl ?_
      show Steps p.tables e below (T19.setTop (mkF m 169 #[.val (.int p0), .val (.int p1), .val (.int p2), .val (.int p3), .val (.int p4), .val (.int p5), .val (.int z7), .val (.int z19), .val (.int m29_s0), .val (.ref c46_rv), .val (.ref c58_rv), .val (.double z66), .second, .val (.double z74), .second, .val (.double z83), .second, .val (.double z92), .second, .val (.double z96), .second, .val (.double z100), .second, .val (.ref b4), .val (.ref rb19_b1), .val (.double z148), .second, .val (.ref c46_rv)] [])) _
      refine XS.aload X19.here hx rfl (hb hby at_169) rfl rfl ?_
      show Steps p.tables e below (T19.setTop (mkF m 171 #[.val (.int p0), .val (.int p1), .val (.int p2), .val (.int p3), .val (.int p4), .val (.int p5), .val (.int z7), .val (.int z19), .val (.int m29_s0), .val (.ref c46_rv), .val (.ref c58_rv), .val (.double z66), .second, .val (.double z74), .second, .val (.double z83), .second, .val (.double z92), .second, .val (.double z96), .second, .val (.double z100), .second, .val (.ref b4), .val (.ref rb19_b1), .val (.double z148), .second, .val (.ref c46_rv)] [(.ref rb19_b1)])) _
      refine st21.trans ?_
      show Steps p.tables e below (T21.setTop (mkF m 174 #[.val (.int p0), .val (.int p1), .val (.int p2), .val (.int p3), .val (.int p4), .val (.int p5), .val (.int z7), .val (.int z19), .val (.int m29_s0), .val (.ref c46_rv), .val (.ref c58_rv), .val (.double z66), .second, .val (.double z74), .second, .val (.double z83), .second, .val (.double z92), .second, .val (.double z96), .second, .val (.double z100), .second, .val (.ref b4), .val (.ref rb19_b1), .val (.double z148), .second, .val (.ref c46_rv)] [(.int p0)])) _
      refine XS.iloadN X21.here hx rfl (hb hby at_174) rfl ?_
      show Steps p.tables e below (T21.setTop (mkF m 175 #[.val (.int p0), .val (.int p1), .val (.int p2), .val (.int p3), .val (.int p4), .val (.int p5), .val (.int z7), .val (.int z19), .val (.int m29_s0), .val (.ref c46_rv), .val (.ref c58_rv), .val (.double z66), .second, .val (.double z74), .second, .val (.double z83), .second, .val (.double z92), .second, .val (.double z96), .second, .val (.double z100), .second, .val (.ref b4), .val (.ref rb19_b1), .val (.double z148), .second, .val (.ref c46_rv)] [(.int p0), (.int p0)])) _
      refine XS.icmpNo X21.here hx rfl (hb hby at_175) rfl (Jvm.Free.XT.ii_ne_f rfl) ?_
      show Steps p.tables e below (T21.setTop (mkF m 178 #[.val (.int p0), .val (.int p1), .val (.int p2), .val (.int p3), .val (.int p4), .val (.int p5), .val (.int z7), .val (.int z19), .val (.int m29_s0), .val (.ref c46_rv), .val (.ref c58_rv), .val (.double z66), .second, .val (.double z74), .second, .val (.double z83), .second, .val (.double z92), .second, .val (.double z96), .second, .val (.double z100), .second, .val (.ref b4), .val (.ref rb19_b1), .val (.double z148), .second, .val (.ref c46_rv)] [])) _
      refine XS.aload X21.here hx rfl (hb hby at_178) rfl rfl ?_
      show Steps p.tables e below (T21.setTop (mkF m 180 #[.val (.int p0), .val (.int p1), .val (.int p2), .val (.int p3), .val (.int p4), .val (.int p5), .val (.int z7), .val (.int z19), .val (.int m29_s0), .val (.ref c46_rv), .val (.ref c58_rv), .val (.double z66), .second, .val (.double z74), .second, .val (.double z83), .second, .val (.double z92), .second, .val (.double z96), .second, .val (.double z100), .second, .val (.ref b4), .val (.ref rb19_b1), .val (.double z148), .second, .val (.ref c46_rv)] [(.ref rb19_b1)])) _
      refine st22.trans ?_
      show Steps p.tables e below (T22.setTop (mkF m 183 #[.val (.int p0), .val (.int p1), .val (.int p2), .val (.int p3), .val (.int p4), .val (.int p5), .val (.int z7), .val (.int z19), .val (.int m29_s0), .val (.ref c46_rv), .val (.ref c58_rv), .val (.double z66), .second, .val (.double z74), .second, .val (.double z83), .second, .val (.double z92), .second, .val (.double z96), .second, .val (.double z100), .second, .val (.ref b4), .val (.ref rb19_b1), .val (.double z148), .second, .val (.ref c46_rv)] [(.int p1)])) _
      refine XS.iloadN X22.here hx rfl (hb hby at_183) rfl ?_
      show Steps p.tables e below (T22.setTop (mkF m 184 #[.val (.int p0), .val (.int p1), .val (.int p2), .val (.int p3), .val (.int p4), .val (.int p5), .val (.int z7), .val (.int z19), .val (.int m29_s0), .val (.ref c46_rv), .val (.ref c58_rv), .val (.double z66), .second, .val (.double z74), .second, .val (.double z83), .second, .val (.double z92), .second, .val (.double z96), .second, .val (.double z100), .second, .val (.ref b4), .val (.ref rb19_b1), .val (.double z148), .second, .val (.ref c46_rv)] [(.int p1), (.int p1)])) _
      refine XS.icmpNo X22.here hx rfl (hb hby at_184) rfl (Jvm.Free.XT.ii_ne_f rfl) ?_
      show Steps p.tables e below (T22.setTop (mkF m 187 #[.val (.int p0), .val (.int p1), .val (.int p2), .val (.int p3), .val (.int p4), .val (.int p5), .val (.int z7), .val (.int z19), .val (.int m29_s0), .val (.ref c46_rv), .val (.ref c58_rv), .val (.double z66), .second, .val (.double z74), .second, .val (.double z83), .second, .val (.double z92), .second, .val (.double z96), .second, .val (.double z100), .second, .val (.ref b4), .val (.ref rb19_b1), .val (.double z148), .second, .val (.ref c46_rv)] [])) _
      refine XS.aload X22.here hx rfl (hb hby at_187) rfl rfl ?_
      show Steps p.tables e below (T22.setTop (mkF m 189 #[.val (.int p0), .val (.int p1), .val (.int p2), .val (.int p3), .val (.int p4), .val (.int p5), .val (.int z7), .val (.int z19), .val (.int m29_s0), .val (.ref c46_rv), .val (.ref c58_rv), .val (.double z66), .second, .val (.double z74), .second, .val (.double z83), .second, .val (.double z92), .second, .val (.double z96), .second, .val (.double z100), .second, .val (.ref b4), .val (.ref rb19_b1), .val (.double z148), .second, .val (.ref c46_rv)] [(.ref rb19_b1)])) _
      refine st23.trans ?_
      show Steps p.tables e below (T23.setTop (mkF m 192 #[.val (.int p0), .val (.int p1), .val (.int p2), .val (.int p3), .val (.int p4), .val (.int p5), .val (.int z7), .val (.int z19), .val (.int m29_s0), .val (.ref c46_rv), .val (.ref c58_rv), .val (.double z66), .second, .val (.double z74), .second, .val (.double z83), .second, .val (.double z92), .second, .val (.double z96), .second, .val (.double z100), .second, .val (.ref b4), .val (.ref rb19_b1), .val (.double z148), .second, .val (.ref c46_rv)] [(.double z96)])) _
      refine XS.dload X23.here hx rfl (hb hby at_192) rfl ?_
      show Steps p.tables e below (T23.setTop (mkF m 194 #[.val (.int p0), .val (.int p1), .val (.int p2), .val (.int p3), .val (.int p4), .val (.int p5), .val (.int z7), .val (.int z19), .val (.int m29_s0), .val (.ref c46_rv), .val (.ref c58_rv), .val (.double z66), .second, .val (.double z74), .second, .val (.double z83), .second, .val (.double z92), .second, .val (.double z96), .second, .val (.double z100), .second, .val (.ref b4), .val (.ref rb19_b1), .val (.double z148), .second, .val (.ref c46_rv)] [(.double z96), (.double z96)])) _
      refine XS.dcmpS X23.here hx rfl (hb hby at_194) rfl hz194 ?_
      show Steps p.tables e below (T23.setTop (mkF m 195 #[.val (.int p0), .val (.int p1), .val (.int p2), .val (.int p3), .val (.int p4), .val (.int p5), .val (.int z7), .val (.int z19), .val (.int m29_s0), .val (.ref c46_rv), .val (.ref c58_rv), .val (.double z66), .second, .val (.double z74), .second, .val (.double z83), .second, .val (.double z92), .second, .val (.double z96), .second, .val (.double z100), .second, .val (.ref b4), .val (.ref rb19_b1), .val (.double z148), .second, .val (.ref c46_rv)] [(.int z194)])) _
      refine XS.ifNo X23.here hx rfl (hb hby at_195) rfl (Jvm.Free.XT.i0_ne_f br195) ?_
      show Steps p.tables e below (T23.setTop (mkF m 198 #[.val (.int p0), .val (.int p1), .val (.int p2), .val (.int p3), .val (.int p4), .val (.int p5), .val (.int z7), .val (.int z19), .val (.int m29_s0), .val (.ref c46_rv), .val (.ref c58_rv), .val (.double z66), .second, .val (.double z74), .second, .val (.double z83), .second, .val (.double z92), .second, .val (.double z96), .second, .val (.double z100), .second, .val (.ref b4), .val (.ref rb19_b1), .val (.double z148), .second, .val (.ref c46_rv)] [])) _
      refine XS.aload X23.here hx rfl (hb hby at_198) rfl rfl ?_
      show Steps p.tables e below (T23.setTop (mkF m 200 #[.val (.int p0), .val (.int p1), .val (.int p2), .val (.int p3), .val (.int p4), .val (.int p5), .val (.int z7), .val (.int z19), .val (.int m29_s0), .val (.ref c46_rv), .val (.ref c58_rv), .val (.double z66), .second, .val (.double z74), .second, .val (.double z83), .second, .val (.double z92), .second, .val (.double z96), .second, .val (.double z100), .second, .val (.ref b4), .val (.ref rb19_b1), .val (.double z148), .second, .val (.ref c46_rv)] [(.ref rb19_b1)])) _
      refine st24.trans ?_
      show Steps p.tables e below (T24.setTop (mkF m 203 #[.val (.int p0), .val (.int p1), .val (.int p2), .val (.int p3), .val (.int p4), .val (.int p5), .val (.int z7), .val (.int z19), .val (.int m29_s0), .val (.ref c46_rv), .val (.ref c58_rv), .val (.double z66), .second, .val (.double z74), .second, .val (.double z83), .second, .val (.double z92), .second, .val (.double z96), .second, .val (.double z100), .second, .val (.ref b4), .val (.ref rb19_b1), .val (.double z148), .second, .val (.ref c46_rv)] [(.double z100)])) _
      refine XS.dload X24.here hx rfl (hb hby at_203) rfl ?_
      show Steps p.tables e below (T24.setTop (mkF m 205 #[.val (.int p0), .val (.int p1), .val (.int p2), .val (.int p3), .val (.int p4), .val (.int p5), .val (.int z7), .val (.int z19), .val (.int m29_s0), .val (.ref c46_rv), .val (.ref c58_rv), .val (.double z66), .second, .val (.double z74), .second, .val (.double z83), .second, .val (.double z92), .second, .val (.double z96), .second, .val (.double z100), .second, .val (.ref b4), .val (.ref rb19_b1), .val (.double z148), .second, .val (.ref c46_rv)] [(.double z100), (.double z100)])) _
      refine XS.dcmpS X24.here hx rfl (hb hby at_205) rfl hz205 ?_
      show Steps p.tables e below (T24.setTop (mkF m 206 #[.val (.int p0), .val (.int p1), .val (.int p2), .val (.int p3), .val (.int p4), .val (.int p5), .val (.int z7), .val (.int z19), .val (.int m29_s0), .val (.ref c46_rv), .val (.ref c58_rv), .val (.double z66), .second, .val (.double z74), .second, .val (.double z83), .second, .val (.double z92), .second, .val (.double z96), .second, .val (.double z100), .second, .val (.ref b4), .val (.ref rb19_b1), .val (.double z148), .second, .val (.ref c46_rv)] [(.int z205)])) _
      refine XS.ifNo X24.here hx rfl (hb hby at_206) rfl (Jvm.Free.XT.i0_ne_f br206) ?_
      show Steps p.tables e below (T24.setTop (mkF m 209 #[.val (.int p0), .val (.int p1), .val (.int p2), .val (.int p3), .val (.int p4), .val (.int p5), .val (.int z7), .val (.int z19), .val (.int m29_s0), .val (.ref c46_rv), .val (.ref c58_rv), .val (.double z66), .second, .val (.double z74), .second, .val (.double z83), .second, .val (.double z92), .second, .val (.double z96), .second, .val (.double z100), .second, .val (.ref b4), .val (.ref rb19_b1), .val (.double z148), .second, .val (.ref c46_rv)] [])) _
      refine XS.aload X24.here hx rfl (hb hby at_209) rfl rfl ?_
      show Steps p.tables e below (T24.setTop (mkF m 211 #[.val (.int p0), .val (.int p1), .val (.int p2), .val (.int p3), .val (.int p4), .val (.int p5), .val (.int z7), .val (.int z19), .val (.int m29_s0), .val (.ref c46_rv), .val (.ref c58_rv), .val (.double z66), .second, .val (.double z74), .second, .val (.double z83), .second, .val (.double z92), .second, .val (.double z96), .second, .val (.double z100), .second, .val (.ref b4), .val (.ref rb19_b1), .val (.double z148), .second, .val (.ref c46_rv)] [(.ref rb19_b1)])) _
      refine st25.trans ?_
      show Steps p.tables e below (T25.setTop (mkF m 214 #[.val (.int p0), .val (.int p1), .val (.int p2), .val (.int p3), .val (.int p4), .val (.int p5), .val (.int z7), .val (.int z19), .val (.int m29_s0), .val (.ref c46_rv), .val (.ref c58_rv), .val (.double z66), .second, .val (.double z74), .second, .val (.double z83), .second, .val (.double z92), .second, .val (.double z96), .second, .val (.double z100), .second, .val (.ref b4), .val (.ref rb19_b1), .val (.double z148), .second, .val (.ref c46_rv)] [(.double c134_z20)])) _
      refine XS.dload X25.here hx rfl (hb hby at_214) rfl ?_
      show Steps p.tables e below (T25.setTop (mkF m 216 #[.val (.int p0), .val (.int p1), .val (.int p2), .val (.int p3), .val (.int p4), .val (.int p5), .val (.int z7), .val (.int z19), .val (.int m29_s0), .val (.ref c46_rv), .val (.ref c58_rv), .val (.double z66), .second, .val (.double z74), .second, .val (.double z83), .second, .val (.double z92), .second, .val (.double z96), .second, .val (.double z100), .second, .val (.ref b4), .val (.ref rb19_b1), .val (.double z148), .second, .val (.ref c46_rv)] [(.double z148), (.double c134_z20)])) _
      refine XS.dcmpS X25.here hx rfl (hb hby at_216) rfl hz216 ?_
      show Steps p.tables e below (T25.setTop (mkF m 217 #[.val (.int p0), .val (.int p1), .val (.int p2), .val (.int p3), .val (.int p4), .val (.int p5), .val (.int z7), .val (.int z19), .val (.int m29_s0), .val (.ref c46_rv), .val (.ref c58_rv), .val (.double z66), .second, .val (.double z74), .second, .val (.double z83), .second, .val (.double z92), .second, .val (.double z96), .second, .val (.double z100), .second, .val (.ref b4), .val (.ref rb19_b1), .val (.double z148), .second, .val (.ref c46_rv)] [(.int z216)])) _
      refine XS.ifNo X25.here hx rfl (hb hby at_217) rfl (Jvm.Free.XT.i0_ne_f br217) ?_
      show Steps p.tables e below (T25.setTop (mkF m 220 #[.val (.int p0), .val (.int p1), .val (.int p2), .val (.int p3), .val (.int p4), .val (.int p5), .val (.int z7), .val (.int z19), .val (.int m29_s0), .val (.ref c46_rv), .val (.ref c58_rv), .val (.double z66), .second, .val (.double z74), .second, .val (.double z83), .second, .val (.double z92), .second, .val (.double z96), .second, .val (.double z100), .second, .val (.ref b4), .val (.ref rb19_b1), .val (.double z148), .second, .val (.ref c46_rv)] [])) _
      refine XS.aload X25.here hx rfl (hb hby at_220) rfl rfl ?_
      show Steps p.tables e below (T25.setTop (mkF m 222 #[.val (.int p0), .val (.int p1), .val (.int p2), .val (.int p3), .val (.int p4), .val (.int p5), .val (.int z7), .val (.int z19), .val (.int m29_s0), .val (.ref c46_rv), .val (.ref c58_rv), .val (.double z66), .second, .val (.double z74), .second, .val (.double z83), .second, .val (.double z92), .second, .val (.double z96), .second, .val (.double z100), .second, .val (.ref b4), .val (.ref rb19_b1), .val (.double z148), .second, .val (.ref c46_rv)] [(.ref rb19_b1)])) _
      refine st26.trans ?_
      show Steps p.tables e below (T26.setTop (mkF m 225 #[.val (.int p0), .val (.int p1), .val (.int p2), .val (.int p3), .val (.int p4), .val (.int p5), .val (.int z7), .val (.int z19), .val (.int m29_s0), .val (.ref c46_rv), .val (.ref c58_rv), .val (.double z66), .second, .val (.double z74), .second, .val (.double z83), .second, .val (.double z92), .second, .val (.double z96), .second, .val (.double z100), .second, .val (.ref b4), .val (.ref rb19_b1), .val (.double z148), .second, .val (.ref c46_rv)] [(.int m29_s0)])) _
      refine XS.iload X26.here hx rfl (hb hby at_225) rfl ?_
      show Steps p.tables e below (T26.setTop (mkF m 227 #[.val (.int p0), .val (.int p1), .val (.int p2), .val (.int p3), .val (.int p4), .val (.int p5), .val (.int z7), .val (.int z19), .val (.int m29_s0), .val (.ref c46_rv), .val (.ref c58_rv), .val (.double z66), .second, .val (.double z74), .second, .val (.double z83), .second, .val (.double z92), .second, .val (.double z96), .second, .val (.double z100), .second, .val (.ref b4), .val (.ref rb19_b1), .val (.double z148), .second, .val (.ref c46_rv)] [(.int m29_s0), (.int m29_s0)])) _
      refine XS.icmpNo X26.here hx rfl (hb hby at_227) rfl (Jvm.Free.XT.ii_ne_f rfl) ?_
      show Steps p.tables e below (T26.setTop (mkF m 230 #[.val (.int p0), .val (.int p1), .val (.int p2), .val (.int p3), .val (.int p4), .val (.int p5), .val (.int z7), .val (.int z19), .val (.int m29_s0), .val (.ref c46_rv), .val (.ref c58_rv), .val (.double z66), .second, .val (.double z74), .second, .val (.double z83), .second, .val (.double z92), .second, .val (.double z96), .second, .val (.double z100), .second, .val (.ref b4), .val (.ref rb19_b1), .val (.double z148), .second, .val (.ref c46_rv)] [])) _
      refine XS.aload X26.here hx rfl (hb hby at_230) rfl rfl ?_
      show Steps p.tables e below (T26.setTop (mkF m 232 #[.val (.int p0), .val (.int p1), .val (.int p2), .val (.int p3), .val (.int p4), .val (.int p5), .val (.int z7), .val (.int z19), .val (.int m29_s0), .val (.ref c46_rv), .val (.ref c58_rv), .val (.double z66), .second, .val (.double z74), .second, .val (.double z83), .second, .val (.double z92), .second, .val (.double z96), .second, .val (.double z100), .second, .val (.ref b4), .val (.ref rb19_b1), .val (.double z148), .second, .val (.ref c46_rv)] [(.ref rb19_b1)])) _
      refine st27.trans ?_
      show Steps p.tables e below (T27.setTop (mkF m 235 #[.val (.int p0), .val (.int p1), .val (.int p2), .val (.int p3), .val (.int p4), .val (.int p5), .val (.int z7), .val (.int z19), .val (.int m29_s0), .val (.ref c46_rv), .val (.ref c58_rv), .val (.double z66), .second, .val (.double z74), .second, .val (.double z83), .second, .val (.double z92), .second, .val (.double z96), .second, .val (.double z100), .second, .val (.ref b4), .val (.ref rb19_b1), .val (.double z148), .second, .val (.ref c46_rv)] [(.ref c46_rv)])) _
      refine XS.aload X27.here hx rfl (hb hby at_235) rfl rfl ?_
      show Steps p.tables e below (T27.setTop (mkF m 237 #[.val (.int p0), .val (.int p1), .val (.int p2), .val (.int p3), .val (.int p4), .val (.int p5), .val (.int z7), .val (.int z19), .val (.int m29_s0), .val (.ref c46_rv), .val (.ref c58_rv), .val (.double z66), .second, .val (.double z74), .second, .val (.double z83), .second, .val (.double z92), .second, .val (.double z96), .second, .val (.double z100), .second, .val (.ref b4), .val (.ref rb19_b1), .val (.double z148), .second, .val (.ref c46_rv)] [(.ref c46_rv), (.ref c46_rv)])) _
      refine Jvm.RoadKit.acmp (g := (mkF m 237 #[.val (.int p0), .val (.int p1), .val (.int p2), .val (.int p3), .val (.int p4), .val (.int p5), .val (.int z7), .val (.int z19), .val (.int m29_s0), .val (.ref c46_rv), .val (.ref c58_rv), .val (.double z66), .second, .val (.double z74), .second, .val (.double z83), .second, .val (.double z92), .second, .val (.double z96), .second, .val (.double z100), .second, .val (.ref b4), .val (.ref rb19_b1), .val (.double z148), .second, .val (.ref c46_rv)] [(.ref c46_rv), (.ref c46_rv)])) X27 hx rfl rfl rfl (pc0 := 237) (pc' := 240) (same := true) rfl (hb hby at_237) rfl (decide_eq_true rfl) (by decide) (by decide) ?_
      show Steps p.tables e below (T27.setTop (mkF m 240 #[.val (.int p0), .val (.int p1), .val (.int p2), .val (.int p3), .val (.int p4), .val (.int p5), .val (.int z7), .val (.int z19), .val (.int m29_s0), .val (.ref c46_rv), .val (.ref c58_rv), .val (.double z66), .second, .val (.double z74), .second, .val (.double z83), .second, .val (.double z92), .second, .val (.double z96), .second, .val (.double z100), .second, .val (.ref b4), .val (.ref rb19_b1), .val (.double z148), .second, .val (.ref c46_rv)] [])) _
      refine XS.iconst X27.here hx rfl (hb hby at_240) ?_
      show Steps p.tables e below (T27.setTop (mkF m 241 #[.val (.int p0), .val (.int p1), .val (.int p2), .val (.int p3), .val (.int p4), .val (.int p5), .val (.int z7), .val (.int z19), .val (.int m29_s0), .val (.ref c46_rv), .val (.ref c58_rv), .val (.double z66), .second, .val (.double z74), .second, .val (.double z83), .second, .val (.double z92), .second, .val (.double z96), .second, .val (.double z100), .second, .val (.ref b4), .val (.ref rb19_b1), .val (.double z148), .second, .val (.ref c46_rv)] [(.int (1 : Int32))])) _
      refine XS.goto X27.here hx rfl (pc0 := 241) (pc' := 245) rfl (hb hby at_241) (by decide) (by decide) ?_
      exact k
    obtain ⟨fs, hr, hrun, hended, hW, hsame⟩ := X27.leave (v := some (.int (1 : Int32))) (fun h => by rw [Bd.returns] at h; cases h)
    refine ⟨_, _, c28 _ ?_, hrun, hended, _, _, rfl, ?_, ⟨_, rfl⟩, hW, hsame.mono (by decide) (by decide)⟩
    · show Steps p.tables e below (T27.setTop (mkF m 245 #[.val (.int p0), .val (.int p1), .val (.int p2), .val (.int p3), .val (.int p4), .val (.int p5), .val (.int z7), .val (.int z19), .val (.int m29_s0), .val (.ref c46_rv), .val (.ref c58_rv), .val (.double z66), .second, .val (.double z74), .second, .val (.double z83), .second, .val (.double z92), .second, .val (.double z96), .second, .val (.double z100), .second, .val (.ref b4), .val (.ref rb19_b1), .val (.double z148), .second, .val (.ref c46_rv)] [(.int (1 : Int32))])) _
      exact retOut X27 hx Bd.returns rfl (Or.inl ⟨rfl, by simp, _, rfl⟩) (hb hby at_245) hr
    · show Q0 n0 _ T27.heap _
      rw [e27]
      exact ⟨rfl, by first | assumption | exact N0⟩
set_option maxRecDepth 65536 in
set_option maxHeartbeats 40000000 in
theorem comes_1 {Post : Tables → Env → Array Value → State → Outcome → State → Prop} (hpost : ∀ tb e args s v u, (limb_1_1.after args s (.returned v) u = true ∧ limb_1_2.after args s (.returned v) u = true ∧ True) → FrameEnd s (.returned v) u (Jvm.fieldLocs frame_1_writes args s ++ Jvm.arrayLocs frame_1_arrays args s ++ Jvm.staticLocs frame_1_statics s) 16 128 → Post tb e args s (.returned v) u) :
    ArmFor flags0 classFile x code maxLocals ret World_1 tables_1 room_1 Calls_1 rest_1 Pre_1 Post := by
  intro l hfl _ _ p e ha hc hk s m args below hf hA hF happ hP
  obtain ⟨hcalls, hrest, hpre⟩ := hP
  obtain ⟨-, -, -, hnamed, -, -, -, hat⟩ := (Spec.applies_iff hf).mp happ
  obtain ⟨hg, hn⟩ := and_e (Cond.before_iff.mp (show (Jvm.Cond.and given_1 narrow_1).before args s = true from hpre))
  obtain ⟨g1, g2⟩ := and_e hg
  obtain ⟨g3, g4⟩ := and_e g2
  obtain ⟨g5, g6⟩ := and_e g4
  obtain ⟨g7, g8⟩ := and_e g6
  obtain ⟨g9, g10⟩ := and_e g8
  obtain ⟨g11, g12⟩ := and_e g10
  obtain ⟨w0, w1, w2, w3, w4, w5, rfl⟩ : ∃ w0 w1 w2 w3 w4 w5 : Value, args = #[w0, w1, w2, w3, w4, w5] := by
    have hs : args.size = 6 := by simpa [Cond.value, given_1] using g1
    obtain ⟨L⟩ := args
    match L, hs with
    | [w0, w1, w2, w3, w4, w5], _ => exact ⟨w0, w1, w2, w3, w4, w5, rfl⟩
  have hw := fun d (hd : d ∈ tables_1) => atoms_spec (ws := Jvm.Cond.code x code maxLocals ret :: tables_1) hat d (List.mem_cons_of_mem _ hd)
  have hfit : Fit s := fun {y c} hc i hi => by
    obtain ⟨ha, rfl⟩ := Array.getElem?_eq_some_iff.mp hc
    have q := List.all_eq_true.mp ((Array.all_eq_true_iff_forall_mem.mp hF) _ (Array.getElem_mem ha)) i (List.mem_range.mpr hi)
    simpa [Array.getElem?_eq_getElem hi] using q
  obtain ⟨i0, ei0⟩ := is_v g3
  obtain rfl : w0 = (.int i0) := Option.some.inj ei0
  obtain ⟨i1, ei1⟩ := is_v g5
  obtain rfl : w1 = (.int i1) := Option.some.inj ei1
  obtain ⟨i2, ei2⟩ := is_v g7
  obtain rfl : w2 = (.int i2) := Option.some.inj ei2
  obtain ⟨i3, ei3⟩ := is_v g9
  obtain rfl : w3 = (.int i3) := Option.some.inj ei3
  obtain ⟨i4, ei4⟩ := is_v g11
  obtain rfl : w4 = (.int i4) := Option.some.inj ei4
  obtain ⟨i5, ei5⟩ := is_v g12
  obtain rfl : w5 = (.int i5) := Option.some.inj ei5
  obtain ⟨g13, g14⟩ := and_e hn
  obtain ⟨g15, g16⟩ := and_e g14
  obtain ⟨g17, g18⟩ := and_e g16
  obtain ⟨r_RIVALS, er_RIVALS⟩ := exa_v g13
  have S_RIVALS : Sta s s.heap "com/example/vetrino/vetrino/PairShift$Doubt" "RIVALS" "Lcom/example/vetrino/vetrino/PairShift$Doubt;" (.ref r_RIVALS) := Sta.start er_RIVALS (Or.inr ⟨(hw _ (List.mem_of_getElem? (i := 5) rfl)), (hw _ (List.mem_of_getElem? (i := 6) rfl))⟩)
  obtain ⟨r_PAST_SEARCH, er_PAST_SEARCH⟩ := exa_v g17
  have S_PAST_SEARCH : Sta s s.heap "com/example/vetrino/vetrino/PairShift$Doubt" "PAST_SEARCH" "Lcom/example/vetrino/vetrino/PairShift$Doubt;" (.ref r_PAST_SEARCH) := Sta.start er_PAST_SEARCH (Or.inr ⟨(hw _ (List.mem_of_getElem? (i := 5) rfl)), (hw _ (List.mem_of_getElem? (i := 77) rfl))⟩)
  obtain ⟨r_LOOSE, er_LOOSE⟩ := exa_v g18
  have S_LOOSE : Sta s s.heap "com/example/vetrino/vetrino/PairShift$Doubt" "LOOSE" "Lcom/example/vetrino/vetrino/PairShift$Doubt;" (.ref r_LOOSE) := Sta.start er_LOOSE (Or.inr ⟨(hw _ (List.mem_of_getElem? (i := 5) rfl)), (hw _ (List.mem_of_getElem? (i := 79) rfl))⟩)
  obtain ⟨r_THIN, er_THIN⟩ := exa_v g15
  have S_THIN : Sta s s.heap "com/example/vetrino/vetrino/PairShift$Doubt" "THIN" "Lcom/example/vetrino/vetrino/PairShift$Doubt;" (.ref r_THIN) := Sta.start er_THIN (Or.inr ⟨(hw _ (List.mem_of_getElem? (i := 5) rfl)), (hw _ (List.mem_of_getElem? (i := 75) rfl))⟩)
  obtain ⟨n, o, h1, h2, h3, _, L, rfl, ⟨rfl, N⟩, hq⟩ := rm0 l s _ hw tables_1 i0 i1 i2 i3 i4 i5  r_RIVALS r_PAST_SEARCH r_LOOSE r_THIN s.heap s.heap.size (Nat.le_refl _)  S_RIVALS S_PAST_SEARCH S_LOOSE S_THIN p e ha hc hk s m _ below hf ((Spec.applies_iff_loose hf).mp happ).1 ⟨rfl, State.Warmed39.refl s, rfl⟩ trivial
  refine ⟨n, _, h1, h2, h3, hpost _ _ _ _ _ _ ⟨Cond.after_iff.mpr rfl, Cond.after_iff.mpr (eq_i res_at (Term.int_eval (1)) rfl), trivial⟩ ⟨hq.1, hq.2.1, (hq.2.2.sift fun y hy => Or.inr (N y hy)).mono (by decide) (by decide)⟩⟩
theorem main_1_1 : Claimed_1_1 := comes_1 fun _ _ _ _ _ _ h hF => ⟨h.1, hF⟩
theorem main_1_2 : Claimed_1_2 := comes_1 fun _ _ _ _ _ _ h hF => ⟨h.2.1, hF⟩
end Jvm.Pilot.@@N@@
namespace Jvm.Pilot.@@N@@
open Jvm Jvm.ClassFile Sem Op Lib Jvm.Free Jvm.Stand Jvm.Pilot.@@N@@.Jvm.D
/-! MADE BY PROGRAM (witnessworld.py) out of the Statement's table words and the real class files: 13 classes; the members and pool entries that the words name. The judged class is class 1, her method 2. -/
namespace start1
open Jvm.ClassFile
def u (s : String) : CpInfo := .utf8 (stringToUtf16 s)
/-- a pool by its gaps: so many unusable entries, then the entry; so many at the end -/
def gap : Nat → List CpInfo → List CpInfo
  | 0, r => r
  | n + 1, r => .unusable :: gap n r
def poolList (es : List (Nat × CpInfo)) (last : Nat) : List CpInfo := es.foldr (fun e r => gap e.1 (e.2 :: r)) (gap last [])
def pool (es : List (Nat × CpInfo)) (last : Nat) : Array CpInfo := ⟨poolList es last⟩
def fileOf (pool : Array CpInfo) (this : Nat) (attrs : Array Attribute := #[]) (ms : Array MethodInfo := #[]) (fl : Nat := 33) (sup : Nat := 0) (ifs : Array Nat := #[]) (fds : Array FieldInfo := #[]) : ClassFile where
  minorVersion := 0
  majorVersion := 65
  constantPool := pool
  accessFlags := fl
  thisClass := this
  superClass := sup
  interfaces := ifs
  fields := fds
  methods := ms
  attributes := attrs
def plain (name : String) (sup : Option ClassId) : Class where
  name := name
  kind := .ordinary
  loader := none
  accessFlags := 33
  super := sup
  interfaces := #[]
  cf := none
  fields := #[]
  methods := #[]
  instanceTypes := #[]
  staticTypes := #[]
  resolved := #[]
  callSites := []
  init := .initialized
  statics := none
  mirror := none

def pool0 : Array CpInfo := pool [(5, u "<init>"), (0, u "()V"), (1, .class_ 10), (1, u "java/lang/Object")] 113

def k0c0 : Code := { maxStack := 0, maxLocals := 1, code := object_method_1_code, exceptionTable := #[], attributes := #[] }
def k0m0 : Method := { name := "<init>", desc := "()V", sig := { parameters := [], returnType := none }, accessFlags := 1, code := some k0c0 }
/-- java/lang/Object -/
def k0 : Class := { plain "java/lang/Object" none with
  accessFlags := 33
  interfaces := #[]
  cf := some (fileOf pool0 8 #[] #[{ accessFlags := 1, nameIndex := 5, descriptorIndex := 6, attributes := #[] }] 33 0 #[] #[])
  fields := #[]
  methods := #[k0m0]
  instanceTypes := #[]
  staticTypes := #[]
  resolved := Array.replicate 124 none
  statics := none }

def pool1 : Array CpInfo := pool [(2, .class_ 4), (1, u "java/lang/Object"), (0, u "<init>"), (0, u "()V"), (0, .fieldref 8 9), (0, .class_ 10), (0, .nameAndType 11 12), (0, u "com/example/vetrino/vetrino/PairShift$Doubt"), (0, u "RIVALS"), (0, u "Lcom/example/vetrino/vetrino/PairShift$Doubt;"), (0, .fieldref 8 14), (0, .nameAndType 15 12), (0, u "PAST_SEARCH"), (0, .fieldref 8 17), (0, .nameAndType 18 12), (0, u "LOOSE"), (0, .fieldref 8 20), (0, .nameAndType 21 12), (0, u "THIN"), (0, .methodref 23 24), (0, .class_ 25), (0, .nameAndType 26 27), (0, u "com/example/vetrino/vetrino/PairShiftRemeasuredPinLaw"), (0, u "pick"), (0, u "(I)Lcom/example/vetrino/vetrino/PairShift$Doubt;"), (0, .double 4620693217682128896), (1, .class_ 31), (0, u "com/example/vetrino/vetrino/PairShift"), (0, .methodref 30 33), (0, .nameAndType 5 34), (0, u "(IIDDDZLcom/example/vetrino/vetrino/PairShift$Doubt;)V"), (0, .methodref 30 36), (0, .nameAndType 37 38), (0, u "remeasured"), (0, u "(DDDLcom/example/vetrino/vetrino/PairShift$Doubt;)Lcom/example/vetrino/vetrino/PairShift;"), (0, .double 4634204016564240384), (1, .methodref 30 42), (0, .nameAndType 43 44), (0, u "first"), (0, u "()I"), (0, .methodref 30 46), (0, .nameAndType 47 44), (0, u "second"), (0, .methodref 30 49), (0, .nameAndType 50 51), (0, u "dx"), (0, u "()D"), (0, .methodref 30 53), (0, .nameAndType 54 51), (0, u "dy"), (0, .methodref 30 56), (0, .nameAndType 57 51), (0, u "confidence"), (0, .methodref 30 59), (0, .nameAndType 60 61), (0, u "used"), (0, u "()Z"), (0, .methodref 30 63), (0, .nameAndType 64 65), (0, u "doubt"), (0, u "()Lcom/example/vetrino/vetrino/PairShift$Doubt;"), (3, u "law"), (0, u "(IIIIII)Z")] 4

def k1m0 : Method := { name := "<init>", desc := "()V", sig := { parameters := [], returnType := none }, accessFlags := 1, code := none }
def k1c1 : Code := { maxStack := 2, maxLocals := 1, code := method_2_code, exceptionTable := #[], attributes := #[] }
def k1m1 : Method := { name := "pick", desc := "(I)Lcom/example/vetrino/vetrino/PairShift$Doubt;", sig := { parameters := [.int], returnType := some (.object "com/example/vetrino/vetrino/PairShift$Doubt") }, accessFlags := 10, code := some k1c1 }
def k1c2 : Code := { maxStack := 12, maxLocals := 28, code := code, exceptionTable := #[], attributes := #[] }
def k1m2 : Method := { name := "law", desc := "(IIIIII)Z", sig := { parameters := [.int, .int, .int, .int, .int, .int], returnType := some .boolean }, accessFlags := 9, code := some k1c2 }
/-- com/example/vetrino/vetrino/PairShiftRemeasuredPinLaw -/
def k1 : Class := { plain "com/example/vetrino/vetrino/PairShiftRemeasuredPinLaw" (some 0) with
  accessFlags := 49
  interfaces := #[]
  cf := some (fileOf pool1 23 #[] #[{ accessFlags := 1, nameIndex := 5, descriptorIndex := 6, attributes := #[] }, { accessFlags := 10, nameIndex := 26, descriptorIndex := 27, attributes := #[] }, { accessFlags := 9, nameIndex := 69, descriptorIndex := 70, attributes := #[] }] 49 2 #[] #[])
  fields := #[]
  methods := #[k1m0, k1m1, k1m2]
  instanceTypes := #[]
  staticTypes := #[]
  resolved := Array.replicate 75 none
  statics := none }

def pool2 : Array CpInfo := pool [(1, .class_ 2), (0, u "java/lang/constant/Constable"), (0, .class_ 4), (0, u "java/lang/Object")] 6

/-- java/lang/constant/Constable -/
def k2 : Class := { plain "java/lang/constant/Constable" (some 0) with
  accessFlags := 1537
  interfaces := #[]
  cf := some (fileOf pool2 1 #[] #[] 1537 3 #[] #[])
  fields := #[]
  methods := #[]
  instanceTypes := #[]
  staticTypes := #[]
  resolved := Array.replicate 11 none
  statics := none }

def pool3 : Array CpInfo := pool [(1, .class_ 2), (0, u "java/lang/Comparable"), (0, .class_ 4), (0, u "java/lang/Object")] 7

/-- java/lang/Comparable -/
def k3 : Class := { plain "java/lang/Comparable" (some 0) with
  accessFlags := 1537
  interfaces := #[]
  cf := some (fileOf pool3 1 #[] #[] 1537 3 #[] #[])
  fields := #[]
  methods := #[]
  instanceTypes := #[]
  staticTypes := #[]
  resolved := Array.replicate 12 none
  statics := none }

def pool4 : Array CpInfo := pool [(1, .class_ 2), (0, u "java/io/Serializable"), (0, .class_ 4), (0, u "java/lang/Object")] 2

/-- java/io/Serializable -/
def k4 : Class := { plain "java/io/Serializable" (some 0) with
  accessFlags := 1537
  interfaces := #[]
  cf := some (fileOf pool4 1 #[] #[] 1537 3 #[] #[])
  fields := #[]
  methods := #[]
  instanceTypes := #[]
  staticTypes := #[]
  resolved := Array.replicate 7 none
  statics := none }

def pool5 : Array CpInfo := pool [(2, .class_ 4), (1, u "java/lang/Enum"), (0, u "name"), (0, u "Ljava/lang/String;"), (2, u "ordinal"), (0, u "I"), (1, .class_ 14), (1, u "java/lang/Object"), (4, u "hash"), (86, .class_ 108), (1, u "java/lang/Enum$EnumDesc"), (2, .class_ 112), (0, u "java/lang/constant/Constable"), (0, .class_ 114), (0, u "java/lang/Comparable"), (0, .class_ 116), (0, u "java/io/Serializable")] 87

/-- java/lang/Enum -/
def k5 : Class := { plain "java/lang/Enum" (some 0) with
  accessFlags := 1057
  interfaces := #[2, 3, 4]
  cf := some (fileOf pool5 2 #[.nestMembers #[106]] #[] 1057 12 #[111, 113, 115] #[{ accessFlags := 18, nameIndex := 5, descriptorIndex := 6, attributes := #[] }, { accessFlags := 18, nameIndex := 9, descriptorIndex := 10, attributes := #[] }, { accessFlags := 2, nameIndex := 19, descriptorIndex := 10, attributes := #[] }])
  fields := #[{ name := "name", type := (.object "java/lang/String"), accessFlags := 18, slot := 0, constantValue := 0 }, { name := "ordinal", type := .int, accessFlags := 18, slot := 1, constantValue := 0 }, { name := "hash", type := .int, accessFlags := 2, slot := 2, constantValue := 0 }]
  methods := #[]
  instanceTypes := #[(.object "java/lang/String"), .int, .int]
  staticTypes := #[]
  resolved := Array.replicate 204 none
  statics := none }

def pool6 : Array CpInfo := pool [(1, .class_ 2), (0, u "com/example/vetrino/vetrino/PairShift$Doubt"), (2, u "RIVALS"), (0, u "Lcom/example/vetrino/vetrino/PairShift$Doubt;"), (2, u "PAST_SEARCH"), (2, u "LOOSE"), (2, u "THIN"), (2, u "$VALUES"), (0, u "[Lcom/example/vetrino/vetrino/PairShift$Doubt;"), (6, .class_ 28), (1, u "java/lang/Enum"), (8, u "reason"), (0, u "Ljava/lang/String;"), (57, .class_ 97), (0, u "com/example/vetrino/vetrino/PairShift")] 2

/-- com/example/vetrino/vetrino/PairShift$Doubt -/
def k6 : Class := { plain "com/example/vetrino/vetrino/PairShift$Doubt" (some 5) with
  accessFlags := 16432
  interfaces := #[]
  cf := some (fileOf pool6 1 #[.nestHost 96] #[] 16432 26 #[] #[{ accessFlags := 16409, nameIndex := 5, descriptorIndex := 6, attributes := #[] }, { accessFlags := 16409, nameIndex := 9, descriptorIndex := 6, attributes := #[] }, { accessFlags := 16409, nameIndex := 12, descriptorIndex := 6, attributes := #[] }, { accessFlags := 16409, nameIndex := 15, descriptorIndex := 6, attributes := #[] }, { accessFlags := 18, nameIndex := 37, descriptorIndex := 38, attributes := #[] }, { accessFlags := 4122, nameIndex := 18, descriptorIndex := 19, attributes := #[] }])
  fields := #[{ name := "RIVALS", type := (.object "com/example/vetrino/vetrino/PairShift$Doubt"), accessFlags := 16409, slot := 0, constantValue := 0 }, { name := "PAST_SEARCH", type := (.object "com/example/vetrino/vetrino/PairShift$Doubt"), accessFlags := 16409, slot := 1, constantValue := 0 }, { name := "LOOSE", type := (.object "com/example/vetrino/vetrino/PairShift$Doubt"), accessFlags := 16409, slot := 2, constantValue := 0 }, { name := "THIN", type := (.object "com/example/vetrino/vetrino/PairShift$Doubt"), accessFlags := 16409, slot := 3, constantValue := 0 }, { name := "reason", type := (.object "java/lang/String"), accessFlags := 18, slot := 3, constantValue := 0 }, { name := "$VALUES", type := (.array (.object "com/example/vetrino/vetrino/PairShift$Doubt")), accessFlags := 4122, slot := 4, constantValue := 0 }]
  methods := #[]
  instanceTypes := #[(.object "java/lang/String"), .int, .int, (.object "java/lang/String")]
  staticTypes := #[(.object "com/example/vetrino/vetrino/PairShift$Doubt"), (.object "com/example/vetrino/vetrino/PairShift$Doubt"), (.object "com/example/vetrino/vetrino/PairShift$Doubt"), (.object "com/example/vetrino/vetrino/PairShift$Doubt"), (.array (.object "com/example/vetrino/vetrino/PairShift$Doubt"))]
  resolved := Array.replicate 100 none
  statics := some 0 }

def pool7 : Array CpInfo := pool [(2, .class_ 4), (1, u "com/example/vetrino/vetrino/PairShift$Doubt"), (1, u "Lcom/example/vetrino/vetrino/PairShift$Doubt;"), (0, .methodref 8 9), (0, .class_ 10), (0, .nameAndType 11 12), (0, u "com/example/vetrino/vetrino/PairShift"), (0, u "<init>"), (0, u "(IIDDDZLcom/example/vetrino/vetrino/PairShift$Doubt;)V"), (0, .methodref 14 15), (0, .class_ 16), (0, .nameAndType 11 17), (0, u "java/lang/Object"), (0, u "()V"), (9, .fieldref 8 28), (0, .nameAndType 29 30), (0, u "first"), (0, u "I"), (0, .fieldref 8 32), (0, .nameAndType 33 30), (0, u "second"), (0, .fieldref 8 35), (0, .nameAndType 36 37), (0, u "dx"), (0, u "D"), (0, .fieldref 8 39), (0, .nameAndType 40 37), (0, u "dy"), (0, .fieldref 8 42), (0, .nameAndType 43 37), (0, u "confidence"), (0, .fieldref 8 45), (0, .nameAndType 46 47), (0, u "used"), (0, u "Z"), (0, .fieldref 8 49), (0, .nameAndType 50 6), (0, u "doubt"), (11, u "()I"), (0, u "()D"), (0, u "()Z"), (0, u "()Lcom/example/vetrino/vetrino/PairShift$Doubt;"), (0, u "remeasured"), (0, u "(DDDLcom/example/vetrino/vetrino/PairShift$Doubt;)Lcom/example/vetrino/vetrino/PairShift;")] 27

def k7c0 : Code := { maxStack := 4, maxLocals := 11, code := prog_8_method_2_code, exceptionTable := #[], attributes := #[] }
def k7m0 : Method := { name := "<init>", desc := "(IIDDDZLcom/example/vetrino/vetrino/PairShift$Doubt;)V", sig := { parameters := [.int, .int, .double, .double, .double, .boolean, (.object "com/example/vetrino/vetrino/PairShift$Doubt")], returnType := none }, accessFlags := 0, code := some k7c0 }
def k7c1 : Code := { maxStack := 1, maxLocals := 1, code := prog_8_method_3_code, exceptionTable := #[], attributes := #[] }
def k7m1 : Method := { name := "first", desc := "()I", sig := { parameters := [], returnType := some .int }, accessFlags := 1, code := some k7c1 }
def k7c2 : Code := { maxStack := 1, maxLocals := 1, code := prog_8_method_4_code, exceptionTable := #[], attributes := #[] }
def k7m2 : Method := { name := "second", desc := "()I", sig := { parameters := [], returnType := some .int }, accessFlags := 1, code := some k7c2 }
def k7c3 : Code := { maxStack := 2, maxLocals := 1, code := prog_8_method_5_code, exceptionTable := #[], attributes := #[] }
def k7m3 : Method := { name := "dx", desc := "()D", sig := { parameters := [], returnType := some .double }, accessFlags := 1, code := some k7c3 }
def k7c4 : Code := { maxStack := 2, maxLocals := 1, code := prog_8_method_6_code, exceptionTable := #[], attributes := #[] }
def k7m4 : Method := { name := "dy", desc := "()D", sig := { parameters := [], returnType := some .double }, accessFlags := 1, code := some k7c4 }
def k7c5 : Code := { maxStack := 2, maxLocals := 1, code := prog_8_method_7_code, exceptionTable := #[], attributes := #[] }
def k7m5 : Method := { name := "confidence", desc := "()D", sig := { parameters := [], returnType := some .double }, accessFlags := 1, code := some k7c5 }
def k7c6 : Code := { maxStack := 1, maxLocals := 1, code := prog_8_method_8_code, exceptionTable := #[], attributes := #[] }
def k7m6 : Method := { name := "used", desc := "()Z", sig := { parameters := [], returnType := some .boolean }, accessFlags := 1, code := some k7c6 }
def k7c7 : Code := { maxStack := 1, maxLocals := 1, code := prog_8_method_9_code, exceptionTable := #[], attributes := #[] }
def k7m7 : Method := { name := "doubt", desc := "()Lcom/example/vetrino/vetrino/PairShift$Doubt;", sig := { parameters := [], returnType := some (.object "com/example/vetrino/vetrino/PairShift$Doubt") }, accessFlags := 0, code := some k7c7 }
def k7c8 : Code := { maxStack := 15, maxLocals := 8, code := prog_8_method_10_code, exceptionTable := #[], attributes := #[] }
def k7m8 : Method := { name := "remeasured", desc := "(DDDLcom/example/vetrino/vetrino/PairShift$Doubt;)Lcom/example/vetrino/vetrino/PairShift;", sig := { parameters := [.double, .double, .double, (.object "com/example/vetrino/vetrino/PairShift$Doubt")], returnType := some (.object "com/example/vetrino/vetrino/PairShift") }, accessFlags := 0, code := some k7c8 }
/-- com/example/vetrino/vetrino/PairShift -/
def k7 : Class := { plain "com/example/vetrino/vetrino/PairShift" (some 0) with
  accessFlags := 49
  interfaces := #[]
  cf := some (fileOf pool7 8 #[.nestMembers #[2]] #[{ accessFlags := 0, nameIndex := 11, descriptorIndex := 12, attributes := #[] }, { accessFlags := 1, nameIndex := 29, descriptorIndex := 62, attributes := #[] }, { accessFlags := 1, nameIndex := 33, descriptorIndex := 62, attributes := #[] }, { accessFlags := 1, nameIndex := 36, descriptorIndex := 63, attributes := #[] }, { accessFlags := 1, nameIndex := 40, descriptorIndex := 63, attributes := #[] }, { accessFlags := 1, nameIndex := 43, descriptorIndex := 63, attributes := #[] }, { accessFlags := 1, nameIndex := 46, descriptorIndex := 64, attributes := #[] }, { accessFlags := 0, nameIndex := 50, descriptorIndex := 65, attributes := #[] }, { accessFlags := 0, nameIndex := 66, descriptorIndex := 67, attributes := #[] }] 49 14 #[] #[{ accessFlags := 18, nameIndex := 29, descriptorIndex := 30, attributes := #[] }, { accessFlags := 18, nameIndex := 33, descriptorIndex := 30, attributes := #[] }, { accessFlags := 18, nameIndex := 36, descriptorIndex := 37, attributes := #[] }, { accessFlags := 18, nameIndex := 40, descriptorIndex := 37, attributes := #[] }, { accessFlags := 18, nameIndex := 43, descriptorIndex := 37, attributes := #[] }, { accessFlags := 18, nameIndex := 46, descriptorIndex := 47, attributes := #[] }, { accessFlags := 18, nameIndex := 50, descriptorIndex := 6, attributes := #[] }])
  fields := #[{ name := "first", type := .int, accessFlags := 18, slot := 0, constantValue := 0 }, { name := "second", type := .int, accessFlags := 18, slot := 1, constantValue := 0 }, { name := "dx", type := .double, accessFlags := 18, slot := 2, constantValue := 0 }, { name := "dy", type := .double, accessFlags := 18, slot := 3, constantValue := 0 }, { name := "confidence", type := .double, accessFlags := 18, slot := 4, constantValue := 0 }, { name := "used", type := .boolean, accessFlags := 18, slot := 5, constantValue := 0 }, { name := "doubt", type := (.object "com/example/vetrino/vetrino/PairShift$Doubt"), accessFlags := 18, slot := 6, constantValue := 0 }]
  methods := #[k7m0, k7m1, k7m2, k7m3, k7m4, k7m5, k7m6, k7m7, k7m8]
  instanceTypes := #[.int, .int, .double, .double, .double, .boolean, (.object "com/example/vetrino/vetrino/PairShift$Doubt")]
  staticTypes := #[]
  resolved := Array.replicate 95 none
  statics := none }

def pool8 : Array CpInfo := pool [(1, u "java/lang/Cloneable"), (0, .class_ 1), (0, u "java/lang/Object"), (0, .class_ 3)] 3

/-- java/lang/Cloneable -/
def k8 : Class := { plain "java/lang/Cloneable" (some 0) with
  accessFlags := 1537
  interfaces := #[]
  cf := some (fileOf pool8 2 #[] #[] 1537 4 #[] #[])
  fields := #[]
  methods := #[]
  instanceTypes := #[]
  staticTypes := #[]
  resolved := Array.replicate 8 none
  statics := none }

/-- the primitive byte -/
def k9 : Class := { plain "byte" none with kind := .primitive 'B', accessFlags := 0x411 }
/-- [B -/
def k10 : Class := { plain "[B" (some 0) with kind := .array 9 .byte, interfaces := #[8, 4], accessFlags := 1041 }

/-- the primitive int -/
def k11 : Class := { plain "int" none with kind := .primitive 'I', accessFlags := 0x411 }
/-- [I -/
def k12 : Class := { plain "[I" (some 0) with kind := .array 11 .int, interfaces := #[8, 4], accessFlags := 1041 }

def heap : Heap := #[{ cls := 6, slots := #[.ref 1, .ref 1, .ref 1, .ref 1, .null], vm := .statics 6 },
  { cls := 6, slots := #[.null, .int 0, .int 0, .null], vm := .none }]
def classes : Array Class := #[k0, k1, k2, k3, k4, k5, k6, k7, k8, k9, k10, k11, k12]
def interned : List (Array UInt16 × Addr) := []
def slotsUsed : Nat := 9
def theMethod : MethodId := ⟨1, 2⟩
def args0 : Array Value := #[.int 5, .int 5, .int 5, .int 5, .int 5, .int 5]
def aboutOver (below : List Frame) : State where
  vm := { classes := classes, interned := interned.toArray }
  heap := heap
  slotsUsed := slotsUsed
  threads := #[{ frames := .invoking theMethod args0 :: below }]
def below0 : List Frame := [.native { method := ⟨0, 0⟩, args := #[] }]
def about1 : State := aboutOver below0
def p0 : Program := .bare "" "" ""
def e0 : Env := launch0.env 0 0 0
theorem w_frames : about1.frames = Frame.invoking theMethod args0 :: below0 := rfl
set_option maxRecDepth 65536 in
theorem w_args : argsFit about1.vm theMethod args0 = true := by decide +kernel
set_option maxRecDepth 65536 in
theorem w_heap : heapFits about1 = true := by decide +kernel
set_option maxRecDepth 65536 in
theorem w_runnable : about1.curStatus? = some .runnable := by decide +kernel
set_option maxRecDepth 65536 in
theorem w_alone : about1.alone = true := by decide +kernel
set_option maxRecDepth 65536 in
theorem w_named : about1.methodNamed? x = some theMethod := by decide +kernel
set_option maxRecDepth 65536 in
theorem w_hears : about1.hears theMethod below0 = true := by decide +kernel
set_option maxRecDepth 65536 in
theorem w_ripe : about1.ripe theMethod args0 below0 = true := by decide +kernel
theorem w_running : about1.status = .running := rfl
set_option maxRecDepth 65536 in
theorem w_room : about1.hasRoom e0.platform room_1 = true :=
  launch0.hasRoom_least _ room_1 (by decide +kernel) (by decide +kernel) (by decide +kernel) (by decide +kernel) (by decide +kernel) (by decide +kernel)
theorem allAtoms_all (ts : List Jvm.Cond) (a : Array Jvm.Value) (st : Jvm.State) : (allAtoms ts).before a st = ts.all (fun c => c.before a st) := by
  induction ts with
  | nil => rfl
  | cons c t ih =>
    show (Jvm.Cond.and c (allAtoms t)).before a st = _
    rw [Jvm.Cond.before_and, ih, List.all_cons]
def words1 : List Jvm.Cond := Jvm.Cond.code x code maxLocals ret :: tables_1
/-- a 'code' word, met by the world's own term for the bytes: nothing is compared byte by byte -/
theorem code_word {y : MethodName} {bytes : ByteArray} {mx : Nat} {rt : Option FieldType} {a : Array Value} {s : State} {m : MethodId} {meth : Method} {c : Code} (h1 : s.methodNamed? y = some m) (h2 : s.vm.method? m = some meth) (h3 : meth.code = some c) (h4 : c.code = bytes)
    (h5 : (c.maxLocals == mx && c.exceptionTable.isEmpty && decide (c.maxStack ≤ mostOperands) && decide (meth.sig.returnType = rt) && !meth.locks && decide (parseMethodDescriptor y.desc = some meth.sig)) = true) : (Jvm.Cond.code y bytes mx rt).before a s = true := by
  simp only [Bool.and_eq_true, beq_iff_eq, Bool.not_eq_true', decide_eq_true_eq] at h5
  obtain ⟨⟨⟨⟨⟨g1, g2⟩, g3⟩, g4⟩, g5⟩, g6⟩ := h5
  simp [Cond.before, Cond.holds, Cond.value, h1, h2, h3, h4, g1, g2, g3, g4, g5, g6]
def isCode : Jvm.Cond → Bool
  | .code _ _ _ _ => true
  | _ => false
theorem all_split {L : List Jvm.Cond} {P : Jvm.Cond → Bool} (h1 : L.all (fun c => isCode c || P c) = true) (h2 : ∀ c ∈ L.filter isCode, P c = true) : L.all P = true := by
  refine List.all_eq_true.mpr fun c hc => ?_
  have h := List.all_eq_true.mp h1 c hc
  rcases Bool.eq_false_or_eq_true (isCode c) with hi | hi
  · exact h2 c (List.mem_filter.mpr ⟨hc, hi⟩)
  · simpa [hi] using h
set_option maxRecDepth 65536 in
theorem w_c0 : (Jvm.Cond.code x code maxLocals ret).before args0 about1 = true := code_word (m := ⟨1, 2⟩) (meth := k1m2) (c := k1c2) (by decide +kernel) rfl rfl rfl (by decide +kernel)
set_option maxRecDepth 65536 in
theorem w_c1 : (Jvm.Cond.code ({ cls := "com/example/vetrino/vetrino/PairShiftRemeasuredPinLaw", name := "pick", desc := "(I)Lcom/example/vetrino/vetrino/PairShift$Doubt;" } : Jvm.MethodName) method_2_code (1 : Nat) (Option.some (Jvm.ClassFile.FieldType.object "com/example/vetrino/vetrino/PairShift$Doubt"))).before args0 about1 = true := code_word (m := ⟨1, 1⟩) (meth := k1m1) (c := k1c1) (by decide +kernel) rfl rfl rfl (by decide +kernel)
set_option maxRecDepth 65536 in
theorem w_c2 : (Jvm.Cond.code ({ cls := "com/example/vetrino/vetrino/PairShift", name := "<init>", desc := "(IIDDDZLcom/example/vetrino/vetrino/PairShift$Doubt;)V" } : Jvm.MethodName) prog_8_method_2_code (11 : Nat) (Option.none : Option Jvm.ClassFile.FieldType)).before args0 about1 = true := code_word (m := ⟨7, 0⟩) (meth := k7m0) (c := k7c0) (by decide +kernel) rfl rfl rfl (by decide +kernel)
set_option maxRecDepth 65536 in
theorem w_c3 : (Jvm.Cond.code ({ cls := "java/lang/Object", name := "<init>", desc := "()V" } : Jvm.MethodName) object_method_1_code (1 : Nat) (Option.none : Option Jvm.ClassFile.FieldType)).before args0 about1 = true := code_word (m := ⟨0, 0⟩) (meth := k0m0) (c := k0c0) (by decide +kernel) rfl rfl rfl (by decide +kernel)
set_option maxRecDepth 65536 in
theorem w_c4 : (Jvm.Cond.code ({ cls := "com/example/vetrino/vetrino/PairShift", name := "remeasured", desc := "(DDDLcom/example/vetrino/vetrino/PairShift$Doubt;)Lcom/example/vetrino/vetrino/PairShift;" } : Jvm.MethodName) prog_8_method_10_code (8 : Nat) (Option.some (Jvm.ClassFile.FieldType.object "com/example/vetrino/vetrino/PairShift"))).before args0 about1 = true := code_word (m := ⟨7, 8⟩) (meth := k7m8) (c := k7c8) (by decide +kernel) rfl rfl rfl (by decide +kernel)
set_option maxRecDepth 65536 in
theorem w_c5 : (Jvm.Cond.code ({ cls := "com/example/vetrino/vetrino/PairShift", name := "first", desc := "()I" } : Jvm.MethodName) prog_8_method_3_code (1 : Nat) (Option.some Jvm.ClassFile.FieldType.int)).before args0 about1 = true := code_word (m := ⟨7, 1⟩) (meth := k7m1) (c := k7c1) (by decide +kernel) rfl rfl rfl (by decide +kernel)
set_option maxRecDepth 65536 in
theorem w_c6 : (Jvm.Cond.code ({ cls := "com/example/vetrino/vetrino/PairShift", name := "second", desc := "()I" } : Jvm.MethodName) prog_8_method_4_code (1 : Nat) (Option.some Jvm.ClassFile.FieldType.int)).before args0 about1 = true := code_word (m := ⟨7, 2⟩) (meth := k7m2) (c := k7c2) (by decide +kernel) rfl rfl rfl (by decide +kernel)
set_option maxRecDepth 65536 in
theorem w_c7 : (Jvm.Cond.code ({ cls := "com/example/vetrino/vetrino/PairShift", name := "dx", desc := "()D" } : Jvm.MethodName) prog_8_method_5_code (1 : Nat) (Option.some Jvm.ClassFile.FieldType.double)).before args0 about1 = true := code_word (m := ⟨7, 3⟩) (meth := k7m3) (c := k7c3) (by decide +kernel) rfl rfl rfl (by decide +kernel)
set_option maxRecDepth 65536 in
theorem w_c8 : (Jvm.Cond.code ({ cls := "com/example/vetrino/vetrino/PairShift", name := "dy", desc := "()D" } : Jvm.MethodName) prog_8_method_6_code (1 : Nat) (Option.some Jvm.ClassFile.FieldType.double)).before args0 about1 = true := code_word (m := ⟨7, 4⟩) (meth := k7m4) (c := k7c4) (by decide +kernel) rfl rfl rfl (by decide +kernel)
set_option maxRecDepth 65536 in
theorem w_c9 : (Jvm.Cond.code ({ cls := "com/example/vetrino/vetrino/PairShift", name := "confidence", desc := "()D" } : Jvm.MethodName) prog_8_method_7_code (1 : Nat) (Option.some Jvm.ClassFile.FieldType.double)).before args0 about1 = true := code_word (m := ⟨7, 5⟩) (meth := k7m5) (c := k7c5) (by decide +kernel) rfl rfl rfl (by decide +kernel)
set_option maxRecDepth 65536 in
theorem w_c10 : (Jvm.Cond.code ({ cls := "com/example/vetrino/vetrino/PairShift", name := "used", desc := "()Z" } : Jvm.MethodName) prog_8_method_8_code (1 : Nat) (Option.some Jvm.ClassFile.FieldType.boolean)).before args0 about1 = true := code_word (m := ⟨7, 6⟩) (meth := k7m6) (c := k7c6) (by decide +kernel) rfl rfl rfl (by decide +kernel)
set_option maxRecDepth 65536 in
theorem w_c11 : (Jvm.Cond.code ({ cls := "com/example/vetrino/vetrino/PairShift", name := "doubt", desc := "()Lcom/example/vetrino/vetrino/PairShift$Doubt;" } : Jvm.MethodName) prog_8_method_9_code (1 : Nat) (Option.some (Jvm.ClassFile.FieldType.object "com/example/vetrino/vetrino/PairShift$Doubt"))).before args0 about1 = true := code_word (m := ⟨7, 7⟩) (meth := k7m7) (c := k7c7) (by decide +kernel) rfl rfl rfl (by decide +kernel)
def codes1 : List Jvm.Cond := [Jvm.Cond.code x code maxLocals ret, Jvm.Cond.code ({ cls := "com/example/vetrino/vetrino/PairShiftRemeasuredPinLaw", name := "pick", desc := "(I)Lcom/example/vetrino/vetrino/PairShift$Doubt;" } : Jvm.MethodName) method_2_code (1 : Nat) (Option.some (Jvm.ClassFile.FieldType.object "com/example/vetrino/vetrino/PairShift$Doubt")), Jvm.Cond.code ({ cls := "com/example/vetrino/vetrino/PairShift", name := "<init>", desc := "(IIDDDZLcom/example/vetrino/vetrino/PairShift$Doubt;)V" } : Jvm.MethodName) prog_8_method_2_code (11 : Nat) (Option.none : Option Jvm.ClassFile.FieldType), Jvm.Cond.code ({ cls := "java/lang/Object", name := "<init>", desc := "()V" } : Jvm.MethodName) object_method_1_code (1 : Nat) (Option.none : Option Jvm.ClassFile.FieldType), Jvm.Cond.code ({ cls := "com/example/vetrino/vetrino/PairShift", name := "remeasured", desc := "(DDDLcom/example/vetrino/vetrino/PairShift$Doubt;)Lcom/example/vetrino/vetrino/PairShift;" } : Jvm.MethodName) prog_8_method_10_code (8 : Nat) (Option.some (Jvm.ClassFile.FieldType.object "com/example/vetrino/vetrino/PairShift")), Jvm.Cond.code ({ cls := "com/example/vetrino/vetrino/PairShift", name := "first", desc := "()I" } : Jvm.MethodName) prog_8_method_3_code (1 : Nat) (Option.some Jvm.ClassFile.FieldType.int), Jvm.Cond.code ({ cls := "com/example/vetrino/vetrino/PairShift", name := "second", desc := "()I" } : Jvm.MethodName) prog_8_method_4_code (1 : Nat) (Option.some Jvm.ClassFile.FieldType.int), Jvm.Cond.code ({ cls := "com/example/vetrino/vetrino/PairShift", name := "dx", desc := "()D" } : Jvm.MethodName) prog_8_method_5_code (1 : Nat) (Option.some Jvm.ClassFile.FieldType.double), Jvm.Cond.code ({ cls := "com/example/vetrino/vetrino/PairShift", name := "dy", desc := "()D" } : Jvm.MethodName) prog_8_method_6_code (1 : Nat) (Option.some Jvm.ClassFile.FieldType.double), Jvm.Cond.code ({ cls := "com/example/vetrino/vetrino/PairShift", name := "confidence", desc := "()D" } : Jvm.MethodName) prog_8_method_7_code (1 : Nat) (Option.some Jvm.ClassFile.FieldType.double), Jvm.Cond.code ({ cls := "com/example/vetrino/vetrino/PairShift", name := "used", desc := "()Z" } : Jvm.MethodName) prog_8_method_8_code (1 : Nat) (Option.some Jvm.ClassFile.FieldType.boolean), Jvm.Cond.code ({ cls := "com/example/vetrino/vetrino/PairShift", name := "doubt", desc := "()Lcom/example/vetrino/vetrino/PairShift$Doubt;" } : Jvm.MethodName) prog_8_method_9_code (1 : Nat) (Option.some (Jvm.ClassFile.FieldType.object "com/example/vetrino/vetrino/PairShift$Doubt"))]
set_option maxRecDepth 65536 in
theorem codes_eq : words1.filter isCode = codes1 := rfl
theorem w_codes : ∀ c ∈ words1.filter isCode, c.before args0 about1 = true := by
  rw [codes_eq]
  intro c hc
  simp only [codes1, List.mem_cons, List.not_mem_nil, or_false] at hc
  rcases hc with rfl | rfl | rfl | rfl | rfl | rfl | rfl | rfl | rfl | rfl | rfl | rfl
  · exact w_c0
  · exact w_c1
  · exact w_c2
  · exact w_c3
  · exact w_c4
  · exact w_c5
  · exact w_c6
  · exact w_c7
  · exact w_c8
  · exact w_c9
  · exact w_c10
  · exact w_c11
set_option maxRecDepth 65536 in
theorem w_t1 : (words1.take 24).all (fun c => isCode c || c.before args0 about1) = true := by decide +kernel
set_option maxRecDepth 65536 in
theorem w_t2 : ((words1.drop 24).take 24).all (fun c => isCode c || c.before args0 about1) = true := by decide +kernel
set_option maxRecDepth 65536 in
theorem w_t3 : (((words1.drop 24).drop 24).take 24).all (fun c => isCode c || c.before args0 about1) = true := by decide +kernel
set_option maxRecDepth 65536 in
theorem w_t4 : (((words1.drop 24).drop 24).drop 24).all (fun c => isCode c || c.before args0 about1) = true := by decide +kernel
theorem w_tables : (allAtoms (Jvm.Cond.code x code maxLocals ret :: tables_1)).before args0 about1 = true := by
  rw [allAtoms_all]
  show words1.all (fun c => c.before args0 about1) = true
  refine all_split ?_ w_codes
  rw [← List.take_append_drop 24 words1, List.all_append, w_t1, ← List.take_append_drop 24 (words1.drop 24), List.all_append, w_t2, ← List.take_append_drop 24 ((words1.drop 24).drop 24), List.all_append, w_t3, w_t4]
  rfl
set_option maxRecDepth 65536 in
theorem w_case : (Jvm.Cond.and given_1 narrow_1).before args0 about1 = true := by decide +kernel
theorem w_applies : (headSpec (Jvm.Cond.code x code maxLocals ret :: tables_1) room_1).applies x e0.platform about1 = true :=
  (Spec.applies_iff w_frames).mpr ⟨w_running, w_runnable, w_alone, w_named, w_hears, w_ripe, w_room, w_tables⟩
theorem atStart : AtStart classFile x code maxLocals ret World_1 tables_1 room_1 Calls_1 rest_1 Pre_1 launch0 p0 e0 about1 theMethod args0 below0 :=
  ⟨lists_1, trivial, launch0.admits_env _ _ _, launch0.least_env, fairChoices_fair.cas, fairChoices_fair.clock, w_frames, w_args, w_heap, w_applies, trivial, trivial, w_case⟩
end start1
theorem witness_1 : WitnessClaimed_1 := ⟨start1.p0, start1.e0, start1.about1, start1.theMethod, start1.args0, start1.below0, start1.atStart⟩
end Jvm.Pilot.@@N@@
