import JvmDerived
import JvmDerived.Pilot.@@N@@Statement
import JvmDerived.Pilot.@@N@@Code
set_option linter.unusedVariables false
set_option linter.unusedSimpArgs false
set_option maxHeartbeats 4000000
namespace Jvm.OwnK
open Sem ClassFile Op Lib Jvm.Free Jvm.Stand Jvm.LawKit Jvm.RoadKit
theorem iadd {tb : Tables} [Ours tb] {e : Env} {below : List Frame} {T target : State} {m : MethodId} {c : Code} {g : JFrame} (h : At T m c below) (hx : tb.exec = Jvm.exec) (hg : g.method = m) {x v : Int32} {y : Int32} {rest : List Value} (hd : decode c.code g.pc = .ok (.iadd, 1)) (hs : g.stack = .int y :: .int x :: rest) (hv : x + y = v)
    (hr : Steps tb e below (T.setTop { g with pc := g.pc + 1, stack := .int v :: rest }) target) : Steps tb e below (T.setTop g) target := by
  subst hv
  exact XS.iadd h hx hg hd hs hr
theorem isub {tb : Tables} [Ours tb] {e : Env} {below : List Frame} {T target : State} {m : MethodId} {c : Code} {g : JFrame} (h : At T m c below) (hx : tb.exec = Jvm.exec) (hg : g.method = m) {x v : Int32} {y : Int32} {rest : List Value} (hd : decode c.code g.pc = .ok (.isub, 1)) (hs : g.stack = .int y :: .int x :: rest) (hv : x - y = v)
    (hr : Steps tb e below (T.setTop { g with pc := g.pc + 1, stack := .int v :: rest }) target) : Steps tb e below (T.setTop g) target := by
  subst hv
  exact XS.isub h hx hg hd hs hr
theorem imul {tb : Tables} [Ours tb] {e : Env} {below : List Frame} {T target : State} {m : MethodId} {c : Code} {g : JFrame} (h : At T m c below) (hx : tb.exec = Jvm.exec) (hg : g.method = m) {x v : Int32} {y : Int32} {rest : List Value} (hd : decode c.code g.pc = .ok (.imul, 1)) (hs : g.stack = .int y :: .int x :: rest) (hv : x * y = v)
    (hr : Steps tb e below (T.setTop { g with pc := g.pc + 1, stack := .int v :: rest }) target) : Steps tb e below (T.setTop g) target := by
  subst hv
  exact XS.imul h hx hg hd hs hr
theorem iand {tb : Tables} [Ours tb] {e : Env} {below : List Frame} {T target : State} {m : MethodId} {c : Code} {g : JFrame} (h : At T m c below) (hx : tb.exec = Jvm.exec) (hg : g.method = m) {x v : Int32} {y : Int32} {rest : List Value} (hd : decode c.code g.pc = .ok (.iand, 1)) (hs : g.stack = .int y :: .int x :: rest) (hv : x &&& y = v)
    (hr : Steps tb e below (T.setTop { g with pc := g.pc + 1, stack := .int v :: rest }) target) : Steps tb e below (T.setTop g) target := by
  subst hv
  exact XS.iand h hx hg hd hs hr
theorem ior {tb : Tables} [Ours tb] {e : Env} {below : List Frame} {T target : State} {m : MethodId} {c : Code} {g : JFrame} (h : At T m c below) (hx : tb.exec = Jvm.exec) (hg : g.method = m) {x v : Int32} {y : Int32} {rest : List Value} (hd : decode c.code g.pc = .ok (.ior, 1)) (hs : g.stack = .int y :: .int x :: rest) (hv : x ||| y = v)
    (hr : Steps tb e below (T.setTop { g with pc := g.pc + 1, stack := .int v :: rest }) target) : Steps tb e below (T.setTop g) target := by
  subst hv
  exact XS.ior h hx hg hd hs hr
theorem ixor {tb : Tables} [Ours tb] {e : Env} {below : List Frame} {T target : State} {m : MethodId} {c : Code} {g : JFrame} (h : At T m c below) (hx : tb.exec = Jvm.exec) (hg : g.method = m) {x v : Int32} {y : Int32} {rest : List Value} (hd : decode c.code g.pc = .ok (.ixor, 1)) (hs : g.stack = .int y :: .int x :: rest) (hv : x ^^^ y = v)
    (hr : Steps tb e below (T.setTop { g with pc := g.pc + 1, stack := .int v :: rest }) target) : Steps tb e below (T.setTop g) target := by
  subst hv
  exact XS.ixor h hx hg hd hs hr
theorem ishl {tb : Tables} [Ours tb] {e : Env} {below : List Frame} {T target : State} {m : MethodId} {c : Code} {g : JFrame} (h : At T m c below) (hx : tb.exec = Jvm.exec) (hg : g.method = m) {x v : Int32} {y : Int32} {rest : List Value} (hd : decode c.code g.pc = .ok (.ishl, 1)) (hs : g.stack = .int y :: .int x :: rest) (hv : x <<< (y &&& 31) = v)
    (hr : Steps tb e below (T.setTop { g with pc := g.pc + 1, stack := .int v :: rest }) target) : Steps tb e below (T.setTop g) target := by
  subst hv
  exact XS.ishl h hx hg hd hs hr
theorem ishr {tb : Tables} [Ours tb] {e : Env} {below : List Frame} {T target : State} {m : MethodId} {c : Code} {g : JFrame} (h : At T m c below) (hx : tb.exec = Jvm.exec) (hg : g.method = m) {x v : Int32} {y : Int32} {rest : List Value} (hd : decode c.code g.pc = .ok (.ishr, 1)) (hs : g.stack = .int y :: .int x :: rest) (hv : x >>> (y &&& 31) = v)
    (hr : Steps tb e below (T.setTop { g with pc := g.pc + 1, stack := .int v :: rest }) target) : Steps tb e below (T.setTop g) target := by
  subst hv
  exact XS.ishr h hx hg hd hs hr
theorem iushr {tb : Tables} [Ours tb] {e : Env} {below : List Frame} {T target : State} {m : MethodId} {c : Code} {g : JFrame} (h : At T m c below) (hx : tb.exec = Jvm.exec) (hg : g.method = m) {x v : Int32} {y : Int32} {rest : List Value} (hd : decode c.code g.pc = .ok (.iushr, 1)) (hs : g.stack = .int y :: .int x :: rest) (hv : (x.toUInt32 >>> (y &&& 31).toUInt32).toInt32 = v)
    (hr : Steps tb e below (T.setTop { g with pc := g.pc + 1, stack := .int v :: rest }) target) : Steps tb e below (T.setTop g) target := by
  subst hv
  exact XS.iushr h hx hg hd hs hr
theorem idiv {tb : Tables} [Ours tb] {e : Env} {below : List Frame} {T target : State} {m : MethodId} {c : Code} {g : JFrame} (h : At T m c below) (hx : tb.exec = Jvm.exec) (hg : g.method = m) {x v : Int32} {y : Int32} {rest : List Value} (hd : decode c.code g.pc = .ok (.idiv, 1)) (hs : g.stack = .int y :: .int x :: rest) (hy : ¬ y = 0) (hv : x / y = v)
    (hr : Steps tb e below (T.setTop { g with pc := g.pc + 1, stack := .int v :: rest }) target) : Steps tb e below (T.setTop g) target := by
  subst hv
  exact XS.idiv h hx hg hd hs hy hr
theorem irem {tb : Tables} [Ours tb] {e : Env} {below : List Frame} {T target : State} {m : MethodId} {c : Code} {g : JFrame} (h : At T m c below) (hx : tb.exec = Jvm.exec) (hg : g.method = m) {x v : Int32} {y : Int32} {rest : List Value} (hd : decode c.code g.pc = .ok (.irem, 1)) (hs : g.stack = .int y :: .int x :: rest) (hy : ¬ y = 0) (hv : x % y = v)
    (hr : Steps tb e below (T.setTop { g with pc := g.pc + 1, stack := .int v :: rest }) target) : Steps tb e below (T.setTop g) target := by
  subst hv
  have q : x - x / y * y = x % y := irem_eq_mod x y
  exact XS.irem h hx hg hd hs hy (by rw [q]; exact hr)
theorem ladd {tb : Tables} [Ours tb] {e : Env} {below : List Frame} {T target : State} {m : MethodId} {c : Code} {g : JFrame} (h : At T m c below) (hx : tb.exec = Jvm.exec) (hg : g.method = m) {x v : Int64} {y : Int64} {rest : List Value} (hd : decode c.code g.pc = .ok (.ladd, 1)) (hs : g.stack = .long y :: .long x :: rest) (hv : x + y = v)
    (hr : Steps tb e below (T.setTop { g with pc := g.pc + 1, stack := .long v :: rest }) target) : Steps tb e below (T.setTop g) target := by
  subst hv
  exact XS.ladd h hx hg hd hs hr
theorem lsub {tb : Tables} [Ours tb] {e : Env} {below : List Frame} {T target : State} {m : MethodId} {c : Code} {g : JFrame} (h : At T m c below) (hx : tb.exec = Jvm.exec) (hg : g.method = m) {x v : Int64} {y : Int64} {rest : List Value} (hd : decode c.code g.pc = .ok (.lsub, 1)) (hs : g.stack = .long y :: .long x :: rest) (hv : x - y = v)
    (hr : Steps tb e below (T.setTop { g with pc := g.pc + 1, stack := .long v :: rest }) target) : Steps tb e below (T.setTop g) target := by
  subst hv
  exact XS.lsub h hx hg hd hs hr
theorem lmul {tb : Tables} [Ours tb] {e : Env} {below : List Frame} {T target : State} {m : MethodId} {c : Code} {g : JFrame} (h : At T m c below) (hx : tb.exec = Jvm.exec) (hg : g.method = m) {x v : Int64} {y : Int64} {rest : List Value} (hd : decode c.code g.pc = .ok (.lmul, 1)) (hs : g.stack = .long y :: .long x :: rest) (hv : x * y = v)
    (hr : Steps tb e below (T.setTop { g with pc := g.pc + 1, stack := .long v :: rest }) target) : Steps tb e below (T.setTop g) target := by
  subst hv
  exact XS.lmul h hx hg hd hs hr
theorem land {tb : Tables} [Ours tb] {e : Env} {below : List Frame} {T target : State} {m : MethodId} {c : Code} {g : JFrame} (h : At T m c below) (hx : tb.exec = Jvm.exec) (hg : g.method = m) {x v : Int64} {y : Int64} {rest : List Value} (hd : decode c.code g.pc = .ok (.land, 1)) (hs : g.stack = .long y :: .long x :: rest) (hv : x &&& y = v)
    (hr : Steps tb e below (T.setTop { g with pc := g.pc + 1, stack := .long v :: rest }) target) : Steps tb e below (T.setTop g) target := by
  subst hv
  exact XS.land h hx hg hd hs hr
theorem lor {tb : Tables} [Ours tb] {e : Env} {below : List Frame} {T target : State} {m : MethodId} {c : Code} {g : JFrame} (h : At T m c below) (hx : tb.exec = Jvm.exec) (hg : g.method = m) {x v : Int64} {y : Int64} {rest : List Value} (hd : decode c.code g.pc = .ok (.lor, 1)) (hs : g.stack = .long y :: .long x :: rest) (hv : x ||| y = v)
    (hr : Steps tb e below (T.setTop { g with pc := g.pc + 1, stack := .long v :: rest }) target) : Steps tb e below (T.setTop g) target := by
  subst hv
  exact XS.lor h hx hg hd hs hr
theorem lxor {tb : Tables} [Ours tb] {e : Env} {below : List Frame} {T target : State} {m : MethodId} {c : Code} {g : JFrame} (h : At T m c below) (hx : tb.exec = Jvm.exec) (hg : g.method = m) {x v : Int64} {y : Int64} {rest : List Value} (hd : decode c.code g.pc = .ok (.lxor, 1)) (hs : g.stack = .long y :: .long x :: rest) (hv : x ^^^ y = v)
    (hr : Steps tb e below (T.setTop { g with pc := g.pc + 1, stack := .long v :: rest }) target) : Steps tb e below (T.setTop g) target := by
  subst hv
  exact XS.lxor h hx hg hd hs hr
theorem lshl {tb : Tables} [Ours tb] {e : Env} {below : List Frame} {T target : State} {m : MethodId} {c : Code} {g : JFrame} (h : At T m c below) (hx : tb.exec = Jvm.exec) (hg : g.method = m) {x v : Int64} {y : Int32} {rest : List Value} (hd : decode c.code g.pc = .ok (.lshl, 1)) (hs : g.stack = .int y :: .long x :: rest) (hv : x <<< (y &&& 0x3f).toInt64 = v)
    (hr : Steps tb e below (T.setTop { g with pc := g.pc + 1, stack := .long v :: rest }) target) : Steps tb e below (T.setTop g) target := by
  subst hv
  exact XS.lshl h hx hg hd hs hr
theorem lshr {tb : Tables} [Ours tb] {e : Env} {below : List Frame} {T target : State} {m : MethodId} {c : Code} {g : JFrame} (h : At T m c below) (hx : tb.exec = Jvm.exec) (hg : g.method = m) {x v : Int64} {y : Int32} {rest : List Value} (hd : decode c.code g.pc = .ok (.lshr, 1)) (hs : g.stack = .int y :: .long x :: rest) (hv : x >>> (y &&& 0x3f).toInt64 = v)
    (hr : Steps tb e below (T.setTop { g with pc := g.pc + 1, stack := .long v :: rest }) target) : Steps tb e below (T.setTop g) target := by
  subst hv
  exact XS.lshr h hx hg hd hs hr
theorem lushr {tb : Tables} [Ours tb] {e : Env} {below : List Frame} {T target : State} {m : MethodId} {c : Code} {g : JFrame} (h : At T m c below) (hx : tb.exec = Jvm.exec) (hg : g.method = m) {x v : Int64} {y : Int32} {rest : List Value} (hd : decode c.code g.pc = .ok (.lushr, 1)) (hs : g.stack = .int y :: .long x :: rest) (hv : (x.toUInt64 >>> (y &&& 0x3f).toInt64.toUInt64).toInt64 = v)
    (hr : Steps tb e below (T.setTop { g with pc := g.pc + 1, stack := .long v :: rest }) target) : Steps tb e below (T.setTop g) target := by
  subst hv
  exact XS.lushr h hx hg hd hs hr
theorem ldiv {tb : Tables} [Ours tb] {e : Env} {below : List Frame} {T target : State} {m : MethodId} {c : Code} {g : JFrame} (h : At T m c below) (hx : tb.exec = Jvm.exec) (hg : g.method = m) {x v : Int64} {y : Int64} {rest : List Value} (hd : decode c.code g.pc = .ok (.ldiv, 1)) (hs : g.stack = .long y :: .long x :: rest) (hy : ¬ y = 0) (hv : x / y = v)
    (hr : Steps tb e below (T.setTop { g with pc := g.pc + 1, stack := .long v :: rest }) target) : Steps tb e below (T.setTop g) target := by
  subst hv
  exact XS.ldiv h hx hg hd hs hy hr
theorem lrem {tb : Tables} [Ours tb] {e : Env} {below : List Frame} {T target : State} {m : MethodId} {c : Code} {g : JFrame} (h : At T m c below) (hx : tb.exec = Jvm.exec) (hg : g.method = m) {x v : Int64} {y : Int64} {rest : List Value} (hd : decode c.code g.pc = .ok (.lrem, 1)) (hs : g.stack = .long y :: .long x :: rest) (hy : ¬ y = 0) (hv : x % y = v)
    (hr : Steps tb e below (T.setTop { g with pc := g.pc + 1, stack := .long v :: rest }) target) : Steps tb e below (T.setTop g) target := by
  subst hv
  have q : x - x / y * y = x % y := lrem_mod x y
  exact XS.lrem h hx hg hd hs hy (by rw [q]; exact hr)
theorem ineg {tb : Tables} [Ours tb] {e : Env} {below : List Frame} {T target : State} {m : MethodId} {c : Code} {g : JFrame} (h : At T m c below) (hx : tb.exec = Jvm.exec) (hg : g.method = m) {x : Int32} {v : Int32} {rest : List Value} (hd : decode c.code g.pc = .ok (.ineg, 1)) (hs : g.stack = .int x :: rest) (hv : -x = v)
    (hr : Steps tb e below (T.setTop { g with pc := g.pc + 1, stack := .int v :: rest }) target) : Steps tb e below (T.setTop g) target := by
  subst hv
  exact XS.ineg h hx hg hd hs hr
theorem lneg {tb : Tables} [Ours tb] {e : Env} {below : List Frame} {T target : State} {m : MethodId} {c : Code} {g : JFrame} (h : At T m c below) (hx : tb.exec = Jvm.exec) (hg : g.method = m) {x : Int64} {v : Int64} {rest : List Value} (hd : decode c.code g.pc = .ok (.lneg, 1)) (hs : g.stack = .long x :: rest) (hv : -x = v)
    (hr : Steps tb e below (T.setTop { g with pc := g.pc + 1, stack := .long v :: rest }) target) : Steps tb e below (T.setTop g) target := by
  subst hv
  exact XS.lneg h hx hg hd hs hr
theorem i2l {tb : Tables} [Ours tb] {e : Env} {below : List Frame} {T target : State} {m : MethodId} {c : Code} {g : JFrame} (h : At T m c below) (hx : tb.exec = Jvm.exec) (hg : g.method = m) {x : Int32} {v : Int64} {rest : List Value} (hd : decode c.code g.pc = .ok (.i2l, 1)) (hs : g.stack = .int x :: rest) (hv : x.toInt64 = v)
    (hr : Steps tb e below (T.setTop { g with pc := g.pc + 1, stack := .long v :: rest }) target) : Steps tb e below (T.setTop g) target := by
  subst hv
  exact XS.i2l h hx hg hd hs hr
theorem l2i {tb : Tables} [Ours tb] {e : Env} {below : List Frame} {T target : State} {m : MethodId} {c : Code} {g : JFrame} (h : At T m c below) (hx : tb.exec = Jvm.exec) (hg : g.method = m) {x : Int64} {v : Int32} {rest : List Value} (hd : decode c.code g.pc = .ok (.l2i, 1)) (hs : g.stack = .long x :: rest) (hv : x.toInt32 = v)
    (hr : Steps tb e below (T.setTop { g with pc := g.pc + 1, stack := .int v :: rest }) target) : Steps tb e below (T.setTop g) target := by
  subst hv
  exact XS.l2i h hx hg hd hs hr
theorem i2b {tb : Tables} [Ours tb] {e : Env} {below : List Frame} {T target : State} {m : MethodId} {c : Code} {g : JFrame} (h : At T m c below) (hx : tb.exec = Jvm.exec) (hg : g.method = m) {x : Int32} {v : Int32} {rest : List Value} (hd : decode c.code g.pc = .ok (.i2b, 1)) (hs : g.stack = .int x :: rest) (hv : x.toInt8.toInt32 = v)
    (hr : Steps tb e below (T.setTop { g with pc := g.pc + 1, stack := .int v :: rest }) target) : Steps tb e below (T.setTop g) target := by
  subst hv
  exact XS.i2b h hx hg hd hs hr
theorem i2s {tb : Tables} [Ours tb] {e : Env} {below : List Frame} {T target : State} {m : MethodId} {c : Code} {g : JFrame} (h : At T m c below) (hx : tb.exec = Jvm.exec) (hg : g.method = m) {x : Int32} {v : Int32} {rest : List Value} (hd : decode c.code g.pc = .ok (.i2s, 1)) (hs : g.stack = .int x :: rest) (hv : x.toInt16.toInt32 = v)
    (hr : Steps tb e below (T.setTop { g with pc := g.pc + 1, stack := .int v :: rest }) target) : Steps tb e below (T.setTop g) target := by
  subst hv
  exact XS.i2s h hx hg hd hs hr
theorem dadd {tb : Tables} [Ours tb] {e : Env} {below : List Frame} {T target : State} {m : MethodId} {c : Code} {g : JFrame} (h : At T m c below) (hx : tb.exec = Jvm.exec) (hg : g.method = m) {x y v : UInt64} {rest : List Value} (hd : decode c.code g.pc = .ok (.dadd, 1)) (hs : g.stack = .double y :: .double x :: rest) (hv : FP.dadd x y = v) (hn : Jvm.Free.Fl.NoNaN64 v)
    (hr : Steps tb e below (T.setTop { g with pc := g.pc + 1, stack := .double v :: rest }) target) : Steps tb e below (T.setTop g) target := by
  subst hv
  exact XS.daddS h hx hg hd hs hn rfl hr
theorem dsub {tb : Tables} [Ours tb] {e : Env} {below : List Frame} {T target : State} {m : MethodId} {c : Code} {g : JFrame} (h : At T m c below) (hx : tb.exec = Jvm.exec) (hg : g.method = m) {x y v : UInt64} {rest : List Value} (hd : decode c.code g.pc = .ok (.dsub, 1)) (hs : g.stack = .double y :: .double x :: rest) (hv : FP.dsub x y = v) (hn : Jvm.Free.Fl.NoNaN64 v)
    (hr : Steps tb e below (T.setTop { g with pc := g.pc + 1, stack := .double v :: rest }) target) : Steps tb e below (T.setTop g) target := by
  subst hv
  exact XS.dsubS h hx hg hd hs hn rfl hr
theorem dmul {tb : Tables} [Ours tb] {e : Env} {below : List Frame} {T target : State} {m : MethodId} {c : Code} {g : JFrame} (h : At T m c below) (hx : tb.exec = Jvm.exec) (hg : g.method = m) {x y v : UInt64} {rest : List Value} (hd : decode c.code g.pc = .ok (.dmul, 1)) (hs : g.stack = .double y :: .double x :: rest) (hv : FP.dmul x y = v) (hn : Jvm.Free.Fl.NoNaN64 v)
    (hr : Steps tb e below (T.setTop { g with pc := g.pc + 1, stack := .double v :: rest }) target) : Steps tb e below (T.setTop g) target := by
  subst hv
  exact XS.dmulS h hx hg hd hs hn rfl hr
theorem ddiv {tb : Tables} [Ours tb] {e : Env} {below : List Frame} {T target : State} {m : MethodId} {c : Code} {g : JFrame} (h : At T m c below) (hx : tb.exec = Jvm.exec) (hg : g.method = m) {x y v : UInt64} {rest : List Value} (hd : decode c.code g.pc = .ok (.ddiv, 1)) (hs : g.stack = .double y :: .double x :: rest) (hv : FP.ddiv x y = v) (hn : Jvm.Free.Fl.NoNaN64 v)
    (hr : Steps tb e below (T.setTop { g with pc := g.pc + 1, stack := .double v :: rest }) target) : Steps tb e below (T.setTop g) target := by
  subst hv
  exact XS.ddivS h hx hg hd hs hn rfl hr
theorem drem {tb : Tables} [Ours tb] {e : Env} {below : List Frame} {T target : State} {m : MethodId} {c : Code} {g : JFrame} (h : At T m c below) (hx : tb.exec = Jvm.exec) (hg : g.method = m) {x y v : UInt64} {rest : List Value} (hd : decode c.code g.pc = .ok (.drem, 1)) (hs : g.stack = .double y :: .double x :: rest) (hv : FP.drem x y = v) (hn : Jvm.Free.Fl.NoNaN64 v)
    (hr : Steps tb e below (T.setTop { g with pc := g.pc + 1, stack := .double v :: rest }) target) : Steps tb e below (T.setTop g) target := by
  subst hg
  subst hv
  obtain ⟨gm, gp, gl, gs, gk, ge, gr⟩ := g
  simp only at hs hd
  subst hs
  jvm_step h [h.top, hx, hd, Op.drem.at_number h.top hn]
  exact hr
theorem lcmp {tb : Tables} [Ours tb] {e : Env} {below : List Frame} {T target : State} {m : MethodId} {c : Code} {g : JFrame} (h : At T m c below) (hx : tb.exec = Jvm.exec) (hg : g.method = m) {x y : Int64} {v : Int32} {rest : List Value} (hd : decode c.code g.pc = .ok (.lcmp, 1)) (hs : g.stack = .long y :: .long x :: rest) (hv : lcmpW x y = v)
    (hr : Steps tb e below (T.setTop { g with pc := g.pc + 1, stack := .int v :: rest }) target) : Steps tb e below (T.setTop g) target := by
  subst hv
  exact XS.lcmp h hx hg hd hs hr
theorem iinc {tb : Tables} [Ours tb] {e : Env} {below : List Frame} {T target : State} {m : MethodId} {c : Code} {g : JFrame} (h : At T m c below) (hx : tb.exec = Jvm.exec) (hg : g.method = m) {k : Nat} {cst : Int} {x v : Int32} {l' : Array Slot} (hd : decode c.code g.pc = .ok (.iinc k cst, 3)) (hl : g.locals[k]? = some (.val (.int x))) (hv : x + Int32.ofInt cst = v) (hl' : storeLocals g.locals k (.int v) = some l')
    (hr : Steps tb e below (T.setTop { g with pc := g.pc + 3, locals := l' }) target) : Steps tb e below (T.setTop g) target := by
  subst hv
  exact XS.iinc h hx hg hd hl hl' hr
theorem dup2 {tb : Tables} [Ours tb] {e : Env} {below : List Frame} {T target : State} {m : MethodId} {c : Code} {g : JFrame} (h : At T m c below) (hx : tb.exec = Jvm.exec) (hg : g.method = m) {x y : Value} {rest : List Value} (hd : decode c.code g.pc = .ok (.dup2, 1)) (hs : g.stack = x :: y :: rest) (hc : x.category = 1) (hc' : y.category = 1)
    (hr : Steps tb e below (T.setTop { g with pc := g.pc + 1, stack := x :: y :: x :: y :: rest }) target) : Steps tb e below (T.setTop g) target := Jvm.Free.XT.dup2 h hx hg hd hs hc hc' hr
theorem dup2W {tb : Tables} [Ours tb] {e : Env} {below : List Frame} {T target : State} {m : MethodId} {c : Code} {g : JFrame} (h : At T m c below) (hx : tb.exec = Jvm.exec) (hg : g.method = m) {x : Value} {rest : List Value} (hd : decode c.code g.pc = .ok (.dup2, 1)) (hs : g.stack = x :: rest) (hc : x.category = 2)
    (hr : Steps tb e below (T.setTop { g with pc := g.pc + 1, stack := x :: x :: rest }) target) : Steps tb e below (T.setTop g) target := by
  subst hg
  jvm_step h [h.top, hx, hd, hs, hc]
  exact hr
theorem Sta_keep {Z : State} {h h' : Heap} {C n d : String} {w : Value} {ws : List Addr} (F : Sta Z h C n d w) (K : Keep h h' ws) (hn : ∀ x ∈ ws, ∀ cell : Cell, h[x]? = some cell → cell.vm.isStatics = false) : Sta Z h' C n d w := by
  obtain ⟨cf, i, k, f, st, cell, h1, h2, h3, h4, h5, h6, h7⟩ := F
  refine ⟨cf, i, k, f, st, cell, h1, h2, h3, h4, K.2.1 st cell h5 (fun q => ?_), h6, h7⟩
  rw [hn st q cell h5] at h6; cases h6
end Jvm.OwnK
namespace Jvm.OwnF
open Jvm.FP Jvm.FP.Core
/-! doubles as whole numbers of units of 2^-1074 -/
def V (a : UInt64) : Int := zval b64 (val64 a)
def BIG : Nat := 2 ^ 2000
/-- the rounding of n / d, in units -/
def rnd (n : Int) (d : Nat) : Int := zval b64 (roundRatio b64 (decide (n < 0)) n.natAbs d (-1074))
theorem zval_zero (s : Bool) (d : Nat) (e : Int) : zval b64 (roundRatio b64 s 0 d e) = 0 := by
  unfold roundRatio
  rw [if_pos rfl]
  show signed s (0 * 2 ^ (b64.qmin - b64.qmin).toNat) = 0
  rw [Nat.zero_mul, signed_zero]
theorem rnd_signed (s : Bool) (N d : Nat) : zval b64 (roundRatio b64 s N d (-1074)) = rnd (signed s N) d := by
  unfold rnd
  rw [natAbs_signed]
  by_cases h : N = 0
  · subst h; rw [zval_zero, zval_zero]
  · rw [signed_lt_zero s (by omega)]
theorem signed_natAbs (n : Int) : signed (decide (n < 0)) n.natAbs = n := by
  unfold signed
  by_cases h : n < 0 <;> simp [h] <;> omega
theorem bigV : Jvm.FP.Core.fits b64 (.fin false (2 ^ 52) 874) := by refine ⟨?_, ?_, ?_, ?_⟩ <;> decide
theorem bigZ : zmag b64 (.fin false (2 ^ 52) 874) = BIG := by
  show 2 ^ 52 * 2 ^ (874 - b64.qmin).toNat = 2 ^ 2000
  rw [qmin_b64, show (874 - (-1074) : Int).toNat = 1948 from rfl, ← Nat.pow_add]
theorem big_lt : BIG < b64.tails * 2 ^ (b64.exps - 2) := by
  rw [tails_b64, show b64.exps - 2 = 2046 by decide, ← Nat.pow_add]
  exact Nat.pow_lt_pow_right (by decide) (by decide)
theorem un0 (A : Nat) : inUnits A (-1074) (-1074) = A := by unfold inUnits; simp
theorem round_le_big {s : Bool} {A B : Nat} (hB : 0 < B) (h : A ≤ BIG * B) : zmag b64 (roundRatio b64 s A B (-1074)) ≤ BIG := by
  have := zmag_roundRatio_le good_b64 (s := s) (A := A) (B := B) (e := -1074) (e0 := -1074) hB bigV Datum.noConfusion (by rw [qmin_b64]; decide) (by decide) (by rw [bigZ, un0, qmin_b64]; simpa using h)
  rwa [bigZ] at this
theorem fin_round {s : Bool} {A B : Nat} (hB : 0 < B) (h : A ≤ BIG * B) : ∃ c q, roundRatio b64 s A B (-1074) = .fin s c q := by
  rcases roundRatio_cases b64 s A B (-1074) with h1 | h1
  · exact h1
  · exfalso
    have h2 := round_le_big (s := s) hB h
    rw [h1] at h2
    have h3 : zmag b64 (.inf s) = b64.tails * 2 ^ (b64.exps - 2) := rfl
    have := big_lt
    omega
theorem noNaN_fin {a : UInt64} (h : DFin a) : Jvm.Free.Fl.NoNaN64 a := by
  rw [Jvm.Free.Fl.val64_no]; obtain ⟨s, c, q, e⟩ := h; rw [e]; exact Datum.noConfusion
theorem V_dadd {a b : UInt64} (ha : DFin a) (hb : DFin b) (h : (V a + V b).natAbs ≤ BIG) : DFin (FP.dadd a b) ∧ V (FP.dadd a b) = rnd (V a + V b) 1 := by
  obtain ⟨s, c, q, ea⟩ := ha
  obtain ⟨t, d, r, eb⟩ := hb
  have fa : Jvm.FP.Core.fits b64 (.fin s c q) := ea ▸ val64_fits a
  have fb : Jvm.FP.Core.fits b64 (.fin t d r) := eb ▸ val64_fits b
  obtain ⟨sg, n, e, p1, p2, p3⟩ := sum_units fa fb
  rw [qmin_b64] at p2 p3
  have hv : val64 (FP.dadd a b) = roundRatio b64 sg (inUnits n e (-1074)) 1 (-1074) := by
    rw [show FP.dadd a b = Core.dadd a b from rfl, val64_dadd, ea, eb, p1]
    show roundRatio b64 sg n 1 e = _
    refine roundRatio_congr (by decide) (by decide) ?_
    rw [show (-1074 - e).toNat = 0 by omega]
    unfold inUnits; simp
  have hS : signed sg (inUnits n e (-1074)) = V a + V b := by unfold V; rw [ea, eb]; exact p3
  have hN : inUnits n e (-1074) = (V a + V b).natAbs := by rw [← hS, natAbs_signed]
  obtain ⟨c', q', hh⟩ := fin_round (s := sg) (A := inUnits n e (-1074)) (B := 1) (by decide) (by rw [Nat.mul_one, hN]; exact h)
  refine ⟨⟨sg, c', q', hv.trans hh⟩, ?_⟩
  show zval b64 (val64 (FP.dadd a b)) = _
  rw [hv, rnd_signed, hS]
theorem V_neg (a : UInt64) : V (Core.dneg a) = -V a := by unfold V; rw [Core.val64_dneg, zval_negate]
theorem fin_neg {a : UInt64} (h : DFin a) : DFin (Core.dneg a) := by
  obtain ⟨s, c, q, e⟩ := h
  exact ⟨!s, c, q, by rw [Core.val64_dneg, e]; rfl⟩
theorem V_dsub {a b : UInt64} (ha : DFin a) (hb : DFin b) (h : (V a - V b).natAbs ≤ BIG) : DFin (FP.dsub a b) ∧ V (FP.dsub a b) = rnd (V a - V b) 1 := by
  have e : FP.dsub a b = FP.dadd a (Core.dneg b) := dsub_eq a b
  rw [e]
  have := V_dadd ha (fin_neg hb) (by rw [V_neg]; exact h)
  rw [V_neg] at this
  exact this
theorem zmag_V (a : UInt64) : zmag b64 (val64 a) = (V a).natAbs := by unfold V zval; rw [natAbs_signed]
theorem V_dmul {a b : UInt64} (ha : DFin a) (hb : DFin b) (h : (V a * V b).natAbs ≤ BIG * one64) : DFin (FP.dmul a b) ∧ V (FP.dmul a b) = rnd (V a * V b) one64 := by
  have za := zmag_V a
  have zb := zmag_V b
  obtain ⟨s, c, q, ea⟩ := ha
  obtain ⟨t, d, r, eb⟩ := hb
  have fa : Jvm.FP.Core.fits b64 (.fin s c q) := ea ▸ val64_fits a
  have fb : Jvm.FP.Core.fits b64 (.fin t d r) := eb ▸ val64_fits b
  obtain ⟨p1, p2, p3⟩ := product_units fa fb
  rw [← ea, ← eb, za, zb, ← Int.natAbs_mul] at p3
  rw [qmin_b64] at p2 p3
  have hv : val64 (FP.dmul a b) = roundRatio b64 (s != t) (V a * V b).natAbs one64 (-1074) := by
    rw [show FP.dmul a b = Core.dmul a b from rfl, val64_dmul, ea, eb, p1]
    show roundRatio b64 (s != t) (c * d) 1 (q + r) = _
    refine roundRatio_congr (by decide) one64_pos ?_
    rw [← p3]
    unfold inUnits one64
    rw [Nat.mul_one, Nat.mul_assoc (c * d), Nat.mul_assoc (c * d), ← Nat.pow_add, ← Nat.pow_add]
    congr 2
    omega
  have hS : signed (s != t) (V a * V b).natAbs = V a * V b := by
    rw [Int.natAbs_mul, signed_xor, ← za, ← zb]
    unfold V zval
    rw [ea, eb]
    rfl
  obtain ⟨c', q', hh⟩ := fin_round (s := s != t) (A := (V a * V b).natAbs) (B := one64) one64_pos h
  refine ⟨⟨_, c', q', hv.trans hh⟩, ?_⟩
  show zval b64 (val64 (FP.dmul a b)) = _
  rw [hv, rnd_signed, hS]
theorem pw2 (c d x y : Nat) : c * (d * 2 ^ x) * 2 ^ y = c * d * 2 ^ (x + y) := by rw [Nat.pow_add]; ac_rfl
theorem pw3 (c d x y z : Nat) : c * 2 ^ x * 2 ^ y * d * 2 ^ z = c * d * 2 ^ (x + y + z) := by rw [Nat.pow_add, Nat.pow_add]; ac_rfl
theorem V_ddiv {a b : UInt64} (ha : DFin a) (hb : DFin b) (h0 : V b ≠ 0) (h : (V a).natAbs * one64 ≤ BIG * (V b).natAbs) : DFin (FP.ddiv a b) ∧ V (FP.ddiv a b) = rnd (V a * (one64 : Int) * (V b).sign) (V b).natAbs := by
  have za := zmag_V a
  have zb := zmag_V b
  have sb : (V b).sign = signed (sgn (val64 b)) 1 := by
    unfold V zval at h0 ⊢
    cases hsg : sgn (val64 b) <;> rw [hsg] at h0 <;> simp only [signed, if_true, Bool.false_eq_true, if_false] at h0 ⊢
    · exact Int.sign_eq_one_of_pos (by omega)
    · exact Int.sign_eq_neg_one_of_neg (by omega)
  obtain ⟨s, c, q, ea⟩ := ha
  obtain ⟨t, d, r, eb⟩ := hb
  have fa : Jvm.FP.Core.fits b64 (.fin s c q) := ea ▸ val64_fits a
  have fb : Jvm.FP.Core.fits b64 (.fin t d r) := eb ▸ val64_fits b
  have hq1 := fa.2.1
  have hr1 := fb.2.1
  rw [qmin_b64] at hq1 hr1
  have ma : (V a).natAbs = c * 2 ^ (q - (-1074)).toNat := by rw [← za, ea]; show inUnits c q b64.qmin = _; rw [qmin_b64]; rfl
  have mb : (V b).natAbs = d * 2 ^ (r - (-1074)).toNat := by rw [← zb, eb]; show inUnits d r b64.qmin = _; rw [qmin_b64]; rfl
  have hd0 : d ≠ 0 := by
    rintro rfl
    rw [Nat.zero_mul] at mb; omega
  have hBp : 0 < (V b).natAbs := by omega
  have hv : val64 (FP.ddiv a b) = roundRatio b64 (s != t) ((V a).natAbs * one64) (V b).natAbs (-1074) := by
    rw [show FP.ddiv a b = Core.ddiv a b from rfl, val64_ddiv, ea, eb]
    simp only [quotient, if_neg hd0]
    refine roundRatio_congr (by omega) hBp ?_
    rw [ma, mb]
    unfold one64
    rw [pw2, pw3]
    congr 2
    omega
  have hS : signed (s != t) ((V a).natAbs * one64) = V a * (one64 : Int) * (V b).sign := by
    rw [sb, eb]
    show _ = _ * signed t 1
    have : signed (s != t) ((V a).natAbs * one64 * 1) = signed s ((V a).natAbs * one64) * signed t 1 := signed_xor s t _ 1
    rw [Nat.mul_one] at this
    rw [this, signed_mul]
    congr 2
    rw [← za]
    unfold V zval
    rw [ea]
    rfl
  obtain ⟨c', q', hh⟩ := fin_round (s := s != t) (A := (V a).natAbs * one64) (B := (V b).natAbs) hBp h
  refine ⟨⟨_, c', q', hv.trans hh⟩, ?_⟩
  show zval b64 (val64 (FP.ddiv a b)) = _
  rw [hv, rnd_signed, hS]
theorem V_of_int {a : UInt64} {n : Int} (ha : val64 a = round b64 (ofInt n)) (h : n.natAbs ≤ 2 ^ 64) : DFin a ∧ V a = rnd (n * (one64 : Int)) 1 := by
  have hv : val64 a = roundRatio b64 (decide (n < 0)) (n.natAbs * one64) 1 (-1074) := by
    rw [ha]
    show roundRatio b64 (decide (n < 0)) n.natAbs 1 0 = _
    refine roundRatio_congr (by decide) (by decide) ?_
    unfold one64
    rw [show (0 - (-1074) : Int).toNat = 1074 from rfl, show (-1074 - 0 : Int).toNat = 0 from rfl]
    simp
  have hS : signed (decide (n < 0)) (n.natAbs * one64) = n * (one64 : Int) := by rw [signed_mul, signed_natAbs]
  have hB : n.natAbs * one64 ≤ BIG := by
    refine Nat.le_trans (Nat.mul_le_mul_right _ h) ?_
    unfold one64 BIG
    rw [← Nat.pow_add]
    exact Nat.pow_le_pow_right (by decide) (by decide)
  obtain ⟨c', q', hh⟩ := fin_round (s := decide (n < 0)) (A := n.natAbs * one64) (B := 1) (by decide) (by rw [Nat.mul_one]; exact hB)
  refine ⟨⟨_, c', q', hv.trans hh⟩, ?_⟩
  show zval b64 (val64 a) = _
  rw [hv, rnd_signed, hS]
theorem V_l2d (n : Int64) : DFin (FP.l2d n) ∧ V (FP.l2d n) = rnd (n.toInt * (one64 : Int)) 1 :=
  V_of_int (val64_l2d n) (Nat.le_trans (int64_abs n) (by decide))
theorem V_i2d (n : Int32) : DFin (FP.i2d n) ∧ V (FP.i2d n) = rnd (n.toInt * (one64 : Int)) 1 :=
  V_of_int (val64_i2d n) (Nat.le_trans (int32_abs n) (by decide))
theorem V_drem {a b : UInt64} (ha : DFin a) (hb : DFin b) (h0 : V b ≠ 0) : DFin (FP.drem a b) ∧ V (FP.drem a b) = (V a).tmod (V b) := by
  have za := zmag_V a
  have zb := zmag_V b
  obtain ⟨s, c, q, ea⟩ := ha
  obtain ⟨t, d, r, eb⟩ := hb
  have fa : Jvm.FP.Core.fits b64 (.fin s c q) := ea ▸ val64_fits a
  have fb : Jvm.FP.Core.fits b64 (.fin t d r) := eb ▸ val64_fits b
  have hd0 : d ≠ 0 := by
    rintro rfl
    rw [eb] at zb
    have : zmag b64 (.fin t 0 r) = 0 := Nat.zero_mul _
    omega
  obtain ⟨c', q', h1, h2⟩ := remainder_exact good_b64 fa fb hd0
  have hv : val64 (FP.drem a b) = .fin s c' q' := by rw [show FP.drem a b = Core.drem a b from rfl, val64_drem, ea, eb, h1]
  refine ⟨⟨_, _, _, hv⟩, ?_⟩
  have h3 : zmag b64 (.fin s c' q') = (V a).natAbs % (V b).natAbs := by rw [← za, ← zb, ea, eb]; exact h2
  have hVa : V a = signed s (V a).natAbs := by rw [← za]; unfold V zval; rw [ea]; rfl
  show zval b64 (val64 (FP.drem a b)) = _
  rw [hv]
  show signed s (zmag b64 (.fin s c' q')) = _
  rw [h3]
  have hb2 : ∀ x : Int, x.tmod (V b) = x.tmod ((V b).natAbs : Int) := by
    intro x
    rcases Int.natAbs_eq (V b) with e | e
    · rw [← e]
    · rw [e, Int.tmod_neg]; simp
  rw [hb2]
  generalize (V b).natAbs = B at *
  generalize (V a).natAbs = A at *
  rw [hVa]
  cases s <;> simp [signed] <;> exact (Int.tmod_eq_emod_of_nonneg (Int.natCast_nonneg A)).symm
theorem cmp_V {a b : UInt64} (ha : DFin a) (hb : DFin b) : FP.dcmp a b = some (compare (V a) (V b)) := by
  obtain ⟨s, c, q, ea⟩ := ha
  obtain ⟨t, d, r, eb⟩ := hb
  exact dcmp_zval (by rw [ea]; exact Datum.noConfusion) (by rw [eb]; exact Datum.noConfusion)
/-! the rounding -/
theorem rnd_congr {n n' : Int} {d d' : Nat} (hd : 0 < d) (hd' : 0 < d') (h : n * (d' : Int) = n' * (d : Int)) : rnd n d = rnd n' d' := by
  have hs : (n < 0) ↔ (n' < 0) := by
    have p1 : (0 : Int) < d := by omega
    have p2 : (0 : Int) < d' := by omega
    constructor
    · intro q
      have := Int.mul_neg_of_neg_of_pos q p2
      refine Int.lt_of_not_ge fun q' => ?_
      have := Int.mul_nonneg q' (Int.le_of_lt p1)
      omega
    · intro q
      have := Int.mul_neg_of_neg_of_pos q p1
      refine Int.lt_of_not_ge fun q' => ?_
      have := Int.mul_nonneg q' (Int.le_of_lt p2)
      omega
  have hm : n.natAbs * d' = n'.natAbs * d := by
    have := congrArg Int.natAbs h
    rwa [Int.natAbs_mul, Int.natAbs_mul, Int.natAbs_natCast, Int.natAbs_natCast] at this
  unfold rnd
  rw [show decide (n < 0) = decide (n' < 0) from decide_eq_decide.mpr hs]
  congr 1
  exact roundRatio_congr hd hd' (by simpa using hm)
/-- at most 53 binary digits -/
def Rep (r : Int) : Prop := ∃ (m : Int) (e : Nat), r = m * ((2 ^ e : Nat) : Int) ∧ m.natAbs < 2 ^ 53 ∧ e ≤ 2045
theorem rnd_exact {n : Int} {d : Nat} {r : Int} (hd : 0 < d) (h : n = r * (d : Int)) (hr : Rep r) : rnd n d = r := by
  rw [rnd_congr (n' := r) (d' := 1) hd (by decide) (by rw [h]; simp)]
  obtain ⟨m, e, rfl, hm, he⟩ := hr
  have hsg : ∀ k : Nat, signed (decide (m < 0)) (m.natAbs * k) = m * (k : Int) := fun k => by rw [signed_mul, signed_natAbs]
  have h1 : rnd (m * ((2 ^ e : Nat) : Int)) 1 = zval b64 (roundRatio b64 (decide (m < 0)) (m.natAbs * 2 ^ e) 1 (-1074)) := by rw [rnd_signed, hsg]
  rw [h1]
  obtain ⟨c', q', h2, h3⟩ := round_exact good_b64 (decide (m < 0)) (c := m.natAbs) (q := (e : Int) - 1074) hm (by rw [qmin_b64]; omega) (by rw [show b64.qmax = 971 by decide]; omega)
  have h4 : roundRatio b64 (decide (m < 0)) (m.natAbs * 2 ^ e) 1 (-1074) = roundRatio b64 (decide (m < 0)) m.natAbs 1 ((e : Int) - 1074) := by
    refine roundRatio_congr (by decide) (by decide) ?_
    rw [show (-1074 - ((e : Int) - 1074)).toNat = 0 by omega, show ((e : Int) - 1074 - -1074).toNat = e by omega]
    simp
  rw [h4]
  have h5 : roundRatio b64 (decide (m < 0)) m.natAbs 1 ((e : Int) - 1074) = .fin (decide (m < 0)) c' q' := h2
  rw [h5]
  show signed _ (inUnits c' q' b64.qmin) = _
  rw [h3, ← hsg]
  unfold inUnits
  rw [qmin_b64, show ((e : Int) - 1074 - -1074).toNat = e by omega]
  rfl
theorem rep_V {a : UInt64} (ha : DFin a) : Rep (V a) := by
  obtain ⟨s, c, q, ea⟩ := ha
  have fa : Jvm.FP.Core.fits b64 (.fin s c q) := ea ▸ val64_fits a
  obtain ⟨h1, h2, h3, -⟩ := fa
  rw [qmin_b64] at h2
  rw [show b64.qmax = 971 by decide] at h3
  refine ⟨signed s c, (q - (-1074)).toNat, ?_, by rw [natAbs_signed]; exact h1, by omega⟩
  unfold V zval
  rw [ea]
  show signed s (c * 2 ^ (q - b64.qmin).toNat) = _
  rw [signed_mul, qmin_b64]
theorem V_le {a : UInt64} : (V a).natAbs ≤ (V a).natAbs := Nat.le_refl _
end Jvm.OwnF
namespace Jvm.OwnF
open Jvm.FP Jvm.FP.Core
/-! exact values: a is n / 2^k -/
def R53 (n : Int) : Prop := ∃ (m : Int) (e : Nat), n = m * ((2 ^ e : Nat) : Int) ∧ m.natAbs ≤ 2 ^ 53 ∧ e ≤ 800
def DV (n : Int) (k : Nat) (a : UInt64) : Prop := DFin a ∧ k ≤ 1074 ∧ V a = n * ((2 ^ (1074 - k) : Nat) : Int)
theorem r53 {n : Int} (h : n.natAbs ≤ 2 ^ 53) : R53 n := ⟨n, 0, by simp, h, by decide⟩
theorem rep_of {m : Int} {e : Nat} (hm : m.natAbs ≤ 2 ^ 53) (he : e ≤ 1900) : Rep (m * ((2 ^ e : Nat) : Int)) := by
  by_cases h : m.natAbs < 2 ^ 53
  · exact ⟨m, e, rfl, h, by omega⟩
  · refine ⟨m.sign, e + 53, ?_, ?_, by omega⟩
    · have h1 : m.natAbs = 2 ^ 53 := by omega
      have h2 : m = m.sign * (m.natAbs : Int) := (Int.sign_mul_natAbs m).symm
      conv => lhs; rw [h2, h1]
      rw [Nat.pow_add, Int.natCast_mul, Int.mul_assoc]
      congr 1
      rw [Int.mul_comm]
    · have : m.sign.natAbs ≤ 1 := by
        rcases Int.lt_trichotomy m 0 with q | q | q
        · rw [Int.sign_eq_neg_one_of_neg q]; decide
        · rw [q]; decide
        · rw [Int.sign_eq_one_of_pos q]; decide
      omega
theorem rep_R {n : Int} (h : R53 n) {k : Nat} (hk : k ≤ 1074) : Rep (n * ((2 ^ k : Nat) : Int)) := by
  obtain ⟨m, e, rfl, hm, he⟩ := h
  rw [Int.mul_assoc, ← Int.natCast_mul, ← Nat.pow_add]
  exact rep_of hm (by omega)
theorem big_R {n : Int} (h : R53 n) {k : Nat} (hk : k ≤ 1074) : (n * ((2 ^ k : Nat) : Int)).natAbs ≤ BIG := by
  obtain ⟨m, e, rfl, hm, he⟩ := h
  rw [Int.natAbs_mul, Int.natAbs_mul, Int.natAbs_natCast, Int.natAbs_natCast, Nat.mul_assoc, ← Nat.pow_add]
  refine Nat.le_trans (Nat.mul_le_mul_right _ hm) ?_
  unfold BIG
  rw [← Nat.pow_add]
  exact Nat.pow_le_pow_right (by decide) (by omega)
theorem DV.fin {n : Int} {k : Nat} {a : UInt64} (h : DV n k a) : DFin a := h.1
theorem DV.nn {n : Int} {k : Nat} {a : UInt64} (h : DV n k a) : Jvm.Free.Fl.NoNaN64 a := noNaN_fin h.1
theorem DV.of_eq {n m : Int} {k : Nat} {a : UInt64} (h : DV n k a) (e : n = m) : DV m k a := e ▸ h
theorem DV.up {n : Int} {k : Nat} {a : UInt64} (h : DV n k a) (j : Nat) (hj : k + j ≤ 1074) : DV (n * ((2 ^ j : Nat) : Int)) (k + j) a := by
  refine ⟨h.1, hj, ?_⟩
  rw [h.2.2, Int.mul_assoc, ← Int.natCast_mul, ← Nat.pow_add]
  congr 4
  omega
theorem DV.down {n : Int} {k j : Nat} {a : UInt64} (h : DV (n * ((2 ^ j : Nat) : Int)) (k + j) a) : DV n k a := by
  refine ⟨h.1, by have := h.2.1; omega, ?_⟩
  rw [h.2.2, Int.mul_assoc, ← Int.natCast_mul, ← Nat.pow_add]
  congr 4
  have := h.2.1; omega
theorem DV_of_V {n : Int} {k : Nat} {a : UInt64} (hf : DFin a) (hk : k ≤ 1074) (hn : R53 n) (h : V a = rnd (n * ((2 ^ (1074 - k) : Nat) : Int)) 1) : DV n k a :=
  ⟨hf, hk, by rw [h]; exact rnd_exact (by decide) (by simp) (rep_R hn (by omega))⟩
theorem DV_add {n m : Int} {k : Nat} {a b : UInt64} (ha : DV n k a) (hb : DV m k b) (h : R53 (n + m)) : DV (n + m) k (FP.dadd a b) := by
  have e : V a + V b = (n + m) * ((2 ^ (1074 - k) : Nat) : Int) := by rw [ha.2.2, hb.2.2, Int.add_mul]
  obtain ⟨h1, h2⟩ := V_dadd ha.1 hb.1 (by rw [e]; exact big_R h (by omega))
  exact DV_of_V h1 ha.2.1 h (by rw [h2, e])
theorem DV_sub {n m : Int} {k : Nat} {a b : UInt64} (ha : DV n k a) (hb : DV m k b) (h : R53 (n - m)) : DV (n - m) k (FP.dsub a b) := by
  have e : V a - V b = (n - m) * ((2 ^ (1074 - k) : Nat) : Int) := by rw [ha.2.2, hb.2.2, Int.sub_mul]
  obtain ⟨h1, h2⟩ := V_dsub ha.1 hb.1 (by rw [e]; exact big_R h (by omega))
  exact DV_of_V h1 ha.2.1 h (by rw [h2, e])
theorem DV_mul {n m : Int} {k j : Nat} {a b : UInt64} (ha : DV n k a) (hb : DV m j b) (hkj : k + j ≤ 1074) (h : R53 (n * m)) : DV (n * m) (k + j) (FP.dmul a b) := by
  have e : V a * V b = (n * m) * ((2 ^ (1074 - (k + j)) : Nat) : Int) * (one64 : Int) := by
    rw [ha.2.2, hb.2.2]
    have : ((2 ^ (1074 - (k + j)) : Nat) : Int) * (one64 : Int) = ((2 ^ (1074 - k) : Nat) : Int) * ((2 ^ (1074 - j) : Nat) : Int) := by
      rw [← Int.natCast_mul, ← Int.natCast_mul]
      unfold one64
      rw [← Nat.pow_add, ← Nat.pow_add]
      congr 2
      have := ha.2.1; have := hb.2.1; omega
    rw [Int.mul_assoc (n * m), this]
    ac_rfl
  obtain ⟨h1, h2⟩ := V_dmul ha.1 hb.1 (by
    rw [e, Int.natAbs_mul, Int.natAbs_natCast]
    exact Nat.mul_le_mul_right _ (big_R h (by omega)))
  refine ⟨h1, hkj, ?_⟩
  rw [h2]
  exact rnd_exact one64_pos e (rep_R h (by omega))
theorem divalg {n c m P Q X U I J : Int} (h : n * P = c * m * Q) (e2 : X * Q = U) (e3 : I * J * P = U * U) : n * X * U * (Q * P) = c * I * (m * J) * (Q * P) := by
  have l : n * X * U * (Q * P) = (n * P) * (X * Q) * U := by ac_rfl
  have r : c * I * (m * J) * (Q * P) = c * m * Q * (I * J * P) := by ac_rfl
  rw [l, r, h, e2, e3, Int.mul_assoc (c * m * Q)]
theorem DV_div {n m c : Int} {k j i : Nat} {a b : UInt64} (ha : DV n k a) (hb : DV m j b) (hi : i ≤ 1074) (hm : m ≠ 0) (hc : R53 c) (h : n * ((2 ^ (j + i) : Nat) : Int) = c * m * ((2 ^ k : Nat) : Int)) : DV c i (FP.ddiv a b) := by
  have hb0 : V b ≠ 0 := by
    rw [hb.2.2]
    intro q
    rcases Int.mul_eq_zero.mp q with q | q
    · exact hm q
    · have := Nat.two_pow_pos (1074 - j); omega
  have hk := ha.2.1
  have hj := hb.2.1
  -- V a * U = (c * 2^(1074 - i)) * V b
  have e : V a * (one64 : Int) = c * ((2 ^ (1074 - i) : Nat) : Int) * V b := by
    have pp : ((2 ^ (k + j + i) : Nat) : Int) ≠ 0 := by have := Nat.two_pow_pos (k + j + i); omega
    refine Int.eq_of_mul_eq_mul_right pp ?_
    rw [ha.2.2, hb.2.2]
    have e1 : ((2 ^ (k + j + i) : Nat) : Int) = ((2 ^ k : Nat) : Int) * ((2 ^ (j + i) : Nat) : Int) := by rw [← Int.natCast_mul, ← Nat.pow_add, Nat.add_assoc]
    have e2 : ((2 ^ (1074 - k) : Nat) : Int) * ((2 ^ k : Nat) : Int) = (one64 : Int) := by rw [← Int.natCast_mul, ← Nat.pow_add, Nat.sub_add_cancel hk]; rfl
    have e3 : ((2 ^ (1074 - i) : Nat) : Int) * ((2 ^ (1074 - j) : Nat) : Int) * ((2 ^ (j + i) : Nat) : Int) = (one64 : Int) * (one64 : Int) := by
      rw [← Int.natCast_mul, ← Int.natCast_mul, ← Int.natCast_mul]
      unfold one64
      rw [← Nat.pow_add, ← Nat.pow_add, ← Nat.pow_add]
      congr 2
      omega
    rw [e1]
    exact divalg h e2 e3
  have ea : (V a).natAbs * one64 = (c * ((2 ^ (1074 - i) : Nat) : Int)).natAbs * (V b).natAbs := by
    have := congrArg Int.natAbs e
    rwa [Int.natAbs_mul, Int.natAbs_mul, Int.natAbs_natCast] at this
  obtain ⟨h1, h2⟩ := V_ddiv ha.1 hb.1 hb0 (by rw [ea]; exact Nat.mul_le_mul_right _ (big_R hc (by omega)))
  refine ⟨h1, hi, ?_⟩
  rw [h2]
  refine rnd_exact (by omega) ?_ (rep_R hc (by omega))
  rw [e, Int.mul_assoc, Int.mul_sign_self]
theorem DV_l2d {n : Int64} (h : R53 n.toInt) : DV n.toInt 0 (FP.l2d n) := by
  obtain ⟨h1, h2⟩ := V_l2d n
  exact DV_of_V h1 (by decide) h h2
theorem DV_i2d (n : Int32) : DV n.toInt 0 (FP.i2d n) := by
  obtain ⟨h1, h2⟩ := V_i2d n
  exact DV_of_V h1 (by decide) (r53 (Nat.le_trans (int32_abs n) (by decide))) h2
theorem DV_const {a : UInt64} {n : Int} {k : Nat} (h1 : a.toNat % 2 ^ 63 < 9218868437227405312) (hk : k ≤ 1074) (h2 : V a = n * ((2 ^ (1074 - k) : Nat) : Int)) : DV n k a := ⟨(fin_bits a).mpr h1, hk, h2⟩
theorem DV_0 : DV 0 0 FP.dconst0 := DV_const (by decide) (by decide) (by decide +kernel)
theorem DV_1 : DV 1 0 FP.dconst1 := DV_const (by decide) (by decide) (by decide +kernel)
theorem DV_z : DV 0 0 (0 : UInt64) := DV_const (by decide) (by decide) (by decide +kernel)
theorem cmpv_V {a b : UInt64} (ha : DFin a) (hb : DFin b) (o : ClassFile.CmpOp) : (V a < V b → Op.cmpValue (FP.dcmp a b) o = -1) ∧ (V a = V b → Op.cmpValue (FP.dcmp a b) o = 0) ∧ (V b < V a → Op.cmpValue (FP.dcmp a b) o = 1) := by
  rw [cmp_V ha hb]
  refine ⟨fun h => ?_, fun h => ?_, fun h => ?_⟩
  · rw [(compare_lt_iff _ _).mpr h]; rfl
  · rw [(compare_eq_iff _ _).mpr h]; rfl
  · rw [(compare_gt_iff _ _).mpr h]; rfl
theorem DV_le {n m : Int} {k : Nat} {a b : UInt64} (ha : DV n k a) (hb : DV m k b) : (V a < V b ↔ n < m) ∧ (V a = V b ↔ n = m) := by
  rw [ha.2.2, hb.2.2]
  have hp : (0 : Int) < ((2 ^ (1074 - k) : Nat) : Int) := by have := Nat.two_pow_pos (1074 - k); omega
  exact ⟨Int.mul_lt_mul_right hp, ⟨fun q => Int.eq_of_mul_eq_mul_right (by omega) q, fun q => by rw [q]⟩⟩
theorem DV_cmp {n m : Int} {k : Nat} {a b : UInt64} (ha : DV n k a) (hb : DV m k b) (o : ClassFile.CmpOp) : (n < m → Op.cmpValue (FP.dcmp a b) o = -1) ∧ (n = m → Op.cmpValue (FP.dcmp a b) o = 0) ∧ (m < n → Op.cmpValue (FP.dcmp a b) o = 1) := by
  obtain ⟨h1, h2, h3⟩ := cmpv_V ha.1 hb.1 o
  exact ⟨fun q => h1 ((DV_le ha hb).1.mpr q), fun q => h2 ((DV_le ha hb).2.mpr q), fun q => h3 ((DV_le hb ha).1.mpr q)⟩
theorem DV_eq0 {n : Int} {k : Nat} {a b : UInt64} (ha : DV n k a) (hb : DV n k b) (o : ClassFile.CmpOp) : Op.cmpValue (FP.dcmp a b) o = 0 := (DV_cmp ha hb o).2.1 rfl
theorem DV_d2l {n : Int} {a : UInt64} (h : DV n 0 a) (h1 : -9223372036854775808 ≤ n) (h2 : n < 9223372036854775808) : (FP.d2l a).toInt = n := by
  obtain ⟨hf, -, hv⟩ := h
  have hn : val64 a ≠ .nan := by obtain ⟨s, c, q, e⟩ := hf; rw [e]; exact Datum.noConfusion
  rw [show FP.d2l a = Core.d2l a from rfl, d2l_val hn, zmag_V]
  have hs : signed (sgn (val64 a)) (V a).natAbs = V a := by rw [← zmag_V]; rfl
  have ho : (1074 - 0 : Nat) = 1074 := rfl
  rw [ho, show (2 ^ 1074 : Nat) = one64 from rfl] at hv
  have hm : (V a).natAbs = n.natAbs * one64 := by rw [hv, Int.natAbs_mul, Int.natAbs_natCast]
  have hd : (V a).natAbs / one64 = n.natAbs := by rw [hm, Nat.mul_div_cancel _ one64_pos]
  rw [hd]
  have hsn : signed (sgn (val64 a)) n.natAbs = n := by
    rw [hm, signed_mul, hv] at hs
    exact Int.eq_of_mul_eq_mul_right (by have := one64_pos; omega) hs
  rw [hsn]
  omega
end Jvm.OwnF
namespace Jvm.OwnF
open Jvm.RoadKit
/-! ints and longs as whole numbers -/
theorem mul_bd {a b : Int} {A B : Nat} (ha : a.natAbs ≤ A) (hb : b.natAbs ≤ B) : (a * b).natAbs ≤ A * B := by rw [Int.natAbs_mul]; exact Nat.mul_le_mul ha hb
theorem iadd_v {x y z : Int32} (h : x + y = z) (hb : (x.toInt + y.toInt).natAbs < 2147483648) : z.toInt = x.toInt + y.toInt := by rw [← h, Int32.toInt_add]; exact Int.bmod_eq_of_le (by omega) (by omega)
theorem isub_v {x y z : Int32} (h : x - y = z) (hb : (x.toInt - y.toInt).natAbs < 2147483648) : z.toInt = x.toInt - y.toInt := by rw [← h, Int32.toInt_sub]; exact Int.bmod_eq_of_le (by omega) (by omega)
theorem imul_v {x y z : Int32} (h : x * y = z) (hb : (x.toInt * y.toInt).natAbs < 2147483648) : z.toInt = x.toInt * y.toInt := by rw [← h, Int32.toInt_mul]; exact Int.bmod_eq_of_le (by omega) (by omega)
theorem ladd_v {x y z : Int64} (h : x + y = z) (hb : (x.toInt + y.toInt).natAbs < 9223372036854775808) : z.toInt = x.toInt + y.toInt := by rw [← h, Int64.toInt_add]; exact Int.bmod_eq_of_le (by omega) (by omega)
theorem lsub_v {x y z : Int64} (h : x - y = z) (hb : (x.toInt - y.toInt).natAbs < 9223372036854775808) : z.toInt = x.toInt - y.toInt := by rw [← h, Int64.toInt_sub]; exact Int.bmod_eq_of_le (by omega) (by omega)
theorem lmul_v {x y z : Int64} (h : x * y = z) (hb : (x.toInt * y.toInt).natAbs < 9223372036854775808) : z.toInt = x.toInt * y.toInt := by rw [← h, Int64.toInt_mul]; exact Int.bmod_eq_of_le (by omega) (by omega)
theorem i2l_v {x : Int32} {z : Int64} (h : x.toInt64 = z) : z.toInt = x.toInt := by rw [← h]; exact c_i2l x
theorem l2i_v {x : Int64} {z : Int32} (h : x.toInt32 = z) (hb : -2147483648 ≤ x.toInt ∧ x.toInt < 2147483648) : z.toInt = x.toInt := by
  rw [← h]; have h1 := c_l2i x; have h2 := rng32 x.toInt32; omega
theorem rng32b (x : Int32) : x.toInt.natAbs ≤ 2147483648 := by have := rng32 x; omega
theorem rng64b (x : Int64) : x.toInt.natAbs ≤ 9223372036854775808 := by have := rng64 x; omega
theorem ishr16 {p z : Int32} (h : p >>> ((16 : Int32) &&& 31) = z) : z.toInt = p.toInt / 65536 := by
  rw [← h, c_ishr p 16 16 (by decide)]; rfl
theorem i2s_b {x z : Int32} (h : x.toInt16.toInt32 = z) : -32768 ≤ z.toInt ∧ z.toInt < 32768 := by rw [← h]; exact (c_i2s x).2
/-- x % y, y > 0, x ≥ 0 -/
theorem irem_v {x y z : Int32} (h : x % y = z) (hx : 0 ≤ x.toInt) : z.toInt = x.toInt % y.toInt := by rw [← h, Int32.toInt_mod]; exact Int.tmod_eq_emod_of_nonneg hx
theorem lrem_v {x y z : Int64} (h : x % y = z) (hx : 0 ≤ x.toInt) : z.toInt = x.toInt % y.toInt := by rw [← h, Int64.toInt_mod]; exact Int.tmod_eq_emod_of_nonneg hx
theorem mask31 {x z : Int32} (h : x &&& (2147483647 : Int32) = z) : 0 ≤ z.toInt ∧ z.toInt < 2147483648 := by
  rw [← h, c_mask x 2147483647 31 (by decide) (by decide)]
  have e : ((2 ^ 31 : Nat) : Int) = 2147483648 := by decide
  rw [e]; omega
/-- x << q, q < 64, no overflow -/
theorem lshl_v {x z : Int64} {q : Int32} (h : x <<< (q &&& 0x3f).toInt64 = z) {k : Nat} (hq : q.toInt = (k : Int)) (hk : k < 64) (hb : (x.toInt * ((2 ^ k : Nat) : Int)).natAbs < 9223372036854775808) : z.toInt = x.toInt * ((2 ^ k : Nat) : Int) := by
  have hn : q.toBitVec.toNat % 64 = k := by
    have e : q.toBitVec.toNat = k := by
      have h1 : q.toBitVec.toInt = (k : Int) := hq
      have h2 := BitVec.toInt_eq_toNat_bmod q.toBitVec
      rw [h1] at h2
      have h3 := q.toBitVec.isLt
      have h4 := Int.bmod_emod (x := (q.toBitVec.toNat : Int)) (m := 2 ^ 32)
      omega
    omega
  have := c_lshl x q k hn
  rw [h] at this
  have r := rng64 z
  omega
end Jvm.OwnF
namespace Jvm.OwnF
open Jvm.RoadKit
theorem nat32 {q : Int32} {k : Nat} (hq : q.toInt = (k : Int)) : q.toBitVec.toNat = k := by
  have h1 : q.toBitVec.toInt = (k : Int) := hq
  have h2 := BitVec.toInt_eq_toNat_bmod q.toBitVec
  rw [h1] at h2
  have h3 := q.toBitVec.isLt
  have h5 := rng32 q
  have h4 := Int.bmod_emod (x := (q.toBitVec.toNat : Int)) (m := 2 ^ 32)
  omega
theorem ishl_v {x z q : Int32} (h : x <<< (q &&& 31) = z) {k : Nat} (hq : q.toInt = (k : Int)) (hk : k < 32) (hb : (x.toInt * ((2 ^ k : Nat) : Int)).natAbs < 2147483648) : z.toInt = x.toInt * ((2 ^ k : Nat) : Int) := by
  have hn : q.toBitVec.toNat % 32 = k := by rw [nat32 hq]; omega
  have := c_ishl x q k hn
  rw [h] at this
  have r := rng32 z
  omega
theorem ishl_1 {z q : Int32} (h : (1 : Int32) <<< (q &&& 31) = z) {k : Nat} (hq : q.toInt = (k : Int)) (hk : k < 31) : z.toInt = ((2 ^ k : Nat) : Int) := by
  have p : 2 ^ k ≤ 2 ^ 30 := Nat.pow_le_pow_right (by decide) (by omega)
  have := ishl_v h hq (by omega) (by rw [show (1 : Int32).toInt = 1 by decide, Int.one_mul, Int.natAbs_natCast]; omega)
  rw [show (1 : Int32).toInt = 1 by decide, Int.one_mul] at this
  exact this
end Jvm.OwnF
namespace Jvm.Pilot.@@N@@
open Jvm Jvm.ClassFile Sem Op Lib Jvm.Free Jvm.Stand Jvm.LawKit Jvm.RoadKit Bundle Jvm.Pilot.@@N@@.Jvm.D
open Jvm.OwnF in
theorem m30 {x z : Int32} (h : x &&& (1073741823 : Int32) = z) : 0 ≤ z.toInt ∧ z.toInt < 1073741824 := by
  rw [← h, Jvm.RoadKit.c_mask x 1073741823 30 (by decide) (by decide)]
  have e : ((2 ^ 30 : Nat) : Int) = 1073741824 := by decide
  rw [e]; omega
open Jvm.OwnF in
/-- the two edges as whole numbers -/
theorem edges {a d s l r : Int32} (ha : 0 ≤ a.toInt ∧ a.toInt < 1073741824) (hs : a + d = s) (hl : (if (0 : Int32) < d then d else (0 : Int32)) = l) (hr : (if s < a then s else a) = r) :
    (0 < d.toInt → l.toInt = d.toInt) ∧ (d.toInt ≤ 0 → l.toInt = 0) ∧ (d.toInt < 0 → r.toInt = a.toInt + d.toInt) ∧ (0 ≤ d.toInt → d.toInt ≤ 1073741824 → r.toInt = a.toInt) ∧ (1073741824 < d.toInt → r.toInt ≤ a.toInt) := by
  have z0 : (0 : Int32).toInt = 0 := by decide
  have rd := rng32 d
  have hs' := c_iadd a d
  rw [hs] at hs'
  have rs := rng32 s
  have el : l.toInt = if 0 < d.toInt then d.toInt else 0 := by
    rw [← hl]
    by_cases q : (0 : Int32) < d
    · rw [if_pos q]; rw [Int32.lt_iff_toInt_lt, z0] at q; rw [if_pos q]
    · rw [if_neg q]; rw [Int32.lt_iff_toInt_lt, z0] at q; rw [if_neg q, z0]
  have er : r.toInt = if s.toInt < a.toInt then s.toInt else a.toInt := by
    rw [← hr]
    by_cases q : s < a
    · rw [if_pos q]; rw [Int32.lt_iff_toInt_lt] at q; rw [if_pos q]
    · rw [if_neg q]; rw [Int32.lt_iff_toInt_lt] at q; rw [if_neg q]
  refine ⟨fun q => by rw [el, if_pos q], fun q => by rw [el, if_neg (by omega)], fun q => ?_, fun q q' => ?_, fun q => ?_⟩
  · have : s.toInt = a.toInt + d.toInt := by omega
    rw [er, if_pos (by omega), this]
  · have : s.toInt = a.toInt + d.toInt := by omega
    rw [er, if_neg (by omega)]
  · rw [er]; split <;> omega
open Jvm.OwnF in
/-- a point lies between the edges where it lies in both pictures -/
theorem meet {a d s l r x v : Int32} {z1 z5 z6 z17 z32 : Int64} {z11 z18 z25 z33 : Int32} (ha : 0 ≤ a.toInt ∧ a.toInt < 1073741824) (hs : a + d = s) (hl : (if (0 : Int32) < d then d else (0 : Int32)) = l) (hr : (if s < a then s else a) = r)
    (h1 : x.toInt64 = z1) (h5 : d.toInt64 = z5) (h6 : z1 - z5 = z6) (h11 : lcmpW (0 : Int64) z1 = z11) (h17 : a.toInt64 = z17) (h18 : lcmpW z1 z17 = z18) (h25 : lcmpW (0 : Int64) z6 = z25) (h32 : a.toInt64 = z32) (h33 : lcmpW z6 z32 = z33)
    (hv : (if (0 : Int32) < z11 then (0 : Int32) else (if z18 < (0 : Int32) then (if (0 : Int32) < z25 then (0 : Int32) else (if z33 < (0 : Int32) then (1 : Int32) else (0 : Int32))) else (0 : Int32))) = v) :
    v = if x < l then (0 : Int32) else if x < r then (1 : Int32) else (0 : Int32) := by
  obtain ⟨e1, e2, e3, e4, e5⟩ := edges ha hs hl hr
  have z0 : (0 : Int64).toInt = 0 := by decide
  have rd := rng32 d; have rx := rng32 x
  have i1 := i2l_v h1; have i5 := i2l_v h5; have i17 := i2l_v h17; have i32 := i2l_v h32
  have i6 := lsub_v h6 (by omega)
  have E11 : (0 : Int32) < z11 ↔ x.toInt < 0 := by rw [← h11, lw_gt, Int64.lt_iff_toInt_lt, i1, z0]
  have E18 : z18 < (0 : Int32) ↔ x.toInt < a.toInt := by rw [← h18, lw_lt, Int64.lt_iff_toInt_lt, i1, i17]
  have E25 : (0 : Int32) < z25 ↔ x.toInt - d.toInt < 0 := by rw [← h25, lw_gt, Int64.lt_iff_toInt_lt, i6, i1, i5, z0]
  have E33 : z33 < (0 : Int32) ↔ x.toInt - d.toInt < a.toInt := by rw [← h33, lw_lt, Int64.lt_iff_toInt_lt, i6, i1, i5, i32]
  rw [← hv]
  simp only [E11, E18, E25, E33, Int32.lt_iff_toInt_lt]
  repeat' split
  all_goals first | rfl | (exfalso; omega)
open Jvm.OwnF in
/-- the overlap's length by the two ways -/
theorem side {a d s l r z2 z2' : Int32} {A D n b m t : Int64} (ha : 0 ≤ a.toInt ∧ a.toInt < 1073741824) (hs : a + d = s) (hl : (if (0 : Int32) < d then d else (0 : Int32)) = l) (hr : (if s < a then s else a) = r)
    (hA : a.toInt64 = A) (hD : d.toInt64 = D) (h2 : lcmpW D (0 : Int64) = z2) (hn : -D = n) (hb : (if z2 < (0 : Int32) then n else D) = b) (ht : A - b = t) (h2' : lcmpW (0 : Int64) t = z2') (hm : (if z2' < (0 : Int32) then t else (0 : Int64)) = m) :
    (l < r → m.toInt = r.toInt - l.toInt) ∧ (¬ l < r → m.toInt = 0) ∧ 0 ≤ m.toInt ∧ m.toInt < 1073741824 := by
  obtain ⟨e1, e2, e3, e4, e5⟩ := edges ha hs hl hr
  have z0 : (0 : Int64).toInt = 0 := by decide
  have rd := rng32 d
  have iA := i2l_v hA; have iD := i2l_v hD
  have in_ : n.toInt = -d.toInt := by rw [← hn, Int64.toInt_neg, iD]; exact Int.bmod_eq_of_le (by omega) (by omega)
  have E2 : z2 < (0 : Int32) ↔ d.toInt < 0 := by rw [← h2, lw_lt, Int64.lt_iff_toInt_lt, iD, z0]
  have ib : b.toInt = if d.toInt < 0 then -d.toInt else d.toInt := by
    rw [← hb]
    by_cases q : z2 < (0 : Int32)
    · rw [if_pos q, if_pos (E2.mp q), in_]
    · rw [if_neg q, if_neg (fun u => q (E2.mpr u)), iD]
  have bb : 0 ≤ b.toInt ∧ b.toInt ≤ 2147483648 := by rw [ib]; split <;> omega
  have it := lsub_v ht (by omega)
  have E3 : z2' < (0 : Int32) ↔ 0 < t.toInt := by rw [← h2', lw_lt, Int64.lt_iff_toInt_lt, z0]
  have im : m.toInt = if 0 < t.toInt then t.toInt else 0 := by
    rw [← hm]
    by_cases q : z2' < (0 : Int32)
    · rw [if_pos q, if_pos (E3.mp q)]
    · rw [if_neg q, if_neg (fun u => q (E3.mpr u)), z0]
  rw [Int32.lt_iff_toInt_lt, im, it, iA, ib]
  refine ⟨fun q => ?_, fun q => ?_, ?_, ?_⟩
  all_goals repeat' split
  all_goals omega
open Jvm.OwnF Jvm.FP.Core in
/-- the product, rounded once -/
theorem prod {u v : Int32} {m n k : Int64} {x y z t : UInt64} (hu : u.toInt = m.toInt) (hv : v.toInt = n.toInt) (bm : 0 ≤ m.toInt ∧ m.toInt < 1073741824) (bn : 0 ≤ n.toInt ∧ n.toInt < 1073741824) (hk : m * n = k) (hx : FP.i2d u = x) (hy : FP.i2d v = y) (hz : FP.dmul x y = z) (ht : FP.l2d k = t) :
    DFin z ∧ DFin t ∧ V z = V t := by
  have dx : DV u.toInt 0 x := hx ▸ DV_i2d u
  have dy : DV v.toInt 0 y := hy ▸ DV_i2d v
  have b : (m.toInt * n.toInt).natAbs ≤ 1073741824 * 1073741824 := mul_bd (by omega) (by omega)
  have ik := lmul_v hk (by omega)
  have ex : V x = m.toInt * (one64 : Int) := by rw [← hu]; exact dx.2.2
  have ey : V y = n.toInt * (one64 : Int) := by rw [← hv]; exact dy.2.2
  have exy : V x * V y = m.toInt * n.toInt * (one64 : Int) * (one64 : Int) := by
    rw [ex, ey]
    generalize (one64 : Int) = U
    ac_rfl
  obtain ⟨ft, vt⟩ := V_l2d k
  rw [ht] at ft vt
  rw [ik] at vt
  obtain ⟨fz, vz⟩ := V_dmul dx.1 dy.1 (by
    rw [exy, Int.natAbs_mul, Int.natAbs_natCast]
    refine Nat.mul_le_mul_right _ ?_
    rw [Int.natAbs_mul, Int.natAbs_natCast]
    refine Nat.le_trans (Nat.mul_le_mul_right _ (Nat.le_trans b (show 1073741824 * 1073741824 ≤ 2 ^ 60 by decide))) ?_
    unfold one64 BIG
    rw [← Nat.pow_add]
    exact Nat.pow_le_pow_right (by decide) (by decide))
  rw [hz] at fz vz
  refine ⟨fz, ft, ?_⟩
  rw [vz, vt, exy]
  exact rnd_congr one64_pos (by decide) (by rw [Int.natCast_one, Int.mul_one])
open Jvm.OwnF Jvm.FP.Core in
theorem area {l r t b u v : Int32} {m n k : Int64} {x y z w res : UInt64} (hm : (l < r → m.toInt = r.toInt - l.toInt) ∧ (¬ l < r → m.toInt = 0) ∧ 0 ≤ m.toInt ∧ m.toInt < 1073741824) (hn : (t < b → n.toInt = b.toInt - t.toInt) ∧ (¬ t < b → n.toInt = 0) ∧ 0 ≤ n.toInt ∧ n.toInt < 1073741824)
    (hu : r - l = u) (hv : b - t = v) (hx : FP.i2d u = x) (hy : FP.i2d v = y) (hz : FP.dmul x y = z) (hk : m * n = k) (hw : FP.l2d k = w) (hres : (if l < r then (if t < b then z else FP.dconst0) else FP.dconst0) = res) :
    (l < r → t < b → Jvm.Free.Fl.NoNaN64 z) ∧ cmpValue (FP.dcmp res w) .l = 0 := by
  obtain ⟨m1, m2, m3, m4⟩ := hm
  obtain ⟨n1, n2, n3, n4⟩ := hn
  have key : l < r → t < b → DFin z ∧ DFin w ∧ V z = V w := fun p q => by
    have e1 := m1 p
    have e2 := n1 q
    exact prod (by rw [isub_v hu (by omega)]; omega) (by rw [isub_v hv (by omega)]; omega) ⟨m3, m4⟩ ⟨n3, n4⟩ hk hx hy hz hw
  have zero : m.toInt * n.toInt = 0 → cmpValue (FP.dcmp FP.dconst0 w) .l = 0 := fun q => by
    have ik := lmul_v hk (by omega)
    rw [q] at ik
    have dw : DV 0 0 w := hw ▸ (DV_l2d (r53 (by omega))).of_eq ik
    exact DV_eq0 DV_0 dw _
  refine ⟨fun p q => noNaN_fin (key p q).1, ?_⟩
  rw [← hres]
  by_cases p : l < r
  · rw [if_pos p]
    by_cases q : t < b
    · rw [if_pos q]
      obtain ⟨f1, f2, f3⟩ := key p q
      exact (cmpv_V f1 f2 _).2.1 f3
    · rw [if_neg q]
      exact zero (by rw [n2 q, Int.mul_zero])
  · rw [if_neg p]
    exact zero (by rw [m2 p, Int.zero_mul])
theorem d3_0 : decode jdk_29_method_65_code 0 = .ok (.iload_n 0, 1) := by decide +kernel
theorem d3_1 : decode jdk_29_method_65_code 1 = .ok (.iload_n 1, 1) := by decide +kernel
theorem d3_2 : decode jdk_29_method_65_code 2 = .ok (.if_icmp .lt 7, 3) := by decide +kernel
theorem d3_9 : decode jdk_29_method_65_code 9 = .ok (.iload_n 1, 1) := by decide +kernel
theorem d3_10 : decode jdk_29_method_65_code 10 = .ok (.ireturn, 1) := by decide +kernel
theorem d3_5 : decode jdk_29_method_65_code 5 = .ok (.iload_n 0, 1) := by decide +kernel
theorem d3_6 : decode jdk_29_method_65_code 6 = .ok (.goto 4, 3) := by decide +kernel
theorem ef_rm3 (m : MethodId) (p0 : Int32) (p1 : Int32) : entryFrame m #[(.int p0), (.int p1)] 2 = mkF m 0 #[.val (.int p0), .val (.int p1)] [] := by first | (simp [entryFrame, mkF, argsToLocals, Value.category]; done) | rfl
theorem d4_0 : decode jdk_29_method_69_code 0 = .ok (.iload_n 0, 1) := by decide +kernel
theorem d4_1 : decode jdk_29_method_69_code 1 = .ok (.iload_n 1, 1) := by decide +kernel
theorem d4_2 : decode jdk_29_method_69_code 2 = .ok (.if_icmp .gt 7, 3) := by decide +kernel
theorem d4_9 : decode jdk_29_method_69_code 9 = .ok (.iload_n 1, 1) := by decide +kernel
theorem d4_10 : decode jdk_29_method_69_code 10 = .ok (.ireturn, 1) := by decide +kernel
theorem d4_5 : decode jdk_29_method_69_code 5 = .ok (.iload_n 0, 1) := by decide +kernel
theorem d4_6 : decode jdk_29_method_69_code 6 = .ok (.goto 4, 3) := by decide +kernel
theorem ef_rm4 (m : MethodId) (p0 : Int32) (p1 : Int32) : entryFrame m #[(.int p0), (.int p1)] 2 = mkF m 0 #[.val (.int p0), .val (.int p1)] [] := by first | (simp [entryFrame, mkF, argsToLocals, Value.category]; done) | rfl
theorem d11_0 : decode jdk_29_method_61_code 0 = .ok (.lload_n 0, 1) := by decide +kernel
theorem d11_1 : decode jdk_29_method_61_code 1 = .ok (.lconst 0, 1) := by decide +kernel
theorem d11_2 : decode jdk_29_method_61_code 2 = .ok (.lcmp, 1) := by decide +kernel
theorem d11_3 : decode jdk_29_method_61_code 3 = .ok (.ifCond .ge 8, 3) := by decide +kernel
theorem d11_6 : decode jdk_29_method_61_code 6 = .ok (.lload_n 0, 1) := by decide +kernel
theorem d11_7 : decode jdk_29_method_61_code 7 = .ok (.lneg, 1) := by decide +kernel
theorem d11_8 : decode jdk_29_method_61_code 8 = .ok (.goto 4, 3) := by decide +kernel
theorem d11_12 : decode jdk_29_method_61_code 12 = .ok (.lreturn, 1) := by decide +kernel
theorem d11_11 : decode jdk_29_method_61_code 11 = .ok (.lload_n 0, 1) := by decide +kernel
theorem ef_rm11 (m : MethodId) (q0 : Int64) : entryFrame m #[(.long q0)] 2 = mkF m 0 #[.val (.long q0), .second] [] := by first | (simp [entryFrame, mkF, argsToLocals, Value.category]; done) | rfl
theorem d12_0 : decode jdk_29_method_66_code 0 = .ok (.lload_n 0, 1) := by decide +kernel
theorem d12_1 : decode jdk_29_method_66_code 1 = .ok (.lload_n 2, 1) := by decide +kernel
theorem d12_2 : decode jdk_29_method_66_code 2 = .ok (.lcmp, 1) := by decide +kernel
theorem d12_3 : decode jdk_29_method_66_code 3 = .ok (.ifCond .lt 7, 3) := by decide +kernel
theorem d12_10 : decode jdk_29_method_66_code 10 = .ok (.lload_n 2, 1) := by decide +kernel
theorem d12_11 : decode jdk_29_method_66_code 11 = .ok (.lreturn, 1) := by decide +kernel
theorem d12_6 : decode jdk_29_method_66_code 6 = .ok (.lload_n 0, 1) := by decide +kernel
theorem d12_7 : decode jdk_29_method_66_code 7 = .ok (.goto 4, 3) := by decide +kernel
theorem ef_rm12 (m : MethodId) (q0 : Int64) (q1 : Int64) : entryFrame m #[(.long q0), (.long q1)] 4 = mkF m 0 #[.val (.long q0), .second, .val (.long q1), .second] [] := by first | (simp [entryFrame, mkF, argsToLocals, Value.category]; done) | rfl
theorem d1_0 : decode method_3_code 0 = .ok (.iload_n 0, 1) := by decide +kernel
theorem d1_1 : decode method_3_code 1 = .ok (.iconst 2, 1) := by decide +kernel
theorem d1_2 : decode method_3_code 2 = .ok (.ishr, 1) := by decide +kernel
theorem d1_3 : decode method_3_code 3 = .ok (.istore_n 3, 1) := by decide +kernel
theorem d1_4 : decode method_3_code 4 = .ok (.iload_n 0, 1) := by decide +kernel
theorem d1_5 : decode method_3_code 5 = .ok (.iconst 3, 1) := by decide +kernel
theorem d1_6 : decode method_3_code 6 = .ok (.iand, 1) := by decide +kernel
theorem d1_7 : decode method_3_code 7 = .ok (.istore 4, 2) := by decide +kernel
theorem d1_9 : decode method_3_code 9 = .ok (.iload 4, 2) := by decide +kernel
theorem d1_11 : decode method_3_code 11 = .ok (.ifCond .ne 9, 3) := by decide +kernel
theorem d1_14 : decode method_3_code 14 = .ok (.lconst 0, 1) := by decide +kernel
theorem d1_15 : decode method_3_code 15 = .ok (.lstore 5, 2) := by decide +kernel
theorem d1_17 : decode method_3_code 17 = .ok (.goto 36, 3) := by decide +kernel
theorem d1_20 : decode method_3_code 20 = .ok (.iload 4, 2) := by decide +kernel
theorem d1_22 : decode method_3_code 22 = .ok (.iconst 1, 1) := by decide +kernel
theorem d1_23 : decode method_3_code 23 = .ok (.if_icmp .ne 10, 3) := by decide +kernel
theorem d1_26 : decode method_3_code 26 = .ok (.iload_n 1, 1) := by decide +kernel
theorem d1_27 : decode method_3_code 27 = .ok (.i2l, 1) := by decide +kernel
theorem d1_28 : decode method_3_code 28 = .ok (.lstore 5, 2) := by decide +kernel
theorem d1_30 : decode method_3_code 30 = .ok (.goto 23, 3) := by decide +kernel
theorem d1_33 : decode method_3_code 33 = .ok (.iload 4, 2) := by decide +kernel
theorem d1_35 : decode method_3_code 35 = .ok (.iconst 2, 1) := by decide +kernel
theorem d1_36 : decode method_3_code 36 = .ok (.if_icmp .ne 10, 3) := by decide +kernel
theorem d1_39 : decode method_3_code 39 = .ok (.iload_n 2, 1) := by decide +kernel
theorem d1_40 : decode method_3_code 40 = .ok (.i2l, 1) := by decide +kernel
theorem d1_41 : decode method_3_code 41 = .ok (.lstore 5, 2) := by decide +kernel
theorem d1_43 : decode method_3_code 43 = .ok (.goto 10, 3) := by decide +kernel
theorem d1_46 : decode method_3_code 46 = .ok (.iload_n 1, 1) := by decide +kernel
theorem d1_47 : decode method_3_code 47 = .ok (.i2l, 1) := by decide +kernel
theorem d1_48 : decode method_3_code 48 = .ok (.iload_n 2, 1) := by decide +kernel
theorem d1_49 : decode method_3_code 49 = .ok (.i2l, 1) := by decide +kernel
theorem d1_50 : decode method_3_code 50 = .ok (.ladd, 1) := by decide +kernel
theorem d1_51 : decode method_3_code 51 = .ok (.lstore 5, 2) := by decide +kernel
theorem d1_53 : decode method_3_code 53 = .ok (.lload 5, 2) := by decide +kernel
theorem d1_55 : decode method_3_code 55 = .ok (.iload_n 3, 1) := by decide +kernel
theorem d1_56 : decode method_3_code 56 = .ok (.i2l, 1) := by decide +kernel
theorem d1_57 : decode method_3_code 57 = .ok (.ladd, 1) := by decide +kernel
theorem d1_58 : decode method_3_code 58 = .ok (.l2i, 1) := by decide +kernel
theorem d1_59 : decode method_3_code 59 = .ok (.ireturn, 1) := by decide +kernel
theorem pn_0 : plainName "com/example/vetrino/vetrino/OverlapOfPinLaw" = true := by first | (simp [plainName, overriddenIn]; done) | decide +kernel
theorem ef_rm1 (m : MethodId) (p0 : Int32) (p1 : Int32) (p2 : Int32) : entryFrame m #[(.int p0), (.int p1), (.int p2)] 7 = mkF m 0 #[.val (.int p0), .val (.int p1), .val (.int p2), .unset, .unset, .unset, .unset] [] := by first | (simp [entryFrame, mkF, argsToLocals, Value.category]; done) | rfl
theorem d5_0 : decode prog_7_method_1_code 0 = .ok (.aload_n 0, 1) := by decide +kernel
theorem d5_1 : decode prog_7_method_1_code 1 = .ok (.invokespecial 1, 3) := by decide +kernel
theorem d5_4 : decode prog_7_method_1_code 4 = .ok (.aload_n 0, 1) := by decide +kernel
theorem d5_5 : decode prog_7_method_1_code 5 = .ok (.iload_n 1, 1) := by decide +kernel
theorem d5_6 : decode prog_7_method_1_code 6 = .ok (.putfield 7, 3) := by decide +kernel
theorem d5_9 : decode prog_7_method_1_code 9 = .ok (.aload_n 0, 1) := by decide +kernel
theorem d5_10 : decode prog_7_method_1_code 10 = .ok (.iload_n 2, 1) := by decide +kernel
theorem d5_11 : decode prog_7_method_1_code 11 = .ok (.putfield 13, 3) := by decide +kernel
theorem d5_14 : decode prog_7_method_1_code 14 = .ok (.aload_n 0, 1) := by decide +kernel
theorem d5_15 : decode prog_7_method_1_code 15 = .ok (.iload_n 3, 1) := by decide +kernel
theorem d5_16 : decode prog_7_method_1_code 16 = .ok (.putfield 16, 3) := by decide +kernel
theorem d5_19 : decode prog_7_method_1_code 19 = .ok (.aload_n 0, 1) := by decide +kernel
theorem d5_20 : decode prog_7_method_1_code 20 = .ok (.iload 4, 2) := by decide +kernel
theorem d5_22 : decode prog_7_method_1_code 22 = .ok (.putfield 19, 3) := by decide +kernel
theorem d5_25 : decode prog_7_method_1_code 25 = .ok (.return_, 1) := by decide +kernel
theorem pn_1 : plainName "com/example/vetrino/vetrino/Overlap" = true := by first | (simp [plainName, overriddenIn]; done) | decide +kernel
theorem ef_rm5 (m : MethodId) (o0 : Addr) (p1 : Int32) (p2 : Int32) (p3 : Int32) (p4 : Int32) : entryFrame m #[(.ref o0), (.int p1), (.int p2), (.int p3), (.int p4)] 5 = mkF m 0 #[.val (.ref o0), .val (.int p1), .val (.int p2), .val (.int p3), .val (.int p4)] [] := by first | (simp [entryFrame, mkF, argsToLocals, Value.category]; done) | rfl
theorem d2_0 : decode prog_7_method_2_code 0 = .ok (.new 8, 3) := by decide +kernel
theorem d2_3 : decode prog_7_method_2_code 3 = .ok (.dup, 1) := by decide +kernel
theorem d2_4 : decode prog_7_method_2_code 4 = .ok (.iconst 0, 1) := by decide +kernel
theorem d2_5 : decode prog_7_method_2_code 5 = .ok (.iload_n 2, 1) := by decide +kernel
theorem d2_6 : decode prog_7_method_2_code 6 = .ok (.invokestatic 22, 3) := by decide +kernel
theorem pd_0 : parseMethodDescriptor "(II)I" = some ⟨[.int, .int], some .int⟩ := by decide +kernel
theorem d2_9 : decode prog_7_method_2_code 9 = .ok (.iconst 0, 1) := by decide +kernel
theorem d2_10 : decode prog_7_method_2_code 10 = .ok (.iload_n 3, 1) := by decide +kernel
theorem d2_11 : decode prog_7_method_2_code 11 = .ok (.invokestatic 22, 3) := by decide +kernel
theorem d2_14 : decode prog_7_method_2_code 14 = .ok (.iload_n 0, 1) := by decide +kernel
theorem d2_15 : decode prog_7_method_2_code 15 = .ok (.iload_n 0, 1) := by decide +kernel
theorem d2_16 : decode prog_7_method_2_code 16 = .ok (.iload_n 2, 1) := by decide +kernel
theorem d2_17 : decode prog_7_method_2_code 17 = .ok (.iadd, 1) := by decide +kernel
theorem d2_18 : decode prog_7_method_2_code 18 = .ok (.invokestatic 28, 3) := by decide +kernel
theorem d2_21 : decode prog_7_method_2_code 21 = .ok (.iload_n 1, 1) := by decide +kernel
theorem d2_22 : decode prog_7_method_2_code 22 = .ok (.iload_n 1, 1) := by decide +kernel
theorem d2_23 : decode prog_7_method_2_code 23 = .ok (.iload_n 3, 1) := by decide +kernel
theorem d2_24 : decode prog_7_method_2_code 24 = .ok (.iadd, 1) := by decide +kernel
theorem d2_25 : decode prog_7_method_2_code 25 = .ok (.invokestatic 28, 3) := by decide +kernel
theorem d2_28 : decode prog_7_method_2_code 28 = .ok (.invokespecial 31, 3) := by decide +kernel
theorem pd_1 : parseMethodDescriptor "(IIII)V" = some ⟨[.int, .int, .int, .int], none⟩ := by decide +kernel
theorem d2_31 : decode prog_7_method_2_code 31 = .ok (.areturn, 1) := by decide +kernel
theorem ef_rm2 (m : MethodId) (p0 : Int32) (p1 : Int32) (p2 : Int32) (p3 : Int32) : entryFrame m #[(.int p0), (.int p1), (.int p2), (.int p3)] 4 = mkF m 0 #[.val (.int p0), .val (.int p1), .val (.int p2), .val (.int p3)] [] := by first | (simp [entryFrame, mkF, argsToLocals, Value.category]; done) | rfl
theorem d7_0 : decode prog_7_method_4_code 0 = .ok (.aload_n 0, 1) := by decide +kernel
theorem d7_1 : decode prog_7_method_4_code 1 = .ok (.getfield 7, 3) := by decide +kernel
theorem d7_4 : decode prog_7_method_4_code 4 = .ok (.ireturn, 1) := by decide +kernel
theorem ef_rm7 (m : MethodId) (o0 : Addr) : entryFrame m #[(.ref o0)] 1 = mkF m 0 #[.val (.ref o0)] [] := by first | (simp [entryFrame, mkF, argsToLocals, Value.category]; done) | rfl
theorem d8_0 : decode prog_7_method_5_code 0 = .ok (.aload_n 0, 1) := by decide +kernel
theorem d8_1 : decode prog_7_method_5_code 1 = .ok (.getfield 13, 3) := by decide +kernel
theorem d8_4 : decode prog_7_method_5_code 4 = .ok (.ireturn, 1) := by decide +kernel
theorem ef_rm8 (m : MethodId) (o0 : Addr) : entryFrame m #[(.ref o0)] 1 = mkF m 0 #[.val (.ref o0)] [] := by first | (simp [entryFrame, mkF, argsToLocals, Value.category]; done) | rfl
theorem d14_0 : decode prog_7_method_6_code 0 = .ok (.aload_n 0, 1) := by decide +kernel
theorem d14_1 : decode prog_7_method_6_code 1 = .ok (.getfield 16, 3) := by decide +kernel
theorem d14_4 : decode prog_7_method_6_code 4 = .ok (.ireturn, 1) := by decide +kernel
theorem ef_rm14 (m : MethodId) (o0 : Addr) : entryFrame m #[(.ref o0)] 1 = mkF m 0 #[.val (.ref o0)] [] := by first | (simp [entryFrame, mkF, argsToLocals, Value.category]; done) | rfl
theorem d9_0 : decode prog_7_method_7_code 0 = .ok (.aload_n 0, 1) := by decide +kernel
theorem d9_1 : decode prog_7_method_7_code 1 = .ok (.getfield 19, 3) := by decide +kernel
theorem d9_4 : decode prog_7_method_7_code 4 = .ok (.ireturn, 1) := by decide +kernel
theorem ef_rm9 (m : MethodId) (o0 : Addr) : entryFrame m #[(.ref o0)] 1 = mkF m 0 #[.val (.ref o0)] [] := by first | (simp [entryFrame, mkF, argsToLocals, Value.category]; done) | rfl
theorem d10_0 : decode method_4_code 0 = .ok (.iload_n 0, 1) := by decide +kernel
theorem d10_1 : decode method_4_code 1 = .ok (.i2l, 1) := by decide +kernel
theorem d10_2 : decode method_4_code 2 = .ok (.lstore_n 3, 1) := by decide +kernel
theorem d10_3 : decode method_4_code 3 = .ok (.lload_n 3, 1) := by decide +kernel
theorem d10_4 : decode method_4_code 4 = .ok (.iload_n 1, 1) := by decide +kernel
theorem d10_5 : decode method_4_code 5 = .ok (.i2l, 1) := by decide +kernel
theorem d10_6 : decode method_4_code 6 = .ok (.lsub, 1) := by decide +kernel
theorem d10_7 : decode method_4_code 7 = .ok (.lstore 5, 2) := by decide +kernel
theorem d10_9 : decode method_4_code 9 = .ok (.lconst 0, 1) := by decide +kernel
theorem d10_10 : decode method_4_code 10 = .ok (.lload_n 3, 1) := by decide +kernel
theorem d10_11 : decode method_4_code 11 = .ok (.lcmp, 1) := by decide +kernel
theorem d10_12 : decode method_4_code 12 = .ok (.ifCond .gt 29, 3) := by decide +kernel
theorem d10_41 : decode method_4_code 41 = .ok (.iconst 0, 1) := by decide +kernel
theorem d10_42 : decode method_4_code 42 = .ok (.ireturn, 1) := by decide +kernel
theorem d10_15 : decode method_4_code 15 = .ok (.lload_n 3, 1) := by decide +kernel
theorem d10_16 : decode method_4_code 16 = .ok (.iload_n 2, 1) := by decide +kernel
theorem d10_17 : decode method_4_code 17 = .ok (.i2l, 1) := by decide +kernel
theorem d10_18 : decode method_4_code 18 = .ok (.lcmp, 1) := by decide +kernel
theorem d10_19 : decode method_4_code 19 = .ok (.ifCond .ge 22, 3) := by decide +kernel
theorem d10_22 : decode method_4_code 22 = .ok (.lconst 0, 1) := by decide +kernel
theorem d10_23 : decode method_4_code 23 = .ok (.lload 5, 2) := by decide +kernel
theorem d10_25 : decode method_4_code 25 = .ok (.lcmp, 1) := by decide +kernel
theorem d10_26 : decode method_4_code 26 = .ok (.ifCond .gt 15, 3) := by decide +kernel
theorem d10_29 : decode method_4_code 29 = .ok (.lload 5, 2) := by decide +kernel
theorem d10_31 : decode method_4_code 31 = .ok (.iload_n 2, 1) := by decide +kernel
theorem d10_32 : decode method_4_code 32 = .ok (.i2l, 1) := by decide +kernel
theorem d10_33 : decode method_4_code 33 = .ok (.lcmp, 1) := by decide +kernel
theorem d10_34 : decode method_4_code 34 = .ok (.ifCond .ge 7, 3) := by decide +kernel
theorem d10_37 : decode method_4_code 37 = .ok (.iconst 1, 1) := by decide +kernel
theorem d10_38 : decode method_4_code 38 = .ok (.goto 4, 3) := by decide +kernel
theorem ef_rm10 (m : MethodId) (p0 : Int32) (p1 : Int32) (p2 : Int32) : entryFrame m #[(.int p0), (.int p1), (.int p2)] 7 = mkF m 0 #[.val (.int p0), .val (.int p1), .val (.int p2), .unset, .unset, .unset, .unset] [] := by first | (simp [entryFrame, mkF, argsToLocals, Value.category]; done) | rfl
theorem d13_0 : decode prog_7_method_8_code 0 = .ok (.aload_n 0, 1) := by decide +kernel
theorem d13_1 : decode prog_7_method_8_code 1 = .ok (.getfield 16, 3) := by decide +kernel
theorem d13_4 : decode prog_7_method_8_code 4 = .ok (.aload_n 0, 1) := by decide +kernel
theorem d13_5 : decode prog_7_method_8_code 5 = .ok (.getfield 7, 3) := by decide +kernel
theorem d13_8 : decode prog_7_method_8_code 8 = .ok (.if_icmp .le 38, 3) := by decide +kernel
theorem d13_11 : decode prog_7_method_8_code 11 = .ok (.aload_n 0, 1) := by decide +kernel
theorem d13_12 : decode prog_7_method_8_code 12 = .ok (.getfield 19, 3) := by decide +kernel
theorem d13_15 : decode prog_7_method_8_code 15 = .ok (.aload_n 0, 1) := by decide +kernel
theorem d13_16 : decode prog_7_method_8_code 16 = .ok (.getfield 13, 3) := by decide +kernel
theorem d13_19 : decode prog_7_method_8_code 19 = .ok (.if_icmp .le 27, 3) := by decide +kernel
theorem d13_22 : decode prog_7_method_8_code 22 = .ok (.aload_n 0, 1) := by decide +kernel
theorem d13_23 : decode prog_7_method_8_code 23 = .ok (.getfield 16, 3) := by decide +kernel
theorem d13_26 : decode prog_7_method_8_code 26 = .ok (.aload_n 0, 1) := by decide +kernel
theorem d13_27 : decode prog_7_method_8_code 27 = .ok (.getfield 7, 3) := by decide +kernel
theorem d13_30 : decode prog_7_method_8_code 30 = .ok (.isub, 1) := by decide +kernel
theorem d13_31 : decode prog_7_method_8_code 31 = .ok (.i2d, 1) := by decide +kernel
theorem d13_32 : decode prog_7_method_8_code 32 = .ok (.aload_n 0, 1) := by decide +kernel
theorem d13_33 : decode prog_7_method_8_code 33 = .ok (.getfield 19, 3) := by decide +kernel
theorem d13_36 : decode prog_7_method_8_code 36 = .ok (.aload_n 0, 1) := by decide +kernel
theorem d13_37 : decode prog_7_method_8_code 37 = .ok (.getfield 13, 3) := by decide +kernel
theorem d13_40 : decode prog_7_method_8_code 40 = .ok (.isub, 1) := by decide +kernel
theorem d13_41 : decode prog_7_method_8_code 41 = .ok (.i2d, 1) := by decide +kernel
theorem d13_42 : decode prog_7_method_8_code 42 = .ok (.dmul, 1) := by decide +kernel
theorem d13_43 : decode prog_7_method_8_code 43 = .ok (.goto 4, 3) := by decide +kernel
theorem d13_47 : decode prog_7_method_8_code 47 = .ok (.dreturn, 1) := by decide +kernel
theorem d13_46 : decode prog_7_method_8_code 46 = .ok (.dconst 0, 1) := by decide +kernel
theorem ef_rm13 (m : MethodId) (o0 : Addr) : entryFrame m #[(.ref o0)] 1 = mkF m 0 #[.val (.ref o0)] [] := by first | (simp [entryFrame, mkF, argsToLocals, Value.category]; done) | rfl
theorem pd_2 : parseMethodDescriptor "(III)I" = some ⟨[.int, .int, .int], some .int⟩ := by decide +kernel
theorem pd_3 : parseMethodDescriptor "(IIII)Lcom/example/vetrino/vetrino/Overlap;" = some ⟨[.int, .int, .int, .int], some (.object "com/example/vetrino/vetrino/Overlap")⟩ := by decide +kernel
theorem pd_4 : parseMethodDescriptor "()I" = some ⟨[], some .int⟩ := by decide +kernel
theorem pd_5 : parseMethodDescriptor "(III)Z" = some ⟨[.int, .int, .int], some .boolean⟩ := by decide +kernel
theorem pd_6 : parseMethodDescriptor "(J)J" = some ⟨[.long], some .long⟩ := by decide +kernel
theorem pd_7 : parseMethodDescriptor "(JJ)J" = some ⟨[.long, .long], some .long⟩ := by decide +kernel
theorem pd_8 : parseMethodDescriptor "()D" = some ⟨[], some .double⟩ := by decide +kernel
theorem ef_rm0 (m : MethodId) (p0 : Int32) (p1 : Int32) (p2 : Int32) (p3 : Int32) (p4 : Int32) (p5 : Int32) : entryFrame m #[(.int p0), (.int p1), (.int p2), (.int p3), (.int p4), (.int p5)] maxLocals = mkF m 0 #[.val (.int p0), .val (.int p1), .val (.int p2), .val (.int p3), .val (.int p4), .val (.int p5), .unset, .unset, .unset, .unset, .unset, .unset, .unset, .unset, .unset, .unset, .unset, .unset, .unset, .unset, .unset] [] := by first | (simp [entryFrame, mkF, argsToLocals, Value.category, maxLocals]; done) | rfl
def Q3 (Z : State) (p0 : Int32) (p1 : Int32) (rv : Int32) (h0 : Heap) (n0 : Nat) (v : Option Value) (h : Heap) (L : List Loc) : Prop := v = some (.int rv) ∧ Fr n0 L ∧ h = h0
set_option maxRecDepth 65536 in
set_option maxHeartbeats 40000000 in
theorem rm3 (l : Launch) (Z : State) (a0 : Array Value) (hw : ∀ d ∈ tables_1, d.before a0 Z = true) (ws : List Jvm.Cond) (p0 : Int32) (p1 : Int32) (rv : Int32) (h0 : Heap) (n0 : Nat) (Z0 : n0 ≤ h0.size) (hrv : (if p0 < p1 then p1 else p0) = rv) :
    MetFree l (⟨"java/lang/Math", "max", "(II)I"⟩ : MethodName) (head1 (Jvm.Cond.code (⟨"java/lang/Math", "max", "(II)I"⟩ : MethodName) jdk_29_method_65_code 2 (some .int) :: ws) ({ frames := 0, cells := 0, slots := 0, locals := 0 } : Room)) (fun a U => a = #[(.int p0), (.int p1)] ∧ Z.Warmed39 U.vm ∧ U.heap = h0) (fun _ _ _ _ _ => True) (fun _ U o U' => ∃ v L, o = .returned v ∧ Q3 Z p0 p1 rv h0 n0 v U'.heap L ∧ FrameEnd U o U' L ({ frames := 0, cells := 0, slots := 0, locals := 0 } : Room).cells ({ frames := 0, cells := 0, slots := 0, locals := 0 } : Room).slots) := by
  refine MetFree.of_bodySF (Jvm.Free.JP.mathPlain rfl (by decide +kernel)) hisR ?_
  intro p e s m args below meth c s₁ Bd hml0 hP hK
  obtain ⟨rfl, hZ, hh⟩ := hP
  have hx := Bd.exec
  have hby := Bd.bytes
  have hml : c.maxLocals = 2 := hml0
  have hown : s.vm.findClass "java/lang/Math" = some m.cls := findClass_of_methodNamed Bd.named
  have hnm := (name_of_methodNamed Bd.named Bd.method).1
  have X0 : Stand p l e ({ frames := 0, cells := 0, slots := 0, locals := 0 } : Room) s m #[(.int p0), (.int p1)] below meth c s₁ [] 0 0 := Stand.of_body Bd
  have e0 : s₁.heap = h0 := by rw [← hh, Bd.state]; rfl
  have N0 := Fr.nil n0
  have c0 : ∀ t, Steps p.tables e below (s₁.setTop (mkF m 0 #[.val (.int p0), .val (.int p1)] [])) t → Steps p.tables e below (s₁.setTop (entryFrame m #[(.int p0), (.int p1)] 2)) t := fun t k => castTop (ef_rm3 m p0 p1) k
  have c1 : ∀ t, Steps p.tables e below (s₁.setTop (mkF m 2 #[.val (.int p0), .val (.int p1)] [(.int p1), (.int p0)])) t → Steps p.tables e below (s₁.setTop (entryFrame m #[(.int p0), (.int p1)] 2)) t := by
    intro t k
    refine c0 t ?_
    show Steps p.tables e below (s₁.setTop (mkF m 0 #[.val (.int p0), .val (.int p1)] [])) _
    refine XS.iloadN X0.here hx rfl (hb hby d3_0) rfl ?_
    show Steps p.tables e below (s₁.setTop (mkF m 1 #[.val (.int p0), .val (.int p1)] [(.int p0)])) _
    refine XS.iloadN X0.here hx rfl (hb hby d3_1) rfl ?_
    exact k
  by_cases hb2 : p0 < p1
  · skip
    have c2 : ∀ t, Steps p.tables e below (s₁.setTop (mkF m 10 #[.val (.int p0), .val (.int p1)] [(.int p1)])) t → Steps p.tables e below (s₁.setTop (entryFrame m #[(.int p0), (.int p1)] 2)) t := by
      intro t k
      refine c1 t ?_
      show Steps p.tables e below (s₁.setTop (mkF m 2 #[.val (.int p0), .val (.int p1)] [(.int p1), (.int p0)])) _
      refine XS.icmpYes X0.here hx rfl (pc0 := 2) (pc' := 9) rfl (hb hby d3_2) rfl (Jvm.Free.XT.ii_lt_t hb2) (by decide) (by decide) ?_
      show Steps p.tables e below (s₁.setTop (mkF m 9 #[.val (.int p0), .val (.int p1)] [])) _
      refine XS.iloadN X0.here hx rfl (hb hby d3_9) rfl ?_
      exact k
    obtain ⟨fs, hr, hrun, hended, hW, hsame⟩ := X0.leave (v := some (.int p1)) (fun h => by rw [Bd.returns] at h; cases h)
    refine ⟨_, _, c2 _ ?_, hrun, hended, _, _, rfl, ?_, ⟨_, rfl⟩, hW, hsame.mono (by decide) (by decide)⟩
    · show Steps p.tables e below (s₁.setTop (mkF m 10 #[.val (.int p0), .val (.int p1)] [(.int p1)])) _
      exact retOut X0 hx Bd.returns rfl (Or.inl ⟨rfl, by simp, _, rfl⟩) (hb hby d3_10) hr
    · show Q3 Z p0 p1 rv h0 n0 _ s₁.heap _
      rw [e0]
      exact ⟨(congrArg (fun z => some (Value.int z)) (show p1 = rv by rw [← hrv]; simp only [if_pos hb2])), by first | assumption | exact N0, rfl⟩
  · skip
    have c3 : ∀ t, Steps p.tables e below (s₁.setTop (mkF m 10 #[.val (.int p0), .val (.int p1)] [(.int p0)])) t → Steps p.tables e below (s₁.setTop (entryFrame m #[(.int p0), (.int p1)] 2)) t := by
      intro t k
      refine c1 t ?_
      show Steps p.tables e below (s₁.setTop (mkF m 2 #[.val (.int p0), .val (.int p1)] [(.int p1), (.int p0)])) _
      refine XS.icmpNo X0.here hx rfl (hb hby d3_2) rfl (Jvm.Free.XT.ii_lt_f hb2) ?_
      show Steps p.tables e below (s₁.setTop (mkF m 5 #[.val (.int p0), .val (.int p1)] [])) _
      refine XS.iloadN X0.here hx rfl (hb hby d3_5) rfl ?_
      show Steps p.tables e below (s₁.setTop (mkF m 6 #[.val (.int p0), .val (.int p1)] [(.int p0)])) _
      refine XS.goto X0.here hx rfl (pc0 := 6) (pc' := 10) rfl (hb hby d3_6) (by decide) (by decide) ?_
      exact k
    obtain ⟨fs, hr, hrun, hended, hW, hsame⟩ := X0.leave (v := some (.int p0)) (fun h => by rw [Bd.returns] at h; cases h)
    refine ⟨_, _, c3 _ ?_, hrun, hended, _, _, rfl, ?_, ⟨_, rfl⟩, hW, hsame.mono (by decide) (by decide)⟩
    · show Steps p.tables e below (s₁.setTop (mkF m 10 #[.val (.int p0), .val (.int p1)] [(.int p0)])) _
      exact retOut X0 hx Bd.returns rfl (Or.inl ⟨rfl, by simp, _, rfl⟩) (hb hby d3_10) hr
    · show Q3 Z p0 p1 rv h0 n0 _ s₁.heap _
      rw [e0]
      exact ⟨(congrArg (fun z => some (Value.int z)) (show p0 = rv by rw [← hrv]; simp only [if_neg hb2])), by first | assumption | exact N0, rfl⟩
def Q4 (Z : State) (p0 : Int32) (p1 : Int32) (rv : Int32) (h0 : Heap) (n0 : Nat) (v : Option Value) (h : Heap) (L : List Loc) : Prop := v = some (.int rv) ∧ Fr n0 L ∧ h = h0
set_option maxRecDepth 65536 in
set_option maxHeartbeats 40000000 in
theorem rm4 (l : Launch) (Z : State) (a0 : Array Value) (hw : ∀ d ∈ tables_1, d.before a0 Z = true) (ws : List Jvm.Cond) (p0 : Int32) (p1 : Int32) (rv : Int32) (h0 : Heap) (n0 : Nat) (Z0 : n0 ≤ h0.size) (hrv : (if p1 < p0 then p1 else p0) = rv) :
    MetFree l (⟨"java/lang/Math", "min", "(II)I"⟩ : MethodName) (head1 (Jvm.Cond.code (⟨"java/lang/Math", "min", "(II)I"⟩ : MethodName) jdk_29_method_69_code 2 (some .int) :: ws) ({ frames := 0, cells := 0, slots := 0, locals := 0 } : Room)) (fun a U => a = #[(.int p0), (.int p1)] ∧ Z.Warmed39 U.vm ∧ U.heap = h0) (fun _ _ _ _ _ => True) (fun _ U o U' => ∃ v L, o = .returned v ∧ Q4 Z p0 p1 rv h0 n0 v U'.heap L ∧ FrameEnd U o U' L ({ frames := 0, cells := 0, slots := 0, locals := 0 } : Room).cells ({ frames := 0, cells := 0, slots := 0, locals := 0 } : Room).slots) := by
  refine MetFree.of_bodySF (Jvm.Free.JP.mathPlain rfl (by decide +kernel)) hisR ?_
  intro p e s m args below meth c s₁ Bd hml0 hP hK
  obtain ⟨rfl, hZ, hh⟩ := hP
  have hx := Bd.exec
  have hby := Bd.bytes
  have hml : c.maxLocals = 2 := hml0
  have hown : s.vm.findClass "java/lang/Math" = some m.cls := findClass_of_methodNamed Bd.named
  have hnm := (name_of_methodNamed Bd.named Bd.method).1
  have X0 : Stand p l e ({ frames := 0, cells := 0, slots := 0, locals := 0 } : Room) s m #[(.int p0), (.int p1)] below meth c s₁ [] 0 0 := Stand.of_body Bd
  have e0 : s₁.heap = h0 := by rw [← hh, Bd.state]; rfl
  have N0 := Fr.nil n0
  have c0 : ∀ t, Steps p.tables e below (s₁.setTop (mkF m 0 #[.val (.int p0), .val (.int p1)] [])) t → Steps p.tables e below (s₁.setTop (entryFrame m #[(.int p0), (.int p1)] 2)) t := fun t k => castTop (ef_rm4 m p0 p1) k
  have c1 : ∀ t, Steps p.tables e below (s₁.setTop (mkF m 2 #[.val (.int p0), .val (.int p1)] [(.int p1), (.int p0)])) t → Steps p.tables e below (s₁.setTop (entryFrame m #[(.int p0), (.int p1)] 2)) t := by
    intro t k
    refine c0 t ?_
    show Steps p.tables e below (s₁.setTop (mkF m 0 #[.val (.int p0), .val (.int p1)] [])) _
    refine XS.iloadN X0.here hx rfl (hb hby d4_0) rfl ?_
    show Steps p.tables e below (s₁.setTop (mkF m 1 #[.val (.int p0), .val (.int p1)] [(.int p0)])) _
    refine XS.iloadN X0.here hx rfl (hb hby d4_1) rfl ?_
    exact k
  by_cases hb2 : p1 < p0
  · skip
    have c2 : ∀ t, Steps p.tables e below (s₁.setTop (mkF m 10 #[.val (.int p0), .val (.int p1)] [(.int p1)])) t → Steps p.tables e below (s₁.setTop (entryFrame m #[(.int p0), (.int p1)] 2)) t := by
      intro t k
      refine c1 t ?_
      show Steps p.tables e below (s₁.setTop (mkF m 2 #[.val (.int p0), .val (.int p1)] [(.int p1), (.int p0)])) _
      refine XS.icmpYes X0.here hx rfl (pc0 := 2) (pc' := 9) rfl (hb hby d4_2) rfl (Jvm.Free.XT.ii_gt_t hb2) (by decide) (by decide) ?_
      show Steps p.tables e below (s₁.setTop (mkF m 9 #[.val (.int p0), .val (.int p1)] [])) _
      refine XS.iloadN X0.here hx rfl (hb hby d4_9) rfl ?_
      exact k
    obtain ⟨fs, hr, hrun, hended, hW, hsame⟩ := X0.leave (v := some (.int p1)) (fun h => by rw [Bd.returns] at h; cases h)
    refine ⟨_, _, c2 _ ?_, hrun, hended, _, _, rfl, ?_, ⟨_, rfl⟩, hW, hsame.mono (by decide) (by decide)⟩
    · show Steps p.tables e below (s₁.setTop (mkF m 10 #[.val (.int p0), .val (.int p1)] [(.int p1)])) _
      exact retOut X0 hx Bd.returns rfl (Or.inl ⟨rfl, by simp, _, rfl⟩) (hb hby d4_10) hr
    · show Q4 Z p0 p1 rv h0 n0 _ s₁.heap _
      rw [e0]
      exact ⟨(congrArg (fun z => some (Value.int z)) (show p1 = rv by rw [← hrv]; simp only [if_pos hb2])), by first | assumption | exact N0, rfl⟩
  · skip
    have c3 : ∀ t, Steps p.tables e below (s₁.setTop (mkF m 10 #[.val (.int p0), .val (.int p1)] [(.int p0)])) t → Steps p.tables e below (s₁.setTop (entryFrame m #[(.int p0), (.int p1)] 2)) t := by
      intro t k
      refine c1 t ?_
      show Steps p.tables e below (s₁.setTop (mkF m 2 #[.val (.int p0), .val (.int p1)] [(.int p1), (.int p0)])) _
      refine XS.icmpNo X0.here hx rfl (hb hby d4_2) rfl (Jvm.Free.XT.ii_gt_f hb2) ?_
      show Steps p.tables e below (s₁.setTop (mkF m 5 #[.val (.int p0), .val (.int p1)] [])) _
      refine XS.iloadN X0.here hx rfl (hb hby d4_5) rfl ?_
      show Steps p.tables e below (s₁.setTop (mkF m 6 #[.val (.int p0), .val (.int p1)] [(.int p0)])) _
      refine XS.goto X0.here hx rfl (pc0 := 6) (pc' := 10) rfl (hb hby d4_6) (by decide) (by decide) ?_
      exact k
    obtain ⟨fs, hr, hrun, hended, hW, hsame⟩ := X0.leave (v := some (.int p0)) (fun h => by rw [Bd.returns] at h; cases h)
    refine ⟨_, _, c3 _ ?_, hrun, hended, _, _, rfl, ?_, ⟨_, rfl⟩, hW, hsame.mono (by decide) (by decide)⟩
    · show Steps p.tables e below (s₁.setTop (mkF m 10 #[.val (.int p0), .val (.int p1)] [(.int p0)])) _
      exact retOut X0 hx Bd.returns rfl (Or.inl ⟨rfl, by simp, _, rfl⟩) (hb hby d4_10) hr
    · show Q4 Z p0 p1 rv h0 n0 _ s₁.heap _
      rw [e0]
      exact ⟨(congrArg (fun z => some (Value.int z)) (show p0 = rv by rw [← hrv]; simp only [if_neg hb2])), by first | assumption | exact N0, rfl⟩
def Q11 (Z : State) (q0 : Int64) (z2 : Int32) (z7 : Int64) (rv : Int64) (h0 : Heap) (n0 : Nat) (v : Option Value) (h : Heap) (L : List Loc) : Prop := v = some (.long rv) ∧ Fr n0 L ∧ h = h0
set_option maxRecDepth 65536 in
set_option maxHeartbeats 40000000 in
theorem rm11 (l : Launch) (Z : State) (a0 : Array Value) (hw : ∀ d ∈ tables_1, d.before a0 Z = true) (ws : List Jvm.Cond) (q0 : Int64) (z2 : Int32) (z7 : Int64) (rv : Int64) (h0 : Heap) (n0 : Nat) (Z0 : n0 ≤ h0.size) (hz2 : lcmpW q0 (0 : Int64) = z2) (hz7 : -q0 = z7) (hrv : (if z2 < (0 : Int32) then z7 else q0) = rv) :
    MetFree l (⟨"java/lang/Math", "abs", "(J)J"⟩ : MethodName) (head1 (Jvm.Cond.code (⟨"java/lang/Math", "abs", "(J)J"⟩ : MethodName) jdk_29_method_61_code 2 (some .long) :: ws) ({ frames := 0, cells := 0, slots := 0, locals := 0 } : Room)) (fun a U => a = #[(.long q0)] ∧ Z.Warmed39 U.vm ∧ U.heap = h0) (fun _ _ _ _ _ => True) (fun _ U o U' => ∃ v L, o = .returned v ∧ Q11 Z q0 z2 z7 rv h0 n0 v U'.heap L ∧ FrameEnd U o U' L ({ frames := 0, cells := 0, slots := 0, locals := 0 } : Room).cells ({ frames := 0, cells := 0, slots := 0, locals := 0 } : Room).slots) := by
  refine MetFree.of_bodySF (Jvm.Free.JP.mathPlain rfl (by decide +kernel)) hisR ?_
  intro p e s m args below meth c s₁ Bd hml0 hP hK
  obtain ⟨rfl, hZ, hh⟩ := hP
  have hx := Bd.exec
  have hby := Bd.bytes
  have hml : c.maxLocals = 2 := hml0
  have hown : s.vm.findClass "java/lang/Math" = some m.cls := findClass_of_methodNamed Bd.named
  have hnm := (name_of_methodNamed Bd.named Bd.method).1
  have X0 : Stand p l e ({ frames := 0, cells := 0, slots := 0, locals := 0 } : Room) s m #[(.long q0)] below meth c s₁ [] 0 0 := Stand.of_body Bd
  have e0 : s₁.heap = h0 := by rw [← hh, Bd.state]; rfl
  have N0 := Fr.nil n0
  have c0 : ∀ t, Steps p.tables e below (s₁.setTop (mkF m 0 #[.val (.long q0), .second] [])) t → Steps p.tables e below (s₁.setTop (entryFrame m #[(.long q0)] 2)) t := fun t k => castTop (ef_rm11 m q0) k
  have c1 : ∀ t, Steps p.tables e below (s₁.setTop (mkF m 3 #[.val (.long q0), .second] [(.int z2)])) t → Steps p.tables e below (s₁.setTop (entryFrame m #[(.long q0)] 2)) t := by
    intro t k
    refine c0 t ?_
    show Steps p.tables e below (s₁.setTop (mkF m 0 #[.val (.long q0), .second] [])) _
    refine XS.lloadN X0.here hx rfl (hb hby d11_0) rfl ?_
    show Steps p.tables e below (s₁.setTop (mkF m 1 #[.val (.long q0), .second] [(.long q0)])) _
    refine XS.lconst X0.here hx rfl (hb hby d11_1) ?_
    show Steps p.tables e below (s₁.setTop (mkF m 2 #[.val (.long q0), .second] [(.long (0 : Int64)), (.long q0)])) _
    refine Jvm.OwnK.lcmp X0.here hx rfl (hb hby d11_2) rfl hz2 ?_
    exact k
  by_cases hb3 : z2 < (0 : Int32)
  · skip
    have c2 : ∀ t, Steps p.tables e below (s₁.setTop (mkF m 12 #[.val (.long q0), .second] [(.long z7)])) t → Steps p.tables e below (s₁.setTop (entryFrame m #[(.long q0)] 2)) t := by
      intro t k
      refine c1 t ?_
      show Steps p.tables e below (s₁.setTop (mkF m 3 #[.val (.long q0), .second] [(.int z2)])) _
      refine XS.ifNo X0.here hx rfl (hb hby d11_3) rfl (Jvm.Free.XT.i0_ge_f hb3) ?_
      show Steps p.tables e below (s₁.setTop (mkF m 6 #[.val (.long q0), .second] [])) _
      refine XS.lloadN X0.here hx rfl (hb hby d11_6) rfl ?_
      show Steps p.tables e below (s₁.setTop (mkF m 7 #[.val (.long q0), .second] [(.long q0)])) _
      refine Jvm.OwnK.lneg X0.here hx rfl (hb hby d11_7) rfl hz7 ?_
      show Steps p.tables e below (s₁.setTop (mkF m 8 #[.val (.long q0), .second] [(.long z7)])) _
      refine XS.goto X0.here hx rfl (pc0 := 8) (pc' := 12) rfl (hb hby d11_8) (by decide) (by decide) ?_
      exact k
    obtain ⟨fs, hr, hrun, hended, hW, hsame⟩ := X0.leave (v := some (.long z7)) (fun h => by rw [Bd.returns] at h; cases h)
    refine ⟨_, _, c2 _ ?_, hrun, hended, _, _, rfl, ?_, ⟨_, rfl⟩, hW, hsame.mono (by decide) (by decide)⟩
    · show Steps p.tables e below (s₁.setTop (mkF m 12 #[.val (.long q0), .second] [(.long z7)])) _
      exact retOut X0 hx Bd.returns rfl (Or.inr (Or.inl ⟨rfl, rfl, _, rfl⟩)) (hb hby d11_12) hr
    · show Q11 Z q0 z2 z7 rv h0 n0 _ s₁.heap _
      rw [e0]
      exact ⟨(congrArg (fun z => some (Value.long z)) (show z7 = rv by rw [← hrv]; simp only [if_pos hb3])), by first | assumption | exact N0, rfl⟩
  · skip
    have c3 : ∀ t, Steps p.tables e below (s₁.setTop (mkF m 12 #[.val (.long q0), .second] [(.long q0)])) t → Steps p.tables e below (s₁.setTop (entryFrame m #[(.long q0)] 2)) t := by
      intro t k
      refine c1 t ?_
      show Steps p.tables e below (s₁.setTop (mkF m 3 #[.val (.long q0), .second] [(.int z2)])) _
      refine XS.ifYes X0.here hx rfl (pc0 := 3) (pc' := 11) rfl (hb hby d11_3) rfl (Jvm.Free.XT.i0_ge_t hb3) (by decide) (by decide) ?_
      show Steps p.tables e below (s₁.setTop (mkF m 11 #[.val (.long q0), .second] [])) _
      refine XS.lloadN X0.here hx rfl (hb hby d11_11) rfl ?_
      exact k
    obtain ⟨fs, hr, hrun, hended, hW, hsame⟩ := X0.leave (v := some (.long q0)) (fun h => by rw [Bd.returns] at h; cases h)
    refine ⟨_, _, c3 _ ?_, hrun, hended, _, _, rfl, ?_, ⟨_, rfl⟩, hW, hsame.mono (by decide) (by decide)⟩
    · show Steps p.tables e below (s₁.setTop (mkF m 12 #[.val (.long q0), .second] [(.long q0)])) _
      exact retOut X0 hx Bd.returns rfl (Or.inr (Or.inl ⟨rfl, rfl, _, rfl⟩)) (hb hby d11_12) hr
    · show Q11 Z q0 z2 z7 rv h0 n0 _ s₁.heap _
      rw [e0]
      exact ⟨(congrArg (fun z => some (Value.long z)) (show q0 = rv by rw [← hrv]; simp only [if_neg hb3])), by first | assumption | exact N0, rfl⟩
def Q12 (Z : State) (q0 : Int64) (q1 : Int64) (z2 : Int32) (rv : Int64) (h0 : Heap) (n0 : Nat) (v : Option Value) (h : Heap) (L : List Loc) : Prop := v = some (.long rv) ∧ Fr n0 L ∧ h = h0
set_option maxRecDepth 65536 in
set_option maxHeartbeats 40000000 in
theorem rm12 (l : Launch) (Z : State) (a0 : Array Value) (hw : ∀ d ∈ tables_1, d.before a0 Z = true) (ws : List Jvm.Cond) (q0 : Int64) (q1 : Int64) (z2 : Int32) (rv : Int64) (h0 : Heap) (n0 : Nat) (Z0 : n0 ≤ h0.size) (hz2 : lcmpW q0 q1 = z2) (hrv : (if z2 < (0 : Int32) then q1 else q0) = rv) :
    MetFree l (⟨"java/lang/Math", "max", "(JJ)J"⟩ : MethodName) (head1 (Jvm.Cond.code (⟨"java/lang/Math", "max", "(JJ)J"⟩ : MethodName) jdk_29_method_66_code 4 (some .long) :: ws) ({ frames := 0, cells := 0, slots := 0, locals := 0 } : Room)) (fun a U => a = #[(.long q0), (.long q1)] ∧ Z.Warmed39 U.vm ∧ U.heap = h0) (fun _ _ _ _ _ => True) (fun _ U o U' => ∃ v L, o = .returned v ∧ Q12 Z q0 q1 z2 rv h0 n0 v U'.heap L ∧ FrameEnd U o U' L ({ frames := 0, cells := 0, slots := 0, locals := 0 } : Room).cells ({ frames := 0, cells := 0, slots := 0, locals := 0 } : Room).slots) := by
  refine MetFree.of_bodySF (Jvm.Free.JP.mathPlain rfl (by decide +kernel)) hisR ?_
  intro p e s m args below meth c s₁ Bd hml0 hP hK
  obtain ⟨rfl, hZ, hh⟩ := hP
  have hx := Bd.exec
  have hby := Bd.bytes
  have hml : c.maxLocals = 4 := hml0
  have hown : s.vm.findClass "java/lang/Math" = some m.cls := findClass_of_methodNamed Bd.named
  have hnm := (name_of_methodNamed Bd.named Bd.method).1
  have X0 : Stand p l e ({ frames := 0, cells := 0, slots := 0, locals := 0 } : Room) s m #[(.long q0), (.long q1)] below meth c s₁ [] 0 0 := Stand.of_body Bd
  have e0 : s₁.heap = h0 := by rw [← hh, Bd.state]; rfl
  have N0 := Fr.nil n0
  have c0 : ∀ t, Steps p.tables e below (s₁.setTop (mkF m 0 #[.val (.long q0), .second, .val (.long q1), .second] [])) t → Steps p.tables e below (s₁.setTop (entryFrame m #[(.long q0), (.long q1)] 4)) t := fun t k => castTop (ef_rm12 m q0 q1) k
  have c1 : ∀ t, Steps p.tables e below (s₁.setTop (mkF m 3 #[.val (.long q0), .second, .val (.long q1), .second] [(.int z2)])) t → Steps p.tables e below (s₁.setTop (entryFrame m #[(.long q0), (.long q1)] 4)) t := by
    intro t k
    refine c0 t ?_
    show Steps p.tables e below (s₁.setTop (mkF m 0 #[.val (.long q0), .second, .val (.long q1), .second] [])) _
    refine XS.lloadN X0.here hx rfl (hb hby d12_0) rfl ?_
    show Steps p.tables e below (s₁.setTop (mkF m 1 #[.val (.long q0), .second, .val (.long q1), .second] [(.long q0)])) _
    refine XS.lloadN X0.here hx rfl (hb hby d12_1) rfl ?_
    show Steps p.tables e below (s₁.setTop (mkF m 2 #[.val (.long q0), .second, .val (.long q1), .second] [(.long q1), (.long q0)])) _
    refine Jvm.OwnK.lcmp X0.here hx rfl (hb hby d12_2) rfl hz2 ?_
    exact k
  by_cases hb3 : z2 < (0 : Int32)
  · skip
    have c2 : ∀ t, Steps p.tables e below (s₁.setTop (mkF m 11 #[.val (.long q0), .second, .val (.long q1), .second] [(.long q1)])) t → Steps p.tables e below (s₁.setTop (entryFrame m #[(.long q0), (.long q1)] 4)) t := by
      intro t k
      refine c1 t ?_
      show Steps p.tables e below (s₁.setTop (mkF m 3 #[.val (.long q0), .second, .val (.long q1), .second] [(.int z2)])) _
      refine XS.ifYes X0.here hx rfl (pc0 := 3) (pc' := 10) rfl (hb hby d12_3) rfl (Jvm.Free.XT.i0_lt_t hb3) (by decide) (by decide) ?_
      show Steps p.tables e below (s₁.setTop (mkF m 10 #[.val (.long q0), .second, .val (.long q1), .second] [])) _
      refine XS.lloadN X0.here hx rfl (hb hby d12_10) rfl ?_
      exact k
    obtain ⟨fs, hr, hrun, hended, hW, hsame⟩ := X0.leave (v := some (.long q1)) (fun h => by rw [Bd.returns] at h; cases h)
    refine ⟨_, _, c2 _ ?_, hrun, hended, _, _, rfl, ?_, ⟨_, rfl⟩, hW, hsame.mono (by decide) (by decide)⟩
    · show Steps p.tables e below (s₁.setTop (mkF m 11 #[.val (.long q0), .second, .val (.long q1), .second] [(.long q1)])) _
      exact retOut X0 hx Bd.returns rfl (Or.inr (Or.inl ⟨rfl, rfl, _, rfl⟩)) (hb hby d12_11) hr
    · show Q12 Z q0 q1 z2 rv h0 n0 _ s₁.heap _
      rw [e0]
      exact ⟨(congrArg (fun z => some (Value.long z)) (show q1 = rv by rw [← hrv]; simp only [if_pos hb3])), by first | assumption | exact N0, rfl⟩
  · skip
    have c3 : ∀ t, Steps p.tables e below (s₁.setTop (mkF m 11 #[.val (.long q0), .second, .val (.long q1), .second] [(.long q0)])) t → Steps p.tables e below (s₁.setTop (entryFrame m #[(.long q0), (.long q1)] 4)) t := by
      intro t k
      refine c1 t ?_
      show Steps p.tables e below (s₁.setTop (mkF m 3 #[.val (.long q0), .second, .val (.long q1), .second] [(.int z2)])) _
      refine XS.ifNo X0.here hx rfl (hb hby d12_3) rfl (Jvm.Free.XT.i0_lt_f hb3) ?_
      show Steps p.tables e below (s₁.setTop (mkF m 6 #[.val (.long q0), .second, .val (.long q1), .second] [])) _
      refine XS.lloadN X0.here hx rfl (hb hby d12_6) rfl ?_
      show Steps p.tables e below (s₁.setTop (mkF m 7 #[.val (.long q0), .second, .val (.long q1), .second] [(.long q0)])) _
      refine XS.goto X0.here hx rfl (pc0 := 7) (pc' := 11) rfl (hb hby d12_7) (by decide) (by decide) ?_
      exact k
    obtain ⟨fs, hr, hrun, hended, hW, hsame⟩ := X0.leave (v := some (.long q0)) (fun h => by rw [Bd.returns] at h; cases h)
    refine ⟨_, _, c3 _ ?_, hrun, hended, _, _, rfl, ?_, ⟨_, rfl⟩, hW, hsame.mono (by decide) (by decide)⟩
    · show Steps p.tables e below (s₁.setTop (mkF m 11 #[.val (.long q0), .second, .val (.long q1), .second] [(.long q0)])) _
      exact retOut X0 hx Bd.returns rfl (Or.inr (Or.inl ⟨rfl, rfl, _, rfl⟩)) (hb hby d12_11) hr
    · show Q12 Z q0 q1 z2 rv h0 n0 _ s₁.heap _
      rw [e0]
      exact ⟨(congrArg (fun z => some (Value.long z)) (show q0 = rv by rw [← hrv]; simp only [if_neg hb3])), by first | assumption | exact N0, rfl⟩
def Q1 (Z : State) (p0 : Int32) (p1 : Int32) (p2 : Int32) (z2 : Int32) (z6 : Int32) (z27 : Int64) (z40 : Int64) (z47 : Int64) (z49 : Int64) (z50 : Int64) (m11_l5 : Int64) (z56 : Int64) (z57 : Int64) (z58 : Int32) (h0 : Heap) (n0 : Nat) (v : Option Value) (h : Heap) (L : List Loc) : Prop := v = some (.int z58) ∧ Fr n0 L ∧ h = h0
set_option maxRecDepth 65536 in
set_option maxHeartbeats 40000000 in
theorem rm1 (l : Launch) (Z : State) (a0 : Array Value) (hw : ∀ d ∈ tables_1, d.before a0 Z = true) (ws : List Jvm.Cond) (p0 : Int32) (p1 : Int32) (p2 : Int32) (z2 : Int32) (z6 : Int32) (z27 : Int64) (z40 : Int64) (z47 : Int64) (z49 : Int64) (z50 : Int64) (m11_l5 : Int64) (z56 : Int64) (z57 : Int64) (z58 : Int32) (h0 : Heap) (n0 : Nat) (Z0 : n0 ≤ h0.size) (hz2 : p0 >>> ((2 : Int32) &&& 31) = z2) (hz6 : p0 &&& (3 : Int32) = z6) (hz27 : p1.toInt64 = z27) (hz40 : p2.toInt64 = z40) (hz47 : p1.toInt64 = z47) (hz49 : p2.toInt64 = z49) (hz50 : z47 + z49 = z50) (hm11_l5 : (if z6 = (0 : Int32) then (0 : Int64) else (if z6 = (1 : Int32) then z27 else (if z6 = (2 : Int32) then z40 else z50))) = m11_l5) (hz56 : z2.toInt64 = z56) (hz57 : m11_l5 + z56 = z57) (hz58 : z57.toInt32 = z58) :
    MetFree l (⟨"com/example/vetrino/vetrino/OverlapOfPinLaw", "probe", "(III)I"⟩ : MethodName) (head1 (Jvm.Cond.code (⟨"com/example/vetrino/vetrino/OverlapOfPinLaw", "probe", "(III)I"⟩ : MethodName) method_3_code 7 (some .int) :: ws) ({ frames := 0, cells := 0, slots := 0, locals := 0 } : Room)) (fun a U => a = #[(.int p0), (.int p1), (.int p2)] ∧ Z.Warmed39 U.vm ∧ U.heap = h0) (fun _ _ _ _ _ => True) (fun _ U o U' => ∃ v L, o = .returned v ∧ Q1 Z p0 p1 p2 z2 z6 z27 z40 z47 z49 z50 m11_l5 z56 z57 z58 h0 n0 v U'.heap L ∧ FrameEnd U o U' L ({ frames := 0, cells := 0, slots := 0, locals := 0 } : Room).cells ({ frames := 0, cells := 0, slots := 0, locals := 0 } : Room).slots) := by
  refine MetFree.of_bodySF (plainFor_of_name pn_0) hisR ?_
  intro p e s m args below meth c s₁ Bd hml0 hP hK
  obtain ⟨rfl, hZ, hh⟩ := hP
  have hx := Bd.exec
  have hby := Bd.bytes
  have hml : c.maxLocals = 7 := hml0
  have hown : s.vm.findClass "com/example/vetrino/vetrino/OverlapOfPinLaw" = some m.cls := findClass_of_methodNamed Bd.named
  have hnm := (name_of_methodNamed Bd.named Bd.method).1
  have X0 : Stand p l e ({ frames := 0, cells := 0, slots := 0, locals := 0 } : Room) s m #[(.int p0), (.int p1), (.int p2)] below meth c s₁ [] 0 0 := Stand.of_body Bd
  have e0 : s₁.heap = h0 := by rw [← hh, Bd.state]; rfl
  have N0 := Fr.nil n0
  have c0 : ∀ t, Steps p.tables e below (s₁.setTop (mkF m 0 #[.val (.int p0), .val (.int p1), .val (.int p2), .unset, .unset, .unset, .unset] [])) t → Steps p.tables e below (s₁.setTop (entryFrame m #[(.int p0), (.int p1), (.int p2)] 7)) t := fun t k => castTop (ef_rm1 m p0 p1 p2) k
  have c1 : ∀ t, Steps p.tables e below (s₁.setTop (mkF m 53 #[.val (.int p0), .val (.int p1), .val (.int p2), .val (.int z2), .val (.int z6), .val (.long m11_l5), .second] [])) t → Steps p.tables e below (s₁.setTop (entryFrame m #[(.int p0), (.int p1), (.int p2)] 7)) t := by
    intro t k
    refine c0 t ?_
    show Steps p.tables e below (s₁.setTop (mkF m 0 #[.val (.int p0), .val (.int p1), .val (.int p2), .unset, .unset, .unset, .unset] [])) _
    refine XS.iloadN X0.here hx rfl (hb hby d1_0) rfl ?_
    show Steps p.tables e below (s₁.setTop (mkF m 1 #[.val (.int p0), .val (.int p1), .val (.int p2), .unset, .unset, .unset, .unset] [(.int p0)])) _
    refine XS.iconst X0.here hx rfl (hb hby d1_1) ?_
    show Steps p.tables e below (s₁.setTop (mkF m 2 #[.val (.int p0), .val (.int p1), .val (.int p2), .unset, .unset, .unset, .unset] [(.int (2 : Int32)), (.int p0)])) _
    refine Jvm.OwnK.ishr X0.here hx rfl (hb hby d1_2) rfl hz2 ?_
    show Steps p.tables e below (s₁.setTop (mkF m 3 #[.val (.int p0), .val (.int p1), .val (.int p2), .unset, .unset, .unset, .unset] [(.int z2)])) _
    refine XS.istoreN X0.here hx rfl (hb hby d1_3) rfl (l' := #[.val (.int p0), .val (.int p1), .val (.int p2), .val (.int z2), .unset, .unset, .unset]) rfl ?_
    show Steps p.tables e below (s₁.setTop (mkF m 4 #[.val (.int p0), .val (.int p1), .val (.int p2), .val (.int z2), .unset, .unset, .unset] [])) _
    refine XS.iloadN X0.here hx rfl (hb hby d1_4) rfl ?_
    show Steps p.tables e below (s₁.setTop (mkF m 5 #[.val (.int p0), .val (.int p1), .val (.int p2), .val (.int z2), .unset, .unset, .unset] [(.int p0)])) _
    refine XS.iconst X0.here hx rfl (hb hby d1_5) ?_
    show Steps p.tables e below (s₁.setTop (mkF m 6 #[.val (.int p0), .val (.int p1), .val (.int p2), .val (.int z2), .unset, .unset, .unset] [(.int (3 : Int32)), (.int p0)])) _
    refine Jvm.OwnK.iand X0.here hx rfl (hb hby d1_6) rfl hz6 ?_
    show Steps p.tables e below (s₁.setTop (mkF m 7 #[.val (.int p0), .val (.int p1), .val (.int p2), .val (.int z2), .unset, .unset, .unset] [(.int z6)])) _
    refine XS.istore X0.here hx rfl (hb hby d1_7) rfl (l' := #[.val (.int p0), .val (.int p1), .val (.int p2), .val (.int z2), .val (.int z6), .unset, .unset]) rfl ?_
    show Steps p.tables e below (s₁.setTop (mkF m 9 #[.val (.int p0), .val (.int p1), .val (.int p2), .val (.int z2), .val (.int z6), .unset, .unset] [])) _
    refine XS.iload X0.here hx rfl (hb hby d1_9) rfl ?_
    by_cases hm11_0 : z6 = (0 : Int32)
    · skip
      show Steps p.tables e below (s₁.setTop (mkF m 11 #[.val (.int p0), .val (.int p1), .val (.int p2), .val (.int z2), .val (.int z6), .unset, .unset] [(.int z6)])) _
      refine XS.ifNo X0.here hx rfl (hb hby d1_11) rfl (Jvm.Free.XT.i0_ne_f hm11_0) ?_
      show Steps p.tables e below (s₁.setTop (mkF m 14 #[.val (.int p0), .val (.int p1), .val (.int p2), .val (.int z2), .val (.int z6), .unset, .unset] [])) _
      refine XS.lconst X0.here hx rfl (hb hby d1_14) ?_
      show Steps p.tables e below (s₁.setTop (mkF m 15 #[.val (.int p0), .val (.int p1), .val (.int p2), .val (.int z2), .val (.int z6), .unset, .unset] [(.long (0 : Int64))])) _
      refine XS.lstore X0.here hx rfl (hb hby d1_15) rfl (l' := #[.val (.int p0), .val (.int p1), .val (.int p2), .val (.int z2), .val (.int z6), .val (.long (0 : Int64)), .second]) rfl ?_
      show Steps p.tables e below (s₁.setTop (mkF m 17 #[.val (.int p0), .val (.int p1), .val (.int p2), .val (.int z2), .val (.int z6), .val (.long (0 : Int64)), .second] [])) _
      refine XS.goto X0.here hx rfl (pc0 := 17) (pc' := 53) rfl (hb hby d1_17) (by decide) (by decide) ?_
      obtain rfl : (0 : Int64) = m11_l5 := by rw [← hm11_l5]; simp only [if_pos hm11_0]
      exact k
    · skip
      show Steps p.tables e below (s₁.setTop (mkF m 11 #[.val (.int p0), .val (.int p1), .val (.int p2), .val (.int z2), .val (.int z6), .unset, .unset] [(.int z6)])) _
      refine XS.ifYes X0.here hx rfl (pc0 := 11) (pc' := 20) rfl (hb hby d1_11) rfl (Jvm.Free.XT.i0_ne_t hm11_0) (by decide) (by decide) ?_
      show Steps p.tables e below (s₁.setTop (mkF m 20 #[.val (.int p0), .val (.int p1), .val (.int p2), .val (.int z2), .val (.int z6), .unset, .unset] [])) _
      refine XS.iload X0.here hx rfl (hb hby d1_20) rfl ?_
      show Steps p.tables e below (s₁.setTop (mkF m 22 #[.val (.int p0), .val (.int p1), .val (.int p2), .val (.int z2), .val (.int z6), .unset, .unset] [(.int z6)])) _
      refine XS.iconst X0.here hx rfl (hb hby d1_22) ?_
      by_cases hm11_1 : z6 = (1 : Int32)
      · skip
        show Steps p.tables e below (s₁.setTop (mkF m 23 #[.val (.int p0), .val (.int p1), .val (.int p2), .val (.int z2), .val (.int z6), .unset, .unset] [(.int (1 : Int32)), (.int z6)])) _
        refine XS.icmpNo X0.here hx rfl (hb hby d1_23) rfl (Jvm.Free.XT.ii_ne_f hm11_1) ?_
        show Steps p.tables e below (s₁.setTop (mkF m 26 #[.val (.int p0), .val (.int p1), .val (.int p2), .val (.int z2), .val (.int z6), .unset, .unset] [])) _
        refine XS.iloadN X0.here hx rfl (hb hby d1_26) rfl ?_
        show Steps p.tables e below (s₁.setTop (mkF m 27 #[.val (.int p0), .val (.int p1), .val (.int p2), .val (.int z2), .val (.int z6), .unset, .unset] [(.int p1)])) _
        refine Jvm.OwnK.i2l X0.here hx rfl (hb hby d1_27) rfl hz27 ?_
        show Steps p.tables e below (s₁.setTop (mkF m 28 #[.val (.int p0), .val (.int p1), .val (.int p2), .val (.int z2), .val (.int z6), .unset, .unset] [(.long z27)])) _
        refine XS.lstore X0.here hx rfl (hb hby d1_28) rfl (l' := #[.val (.int p0), .val (.int p1), .val (.int p2), .val (.int z2), .val (.int z6), .val (.long z27), .second]) rfl ?_
        show Steps p.tables e below (s₁.setTop (mkF m 30 #[.val (.int p0), .val (.int p1), .val (.int p2), .val (.int z2), .val (.int z6), .val (.long z27), .second] [])) _
        refine XS.goto X0.here hx rfl (pc0 := 30) (pc' := 53) rfl (hb hby d1_30) (by decide) (by decide) ?_
        obtain rfl : z27 = m11_l5 := by rw [← hm11_l5]; simp only [if_neg hm11_0, if_pos hm11_1]
        exact k
      · skip
        show Steps p.tables e below (s₁.setTop (mkF m 23 #[.val (.int p0), .val (.int p1), .val (.int p2), .val (.int z2), .val (.int z6), .unset, .unset] [(.int (1 : Int32)), (.int z6)])) _
        refine XS.icmpYes X0.here hx rfl (pc0 := 23) (pc' := 33) rfl (hb hby d1_23) rfl (Jvm.Free.XT.ii_ne_t hm11_1) (by decide) (by decide) ?_
        show Steps p.tables e below (s₁.setTop (mkF m 33 #[.val (.int p0), .val (.int p1), .val (.int p2), .val (.int z2), .val (.int z6), .unset, .unset] [])) _
        refine XS.iload X0.here hx rfl (hb hby d1_33) rfl ?_
        show Steps p.tables e below (s₁.setTop (mkF m 35 #[.val (.int p0), .val (.int p1), .val (.int p2), .val (.int z2), .val (.int z6), .unset, .unset] [(.int z6)])) _
        refine XS.iconst X0.here hx rfl (hb hby d1_35) ?_
        by_cases hm11_2 : z6 = (2 : Int32)
        · skip
          show Steps p.tables e below (s₁.setTop (mkF m 36 #[.val (.int p0), .val (.int p1), .val (.int p2), .val (.int z2), .val (.int z6), .unset, .unset] [(.int (2 : Int32)), (.int z6)])) _
          refine XS.icmpNo X0.here hx rfl (hb hby d1_36) rfl (Jvm.Free.XT.ii_ne_f hm11_2) ?_
          show Steps p.tables e below (s₁.setTop (mkF m 39 #[.val (.int p0), .val (.int p1), .val (.int p2), .val (.int z2), .val (.int z6), .unset, .unset] [])) _
          refine XS.iloadN X0.here hx rfl (hb hby d1_39) rfl ?_
          show Steps p.tables e below (s₁.setTop (mkF m 40 #[.val (.int p0), .val (.int p1), .val (.int p2), .val (.int z2), .val (.int z6), .unset, .unset] [(.int p2)])) _
          refine Jvm.OwnK.i2l X0.here hx rfl (hb hby d1_40) rfl hz40 ?_
          show Steps p.tables e below (s₁.setTop (mkF m 41 #[.val (.int p0), .val (.int p1), .val (.int p2), .val (.int z2), .val (.int z6), .unset, .unset] [(.long z40)])) _
          refine XS.lstore X0.here hx rfl (hb hby d1_41) rfl (l' := #[.val (.int p0), .val (.int p1), .val (.int p2), .val (.int z2), .val (.int z6), .val (.long z40), .second]) rfl ?_
          show Steps p.tables e below (s₁.setTop (mkF m 43 #[.val (.int p0), .val (.int p1), .val (.int p2), .val (.int z2), .val (.int z6), .val (.long z40), .second] [])) _
          refine XS.goto X0.here hx rfl (pc0 := 43) (pc' := 53) rfl (hb hby d1_43) (by decide) (by decide) ?_
          obtain rfl : z40 = m11_l5 := by rw [← hm11_l5]; simp only [if_neg hm11_0, if_neg hm11_1, if_pos hm11_2]
          exact k
        · skip
          show Steps p.tables e below (s₁.setTop (mkF m 36 #[.val (.int p0), .val (.int p1), .val (.int p2), .val (.int z2), .val (.int z6), .unset, .unset] [(.int (2 : Int32)), (.int z6)])) _
          refine XS.icmpYes X0.here hx rfl (pc0 := 36) (pc' := 46) rfl (hb hby d1_36) rfl (Jvm.Free.XT.ii_ne_t hm11_2) (by decide) (by decide) ?_
          show Steps p.tables e below (s₁.setTop (mkF m 46 #[.val (.int p0), .val (.int p1), .val (.int p2), .val (.int z2), .val (.int z6), .unset, .unset] [])) _
          refine XS.iloadN X0.here hx rfl (hb hby d1_46) rfl ?_
          show Steps p.tables e below (s₁.setTop (mkF m 47 #[.val (.int p0), .val (.int p1), .val (.int p2), .val (.int z2), .val (.int z6), .unset, .unset] [(.int p1)])) _
          refine Jvm.OwnK.i2l X0.here hx rfl (hb hby d1_47) rfl hz47 ?_
          show Steps p.tables e below (s₁.setTop (mkF m 48 #[.val (.int p0), .val (.int p1), .val (.int p2), .val (.int z2), .val (.int z6), .unset, .unset] [(.long z47)])) _
          refine XS.iloadN X0.here hx rfl (hb hby d1_48) rfl ?_
          show Steps p.tables e below (s₁.setTop (mkF m 49 #[.val (.int p0), .val (.int p1), .val (.int p2), .val (.int z2), .val (.int z6), .unset, .unset] [(.int p2), (.long z47)])) _
          refine Jvm.OwnK.i2l X0.here hx rfl (hb hby d1_49) rfl hz49 ?_
          show Steps p.tables e below (s₁.setTop (mkF m 50 #[.val (.int p0), .val (.int p1), .val (.int p2), .val (.int z2), .val (.int z6), .unset, .unset] [(.long z49), (.long z47)])) _
          refine Jvm.OwnK.ladd X0.here hx rfl (hb hby d1_50) rfl hz50 ?_
          show Steps p.tables e below (s₁.setTop (mkF m 51 #[.val (.int p0), .val (.int p1), .val (.int p2), .val (.int z2), .val (.int z6), .unset, .unset] [(.long z50)])) _
          refine XS.lstore X0.here hx rfl (hb hby d1_51) rfl (l' := #[.val (.int p0), .val (.int p1), .val (.int p2), .val (.int z2), .val (.int z6), .val (.long z50), .second]) rfl ?_
          obtain rfl : z50 = m11_l5 := by rw [← hm11_l5]; simp only [if_neg hm11_0, if_neg hm11_1, if_neg hm11_2]
          exact k
  have c2 : ∀ t, Steps p.tables e below (s₁.setTop (mkF m 59 #[.val (.int p0), .val (.int p1), .val (.int p2), .val (.int z2), .val (.int z6), .val (.long m11_l5), .second] [(.int z58)])) t → Steps p.tables e below (s₁.setTop (entryFrame m #[(.int p0), (.int p1), (.int p2)] 7)) t := by
    intro t k
    refine c1 t ?_
    show Steps p.tables e below (s₁.setTop (mkF m 53 #[.val (.int p0), .val (.int p1), .val (.int p2), .val (.int z2), .val (.int z6), .val (.long m11_l5), .second] [])) _
    refine XS.lload X0.here hx rfl (hb hby d1_53) rfl ?_
    show Steps p.tables e below (s₁.setTop (mkF m 55 #[.val (.int p0), .val (.int p1), .val (.int p2), .val (.int z2), .val (.int z6), .val (.long m11_l5), .second] [(.long m11_l5)])) _
    refine XS.iloadN X0.here hx rfl (hb hby d1_55) rfl ?_
    show Steps p.tables e below (s₁.setTop (mkF m 56 #[.val (.int p0), .val (.int p1), .val (.int p2), .val (.int z2), .val (.int z6), .val (.long m11_l5), .second] [(.int z2), (.long m11_l5)])) _
    refine Jvm.OwnK.i2l X0.here hx rfl (hb hby d1_56) rfl hz56 ?_
    show Steps p.tables e below (s₁.setTop (mkF m 57 #[.val (.int p0), .val (.int p1), .val (.int p2), .val (.int z2), .val (.int z6), .val (.long m11_l5), .second] [(.long z56), (.long m11_l5)])) _
    refine Jvm.OwnK.ladd X0.here hx rfl (hb hby d1_57) rfl hz57 ?_
    show Steps p.tables e below (s₁.setTop (mkF m 58 #[.val (.int p0), .val (.int p1), .val (.int p2), .val (.int z2), .val (.int z6), .val (.long m11_l5), .second] [(.long z57)])) _
    refine Jvm.OwnK.l2i X0.here hx rfl (hb hby d1_58) rfl hz58 ?_
    exact k
  obtain ⟨fs, hr, hrun, hended, hW, hsame⟩ := X0.leave (v := some (.int z58)) (fun h => by rw [Bd.returns] at h; cases h)
  refine ⟨_, _, c2 _ ?_, hrun, hended, _, _, rfl, ?_, ⟨_, rfl⟩, hW, hsame.mono (by decide) (by decide)⟩
  · show Steps p.tables e below (s₁.setTop (mkF m 59 #[.val (.int p0), .val (.int p1), .val (.int p2), .val (.int z2), .val (.int z6), .val (.long m11_l5), .second] [(.int z58)])) _
    exact retOut X0 hx Bd.returns rfl (Or.inl ⟨rfl, by simp, _, rfl⟩) (hb hby d1_59) hr
  · show Q1 Z p0 p1 p2 z2 z6 z27 z40 z47 z49 z50 m11_l5 z56 z57 z58 h0 n0 _ s₁.heap _
    rw [e0]
    exact ⟨rfl, N0, rfl⟩
def Q5 (Z : State) (o0 : Addr) (p1 : Int32) (p2 : Int32) (p3 : Int32) (p4 : Int32) (u_left_o0 : Value) (u_top_o0 : Value) (u_right_o0 : Value) (u_bottom_o0 : Value)  (h0 : Heap) (n0 : Nat) (v : Option Value) (h : Heap) (L : List Loc) : Prop := v = none ∧ Fr n0 L ∧ Keep h0 h [o0] ∧ Exa Z h o0 "com/example/vetrino/vetrino/Overlap" ∧ Fld Z h o0 "com/example/vetrino/vetrino/Overlap" "left" "I" (.int p1) ∧ Fld Z h o0 "com/example/vetrino/vetrino/Overlap" "top" "I" (.int p2) ∧ Fld Z h o0 "com/example/vetrino/vetrino/Overlap" "right" "I" (.int p3) ∧ Fld Z h o0 "com/example/vetrino/vetrino/Overlap" "bottom" "I" (.int p4)
set_option maxRecDepth 65536 in
set_option maxHeartbeats 40000000 in
theorem rm5 (l : Launch) (Z : State) (a0 : Array Value) (hw : ∀ d ∈ tables_1, d.before a0 Z = true) (ws : List Jvm.Cond) (o0 : Addr) (p1 : Int32) (p2 : Int32) (p3 : Int32) (p4 : Int32) (u_left_o0 : Value) (u_top_o0 : Value) (u_right_o0 : Value) (u_bottom_o0 : Value)  (h0 : Heap) (n0 : Nat) (Z0 : n0 ≤ h0.size) (E_o0 : Exa Z h0 o0 "com/example/vetrino/vetrino/Overlap") (F_left_o0 : Fld Z h0 o0 "com/example/vetrino/vetrino/Overlap" "left" "I" u_left_o0) (g_o0 : n0 ≤ o0) (F_top_o0 : Fld Z h0 o0 "com/example/vetrino/vetrino/Overlap" "top" "I" u_top_o0) (F_right_o0 : Fld Z h0 o0 "com/example/vetrino/vetrino/Overlap" "right" "I" u_right_o0) (F_bottom_o0 : Fld Z h0 o0 "com/example/vetrino/vetrino/Overlap" "bottom" "I" u_bottom_o0) :
    MetFree l (⟨"com/example/vetrino/vetrino/Overlap", "<init>", "(IIII)V"⟩ : MethodName) (head1 (Jvm.Cond.code (⟨"com/example/vetrino/vetrino/Overlap", "<init>", "(IIII)V"⟩ : MethodName) prog_7_method_1_code 5 none :: ws) ({ frames := 1, cells := 0, slots := 0, locals := 12 } : Room)) (fun a U => a = #[(.ref o0), (.int p1), (.int p2), (.int p3), (.int p4)] ∧ Z.Warmed39 U.vm ∧ U.heap = h0) (fun _ _ _ _ _ => True) (fun _ U o U' => ∃ v L, o = .returned v ∧ Q5 Z o0 p1 p2 p3 p4 u_left_o0 u_top_o0 u_right_o0 u_bottom_o0  h0 n0 v U'.heap L ∧ FrameEnd U o U' L ({ frames := 1, cells := 0, slots := 0, locals := 12 } : Room).cells ({ frames := 1, cells := 0, slots := 0, locals := 12 } : Room).slots) := by
  refine MetFree.of_bodySF (plainFor_of_name pn_1) hisR ?_
  intro p e s m args below meth c s₁ Bd hml0 hP hK
  obtain ⟨rfl, hZ, hh⟩ := hP
  have hx := Bd.exec
  have hby := Bd.bytes
  have hml : c.maxLocals = 5 := hml0
  have hown : s.vm.findClass "com/example/vetrino/vetrino/Overlap" = some m.cls := findClass_of_methodNamed Bd.named
  have hnm := (name_of_methodNamed Bd.named Bd.method).1
  have X0 : Stand p l e ({ frames := 1, cells := 0, slots := 0, locals := 12 } : Room) s m #[(.ref o0), (.int p1), (.int p2), (.int p3), (.int p4)] below meth c s₁ [] 0 0 := Stand.of_body Bd
  have e0 : s₁.heap = h0 := by rw [← hh, Bd.state]; rfl
  have N0 := Fr.nil n0
  have c0 : ∀ t, Steps p.tables e below (s₁.setTop (mkF m 0 #[.val (.ref o0), .val (.int p1), .val (.int p2), .val (.int p3), .val (.int p4)] [])) t → Steps p.tables e below (s₁.setTop (entryFrame m #[(.ref o0), (.int p1), (.int p2), (.int p3), (.int p4)] 5)) t := fun t k => castTop (ef_rm5 m o0 p1 p2 p3 p4) k
  obtain ⟨T1, X1, e1, st1⟩ := initO X0 hx hZ hown (hw _ (List.mem_of_getElem? (i := 21) rfl)) (hw _ (List.mem_of_getElem? (i := 22) rfl)) (hw _ (List.mem_of_getElem? (i := 23) rfl)) e0 (g := (mkF m 1 #[.val (.ref o0), .val (.int p1), .val (.int p2), .val (.int p3), .val (.int p4)] [(.ref o0)])) rfl (by rw [hml]; rfl) rfl (hb hby d5_1) (by decide) (W := 0) (by show 2 * 0 + _ ≤ _; exact Nat.le_of_eq rfl) (by decide)
  obtain ⟨T2, h2, X2, e2, W2, st2⟩ := putF X1 hx hZ hown (host := "") (Or.inl (hw _ (List.mem_of_getElem? (i := 24) rfl))) Via.refl e1 F_left_o0 E_o0 (Or.inr ⟨(hw _ (List.mem_of_getElem? (i := 25) rfl)), rfl, hnm⟩) (hw _ (List.mem_of_getElem? (i := 10) rfl)) (ty := .int) (by decide) rfl rfl (g := (mkF m 6 #[.val (.ref o0), .val (.int p1), .val (.int p2), .val (.int p3), .val (.int p4)] [(.int p1), (.ref o0)])) rfl rfl (hb hby d5_6)
  have N2 := Fr.snoc X2 N0 g_o0
  have K3 : Keep h0 h2 [o0] := (Keep.refl h0 [o0]).wr W2 (Or.inl (by simp))
  have F2w := F_left_o0.same W2
  have f4 := (E_o0.wr W2)
  have f5 := (F_top_o0.other W2 (Or.inr (slot_ne (Or.inr (hw _ (List.mem_of_getElem? (i := 27) rfl))) (Or.inr (hw _ (List.mem_of_getElem? (i := 25) rfl))) (by decide) (t := .int) (t' := .int) (by decide) (by decide))))
  obtain ⟨T6, h6, X6, e6, W6, st6⟩ := putF X2 hx hZ hown (host := "") (Or.inl (hw _ (List.mem_of_getElem? (i := 26) rfl))) Via.refl e2 f5 f4 (Or.inr ⟨(hw _ (List.mem_of_getElem? (i := 27) rfl)), rfl, hnm⟩) (hw _ (List.mem_of_getElem? (i := 10) rfl)) (ty := .int) (by decide) rfl rfl (g := (mkF m 11 #[.val (.ref o0), .val (.int p1), .val (.int p2), .val (.int p3), .val (.int p4)] [(.int p2), (.ref o0)])) rfl rfl (hb hby d5_11)
  have N6 := Fr.snoc X6 N2 g_o0
  have K7 : Keep h0 h6 [o0] := K3.wr W6 (Or.inl (by simp))
  have F6w := f5.same W6
  have f8 := (f4.wr W6)
  have f9 := ((F_right_o0.other W2 (Or.inr (slot_ne (Or.inr (hw _ (List.mem_of_getElem? (i := 29) rfl))) (Or.inr (hw _ (List.mem_of_getElem? (i := 25) rfl))) (by decide) (t := .int) (t' := .int) (by decide) (by decide)))).other W6 (Or.inr (slot_ne (Or.inr (hw _ (List.mem_of_getElem? (i := 29) rfl))) (Or.inr (hw _ (List.mem_of_getElem? (i := 27) rfl))) (by decide) (t := .int) (t' := .int) (by decide) (by decide))))
  obtain ⟨T10, h10, X10, e10, W10, st10⟩ := putF X6 hx hZ hown (host := "") (Or.inl (hw _ (List.mem_of_getElem? (i := 28) rfl))) Via.refl e6 f9 f8 (Or.inr ⟨(hw _ (List.mem_of_getElem? (i := 29) rfl)), rfl, hnm⟩) (hw _ (List.mem_of_getElem? (i := 10) rfl)) (ty := .int) (by decide) rfl rfl (g := (mkF m 16 #[.val (.ref o0), .val (.int p1), .val (.int p2), .val (.int p3), .val (.int p4)] [(.int p3), (.ref o0)])) rfl rfl (hb hby d5_16)
  have N10 := Fr.snoc X10 N6 g_o0
  have K11 : Keep h0 h10 [o0] := K7.wr W10 (Or.inl (by simp))
  have F10w := f9.same W10
  have f12 := (f8.wr W10)
  have f13 := (((F_bottom_o0.other W2 (Or.inr (slot_ne (Or.inr (hw _ (List.mem_of_getElem? (i := 31) rfl))) (Or.inr (hw _ (List.mem_of_getElem? (i := 25) rfl))) (by decide) (t := .int) (t' := .int) (by decide) (by decide)))).other W6 (Or.inr (slot_ne (Or.inr (hw _ (List.mem_of_getElem? (i := 31) rfl))) (Or.inr (hw _ (List.mem_of_getElem? (i := 27) rfl))) (by decide) (t := .int) (t' := .int) (by decide) (by decide)))).other W10 (Or.inr (slot_ne (Or.inr (hw _ (List.mem_of_getElem? (i := 31) rfl))) (Or.inr (hw _ (List.mem_of_getElem? (i := 29) rfl))) (by decide) (t := .int) (t' := .int) (by decide) (by decide))))
  obtain ⟨T14, h14, X14, e14, W14, st14⟩ := putF X10 hx hZ hown (host := "") (Or.inl (hw _ (List.mem_of_getElem? (i := 30) rfl))) Via.refl e10 f13 f12 (Or.inr ⟨(hw _ (List.mem_of_getElem? (i := 31) rfl)), rfl, hnm⟩) (hw _ (List.mem_of_getElem? (i := 10) rfl)) (ty := .int) (by decide) rfl rfl (g := (mkF m 22 #[.val (.ref o0), .val (.int p1), .val (.int p2), .val (.int p3), .val (.int p4)] [(.int p4), (.ref o0)])) rfl rfl (hb hby d5_22)
  have N14 := Fr.snoc X14 N10 g_o0
  have K15 : Keep h0 h14 [o0] := K11.wr W14 (Or.inl (by simp))
  have F14w := f13.same W14
  have c16 : ∀ t, Steps p.tables e below (T14.setTop (mkF m 25 #[.val (.ref o0), .val (.int p1), .val (.int p2), .val (.int p3), .val (.int p4)] [])) t → Steps p.tables e below (s₁.setTop (entryFrame m #[(.ref o0), (.int p1), (.int p2), (.int p3), (.int p4)] 5)) t := by
    intro t k
    refine c0 t ?_
    show Steps p.tables e below (s₁.setTop (mkF m 0 #[.val (.ref o0), .val (.int p1), .val (.int p2), .val (.int p3), .val (.int p4)] [])) _
    refine XS.aloadN X0.here hx rfl (hb hby d5_0) rfl rfl ?_
    show Steps p.tables e below (s₁.setTop (mkF m 1 #[.val (.ref o0), .val (.int p1), .val (.int p2), .val (.int p3), .val (.int p4)] [(.ref o0)])) _
    refine st1 _ ?_
    show Steps p.tables e below (T1.setTop (mkF m 4 #[.val (.ref o0), .val (.int p1), .val (.int p2), .val (.int p3), .val (.int p4)] [])) _
    refine XS.aloadN X1.here hx rfl (hb hby d5_4) rfl rfl ?_
    show Steps p.tables e below (T1.setTop (mkF m 5 #[.val (.ref o0), .val (.int p1), .val (.int p2), .val (.int p3), .val (.int p4)] [(.ref o0)])) _
    refine XS.iloadN X1.here hx rfl (hb hby d5_5) rfl ?_
    show Steps p.tables e below (T1.setTop (mkF m 6 #[.val (.ref o0), .val (.int p1), .val (.int p2), .val (.int p3), .val (.int p4)] [(.int p1), (.ref o0)])) _
    refine st2 _ ?_
    show Steps p.tables e below (T2.setTop (mkF m 9 #[.val (.ref o0), .val (.int p1), .val (.int p2), .val (.int p3), .val (.int p4)] [])) _
    refine XS.aloadN X2.here hx rfl (hb hby d5_9) rfl rfl ?_
    show Steps p.tables e below (T2.setTop (mkF m 10 #[.val (.ref o0), .val (.int p1), .val (.int p2), .val (.int p3), .val (.int p4)] [(.ref o0)])) _
    refine XS.iloadN X2.here hx rfl (hb hby d5_10) rfl ?_
    show Steps p.tables e below (T2.setTop (mkF m 11 #[.val (.ref o0), .val (.int p1), .val (.int p2), .val (.int p3), .val (.int p4)] [(.int p2), (.ref o0)])) _
    refine st6 _ ?_
    show Steps p.tables e below (T6.setTop (mkF m 14 #[.val (.ref o0), .val (.int p1), .val (.int p2), .val (.int p3), .val (.int p4)] [])) _
    refine XS.aloadN X6.here hx rfl (hb hby d5_14) rfl rfl ?_
    show Steps p.tables e below (T6.setTop (mkF m 15 #[.val (.ref o0), .val (.int p1), .val (.int p2), .val (.int p3), .val (.int p4)] [(.ref o0)])) _
    refine XS.iloadN X6.here hx rfl (hb hby d5_15) rfl ?_
    show Steps p.tables e below (T6.setTop (mkF m 16 #[.val (.ref o0), .val (.int p1), .val (.int p2), .val (.int p3), .val (.int p4)] [(.int p3), (.ref o0)])) _
    refine st10 _ ?_
    show Steps p.tables e below (T10.setTop (mkF m 19 #[.val (.ref o0), .val (.int p1), .val (.int p2), .val (.int p3), .val (.int p4)] [])) _
    refine XS.aloadN X10.here hx rfl (hb hby d5_19) rfl rfl ?_
    show Steps p.tables e below (T10.setTop (mkF m 20 #[.val (.ref o0), .val (.int p1), .val (.int p2), .val (.int p3), .val (.int p4)] [(.ref o0)])) _
    refine XS.iload X10.here hx rfl (hb hby d5_20) rfl ?_
    show Steps p.tables e below (T10.setTop (mkF m 22 #[.val (.ref o0), .val (.int p1), .val (.int p2), .val (.int p3), .val (.int p4)] [(.int p4), (.ref o0)])) _
    refine st14 _ ?_
    exact k
  obtain ⟨fs, hr, hrun, hended, hW, hsame⟩ := X14.leave (v := none) (fun _ => rfl)
  refine ⟨_, _, c16 _ ?_, hrun, hended, _, _, rfl, ?_, ⟨_, rfl⟩, hW, hsame.mono (by decide) (by decide)⟩
  · show Steps p.tables e below (T14.setTop (mkF m 25 #[.val (.ref o0), .val (.int p1), .val (.int p2), .val (.int p3), .val (.int p4)] [])) _
    exact X14.returnOut hx Bd.returns (hb hby d5_25) hr
  · show Q5 Z o0 p1 p2 p3 p4 u_left_o0 u_top_o0 u_right_o0 u_bottom_o0  h0 n0 _ T14.heap _
    rw [e14]
    exact ⟨rfl, N14, K15, (f12.wr W14), (((F2w.other W6 (Or.inr (slot_ne (Or.inr (hw _ (List.mem_of_getElem? (i := 25) rfl))) (Or.inr (hw _ (List.mem_of_getElem? (i := 27) rfl))) (by decide) (t := .int) (t' := .int) (by decide) (by decide)))).other W10 (Or.inr (slot_ne (Or.inr (hw _ (List.mem_of_getElem? (i := 25) rfl))) (Or.inr (hw _ (List.mem_of_getElem? (i := 29) rfl))) (by decide) (t := .int) (t' := .int) (by decide) (by decide)))).other W14 (Or.inr (slot_ne (Or.inr (hw _ (List.mem_of_getElem? (i := 25) rfl))) (Or.inr (hw _ (List.mem_of_getElem? (i := 31) rfl))) (by decide) (t := .int) (t' := .int) (by decide) (by decide)))), ((F6w.other W10 (Or.inr (slot_ne (Or.inr (hw _ (List.mem_of_getElem? (i := 27) rfl))) (Or.inr (hw _ (List.mem_of_getElem? (i := 29) rfl))) (by decide) (t := .int) (t' := .int) (by decide) (by decide)))).other W14 (Or.inr (slot_ne (Or.inr (hw _ (List.mem_of_getElem? (i := 27) rfl))) (Or.inr (hw _ (List.mem_of_getElem? (i := 31) rfl))) (by decide) (t := .int) (t' := .int) (by decide) (by decide)))), (F10w.other W14 (Or.inr (slot_ne (Or.inr (hw _ (List.mem_of_getElem? (i := 29) rfl))) (Or.inr (hw _ (List.mem_of_getElem? (i := 31) rfl))) (by decide) (t := .int) (t' := .int) (by decide) (by decide)))), F14w⟩
def Q2 (Z : State) (p0 : Int32) (p1 : Int32) (p2 : Int32) (p3 : Int32) (c6_rv : Int32) (c11_rv : Int32) (z17 : Int32) (c18_rv : Int32) (z24 : Int32) (c25_rv : Int32) (h0 : Heap) (n0 : Nat) (v : Option Value) (h : Heap) (L : List Loc) : Prop := ∃ b1 : Addr, v = some (.ref b1) ∧ Fr n0 L ∧ h0.size ≤ b1 ∧ Keep h0 h [] ∧ Exa Z h b1 "com/example/vetrino/vetrino/Overlap" ∧ Fld Z h b1 "com/example/vetrino/vetrino/Overlap" "left" "I" (.int c6_rv) ∧ Fld Z h b1 "com/example/vetrino/vetrino/Overlap" "top" "I" (.int c11_rv) ∧ Fld Z h b1 "com/example/vetrino/vetrino/Overlap" "right" "I" (.int c18_rv) ∧ Fld Z h b1 "com/example/vetrino/vetrino/Overlap" "bottom" "I" (.int c25_rv)
set_option maxRecDepth 65536 in
set_option maxHeartbeats 40000000 in
theorem rm2 (l : Launch) (Z : State) (a0 : Array Value) (hw : ∀ d ∈ tables_1, d.before a0 Z = true) (ws : List Jvm.Cond) (p0 : Int32) (p1 : Int32) (p2 : Int32) (p3 : Int32) (c6_rv : Int32) (c11_rv : Int32) (z17 : Int32) (c18_rv : Int32) (z24 : Int32) (c25_rv : Int32) (h0 : Heap) (n0 : Nat) (Z0 : n0 ≤ h0.size) (hc6_rv : (if (0 : Int32) < p2 then p2 else (0 : Int32)) = c6_rv) (hc11_rv : (if (0 : Int32) < p3 then p3 else (0 : Int32)) = c11_rv) (hz17 : p0 + p2 = z17) (hc18_rv : (if z17 < p0 then z17 else p0) = c18_rv) (hz24 : p1 + p3 = z24) (hc25_rv : (if z24 < p1 then z24 else p1) = c25_rv) :
    MetFree l (⟨"com/example/vetrino/vetrino/Overlap", "of", "(IIII)Lcom/example/vetrino/vetrino/Overlap;"⟩ : MethodName) (head1 (Jvm.Cond.code (⟨"com/example/vetrino/vetrino/Overlap", "of", "(IIII)Lcom/example/vetrino/vetrino/Overlap;"⟩ : MethodName) prog_7_method_2_code 4 (some (.object "com/example/vetrino/vetrino/Overlap")) :: ws) ({ frames := 2, cells := 1, slots := 4, locals := 29 } : Room)) (fun a U => a = #[(.int p0), (.int p1), (.int p2), (.int p3)] ∧ Z.Warmed39 U.vm ∧ U.heap = h0) (fun _ _ _ _ _ => True) (fun _ U o U' => ∃ v L, o = .returned v ∧ Q2 Z p0 p1 p2 p3 c6_rv c11_rv z17 c18_rv z24 c25_rv h0 n0 v U'.heap L ∧ FrameEnd U o U' L ({ frames := 2, cells := 1, slots := 4, locals := 29 } : Room).cells ({ frames := 2, cells := 1, slots := 4, locals := 29 } : Room).slots) := by
  refine MetFree.of_bodySF (plainFor_of_name pn_1) hisR ?_
  intro p e s m args below meth c s₁ Bd hml0 hP hK
  obtain ⟨rfl, hZ, hh⟩ := hP
  have hx := Bd.exec
  have hby := Bd.bytes
  have hml : c.maxLocals = 4 := hml0
  have hown : s.vm.findClass "com/example/vetrino/vetrino/Overlap" = some m.cls := findClass_of_methodNamed Bd.named
  have hnm := (name_of_methodNamed Bd.named Bd.method).1
  have X0 : Stand p l e ({ frames := 2, cells := 1, slots := 4, locals := 29 } : Room) s m #[(.int p0), (.int p1), (.int p2), (.int p3)] below meth c s₁ [] 0 0 := Stand.of_body Bd
  have e0 : s₁.heap = h0 := by rw [← hh, Bd.state]; rfl
  have N0 := Fr.nil n0
  have c0 : ∀ t, Steps p.tables e below (s₁.setTop (mkF m 0 #[.val (.int p0), .val (.int p1), .val (.int p2), .val (.int p3)] [])) t → Steps p.tables e below (s₁.setTop (entryFrame m #[(.int p0), (.int p1), (.int p2), (.int p3)] 4)) t := fun t k => castTop (ef_rm2 m p0 p1 p2 p3) k
  obtain ⟨T1, h1, X1, e1, E1, A1, D1, -, st1⟩ := newO X0 hx hZ hown (hw _ (List.mem_of_getElem? (i := 9) rfl)) (hw _ (List.mem_of_getElem? (i := 10) rfl)) (hw _ (List.mem_of_getElem? (i := 7) rfl)) e0 (g := (mkF m 0 #[.val (.int p0), .val (.int p1), .val (.int p2), .val (.int p3)] [])) rfl (hb hby d2_0) (by decide) (by decide)
  obtain ⟨b1, g1⟩ : ∃ z, z = h0.size := ⟨_, rfl⟩
  rw [← g1] at A1 D1 st1
  have gn1 : n0 ≤ b1 := Nat.le_trans Z0 (Nat.le_of_eq g1.symm)
  have gz1 : h0.size ≤ b1 := Nat.le_trans ((Keep.refl h0 [])).1 (Nat.le_of_eq g1.symm)
  have K2 : Keep h0 h1 [] := (Keep.refl h0 []).ext E1
  have F1_left : Fld Z h1 b1 "com/example/vetrino/vetrino/Overlap" "left" "I" (.int (0 : Int32)) := D1 (Or.inr (hw _ (List.mem_of_getElem? (i := 25) rfl))) (ty := .int) (by decide)
  have F1_top : Fld Z h1 b1 "com/example/vetrino/vetrino/Overlap" "top" "I" (.int (0 : Int32)) := D1 (Or.inr (hw _ (List.mem_of_getElem? (i := 27) rfl))) (ty := .int) (by decide)
  have F1_right : Fld Z h1 b1 "com/example/vetrino/vetrino/Overlap" "right" "I" (.int (0 : Int32)) := D1 (Or.inr (hw _ (List.mem_of_getElem? (i := 29) rfl))) (ty := .int) (by decide)
  have F1_bottom : Fld Z h1 b1 "com/example/vetrino/vetrino/Overlap" "bottom" "I" (.int (0 : Int32)) := D1 (Or.inr (hw _ (List.mem_of_getElem? (i := 31) rfl))) (ty := .int) (by decide)
  obtain ⟨_, _, ⟨T3, L3, k3, n3⟩, -, X3, ⟨Lc3, hQ3, ql3, qy3, qz3⟩, st3⟩ := Jvm.LawKit.callS X1 hx (y := (⟨"java/lang/Math", "max", "(II)I"⟩ : MethodName)) hown (mvT hZ (hw _ (List.mem_of_getElem? (i := 11) rfl))) (mvT hZ (hw _ (List.mem_of_getElem? (i := 12) rfl))) (mvT hZ (hw _ (List.mem_of_getElem? (i := 13) rfl))) (mvT hZ (hw _ (List.mem_of_getElem? (i := 14) rfl))) (by decide) (backOf (W := 2) (rm3 l Z a0 hw [] (0 : Int32) p2 c6_rv h1 n0 (Nat.le_trans Z0 E1.1) hc6_rv) hZ (hw _ (List.mem_of_getElem? (i := 14) rfl)) (hw _ (List.mem_of_getElem? (i := 13) rfl)) (by decide) (by decide)) (g := (mkF m 6 #[.val (.int p0), .val (.int p1), .val (.int p2), .val (.int p3)] [(.int p2), (.int (0 : Int32)), (.ref b1), (.ref b1)])) rfl (by rw [hml]; rfl) (argsL := [(.int (0 : Int32)), (.int p2)]) (rest := [(.ref b1), (.ref b1)]) (lenOf pd_0 rfl) rfl (by show 2 * 0 + _ ≤ _; exact Nat.le_of_eq rfl) (hb hby d2_6) (fun _ _ => ⟨rfl, e1, (by decide : 1 + 0 ≤ _), (by decide : 4 + 0 ≤ _)⟩)
  dsimp only [Pt.U, Pt.locs, Pt.cells, Pt.slots] at X3 ql3 qy3 qz3 st3 hQ3
  subst ql3 qy3 qz3
  obtain ⟨rfl, N3q, e3⟩ := hQ3
  have N3 := Fr.app N0 N3q
  obtain ⟨_, _, ⟨T4, L4, k4, n4⟩, -, X4, ⟨Lc4, hQ4, ql4, qy4, qz4⟩, st4⟩ := Jvm.LawKit.callS X3 hx (y := (⟨"java/lang/Math", "max", "(II)I"⟩ : MethodName)) hown (mvT hZ (hw _ (List.mem_of_getElem? (i := 11) rfl))) (mvT hZ (hw _ (List.mem_of_getElem? (i := 12) rfl))) (mvT hZ (hw _ (List.mem_of_getElem? (i := 13) rfl))) (mvT hZ (hw _ (List.mem_of_getElem? (i := 14) rfl))) (by decide) (backOf (W := 3) (rm3 l Z a0 hw [] (0 : Int32) p3 c11_rv h1 n0 (Nat.le_trans Z0 E1.1) hc11_rv) hZ (hw _ (List.mem_of_getElem? (i := 14) rfl)) (hw _ (List.mem_of_getElem? (i := 13) rfl)) (by decide) (by decide)) (g := (mkF m 11 #[.val (.int p0), .val (.int p1), .val (.int p2), .val (.int p3)] [(.int p3), (.int (0 : Int32)), (.int c6_rv), (.ref b1), (.ref b1)])) rfl (by rw [hml]; rfl) (argsL := [(.int (0 : Int32)), (.int p3)]) (rest := [(.int c6_rv), (.ref b1), (.ref b1)]) (lenOf pd_0 rfl) rfl (by show 2 * 0 + _ ≤ _; exact Nat.le_of_eq rfl) (hb hby d2_11) (fun _ _ => ⟨rfl, e3, (by decide : 1 + 0 ≤ _), (by decide : 4 + 0 ≤ _)⟩)
  dsimp only [Pt.U, Pt.locs, Pt.cells, Pt.slots] at X4 ql4 qy4 qz4 st4 hQ4
  subst ql4 qy4 qz4
  obtain ⟨rfl, N4q, e4⟩ := hQ4
  have N4 := Fr.app N3 N4q
  obtain ⟨_, _, ⟨T5, L5, k5, n5⟩, -, X5, ⟨Lc5, hQ5, ql5, qy5, qz5⟩, st5⟩ := Jvm.LawKit.callS X4 hx (y := (⟨"java/lang/Math", "min", "(II)I"⟩ : MethodName)) hown (mvT hZ (hw _ (List.mem_of_getElem? (i := 15) rfl))) (mvT hZ (hw _ (List.mem_of_getElem? (i := 16) rfl))) (mvT hZ (hw _ (List.mem_of_getElem? (i := 13) rfl))) (mvT hZ (hw _ (List.mem_of_getElem? (i := 17) rfl))) (by decide) (backOf (W := 4) (rm4 l Z a0 hw [] p0 z17 c18_rv h1 n0 (Nat.le_trans Z0 E1.1) hc18_rv) hZ (hw _ (List.mem_of_getElem? (i := 17) rfl)) (hw _ (List.mem_of_getElem? (i := 13) rfl)) (by decide) (by decide)) (g := (mkF m 18 #[.val (.int p0), .val (.int p1), .val (.int p2), .val (.int p3)] [(.int z17), (.int p0), (.int c11_rv), (.int c6_rv), (.ref b1), (.ref b1)])) rfl (by rw [hml]; rfl) (argsL := [(.int p0), (.int z17)]) (rest := [(.int c11_rv), (.int c6_rv), (.ref b1), (.ref b1)]) (lenOf pd_0 rfl) rfl (by show 2 * 0 + _ ≤ _; exact Nat.le_of_eq rfl) (hb hby d2_18) (fun _ _ => ⟨rfl, e4, (by decide : 1 + 0 ≤ _), (by decide : 4 + 0 ≤ _)⟩)
  dsimp only [Pt.U, Pt.locs, Pt.cells, Pt.slots] at X5 ql5 qy5 qz5 st5 hQ5
  subst ql5 qy5 qz5
  obtain ⟨rfl, N5q, e5⟩ := hQ5
  have N5 := Fr.app N4 N5q
  obtain ⟨_, _, ⟨T6, L6, k6, n6⟩, -, X6, ⟨Lc6, hQ6, ql6, qy6, qz6⟩, st6⟩ := Jvm.LawKit.callS X5 hx (y := (⟨"java/lang/Math", "min", "(II)I"⟩ : MethodName)) hown (mvT hZ (hw _ (List.mem_of_getElem? (i := 15) rfl))) (mvT hZ (hw _ (List.mem_of_getElem? (i := 16) rfl))) (mvT hZ (hw _ (List.mem_of_getElem? (i := 13) rfl))) (mvT hZ (hw _ (List.mem_of_getElem? (i := 17) rfl))) (by decide) (backOf (W := 5) (rm4 l Z a0 hw [] p1 z24 c25_rv h1 n0 (Nat.le_trans Z0 E1.1) hc25_rv) hZ (hw _ (List.mem_of_getElem? (i := 17) rfl)) (hw _ (List.mem_of_getElem? (i := 13) rfl)) (by decide) (by decide)) (g := (mkF m 25 #[.val (.int p0), .val (.int p1), .val (.int p2), .val (.int p3)] [(.int z24), (.int p1), (.int c18_rv), (.int c11_rv), (.int c6_rv), (.ref b1), (.ref b1)])) rfl (by rw [hml]; rfl) (argsL := [(.int p1), (.int z24)]) (rest := [(.int c18_rv), (.int c11_rv), (.int c6_rv), (.ref b1), (.ref b1)]) (lenOf pd_0 rfl) rfl (by show 2 * 0 + _ ≤ _; exact Nat.le_of_eq rfl) (hb hby d2_25) (fun _ _ => ⟨rfl, e5, (by decide : 1 + 0 ≤ _), (by decide : 4 + 0 ≤ _)⟩)
  dsimp only [Pt.U, Pt.locs, Pt.cells, Pt.slots] at X6 ql6 qy6 qz6 st6 hQ6
  subst ql6 qy6 qz6
  obtain ⟨rfl, N6q, e6⟩ := hQ6
  have N6 := Fr.app N5 N6q
  obtain ⟨_, _, ⟨T7, L7, k7, n7⟩, -, X7, ⟨Lc7, hQ7, ql7, qy7, qz7⟩, st7⟩ := X6.specialBack hx (y := (⟨"com/example/vetrino/vetrino/Overlap", "<init>", "(IIII)V"⟩ : MethodName)) rfl hown (mvT hZ (hw _ (List.mem_of_getElem? (i := 18) rfl))) (mvT hZ (hw _ (List.mem_of_getElem? (i := 19) rfl))) (mvT hZ (hw _ (List.mem_of_getElem? (i := 20) rfl))) (by decide) (backOf (W := 1) (rm5 l Z a0 hw [] b1 c6_rv c11_rv c18_rv c25_rv ((.int (0 : Int32))) ((.int (0 : Int32))) ((.int (0 : Int32))) ((.int (0 : Int32)))  h1 n0 (Nat.le_trans Z0 E1.1) A1 F1_left gn1 F1_top F1_right F1_bottom) hZ (hw _ (List.mem_of_getElem? (i := 20) rfl)) (hw _ (List.mem_of_getElem? (i := 7) rfl)) (by decide) (by decide)) (g := (mkF m 28 #[.val (.int p0), .val (.int p1), .val (.int p2), .val (.int p3)] [(.int c25_rv), (.int c18_rv), (.int c11_rv), (.int c6_rv), (.ref b1), (.ref b1)])) rfl (by rw [hml]; rfl) (Steps.refl _) (a := b1) (argsL := [(.int c6_rv), (.int c11_rv), (.int c18_rv), (.int c25_rv)]) (rest := [(.ref b1)]) (lenOf pd_1 rfl) rfl (by show 2 * 0 + _ ≤ _; exact Nat.le_of_eq rfl) (hb hby d2_28) (fun _ _ => ⟨rfl, e6, (by decide : 1 + 0 ≤ _), (by decide : 4 + 0 ≤ _)⟩)
  dsimp only [Pt.U, Pt.locs, Pt.cells, Pt.slots] at X7 ql7 qy7 qz7 st7 hQ7
  subst ql7 qy7 qz7
  obtain ⟨rfl, N7q, K7q, Q7_0, Q7_1, Q7_2, Q7_3, Q7_4⟩ := hQ7
  have N7 := Fr.app N6 N7q
  have K8 : Keep h0 T7.heap [] := Keep.trans K2 K7q (allS (Or.inr gz1) all0)
  have c9 : ∀ t, Steps p.tables e below (T7.setTop (mkF m 31 #[.val (.int p0), .val (.int p1), .val (.int p2), .val (.int p3)] [(.ref b1)])) t → Steps p.tables e below (s₁.setTop (entryFrame m #[(.int p0), (.int p1), (.int p2), (.int p3)] 4)) t := by
    intro t k
    refine c0 t ?_
    show Steps p.tables e below (s₁.setTop (mkF m 0 #[.val (.int p0), .val (.int p1), .val (.int p2), .val (.int p3)] [])) _
    refine st1 _ ?_
    show Steps p.tables e below (T1.setTop (mkF m 3 #[.val (.int p0), .val (.int p1), .val (.int p2), .val (.int p3)] [(.ref b1)])) _
    refine XS.dup X1.here hx rfl (hb hby d2_3) rfl rfl ?_
    show Steps p.tables e below (T1.setTop (mkF m 4 #[.val (.int p0), .val (.int p1), .val (.int p2), .val (.int p3)] [(.ref b1), (.ref b1)])) _
    refine XS.iconst X1.here hx rfl (hb hby d2_4) ?_
    show Steps p.tables e below (T1.setTop (mkF m 5 #[.val (.int p0), .val (.int p1), .val (.int p2), .val (.int p3)] [(.int (0 : Int32)), (.ref b1), (.ref b1)])) _
    refine XS.iloadN X1.here hx rfl (hb hby d2_5) rfl ?_
    show Steps p.tables e below (T1.setTop (mkF m 6 #[.val (.int p0), .val (.int p1), .val (.int p2), .val (.int p3)] [(.int p2), (.int (0 : Int32)), (.ref b1), (.ref b1)])) _
    refine st3 _ ?_
    show Steps p.tables e below (T3.setTop (mkF m 9 #[.val (.int p0), .val (.int p1), .val (.int p2), .val (.int p3)] [(.int c6_rv), (.ref b1), (.ref b1)])) _
    refine XS.iconst X3.here hx rfl (hb hby d2_9) ?_
    show Steps p.tables e below (T3.setTop (mkF m 10 #[.val (.int p0), .val (.int p1), .val (.int p2), .val (.int p3)] [(.int (0 : Int32)), (.int c6_rv), (.ref b1), (.ref b1)])) _
    refine XS.iloadN X3.here hx rfl (hb hby d2_10) rfl ?_
    show Steps p.tables e below (T3.setTop (mkF m 11 #[.val (.int p0), .val (.int p1), .val (.int p2), .val (.int p3)] [(.int p3), (.int (0 : Int32)), (.int c6_rv), (.ref b1), (.ref b1)])) _
    refine st4 _ ?_
    show Steps p.tables e below (T4.setTop (mkF m 14 #[.val (.int p0), .val (.int p1), .val (.int p2), .val (.int p3)] [(.int c11_rv), (.int c6_rv), (.ref b1), (.ref b1)])) _
    refine XS.iloadN X4.here hx rfl (hb hby d2_14) rfl ?_
    show Steps p.tables e below (T4.setTop (mkF m 15 #[.val (.int p0), .val (.int p1), .val (.int p2), .val (.int p3)] [(.int p0), (.int c11_rv), (.int c6_rv), (.ref b1), (.ref b1)])) _
    refine XS.iloadN X4.here hx rfl (hb hby d2_15) rfl ?_
    show Steps p.tables e below (T4.setTop (mkF m 16 #[.val (.int p0), .val (.int p1), .val (.int p2), .val (.int p3)] [(.int p0), (.int p0), (.int c11_rv), (.int c6_rv), (.ref b1), (.ref b1)])) _
    refine XS.iloadN X4.here hx rfl (hb hby d2_16) rfl ?_
    show Steps p.tables e below (T4.setTop (mkF m 17 #[.val (.int p0), .val (.int p1), .val (.int p2), .val (.int p3)] [(.int p2), (.int p0), (.int p0), (.int c11_rv), (.int c6_rv), (.ref b1), (.ref b1)])) _
    refine Jvm.OwnK.iadd X4.here hx rfl (hb hby d2_17) rfl hz17 ?_
    show Steps p.tables e below (T4.setTop (mkF m 18 #[.val (.int p0), .val (.int p1), .val (.int p2), .val (.int p3)] [(.int z17), (.int p0), (.int c11_rv), (.int c6_rv), (.ref b1), (.ref b1)])) _
    refine st5 _ ?_
    show Steps p.tables e below (T5.setTop (mkF m 21 #[.val (.int p0), .val (.int p1), .val (.int p2), .val (.int p3)] [(.int c18_rv), (.int c11_rv), (.int c6_rv), (.ref b1), (.ref b1)])) _
    refine XS.iloadN X5.here hx rfl (hb hby d2_21) rfl ?_
    show Steps p.tables e below (T5.setTop (mkF m 22 #[.val (.int p0), .val (.int p1), .val (.int p2), .val (.int p3)] [(.int p1), (.int c18_rv), (.int c11_rv), (.int c6_rv), (.ref b1), (.ref b1)])) _
    refine XS.iloadN X5.here hx rfl (hb hby d2_22) rfl ?_
    show Steps p.tables e below (T5.setTop (mkF m 23 #[.val (.int p0), .val (.int p1), .val (.int p2), .val (.int p3)] [(.int p1), (.int p1), (.int c18_rv), (.int c11_rv), (.int c6_rv), (.ref b1), (.ref b1)])) _
    refine XS.iloadN X5.here hx rfl (hb hby d2_23) rfl ?_
    show Steps p.tables e below (T5.setTop (mkF m 24 #[.val (.int p0), .val (.int p1), .val (.int p2), .val (.int p3)] [(.int p3), (.int p1), (.int p1), (.int c18_rv), (.int c11_rv), (.int c6_rv), (.ref b1), (.ref b1)])) _
    refine Jvm.OwnK.iadd X5.here hx rfl (hb hby d2_24) rfl hz24 ?_
    show Steps p.tables e below (T5.setTop (mkF m 25 #[.val (.int p0), .val (.int p1), .val (.int p2), .val (.int p3)] [(.int z24), (.int p1), (.int c18_rv), (.int c11_rv), (.int c6_rv), (.ref b1), (.ref b1)])) _
    refine st6 _ ?_
    show Steps p.tables e below (T6.setTop (mkF m 28 #[.val (.int p0), .val (.int p1), .val (.int p2), .val (.int p3)] [(.int c25_rv), (.int c18_rv), (.int c11_rv), (.int c6_rv), (.ref b1), (.ref b1)])) _
    refine st7.trans ?_
    exact k
  obtain ⟨fs, hr, hrun, hended, hW, hsame⟩ := X7.leave (v := some (.ref b1)) (fun h => by rw [Bd.returns] at h; cases h)
  refine ⟨_, _, c9 _ ?_, hrun, hended, _, _, rfl, ?_, ⟨_, rfl⟩, hW, hsame.mono (by decide) (by decide)⟩
  · show Steps p.tables e below (T7.setTop (mkF m 31 #[.val (.int p0), .val (.int p1), .val (.int p2), .val (.int p3)] [(.ref b1)])) _
    exact retOut X7 hx Bd.returns rfl (Or.inr (Or.inr (Or.inr (Or.inr ⟨rfl, rfl, rfl⟩)))) (hb hby d2_31) hr
  · show Q2 Z p0 p1 p2 p3 c6_rv c11_rv z17 c18_rv z24 c25_rv h0 n0 _ T7.heap _
    exact ⟨b1, rfl, N7, gz1, K8, Q7_0, Q7_1, Q7_2, Q7_3, Q7_4⟩
def Q7 (Z : State) (o0 : Addr) (w_left_o0 : Int32)  (h0 : Heap) (n0 : Nat) (v : Option Value) (h : Heap) (L : List Loc) : Prop := v = some (.int w_left_o0) ∧ Fr n0 L ∧ h = h0
set_option maxRecDepth 65536 in
set_option maxHeartbeats 40000000 in
theorem rm7 (l : Launch) (Z : State) (a0 : Array Value) (hw : ∀ d ∈ tables_1, d.before a0 Z = true) (ws : List Jvm.Cond) (o0 : Addr) (w_left_o0 : Int32)  (h0 : Heap) (n0 : Nat) (Z0 : n0 ≤ h0.size) (F_left_o0 : Fld Z h0 o0 "com/example/vetrino/vetrino/Overlap" "left" "I" (.int w_left_o0)) :
    MetFree l (⟨"com/example/vetrino/vetrino/Overlap", "left", "()I"⟩ : MethodName) (head1 (Jvm.Cond.code (⟨"com/example/vetrino/vetrino/Overlap", "left", "()I"⟩ : MethodName) prog_7_method_4_code 1 (some .int) :: ws) ({ frames := 0, cells := 0, slots := 0, locals := 0 } : Room)) (fun a U => a = #[(.ref o0)] ∧ Z.Warmed39 U.vm ∧ U.heap = h0) (fun _ _ _ _ _ => True) (fun _ U o U' => ∃ v L, o = .returned v ∧ Q7 Z o0 w_left_o0  h0 n0 v U'.heap L ∧ FrameEnd U o U' L ({ frames := 0, cells := 0, slots := 0, locals := 0 } : Room).cells ({ frames := 0, cells := 0, slots := 0, locals := 0 } : Room).slots) := by
  refine MetFree.of_bodySF (plainFor_of_name pn_1) hisR ?_
  intro p e s m args below meth c s₁ Bd hml0 hP hK
  obtain ⟨rfl, hZ, hh⟩ := hP
  have hx := Bd.exec
  have hby := Bd.bytes
  have hml : c.maxLocals = 1 := hml0
  have hown : s.vm.findClass "com/example/vetrino/vetrino/Overlap" = some m.cls := findClass_of_methodNamed Bd.named
  have hnm := (name_of_methodNamed Bd.named Bd.method).1
  have X0 : Stand p l e ({ frames := 0, cells := 0, slots := 0, locals := 0 } : Room) s m #[(.ref o0)] below meth c s₁ [] 0 0 := Stand.of_body Bd
  have e0 : s₁.heap = h0 := by rw [← hh, Bd.state]; rfl
  have N0 := Fr.nil n0
  have c0 : ∀ t, Steps p.tables e below (s₁.setTop (mkF m 0 #[.val (.ref o0)] [])) t → Steps p.tables e below (s₁.setTop (entryFrame m #[(.ref o0)] 1)) t := fun t k => castTop (ef_rm7 m o0) k
  obtain ⟨T1, X1, e1, st1⟩ := getF X0 hx hZ hown (host := "") (Or.inl (hw _ (List.mem_of_getElem? (i := 24) rfl))) Via.refl e0 F_left_o0 (g := (mkF m 1 #[.val (.ref o0)] [(.ref o0)])) rfl rfl (hb hby d7_1)
  have c2 : ∀ t, Steps p.tables e below (T1.setTop (mkF m 4 #[.val (.ref o0)] [(.int w_left_o0)])) t → Steps p.tables e below (s₁.setTop (entryFrame m #[(.ref o0)] 1)) t := by
    intro t k
    refine c0 t ?_
    show Steps p.tables e below (s₁.setTop (mkF m 0 #[.val (.ref o0)] [])) _
    refine XS.aloadN X0.here hx rfl (hb hby d7_0) rfl rfl ?_
    show Steps p.tables e below (s₁.setTop (mkF m 1 #[.val (.ref o0)] [(.ref o0)])) _
    refine st1 _ ?_
    exact k
  obtain ⟨fs, hr, hrun, hended, hW, hsame⟩ := X1.leave (v := some (.int w_left_o0)) (fun h => by rw [Bd.returns] at h; cases h)
  refine ⟨_, _, c2 _ ?_, hrun, hended, _, _, rfl, ?_, ⟨_, rfl⟩, hW, hsame.mono (by decide) (by decide)⟩
  · show Steps p.tables e below (T1.setTop (mkF m 4 #[.val (.ref o0)] [(.int w_left_o0)])) _
    exact retOut X1 hx Bd.returns rfl (Or.inl ⟨rfl, by simp, _, rfl⟩) (hb hby d7_4) hr
  · show Q7 Z o0 w_left_o0  h0 n0 _ T1.heap _
    rw [e1]
    exact ⟨rfl, N0, rfl⟩
def Q8 (Z : State) (o0 : Addr) (w_top_o0 : Int32)  (h0 : Heap) (n0 : Nat) (v : Option Value) (h : Heap) (L : List Loc) : Prop := v = some (.int w_top_o0) ∧ Fr n0 L ∧ h = h0
set_option maxRecDepth 65536 in
set_option maxHeartbeats 40000000 in
theorem rm8 (l : Launch) (Z : State) (a0 : Array Value) (hw : ∀ d ∈ tables_1, d.before a0 Z = true) (ws : List Jvm.Cond) (o0 : Addr) (w_top_o0 : Int32)  (h0 : Heap) (n0 : Nat) (Z0 : n0 ≤ h0.size) (F_top_o0 : Fld Z h0 o0 "com/example/vetrino/vetrino/Overlap" "top" "I" (.int w_top_o0)) :
    MetFree l (⟨"com/example/vetrino/vetrino/Overlap", "top", "()I"⟩ : MethodName) (head1 (Jvm.Cond.code (⟨"com/example/vetrino/vetrino/Overlap", "top", "()I"⟩ : MethodName) prog_7_method_5_code 1 (some .int) :: ws) ({ frames := 0, cells := 0, slots := 0, locals := 0 } : Room)) (fun a U => a = #[(.ref o0)] ∧ Z.Warmed39 U.vm ∧ U.heap = h0) (fun _ _ _ _ _ => True) (fun _ U o U' => ∃ v L, o = .returned v ∧ Q8 Z o0 w_top_o0  h0 n0 v U'.heap L ∧ FrameEnd U o U' L ({ frames := 0, cells := 0, slots := 0, locals := 0 } : Room).cells ({ frames := 0, cells := 0, slots := 0, locals := 0 } : Room).slots) := by
  refine MetFree.of_bodySF (plainFor_of_name pn_1) hisR ?_
  intro p e s m args below meth c s₁ Bd hml0 hP hK
  obtain ⟨rfl, hZ, hh⟩ := hP
  have hx := Bd.exec
  have hby := Bd.bytes
  have hml : c.maxLocals = 1 := hml0
  have hown : s.vm.findClass "com/example/vetrino/vetrino/Overlap" = some m.cls := findClass_of_methodNamed Bd.named
  have hnm := (name_of_methodNamed Bd.named Bd.method).1
  have X0 : Stand p l e ({ frames := 0, cells := 0, slots := 0, locals := 0 } : Room) s m #[(.ref o0)] below meth c s₁ [] 0 0 := Stand.of_body Bd
  have e0 : s₁.heap = h0 := by rw [← hh, Bd.state]; rfl
  have N0 := Fr.nil n0
  have c0 : ∀ t, Steps p.tables e below (s₁.setTop (mkF m 0 #[.val (.ref o0)] [])) t → Steps p.tables e below (s₁.setTop (entryFrame m #[(.ref o0)] 1)) t := fun t k => castTop (ef_rm8 m o0) k
  obtain ⟨T1, X1, e1, st1⟩ := getF X0 hx hZ hown (host := "") (Or.inl (hw _ (List.mem_of_getElem? (i := 26) rfl))) Via.refl e0 F_top_o0 (g := (mkF m 1 #[.val (.ref o0)] [(.ref o0)])) rfl rfl (hb hby d8_1)
  have c2 : ∀ t, Steps p.tables e below (T1.setTop (mkF m 4 #[.val (.ref o0)] [(.int w_top_o0)])) t → Steps p.tables e below (s₁.setTop (entryFrame m #[(.ref o0)] 1)) t := by
    intro t k
    refine c0 t ?_
    show Steps p.tables e below (s₁.setTop (mkF m 0 #[.val (.ref o0)] [])) _
    refine XS.aloadN X0.here hx rfl (hb hby d8_0) rfl rfl ?_
    show Steps p.tables e below (s₁.setTop (mkF m 1 #[.val (.ref o0)] [(.ref o0)])) _
    refine st1 _ ?_
    exact k
  obtain ⟨fs, hr, hrun, hended, hW, hsame⟩ := X1.leave (v := some (.int w_top_o0)) (fun h => by rw [Bd.returns] at h; cases h)
  refine ⟨_, _, c2 _ ?_, hrun, hended, _, _, rfl, ?_, ⟨_, rfl⟩, hW, hsame.mono (by decide) (by decide)⟩
  · show Steps p.tables e below (T1.setTop (mkF m 4 #[.val (.ref o0)] [(.int w_top_o0)])) _
    exact retOut X1 hx Bd.returns rfl (Or.inl ⟨rfl, by simp, _, rfl⟩) (hb hby d8_4) hr
  · show Q8 Z o0 w_top_o0  h0 n0 _ T1.heap _
    rw [e1]
    exact ⟨rfl, N0, rfl⟩
def Q14 (Z : State) (o0 : Addr) (w_right_o0 : Int32)  (h0 : Heap) (n0 : Nat) (v : Option Value) (h : Heap) (L : List Loc) : Prop := v = some (.int w_right_o0) ∧ Fr n0 L ∧ h = h0
set_option maxRecDepth 65536 in
set_option maxHeartbeats 40000000 in
theorem rm14 (l : Launch) (Z : State) (a0 : Array Value) (hw : ∀ d ∈ tables_1, d.before a0 Z = true) (ws : List Jvm.Cond) (o0 : Addr) (w_right_o0 : Int32)  (h0 : Heap) (n0 : Nat) (Z0 : n0 ≤ h0.size) (F_right_o0 : Fld Z h0 o0 "com/example/vetrino/vetrino/Overlap" "right" "I" (.int w_right_o0)) :
    MetFree l (⟨"com/example/vetrino/vetrino/Overlap", "right", "()I"⟩ : MethodName) (head1 (Jvm.Cond.code (⟨"com/example/vetrino/vetrino/Overlap", "right", "()I"⟩ : MethodName) prog_7_method_6_code 1 (some .int) :: ws) ({ frames := 0, cells := 0, slots := 0, locals := 0 } : Room)) (fun a U => a = #[(.ref o0)] ∧ Z.Warmed39 U.vm ∧ U.heap = h0) (fun _ _ _ _ _ => True) (fun _ U o U' => ∃ v L, o = .returned v ∧ Q14 Z o0 w_right_o0  h0 n0 v U'.heap L ∧ FrameEnd U o U' L ({ frames := 0, cells := 0, slots := 0, locals := 0 } : Room).cells ({ frames := 0, cells := 0, slots := 0, locals := 0 } : Room).slots) := by
  refine MetFree.of_bodySF (plainFor_of_name pn_1) hisR ?_
  intro p e s m args below meth c s₁ Bd hml0 hP hK
  obtain ⟨rfl, hZ, hh⟩ := hP
  have hx := Bd.exec
  have hby := Bd.bytes
  have hml : c.maxLocals = 1 := hml0
  have hown : s.vm.findClass "com/example/vetrino/vetrino/Overlap" = some m.cls := findClass_of_methodNamed Bd.named
  have hnm := (name_of_methodNamed Bd.named Bd.method).1
  have X0 : Stand p l e ({ frames := 0, cells := 0, slots := 0, locals := 0 } : Room) s m #[(.ref o0)] below meth c s₁ [] 0 0 := Stand.of_body Bd
  have e0 : s₁.heap = h0 := by rw [← hh, Bd.state]; rfl
  have N0 := Fr.nil n0
  have c0 : ∀ t, Steps p.tables e below (s₁.setTop (mkF m 0 #[.val (.ref o0)] [])) t → Steps p.tables e below (s₁.setTop (entryFrame m #[(.ref o0)] 1)) t := fun t k => castTop (ef_rm14 m o0) k
  obtain ⟨T1, X1, e1, st1⟩ := getF X0 hx hZ hown (host := "") (Or.inl (hw _ (List.mem_of_getElem? (i := 28) rfl))) Via.refl e0 F_right_o0 (g := (mkF m 1 #[.val (.ref o0)] [(.ref o0)])) rfl rfl (hb hby d14_1)
  have c2 : ∀ t, Steps p.tables e below (T1.setTop (mkF m 4 #[.val (.ref o0)] [(.int w_right_o0)])) t → Steps p.tables e below (s₁.setTop (entryFrame m #[(.ref o0)] 1)) t := by
    intro t k
    refine c0 t ?_
    show Steps p.tables e below (s₁.setTop (mkF m 0 #[.val (.ref o0)] [])) _
    refine XS.aloadN X0.here hx rfl (hb hby d14_0) rfl rfl ?_
    show Steps p.tables e below (s₁.setTop (mkF m 1 #[.val (.ref o0)] [(.ref o0)])) _
    refine st1 _ ?_
    exact k
  obtain ⟨fs, hr, hrun, hended, hW, hsame⟩ := X1.leave (v := some (.int w_right_o0)) (fun h => by rw [Bd.returns] at h; cases h)
  refine ⟨_, _, c2 _ ?_, hrun, hended, _, _, rfl, ?_, ⟨_, rfl⟩, hW, hsame.mono (by decide) (by decide)⟩
  · show Steps p.tables e below (T1.setTop (mkF m 4 #[.val (.ref o0)] [(.int w_right_o0)])) _
    exact retOut X1 hx Bd.returns rfl (Or.inl ⟨rfl, by simp, _, rfl⟩) (hb hby d14_4) hr
  · show Q14 Z o0 w_right_o0  h0 n0 _ T1.heap _
    rw [e1]
    exact ⟨rfl, N0, rfl⟩
def Q9 (Z : State) (o0 : Addr) (w_bottom_o0 : Int32)  (h0 : Heap) (n0 : Nat) (v : Option Value) (h : Heap) (L : List Loc) : Prop := v = some (.int w_bottom_o0) ∧ Fr n0 L ∧ h = h0
set_option maxRecDepth 65536 in
set_option maxHeartbeats 40000000 in
theorem rm9 (l : Launch) (Z : State) (a0 : Array Value) (hw : ∀ d ∈ tables_1, d.before a0 Z = true) (ws : List Jvm.Cond) (o0 : Addr) (w_bottom_o0 : Int32)  (h0 : Heap) (n0 : Nat) (Z0 : n0 ≤ h0.size) (F_bottom_o0 : Fld Z h0 o0 "com/example/vetrino/vetrino/Overlap" "bottom" "I" (.int w_bottom_o0)) :
    MetFree l (⟨"com/example/vetrino/vetrino/Overlap", "bottom", "()I"⟩ : MethodName) (head1 (Jvm.Cond.code (⟨"com/example/vetrino/vetrino/Overlap", "bottom", "()I"⟩ : MethodName) prog_7_method_7_code 1 (some .int) :: ws) ({ frames := 0, cells := 0, slots := 0, locals := 0 } : Room)) (fun a U => a = #[(.ref o0)] ∧ Z.Warmed39 U.vm ∧ U.heap = h0) (fun _ _ _ _ _ => True) (fun _ U o U' => ∃ v L, o = .returned v ∧ Q9 Z o0 w_bottom_o0  h0 n0 v U'.heap L ∧ FrameEnd U o U' L ({ frames := 0, cells := 0, slots := 0, locals := 0 } : Room).cells ({ frames := 0, cells := 0, slots := 0, locals := 0 } : Room).slots) := by
  refine MetFree.of_bodySF (plainFor_of_name pn_1) hisR ?_
  intro p e s m args below meth c s₁ Bd hml0 hP hK
  obtain ⟨rfl, hZ, hh⟩ := hP
  have hx := Bd.exec
  have hby := Bd.bytes
  have hml : c.maxLocals = 1 := hml0
  have hown : s.vm.findClass "com/example/vetrino/vetrino/Overlap" = some m.cls := findClass_of_methodNamed Bd.named
  have hnm := (name_of_methodNamed Bd.named Bd.method).1
  have X0 : Stand p l e ({ frames := 0, cells := 0, slots := 0, locals := 0 } : Room) s m #[(.ref o0)] below meth c s₁ [] 0 0 := Stand.of_body Bd
  have e0 : s₁.heap = h0 := by rw [← hh, Bd.state]; rfl
  have N0 := Fr.nil n0
  have c0 : ∀ t, Steps p.tables e below (s₁.setTop (mkF m 0 #[.val (.ref o0)] [])) t → Steps p.tables e below (s₁.setTop (entryFrame m #[(.ref o0)] 1)) t := fun t k => castTop (ef_rm9 m o0) k
  obtain ⟨T1, X1, e1, st1⟩ := getF X0 hx hZ hown (host := "") (Or.inl (hw _ (List.mem_of_getElem? (i := 30) rfl))) Via.refl e0 F_bottom_o0 (g := (mkF m 1 #[.val (.ref o0)] [(.ref o0)])) rfl rfl (hb hby d9_1)
  have c2 : ∀ t, Steps p.tables e below (T1.setTop (mkF m 4 #[.val (.ref o0)] [(.int w_bottom_o0)])) t → Steps p.tables e below (s₁.setTop (entryFrame m #[(.ref o0)] 1)) t := by
    intro t k
    refine c0 t ?_
    show Steps p.tables e below (s₁.setTop (mkF m 0 #[.val (.ref o0)] [])) _
    refine XS.aloadN X0.here hx rfl (hb hby d9_0) rfl rfl ?_
    show Steps p.tables e below (s₁.setTop (mkF m 1 #[.val (.ref o0)] [(.ref o0)])) _
    refine st1 _ ?_
    exact k
  obtain ⟨fs, hr, hrun, hended, hW, hsame⟩ := X1.leave (v := some (.int w_bottom_o0)) (fun h => by rw [Bd.returns] at h; cases h)
  refine ⟨_, _, c2 _ ?_, hrun, hended, _, _, rfl, ?_, ⟨_, rfl⟩, hW, hsame.mono (by decide) (by decide)⟩
  · show Steps p.tables e below (T1.setTop (mkF m 4 #[.val (.ref o0)] [(.int w_bottom_o0)])) _
    exact retOut X1 hx Bd.returns rfl (Or.inl ⟨rfl, by simp, _, rfl⟩) (hb hby d9_4) hr
  · show Q9 Z o0 w_bottom_o0  h0 n0 _ T1.heap _
    rw [e1]
    exact ⟨rfl, N0, rfl⟩
def Q10 (Z : State) (p0 : Int32) (p1 : Int32) (p2 : Int32) (z1 : Int64) (z5 : Int64) (z6 : Int64) (z11 : Int32) (z17 : Int64) (z18 : Int32) (z25 : Int32) (z32 : Int64) (z33 : Int32) (rv : Int32) (h0 : Heap) (n0 : Nat) (v : Option Value) (h : Heap) (L : List Loc) : Prop := v = some (.int rv) ∧ Fr n0 L ∧ h = h0
set_option maxRecDepth 65536 in
set_option maxHeartbeats 40000000 in
theorem rm10 (l : Launch) (Z : State) (a0 : Array Value) (hw : ∀ d ∈ tables_1, d.before a0 Z = true) (ws : List Jvm.Cond) (p0 : Int32) (p1 : Int32) (p2 : Int32) (z1 : Int64) (z5 : Int64) (z6 : Int64) (z11 : Int32) (z17 : Int64) (z18 : Int32) (z25 : Int32) (z32 : Int64) (z33 : Int32) (rv : Int32) (h0 : Heap) (n0 : Nat) (Z0 : n0 ≤ h0.size) (hz1 : p0.toInt64 = z1) (hz5 : p1.toInt64 = z5) (hz6 : z1 - z5 = z6) (hz11 : lcmpW (0 : Int64) z1 = z11) (hz17 : p2.toInt64 = z17) (hz18 : lcmpW z1 z17 = z18) (hz25 : lcmpW (0 : Int64) z6 = z25) (hz32 : p2.toInt64 = z32) (hz33 : lcmpW z6 z32 = z33) (hrv : (if (0 : Int32) < z11 then (0 : Int32) else (if z18 < (0 : Int32) then (if (0 : Int32) < z25 then (0 : Int32) else (if z33 < (0 : Int32) then (1 : Int32) else (0 : Int32))) else (0 : Int32))) = rv) :
    MetFree l (⟨"com/example/vetrino/vetrino/OverlapOfPinLaw", "meets", "(III)Z"⟩ : MethodName) (head1 (Jvm.Cond.code (⟨"com/example/vetrino/vetrino/OverlapOfPinLaw", "meets", "(III)Z"⟩ : MethodName) method_4_code 7 (some .boolean) :: ws) ({ frames := 0, cells := 0, slots := 0, locals := 0 } : Room)) (fun a U => a = #[(.int p0), (.int p1), (.int p2)] ∧ Z.Warmed39 U.vm ∧ U.heap = h0) (fun _ _ _ _ _ => True) (fun _ U o U' => ∃ v L, o = .returned v ∧ Q10 Z p0 p1 p2 z1 z5 z6 z11 z17 z18 z25 z32 z33 rv h0 n0 v U'.heap L ∧ FrameEnd U o U' L ({ frames := 0, cells := 0, slots := 0, locals := 0 } : Room).cells ({ frames := 0, cells := 0, slots := 0, locals := 0 } : Room).slots) := by
  refine MetFree.of_bodySF (plainFor_of_name pn_0) hisR ?_
  intro p e s m args below meth c s₁ Bd hml0 hP hK
  obtain ⟨rfl, hZ, hh⟩ := hP
  have hx := Bd.exec
  have hby := Bd.bytes
  have hml : c.maxLocals = 7 := hml0
  have hown : s.vm.findClass "com/example/vetrino/vetrino/OverlapOfPinLaw" = some m.cls := findClass_of_methodNamed Bd.named
  have hnm := (name_of_methodNamed Bd.named Bd.method).1
  have X0 : Stand p l e ({ frames := 0, cells := 0, slots := 0, locals := 0 } : Room) s m #[(.int p0), (.int p1), (.int p2)] below meth c s₁ [] 0 0 := Stand.of_body Bd
  have e0 : s₁.heap = h0 := by rw [← hh, Bd.state]; rfl
  have N0 := Fr.nil n0
  have c0 : ∀ t, Steps p.tables e below (s₁.setTop (mkF m 0 #[.val (.int p0), .val (.int p1), .val (.int p2), .unset, .unset, .unset, .unset] [])) t → Steps p.tables e below (s₁.setTop (entryFrame m #[(.int p0), (.int p1), (.int p2)] 7)) t := fun t k => castTop (ef_rm10 m p0 p1 p2) k
  have c1 : ∀ t, Steps p.tables e below (s₁.setTop (mkF m 12 #[.val (.int p0), .val (.int p1), .val (.int p2), .val (.long z1), .second, .val (.long z6), .second] [(.int z11)])) t → Steps p.tables e below (s₁.setTop (entryFrame m #[(.int p0), (.int p1), (.int p2)] 7)) t := by
    intro t k
    refine c0 t ?_
    show Steps p.tables e below (s₁.setTop (mkF m 0 #[.val (.int p0), .val (.int p1), .val (.int p2), .unset, .unset, .unset, .unset] [])) _
    refine XS.iloadN X0.here hx rfl (hb hby d10_0) rfl ?_
    show Steps p.tables e below (s₁.setTop (mkF m 1 #[.val (.int p0), .val (.int p1), .val (.int p2), .unset, .unset, .unset, .unset] [(.int p0)])) _
    refine Jvm.OwnK.i2l X0.here hx rfl (hb hby d10_1) rfl hz1 ?_
    show Steps p.tables e below (s₁.setTop (mkF m 2 #[.val (.int p0), .val (.int p1), .val (.int p2), .unset, .unset, .unset, .unset] [(.long z1)])) _
    refine XS.lstoreN X0.here hx rfl (hb hby d10_2) rfl (l' := #[.val (.int p0), .val (.int p1), .val (.int p2), .val (.long z1), .second, .unset, .unset]) rfl ?_
    show Steps p.tables e below (s₁.setTop (mkF m 3 #[.val (.int p0), .val (.int p1), .val (.int p2), .val (.long z1), .second, .unset, .unset] [])) _
    refine XS.lloadN X0.here hx rfl (hb hby d10_3) rfl ?_
    show Steps p.tables e below (s₁.setTop (mkF m 4 #[.val (.int p0), .val (.int p1), .val (.int p2), .val (.long z1), .second, .unset, .unset] [(.long z1)])) _
    refine XS.iloadN X0.here hx rfl (hb hby d10_4) rfl ?_
    show Steps p.tables e below (s₁.setTop (mkF m 5 #[.val (.int p0), .val (.int p1), .val (.int p2), .val (.long z1), .second, .unset, .unset] [(.int p1), (.long z1)])) _
    refine Jvm.OwnK.i2l X0.here hx rfl (hb hby d10_5) rfl hz5 ?_
    show Steps p.tables e below (s₁.setTop (mkF m 6 #[.val (.int p0), .val (.int p1), .val (.int p2), .val (.long z1), .second, .unset, .unset] [(.long z5), (.long z1)])) _
    refine Jvm.OwnK.lsub X0.here hx rfl (hb hby d10_6) rfl hz6 ?_
    show Steps p.tables e below (s₁.setTop (mkF m 7 #[.val (.int p0), .val (.int p1), .val (.int p2), .val (.long z1), .second, .unset, .unset] [(.long z6)])) _
    refine XS.lstore X0.here hx rfl (hb hby d10_7) rfl (l' := #[.val (.int p0), .val (.int p1), .val (.int p2), .val (.long z1), .second, .val (.long z6), .second]) rfl ?_
    show Steps p.tables e below (s₁.setTop (mkF m 9 #[.val (.int p0), .val (.int p1), .val (.int p2), .val (.long z1), .second, .val (.long z6), .second] [])) _
    refine XS.lconst X0.here hx rfl (hb hby d10_9) ?_
    show Steps p.tables e below (s₁.setTop (mkF m 10 #[.val (.int p0), .val (.int p1), .val (.int p2), .val (.long z1), .second, .val (.long z6), .second] [(.long (0 : Int64))])) _
    refine XS.lloadN X0.here hx rfl (hb hby d10_10) rfl ?_
    show Steps p.tables e below (s₁.setTop (mkF m 11 #[.val (.int p0), .val (.int p1), .val (.int p2), .val (.long z1), .second, .val (.long z6), .second] [(.long z1), (.long (0 : Int64))])) _
    refine Jvm.OwnK.lcmp X0.here hx rfl (hb hby d10_11) rfl hz11 ?_
    exact k
  by_cases hb12 : (0 : Int32) < z11
  · skip
    have c2 : ∀ t, Steps p.tables e below (s₁.setTop (mkF m 42 #[.val (.int p0), .val (.int p1), .val (.int p2), .val (.long z1), .second, .val (.long z6), .second] [(.int (0 : Int32))])) t → Steps p.tables e below (s₁.setTop (entryFrame m #[(.int p0), (.int p1), (.int p2)] 7)) t := by
      intro t k
      refine c1 t ?_
      show Steps p.tables e below (s₁.setTop (mkF m 12 #[.val (.int p0), .val (.int p1), .val (.int p2), .val (.long z1), .second, .val (.long z6), .second] [(.int z11)])) _
      refine XS.ifYes X0.here hx rfl (pc0 := 12) (pc' := 41) rfl (hb hby d10_12) rfl (Jvm.Free.XT.i0_gt_t hb12) (by decide) (by decide) ?_
      show Steps p.tables e below (s₁.setTop (mkF m 41 #[.val (.int p0), .val (.int p1), .val (.int p2), .val (.long z1), .second, .val (.long z6), .second] [])) _
      refine XS.iconst X0.here hx rfl (hb hby d10_41) ?_
      exact k
    obtain ⟨fs, hr, hrun, hended, hW, hsame⟩ := X0.leave (v := some (.int (0 : Int32))) (fun h => by rw [Bd.returns] at h; cases h)
    refine ⟨_, _, c2 _ ?_, hrun, hended, _, _, rfl, ?_, ⟨_, rfl⟩, hW, hsame.mono (by decide) (by decide)⟩
    · show Steps p.tables e below (s₁.setTop (mkF m 42 #[.val (.int p0), .val (.int p1), .val (.int p2), .val (.long z1), .second, .val (.long z6), .second] [(.int (0 : Int32))])) _
      exact retOut X0 hx Bd.returns rfl (Or.inl ⟨rfl, by simp, _, rfl⟩) (hb hby d10_42) hr
    · show Q10 Z p0 p1 p2 z1 z5 z6 z11 z17 z18 z25 z32 z33 rv h0 n0 _ s₁.heap _
      rw [e0]
      exact ⟨(congrArg (fun z => some (Value.int z)) (show (0 : Int32) = rv by rw [← hrv]; simp only [if_pos hb12])), by first | assumption | exact N0, rfl⟩
  · skip
    have c3 : ∀ t, Steps p.tables e below (s₁.setTop (mkF m 19 #[.val (.int p0), .val (.int p1), .val (.int p2), .val (.long z1), .second, .val (.long z6), .second] [(.int z18)])) t → Steps p.tables e below (s₁.setTop (entryFrame m #[(.int p0), (.int p1), (.int p2)] 7)) t := by
      intro t k
      refine c1 t ?_
      show Steps p.tables e below (s₁.setTop (mkF m 12 #[.val (.int p0), .val (.int p1), .val (.int p2), .val (.long z1), .second, .val (.long z6), .second] [(.int z11)])) _
      refine XS.ifNo X0.here hx rfl (hb hby d10_12) rfl (Jvm.Free.XT.i0_gt_f hb12) ?_
      show Steps p.tables e below (s₁.setTop (mkF m 15 #[.val (.int p0), .val (.int p1), .val (.int p2), .val (.long z1), .second, .val (.long z6), .second] [])) _
      refine XS.lloadN X0.here hx rfl (hb hby d10_15) rfl ?_
      show Steps p.tables e below (s₁.setTop (mkF m 16 #[.val (.int p0), .val (.int p1), .val (.int p2), .val (.long z1), .second, .val (.long z6), .second] [(.long z1)])) _
      refine XS.iloadN X0.here hx rfl (hb hby d10_16) rfl ?_
      show Steps p.tables e below (s₁.setTop (mkF m 17 #[.val (.int p0), .val (.int p1), .val (.int p2), .val (.long z1), .second, .val (.long z6), .second] [(.int p2), (.long z1)])) _
      refine Jvm.OwnK.i2l X0.here hx rfl (hb hby d10_17) rfl hz17 ?_
      show Steps p.tables e below (s₁.setTop (mkF m 18 #[.val (.int p0), .val (.int p1), .val (.int p2), .val (.long z1), .second, .val (.long z6), .second] [(.long z17), (.long z1)])) _
      refine Jvm.OwnK.lcmp X0.here hx rfl (hb hby d10_18) rfl hz18 ?_
      exact k
    by_cases hb19 : z18 < (0 : Int32)
    · skip
      have c4 : ∀ t, Steps p.tables e below (s₁.setTop (mkF m 26 #[.val (.int p0), .val (.int p1), .val (.int p2), .val (.long z1), .second, .val (.long z6), .second] [(.int z25)])) t → Steps p.tables e below (s₁.setTop (entryFrame m #[(.int p0), (.int p1), (.int p2)] 7)) t := by
        intro t k
        refine c3 t ?_
        show Steps p.tables e below (s₁.setTop (mkF m 19 #[.val (.int p0), .val (.int p1), .val (.int p2), .val (.long z1), .second, .val (.long z6), .second] [(.int z18)])) _
        refine XS.ifNo X0.here hx rfl (hb hby d10_19) rfl (Jvm.Free.XT.i0_ge_f hb19) ?_
        show Steps p.tables e below (s₁.setTop (mkF m 22 #[.val (.int p0), .val (.int p1), .val (.int p2), .val (.long z1), .second, .val (.long z6), .second] [])) _
        refine XS.lconst X0.here hx rfl (hb hby d10_22) ?_
        show Steps p.tables e below (s₁.setTop (mkF m 23 #[.val (.int p0), .val (.int p1), .val (.int p2), .val (.long z1), .second, .val (.long z6), .second] [(.long (0 : Int64))])) _
        refine XS.lload X0.here hx rfl (hb hby d10_23) rfl ?_
        show Steps p.tables e below (s₁.setTop (mkF m 25 #[.val (.int p0), .val (.int p1), .val (.int p2), .val (.long z1), .second, .val (.long z6), .second] [(.long z6), (.long (0 : Int64))])) _
        refine Jvm.OwnK.lcmp X0.here hx rfl (hb hby d10_25) rfl hz25 ?_
        exact k
      by_cases hb26 : (0 : Int32) < z25
      · skip
        have c5 : ∀ t, Steps p.tables e below (s₁.setTop (mkF m 42 #[.val (.int p0), .val (.int p1), .val (.int p2), .val (.long z1), .second, .val (.long z6), .second] [(.int (0 : Int32))])) t → Steps p.tables e below (s₁.setTop (entryFrame m #[(.int p0), (.int p1), (.int p2)] 7)) t := by
          intro t k
          refine c4 t ?_
          show Steps p.tables e below (s₁.setTop (mkF m 26 #[.val (.int p0), .val (.int p1), .val (.int p2), .val (.long z1), .second, .val (.long z6), .second] [(.int z25)])) _
          refine XS.ifYes X0.here hx rfl (pc0 := 26) (pc' := 41) rfl (hb hby d10_26) rfl (Jvm.Free.XT.i0_gt_t hb26) (by decide) (by decide) ?_
          show Steps p.tables e below (s₁.setTop (mkF m 41 #[.val (.int p0), .val (.int p1), .val (.int p2), .val (.long z1), .second, .val (.long z6), .second] [])) _
          refine XS.iconst X0.here hx rfl (hb hby d10_41) ?_
          exact k
        obtain ⟨fs, hr, hrun, hended, hW, hsame⟩ := X0.leave (v := some (.int (0 : Int32))) (fun h => by rw [Bd.returns] at h; cases h)
        refine ⟨_, _, c5 _ ?_, hrun, hended, _, _, rfl, ?_, ⟨_, rfl⟩, hW, hsame.mono (by decide) (by decide)⟩
        · show Steps p.tables e below (s₁.setTop (mkF m 42 #[.val (.int p0), .val (.int p1), .val (.int p2), .val (.long z1), .second, .val (.long z6), .second] [(.int (0 : Int32))])) _
          exact retOut X0 hx Bd.returns rfl (Or.inl ⟨rfl, by simp, _, rfl⟩) (hb hby d10_42) hr
        · show Q10 Z p0 p1 p2 z1 z5 z6 z11 z17 z18 z25 z32 z33 rv h0 n0 _ s₁.heap _
          rw [e0]
          exact ⟨(congrArg (fun z => some (Value.int z)) (show (0 : Int32) = rv by rw [← hrv]; simp only [if_neg hb12, if_pos hb19, if_pos hb26])), by first | assumption | exact N0, rfl⟩
      · skip
        have c6 : ∀ t, Steps p.tables e below (s₁.setTop (mkF m 34 #[.val (.int p0), .val (.int p1), .val (.int p2), .val (.long z1), .second, .val (.long z6), .second] [(.int z33)])) t → Steps p.tables e below (s₁.setTop (entryFrame m #[(.int p0), (.int p1), (.int p2)] 7)) t := by
          intro t k
          refine c4 t ?_
          show Steps p.tables e below (s₁.setTop (mkF m 26 #[.val (.int p0), .val (.int p1), .val (.int p2), .val (.long z1), .second, .val (.long z6), .second] [(.int z25)])) _
          refine XS.ifNo X0.here hx rfl (hb hby d10_26) rfl (Jvm.Free.XT.i0_gt_f hb26) ?_
          show Steps p.tables e below (s₁.setTop (mkF m 29 #[.val (.int p0), .val (.int p1), .val (.int p2), .val (.long z1), .second, .val (.long z6), .second] [])) _
          refine XS.lload X0.here hx rfl (hb hby d10_29) rfl ?_
          show Steps p.tables e below (s₁.setTop (mkF m 31 #[.val (.int p0), .val (.int p1), .val (.int p2), .val (.long z1), .second, .val (.long z6), .second] [(.long z6)])) _
          refine XS.iloadN X0.here hx rfl (hb hby d10_31) rfl ?_
          show Steps p.tables e below (s₁.setTop (mkF m 32 #[.val (.int p0), .val (.int p1), .val (.int p2), .val (.long z1), .second, .val (.long z6), .second] [(.int p2), (.long z6)])) _
          refine Jvm.OwnK.i2l X0.here hx rfl (hb hby d10_32) rfl hz32 ?_
          show Steps p.tables e below (s₁.setTop (mkF m 33 #[.val (.int p0), .val (.int p1), .val (.int p2), .val (.long z1), .second, .val (.long z6), .second] [(.long z32), (.long z6)])) _
          refine Jvm.OwnK.lcmp X0.here hx rfl (hb hby d10_33) rfl hz33 ?_
          exact k
        by_cases hb34 : z33 < (0 : Int32)
        · skip
          have c7 : ∀ t, Steps p.tables e below (s₁.setTop (mkF m 42 #[.val (.int p0), .val (.int p1), .val (.int p2), .val (.long z1), .second, .val (.long z6), .second] [(.int (1 : Int32))])) t → Steps p.tables e below (s₁.setTop (entryFrame m #[(.int p0), (.int p1), (.int p2)] 7)) t := by
            intro t k
            refine c6 t ?_
            show Steps p.tables e below (s₁.setTop (mkF m 34 #[.val (.int p0), .val (.int p1), .val (.int p2), .val (.long z1), .second, .val (.long z6), .second] [(.int z33)])) _
            refine XS.ifNo X0.here hx rfl (hb hby d10_34) rfl (Jvm.Free.XT.i0_ge_f hb34) ?_
            show Steps p.tables e below (s₁.setTop (mkF m 37 #[.val (.int p0), .val (.int p1), .val (.int p2), .val (.long z1), .second, .val (.long z6), .second] [])) _
            refine XS.iconst X0.here hx rfl (hb hby d10_37) ?_
            show Steps p.tables e below (s₁.setTop (mkF m 38 #[.val (.int p0), .val (.int p1), .val (.int p2), .val (.long z1), .second, .val (.long z6), .second] [(.int (1 : Int32))])) _
            refine XS.goto X0.here hx rfl (pc0 := 38) (pc' := 42) rfl (hb hby d10_38) (by decide) (by decide) ?_
            exact k
          obtain ⟨fs, hr, hrun, hended, hW, hsame⟩ := X0.leave (v := some (.int (1 : Int32))) (fun h => by rw [Bd.returns] at h; cases h)
          refine ⟨_, _, c7 _ ?_, hrun, hended, _, _, rfl, ?_, ⟨_, rfl⟩, hW, hsame.mono (by decide) (by decide)⟩
          · show Steps p.tables e below (s₁.setTop (mkF m 42 #[.val (.int p0), .val (.int p1), .val (.int p2), .val (.long z1), .second, .val (.long z6), .second] [(.int (1 : Int32))])) _
            exact retOut X0 hx Bd.returns rfl (Or.inl ⟨rfl, by simp, _, rfl⟩) (hb hby d10_42) hr
          · show Q10 Z p0 p1 p2 z1 z5 z6 z11 z17 z18 z25 z32 z33 rv h0 n0 _ s₁.heap _
            rw [e0]
            exact ⟨(congrArg (fun z => some (Value.int z)) (show (1 : Int32) = rv by rw [← hrv]; simp only [if_neg hb12, if_pos hb19, if_neg hb26, if_pos hb34])), by first | assumption | exact N0, rfl⟩
        · skip
          have c8 : ∀ t, Steps p.tables e below (s₁.setTop (mkF m 42 #[.val (.int p0), .val (.int p1), .val (.int p2), .val (.long z1), .second, .val (.long z6), .second] [(.int (0 : Int32))])) t → Steps p.tables e below (s₁.setTop (entryFrame m #[(.int p0), (.int p1), (.int p2)] 7)) t := by
            intro t k
            refine c6 t ?_
            show Steps p.tables e below (s₁.setTop (mkF m 34 #[.val (.int p0), .val (.int p1), .val (.int p2), .val (.long z1), .second, .val (.long z6), .second] [(.int z33)])) _
            refine XS.ifYes X0.here hx rfl (pc0 := 34) (pc' := 41) rfl (hb hby d10_34) rfl (Jvm.Free.XT.i0_ge_t hb34) (by decide) (by decide) ?_
            show Steps p.tables e below (s₁.setTop (mkF m 41 #[.val (.int p0), .val (.int p1), .val (.int p2), .val (.long z1), .second, .val (.long z6), .second] [])) _
            refine XS.iconst X0.here hx rfl (hb hby d10_41) ?_
            exact k
          obtain ⟨fs, hr, hrun, hended, hW, hsame⟩ := X0.leave (v := some (.int (0 : Int32))) (fun h => by rw [Bd.returns] at h; cases h)
          refine ⟨_, _, c8 _ ?_, hrun, hended, _, _, rfl, ?_, ⟨_, rfl⟩, hW, hsame.mono (by decide) (by decide)⟩
          · show Steps p.tables e below (s₁.setTop (mkF m 42 #[.val (.int p0), .val (.int p1), .val (.int p2), .val (.long z1), .second, .val (.long z6), .second] [(.int (0 : Int32))])) _
            exact retOut X0 hx Bd.returns rfl (Or.inl ⟨rfl, by simp, _, rfl⟩) (hb hby d10_42) hr
          · show Q10 Z p0 p1 p2 z1 z5 z6 z11 z17 z18 z25 z32 z33 rv h0 n0 _ s₁.heap _
            rw [e0]
            exact ⟨(congrArg (fun z => some (Value.int z)) (show (0 : Int32) = rv by rw [← hrv]; simp only [if_neg hb12, if_pos hb19, if_neg hb26, if_neg hb34])), by first | assumption | exact N0, rfl⟩
    · skip
      have c9 : ∀ t, Steps p.tables e below (s₁.setTop (mkF m 42 #[.val (.int p0), .val (.int p1), .val (.int p2), .val (.long z1), .second, .val (.long z6), .second] [(.int (0 : Int32))])) t → Steps p.tables e below (s₁.setTop (entryFrame m #[(.int p0), (.int p1), (.int p2)] 7)) t := by
        intro t k
        refine c3 t ?_
        show Steps p.tables e below (s₁.setTop (mkF m 19 #[.val (.int p0), .val (.int p1), .val (.int p2), .val (.long z1), .second, .val (.long z6), .second] [(.int z18)])) _
        refine XS.ifYes X0.here hx rfl (pc0 := 19) (pc' := 41) rfl (hb hby d10_19) rfl (Jvm.Free.XT.i0_ge_t hb19) (by decide) (by decide) ?_
        show Steps p.tables e below (s₁.setTop (mkF m 41 #[.val (.int p0), .val (.int p1), .val (.int p2), .val (.long z1), .second, .val (.long z6), .second] [])) _
        refine XS.iconst X0.here hx rfl (hb hby d10_41) ?_
        exact k
      obtain ⟨fs, hr, hrun, hended, hW, hsame⟩ := X0.leave (v := some (.int (0 : Int32))) (fun h => by rw [Bd.returns] at h; cases h)
      refine ⟨_, _, c9 _ ?_, hrun, hended, _, _, rfl, ?_, ⟨_, rfl⟩, hW, hsame.mono (by decide) (by decide)⟩
      · show Steps p.tables e below (s₁.setTop (mkF m 42 #[.val (.int p0), .val (.int p1), .val (.int p2), .val (.long z1), .second, .val (.long z6), .second] [(.int (0 : Int32))])) _
        exact retOut X0 hx Bd.returns rfl (Or.inl ⟨rfl, by simp, _, rfl⟩) (hb hby d10_42) hr
      · show Q10 Z p0 p1 p2 z1 z5 z6 z11 z17 z18 z25 z32 z33 rv h0 n0 _ s₁.heap _
        rw [e0]
        exact ⟨(congrArg (fun z => some (Value.int z)) (show (0 : Int32) = rv by rw [← hrv]; simp only [if_neg hb12, if_neg hb19])), by first | assumption | exact N0, rfl⟩
def Q13 (Z : State) (o0 : Addr) (w_right_o0 : Int32) (w_left_o0 : Int32) (w_bottom_o0 : Int32) (w_top_o0 : Int32) (z30 : Int32) (z31 : UInt64) (z40 : Int32) (z41 : UInt64) (z42 : UInt64) (rv : UInt64) (h0 : Heap) (n0 : Nat) (v : Option Value) (h : Heap) (L : List Loc) : Prop := v = some (.double rv) ∧ Fr n0 L ∧ h = h0
set_option maxRecDepth 65536 in
set_option maxHeartbeats 40000000 in
theorem rm13 (l : Launch) (Z : State) (a0 : Array Value) (hw : ∀ d ∈ tables_1, d.before a0 Z = true) (ws : List Jvm.Cond) (o0 : Addr) (w_right_o0 : Int32) (w_left_o0 : Int32) (w_bottom_o0 : Int32) (w_top_o0 : Int32) (z30 : Int32) (z31 : UInt64) (z40 : Int32) (z41 : UInt64) (z42 : UInt64) (rv : UInt64) (h0 : Heap) (n0 : Nat) (Z0 : n0 ≤ h0.size) (F_right_o0 : Fld Z h0 o0 "com/example/vetrino/vetrino/Overlap" "right" "I" (.int w_right_o0)) (F_left_o0 : Fld Z h0 o0 "com/example/vetrino/vetrino/Overlap" "left" "I" (.int w_left_o0)) (F_bottom_o0 : Fld Z h0 o0 "com/example/vetrino/vetrino/Overlap" "bottom" "I" (.int w_bottom_o0)) (F_top_o0 : Fld Z h0 o0 "com/example/vetrino/vetrino/Overlap" "top" "I" (.int w_top_o0)) (hz30 : w_right_o0 - w_left_o0 = z30) (hz31 : FP.i2d z30 = z31) (hz40 : w_bottom_o0 - w_top_o0 = z40) (hz41 : FP.i2d z40 = z41) (hz42 : FP.dmul z31 z41 = z42) (hrv : (if w_left_o0 < w_right_o0 then (if w_top_o0 < w_bottom_o0 then z42 else FP.dconst0) else FP.dconst0) = rv) (nn42 : (w_left_o0 < w_right_o0) → (w_top_o0 < w_bottom_o0) → Jvm.Free.Fl.NoNaN64 z42) :
    MetFree l (⟨"com/example/vetrino/vetrino/Overlap", "area", "()D"⟩ : MethodName) (head1 (Jvm.Cond.code (⟨"com/example/vetrino/vetrino/Overlap", "area", "()D"⟩ : MethodName) prog_7_method_8_code 1 (some .double) :: ws) ({ frames := 0, cells := 0, slots := 0, locals := 0 } : Room)) (fun a U => a = #[(.ref o0)] ∧ Z.Warmed39 U.vm ∧ U.heap = h0) (fun _ _ _ _ _ => True) (fun _ U o U' => ∃ v L, o = .returned v ∧ Q13 Z o0 w_right_o0 w_left_o0 w_bottom_o0 w_top_o0 z30 z31 z40 z41 z42 rv h0 n0 v U'.heap L ∧ FrameEnd U o U' L ({ frames := 0, cells := 0, slots := 0, locals := 0 } : Room).cells ({ frames := 0, cells := 0, slots := 0, locals := 0 } : Room).slots) := by
  refine MetFree.of_bodySF (plainFor_of_name pn_1) hisR ?_
  intro p e s m args below meth c s₁ Bd hml0 hP hK
  obtain ⟨rfl, hZ, hh⟩ := hP
  have hx := Bd.exec
  have hby := Bd.bytes
  have hml : c.maxLocals = 1 := hml0
  have hown : s.vm.findClass "com/example/vetrino/vetrino/Overlap" = some m.cls := findClass_of_methodNamed Bd.named
  have hnm := (name_of_methodNamed Bd.named Bd.method).1
  have X0 : Stand p l e ({ frames := 0, cells := 0, slots := 0, locals := 0 } : Room) s m #[(.ref o0)] below meth c s₁ [] 0 0 := Stand.of_body Bd
  have e0 : s₁.heap = h0 := by rw [← hh, Bd.state]; rfl
  have N0 := Fr.nil n0
  have c0 : ∀ t, Steps p.tables e below (s₁.setTop (mkF m 0 #[.val (.ref o0)] [])) t → Steps p.tables e below (s₁.setTop (entryFrame m #[(.ref o0)] 1)) t := fun t k => castTop (ef_rm13 m o0) k
  obtain ⟨T1, X1, e1, st1⟩ := getF X0 hx hZ hown (host := "") (Or.inl (hw _ (List.mem_of_getElem? (i := 28) rfl))) Via.refl e0 F_right_o0 (g := (mkF m 1 #[.val (.ref o0)] [(.ref o0)])) rfl rfl (hb hby d13_1)
  obtain ⟨T2, X2, e2, st2⟩ := getF X1 hx hZ hown (host := "") (Or.inl (hw _ (List.mem_of_getElem? (i := 24) rfl))) Via.refl e1 F_left_o0 (g := (mkF m 5 #[.val (.ref o0)] [(.ref o0), (.int w_right_o0)])) rfl rfl (hb hby d13_5)
  have c3 : ∀ t, Steps p.tables e below (T2.setTop (mkF m 8 #[.val (.ref o0)] [(.int w_left_o0), (.int w_right_o0)])) t → Steps p.tables e below (s₁.setTop (entryFrame m #[(.ref o0)] 1)) t := by
    intro t k
    refine c0 t ?_
    show Steps p.tables e below (s₁.setTop (mkF m 0 #[.val (.ref o0)] [])) _
    refine XS.aloadN X0.here hx rfl (hb hby d13_0) rfl rfl ?_
    show Steps p.tables e below (s₁.setTop (mkF m 1 #[.val (.ref o0)] [(.ref o0)])) _
    refine st1 _ ?_
    show Steps p.tables e below (T1.setTop (mkF m 4 #[.val (.ref o0)] [(.int w_right_o0)])) _
    refine XS.aloadN X1.here hx rfl (hb hby d13_4) rfl rfl ?_
    show Steps p.tables e below (T1.setTop (mkF m 5 #[.val (.ref o0)] [(.ref o0), (.int w_right_o0)])) _
    refine st2 _ ?_
    exact k
  by_cases hb8 : w_left_o0 < w_right_o0
  · skip
    obtain ⟨T4, X4, e4, st4⟩ := getF X2 hx hZ hown (host := "") (Or.inl (hw _ (List.mem_of_getElem? (i := 30) rfl))) Via.refl e2 F_bottom_o0 (g := (mkF m 12 #[.val (.ref o0)] [(.ref o0)])) rfl rfl (hb hby d13_12)
    obtain ⟨T5, X5, e5, st5⟩ := getF X4 hx hZ hown (host := "") (Or.inl (hw _ (List.mem_of_getElem? (i := 26) rfl))) Via.refl e4 F_top_o0 (g := (mkF m 16 #[.val (.ref o0)] [(.ref o0), (.int w_bottom_o0)])) rfl rfl (hb hby d13_16)
    have c6 : ∀ t, Steps p.tables e below (T5.setTop (mkF m 19 #[.val (.ref o0)] [(.int w_top_o0), (.int w_bottom_o0)])) t → Steps p.tables e below (s₁.setTop (entryFrame m #[(.ref o0)] 1)) t := by
      intro t k
      refine c3 t ?_
      show Steps p.tables e below (T2.setTop (mkF m 8 #[.val (.ref o0)] [(.int w_left_o0), (.int w_right_o0)])) _
      refine XS.icmpNo X2.here hx rfl (hb hby d13_8) rfl (Jvm.Free.XT.ii_le_f hb8) ?_
      show Steps p.tables e below (T2.setTop (mkF m 11 #[.val (.ref o0)] [])) _
      refine XS.aloadN X2.here hx rfl (hb hby d13_11) rfl rfl ?_
      show Steps p.tables e below (T2.setTop (mkF m 12 #[.val (.ref o0)] [(.ref o0)])) _
      refine st4 _ ?_
      show Steps p.tables e below (T4.setTop (mkF m 15 #[.val (.ref o0)] [(.int w_bottom_o0)])) _
      refine XS.aloadN X4.here hx rfl (hb hby d13_15) rfl rfl ?_
      show Steps p.tables e below (T4.setTop (mkF m 16 #[.val (.ref o0)] [(.ref o0), (.int w_bottom_o0)])) _
      refine st5 _ ?_
      exact k
    by_cases hb19 : w_top_o0 < w_bottom_o0
    · skip
      obtain ⟨T7, X7, e7, st7⟩ := getF X5 hx hZ hown (host := "") (Or.inl (hw _ (List.mem_of_getElem? (i := 28) rfl))) Via.refl e5 F_right_o0 (g := (mkF m 23 #[.val (.ref o0)] [(.ref o0)])) rfl rfl (hb hby d13_23)
      obtain ⟨T8, X8, e8, st8⟩ := getF X7 hx hZ hown (host := "") (Or.inl (hw _ (List.mem_of_getElem? (i := 24) rfl))) Via.refl e7 F_left_o0 (g := (mkF m 27 #[.val (.ref o0)] [(.ref o0), (.int w_right_o0)])) rfl rfl (hb hby d13_27)
      obtain ⟨T9, X9, e9, st9⟩ := getF X8 hx hZ hown (host := "") (Or.inl (hw _ (List.mem_of_getElem? (i := 30) rfl))) Via.refl e8 F_bottom_o0 (g := (mkF m 33 #[.val (.ref o0)] [(.ref o0), (.double z31)])) rfl rfl (hb hby d13_33)
      obtain ⟨T10, X10, e10, st10⟩ := getF X9 hx hZ hown (host := "") (Or.inl (hw _ (List.mem_of_getElem? (i := 26) rfl))) Via.refl e9 F_top_o0 (g := (mkF m 37 #[.val (.ref o0)] [(.ref o0), (.int w_bottom_o0), (.double z31)])) rfl rfl (hb hby d13_37)
      have c11 : ∀ t, Steps p.tables e below (T10.setTop (mkF m 47 #[.val (.ref o0)] [(.double z42)])) t → Steps p.tables e below (s₁.setTop (entryFrame m #[(.ref o0)] 1)) t := by
        intro t k
        refine c6 t ?_
        show Steps p.tables e below (T5.setTop (mkF m 19 #[.val (.ref o0)] [(.int w_top_o0), (.int w_bottom_o0)])) _
        refine XS.icmpNo X5.here hx rfl (hb hby d13_19) rfl (Jvm.Free.XT.ii_le_f hb19) ?_
        show Steps p.tables e below (T5.setTop (mkF m 22 #[.val (.ref o0)] [])) _
        refine XS.aloadN X5.here hx rfl (hb hby d13_22) rfl rfl ?_
        show Steps p.tables e below (T5.setTop (mkF m 23 #[.val (.ref o0)] [(.ref o0)])) _
        refine st7 _ ?_
        show Steps p.tables e below (T7.setTop (mkF m 26 #[.val (.ref o0)] [(.int w_right_o0)])) _
        refine XS.aloadN X7.here hx rfl (hb hby d13_26) rfl rfl ?_
        show Steps p.tables e below (T7.setTop (mkF m 27 #[.val (.ref o0)] [(.ref o0), (.int w_right_o0)])) _
        refine st8 _ ?_
        show Steps p.tables e below (T8.setTop (mkF m 30 #[.val (.ref o0)] [(.int w_left_o0), (.int w_right_o0)])) _
        refine Jvm.OwnK.isub X8.here hx rfl (hb hby d13_30) rfl hz30 ?_
        show Steps p.tables e below (T8.setTop (mkF m 31 #[.val (.ref o0)] [(.int z30)])) _
        refine XS.i2dS X8.here hx rfl (hb hby d13_31) rfl hz31 ?_
        show Steps p.tables e below (T8.setTop (mkF m 32 #[.val (.ref o0)] [(.double z31)])) _
        refine XS.aloadN X8.here hx rfl (hb hby d13_32) rfl rfl ?_
        show Steps p.tables e below (T8.setTop (mkF m 33 #[.val (.ref o0)] [(.ref o0), (.double z31)])) _
        refine st9 _ ?_
        show Steps p.tables e below (T9.setTop (mkF m 36 #[.val (.ref o0)] [(.int w_bottom_o0), (.double z31)])) _
        refine XS.aloadN X9.here hx rfl (hb hby d13_36) rfl rfl ?_
        show Steps p.tables e below (T9.setTop (mkF m 37 #[.val (.ref o0)] [(.ref o0), (.int w_bottom_o0), (.double z31)])) _
        refine st10 _ ?_
        show Steps p.tables e below (T10.setTop (mkF m 40 #[.val (.ref o0)] [(.int w_top_o0), (.int w_bottom_o0), (.double z31)])) _
        refine Jvm.OwnK.isub X10.here hx rfl (hb hby d13_40) rfl hz40 ?_
        show Steps p.tables e below (T10.setTop (mkF m 41 #[.val (.ref o0)] [(.int z40), (.double z31)])) _
        refine XS.i2dS X10.here hx rfl (hb hby d13_41) rfl hz41 ?_
        show Steps p.tables e below (T10.setTop (mkF m 42 #[.val (.ref o0)] [(.double z41), (.double z31)])) _
        refine Jvm.OwnK.dmul X10.here hx rfl (hb hby d13_42) rfl hz42 (nn42 hb8 hb19) ?_
        show Steps p.tables e below (T10.setTop (mkF m 43 #[.val (.ref o0)] [(.double z42)])) _
        refine XS.goto X10.here hx rfl (pc0 := 43) (pc' := 47) rfl (hb hby d13_43) (by decide) (by decide) ?_
        exact k
      obtain ⟨fs, hr, hrun, hended, hW, hsame⟩ := X10.leave (v := some (.double z42)) (fun h => by rw [Bd.returns] at h; cases h)
      refine ⟨_, _, c11 _ ?_, hrun, hended, _, _, rfl, ?_, ⟨_, rfl⟩, hW, hsame.mono (by decide) (by decide)⟩
      · show Steps p.tables e below (T10.setTop (mkF m 47 #[.val (.ref o0)] [(.double z42)])) _
        exact retOut X10 hx Bd.returns rfl (Or.inr (Or.inr (Or.inl ⟨rfl, rfl, _, rfl⟩))) (hb hby d13_47) hr
      · show Q13 Z o0 w_right_o0 w_left_o0 w_bottom_o0 w_top_o0 z30 z31 z40 z41 z42 rv h0 n0 _ T10.heap _
        rw [e10]
        exact ⟨(congrArg (fun z => some (Value.double z)) (show z42 = rv by rw [← hrv]; simp only [if_pos hb8, if_pos hb19])), by first | assumption | exact N0, rfl⟩
    · skip
      have c12 : ∀ t, Steps p.tables e below (T5.setTop (mkF m 47 #[.val (.ref o0)] [(.double FP.dconst0)])) t → Steps p.tables e below (s₁.setTop (entryFrame m #[(.ref o0)] 1)) t := by
        intro t k
        refine c6 t ?_
        show Steps p.tables e below (T5.setTop (mkF m 19 #[.val (.ref o0)] [(.int w_top_o0), (.int w_bottom_o0)])) _
        refine XS.icmpYes X5.here hx rfl (pc0 := 19) (pc' := 46) rfl (hb hby d13_19) rfl (Jvm.Free.XT.ii_le_t hb19) (by decide) (by decide) ?_
        show Steps p.tables e below (T5.setTop (mkF m 46 #[.val (.ref o0)] [])) _
        refine XS.dconst0 X5.here hx rfl (hb hby d13_46) (v := FP.dconst0) rfl ?_
        exact k
      obtain ⟨fs, hr, hrun, hended, hW, hsame⟩ := X5.leave (v := some (.double FP.dconst0)) (fun h => by rw [Bd.returns] at h; cases h)
      refine ⟨_, _, c12 _ ?_, hrun, hended, _, _, rfl, ?_, ⟨_, rfl⟩, hW, hsame.mono (by decide) (by decide)⟩
      · show Steps p.tables e below (T5.setTop (mkF m 47 #[.val (.ref o0)] [(.double FP.dconst0)])) _
        exact retOut X5 hx Bd.returns rfl (Or.inr (Or.inr (Or.inl ⟨rfl, rfl, _, rfl⟩))) (hb hby d13_47) hr
      · show Q13 Z o0 w_right_o0 w_left_o0 w_bottom_o0 w_top_o0 z30 z31 z40 z41 z42 rv h0 n0 _ T5.heap _
        rw [e5]
        exact ⟨(congrArg (fun z => some (Value.double z)) (show FP.dconst0 = rv by rw [← hrv]; simp only [if_pos hb8, if_neg hb19])), by first | assumption | exact N0, rfl⟩
  · skip
    have c13 : ∀ t, Steps p.tables e below (T2.setTop (mkF m 47 #[.val (.ref o0)] [(.double FP.dconst0)])) t → Steps p.tables e below (s₁.setTop (entryFrame m #[(.ref o0)] 1)) t := by
      intro t k
      refine c3 t ?_
      show Steps p.tables e below (T2.setTop (mkF m 8 #[.val (.ref o0)] [(.int w_left_o0), (.int w_right_o0)])) _
      refine XS.icmpYes X2.here hx rfl (pc0 := 8) (pc' := 46) rfl (hb hby d13_8) rfl (Jvm.Free.XT.ii_le_t hb8) (by decide) (by decide) ?_
      show Steps p.tables e below (T2.setTop (mkF m 46 #[.val (.ref o0)] [])) _
      refine XS.dconst0 X2.here hx rfl (hb hby d13_46) (v := FP.dconst0) rfl ?_
      exact k
    obtain ⟨fs, hr, hrun, hended, hW, hsame⟩ := X2.leave (v := some (.double FP.dconst0)) (fun h => by rw [Bd.returns] at h; cases h)
    refine ⟨_, _, c13 _ ?_, hrun, hended, _, _, rfl, ?_, ⟨_, rfl⟩, hW, hsame.mono (by decide) (by decide)⟩
    · show Steps p.tables e below (T2.setTop (mkF m 47 #[.val (.ref o0)] [(.double FP.dconst0)])) _
      exact retOut X2 hx Bd.returns rfl (Or.inr (Or.inr (Or.inl ⟨rfl, rfl, _, rfl⟩))) (hb hby d13_47) hr
    · show Q13 Z o0 w_right_o0 w_left_o0 w_bottom_o0 w_top_o0 z30 z31 z40 z41 z42 rv h0 n0 _ T2.heap _
      rw [e2]
      exact ⟨(congrArg (fun z => some (Value.double z)) (show FP.dconst0 = rv by rw [← hrv]; simp only [if_neg hb8])), by first | assumption | exact N0, rfl⟩
def Q0 (n0 : Nat) (v : Option Value) (h : Heap) (L : List Loc) : Prop := v = some (.int 1) ∧ Fr n0 L
set_option maxRecDepth 65536 in
set_option maxHeartbeats 40000000 in
theorem rm0 (l : Launch) (Z : State) (a0 : Array Value) (hw : ∀ d ∈ tables_1, d.before a0 Z = true) (ws : List Jvm.Cond) (p0 : Int32) (p1 : Int32) (p2 : Int32) (p3 : Int32) (p4 : Int32) (p5 : Int32)  (h0 : Heap) (n0 : Nat) (Z0 : n0 ≤ h0.size)  :
    MetFree l x (head1 (Jvm.Cond.code x code maxLocals ret :: ws) room_1) (fun a U => a = #[(.int p0), (.int p1), (.int p2), (.int p3), (.int p4), (.int p5)] ∧ Z.Warmed39 U.vm ∧ U.heap = h0) (fun _ _ _ _ _ => True) (fun _ U o U' => ∃ v L, o = .returned v ∧ Q0 n0 v U'.heap L ∧ FrameEnd U o U' L room_1.cells room_1.slots) := by
  refine MetFree.of_bodySF (plainFor_of_name pn_0) hisR ?_
  intro p e s m args below meth c s₁ Bd hml0 hP hK
  obtain ⟨rfl, hZ, hh⟩ := hP
  have hx := Bd.exec
  have hby := Bd.bytes
  have hml : c.maxLocals = 21 := hml0
  have hown : s.vm.findClass "com/example/vetrino/vetrino/OverlapOfPinLaw" = some m.cls := findClass_of_methodNamed Bd.named
  have hnm := (name_of_methodNamed Bd.named Bd.method).1
  have X0 : Stand p l e room_1 s m #[(.int p0), (.int p1), (.int p2), (.int p3), (.int p4), (.int p5)] below meth c s₁ [] 0 0 := Stand.of_body Bd
  have e0 : s₁.heap = h0 := by rw [← hh, Bd.state]; rfl
  have N0 := Fr.nil n0
  have c0 : ∀ t, Steps p.tables e below (s₁.setTop (mkF m 0 #[.val (.int p0), .val (.int p1), .val (.int p2), .val (.int p3), .val (.int p4), .val (.int p5), .unset, .unset, .unset, .unset, .unset, .unset, .unset, .unset, .unset, .unset, .unset, .unset, .unset, .unset, .unset] [])) t → Steps p.tables e below (s₁.setTop (entryFrame m #[(.int p0), (.int p1), (.int p2), (.int p3), (.int p4), (.int p5)] maxLocals)) t := fun t k => castTop (ef_rm0 m p0 p1 p2 p3 p4 p5) k
  obtain ⟨z3, hz3⟩ : ∃ z : Int32, p0 &&& (1073741823 : Int32) = z := ⟨_, rfl⟩
  obtain ⟨z9, hz9⟩ : ∃ z : Int32, p1 &&& (1073741823 : Int32) = z := ⟨_, rfl⟩
  obtain ⟨c17_z2, hc17_z2⟩ : ∃ z : Int32, p4 >>> ((2 : Int32) &&& 31) = z := ⟨_, rfl⟩
  obtain ⟨c17_z6, hc17_z6⟩ : ∃ z : Int32, p4 &&& (3 : Int32) = z := ⟨_, rfl⟩
  obtain ⟨c17_z27, hc17_z27⟩ : ∃ z : Int64, p2.toInt64 = z := ⟨_, rfl⟩
  obtain ⟨c17_z40, hc17_z40⟩ : ∃ z : Int64, z3.toInt64 = z := ⟨_, rfl⟩
  obtain ⟨c17_z47, hc17_z47⟩ : ∃ z : Int64, p2.toInt64 = z := ⟨_, rfl⟩
  obtain ⟨c17_z49, hc17_z49⟩ : ∃ z : Int64, z3.toInt64 = z := ⟨_, rfl⟩
  obtain ⟨c17_z50, hc17_z50⟩ : ∃ z : Int64, c17_z47 + c17_z49 = z := ⟨_, rfl⟩
  obtain ⟨c17_m11_l5, hc17_m11_l5⟩ : ∃ z : Int64, (if c17_z6 = (0 : Int32) then (0 : Int64) else (if c17_z6 = (1 : Int32) then c17_z27 else (if c17_z6 = (2 : Int32) then c17_z40 else c17_z50))) = z := ⟨_, rfl⟩
  obtain ⟨c17_z56, hc17_z56⟩ : ∃ z : Int64, c17_z2.toInt64 = z := ⟨_, rfl⟩
  obtain ⟨c17_z57, hc17_z57⟩ : ∃ z : Int64, c17_m11_l5 + c17_z56 = z := ⟨_, rfl⟩
  obtain ⟨c17_z58, hc17_z58⟩ : ∃ z : Int32, c17_z57.toInt32 = z := ⟨_, rfl⟩
  obtain ⟨c27_z2, hc27_z2⟩ : ∃ z : Int32, p5 >>> ((2 : Int32) &&& 31) = z := ⟨_, rfl⟩
  obtain ⟨c27_z6, hc27_z6⟩ : ∃ z : Int32, p5 &&& (3 : Int32) = z := ⟨_, rfl⟩
  obtain ⟨c27_z27, hc27_z27⟩ : ∃ z : Int64, p3.toInt64 = z := ⟨_, rfl⟩
  obtain ⟨c27_z40, hc27_z40⟩ : ∃ z : Int64, z9.toInt64 = z := ⟨_, rfl⟩
  obtain ⟨c27_z47, hc27_z47⟩ : ∃ z : Int64, p3.toInt64 = z := ⟨_, rfl⟩
  obtain ⟨c27_z49, hc27_z49⟩ : ∃ z : Int64, z9.toInt64 = z := ⟨_, rfl⟩
  obtain ⟨c27_z50, hc27_z50⟩ : ∃ z : Int64, c27_z47 + c27_z49 = z := ⟨_, rfl⟩
  obtain ⟨c27_m11_l5, hc27_m11_l5⟩ : ∃ z : Int64, (if c27_z6 = (0 : Int32) then (0 : Int64) else (if c27_z6 = (1 : Int32) then c27_z27 else (if c27_z6 = (2 : Int32) then c27_z40 else c27_z50))) = z := ⟨_, rfl⟩
  obtain ⟨c27_z56, hc27_z56⟩ : ∃ z : Int64, c27_z2.toInt64 = z := ⟨_, rfl⟩
  obtain ⟨c27_z57, hc27_z57⟩ : ∃ z : Int64, c27_m11_l5 + c27_z56 = z := ⟨_, rfl⟩
  obtain ⟨c27_z58, hc27_z58⟩ : ∃ z : Int32, c27_z57.toInt32 = z := ⟨_, rfl⟩
  obtain ⟨c38_c6_rv, hc38_c6_rv⟩ : ∃ z : Int32, (if (0 : Int32) < p2 then p2 else (0 : Int32)) = z := ⟨_, rfl⟩
  obtain ⟨c38_c11_rv, hc38_c11_rv⟩ : ∃ z : Int32, (if (0 : Int32) < p3 then p3 else (0 : Int32)) = z := ⟨_, rfl⟩
  obtain ⟨c38_z17, hc38_z17⟩ : ∃ z : Int32, z3 + p2 = z := ⟨_, rfl⟩
  obtain ⟨c38_c18_rv, hc38_c18_rv⟩ : ∃ z : Int32, (if c38_z17 < z3 then c38_z17 else z3) = z := ⟨_, rfl⟩
  obtain ⟨c38_z24, hc38_z24⟩ : ∃ z : Int32, z9 + p3 = z := ⟨_, rfl⟩
  obtain ⟨c38_c25_rv, hc38_c25_rv⟩ : ∃ z : Int32, (if c38_z24 < z9 then c38_z24 else z9) = z := ⟨_, rfl⟩
  obtain ⟨_, _, ⟨T1, L1, k1, n1⟩, -, X1, ⟨Lc1, hQ1, ql1, qy1, qz1⟩, st1⟩ := Jvm.LawKit.callS X0 hx (y := (⟨"com/example/vetrino/vetrino/OverlapOfPinLaw", "probe", "(III)I"⟩ : MethodName)) hown (mvT hZ (hw _ (List.mem_of_getElem? (i := 1) rfl))) (mvT hZ (hw _ (List.mem_of_getElem? (i := 2) rfl))) (mvT hZ (hw _ (List.mem_of_getElem? (i := 3) rfl))) (mvT hZ (hw _ (List.mem_of_getElem? (i := 4) rfl))) (by decide) (backOf (W := 0) (rm1 l Z a0 hw [] p4 p2 z3 c17_z2 c17_z6 c17_z27 c17_z40 c17_z47 c17_z49 c17_z50 c17_m11_l5 c17_z56 c17_z57 c17_z58 h0 n0 Z0 hc17_z2 hc17_z6 hc17_z27 hc17_z40 hc17_z47 hc17_z49 hc17_z50 hc17_m11_l5 hc17_z56 hc17_z57 hc17_z58) hZ (hw _ (List.mem_of_getElem? (i := 4) rfl)) (hw _ (List.mem_of_getElem? (i := 3) rfl)) (by decide) (by decide)) (g := (mkF m 17 #[.val (.int p0), .val (.int p1), .val (.int p2), .val (.int p3), .val (.int p4), .val (.int p5), .val (.int z3), .val (.int z9), .unset, .unset, .unset, .unset, .unset, .unset, .unset, .unset, .unset, .unset, .unset, .unset, .unset] [(.int z3), (.int p2), (.int p4)])) rfl (by rw [hml]; rfl) (argsL := [(.int p4), (.int p2), (.int z3)]) (rest := []) (lenOf pd_2 rfl) rfl (by show 2 * 0 + _ ≤ _; exact Nat.le_of_eq rfl) (hb hby at_17) (fun _ _ => ⟨rfl, e0, (by decide : 0 + 0 ≤ _), (by decide : 0 + 0 ≤ _)⟩)
  dsimp only [Pt.U, Pt.locs, Pt.cells, Pt.slots] at X1 ql1 qy1 qz1 st1 hQ1
  subst ql1 qy1 qz1
  obtain ⟨rfl, N1q, e1⟩ := hQ1
  have N1 := Fr.app N0 N1q
  obtain ⟨_, _, ⟨T2, L2, k2, n2⟩, -, X2, ⟨Lc2, hQ2, ql2, qy2, qz2⟩, st2⟩ := Jvm.LawKit.callS X1 hx (y := (⟨"com/example/vetrino/vetrino/OverlapOfPinLaw", "probe", "(III)I"⟩ : MethodName)) hown (mvT hZ (hw _ (List.mem_of_getElem? (i := 1) rfl))) (mvT hZ (hw _ (List.mem_of_getElem? (i := 2) rfl))) (mvT hZ (hw _ (List.mem_of_getElem? (i := 3) rfl))) (mvT hZ (hw _ (List.mem_of_getElem? (i := 4) rfl))) (by decide) (backOf (W := 0) (rm1 l Z a0 hw [] p5 p3 z9 c27_z2 c27_z6 c27_z27 c27_z40 c27_z47 c27_z49 c27_z50 c27_m11_l5 c27_z56 c27_z57 c27_z58 h0 n0 Z0 hc27_z2 hc27_z6 hc27_z27 hc27_z40 hc27_z47 hc27_z49 hc27_z50 hc27_m11_l5 hc27_z56 hc27_z57 hc27_z58) hZ (hw _ (List.mem_of_getElem? (i := 4) rfl)) (hw _ (List.mem_of_getElem? (i := 3) rfl)) (by decide) (by decide)) (g := (mkF m 27 #[.val (.int p0), .val (.int p1), .val (.int p2), .val (.int p3), .val (.int p4), .val (.int p5), .val (.int z3), .val (.int z9), .val (.int c17_z58), .unset, .unset, .unset, .unset, .unset, .unset, .unset, .unset, .unset, .unset, .unset, .unset] [(.int z9), (.int p3), (.int p5)])) rfl (by rw [hml]; rfl) (argsL := [(.int p5), (.int p3), (.int z9)]) (rest := []) (lenOf pd_2 rfl) rfl (by show 2 * 0 + _ ≤ _; exact Nat.le_of_eq rfl) (hb hby at_27) (fun _ _ => ⟨rfl, e1, (by decide : 0 + 0 ≤ _), (by decide : 0 + 0 ≤ _)⟩)
  dsimp only [Pt.U, Pt.locs, Pt.cells, Pt.slots] at X2 ql2 qy2 qz2 st2 hQ2
  subst ql2 qy2 qz2
  obtain ⟨rfl, N2q, e2⟩ := hQ2
  have N2 := Fr.app N1 N2q
  have hA := m30 hz3
  have hB := m30 hz9
  obtain ⟨_, _, ⟨T3, L3, k3, n3⟩, -, X3, ⟨Lc3, hQ3, ql3, qy3, qz3⟩, st3⟩ := Jvm.LawKit.callS X2 hx (y := (⟨"com/example/vetrino/vetrino/Overlap", "of", "(IIII)Lcom/example/vetrino/vetrino/Overlap;"⟩ : MethodName)) hown (mvT hZ (hw _ (List.mem_of_getElem? (i := 5) rfl))) (mvT hZ (hw _ (List.mem_of_getElem? (i := 6) rfl))) (mvT hZ (hw _ (List.mem_of_getElem? (i := 7) rfl))) (mvT hZ (hw _ (List.mem_of_getElem? (i := 8) rfl))) (by decide) (backOf (W := 0) (rm2 l Z a0 hw [] z3 z9 p2 p3 c38_c6_rv c38_c11_rv c38_z17 c38_c18_rv c38_z24 c38_c25_rv h0 n0 Z0 hc38_c6_rv hc38_c11_rv hc38_z17 hc38_c18_rv hc38_z24 hc38_c25_rv) hZ (hw _ (List.mem_of_getElem? (i := 8) rfl)) (hw _ (List.mem_of_getElem? (i := 7) rfl)) (by decide) (by decide)) (g := (mkF m 38 #[.val (.int p0), .val (.int p1), .val (.int p2), .val (.int p3), .val (.int p4), .val (.int p5), .val (.int z3), .val (.int z9), .val (.int c17_z58), .val (.int c27_z58), .unset, .unset, .unset, .unset, .unset, .unset, .unset, .unset, .unset, .unset, .unset] [(.int p3), (.int p2), (.int z9), (.int z3)])) rfl (by rw [hml]; rfl) (argsL := [(.int z3), (.int z9), (.int p2), (.int p3)]) (rest := []) (lenOf pd_3 rfl) rfl (by show 2 * 0 + _ ≤ _; exact Nat.le_of_eq rfl) (hb hby at_38) (fun _ _ => ⟨rfl, e2, (by decide : 0 + 1 ≤ _), (by decide : 0 + 4 ≤ _)⟩)
  dsimp only [Pt.U, Pt.locs, Pt.cells, Pt.slots] at X3 ql3 qy3 qz3 st3 hQ3
  subst ql3 qy3 qz3
  obtain ⟨rb3_b1, rfl, N3q, gz3_b1, K3q, Q3_0, Q3_1, Q3_2, Q3_3, Q3_4⟩ := hQ3
  have N3 := Fr.app N2 N3q
  have gn3_b1 : n0 ≤ rb3_b1 := Nat.le_trans Z0 gz3_b1
  have gy3_b1 : h0.size ≤ rb3_b1 := Nat.le_trans ((Keep.refl h0 [])).1 gz3_b1
  have K4 : Keep h0 T3.heap [] := Keep.trans (Keep.refl h0 []) K3q all0
  obtain ⟨cq5, kq5, q5a, q5b, q5c⟩ := isOf hZ rfl Q3_0
  obtain ⟨_, _, ⟨T5, L5, k5, n5⟩, -, X5, ⟨Lc5, hQ5, ql5, qy5, qz5⟩, st5⟩ := X3.virtualBack hx (y := (⟨"com/example/vetrino/vetrino/Overlap", "left", "()I"⟩ : MethodName)) (z := (⟨"com/example/vetrino/vetrino/Overlap", "left", "()I"⟩ : MethodName)) hown (mvT hZ (hw _ (List.mem_of_getElem? (i := 32) rfl))) (mvT hZ (hw _ (List.mem_of_getElem? (i := 33) rfl))) (notFace_of_selects (args := #[]) (mvT hZ (hw _ (List.mem_of_getElem? (i := 35) rfl)))) (mvT hZ (hw _ (List.mem_of_getElem? (i := 35) rfl))) (mvT hZ (hw _ (List.mem_of_getElem? (i := 34) rfl))) (by decide) (backOf (W := 0) (rm7 l Z a0 hw [] rb3_b1 c38_c6_rv  T3.heap n0 (Nat.le_trans Z0 K3q.1) Q3_1) hZ (hw _ (List.mem_of_getElem? (i := 36) rfl)) (hw _ (List.mem_of_getElem? (i := 7) rfl)) (by decide) (by decide)) q5a q5c (g := (mkF m 45 #[.val (.int p0), .val (.int p1), .val (.int p2), .val (.int p3), .val (.int p4), .val (.int p5), .val (.int z3), .val (.int z9), .val (.int c17_z58), .val (.int c27_z58), .val (.ref rb3_b1), .unset, .unset, .unset, .unset, .unset, .unset, .unset, .unset, .unset, .unset] [(.ref rb3_b1)])) rfl (by rw [hml]; rfl) (Steps.refl _) (argsL := []) (rest := []) (lenOf pd_4 rfl) rfl (by show 2 * 0 + _ ≤ _; exact Nat.le_of_eq rfl) (hb hby at_45) (fun _ _ => ⟨rfl, rfl, (by decide : 1 + 0 ≤ _), (by decide : 4 + 0 ≤ _)⟩)
  dsimp only [Pt.U, Pt.locs, Pt.cells, Pt.slots] at X5 ql5 qy5 qz5 st5 hQ5
  subst ql5 qy5 qz5
  obtain ⟨rfl, N5q, e5⟩ := hQ5
  have N5 := Fr.app N3 N5q
  have c6 : ∀ t, Steps p.tables e below (T5.setTop (mkF m 50 #[.val (.int p0), .val (.int p1), .val (.int p2), .val (.int p3), .val (.int p4), .val (.int p5), .val (.int z3), .val (.int z9), .val (.int c17_z58), .val (.int c27_z58), .val (.ref rb3_b1), .unset, .unset, .unset, .unset, .unset, .unset, .unset, .unset, .unset, .unset] [(.int c17_z58), (.int c38_c6_rv)])) t → Steps p.tables e below (s₁.setTop (entryFrame m #[(.int p0), (.int p1), (.int p2), (.int p3), (.int p4), (.int p5)] maxLocals)) t := by
    intro t k
    refine c0 t ?_
    show Steps p.tables e below (s₁.setTop (mkF m 0 #[.val (.int p0), .val (.int p1), .val (.int p2), .val (.int p3), .val (.int p4), .val (.int p5), .unset, .unset, .unset, .unset, .unset, .unset, .unset, .unset, .unset, .unset, .unset, .unset, .unset, .unset, .unset] [])) _
    refine XS.iloadN X0.here hx rfl (hb hby at_0) rfl ?_
    show Steps p.tables e below (s₁.setTop (mkF m 1 #[.val (.int p0), .val (.int p1), .val (.int p2), .val (.int p3), .val (.int p4), .val (.int p5), .unset, .unset, .unset, .unset, .unset, .unset, .unset, .unset, .unset, .unset, .unset, .unset, .unset, .unset, .unset] [(.int p0)])) _
    refine X0.ldcInt hx hown (mvT hZ (hw _ (List.mem_of_getElem? (i := 0) rfl))) (g := (mkF m 1 #[.val (.int p0), .val (.int p1), .val (.int p2), .val (.int p3), .val (.int p4), .val (.int p5), .unset, .unset, .unset, .unset, .unset, .unset, .unset, .unset, .unset, .unset, .unset, .unset, .unset, .unset, .unset] [(.int p0)])) rfl (hb hby at_1) _ ?_
    show Steps p.tables e below (s₁.setTop (mkF m 3 #[.val (.int p0), .val (.int p1), .val (.int p2), .val (.int p3), .val (.int p4), .val (.int p5), .unset, .unset, .unset, .unset, .unset, .unset, .unset, .unset, .unset, .unset, .unset, .unset, .unset, .unset, .unset] [(.int (1073741823 : Int32)), (.int p0)])) _
    refine Jvm.OwnK.iand X0.here hx rfl (hb hby at_3) rfl hz3 ?_
    show Steps p.tables e below (s₁.setTop (mkF m 4 #[.val (.int p0), .val (.int p1), .val (.int p2), .val (.int p3), .val (.int p4), .val (.int p5), .unset, .unset, .unset, .unset, .unset, .unset, .unset, .unset, .unset, .unset, .unset, .unset, .unset, .unset, .unset] [(.int z3)])) _
    refine XS.istore X0.here hx rfl (hb hby at_4) rfl (l' := #[.val (.int p0), .val (.int p1), .val (.int p2), .val (.int p3), .val (.int p4), .val (.int p5), .val (.int z3), .unset, .unset, .unset, .unset, .unset, .unset, .unset, .unset, .unset, .unset, .unset, .unset, .unset, .unset]) rfl ?_
    show Steps p.tables e below (s₁.setTop (mkF m 6 #[.val (.int p0), .val (.int p1), .val (.int p2), .val (.int p3), .val (.int p4), .val (.int p5), .val (.int z3), .unset, .unset, .unset, .unset, .unset, .unset, .unset, .unset, .unset, .unset, .unset, .unset, .unset, .unset] [])) _
    refine XS.iloadN X0.here hx rfl (hb hby at_6) rfl ?_
    show Steps p.tables e below (s₁.setTop (mkF m 7 #[.val (.int p0), .val (.int p1), .val (.int p2), .val (.int p3), .val (.int p4), .val (.int p5), .val (.int z3), .unset, .unset, .unset, .unset, .unset, .unset, .unset, .unset, .unset, .unset, .unset, .unset, .unset, .unset] [(.int p1)])) _
    refine X0.ldcInt hx hown (mvT hZ (hw _ (List.mem_of_getElem? (i := 0) rfl))) (g := (mkF m 7 #[.val (.int p0), .val (.int p1), .val (.int p2), .val (.int p3), .val (.int p4), .val (.int p5), .val (.int z3), .unset, .unset, .unset, .unset, .unset, .unset, .unset, .unset, .unset, .unset, .unset, .unset, .unset, .unset] [(.int p1)])) rfl (hb hby at_7) _ ?_
    show Steps p.tables e below (s₁.setTop (mkF m 9 #[.val (.int p0), .val (.int p1), .val (.int p2), .val (.int p3), .val (.int p4), .val (.int p5), .val (.int z3), .unset, .unset, .unset, .unset, .unset, .unset, .unset, .unset, .unset, .unset, .unset, .unset, .unset, .unset] [(.int (1073741823 : Int32)), (.int p1)])) _
    refine Jvm.OwnK.iand X0.here hx rfl (hb hby at_9) rfl hz9 ?_
    show Steps p.tables e below (s₁.setTop (mkF m 10 #[.val (.int p0), .val (.int p1), .val (.int p2), .val (.int p3), .val (.int p4), .val (.int p5), .val (.int z3), .unset, .unset, .unset, .unset, .unset, .unset, .unset, .unset, .unset, .unset, .unset, .unset, .unset, .unset] [(.int z9)])) _
    refine XS.istore X0.here hx rfl (hb hby at_10) rfl (l' := #[.val (.int p0), .val (.int p1), .val (.int p2), .val (.int p3), .val (.int p4), .val (.int p5), .val (.int z3), .val (.int z9), .unset, .unset, .unset, .unset, .unset, .unset, .unset, .unset, .unset, .unset, .unset, .unset, .unset]) rfl ?_
    show Steps p.tables e below (s₁.setTop (mkF m 12 #[.val (.int p0), .val (.int p1), .val (.int p2), .val (.int p3), .val (.int p4), .val (.int p5), .val (.int z3), .val (.int z9), .unset, .unset, .unset, .unset, .unset, .unset, .unset, .unset, .unset, .unset, .unset, .unset, .unset] [])) _
    refine XS.iload X0.here hx rfl (hb hby at_12) rfl ?_
    show Steps p.tables e below (s₁.setTop (mkF m 14 #[.val (.int p0), .val (.int p1), .val (.int p2), .val (.int p3), .val (.int p4), .val (.int p5), .val (.int z3), .val (.int z9), .unset, .unset, .unset, .unset, .unset, .unset, .unset, .unset, .unset, .unset, .unset, .unset, .unset] [(.int p4)])) _
    refine XS.iloadN X0.here hx rfl (hb hby at_14) rfl ?_
    show Steps p.tables e below (s₁.setTop (mkF m 15 #[.val (.int p0), .val (.int p1), .val (.int p2), .val (.int p3), .val (.int p4), .val (.int p5), .val (.int z3), .val (.int z9), .unset, .unset, .unset, .unset, .unset, .unset, .unset, .unset, .unset, .unset, .unset, .unset, .unset] [(.int p2), (.int p4)])) _
    refine XS.iload X0.here hx rfl (hb hby at_15) rfl ?_
    show Steps p.tables e below (s₁.setTop (mkF m 17 #[.val (.int p0), .val (.int p1), .val (.int p2), .val (.int p3), .val (.int p4), .val (.int p5), .val (.int z3), .val (.int z9), .unset, .unset, .unset, .unset, .unset, .unset, .unset, .unset, .unset, .unset, .unset, .unset, .unset] [(.int z3), (.int p2), (.int p4)])) _
    refine st1 _ ?_
    show Steps p.tables e below (T1.setTop (mkF m 20 #[.val (.int p0), .val (.int p1), .val (.int p2), .val (.int p3), .val (.int p4), .val (.int p5), .val (.int z3), .val (.int z9), .unset, .unset, .unset, .unset, .unset, .unset, .unset, .unset, .unset, .unset, .unset, .unset, .unset] [(.int c17_z58)])) _
    refine XS.istore X1.here hx rfl (hb hby at_20) rfl (l' := #[.val (.int p0), .val (.int p1), .val (.int p2), .val (.int p3), .val (.int p4), .val (.int p5), .val (.int z3), .val (.int z9), .val (.int c17_z58), .unset, .unset, .unset, .unset, .unset, .unset, .unset, .unset, .unset, .unset, .unset, .unset]) rfl ?_
    show Steps p.tables e below (T1.setTop (mkF m 22 #[.val (.int p0), .val (.int p1), .val (.int p2), .val (.int p3), .val (.int p4), .val (.int p5), .val (.int z3), .val (.int z9), .val (.int c17_z58), .unset, .unset, .unset, .unset, .unset, .unset, .unset, .unset, .unset, .unset, .unset, .unset] [])) _
    refine XS.iload X1.here hx rfl (hb hby at_22) rfl ?_
    show Steps p.tables e below (T1.setTop (mkF m 24 #[.val (.int p0), .val (.int p1), .val (.int p2), .val (.int p3), .val (.int p4), .val (.int p5), .val (.int z3), .val (.int z9), .val (.int c17_z58), .unset, .unset, .unset, .unset, .unset, .unset, .unset, .unset, .unset, .unset, .unset, .unset] [(.int p5)])) _
    refine XS.iloadN X1.here hx rfl (hb hby at_24) rfl ?_
    show Steps p.tables e below (T1.setTop (mkF m 25 #[.val (.int p0), .val (.int p1), .val (.int p2), .val (.int p3), .val (.int p4), .val (.int p5), .val (.int z3), .val (.int z9), .val (.int c17_z58), .unset, .unset, .unset, .unset, .unset, .unset, .unset, .unset, .unset, .unset, .unset, .unset] [(.int p3), (.int p5)])) _
    refine XS.iload X1.here hx rfl (hb hby at_25) rfl ?_
    show Steps p.tables e below (T1.setTop (mkF m 27 #[.val (.int p0), .val (.int p1), .val (.int p2), .val (.int p3), .val (.int p4), .val (.int p5), .val (.int z3), .val (.int z9), .val (.int c17_z58), .unset, .unset, .unset, .unset, .unset, .unset, .unset, .unset, .unset, .unset, .unset, .unset] [(.int z9), (.int p3), (.int p5)])) _
    refine st2 _ ?_
    show Steps p.tables e below (T2.setTop (mkF m 30 #[.val (.int p0), .val (.int p1), .val (.int p2), .val (.int p3), .val (.int p4), .val (.int p5), .val (.int z3), .val (.int z9), .val (.int c17_z58), .unset, .unset, .unset, .unset, .unset, .unset, .unset, .unset, .unset, .unset, .unset, .unset] [(.int c27_z58)])) _
    refine XS.istore X2.here hx rfl (hb hby at_30) rfl (l' := #[.val (.int p0), .val (.int p1), .val (.int p2), .val (.int p3), .val (.int p4), .val (.int p5), .val (.int z3), .val (.int z9), .val (.int c17_z58), .val (.int c27_z58), .unset, .unset, .unset, .unset, .unset, .unset, .unset, .unset, .unset, .unset, .unset]) rfl ?_
    show Steps p.tables e below (T2.setTop (mkF m 32 #[.val (.int p0), .val (.int p1), .val (.int p2), .val (.int p3), .val (.int p4), .val (.int p5), .val (.int z3), .val (.int z9), .val (.int c17_z58), .val (.int c27_z58), .unset, .unset, .unset, .unset, .unset, .unset, .unset, .unset, .unset, .unset, .unset] [])) _
    refine XS.iload X2.here hx rfl (hb hby at_32) rfl ?_
    show Steps p.tables e below (T2.setTop (mkF m 34 #[.val (.int p0), .val (.int p1), .val (.int p2), .val (.int p3), .val (.int p4), .val (.int p5), .val (.int z3), .val (.int z9), .val (.int c17_z58), .val (.int c27_z58), .unset, .unset, .unset, .unset, .unset, .unset, .unset, .unset, .unset, .unset, .unset] [(.int z3)])) _
    refine XS.iload X2.here hx rfl (hb hby at_34) rfl ?_
    show Steps p.tables e below (T2.setTop (mkF m 36 #[.val (.int p0), .val (.int p1), .val (.int p2), .val (.int p3), .val (.int p4), .val (.int p5), .val (.int z3), .val (.int z9), .val (.int c17_z58), .val (.int c27_z58), .unset, .unset, .unset, .unset, .unset, .unset, .unset, .unset, .unset, .unset, .unset] [(.int z9), (.int z3)])) _
    refine XS.iloadN X2.here hx rfl (hb hby at_36) rfl ?_
    show Steps p.tables e below (T2.setTop (mkF m 37 #[.val (.int p0), .val (.int p1), .val (.int p2), .val (.int p3), .val (.int p4), .val (.int p5), .val (.int z3), .val (.int z9), .val (.int c17_z58), .val (.int c27_z58), .unset, .unset, .unset, .unset, .unset, .unset, .unset, .unset, .unset, .unset, .unset] [(.int p2), (.int z9), (.int z3)])) _
    refine XS.iloadN X2.here hx rfl (hb hby at_37) rfl ?_
    show Steps p.tables e below (T2.setTop (mkF m 38 #[.val (.int p0), .val (.int p1), .val (.int p2), .val (.int p3), .val (.int p4), .val (.int p5), .val (.int z3), .val (.int z9), .val (.int c17_z58), .val (.int c27_z58), .unset, .unset, .unset, .unset, .unset, .unset, .unset, .unset, .unset, .unset, .unset] [(.int p3), (.int p2), (.int z9), (.int z3)])) _
    refine st3 _ ?_
    show Steps p.tables e below (T3.setTop (mkF m 41 #[.val (.int p0), .val (.int p1), .val (.int p2), .val (.int p3), .val (.int p4), .val (.int p5), .val (.int z3), .val (.int z9), .val (.int c17_z58), .val (.int c27_z58), .unset, .unset, .unset, .unset, .unset, .unset, .unset, .unset, .unset, .unset, .unset] [(.ref rb3_b1)])) _
    refine XS.astore X3.here hx rfl (hb hby at_41) rfl rfl (l' := #[.val (.int p0), .val (.int p1), .val (.int p2), .val (.int p3), .val (.int p4), .val (.int p5), .val (.int z3), .val (.int z9), .val (.int c17_z58), .val (.int c27_z58), .val (.ref rb3_b1), .unset, .unset, .unset, .unset, .unset, .unset, .unset, .unset, .unset, .unset]) rfl ?_
    show Steps p.tables e below (T3.setTop (mkF m 43 #[.val (.int p0), .val (.int p1), .val (.int p2), .val (.int p3), .val (.int p4), .val (.int p5), .val (.int z3), .val (.int z9), .val (.int c17_z58), .val (.int c27_z58), .val (.ref rb3_b1), .unset, .unset, .unset, .unset, .unset, .unset, .unset, .unset, .unset, .unset] [])) _
    refine XS.aload X3.here hx rfl (hb hby at_43) rfl rfl ?_
    show Steps p.tables e below (T3.setTop (mkF m 45 #[.val (.int p0), .val (.int p1), .val (.int p2), .val (.int p3), .val (.int p4), .val (.int p5), .val (.int z3), .val (.int z9), .val (.int c17_z58), .val (.int c27_z58), .val (.ref rb3_b1), .unset, .unset, .unset, .unset, .unset, .unset, .unset, .unset, .unset, .unset] [(.ref rb3_b1)])) _
    refine st5.trans ?_
    show Steps p.tables e below (T5.setTop (mkF m 48 #[.val (.int p0), .val (.int p1), .val (.int p2), .val (.int p3), .val (.int p4), .val (.int p5), .val (.int z3), .val (.int z9), .val (.int c17_z58), .val (.int c27_z58), .val (.ref rb3_b1), .unset, .unset, .unset, .unset, .unset, .unset, .unset, .unset, .unset, .unset] [(.int c38_c6_rv)])) _
    refine XS.iload X5.here hx rfl (hb hby at_48) rfl ?_
    exact k
  by_cases hb50 : c17_z58 < c38_c6_rv
  · skip
    obtain ⟨cq7, kq7, q7a, q7b, q7c⟩ := isOf hZ e5 Q3_0
    obtain ⟨_, _, ⟨T7, L7, k7, n7⟩, -, X7, ⟨Lc7, hQ7, ql7, qy7, qz7⟩, st7⟩ := X5.virtualBack hx (y := (⟨"com/example/vetrino/vetrino/Overlap", "top", "()I"⟩ : MethodName)) (z := (⟨"com/example/vetrino/vetrino/Overlap", "top", "()I"⟩ : MethodName)) hown (mvT hZ (hw _ (List.mem_of_getElem? (i := 37) rfl))) (mvT hZ (hw _ (List.mem_of_getElem? (i := 38) rfl))) (notFace_of_selects (args := #[]) (mvT hZ (hw _ (List.mem_of_getElem? (i := 40) rfl)))) (mvT hZ (hw _ (List.mem_of_getElem? (i := 40) rfl))) (mvT hZ (hw _ (List.mem_of_getElem? (i := 39) rfl))) (by decide) (backOf (W := 0) (rm8 l Z a0 hw [] rb3_b1 c38_c11_rv  T3.heap n0 (Nat.le_trans Z0 K3q.1) Q3_2) hZ (hw _ (List.mem_of_getElem? (i := 41) rfl)) (hw _ (List.mem_of_getElem? (i := 7) rfl)) (by decide) (by decide)) q7a q7c (g := (mkF m 72 #[.val (.int p0), .val (.int p1), .val (.int p2), .val (.int p3), .val (.int p4), .val (.int p5), .val (.int z3), .val (.int z9), .val (.int c17_z58), .val (.int c27_z58), .val (.ref rb3_b1), .val (.int (0 : Int32)), .unset, .unset, .unset, .unset, .unset, .unset, .unset, .unset, .unset] [(.ref rb3_b1)])) rfl (by rw [hml]; rfl) (Steps.refl _) (argsL := []) (rest := []) (lenOf pd_4 rfl) rfl (by show 2 * 0 + _ ≤ _; exact Nat.le_of_eq rfl) (hb hby at_72) (fun _ _ => ⟨rfl, e5, (by decide : 1 + 0 ≤ _), (by decide : 4 + 0 ≤ _)⟩)
    dsimp only [Pt.U, Pt.locs, Pt.cells, Pt.slots] at X7 ql7 qy7 qz7 st7 hQ7
    subst ql7 qy7 qz7
    obtain ⟨rfl, N7q, e7⟩ := hQ7
    have N7 := Fr.app N5 N7q
    have c8 : ∀ t, Steps p.tables e below (T7.setTop (mkF m 77 #[.val (.int p0), .val (.int p1), .val (.int p2), .val (.int p3), .val (.int p4), .val (.int p5), .val (.int z3), .val (.int z9), .val (.int c17_z58), .val (.int c27_z58), .val (.ref rb3_b1), .val (.int (0 : Int32)), .unset, .unset, .unset, .unset, .unset, .unset, .unset, .unset, .unset] [(.int c27_z58), (.int c38_c11_rv)])) t → Steps p.tables e below (s₁.setTop (entryFrame m #[(.int p0), (.int p1), (.int p2), (.int p3), (.int p4), (.int p5)] maxLocals)) t := by
      intro t k
      refine c6 t ?_
      show Steps p.tables e below (T5.setTop (mkF m 50 #[.val (.int p0), .val (.int p1), .val (.int p2), .val (.int p3), .val (.int p4), .val (.int p5), .val (.int z3), .val (.int z9), .val (.int c17_z58), .val (.int c27_z58), .val (.ref rb3_b1), .unset, .unset, .unset, .unset, .unset, .unset, .unset, .unset, .unset, .unset] [(.int c17_z58), (.int c38_c6_rv)])) _
      refine XS.icmpYes X5.here hx rfl (pc0 := 50) (pc' := 67) rfl (hb hby at_50) rfl (Jvm.Free.XT.ii_gt_t hb50) (by decide) (by decide) ?_
      show Steps p.tables e below (T5.setTop (mkF m 67 #[.val (.int p0), .val (.int p1), .val (.int p2), .val (.int p3), .val (.int p4), .val (.int p5), .val (.int z3), .val (.int z9), .val (.int c17_z58), .val (.int c27_z58), .val (.ref rb3_b1), .unset, .unset, .unset, .unset, .unset, .unset, .unset, .unset, .unset, .unset] [])) _
      refine XS.iconst X5.here hx rfl (hb hby at_67) ?_
      show Steps p.tables e below (T5.setTop (mkF m 68 #[.val (.int p0), .val (.int p1), .val (.int p2), .val (.int p3), .val (.int p4), .val (.int p5), .val (.int z3), .val (.int z9), .val (.int c17_z58), .val (.int c27_z58), .val (.ref rb3_b1), .unset, .unset, .unset, .unset, .unset, .unset, .unset, .unset, .unset, .unset] [(.int (0 : Int32))])) _
      refine XS.istore X5.here hx rfl (hb hby at_68) rfl (l' := #[.val (.int p0), .val (.int p1), .val (.int p2), .val (.int p3), .val (.int p4), .val (.int p5), .val (.int z3), .val (.int z9), .val (.int c17_z58), .val (.int c27_z58), .val (.ref rb3_b1), .val (.int (0 : Int32)), .unset, .unset, .unset, .unset, .unset, .unset, .unset, .unset, .unset]) rfl ?_
      show Steps p.tables e below (T5.setTop (mkF m 70 #[.val (.int p0), .val (.int p1), .val (.int p2), .val (.int p3), .val (.int p4), .val (.int p5), .val (.int z3), .val (.int z9), .val (.int c17_z58), .val (.int c27_z58), .val (.ref rb3_b1), .val (.int (0 : Int32)), .unset, .unset, .unset, .unset, .unset, .unset, .unset, .unset, .unset] [])) _
      refine XS.aload X5.here hx rfl (hb hby at_70) rfl rfl ?_
      show Steps p.tables e below (T5.setTop (mkF m 72 #[.val (.int p0), .val (.int p1), .val (.int p2), .val (.int p3), .val (.int p4), .val (.int p5), .val (.int z3), .val (.int z9), .val (.int c17_z58), .val (.int c27_z58), .val (.ref rb3_b1), .val (.int (0 : Int32)), .unset, .unset, .unset, .unset, .unset, .unset, .unset, .unset, .unset] [(.ref rb3_b1)])) _
      refine st7.trans ?_
      show Steps p.tables e below (T7.setTop (mkF m 75 #[.val (.int p0), .val (.int p1), .val (.int p2), .val (.int p3), .val (.int p4), .val (.int p5), .val (.int z3), .val (.int z9), .val (.int c17_z58), .val (.int c27_z58), .val (.ref rb3_b1), .val (.int (0 : Int32)), .unset, .unset, .unset, .unset, .unset, .unset, .unset, .unset, .unset] [(.int c38_c11_rv)])) _
      refine XS.iload X7.here hx rfl (hb hby at_75) rfl ?_
      exact k
    by_cases hb77 : c27_z58 < c38_c11_rv
    · skip
      obtain ⟨c102_z1, hc102_z1⟩ : ∃ z : Int64, c17_z58.toInt64 = z := ⟨_, rfl⟩
      obtain ⟨c102_z5, hc102_z5⟩ : ∃ z : Int64, p2.toInt64 = z := ⟨_, rfl⟩
      obtain ⟨c102_z6, hc102_z6⟩ : ∃ z : Int64, c102_z1 - c102_z5 = z := ⟨_, rfl⟩
      obtain ⟨c102_z11, hc102_z11⟩ : ∃ z : Int32, lcmpW (0 : Int64) c102_z1 = z := ⟨_, rfl⟩
      obtain ⟨c102_z17, hc102_z17⟩ : ∃ z : Int64, z3.toInt64 = z := ⟨_, rfl⟩
      obtain ⟨c102_z18, hc102_z18⟩ : ∃ z : Int32, lcmpW c102_z1 c102_z17 = z := ⟨_, rfl⟩
      obtain ⟨c102_z25, hc102_z25⟩ : ∃ z : Int32, lcmpW (0 : Int64) c102_z6 = z := ⟨_, rfl⟩
      obtain ⟨c102_z32, hc102_z32⟩ : ∃ z : Int64, z3.toInt64 = z := ⟨_, rfl⟩
      obtain ⟨c102_z33, hc102_z33⟩ : ∃ z : Int32, lcmpW c102_z6 c102_z32 = z := ⟨_, rfl⟩
      obtain ⟨c102_rv, hc102_rv⟩ : ∃ z : Int32, (if (0 : Int32) < c102_z11 then (0 : Int32) else (if c102_z18 < (0 : Int32) then (if (0 : Int32) < c102_z25 then (0 : Int32) else (if c102_z33 < (0 : Int32) then (1 : Int32) else (0 : Int32))) else (0 : Int32))) = z := ⟨_, rfl⟩
      obtain ⟨c112_z1, hc112_z1⟩ : ∃ z : Int64, c27_z58.toInt64 = z := ⟨_, rfl⟩
      obtain ⟨c112_z5, hc112_z5⟩ : ∃ z : Int64, p3.toInt64 = z := ⟨_, rfl⟩
      obtain ⟨c112_z6, hc112_z6⟩ : ∃ z : Int64, c112_z1 - c112_z5 = z := ⟨_, rfl⟩
      obtain ⟨c112_z11, hc112_z11⟩ : ∃ z : Int32, lcmpW (0 : Int64) c112_z1 = z := ⟨_, rfl⟩
      obtain ⟨c112_z17, hc112_z17⟩ : ∃ z : Int64, z9.toInt64 = z := ⟨_, rfl⟩
      obtain ⟨c112_z18, hc112_z18⟩ : ∃ z : Int32, lcmpW c112_z1 c112_z17 = z := ⟨_, rfl⟩
      obtain ⟨c112_z25, hc112_z25⟩ : ∃ z : Int32, lcmpW (0 : Int64) c112_z6 = z := ⟨_, rfl⟩
      obtain ⟨c112_z32, hc112_z32⟩ : ∃ z : Int64, z9.toInt64 = z := ⟨_, rfl⟩
      obtain ⟨c112_z33, hc112_z33⟩ : ∃ z : Int32, lcmpW c112_z6 c112_z32 = z := ⟨_, rfl⟩
      obtain ⟨c112_rv, hc112_rv⟩ : ∃ z : Int32, (if (0 : Int32) < c112_z11 then (0 : Int32) else (if c112_z18 < (0 : Int32) then (if (0 : Int32) < c112_z25 then (0 : Int32) else (if c112_z33 < (0 : Int32) then (1 : Int32) else (0 : Int32))) else (0 : Int32))) = z := ⟨_, rfl⟩
      obtain ⟨z120, hz120⟩ : ∃ z : Int64, z3.toInt64 = z := ⟨_, rfl⟩
      obtain ⟨z122, hz122⟩ : ∃ z : Int64, p2.toInt64 = z := ⟨_, rfl⟩
      obtain ⟨c123_z2, hc123_z2⟩ : ∃ z : Int32, lcmpW z122 (0 : Int64) = z := ⟨_, rfl⟩
      obtain ⟨c123_z7, hc123_z7⟩ : ∃ z : Int64, -z122 = z := ⟨_, rfl⟩
      obtain ⟨c123_rv, hc123_rv⟩ : ∃ z : Int64, (if c123_z2 < (0 : Int32) then c123_z7 else z122) = z := ⟨_, rfl⟩
      obtain ⟨z126, hz126⟩ : ∃ z : Int64, z120 - c123_rv = z := ⟨_, rfl⟩
      obtain ⟨c127_z2, hc127_z2⟩ : ∃ z : Int32, lcmpW (0 : Int64) z126 = z := ⟨_, rfl⟩
      obtain ⟨c127_rv, hc127_rv⟩ : ∃ z : Int64, (if c127_z2 < (0 : Int32) then z126 else (0 : Int64)) = z := ⟨_, rfl⟩
      obtain ⟨z135, hz135⟩ : ∃ z : Int64, z9.toInt64 = z := ⟨_, rfl⟩
      obtain ⟨z137, hz137⟩ : ∃ z : Int64, p3.toInt64 = z := ⟨_, rfl⟩
      obtain ⟨c138_z2, hc138_z2⟩ : ∃ z : Int32, lcmpW z137 (0 : Int64) = z := ⟨_, rfl⟩
      obtain ⟨c138_z7, hc138_z7⟩ : ∃ z : Int64, -z137 = z := ⟨_, rfl⟩
      obtain ⟨c138_rv, hc138_rv⟩ : ∃ z : Int64, (if c138_z2 < (0 : Int32) then c138_z7 else z137) = z := ⟨_, rfl⟩
      obtain ⟨z141, hz141⟩ : ∃ z : Int64, z135 - c138_rv = z := ⟨_, rfl⟩
      obtain ⟨c142_z2, hc142_z2⟩ : ∃ z : Int32, lcmpW (0 : Int64) z141 = z := ⟨_, rfl⟩
      obtain ⟨c142_rv, hc142_rv⟩ : ∃ z : Int64, (if c142_z2 < (0 : Int32) then z141 else (0 : Int64)) = z := ⟨_, rfl⟩
      obtain ⟨z151, hz151⟩ : ∃ z : Int64, c127_rv * c142_rv = z := ⟨_, rfl⟩
      obtain ⟨z152, hz152⟩ : ∃ z : UInt64, FP.l2d z151 = z := ⟨_, rfl⟩
      obtain ⟨c171_z30, hc171_z30⟩ : ∃ z : Int32, c38_c18_rv - c38_c6_rv = z := ⟨_, rfl⟩
      obtain ⟨c171_z31, hc171_z31⟩ : ∃ z : UInt64, FP.i2d c171_z30 = z := ⟨_, rfl⟩
      obtain ⟨c171_z40, hc171_z40⟩ : ∃ z : Int32, c38_c25_rv - c38_c11_rv = z := ⟨_, rfl⟩
      obtain ⟨c171_z41, hc171_z41⟩ : ∃ z : UInt64, FP.i2d c171_z40 = z := ⟨_, rfl⟩
      obtain ⟨c171_z42, hc171_z42⟩ : ∃ z : UInt64, FP.dmul c171_z31 c171_z41 = z := ⟨_, rfl⟩
      obtain ⟨c171_rv, hc171_rv⟩ : ∃ z : UInt64, (if c38_c6_rv < c38_c18_rv then (if c38_c11_rv < c38_c25_rv then c171_z42 else FP.dconst0) else FP.dconst0) = z := ⟨_, rfl⟩
      obtain ⟨z176, hz176⟩ : ∃ z : Int32, cmpValue (FP.dcmp c171_rv z152) .l = z := ⟨_, rfl⟩
      obtain ⟨_, _, ⟨T9, L9, k9, n9⟩, -, X9, ⟨Lc9, hQ9, ql9, qy9, qz9⟩, st9⟩ := Jvm.LawKit.callS X7 hx (y := (⟨"com/example/vetrino/vetrino/OverlapOfPinLaw", "meets", "(III)Z"⟩ : MethodName)) hown (mvT hZ (hw _ (List.mem_of_getElem? (i := 47) rfl))) (mvT hZ (hw _ (List.mem_of_getElem? (i := 48) rfl))) (mvT hZ (hw _ (List.mem_of_getElem? (i := 3) rfl))) (mvT hZ (hw _ (List.mem_of_getElem? (i := 49) rfl))) (by decide) (backOf (W := 0) (rm10 l Z a0 hw [] c17_z58 p2 z3 c102_z1 c102_z5 c102_z6 c102_z11 c102_z17 c102_z18 c102_z25 c102_z32 c102_z33 c102_rv T3.heap n0 (Nat.le_trans Z0 K3q.1) hc102_z1 hc102_z5 hc102_z6 hc102_z11 hc102_z17 hc102_z18 hc102_z25 hc102_z32 hc102_z33 hc102_rv) hZ (hw _ (List.mem_of_getElem? (i := 49) rfl)) (hw _ (List.mem_of_getElem? (i := 3) rfl)) (by decide) (by decide)) (g := (mkF m 102 #[.val (.int p0), .val (.int p1), .val (.int p2), .val (.int p3), .val (.int p4), .val (.int p5), .val (.int z3), .val (.int z9), .val (.int c17_z58), .val (.int c27_z58), .val (.ref rb3_b1), .val (.int (0 : Int32)), .val (.int (0 : Int32)), .unset, .unset, .unset, .unset, .unset, .unset, .unset, .unset] [(.int z3), (.int p2), (.int c17_z58)])) rfl (by rw [hml]; rfl) (argsL := [(.int c17_z58), (.int p2), (.int z3)]) (rest := []) (lenOf pd_5 rfl) rfl (by show 2 * 0 + _ ≤ _; exact Nat.le_of_eq rfl) (hb hby at_102) (fun _ _ => ⟨rfl, e7, (by decide : 1 + 0 ≤ _), (by decide : 4 + 0 ≤ _)⟩)
      dsimp only [Pt.U, Pt.locs, Pt.cells, Pt.slots] at X9 ql9 qy9 qz9 st9 hQ9
      subst ql9 qy9 qz9
      obtain ⟨rfl, N9q, e9⟩ := hQ9
      have N9 := Fr.app N7 N9q
      obtain ⟨_, _, ⟨T10, L10, k10, n10⟩, -, X10, ⟨Lc10, hQ10, ql10, qy10, qz10⟩, st10⟩ := Jvm.LawKit.callS X9 hx (y := (⟨"com/example/vetrino/vetrino/OverlapOfPinLaw", "meets", "(III)Z"⟩ : MethodName)) hown (mvT hZ (hw _ (List.mem_of_getElem? (i := 47) rfl))) (mvT hZ (hw _ (List.mem_of_getElem? (i := 48) rfl))) (mvT hZ (hw _ (List.mem_of_getElem? (i := 3) rfl))) (mvT hZ (hw _ (List.mem_of_getElem? (i := 49) rfl))) (by decide) (backOf (W := 0) (rm10 l Z a0 hw [] c27_z58 p3 z9 c112_z1 c112_z5 c112_z6 c112_z11 c112_z17 c112_z18 c112_z25 c112_z32 c112_z33 c112_rv T3.heap n0 (Nat.le_trans Z0 K3q.1) hc112_z1 hc112_z5 hc112_z6 hc112_z11 hc112_z17 hc112_z18 hc112_z25 hc112_z32 hc112_z33 hc112_rv) hZ (hw _ (List.mem_of_getElem? (i := 49) rfl)) (hw _ (List.mem_of_getElem? (i := 3) rfl)) (by decide) (by decide)) (g := (mkF m 112 #[.val (.int p0), .val (.int p1), .val (.int p2), .val (.int p3), .val (.int p4), .val (.int p5), .val (.int z3), .val (.int z9), .val (.int c17_z58), .val (.int c27_z58), .val (.ref rb3_b1), .val (.int (0 : Int32)), .val (.int (0 : Int32)), .val (.int c102_rv), .unset, .unset, .unset, .unset, .unset, .unset, .unset] [(.int z9), (.int p3), (.int c27_z58)])) rfl (by rw [hml]; rfl) (argsL := [(.int c27_z58), (.int p3), (.int z9)]) (rest := []) (lenOf pd_5 rfl) rfl (by show 2 * 0 + _ ≤ _; exact Nat.le_of_eq rfl) (hb hby at_112) (fun _ _ => ⟨rfl, e9, (by decide : 1 + 0 ≤ _), (by decide : 4 + 0 ≤ _)⟩)
      dsimp only [Pt.U, Pt.locs, Pt.cells, Pt.slots] at X10 ql10 qy10 qz10 st10 hQ10
      subst ql10 qy10 qz10
      obtain ⟨rfl, N10q, e10⟩ := hQ10
      have N10 := Fr.app N9 N10q
      obtain ⟨_, _, ⟨T11, L11, k11, n11⟩, -, X11, ⟨Lc11, hQ11, ql11, qy11, qz11⟩, st11⟩ := Jvm.LawKit.callS X10 hx (y := (⟨"java/lang/Math", "abs", "(J)J"⟩ : MethodName)) hown (mvT hZ (hw _ (List.mem_of_getElem? (i := 50) rfl))) (mvT hZ (hw _ (List.mem_of_getElem? (i := 51) rfl))) (mvT hZ (hw _ (List.mem_of_getElem? (i := 13) rfl))) (mvT hZ (hw _ (List.mem_of_getElem? (i := 52) rfl))) (by decide) (backOf (W := 4) (rm11 l Z a0 hw [] z122 c123_z2 c123_z7 c123_rv T3.heap n0 (Nat.le_trans Z0 K3q.1) hc123_z2 hc123_z7 hc123_rv) hZ (hw _ (List.mem_of_getElem? (i := 52) rfl)) (hw _ (List.mem_of_getElem? (i := 13) rfl)) (by decide) (by decide)) (g := (mkF m 123 #[.val (.int p0), .val (.int p1), .val (.int p2), .val (.int p3), .val (.int p4), .val (.int p5), .val (.int z3), .val (.int z9), .val (.int c17_z58), .val (.int c27_z58), .val (.ref rb3_b1), .val (.int (0 : Int32)), .val (.int (0 : Int32)), .val (.int c102_rv), .val (.int c112_rv), .unset, .unset, .unset, .unset, .unset, .unset] [(.long z122), (.long z120), (.long (0 : Int64))])) rfl (by rw [hml]; rfl) (argsL := [(.long z122)]) (rest := [(.long z120), (.long (0 : Int64))]) (lenOf pd_6 rfl) rfl (by show 2 * 0 + _ ≤ _; exact Nat.le_of_eq rfl) (hb hby at_123) (fun _ _ => ⟨rfl, e10, (by decide : 1 + 0 ≤ _), (by decide : 4 + 0 ≤ _)⟩)
      dsimp only [Pt.U, Pt.locs, Pt.cells, Pt.slots] at X11 ql11 qy11 qz11 st11 hQ11
      subst ql11 qy11 qz11
      obtain ⟨rfl, N11q, e11⟩ := hQ11
      have N11 := Fr.app N10 N11q
      obtain ⟨_, _, ⟨T12, L12, k12, n12⟩, -, X12, ⟨Lc12, hQ12, ql12, qy12, qz12⟩, st12⟩ := Jvm.LawKit.callS X11 hx (y := (⟨"java/lang/Math", "max", "(JJ)J"⟩ : MethodName)) hown (mvT hZ (hw _ (List.mem_of_getElem? (i := 53) rfl))) (mvT hZ (hw _ (List.mem_of_getElem? (i := 54) rfl))) (mvT hZ (hw _ (List.mem_of_getElem? (i := 13) rfl))) (mvT hZ (hw _ (List.mem_of_getElem? (i := 55) rfl))) (by decide) (backOf (W := 0) (rm12 l Z a0 hw [] (0 : Int64) z126 c127_z2 c127_rv T3.heap n0 (Nat.le_trans Z0 K3q.1) hc127_z2 hc127_rv) hZ (hw _ (List.mem_of_getElem? (i := 55) rfl)) (hw _ (List.mem_of_getElem? (i := 13) rfl)) (by decide) (by decide)) (g := (mkF m 127 #[.val (.int p0), .val (.int p1), .val (.int p2), .val (.int p3), .val (.int p4), .val (.int p5), .val (.int z3), .val (.int z9), .val (.int c17_z58), .val (.int c27_z58), .val (.ref rb3_b1), .val (.int (0 : Int32)), .val (.int (0 : Int32)), .val (.int c102_rv), .val (.int c112_rv), .unset, .unset, .unset, .unset, .unset, .unset] [(.long z126), (.long (0 : Int64))])) rfl (by rw [hml]; rfl) (argsL := [(.long (0 : Int64)), (.long z126)]) (rest := []) (lenOf pd_7 rfl) rfl (by show 2 * 0 + _ ≤ _; exact Nat.le_of_eq rfl) (hb hby at_127) (fun _ _ => ⟨rfl, e11, (by decide : 1 + 0 ≤ _), (by decide : 4 + 0 ≤ _)⟩)
      dsimp only [Pt.U, Pt.locs, Pt.cells, Pt.slots] at X12 ql12 qy12 qz12 st12 hQ12
      subst ql12 qy12 qz12
      obtain ⟨rfl, N12q, e12⟩ := hQ12
      have N12 := Fr.app N11 N12q
      obtain ⟨_, _, ⟨T13, L13, k13, n13⟩, -, X13, ⟨Lc13, hQ13, ql13, qy13, qz13⟩, st13⟩ := Jvm.LawKit.callS X12 hx (y := (⟨"java/lang/Math", "abs", "(J)J"⟩ : MethodName)) hown (mvT hZ (hw _ (List.mem_of_getElem? (i := 50) rfl))) (mvT hZ (hw _ (List.mem_of_getElem? (i := 51) rfl))) (mvT hZ (hw _ (List.mem_of_getElem? (i := 13) rfl))) (mvT hZ (hw _ (List.mem_of_getElem? (i := 52) rfl))) (by decide) (backOf (W := 4) (rm11 l Z a0 hw [] z137 c138_z2 c138_z7 c138_rv T3.heap n0 (Nat.le_trans Z0 K3q.1) hc138_z2 hc138_z7 hc138_rv) hZ (hw _ (List.mem_of_getElem? (i := 52) rfl)) (hw _ (List.mem_of_getElem? (i := 13) rfl)) (by decide) (by decide)) (g := (mkF m 138 #[.val (.int p0), .val (.int p1), .val (.int p2), .val (.int p3), .val (.int p4), .val (.int p5), .val (.int z3), .val (.int z9), .val (.int c17_z58), .val (.int c27_z58), .val (.ref rb3_b1), .val (.int (0 : Int32)), .val (.int (0 : Int32)), .val (.int c102_rv), .val (.int c112_rv), .val (.long c127_rv), .second, .unset, .unset, .unset, .unset] [(.long z137), (.long z135), (.long (0 : Int64))])) rfl (by rw [hml]; rfl) (argsL := [(.long z137)]) (rest := [(.long z135), (.long (0 : Int64))]) (lenOf pd_6 rfl) rfl (by show 2 * 0 + _ ≤ _; exact Nat.le_of_eq rfl) (hb hby at_138) (fun _ _ => ⟨rfl, e12, (by decide : 1 + 0 ≤ _), (by decide : 4 + 0 ≤ _)⟩)
      dsimp only [Pt.U, Pt.locs, Pt.cells, Pt.slots] at X13 ql13 qy13 qz13 st13 hQ13
      subst ql13 qy13 qz13
      obtain ⟨rfl, N13q, e13⟩ := hQ13
      have N13 := Fr.app N12 N13q
      obtain ⟨_, _, ⟨T14, L14, k14, n14⟩, -, X14, ⟨Lc14, hQ14, ql14, qy14, qz14⟩, st14⟩ := Jvm.LawKit.callS X13 hx (y := (⟨"java/lang/Math", "max", "(JJ)J"⟩ : MethodName)) hown (mvT hZ (hw _ (List.mem_of_getElem? (i := 53) rfl))) (mvT hZ (hw _ (List.mem_of_getElem? (i := 54) rfl))) (mvT hZ (hw _ (List.mem_of_getElem? (i := 13) rfl))) (mvT hZ (hw _ (List.mem_of_getElem? (i := 55) rfl))) (by decide) (backOf (W := 0) (rm12 l Z a0 hw [] (0 : Int64) z141 c142_z2 c142_rv T3.heap n0 (Nat.le_trans Z0 K3q.1) hc142_z2 hc142_rv) hZ (hw _ (List.mem_of_getElem? (i := 55) rfl)) (hw _ (List.mem_of_getElem? (i := 13) rfl)) (by decide) (by decide)) (g := (mkF m 142 #[.val (.int p0), .val (.int p1), .val (.int p2), .val (.int p3), .val (.int p4), .val (.int p5), .val (.int z3), .val (.int z9), .val (.int c17_z58), .val (.int c27_z58), .val (.ref rb3_b1), .val (.int (0 : Int32)), .val (.int (0 : Int32)), .val (.int c102_rv), .val (.int c112_rv), .val (.long c127_rv), .second, .unset, .unset, .unset, .unset] [(.long z141), (.long (0 : Int64))])) rfl (by rw [hml]; rfl) (argsL := [(.long (0 : Int64)), (.long z141)]) (rest := []) (lenOf pd_7 rfl) rfl (by show 2 * 0 + _ ≤ _; exact Nat.le_of_eq rfl) (hb hby at_142) (fun _ _ => ⟨rfl, e13, (by decide : 1 + 0 ≤ _), (by decide : 4 + 0 ≤ _)⟩)
      dsimp only [Pt.U, Pt.locs, Pt.cells, Pt.slots] at X14 ql14 qy14 qz14 st14 hQ14
      subst ql14 qy14 qz14
      obtain ⟨rfl, N14q, e14⟩ := hQ14
      have N14 := Fr.app N13 N14q
      have br159 : (0 : Int32) = c102_rv := by
        rw [meet hA hc38_z17 hc38_c6_rv hc38_c18_rv hc102_z1 hc102_z5 hc102_z6 hc102_z11 hc102_z17 hc102_z18 hc102_z25 hc102_z32 hc102_z33 hc102_rv, if_pos hb50]
      have br166 : (0 : Int32) = c112_rv := by
        rw [meet hB hc38_z24 hc38_c11_rv hc38_c25_rv hc112_z1 hc112_z5 hc112_z6 hc112_z11 hc112_z17 hc112_z18 hc112_z25 hc112_z32 hc112_z33 hc112_rv, if_pos hb77]
      obtain ⟨c171_nn42, fin⟩ := area (side hA hc38_z17 hc38_c6_rv hc38_c18_rv hz120 hz122 hc123_z2 hc123_z7 hc123_rv hz126 hc127_z2 hc127_rv) (side hB hc38_z24 hc38_c11_rv hc38_c25_rv hz135 hz137 hc138_z2 hc138_z7 hc138_rv hz141 hc142_z2 hc142_rv) hc171_z30 hc171_z40 hc171_z31 hc171_z41 hc171_z42 hz151 hz152 hc171_rv
      obtain ⟨cq15, kq15, q15a, q15b, q15c⟩ := isOf hZ e14 Q3_0
      obtain ⟨_, _, ⟨T15, L15, k15, n15⟩, -, X15, ⟨Lc15, hQ15, ql15, qy15, qz15⟩, st15⟩ := X14.virtualBack hx (y := (⟨"com/example/vetrino/vetrino/Overlap", "area", "()D"⟩ : MethodName)) (z := (⟨"com/example/vetrino/vetrino/Overlap", "area", "()D"⟩ : MethodName)) hown (mvT hZ (hw _ (List.mem_of_getElem? (i := 56) rfl))) (mvT hZ (hw _ (List.mem_of_getElem? (i := 57) rfl))) (notFace_of_selects (args := #[]) (mvT hZ (hw _ (List.mem_of_getElem? (i := 59) rfl)))) (mvT hZ (hw _ (List.mem_of_getElem? (i := 59) rfl))) (mvT hZ (hw _ (List.mem_of_getElem? (i := 58) rfl))) (by decide) (backOf (W := 0) (rm13 l Z a0 hw [] rb3_b1 c38_c18_rv c38_c6_rv c38_c25_rv c38_c11_rv c171_z30 c171_z31 c171_z40 c171_z41 c171_z42 c171_rv T3.heap n0 (Nat.le_trans Z0 K3q.1) Q3_3 Q3_1 Q3_4 Q3_2 hc171_z30 hc171_z31 hc171_z40 hc171_z41 hc171_z42 hc171_rv c171_nn42) hZ (hw _ (List.mem_of_getElem? (i := 60) rfl)) (hw _ (List.mem_of_getElem? (i := 7) rfl)) (by decide) (by decide)) q15a q15c (g := (mkF m 171 #[.val (.int p0), .val (.int p1), .val (.int p2), .val (.int p3), .val (.int p4), .val (.int p5), .val (.int z3), .val (.int z9), .val (.int c17_z58), .val (.int c27_z58), .val (.ref rb3_b1), .val (.int (0 : Int32)), .val (.int (0 : Int32)), .val (.int c102_rv), .val (.int c112_rv), .val (.long c127_rv), .second, .val (.long c142_rv), .second, .val (.double z152), .second] [(.ref rb3_b1)])) rfl (by rw [hml]; rfl) (Steps.refl _) (argsL := []) (rest := []) (lenOf pd_8 rfl) rfl (by show 2 * 0 + _ ≤ _; exact Nat.le_of_eq rfl) (hb hby at_171) (fun _ _ => ⟨rfl, e14, (by decide : 1 + 0 ≤ _), (by decide : 4 + 0 ≤ _)⟩)
      dsimp only [Pt.U, Pt.locs, Pt.cells, Pt.slots] at X15 ql15 qy15 qz15 st15 hQ15
      subst ql15 qy15 qz15
      obtain ⟨rfl, N15q, e15⟩ := hQ15
      have N15 := Fr.app N14 N15q
      have br177 : z176 = 0 := hz176.symm.trans fin
      have c16 : ∀ t, Steps p.tables e below (T15.setTop (mkF m 185 #[.val (.int p0), .val (.int p1), .val (.int p2), .val (.int p3), .val (.int p4), .val (.int p5), .val (.int z3), .val (.int z9), .val (.int c17_z58), .val (.int c27_z58), .val (.ref rb3_b1), .val (.int (0 : Int32)), .val (.int (0 : Int32)), .val (.int c102_rv), .val (.int c112_rv), .val (.long c127_rv), .second, .val (.long c142_rv), .second, .val (.double z152), .second] [(.int (1 : Int32))])) t → Steps p.tables e below (s₁.setTop (entryFrame m #[(.int p0), (.int p1), (.int p2), (.int p3), (.int p4), (.int p5)] maxLocals)) t := by
        intro t k
        refine c8 t ?_
        show Steps p.tables e below (T7.setTop (mkF m 77 #[.val (.int p0), .val (.int p1), .val (.int p2), .val (.int p3), .val (.int p4), .val (.int p5), .val (.int z3), .val (.int z9), .val (.int c17_z58), .val (.int c27_z58), .val (.ref rb3_b1), .val (.int (0 : Int32)), .unset, .unset, .unset, .unset, .unset, .unset, .unset, .unset, .unset] [(.int c27_z58), (.int c38_c11_rv)])) _
        refine XS.icmpYes X7.here hx rfl (pc0 := 77) (pc' := 94) rfl (hb hby at_77) rfl (Jvm.Free.XT.ii_gt_t hb77) (by decide) (by decide) ?_
        show Steps p.tables e below (T7.setTop (mkF m 94 #[.val (.int p0), .val (.int p1), .val (.int p2), .val (.int p3), .val (.int p4), .val (.int p5), .val (.int z3), .val (.int z9), .val (.int c17_z58), .val (.int c27_z58), .val (.ref rb3_b1), .val (.int (0 : Int32)), .unset, .unset, .unset, .unset, .unset, .unset, .unset, .unset, .unset] [])) _
        refine XS.iconst X7.here hx rfl (hb hby at_94) ?_
        show Steps p.tables e below (T7.setTop (mkF m 95 #[.val (.int p0), .val (.int p1), .val (.int p2), .val (.int p3), .val (.int p4), .val (.int p5), .val (.int z3), .val (.int z9), .val (.int c17_z58), .val (.int c27_z58), .val (.ref rb3_b1), .val (.int (0 : Int32)), .unset, .unset, .unset, .unset, .unset, .unset, .unset, .unset, .unset] [(.int (0 : Int32))])) _
        refine XS.istore X7.here hx rfl (hb hby at_95) rfl (l' := #[.val (.int p0), .val (.int p1), .val (.int p2), .val (.int p3), .val (.int p4), .val (.int p5), .val (.int z3), .val (.int z9), .val (.int c17_z58), .val (.int c27_z58), .val (.ref rb3_b1), .val (.int (0 : Int32)), .val (.int (0 : Int32)), .unset, .unset, .unset, .unset, .unset, .unset, .unset, .unset]) rfl ?_
        show Steps p.tables e below (T7.setTop (mkF m 97 #[.val (.int p0), .val (.int p1), .val (.int p2), .val (.int p3), .val (.int p4), .val (.int p5), .val (.int z3), .val (.int z9), .val (.int c17_z58), .val (.int c27_z58), .val (.ref rb3_b1), .val (.int (0 : Int32)), .val (.int (0 : Int32)), .unset, .unset, .unset, .unset, .unset, .unset, .unset, .unset] [])) _
        refine XS.iload X7.here hx rfl (hb hby at_97) rfl ?_
        show Steps p.tables e below (T7.setTop (mkF m 99 #[.val (.int p0), .val (.int p1), .val (.int p2), .val (.int p3), .val (.int p4), .val (.int p5), .val (.int z3), .val (.int z9), .val (.int c17_z58), .val (.int c27_z58), .val (.ref rb3_b1), .val (.int (0 : Int32)), .val (.int (0 : Int32)), .unset, .unset, .unset, .unset, .unset, .unset, .unset, .unset] [(.int c17_z58)])) _
        refine XS.iloadN X7.here hx rfl (hb hby at_99) rfl ?_
        show Steps p.tables e below (T7.setTop (mkF m 100 #[.val (.int p0), .val (.int p1), .val (.int p2), .val (.int p3), .val (.int p4), .val (.int p5), .val (.int z3), .val (.int z9), .val (.int c17_z58), .val (.int c27_z58), .val (.ref rb3_b1), .val (.int (0 : Int32)), .val (.int (0 : Int32)), .unset, .unset, .unset, .unset, .unset, .unset, .unset, .unset] [(.int p2), (.int c17_z58)])) _
        refine XS.iload X7.here hx rfl (hb hby at_100) rfl ?_
        show Steps p.tables e below (T7.setTop (mkF m 102 #[.val (.int p0), .val (.int p1), .val (.int p2), .val (.int p3), .val (.int p4), .val (.int p5), .val (.int z3), .val (.int z9), .val (.int c17_z58), .val (.int c27_z58), .val (.ref rb3_b1), .val (.int (0 : Int32)), .val (.int (0 : Int32)), .unset, .unset, .unset, .unset, .unset, .unset, .unset, .unset] [(.int z3), (.int p2), (.int c17_z58)])) _
        refine st9 _ ?_
        show Steps p.tables e below (T9.setTop (mkF m 105 #[.val (.int p0), .val (.int p1), .val (.int p2), .val (.int p3), .val (.int p4), .val (.int p5), .val (.int z3), .val (.int z9), .val (.int c17_z58), .val (.int c27_z58), .val (.ref rb3_b1), .val (.int (0 : Int32)), .val (.int (0 : Int32)), .unset, .unset, .unset, .unset, .unset, .unset, .unset, .unset] [(.int c102_rv)])) _
        refine XS.istore X9.here hx rfl (hb hby at_105) rfl (l' := #[.val (.int p0), .val (.int p1), .val (.int p2), .val (.int p3), .val (.int p4), .val (.int p5), .val (.int z3), .val (.int z9), .val (.int c17_z58), .val (.int c27_z58), .val (.ref rb3_b1), .val (.int (0 : Int32)), .val (.int (0 : Int32)), .val (.int c102_rv), .unset, .unset, .unset, .unset, .unset, .unset, .unset]) rfl ?_
        show Steps p.tables e below (T9.setTop (mkF m 107 #[.val (.int p0), .val (.int p1), .val (.int p2), .val (.int p3), .val (.int p4), .val (.int p5), .val (.int z3), .val (.int z9), .val (.int c17_z58), .val (.int c27_z58), .val (.ref rb3_b1), .val (.int (0 : Int32)), .val (.int (0 : Int32)), .val (.int c102_rv), .unset, .unset, .unset, .unset, .unset, .unset, .unset] [])) _
        refine XS.iload X9.here hx rfl (hb hby at_107) rfl ?_
        show Steps p.tables e below (T9.setTop (mkF m 109 #[.val (.int p0), .val (.int p1), .val (.int p2), .val (.int p3), .val (.int p4), .val (.int p5), .val (.int z3), .val (.int z9), .val (.int c17_z58), .val (.int c27_z58), .val (.ref rb3_b1), .val (.int (0 : Int32)), .val (.int (0 : Int32)), .val (.int c102_rv), .unset, .unset, .unset, .unset, .unset, .unset, .unset] [(.int c27_z58)])) _
        refine XS.iloadN X9.here hx rfl (hb hby at_109) rfl ?_
        show Steps p.tables e below (T9.setTop (mkF m 110 #[.val (.int p0), .val (.int p1), .val (.int p2), .val (.int p3), .val (.int p4), .val (.int p5), .val (.int z3), .val (.int z9), .val (.int c17_z58), .val (.int c27_z58), .val (.ref rb3_b1), .val (.int (0 : Int32)), .val (.int (0 : Int32)), .val (.int c102_rv), .unset, .unset, .unset, .unset, .unset, .unset, .unset] [(.int p3), (.int c27_z58)])) _
        refine XS.iload X9.here hx rfl (hb hby at_110) rfl ?_
        show Steps p.tables e below (T9.setTop (mkF m 112 #[.val (.int p0), .val (.int p1), .val (.int p2), .val (.int p3), .val (.int p4), .val (.int p5), .val (.int z3), .val (.int z9), .val (.int c17_z58), .val (.int c27_z58), .val (.ref rb3_b1), .val (.int (0 : Int32)), .val (.int (0 : Int32)), .val (.int c102_rv), .unset, .unset, .unset, .unset, .unset, .unset, .unset] [(.int z9), (.int p3), (.int c27_z58)])) _
        refine st10 _ ?_
        show Steps p.tables e below (T10.setTop (mkF m 115 #[.val (.int p0), .val (.int p1), .val (.int p2), .val (.int p3), .val (.int p4), .val (.int p5), .val (.int z3), .val (.int z9), .val (.int c17_z58), .val (.int c27_z58), .val (.ref rb3_b1), .val (.int (0 : Int32)), .val (.int (0 : Int32)), .val (.int c102_rv), .unset, .unset, .unset, .unset, .unset, .unset, .unset] [(.int c112_rv)])) _
        refine XS.istore X10.here hx rfl (hb hby at_115) rfl (l' := #[.val (.int p0), .val (.int p1), .val (.int p2), .val (.int p3), .val (.int p4), .val (.int p5), .val (.int z3), .val (.int z9), .val (.int c17_z58), .val (.int c27_z58), .val (.ref rb3_b1), .val (.int (0 : Int32)), .val (.int (0 : Int32)), .val (.int c102_rv), .val (.int c112_rv), .unset, .unset, .unset, .unset, .unset, .unset]) rfl ?_
        show Steps p.tables e below (T10.setTop (mkF m 117 #[.val (.int p0), .val (.int p1), .val (.int p2), .val (.int p3), .val (.int p4), .val (.int p5), .val (.int z3), .val (.int z9), .val (.int c17_z58), .val (.int c27_z58), .val (.ref rb3_b1), .val (.int (0 : Int32)), .val (.int (0 : Int32)), .val (.int c102_rv), .val (.int c112_rv), .unset, .unset, .unset, .unset, .unset, .unset] [])) _
        refine XS.lconst X10.here hx rfl (hb hby at_117) ?_
        show Steps p.tables e below (T10.setTop (mkF m 118 #[.val (.int p0), .val (.int p1), .val (.int p2), .val (.int p3), .val (.int p4), .val (.int p5), .val (.int z3), .val (.int z9), .val (.int c17_z58), .val (.int c27_z58), .val (.ref rb3_b1), .val (.int (0 : Int32)), .val (.int (0 : Int32)), .val (.int c102_rv), .val (.int c112_rv), .unset, .unset, .unset, .unset, .unset, .unset] [(.long (0 : Int64))])) _
        refine XS.iload X10.here hx rfl (hb hby at_118) rfl ?_
        show Steps p.tables e below (T10.setTop (mkF m 120 #[.val (.int p0), .val (.int p1), .val (.int p2), .val (.int p3), .val (.int p4), .val (.int p5), .val (.int z3), .val (.int z9), .val (.int c17_z58), .val (.int c27_z58), .val (.ref rb3_b1), .val (.int (0 : Int32)), .val (.int (0 : Int32)), .val (.int c102_rv), .val (.int c112_rv), .unset, .unset, .unset, .unset, .unset, .unset] [(.int z3), (.long (0 : Int64))])) _
        refine Jvm.OwnK.i2l X10.here hx rfl (hb hby at_120) rfl hz120 ?_
        show Steps p.tables e below (T10.setTop (mkF m 121 #[.val (.int p0), .val (.int p1), .val (.int p2), .val (.int p3), .val (.int p4), .val (.int p5), .val (.int z3), .val (.int z9), .val (.int c17_z58), .val (.int c27_z58), .val (.ref rb3_b1), .val (.int (0 : Int32)), .val (.int (0 : Int32)), .val (.int c102_rv), .val (.int c112_rv), .unset, .unset, .unset, .unset, .unset, .unset] [(.long z120), (.long (0 : Int64))])) _
        refine XS.iloadN X10.here hx rfl (hb hby at_121) rfl ?_
        show Steps p.tables e below (T10.setTop (mkF m 122 #[.val (.int p0), .val (.int p1), .val (.int p2), .val (.int p3), .val (.int p4), .val (.int p5), .val (.int z3), .val (.int z9), .val (.int c17_z58), .val (.int c27_z58), .val (.ref rb3_b1), .val (.int (0 : Int32)), .val (.int (0 : Int32)), .val (.int c102_rv), .val (.int c112_rv), .unset, .unset, .unset, .unset, .unset, .unset] [(.int p2), (.long z120), (.long (0 : Int64))])) _
        refine Jvm.OwnK.i2l X10.here hx rfl (hb hby at_122) rfl hz122 ?_
        show Steps p.tables e below (T10.setTop (mkF m 123 #[.val (.int p0), .val (.int p1), .val (.int p2), .val (.int p3), .val (.int p4), .val (.int p5), .val (.int z3), .val (.int z9), .val (.int c17_z58), .val (.int c27_z58), .val (.ref rb3_b1), .val (.int (0 : Int32)), .val (.int (0 : Int32)), .val (.int c102_rv), .val (.int c112_rv), .unset, .unset, .unset, .unset, .unset, .unset] [(.long z122), (.long z120), (.long (0 : Int64))])) _
        refine st11 _ ?_
        show Steps p.tables e below (T11.setTop (mkF m 126 #[.val (.int p0), .val (.int p1), .val (.int p2), .val (.int p3), .val (.int p4), .val (.int p5), .val (.int z3), .val (.int z9), .val (.int c17_z58), .val (.int c27_z58), .val (.ref rb3_b1), .val (.int (0 : Int32)), .val (.int (0 : Int32)), .val (.int c102_rv), .val (.int c112_rv), .unset, .unset, .unset, .unset, .unset, .unset] [(.long c123_rv), (.long z120), (.long (0 : Int64))])) _
        refine Jvm.OwnK.lsub X11.here hx rfl (hb hby at_126) rfl hz126 ?_
        show Steps p.tables e below (T11.setTop (mkF m 127 #[.val (.int p0), .val (.int p1), .val (.int p2), .val (.int p3), .val (.int p4), .val (.int p5), .val (.int z3), .val (.int z9), .val (.int c17_z58), .val (.int c27_z58), .val (.ref rb3_b1), .val (.int (0 : Int32)), .val (.int (0 : Int32)), .val (.int c102_rv), .val (.int c112_rv), .unset, .unset, .unset, .unset, .unset, .unset] [(.long z126), (.long (0 : Int64))])) _
        refine st12 _ ?_
        show Steps p.tables e below (T12.setTop (mkF m 130 #[.val (.int p0), .val (.int p1), .val (.int p2), .val (.int p3), .val (.int p4), .val (.int p5), .val (.int z3), .val (.int z9), .val (.int c17_z58), .val (.int c27_z58), .val (.ref rb3_b1), .val (.int (0 : Int32)), .val (.int (0 : Int32)), .val (.int c102_rv), .val (.int c112_rv), .unset, .unset, .unset, .unset, .unset, .unset] [(.long c127_rv)])) _
        refine XS.lstore X12.here hx rfl (hb hby at_130) rfl (l' := #[.val (.int p0), .val (.int p1), .val (.int p2), .val (.int p3), .val (.int p4), .val (.int p5), .val (.int z3), .val (.int z9), .val (.int c17_z58), .val (.int c27_z58), .val (.ref rb3_b1), .val (.int (0 : Int32)), .val (.int (0 : Int32)), .val (.int c102_rv), .val (.int c112_rv), .val (.long c127_rv), .second, .unset, .unset, .unset, .unset]) rfl ?_
        show Steps p.tables e below (T12.setTop (mkF m 132 #[.val (.int p0), .val (.int p1), .val (.int p2), .val (.int p3), .val (.int p4), .val (.int p5), .val (.int z3), .val (.int z9), .val (.int c17_z58), .val (.int c27_z58), .val (.ref rb3_b1), .val (.int (0 : Int32)), .val (.int (0 : Int32)), .val (.int c102_rv), .val (.int c112_rv), .val (.long c127_rv), .second, .unset, .unset, .unset, .unset] [])) _
        refine XS.lconst X12.here hx rfl (hb hby at_132) ?_
        show Steps p.tables e below (T12.setTop (mkF m 133 #[.val (.int p0), .val (.int p1), .val (.int p2), .val (.int p3), .val (.int p4), .val (.int p5), .val (.int z3), .val (.int z9), .val (.int c17_z58), .val (.int c27_z58), .val (.ref rb3_b1), .val (.int (0 : Int32)), .val (.int (0 : Int32)), .val (.int c102_rv), .val (.int c112_rv), .val (.long c127_rv), .second, .unset, .unset, .unset, .unset] [(.long (0 : Int64))])) _
        refine XS.iload X12.here hx rfl (hb hby at_133) rfl ?_
        show Steps p.tables e below (T12.setTop (mkF m 135 #[.val (.int p0), .val (.int p1), .val (.int p2), .val (.int p3), .val (.int p4), .val (.int p5), .val (.int z3), .val (.int z9), .val (.int c17_z58), .val (.int c27_z58), .val (.ref rb3_b1), .val (.int (0 : Int32)), .val (.int (0 : Int32)), .val (.int c102_rv), .val (.int c112_rv), .val (.long c127_rv), .second, .unset, .unset, .unset, .unset] [(.int z9), (.long (0 : Int64))])) _
        refine Jvm.OwnK.i2l X12.here hx rfl (hb hby at_135) rfl hz135 ?_
        show Steps p.tables e below (T12.setTop (mkF m 136 #[.val (.int p0), .val (.int p1), .val (.int p2), .val (.int p3), .val (.int p4), .val (.int p5), .val (.int z3), .val (.int z9), .val (.int c17_z58), .val (.int c27_z58), .val (.ref rb3_b1), .val (.int (0 : Int32)), .val (.int (0 : Int32)), .val (.int c102_rv), .val (.int c112_rv), .val (.long c127_rv), .second, .unset, .unset, .unset, .unset] [(.long z135), (.long (0 : Int64))])) _
        refine XS.iloadN X12.here hx rfl (hb hby at_136) rfl ?_
        show Steps p.tables e below (T12.setTop (mkF m 137 #[.val (.int p0), .val (.int p1), .val (.int p2), .val (.int p3), .val (.int p4), .val (.int p5), .val (.int z3), .val (.int z9), .val (.int c17_z58), .val (.int c27_z58), .val (.ref rb3_b1), .val (.int (0 : Int32)), .val (.int (0 : Int32)), .val (.int c102_rv), .val (.int c112_rv), .val (.long c127_rv), .second, .unset, .unset, .unset, .unset] [(.int p3), (.long z135), (.long (0 : Int64))])) _
        refine Jvm.OwnK.i2l X12.here hx rfl (hb hby at_137) rfl hz137 ?_
        show Steps p.tables e below (T12.setTop (mkF m 138 #[.val (.int p0), .val (.int p1), .val (.int p2), .val (.int p3), .val (.int p4), .val (.int p5), .val (.int z3), .val (.int z9), .val (.int c17_z58), .val (.int c27_z58), .val (.ref rb3_b1), .val (.int (0 : Int32)), .val (.int (0 : Int32)), .val (.int c102_rv), .val (.int c112_rv), .val (.long c127_rv), .second, .unset, .unset, .unset, .unset] [(.long z137), (.long z135), (.long (0 : Int64))])) _
        refine st13 _ ?_
        show Steps p.tables e below (T13.setTop (mkF m 141 #[.val (.int p0), .val (.int p1), .val (.int p2), .val (.int p3), .val (.int p4), .val (.int p5), .val (.int z3), .val (.int z9), .val (.int c17_z58), .val (.int c27_z58), .val (.ref rb3_b1), .val (.int (0 : Int32)), .val (.int (0 : Int32)), .val (.int c102_rv), .val (.int c112_rv), .val (.long c127_rv), .second, .unset, .unset, .unset, .unset] [(.long c138_rv), (.long z135), (.long (0 : Int64))])) _
        refine Jvm.OwnK.lsub X13.here hx rfl (hb hby at_141) rfl hz141 ?_
        show Steps p.tables e below (T13.setTop (mkF m 142 #[.val (.int p0), .val (.int p1), .val (.int p2), .val (.int p3), .val (.int p4), .val (.int p5), .val (.int z3), .val (.int z9), .val (.int c17_z58), .val (.int c27_z58), .val (.ref rb3_b1), .val (.int (0 : Int32)), .val (.int (0 : Int32)), .val (.int c102_rv), .val (.int c112_rv), .val (.long c127_rv), .second, .unset, .unset, .unset, .unset] [(.long z141), (.long (0 : Int64))])) _
        refine st14 _ ?_
        show Steps p.tables e below (T14.setTop (mkF m 145 #[.val (.int p0), .val (.int p1), .val (.int p2), .val (.int p3), .val (.int p4), .val (.int p5), .val (.int z3), .val (.int z9), .val (.int c17_z58), .val (.int c27_z58), .val (.ref rb3_b1), .val (.int (0 : Int32)), .val (.int (0 : Int32)), .val (.int c102_rv), .val (.int c112_rv), .val (.long c127_rv), .second, .unset, .unset, .unset, .unset] [(.long c142_rv)])) _
        refine XS.lstore X14.here hx rfl (hb hby at_145) rfl (l' := #[.val (.int p0), .val (.int p1), .val (.int p2), .val (.int p3), .val (.int p4), .val (.int p5), .val (.int z3), .val (.int z9), .val (.int c17_z58), .val (.int c27_z58), .val (.ref rb3_b1), .val (.int (0 : Int32)), .val (.int (0 : Int32)), .val (.int c102_rv), .val (.int c112_rv), .val (.long c127_rv), .second, .val (.long c142_rv), .second, .unset, .unset]) rfl ?_
        show Steps p.tables e below (T14.setTop (mkF m 147 #[.val (.int p0), .val (.int p1), .val (.int p2), .val (.int p3), .val (.int p4), .val (.int p5), .val (.int z3), .val (.int z9), .val (.int c17_z58), .val (.int c27_z58), .val (.ref rb3_b1), .val (.int (0 : Int32)), .val (.int (0 : Int32)), .val (.int c102_rv), .val (.int c112_rv), .val (.long c127_rv), .second, .val (.long c142_rv), .second, .unset, .unset] [])) _
        refine XS.lload X14.here hx rfl (hb hby at_147) rfl ?_
        show Steps p.tables e below (T14.setTop (mkF m 149 #[.val (.int p0), .val (.int p1), .val (.int p2), .val (.int p3), .val (.int p4), .val (.int p5), .val (.int z3), .val (.int z9), .val (.int c17_z58), .val (.int c27_z58), .val (.ref rb3_b1), .val (.int (0 : Int32)), .val (.int (0 : Int32)), .val (.int c102_rv), .val (.int c112_rv), .val (.long c127_rv), .second, .val (.long c142_rv), .second, .unset, .unset] [(.long c127_rv)])) _
        refine XS.lload X14.here hx rfl (hb hby at_149) rfl ?_
        show Steps p.tables e below (T14.setTop (mkF m 151 #[.val (.int p0), .val (.int p1), .val (.int p2), .val (.int p3), .val (.int p4), .val (.int p5), .val (.int z3), .val (.int z9), .val (.int c17_z58), .val (.int c27_z58), .val (.ref rb3_b1), .val (.int (0 : Int32)), .val (.int (0 : Int32)), .val (.int c102_rv), .val (.int c112_rv), .val (.long c127_rv), .second, .val (.long c142_rv), .second, .unset, .unset] [(.long c142_rv), (.long c127_rv)])) _
        refine Jvm.OwnK.lmul X14.here hx rfl (hb hby at_151) rfl hz151 ?_
        show Steps p.tables e below (T14.setTop (mkF m 152 #[.val (.int p0), .val (.int p1), .val (.int p2), .val (.int p3), .val (.int p4), .val (.int p5), .val (.int z3), .val (.int z9), .val (.int c17_z58), .val (.int c27_z58), .val (.ref rb3_b1), .val (.int (0 : Int32)), .val (.int (0 : Int32)), .val (.int c102_rv), .val (.int c112_rv), .val (.long c127_rv), .second, .val (.long c142_rv), .second, .unset, .unset] [(.long z151)])) _
        refine XS.l2dS X14.here hx rfl (hb hby at_152) rfl hz152 ?_
        show Steps p.tables e below (T14.setTop (mkF m 153 #[.val (.int p0), .val (.int p1), .val (.int p2), .val (.int p3), .val (.int p4), .val (.int p5), .val (.int z3), .val (.int z9), .val (.int c17_z58), .val (.int c27_z58), .val (.ref rb3_b1), .val (.int (0 : Int32)), .val (.int (0 : Int32)), .val (.int c102_rv), .val (.int c112_rv), .val (.long c127_rv), .second, .val (.long c142_rv), .second, .unset, .unset] [(.double z152)])) _
        refine XS.dstore X14.here hx rfl (hb hby at_153) rfl (l' := #[.val (.int p0), .val (.int p1), .val (.int p2), .val (.int p3), .val (.int p4), .val (.int p5), .val (.int z3), .val (.int z9), .val (.int c17_z58), .val (.int c27_z58), .val (.ref rb3_b1), .val (.int (0 : Int32)), .val (.int (0 : Int32)), .val (.int c102_rv), .val (.int c112_rv), .val (.long c127_rv), .second, .val (.long c142_rv), .second, .val (.double z152), .second]) rfl ?_
        show Steps p.tables e below (T14.setTop (mkF m 155 #[.val (.int p0), .val (.int p1), .val (.int p2), .val (.int p3), .val (.int p4), .val (.int p5), .val (.int z3), .val (.int z9), .val (.int c17_z58), .val (.int c27_z58), .val (.ref rb3_b1), .val (.int (0 : Int32)), .val (.int (0 : Int32)), .val (.int c102_rv), .val (.int c112_rv), .val (.long c127_rv), .second, .val (.long c142_rv), .second, .val (.double z152), .second] [])) _
        refine XS.iload X14.here hx rfl (hb hby at_155) rfl ?_
        show Steps p.tables e below (T14.setTop (mkF m 157 #[.val (.int p0), .val (.int p1), .val (.int p2), .val (.int p3), .val (.int p4), .val (.int p5), .val (.int z3), .val (.int z9), .val (.int c17_z58), .val (.int c27_z58), .val (.ref rb3_b1), .val (.int (0 : Int32)), .val (.int (0 : Int32)), .val (.int c102_rv), .val (.int c112_rv), .val (.long c127_rv), .second, .val (.long c142_rv), .second, .val (.double z152), .second] [(.int (0 : Int32))])) _
        refine XS.iload X14.here hx rfl (hb hby at_157) rfl ?_
        show Steps p.tables e below (T14.setTop (mkF m 159 #[.val (.int p0), .val (.int p1), .val (.int p2), .val (.int p3), .val (.int p4), .val (.int p5), .val (.int z3), .val (.int z9), .val (.int c17_z58), .val (.int c27_z58), .val (.ref rb3_b1), .val (.int (0 : Int32)), .val (.int (0 : Int32)), .val (.int c102_rv), .val (.int c112_rv), .val (.long c127_rv), .second, .val (.long c142_rv), .second, .val (.double z152), .second] [(.int c102_rv), (.int (0 : Int32))])) _
        refine XS.icmpNo X14.here hx rfl (hb hby at_159) rfl (Jvm.Free.XT.ii_ne_f br159) ?_
        show Steps p.tables e below (T14.setTop (mkF m 162 #[.val (.int p0), .val (.int p1), .val (.int p2), .val (.int p3), .val (.int p4), .val (.int p5), .val (.int z3), .val (.int z9), .val (.int c17_z58), .val (.int c27_z58), .val (.ref rb3_b1), .val (.int (0 : Int32)), .val (.int (0 : Int32)), .val (.int c102_rv), .val (.int c112_rv), .val (.long c127_rv), .second, .val (.long c142_rv), .second, .val (.double z152), .second] [])) _
        refine XS.iload X14.here hx rfl (hb hby at_162) rfl ?_
        show Steps p.tables e below (T14.setTop (mkF m 164 #[.val (.int p0), .val (.int p1), .val (.int p2), .val (.int p3), .val (.int p4), .val (.int p5), .val (.int z3), .val (.int z9), .val (.int c17_z58), .val (.int c27_z58), .val (.ref rb3_b1), .val (.int (0 : Int32)), .val (.int (0 : Int32)), .val (.int c102_rv), .val (.int c112_rv), .val (.long c127_rv), .second, .val (.long c142_rv), .second, .val (.double z152), .second] [(.int (0 : Int32))])) _
        refine XS.iload X14.here hx rfl (hb hby at_164) rfl ?_
        show Steps p.tables e below (T14.setTop (mkF m 166 #[.val (.int p0), .val (.int p1), .val (.int p2), .val (.int p3), .val (.int p4), .val (.int p5), .val (.int z3), .val (.int z9), .val (.int c17_z58), .val (.int c27_z58), .val (.ref rb3_b1), .val (.int (0 : Int32)), .val (.int (0 : Int32)), .val (.int c102_rv), .val (.int c112_rv), .val (.long c127_rv), .second, .val (.long c142_rv), .second, .val (.double z152), .second] [(.int c112_rv), (.int (0 : Int32))])) _
        refine XS.icmpNo X14.here hx rfl (hb hby at_166) rfl (Jvm.Free.XT.ii_ne_f br166) ?_
        show Steps p.tables e below (T14.setTop (mkF m 169 #[.val (.int p0), .val (.int p1), .val (.int p2), .val (.int p3), .val (.int p4), .val (.int p5), .val (.int z3), .val (.int z9), .val (.int c17_z58), .val (.int c27_z58), .val (.ref rb3_b1), .val (.int (0 : Int32)), .val (.int (0 : Int32)), .val (.int c102_rv), .val (.int c112_rv), .val (.long c127_rv), .second, .val (.long c142_rv), .second, .val (.double z152), .second] [])) _
        refine XS.aload X14.here hx rfl (hb hby at_169) rfl rfl ?_
        show Steps p.tables e below (T14.setTop (mkF m 171 #[.val (.int p0), .val (.int p1), .val (.int p2), .val (.int p3), .val (.int p4), .val (.int p5), .val (.int z3), .val (.int z9), .val (.int c17_z58), .val (.int c27_z58), .val (.ref rb3_b1), .val (.int (0 : Int32)), .val (.int (0 : Int32)), .val (.int c102_rv), .val (.int c112_rv), .val (.long c127_rv), .second, .val (.long c142_rv), .second, .val (.double z152), .second] [(.ref rb3_b1)])) _
        refine st15.trans ?_
        show Steps p.tables e below (T15.setTop (mkF m 174 #[.val (.int p0), .val (.int p1), .val (.int p2), .val (.int p3), .val (.int p4), .val (.int p5), .val (.int z3), .val (.int z9), .val (.int c17_z58), .val (.int c27_z58), .val (.ref rb3_b1), .val (.int (0 : Int32)), .val (.int (0 : Int32)), .val (.int c102_rv), .val (.int c112_rv), .val (.long c127_rv), .second, .val (.long c142_rv), .second, .val (.double z152), .second] [(.double c171_rv)])) _
        refine XS.dload X15.here hx rfl (hb hby at_174) rfl ?_
        show Steps p.tables e below (T15.setTop (mkF m 176 #[.val (.int p0), .val (.int p1), .val (.int p2), .val (.int p3), .val (.int p4), .val (.int p5), .val (.int z3), .val (.int z9), .val (.int c17_z58), .val (.int c27_z58), .val (.ref rb3_b1), .val (.int (0 : Int32)), .val (.int (0 : Int32)), .val (.int c102_rv), .val (.int c112_rv), .val (.long c127_rv), .second, .val (.long c142_rv), .second, .val (.double z152), .second] [(.double z152), (.double c171_rv)])) _
        refine XS.dcmpS X15.here hx rfl (hb hby at_176) rfl hz176 ?_
        show Steps p.tables e below (T15.setTop (mkF m 177 #[.val (.int p0), .val (.int p1), .val (.int p2), .val (.int p3), .val (.int p4), .val (.int p5), .val (.int z3), .val (.int z9), .val (.int c17_z58), .val (.int c27_z58), .val (.ref rb3_b1), .val (.int (0 : Int32)), .val (.int (0 : Int32)), .val (.int c102_rv), .val (.int c112_rv), .val (.long c127_rv), .second, .val (.long c142_rv), .second, .val (.double z152), .second] [(.int z176)])) _
        refine XS.ifNo X15.here hx rfl (hb hby at_177) rfl (Jvm.Free.XT.i0_ne_f br177) ?_
        show Steps p.tables e below (T15.setTop (mkF m 180 #[.val (.int p0), .val (.int p1), .val (.int p2), .val (.int p3), .val (.int p4), .val (.int p5), .val (.int z3), .val (.int z9), .val (.int c17_z58), .val (.int c27_z58), .val (.ref rb3_b1), .val (.int (0 : Int32)), .val (.int (0 : Int32)), .val (.int c102_rv), .val (.int c112_rv), .val (.long c127_rv), .second, .val (.long c142_rv), .second, .val (.double z152), .second] [])) _
        refine XS.iconst X15.here hx rfl (hb hby at_180) ?_
        show Steps p.tables e below (T15.setTop (mkF m 181 #[.val (.int p0), .val (.int p1), .val (.int p2), .val (.int p3), .val (.int p4), .val (.int p5), .val (.int z3), .val (.int z9), .val (.int c17_z58), .val (.int c27_z58), .val (.ref rb3_b1), .val (.int (0 : Int32)), .val (.int (0 : Int32)), .val (.int c102_rv), .val (.int c112_rv), .val (.long c127_rv), .second, .val (.long c142_rv), .second, .val (.double z152), .second] [(.int (1 : Int32))])) _
        refine XS.goto X15.here hx rfl (pc0 := 181) (pc' := 185) rfl (hb hby at_181) (by decide) (by decide) ?_
        exact k
      obtain ⟨fs, hr, hrun, hended, hW, hsame⟩ := X15.leave (v := some (.int (1 : Int32))) (fun h => by rw [Bd.returns] at h; cases h)
      refine ⟨_, _, c16 _ ?_, hrun, hended, _, _, rfl, ?_, ⟨_, rfl⟩, hW, hsame.mono (by decide) (by decide)⟩
      · show Steps p.tables e below (T15.setTop (mkF m 185 #[.val (.int p0), .val (.int p1), .val (.int p2), .val (.int p3), .val (.int p4), .val (.int p5), .val (.int z3), .val (.int z9), .val (.int c17_z58), .val (.int c27_z58), .val (.ref rb3_b1), .val (.int (0 : Int32)), .val (.int (0 : Int32)), .val (.int c102_rv), .val (.int c112_rv), .val (.long c127_rv), .second, .val (.long c142_rv), .second, .val (.double z152), .second] [(.int (1 : Int32))])) _
        exact retOut X15 hx Bd.returns rfl (Or.inl ⟨rfl, by simp, _, rfl⟩) (hb hby at_185) hr
      · show Q0 n0 _ T15.heap _
        rw [e15]
        exact ⟨rfl, by first | assumption | exact N0⟩
    · skip
      obtain ⟨cq17, kq17, q17a, q17b, q17c⟩ := isOf hZ e7 Q3_0
      obtain ⟨_, _, ⟨T17, L17, k17, n17⟩, -, X17, ⟨Lc17, hQ17, ql17, qy17, qz17⟩, st17⟩ := X7.virtualBack hx (y := (⟨"com/example/vetrino/vetrino/Overlap", "bottom", "()I"⟩ : MethodName)) (z := (⟨"com/example/vetrino/vetrino/Overlap", "bottom", "()I"⟩ : MethodName)) hown (mvT hZ (hw _ (List.mem_of_getElem? (i := 42) rfl))) (mvT hZ (hw _ (List.mem_of_getElem? (i := 43) rfl))) (notFace_of_selects (args := #[]) (mvT hZ (hw _ (List.mem_of_getElem? (i := 45) rfl)))) (mvT hZ (hw _ (List.mem_of_getElem? (i := 45) rfl))) (mvT hZ (hw _ (List.mem_of_getElem? (i := 44) rfl))) (by decide) (backOf (W := 1) (rm9 l Z a0 hw [] rb3_b1 c38_c25_rv  T3.heap n0 (Nat.le_trans Z0 K3q.1) Q3_4) hZ (hw _ (List.mem_of_getElem? (i := 46) rfl)) (hw _ (List.mem_of_getElem? (i := 7) rfl)) (by decide) (by decide)) q17a q17c (g := (mkF m 84 #[.val (.int p0), .val (.int p1), .val (.int p2), .val (.int p3), .val (.int p4), .val (.int p5), .val (.int z3), .val (.int z9), .val (.int c17_z58), .val (.int c27_z58), .val (.ref rb3_b1), .val (.int (0 : Int32)), .unset, .unset, .unset, .unset, .unset, .unset, .unset, .unset, .unset] [(.ref rb3_b1), (.int c27_z58)])) rfl (by rw [hml]; rfl) (Steps.refl _) (argsL := []) (rest := [(.int c27_z58)]) (lenOf pd_4 rfl) rfl (by show 2 * 0 + _ ≤ _; exact Nat.le_of_eq rfl) (hb hby at_84) (fun _ _ => ⟨rfl, e7, (by decide : 1 + 0 ≤ _), (by decide : 4 + 0 ≤ _)⟩)
      dsimp only [Pt.U, Pt.locs, Pt.cells, Pt.slots] at X17 ql17 qy17 qz17 st17 hQ17
      subst ql17 qy17 qz17
      obtain ⟨rfl, N17q, e17⟩ := hQ17
      have N17 := Fr.app N7 N17q
      have c18 : ∀ t, Steps p.tables e below (T17.setTop (mkF m 87 #[.val (.int p0), .val (.int p1), .val (.int p2), .val (.int p3), .val (.int p4), .val (.int p5), .val (.int z3), .val (.int z9), .val (.int c17_z58), .val (.int c27_z58), .val (.ref rb3_b1), .val (.int (0 : Int32)), .unset, .unset, .unset, .unset, .unset, .unset, .unset, .unset, .unset] [(.int c38_c25_rv), (.int c27_z58)])) t → Steps p.tables e below (s₁.setTop (entryFrame m #[(.int p0), (.int p1), (.int p2), (.int p3), (.int p4), (.int p5)] maxLocals)) t := by
        intro t k
        refine c8 t ?_
        show Steps p.tables e below (T7.setTop (mkF m 77 #[.val (.int p0), .val (.int p1), .val (.int p2), .val (.int p3), .val (.int p4), .val (.int p5), .val (.int z3), .val (.int z9), .val (.int c17_z58), .val (.int c27_z58), .val (.ref rb3_b1), .val (.int (0 : Int32)), .unset, .unset, .unset, .unset, .unset, .unset, .unset, .unset, .unset] [(.int c27_z58), (.int c38_c11_rv)])) _
        refine XS.icmpNo X7.here hx rfl (hb hby at_77) rfl (Jvm.Free.XT.ii_gt_f hb77) ?_
        show Steps p.tables e below (T7.setTop (mkF m 80 #[.val (.int p0), .val (.int p1), .val (.int p2), .val (.int p3), .val (.int p4), .val (.int p5), .val (.int z3), .val (.int z9), .val (.int c17_z58), .val (.int c27_z58), .val (.ref rb3_b1), .val (.int (0 : Int32)), .unset, .unset, .unset, .unset, .unset, .unset, .unset, .unset, .unset] [])) _
        refine XS.iload X7.here hx rfl (hb hby at_80) rfl ?_
        show Steps p.tables e below (T7.setTop (mkF m 82 #[.val (.int p0), .val (.int p1), .val (.int p2), .val (.int p3), .val (.int p4), .val (.int p5), .val (.int z3), .val (.int z9), .val (.int c17_z58), .val (.int c27_z58), .val (.ref rb3_b1), .val (.int (0 : Int32)), .unset, .unset, .unset, .unset, .unset, .unset, .unset, .unset, .unset] [(.int c27_z58)])) _
        refine XS.aload X7.here hx rfl (hb hby at_82) rfl rfl ?_
        show Steps p.tables e below (T7.setTop (mkF m 84 #[.val (.int p0), .val (.int p1), .val (.int p2), .val (.int p3), .val (.int p4), .val (.int p5), .val (.int z3), .val (.int z9), .val (.int c17_z58), .val (.int c27_z58), .val (.ref rb3_b1), .val (.int (0 : Int32)), .unset, .unset, .unset, .unset, .unset, .unset, .unset, .unset, .unset] [(.ref rb3_b1), (.int c27_z58)])) _
        refine st17.trans ?_
        exact k
      by_cases hb87 : c27_z58 < c38_c25_rv
      · skip
        obtain ⟨c102_z1, hc102_z1⟩ : ∃ z : Int64, c17_z58.toInt64 = z := ⟨_, rfl⟩
        obtain ⟨c102_z5, hc102_z5⟩ : ∃ z : Int64, p2.toInt64 = z := ⟨_, rfl⟩
        obtain ⟨c102_z6, hc102_z6⟩ : ∃ z : Int64, c102_z1 - c102_z5 = z := ⟨_, rfl⟩
        obtain ⟨c102_z11, hc102_z11⟩ : ∃ z : Int32, lcmpW (0 : Int64) c102_z1 = z := ⟨_, rfl⟩
        obtain ⟨c102_z17, hc102_z17⟩ : ∃ z : Int64, z3.toInt64 = z := ⟨_, rfl⟩
        obtain ⟨c102_z18, hc102_z18⟩ : ∃ z : Int32, lcmpW c102_z1 c102_z17 = z := ⟨_, rfl⟩
        obtain ⟨c102_z25, hc102_z25⟩ : ∃ z : Int32, lcmpW (0 : Int64) c102_z6 = z := ⟨_, rfl⟩
        obtain ⟨c102_z32, hc102_z32⟩ : ∃ z : Int64, z3.toInt64 = z := ⟨_, rfl⟩
        obtain ⟨c102_z33, hc102_z33⟩ : ∃ z : Int32, lcmpW c102_z6 c102_z32 = z := ⟨_, rfl⟩
        obtain ⟨c102_rv, hc102_rv⟩ : ∃ z : Int32, (if (0 : Int32) < c102_z11 then (0 : Int32) else (if c102_z18 < (0 : Int32) then (if (0 : Int32) < c102_z25 then (0 : Int32) else (if c102_z33 < (0 : Int32) then (1 : Int32) else (0 : Int32))) else (0 : Int32))) = z := ⟨_, rfl⟩
        obtain ⟨c112_z1, hc112_z1⟩ : ∃ z : Int64, c27_z58.toInt64 = z := ⟨_, rfl⟩
        obtain ⟨c112_z5, hc112_z5⟩ : ∃ z : Int64, p3.toInt64 = z := ⟨_, rfl⟩
        obtain ⟨c112_z6, hc112_z6⟩ : ∃ z : Int64, c112_z1 - c112_z5 = z := ⟨_, rfl⟩
        obtain ⟨c112_z11, hc112_z11⟩ : ∃ z : Int32, lcmpW (0 : Int64) c112_z1 = z := ⟨_, rfl⟩
        obtain ⟨c112_z17, hc112_z17⟩ : ∃ z : Int64, z9.toInt64 = z := ⟨_, rfl⟩
        obtain ⟨c112_z18, hc112_z18⟩ : ∃ z : Int32, lcmpW c112_z1 c112_z17 = z := ⟨_, rfl⟩
        obtain ⟨c112_z25, hc112_z25⟩ : ∃ z : Int32, lcmpW (0 : Int64) c112_z6 = z := ⟨_, rfl⟩
        obtain ⟨c112_z32, hc112_z32⟩ : ∃ z : Int64, z9.toInt64 = z := ⟨_, rfl⟩
        obtain ⟨c112_z33, hc112_z33⟩ : ∃ z : Int32, lcmpW c112_z6 c112_z32 = z := ⟨_, rfl⟩
        obtain ⟨c112_rv, hc112_rv⟩ : ∃ z : Int32, (if (0 : Int32) < c112_z11 then (0 : Int32) else (if c112_z18 < (0 : Int32) then (if (0 : Int32) < c112_z25 then (0 : Int32) else (if c112_z33 < (0 : Int32) then (1 : Int32) else (0 : Int32))) else (0 : Int32))) = z := ⟨_, rfl⟩
        obtain ⟨z120, hz120⟩ : ∃ z : Int64, z3.toInt64 = z := ⟨_, rfl⟩
        obtain ⟨z122, hz122⟩ : ∃ z : Int64, p2.toInt64 = z := ⟨_, rfl⟩
        obtain ⟨c123_z2, hc123_z2⟩ : ∃ z : Int32, lcmpW z122 (0 : Int64) = z := ⟨_, rfl⟩
        obtain ⟨c123_z7, hc123_z7⟩ : ∃ z : Int64, -z122 = z := ⟨_, rfl⟩
        obtain ⟨c123_rv, hc123_rv⟩ : ∃ z : Int64, (if c123_z2 < (0 : Int32) then c123_z7 else z122) = z := ⟨_, rfl⟩
        obtain ⟨z126, hz126⟩ : ∃ z : Int64, z120 - c123_rv = z := ⟨_, rfl⟩
        obtain ⟨c127_z2, hc127_z2⟩ : ∃ z : Int32, lcmpW (0 : Int64) z126 = z := ⟨_, rfl⟩
        obtain ⟨c127_rv, hc127_rv⟩ : ∃ z : Int64, (if c127_z2 < (0 : Int32) then z126 else (0 : Int64)) = z := ⟨_, rfl⟩
        obtain ⟨z135, hz135⟩ : ∃ z : Int64, z9.toInt64 = z := ⟨_, rfl⟩
        obtain ⟨z137, hz137⟩ : ∃ z : Int64, p3.toInt64 = z := ⟨_, rfl⟩
        obtain ⟨c138_z2, hc138_z2⟩ : ∃ z : Int32, lcmpW z137 (0 : Int64) = z := ⟨_, rfl⟩
        obtain ⟨c138_z7, hc138_z7⟩ : ∃ z : Int64, -z137 = z := ⟨_, rfl⟩
        obtain ⟨c138_rv, hc138_rv⟩ : ∃ z : Int64, (if c138_z2 < (0 : Int32) then c138_z7 else z137) = z := ⟨_, rfl⟩
        obtain ⟨z141, hz141⟩ : ∃ z : Int64, z135 - c138_rv = z := ⟨_, rfl⟩
        obtain ⟨c142_z2, hc142_z2⟩ : ∃ z : Int32, lcmpW (0 : Int64) z141 = z := ⟨_, rfl⟩
        obtain ⟨c142_rv, hc142_rv⟩ : ∃ z : Int64, (if c142_z2 < (0 : Int32) then z141 else (0 : Int64)) = z := ⟨_, rfl⟩
        obtain ⟨z151, hz151⟩ : ∃ z : Int64, c127_rv * c142_rv = z := ⟨_, rfl⟩
        obtain ⟨z152, hz152⟩ : ∃ z : UInt64, FP.l2d z151 = z := ⟨_, rfl⟩
        obtain ⟨c171_z30, hc171_z30⟩ : ∃ z : Int32, c38_c18_rv - c38_c6_rv = z := ⟨_, rfl⟩
        obtain ⟨c171_z31, hc171_z31⟩ : ∃ z : UInt64, FP.i2d c171_z30 = z := ⟨_, rfl⟩
        obtain ⟨c171_z40, hc171_z40⟩ : ∃ z : Int32, c38_c25_rv - c38_c11_rv = z := ⟨_, rfl⟩
        obtain ⟨c171_z41, hc171_z41⟩ : ∃ z : UInt64, FP.i2d c171_z40 = z := ⟨_, rfl⟩
        obtain ⟨c171_z42, hc171_z42⟩ : ∃ z : UInt64, FP.dmul c171_z31 c171_z41 = z := ⟨_, rfl⟩
        obtain ⟨c171_rv, hc171_rv⟩ : ∃ z : UInt64, (if c38_c6_rv < c38_c18_rv then (if c38_c11_rv < c38_c25_rv then c171_z42 else FP.dconst0) else FP.dconst0) = z := ⟨_, rfl⟩
        obtain ⟨z176, hz176⟩ : ∃ z : Int32, cmpValue (FP.dcmp c171_rv z152) .l = z := ⟨_, rfl⟩
        obtain ⟨_, _, ⟨T19, L19, k19, n19⟩, -, X19, ⟨Lc19, hQ19, ql19, qy19, qz19⟩, st19⟩ := Jvm.LawKit.callS X17 hx (y := (⟨"com/example/vetrino/vetrino/OverlapOfPinLaw", "meets", "(III)Z"⟩ : MethodName)) hown (mvT hZ (hw _ (List.mem_of_getElem? (i := 47) rfl))) (mvT hZ (hw _ (List.mem_of_getElem? (i := 48) rfl))) (mvT hZ (hw _ (List.mem_of_getElem? (i := 3) rfl))) (mvT hZ (hw _ (List.mem_of_getElem? (i := 49) rfl))) (by decide) (backOf (W := 0) (rm10 l Z a0 hw [] c17_z58 p2 z3 c102_z1 c102_z5 c102_z6 c102_z11 c102_z17 c102_z18 c102_z25 c102_z32 c102_z33 c102_rv T3.heap n0 (Nat.le_trans Z0 K3q.1) hc102_z1 hc102_z5 hc102_z6 hc102_z11 hc102_z17 hc102_z18 hc102_z25 hc102_z32 hc102_z33 hc102_rv) hZ (hw _ (List.mem_of_getElem? (i := 49) rfl)) (hw _ (List.mem_of_getElem? (i := 3) rfl)) (by decide) (by decide)) (g := (mkF m 102 #[.val (.int p0), .val (.int p1), .val (.int p2), .val (.int p3), .val (.int p4), .val (.int p5), .val (.int z3), .val (.int z9), .val (.int c17_z58), .val (.int c27_z58), .val (.ref rb3_b1), .val (.int (0 : Int32)), .val (.int (1 : Int32)), .unset, .unset, .unset, .unset, .unset, .unset, .unset, .unset] [(.int z3), (.int p2), (.int c17_z58)])) rfl (by rw [hml]; rfl) (argsL := [(.int c17_z58), (.int p2), (.int z3)]) (rest := []) (lenOf pd_5 rfl) rfl (by show 2 * 0 + _ ≤ _; exact Nat.le_of_eq rfl) (hb hby at_102) (fun _ _ => ⟨rfl, e17, (by decide : 1 + 0 ≤ _), (by decide : 4 + 0 ≤ _)⟩)
        dsimp only [Pt.U, Pt.locs, Pt.cells, Pt.slots] at X19 ql19 qy19 qz19 st19 hQ19
        subst ql19 qy19 qz19
        obtain ⟨rfl, N19q, e19⟩ := hQ19
        have N19 := Fr.app N17 N19q
        obtain ⟨_, _, ⟨T20, L20, k20, n20⟩, -, X20, ⟨Lc20, hQ20, ql20, qy20, qz20⟩, st20⟩ := Jvm.LawKit.callS X19 hx (y := (⟨"com/example/vetrino/vetrino/OverlapOfPinLaw", "meets", "(III)Z"⟩ : MethodName)) hown (mvT hZ (hw _ (List.mem_of_getElem? (i := 47) rfl))) (mvT hZ (hw _ (List.mem_of_getElem? (i := 48) rfl))) (mvT hZ (hw _ (List.mem_of_getElem? (i := 3) rfl))) (mvT hZ (hw _ (List.mem_of_getElem? (i := 49) rfl))) (by decide) (backOf (W := 0) (rm10 l Z a0 hw [] c27_z58 p3 z9 c112_z1 c112_z5 c112_z6 c112_z11 c112_z17 c112_z18 c112_z25 c112_z32 c112_z33 c112_rv T3.heap n0 (Nat.le_trans Z0 K3q.1) hc112_z1 hc112_z5 hc112_z6 hc112_z11 hc112_z17 hc112_z18 hc112_z25 hc112_z32 hc112_z33 hc112_rv) hZ (hw _ (List.mem_of_getElem? (i := 49) rfl)) (hw _ (List.mem_of_getElem? (i := 3) rfl)) (by decide) (by decide)) (g := (mkF m 112 #[.val (.int p0), .val (.int p1), .val (.int p2), .val (.int p3), .val (.int p4), .val (.int p5), .val (.int z3), .val (.int z9), .val (.int c17_z58), .val (.int c27_z58), .val (.ref rb3_b1), .val (.int (0 : Int32)), .val (.int (1 : Int32)), .val (.int c102_rv), .unset, .unset, .unset, .unset, .unset, .unset, .unset] [(.int z9), (.int p3), (.int c27_z58)])) rfl (by rw [hml]; rfl) (argsL := [(.int c27_z58), (.int p3), (.int z9)]) (rest := []) (lenOf pd_5 rfl) rfl (by show 2 * 0 + _ ≤ _; exact Nat.le_of_eq rfl) (hb hby at_112) (fun _ _ => ⟨rfl, e19, (by decide : 1 + 0 ≤ _), (by decide : 4 + 0 ≤ _)⟩)
        dsimp only [Pt.U, Pt.locs, Pt.cells, Pt.slots] at X20 ql20 qy20 qz20 st20 hQ20
        subst ql20 qy20 qz20
        obtain ⟨rfl, N20q, e20⟩ := hQ20
        have N20 := Fr.app N19 N20q
        obtain ⟨_, _, ⟨T21, L21, k21, n21⟩, -, X21, ⟨Lc21, hQ21, ql21, qy21, qz21⟩, st21⟩ := Jvm.LawKit.callS X20 hx (y := (⟨"java/lang/Math", "abs", "(J)J"⟩ : MethodName)) hown (mvT hZ (hw _ (List.mem_of_getElem? (i := 50) rfl))) (mvT hZ (hw _ (List.mem_of_getElem? (i := 51) rfl))) (mvT hZ (hw _ (List.mem_of_getElem? (i := 13) rfl))) (mvT hZ (hw _ (List.mem_of_getElem? (i := 52) rfl))) (by decide) (backOf (W := 4) (rm11 l Z a0 hw [] z122 c123_z2 c123_z7 c123_rv T3.heap n0 (Nat.le_trans Z0 K3q.1) hc123_z2 hc123_z7 hc123_rv) hZ (hw _ (List.mem_of_getElem? (i := 52) rfl)) (hw _ (List.mem_of_getElem? (i := 13) rfl)) (by decide) (by decide)) (g := (mkF m 123 #[.val (.int p0), .val (.int p1), .val (.int p2), .val (.int p3), .val (.int p4), .val (.int p5), .val (.int z3), .val (.int z9), .val (.int c17_z58), .val (.int c27_z58), .val (.ref rb3_b1), .val (.int (0 : Int32)), .val (.int (1 : Int32)), .val (.int c102_rv), .val (.int c112_rv), .unset, .unset, .unset, .unset, .unset, .unset] [(.long z122), (.long z120), (.long (0 : Int64))])) rfl (by rw [hml]; rfl) (argsL := [(.long z122)]) (rest := [(.long z120), (.long (0 : Int64))]) (lenOf pd_6 rfl) rfl (by show 2 * 0 + _ ≤ _; exact Nat.le_of_eq rfl) (hb hby at_123) (fun _ _ => ⟨rfl, e20, (by decide : 1 + 0 ≤ _), (by decide : 4 + 0 ≤ _)⟩)
        dsimp only [Pt.U, Pt.locs, Pt.cells, Pt.slots] at X21 ql21 qy21 qz21 st21 hQ21
        subst ql21 qy21 qz21
        obtain ⟨rfl, N21q, e21⟩ := hQ21
        have N21 := Fr.app N20 N21q
        obtain ⟨_, _, ⟨T22, L22, k22, n22⟩, -, X22, ⟨Lc22, hQ22, ql22, qy22, qz22⟩, st22⟩ := Jvm.LawKit.callS X21 hx (y := (⟨"java/lang/Math", "max", "(JJ)J"⟩ : MethodName)) hown (mvT hZ (hw _ (List.mem_of_getElem? (i := 53) rfl))) (mvT hZ (hw _ (List.mem_of_getElem? (i := 54) rfl))) (mvT hZ (hw _ (List.mem_of_getElem? (i := 13) rfl))) (mvT hZ (hw _ (List.mem_of_getElem? (i := 55) rfl))) (by decide) (backOf (W := 0) (rm12 l Z a0 hw [] (0 : Int64) z126 c127_z2 c127_rv T3.heap n0 (Nat.le_trans Z0 K3q.1) hc127_z2 hc127_rv) hZ (hw _ (List.mem_of_getElem? (i := 55) rfl)) (hw _ (List.mem_of_getElem? (i := 13) rfl)) (by decide) (by decide)) (g := (mkF m 127 #[.val (.int p0), .val (.int p1), .val (.int p2), .val (.int p3), .val (.int p4), .val (.int p5), .val (.int z3), .val (.int z9), .val (.int c17_z58), .val (.int c27_z58), .val (.ref rb3_b1), .val (.int (0 : Int32)), .val (.int (1 : Int32)), .val (.int c102_rv), .val (.int c112_rv), .unset, .unset, .unset, .unset, .unset, .unset] [(.long z126), (.long (0 : Int64))])) rfl (by rw [hml]; rfl) (argsL := [(.long (0 : Int64)), (.long z126)]) (rest := []) (lenOf pd_7 rfl) rfl (by show 2 * 0 + _ ≤ _; exact Nat.le_of_eq rfl) (hb hby at_127) (fun _ _ => ⟨rfl, e21, (by decide : 1 + 0 ≤ _), (by decide : 4 + 0 ≤ _)⟩)
        dsimp only [Pt.U, Pt.locs, Pt.cells, Pt.slots] at X22 ql22 qy22 qz22 st22 hQ22
        subst ql22 qy22 qz22
        obtain ⟨rfl, N22q, e22⟩ := hQ22
        have N22 := Fr.app N21 N22q
        obtain ⟨_, _, ⟨T23, L23, k23, n23⟩, -, X23, ⟨Lc23, hQ23, ql23, qy23, qz23⟩, st23⟩ := Jvm.LawKit.callS X22 hx (y := (⟨"java/lang/Math", "abs", "(J)J"⟩ : MethodName)) hown (mvT hZ (hw _ (List.mem_of_getElem? (i := 50) rfl))) (mvT hZ (hw _ (List.mem_of_getElem? (i := 51) rfl))) (mvT hZ (hw _ (List.mem_of_getElem? (i := 13) rfl))) (mvT hZ (hw _ (List.mem_of_getElem? (i := 52) rfl))) (by decide) (backOf (W := 4) (rm11 l Z a0 hw [] z137 c138_z2 c138_z7 c138_rv T3.heap n0 (Nat.le_trans Z0 K3q.1) hc138_z2 hc138_z7 hc138_rv) hZ (hw _ (List.mem_of_getElem? (i := 52) rfl)) (hw _ (List.mem_of_getElem? (i := 13) rfl)) (by decide) (by decide)) (g := (mkF m 138 #[.val (.int p0), .val (.int p1), .val (.int p2), .val (.int p3), .val (.int p4), .val (.int p5), .val (.int z3), .val (.int z9), .val (.int c17_z58), .val (.int c27_z58), .val (.ref rb3_b1), .val (.int (0 : Int32)), .val (.int (1 : Int32)), .val (.int c102_rv), .val (.int c112_rv), .val (.long c127_rv), .second, .unset, .unset, .unset, .unset] [(.long z137), (.long z135), (.long (0 : Int64))])) rfl (by rw [hml]; rfl) (argsL := [(.long z137)]) (rest := [(.long z135), (.long (0 : Int64))]) (lenOf pd_6 rfl) rfl (by show 2 * 0 + _ ≤ _; exact Nat.le_of_eq rfl) (hb hby at_138) (fun _ _ => ⟨rfl, e22, (by decide : 1 + 0 ≤ _), (by decide : 4 + 0 ≤ _)⟩)
        dsimp only [Pt.U, Pt.locs, Pt.cells, Pt.slots] at X23 ql23 qy23 qz23 st23 hQ23
        subst ql23 qy23 qz23
        obtain ⟨rfl, N23q, e23⟩ := hQ23
        have N23 := Fr.app N22 N23q
        obtain ⟨_, _, ⟨T24, L24, k24, n24⟩, -, X24, ⟨Lc24, hQ24, ql24, qy24, qz24⟩, st24⟩ := Jvm.LawKit.callS X23 hx (y := (⟨"java/lang/Math", "max", "(JJ)J"⟩ : MethodName)) hown (mvT hZ (hw _ (List.mem_of_getElem? (i := 53) rfl))) (mvT hZ (hw _ (List.mem_of_getElem? (i := 54) rfl))) (mvT hZ (hw _ (List.mem_of_getElem? (i := 13) rfl))) (mvT hZ (hw _ (List.mem_of_getElem? (i := 55) rfl))) (by decide) (backOf (W := 0) (rm12 l Z a0 hw [] (0 : Int64) z141 c142_z2 c142_rv T3.heap n0 (Nat.le_trans Z0 K3q.1) hc142_z2 hc142_rv) hZ (hw _ (List.mem_of_getElem? (i := 55) rfl)) (hw _ (List.mem_of_getElem? (i := 13) rfl)) (by decide) (by decide)) (g := (mkF m 142 #[.val (.int p0), .val (.int p1), .val (.int p2), .val (.int p3), .val (.int p4), .val (.int p5), .val (.int z3), .val (.int z9), .val (.int c17_z58), .val (.int c27_z58), .val (.ref rb3_b1), .val (.int (0 : Int32)), .val (.int (1 : Int32)), .val (.int c102_rv), .val (.int c112_rv), .val (.long c127_rv), .second, .unset, .unset, .unset, .unset] [(.long z141), (.long (0 : Int64))])) rfl (by rw [hml]; rfl) (argsL := [(.long (0 : Int64)), (.long z141)]) (rest := []) (lenOf pd_7 rfl) rfl (by show 2 * 0 + _ ≤ _; exact Nat.le_of_eq rfl) (hb hby at_142) (fun _ _ => ⟨rfl, e23, (by decide : 1 + 0 ≤ _), (by decide : 4 + 0 ≤ _)⟩)
        dsimp only [Pt.U, Pt.locs, Pt.cells, Pt.slots] at X24 ql24 qy24 qz24 st24 hQ24
        subst ql24 qy24 qz24
        obtain ⟨rfl, N24q, e24⟩ := hQ24
        have N24 := Fr.app N23 N24q
        have br159 : (0 : Int32) = c102_rv := by
          rw [meet hA hc38_z17 hc38_c6_rv hc38_c18_rv hc102_z1 hc102_z5 hc102_z6 hc102_z11 hc102_z17 hc102_z18 hc102_z25 hc102_z32 hc102_z33 hc102_rv, if_pos hb50]
        have br166 : (1 : Int32) = c112_rv := by
          rw [meet hB hc38_z24 hc38_c11_rv hc38_c25_rv hc112_z1 hc112_z5 hc112_z6 hc112_z11 hc112_z17 hc112_z18 hc112_z25 hc112_z32 hc112_z33 hc112_rv, if_neg hb77, if_pos hb87]
        obtain ⟨c171_nn42, fin⟩ := area (side hA hc38_z17 hc38_c6_rv hc38_c18_rv hz120 hz122 hc123_z2 hc123_z7 hc123_rv hz126 hc127_z2 hc127_rv) (side hB hc38_z24 hc38_c11_rv hc38_c25_rv hz135 hz137 hc138_z2 hc138_z7 hc138_rv hz141 hc142_z2 hc142_rv) hc171_z30 hc171_z40 hc171_z31 hc171_z41 hc171_z42 hz151 hz152 hc171_rv
        obtain ⟨cq25, kq25, q25a, q25b, q25c⟩ := isOf hZ e24 Q3_0
        obtain ⟨_, _, ⟨T25, L25, k25, n25⟩, -, X25, ⟨Lc25, hQ25, ql25, qy25, qz25⟩, st25⟩ := X24.virtualBack hx (y := (⟨"com/example/vetrino/vetrino/Overlap", "area", "()D"⟩ : MethodName)) (z := (⟨"com/example/vetrino/vetrino/Overlap", "area", "()D"⟩ : MethodName)) hown (mvT hZ (hw _ (List.mem_of_getElem? (i := 56) rfl))) (mvT hZ (hw _ (List.mem_of_getElem? (i := 57) rfl))) (notFace_of_selects (args := #[]) (mvT hZ (hw _ (List.mem_of_getElem? (i := 59) rfl)))) (mvT hZ (hw _ (List.mem_of_getElem? (i := 59) rfl))) (mvT hZ (hw _ (List.mem_of_getElem? (i := 58) rfl))) (by decide) (backOf (W := 0) (rm13 l Z a0 hw [] rb3_b1 c38_c18_rv c38_c6_rv c38_c25_rv c38_c11_rv c171_z30 c171_z31 c171_z40 c171_z41 c171_z42 c171_rv T3.heap n0 (Nat.le_trans Z0 K3q.1) Q3_3 Q3_1 Q3_4 Q3_2 hc171_z30 hc171_z31 hc171_z40 hc171_z41 hc171_z42 hc171_rv c171_nn42) hZ (hw _ (List.mem_of_getElem? (i := 60) rfl)) (hw _ (List.mem_of_getElem? (i := 7) rfl)) (by decide) (by decide)) q25a q25c (g := (mkF m 171 #[.val (.int p0), .val (.int p1), .val (.int p2), .val (.int p3), .val (.int p4), .val (.int p5), .val (.int z3), .val (.int z9), .val (.int c17_z58), .val (.int c27_z58), .val (.ref rb3_b1), .val (.int (0 : Int32)), .val (.int (1 : Int32)), .val (.int c102_rv), .val (.int c112_rv), .val (.long c127_rv), .second, .val (.long c142_rv), .second, .val (.double z152), .second] [(.ref rb3_b1)])) rfl (by rw [hml]; rfl) (Steps.refl _) (argsL := []) (rest := []) (lenOf pd_8 rfl) rfl (by show 2 * 0 + _ ≤ _; exact Nat.le_of_eq rfl) (hb hby at_171) (fun _ _ => ⟨rfl, e24, (by decide : 1 + 0 ≤ _), (by decide : 4 + 0 ≤ _)⟩)
        dsimp only [Pt.U, Pt.locs, Pt.cells, Pt.slots] at X25 ql25 qy25 qz25 st25 hQ25
        subst ql25 qy25 qz25
        obtain ⟨rfl, N25q, e25⟩ := hQ25
        have N25 := Fr.app N24 N25q
        have br177 : z176 = 0 := hz176.symm.trans fin
        have c26 : ∀ t, Steps p.tables e below (T25.setTop (mkF m 185 #[.val (.int p0), .val (.int p1), .val (.int p2), .val (.int p3), .val (.int p4), .val (.int p5), .val (.int z3), .val (.int z9), .val (.int c17_z58), .val (.int c27_z58), .val (.ref rb3_b1), .val (.int (0 : Int32)), .val (.int (1 : Int32)), .val (.int c102_rv), .val (.int c112_rv), .val (.long c127_rv), .second, .val (.long c142_rv), .second, .val (.double z152), .second] [(.int (1 : Int32))])) t → Steps p.tables e below (s₁.setTop (entryFrame m #[(.int p0), (.int p1), (.int p2), (.int p3), (.int p4), (.int p5)] maxLocals)) t := by
          intro t k
          refine c18 t ?_
          show Steps p.tables e below (T17.setTop (mkF m 87 #[.val (.int p0), .val (.int p1), .val (.int p2), .val (.int p3), .val (.int p4), .val (.int p5), .val (.int z3), .val (.int z9), .val (.int c17_z58), .val (.int c27_z58), .val (.ref rb3_b1), .val (.int (0 : Int32)), .unset, .unset, .unset, .unset, .unset, .unset, .unset, .unset, .unset] [(.int c38_c25_rv), (.int c27_z58)])) _
          refine XS.icmpNo X17.here hx rfl (hb hby at_87) rfl (Jvm.Free.XT.ii_ge_f hb87) ?_
          show Steps p.tables e below (T17.setTop (mkF m 90 #[.val (.int p0), .val (.int p1), .val (.int p2), .val (.int p3), .val (.int p4), .val (.int p5), .val (.int z3), .val (.int z9), .val (.int c17_z58), .val (.int c27_z58), .val (.ref rb3_b1), .val (.int (0 : Int32)), .unset, .unset, .unset, .unset, .unset, .unset, .unset, .unset, .unset] [])) _
          refine XS.iconst X17.here hx rfl (hb hby at_90) ?_
          show Steps p.tables e below (T17.setTop (mkF m 91 #[.val (.int p0), .val (.int p1), .val (.int p2), .val (.int p3), .val (.int p4), .val (.int p5), .val (.int z3), .val (.int z9), .val (.int c17_z58), .val (.int c27_z58), .val (.ref rb3_b1), .val (.int (0 : Int32)), .unset, .unset, .unset, .unset, .unset, .unset, .unset, .unset, .unset] [(.int (1 : Int32))])) _
          refine XS.goto X17.here hx rfl (pc0 := 91) (pc' := 95) rfl (hb hby at_91) (by decide) (by decide) ?_
          show Steps p.tables e below (T17.setTop (mkF m 95 #[.val (.int p0), .val (.int p1), .val (.int p2), .val (.int p3), .val (.int p4), .val (.int p5), .val (.int z3), .val (.int z9), .val (.int c17_z58), .val (.int c27_z58), .val (.ref rb3_b1), .val (.int (0 : Int32)), .unset, .unset, .unset, .unset, .unset, .unset, .unset, .unset, .unset] [(.int (1 : Int32))])) _
          refine XS.istore X17.here hx rfl (hb hby at_95) rfl (l' := #[.val (.int p0), .val (.int p1), .val (.int p2), .val (.int p3), .val (.int p4), .val (.int p5), .val (.int z3), .val (.int z9), .val (.int c17_z58), .val (.int c27_z58), .val (.ref rb3_b1), .val (.int (0 : Int32)), .val (.int (1 : Int32)), .unset, .unset, .unset, .unset, .unset, .unset, .unset, .unset]) rfl ?_
          show Steps p.tables e below (T17.setTop (mkF m 97 #[.val (.int p0), .val (.int p1), .val (.int p2), .val (.int p3), .val (.int p4), .val (.int p5), .val (.int z3), .val (.int z9), .val (.int c17_z58), .val (.int c27_z58), .val (.ref rb3_b1), .val (.int (0 : Int32)), .val (.int (1 : Int32)), .unset, .unset, .unset, .unset, .unset, .unset, .unset, .unset] [])) _
          refine XS.iload X17.here hx rfl (hb hby at_97) rfl ?_
          show Steps p.tables e below (T17.setTop (mkF m 99 #[.val (.int p0), .val (.int p1), .val (.int p2), .val (.int p3), .val (.int p4), .val (.int p5), .val (.int z3), .val (.int z9), .val (.int c17_z58), .val (.int c27_z58), .val (.ref rb3_b1), .val (.int (0 : Int32)), .val (.int (1 : Int32)), .unset, .unset, .unset, .unset, .unset, .unset, .unset, .unset] [(.int c17_z58)])) _
          refine XS.iloadN X17.here hx rfl (hb hby at_99) rfl ?_
          show Steps p.tables e below (T17.setTop (mkF m 100 #[.val (.int p0), .val (.int p1), .val (.int p2), .val (.int p3), .val (.int p4), .val (.int p5), .val (.int z3), .val (.int z9), .val (.int c17_z58), .val (.int c27_z58), .val (.ref rb3_b1), .val (.int (0 : Int32)), .val (.int (1 : Int32)), .unset, .unset, .unset, .unset, .unset, .unset, .unset, .unset] [(.int p2), (.int c17_z58)])) _
          refine XS.iload X17.here hx rfl (hb hby at_100) rfl ?_
          show Steps p.tables e below (T17.setTop (mkF m 102 #[.val (.int p0), .val (.int p1), .val (.int p2), .val (.int p3), .val (.int p4), .val (.int p5), .val (.int z3), .val (.int z9), .val (.int c17_z58), .val (.int c27_z58), .val (.ref rb3_b1), .val (.int (0 : Int32)), .val (.int (1 : Int32)), .unset, .unset, .unset, .unset, .unset, .unset, .unset, .unset] [(.int z3), (.int p2), (.int c17_z58)])) _
          refine st19 _ ?_
          show Steps p.tables e below (T19.setTop (mkF m 105 #[.val (.int p0), .val (.int p1), .val (.int p2), .val (.int p3), .val (.int p4), .val (.int p5), .val (.int z3), .val (.int z9), .val (.int c17_z58), .val (.int c27_z58), .val (.ref rb3_b1), .val (.int (0 : Int32)), .val (.int (1 : Int32)), .unset, .unset, .unset, .unset, .unset, .unset, .unset, .unset] [(.int c102_rv)])) _
          refine XS.istore X19.here hx rfl (hb hby at_105) rfl (l' := #[.val (.int p0), .val (.int p1), .val (.int p2), .val (.int p3), .val (.int p4), .val (.int p5), .val (.int z3), .val (.int z9), .val (.int c17_z58), .val (.int c27_z58), .val (.ref rb3_b1), .val (.int (0 : Int32)), .val (.int (1 : Int32)), .val (.int c102_rv), .unset, .unset, .unset, .unset, .unset, .unset, .unset]) rfl ?_
          show Steps p.tables e below (T19.setTop (mkF m 107 #[.val (.int p0), .val (.int p1), .val (.int p2), .val (.int p3), .val (.int p4), .val (.int p5), .val (.int z3), .val (.int z9), .val (.int c17_z58), .val (.int c27_z58), .val (.ref rb3_b1), .val (.int (0 : Int32)), .val (.int (1 : Int32)), .val (.int c102_rv), .unset, .unset, .unset, .unset, .unset, .unset, .unset] [])) _
          refine XS.iload X19.here hx rfl (hb hby at_107) rfl ?_
          show Steps p.tables e below (T19.setTop (mkF m 109 #[.val (.int p0), .val (.int p1), .val (.int p2), .val (.int p3), .val (.int p4), .val (.int p5), .val (.int z3), .val (.int z9), .val (.int c17_z58), .val (.int c27_z58), .val (.ref rb3_b1), .val (.int (0 : Int32)), .val (.int (1 : Int32)), .val (.int c102_rv), .unset, .unset, .unset, .unset, .unset, .unset, .unset] [(.int c27_z58)])) _
          refine XS.iloadN X19.here hx rfl (hb hby at_109) rfl ?_
          show Steps p.tables e below (T19.setTop (mkF m 110 #[.val (.int p0), .val (.int p1), .val (.int p2), .val (.int p3), .val (.int p4), .val (.int p5), .val (.int z3), .val (.int z9), .val (.int c17_z58), .val (.int c27_z58), .val (.ref rb3_b1), .val (.int (0 : Int32)), .val (.int (1 : Int32)), .val (.int c102_rv), .unset, .unset, .unset, .unset, .unset, .unset, .unset] [(.int p3), (.int c27_z58)])) _
          refine XS.iload X19.here hx rfl (hb hby at_110) rfl ?_
          show Steps p.tables e below (T19.setTop (mkF m 112 #[.val (.int p0), .val (.int p1), .val (.int p2), .val (.int p3), .val (.int p4), .val (.int p5), .val (.int z3), .val (.int z9), .val (.int c17_z58), .val (.int c27_z58), .val (.ref rb3_b1), .val (.int (0 : Int32)), .val (.int (1 : Int32)), .val (.int c102_rv), .unset, .unset, .unset, .unset, .unset, .unset, .unset] [(.int z9), (.int p3), (.int c27_z58)])) _
          refine st20 _ ?_
          show Steps p.tables e below (T20.setTop (mkF m 115 #[.val (.int p0), .val (.int p1), .val (.int p2), .val (.int p3), .val (.int p4), .val (.int p5), .val (.int z3), .val (.int z9), .val (.int c17_z58), .val (.int c27_z58), .val (.ref rb3_b1), .val (.int (0 : Int32)), .val (.int (1 : Int32)), .val (.int c102_rv), .unset, .unset, .unset, .unset, .unset, .unset, .unset] [(.int c112_rv)])) _
          refine XS.istore X20.here hx rfl (hb hby at_115) rfl (l' := #[.val (.int p0), .val (.int p1), .val (.int p2), .val (.int p3), .val (.int p4), .val (.int p5), .val (.int z3), .val (.int z9), .val (.int c17_z58), .val (.int c27_z58), .val (.ref rb3_b1), .val (.int (0 : Int32)), .val (.int (1 : Int32)), .val (.int c102_rv), .val (.int c112_rv), .unset, .unset, .unset, .unset, .unset, .unset]) rfl ?_
          show Steps p.tables e below (T20.setTop (mkF m 117 #[.val (.int p0), .val (.int p1), .val (.int p2), .val (.int p3), .val (.int p4), .val (.int p5), .val (.int z3), .val (.int z9), .val (.int c17_z58), .val (.int c27_z58), .val (.ref rb3_b1), .val (.int (0 : Int32)), .val (.int (1 : Int32)), .val (.int c102_rv), .val (.int c112_rv), .unset, .unset, .unset, .unset, .unset, .unset] [])) _
          refine XS.lconst X20.here hx rfl (hb hby at_117) ?_
          show Steps p.tables e below (T20.setTop (mkF m 118 #[.val (.int p0), .val (.int p1), .val (.int p2), .val (.int p3), .val (.int p4), .val (.int p5), .val (.int z3), .val (.int z9), .val (.int c17_z58), .val (.int c27_z58), .val (.ref rb3_b1), .val (.int (0 : Int32)), .val (.int (1 : Int32)), .val (.int c102_rv), .val (.int c112_rv), .unset, .unset, .unset, .unset, .unset, .unset] [(.long (0 : Int64))])) _
          refine XS.iload X20.here hx rfl (hb hby at_118) rfl ?_
          show Steps p.tables e below (T20.setTop (mkF m 120 #[.val (.int p0), .val (.int p1), .val (.int p2), .val (.int p3), .val (.int p4), .val (.int p5), .val (.int z3), .val (.int z9), .val (.int c17_z58), .val (.int c27_z58), .val (.ref rb3_b1), .val (.int (0 : Int32)), .val (.int (1 : Int32)), .val (.int c102_rv), .val (.int c112_rv), .unset, .unset, .unset, .unset, .unset, .unset] [(.int z3), (.long (0 : Int64))])) _
          refine Jvm.OwnK.i2l X20.here hx rfl (hb hby at_120) rfl hz120 ?_
          show Steps p.tables e below (T20.setTop (mkF m 121 #[.val (.int p0), .val (.int p1), .val (.int p2), .val (.int p3), .val (.int p4), .val (.int p5), .val (.int z3), .val (.int z9), .val (.int c17_z58), .val (.int c27_z58), .val (.ref rb3_b1), .val (.int (0 : Int32)), .val (.int (1 : Int32)), .val (.int c102_rv), .val (.int c112_rv), .unset, .unset, .unset, .unset, .unset, .unset] [(.long z120), (.long (0 : Int64))])) _
          refine XS.iloadN X20.here hx rfl (hb hby at_121) rfl ?_
          show Steps p.tables e below (T20.setTop (mkF m 122 #[.val (.int p0), .val (.int p1), .val (.int p2), .val (.int p3), .val (.int p4), .val (.int p5), .val (.int z3), .val (.int z9), .val (.int c17_z58), .val (.int c27_z58), .val (.ref rb3_b1), .val (.int (0 : Int32)), .val (.int (1 : Int32)), .val (.int c102_rv), .val (.int c112_rv), .unset, .unset, .unset, .unset, .unset, .unset] [(.int p2), (.long z120), (.long (0 : Int64))])) _
          refine Jvm.OwnK.i2l X20.here hx rfl (hb hby at_122) rfl hz122 ?_
          show Steps p.tables e below (T20.setTop (mkF m 123 #[.val (.int p0), .val (.int p1), .val (.int p2), .val (.int p3), .val (.int p4), .val (.int p5), .val (.int z3), .val (.int z9), .val (.int c17_z58), .val (.int c27_z58), .val (.ref rb3_b1), .val (.int (0 : Int32)), .val (.int (1 : Int32)), .val (.int c102_rv), .val (.int c112_rv), .unset, .unset, .unset, .unset, .unset, .unset] [(.long z122), (.long z120), (.long (0 : Int64))])) _
          refine st21 _ ?_
          show Steps p.tables e below (T21.setTop (mkF m 126 #[.val (.int p0), .val (.int p1), .val (.int p2), .val (.int p3), .val (.int p4), .val (.int p5), .val (.int z3), .val (.int z9), .val (.int c17_z58), .val (.int c27_z58), .val (.ref rb3_b1), .val (.int (0 : Int32)), .val (.int (1 : Int32)), .val (.int c102_rv), .val (.int c112_rv), .unset, .unset, .unset, .unset, .unset, .unset] [(.long c123_rv), (.long z120), (.long (0 : Int64))])) _
          refine Jvm.OwnK.lsub X21.here hx rfl (hb hby at_126) rfl hz126 ?_
          show Steps p.tables e below (T21.setTop (mkF m 127 #[.val (.int p0), .val (.int p1), .val (.int p2), .val (.int p3), .val (.int p4), .val (.int p5), .val (.int z3), .val (.int z9), .val (.int c17_z58), .val (.int c27_z58), .val (.ref rb3_b1), .val (.int (0 : Int32)), .val (.int (1 : Int32)), .val (.int c102_rv), .val (.int c112_rv), .unset, .unset, .unset, .unset, .unset, .unset] [(.long z126), (.long (0 : Int64))])) _
          refine st22 _ ?_
          show Steps p.tables e below (T22.setTop (mkF m 130 #[.val (.int p0), .val (.int p1), .val (.int p2), .val (.int p3), .val (.int p4), .val (.int p5), .val (.int z3), .val (.int z9), .val (.int c17_z58), .val (.int c27_z58), .val (.ref rb3_b1), .val (.int (0 : Int32)), .val (.int (1 : Int32)), .val (.int c102_rv), .val (.int c112_rv), .unset, .unset, .unset, .unset, .unset, .unset] [(.long c127_rv)])) _
          refine XS.lstore X22.here hx rfl (hb hby at_130) rfl (l' := #[.val (.int p0), .val (.int p1), .val (.int p2), .val (.int p3), .val (.int p4), .val (.int p5), .val (.int z3), .val (.int z9), .val (.int c17_z58), .val (.int c27_z58), .val (.ref rb3_b1), .val (.int (0 : Int32)), .val (.int (1 : Int32)), .val (.int c102_rv), .val (.int c112_rv), .val (.long c127_rv), .second, .unset, .unset, .unset, .unset]) rfl ?_
          show Steps p.tables e below (T22.setTop (mkF m 132 #[.val (.int p0), .val (.int p1), .val (.int p2), .val (.int p3), .val (.int p4), .val (.int p5), .val (.int z3), .val (.int z9), .val (.int c17_z58), .val (.int c27_z58), .val (.ref rb3_b1), .val (.int (0 : Int32)), .val (.int (1 : Int32)), .val (.int c102_rv), .val (.int c112_rv), .val (.long c127_rv), .second, .unset, .unset, .unset, .unset] [])) _
          refine XS.lconst X22.here hx rfl (hb hby at_132) ?_
          show Steps p.tables e below (T22.setTop (mkF m 133 #[.val (.int p0), .val (.int p1), .val (.int p2), .val (.int p3), .val (.int p4), .val (.int p5), .val (.int z3), .val (.int z9), .val (.int c17_z58), .val (.int c27_z58), .val (.ref rb3_b1), .val (.int (0 : Int32)), .val (.int (1 : Int32)), .val (.int c102_rv), .val (.int c112_rv), .val (.long c127_rv), .second, .unset, .unset, .unset, .unset] [(.long (0 : Int64))])) _
          refine XS.iload X22.here hx rfl (hb hby at_133) rfl ?_
          show Steps p.tables e below (T22.setTop (mkF m 135 #[.val (.int p0), .val (.int p1), .val (.int p2), .val (.int p3), .val (.int p4), .val (.int p5), .val (.int z3), .val (.int z9), .val (.int c17_z58), .val (.int c27_z58), .val (.ref rb3_b1), .val (.int (0 : Int32)), .val (.int (1 : Int32)), .val (.int c102_rv), .val (.int c112_rv), .val (.long c127_rv), .second, .unset, .unset, .unset, .unset] [(.int z9), (.long (0 : Int64))])) _
          refine Jvm.OwnK.i2l X22.here hx rfl (hb hby at_135) rfl hz135 ?_
          show Steps p.tables e below (T22.setTop (mkF m 136 #[.val (.int p0), .val (.int p1), .val (.int p2), .val (.int p3), .val (.int p4), .val (.int p5), .val (.int z3), .val (.int z9), .val (.int c17_z58), .val (.int c27_z58), .val (.ref rb3_b1), .val (.int (0 : Int32)), .val (.int (1 : Int32)), .val (.int c102_rv), .val (.int c112_rv), .val (.long c127_rv), .second, .unset, .unset, .unset, .unset] [(.long z135), (.long (0 : Int64))])) _
          refine XS.iloadN X22.here hx rfl (hb hby at_136) rfl ?_
          show Steps p.tables e below (T22.setTop (mkF m 137 #[.val (.int p0), .val (.int p1), .val (.int p2), .val (.int p3), .val (.int p4), .val (.int p5), .val (.int z3), .val (.int z9), .val (.int c17_z58), .val (.int c27_z58), .val (.ref rb3_b1), .val (.int (0 : Int32)), .val (.int (1 : Int32)), .val (.int c102_rv), .val (.int c112_rv), .val (.long c127_rv), .second, .unset, .unset, .unset, .unset] [(.int p3), (.long z135), (.long (0 : Int64))])) _
          refine Jvm.OwnK.i2l X22.here hx rfl (hb hby at_137) rfl hz137 ?_
          show Steps p.tables e below (T22.setTop (mkF m 138 #[.val (.int p0), .val (.int p1), .val (.int p2), .val (.int p3), .val (.int p4), .val (.int p5), .val (.int z3), .val (.int z9), .val (.int c17_z58), .val (.int c27_z58), .val (.ref rb3_b1), .val (.int (0 : Int32)), .val (.int (1 : Int32)), .val (.int c102_rv), .val (.int c112_rv), .val (.long c127_rv), .second, .unset, .unset, .unset, .unset] [(.long z137), (.long z135), (.long (0 : Int64))])) _
          refine st23 _ ?_
          show Steps p.tables e below (T23.setTop (mkF m 141 #[.val (.int p0), .val (.int p1), .val (.int p2), .val (.int p3), .val (.int p4), .val (.int p5), .val (.int z3), .val (.int z9), .val (.int c17_z58), .val (.int c27_z58), .val (.ref rb3_b1), .val (.int (0 : Int32)), .val (.int (1 : Int32)), .val (.int c102_rv), .val (.int c112_rv), .val (.long c127_rv), .second, .unset, .unset, .unset, .unset] [(.long c138_rv), (.long z135), (.long (0 : Int64))])) _
          refine Jvm.OwnK.lsub X23.here hx rfl (hb hby at_141) rfl hz141 ?_
          show Steps p.tables e below (T23.setTop (mkF m 142 #[.val (.int p0), .val (.int p1), .val (.int p2), .val (.int p3), .val (.int p4), .val (.int p5), .val (.int z3), .val (.int z9), .val (.int c17_z58), .val (.int c27_z58), .val (.ref rb3_b1), .val (.int (0 : Int32)), .val (.int (1 : Int32)), .val (.int c102_rv), .val (.int c112_rv), .val (.long c127_rv), .second, .unset, .unset, .unset, .unset] [(.long z141), (.long (0 : Int64))])) _
          refine st24 _ ?_
          show Steps p.tables e below (T24.setTop (mkF m 145 #[.val (.int p0), .val (.int p1), .val (.int p2), .val (.int p3), .val (.int p4), .val (.int p5), .val (.int z3), .val (.int z9), .val (.int c17_z58), .val (.int c27_z58), .val (.ref rb3_b1), .val (.int (0 : Int32)), .val (.int (1 : Int32)), .val (.int c102_rv), .val (.int c112_rv), .val (.long c127_rv), .second, .unset, .unset, .unset, .unset] [(.long c142_rv)])) _
          refine XS.lstore X24.here hx rfl (hb hby at_145) rfl (l' := #[.val (.int p0), .val (.int p1), .val (.int p2), .val (.int p3), .val (.int p4), .val (.int p5), .val (.int z3), .val (.int z9), .val (.int c17_z58), .val (.int c27_z58), .val (.ref rb3_b1), .val (.int (0 : Int32)), .val (.int (1 : Int32)), .val (.int c102_rv), .val (.int c112_rv), .val (.long c127_rv), .second, .val (.long c142_rv), .second, .unset, .unset]) rfl ?_
          show Steps p.tables e below (T24.setTop (mkF m 147 #[.val (.int p0), .val (.int p1), .val (.int p2), .val (.int p3), .val (.int p4), .val (.int p5), .val (.int z3), .val (.int z9), .val (.int c17_z58), .val (.int c27_z58), .val (.ref rb3_b1), .val (.int (0 : Int32)), .val (.int (1 : Int32)), .val (.int c102_rv), .val (.int c112_rv), .val (.long c127_rv), .second, .val (.long c142_rv), .second, .unset, .unset] [])) _
          refine XS.lload X24.here hx rfl (hb hby at_147) rfl ?_
          show Steps p.tables e below (T24.setTop (mkF m 149 #[.val (.int p0), .val (.int p1), .val (.int p2), .val (.int p3), .val (.int p4), .val (.int p5), .val (.int z3), .val (.int z9), .val (.int c17_z58), .val (.int c27_z58), .val (.ref rb3_b1), .val (.int (0 : Int32)), .val (.int (1 : Int32)), .val (.int c102_rv), .val (.int c112_rv), .val (.long c127_rv), .second, .val (.long c142_rv), .second, .unset, .unset] [(.long c127_rv)])) _
          refine XS.lload X24.here hx rfl (hb hby at_149) rfl ?_
          show Steps p.tables e below (T24.setTop (mkF m 151 #[.val (.int p0), .val (.int p1), .val (.int p2), .val (.int p3), .val (.int p4), .val (.int p5), .val (.int z3), .val (.int z9), .val (.int c17_z58), .val (.int c27_z58), .val (.ref rb3_b1), .val (.int (0 : Int32)), .val (.int (1 : Int32)), .val (.int c102_rv), .val (.int c112_rv), .val (.long c127_rv), .second, .val (.long c142_rv), .second, .unset, .unset] [(.long c142_rv), (.long c127_rv)])) _
          refine Jvm.OwnK.lmul X24.here hx rfl (hb hby at_151) rfl hz151 ?_
          show Steps p.tables e below (T24.setTop (mkF m 152 #[.val (.int p0), .val (.int p1), .val (.int p2), .val (.int p3), .val (.int p4), .val (.int p5), .val (.int z3), .val (.int z9), .val (.int c17_z58), .val (.int c27_z58), .val (.ref rb3_b1), .val (.int (0 : Int32)), .val (.int (1 : Int32)), .val (.int c102_rv), .val (.int c112_rv), .val (.long c127_rv), .second, .val (.long c142_rv), .second, .unset, .unset] [(.long z151)])) _
          refine XS.l2dS X24.here hx rfl (hb hby at_152) rfl hz152 ?_
          show Steps p.tables e below (T24.setTop (mkF m 153 #[.val (.int p0), .val (.int p1), .val (.int p2), .val (.int p3), .val (.int p4), .val (.int p5), .val (.int z3), .val (.int z9), .val (.int c17_z58), .val (.int c27_z58), .val (.ref rb3_b1), .val (.int (0 : Int32)), .val (.int (1 : Int32)), .val (.int c102_rv), .val (.int c112_rv), .val (.long c127_rv), .second, .val (.long c142_rv), .second, .unset, .unset] [(.double z152)])) _
          refine XS.dstore X24.here hx rfl (hb hby at_153) rfl (l' := #[.val (.int p0), .val (.int p1), .val (.int p2), .val (.int p3), .val (.int p4), .val (.int p5), .val (.int z3), .val (.int z9), .val (.int c17_z58), .val (.int c27_z58), .val (.ref rb3_b1), .val (.int (0 : Int32)), .val (.int (1 : Int32)), .val (.int c102_rv), .val (.int c112_rv), .val (.long c127_rv), .second, .val (.long c142_rv), .second, .val (.double z152), .second]) rfl ?_
          show Steps p.tables e below (T24.setTop (mkF m 155 #[.val (.int p0), .val (.int p1), .val (.int p2), .val (.int p3), .val (.int p4), .val (.int p5), .val (.int z3), .val (.int z9), .val (.int c17_z58), .val (.int c27_z58), .val (.ref rb3_b1), .val (.int (0 : Int32)), .val (.int (1 : Int32)), .val (.int c102_rv), .val (.int c112_rv), .val (.long c127_rv), .second, .val (.long c142_rv), .second, .val (.double z152), .second] [])) _
          refine XS.iload X24.here hx rfl (hb hby at_155) rfl ?_
          show Steps p.tables e below (T24.setTop (mkF m 157 #[.val (.int p0), .val (.int p1), .val (.int p2), .val (.int p3), .val (.int p4), .val (.int p5), .val (.int z3), .val (.int z9), .val (.int c17_z58), .val (.int c27_z58), .val (.ref rb3_b1), .val (.int (0 : Int32)), .val (.int (1 : Int32)), .val (.int c102_rv), .val (.int c112_rv), .val (.long c127_rv), .second, .val (.long c142_rv), .second, .val (.double z152), .second] [(.int (0 : Int32))])) _
          refine XS.iload X24.here hx rfl (hb hby at_157) rfl ?_
          show Steps p.tables e below (T24.setTop (mkF m 159 #[.val (.int p0), .val (.int p1), .val (.int p2), .val (.int p3), .val (.int p4), .val (.int p5), .val (.int z3), .val (.int z9), .val (.int c17_z58), .val (.int c27_z58), .val (.ref rb3_b1), .val (.int (0 : Int32)), .val (.int (1 : Int32)), .val (.int c102_rv), .val (.int c112_rv), .val (.long c127_rv), .second, .val (.long c142_rv), .second, .val (.double z152), .second] [(.int c102_rv), (.int (0 : Int32))])) _
          refine XS.icmpNo X24.here hx rfl (hb hby at_159) rfl (Jvm.Free.XT.ii_ne_f br159) ?_
          show Steps p.tables e below (T24.setTop (mkF m 162 #[.val (.int p0), .val (.int p1), .val (.int p2), .val (.int p3), .val (.int p4), .val (.int p5), .val (.int z3), .val (.int z9), .val (.int c17_z58), .val (.int c27_z58), .val (.ref rb3_b1), .val (.int (0 : Int32)), .val (.int (1 : Int32)), .val (.int c102_rv), .val (.int c112_rv), .val (.long c127_rv), .second, .val (.long c142_rv), .second, .val (.double z152), .second] [])) _
          refine XS.iload X24.here hx rfl (hb hby at_162) rfl ?_
          show Steps p.tables e below (T24.setTop (mkF m 164 #[.val (.int p0), .val (.int p1), .val (.int p2), .val (.int p3), .val (.int p4), .val (.int p5), .val (.int z3), .val (.int z9), .val (.int c17_z58), .val (.int c27_z58), .val (.ref rb3_b1), .val (.int (0 : Int32)), .val (.int (1 : Int32)), .val (.int c102_rv), .val (.int c112_rv), .val (.long c127_rv), .second, .val (.long c142_rv), .second, .val (.double z152), .second] [(.int (1 : Int32))])) _
          refine XS.iload X24.here hx rfl (hb hby at_164) rfl ?_
          show Steps p.tables e below (T24.setTop (mkF m 166 #[.val (.int p0), .val (.int p1), .val (.int p2), .val (.int p3), .val (.int p4), .val (.int p5), .val (.int z3), .val (.int z9), .val (.int c17_z58), .val (.int c27_z58), .val (.ref rb3_b1), .val (.int (0 : Int32)), .val (.int (1 : Int32)), .val (.int c102_rv), .val (.int c112_rv), .val (.long c127_rv), .second, .val (.long c142_rv), .second, .val (.double z152), .second] [(.int c112_rv), (.int (1 : Int32))])) _
          refine XS.icmpNo X24.here hx rfl (hb hby at_166) rfl (Jvm.Free.XT.ii_ne_f br166) ?_
          show Steps p.tables e below (T24.setTop (mkF m 169 #[.val (.int p0), .val (.int p1), .val (.int p2), .val (.int p3), .val (.int p4), .val (.int p5), .val (.int z3), .val (.int z9), .val (.int c17_z58), .val (.int c27_z58), .val (.ref rb3_b1), .val (.int (0 : Int32)), .val (.int (1 : Int32)), .val (.int c102_rv), .val (.int c112_rv), .val (.long c127_rv), .second, .val (.long c142_rv), .second, .val (.double z152), .second] [])) _
          refine XS.aload X24.here hx rfl (hb hby at_169) rfl rfl ?_
          show Steps p.tables e below (T24.setTop (mkF m 171 #[.val (.int p0), .val (.int p1), .val (.int p2), .val (.int p3), .val (.int p4), .val (.int p5), .val (.int z3), .val (.int z9), .val (.int c17_z58), .val (.int c27_z58), .val (.ref rb3_b1), .val (.int (0 : Int32)), .val (.int (1 : Int32)), .val (.int c102_rv), .val (.int c112_rv), .val (.long c127_rv), .second, .val (.long c142_rv), .second, .val (.double z152), .second] [(.ref rb3_b1)])) _
          refine st25.trans ?_
          show Steps p.tables e below (T25.setTop (mkF m 174 #[.val (.int p0), .val (.int p1), .val (.int p2), .val (.int p3), .val (.int p4), .val (.int p5), .val (.int z3), .val (.int z9), .val (.int c17_z58), .val (.int c27_z58), .val (.ref rb3_b1), .val (.int (0 : Int32)), .val (.int (1 : Int32)), .val (.int c102_rv), .val (.int c112_rv), .val (.long c127_rv), .second, .val (.long c142_rv), .second, .val (.double z152), .second] [(.double c171_rv)])) _
          refine XS.dload X25.here hx rfl (hb hby at_174) rfl ?_
          show Steps p.tables e below (T25.setTop (mkF m 176 #[.val (.int p0), .val (.int p1), .val (.int p2), .val (.int p3), .val (.int p4), .val (.int p5), .val (.int z3), .val (.int z9), .val (.int c17_z58), .val (.int c27_z58), .val (.ref rb3_b1), .val (.int (0 : Int32)), .val (.int (1 : Int32)), .val (.int c102_rv), .val (.int c112_rv), .val (.long c127_rv), .second, .val (.long c142_rv), .second, .val (.double z152), .second] [(.double z152), (.double c171_rv)])) _
          refine XS.dcmpS X25.here hx rfl (hb hby at_176) rfl hz176 ?_
          show Steps p.tables e below (T25.setTop (mkF m 177 #[.val (.int p0), .val (.int p1), .val (.int p2), .val (.int p3), .val (.int p4), .val (.int p5), .val (.int z3), .val (.int z9), .val (.int c17_z58), .val (.int c27_z58), .val (.ref rb3_b1), .val (.int (0 : Int32)), .val (.int (1 : Int32)), .val (.int c102_rv), .val (.int c112_rv), .val (.long c127_rv), .second, .val (.long c142_rv), .second, .val (.double z152), .second] [(.int z176)])) _
          refine XS.ifNo X25.here hx rfl (hb hby at_177) rfl (Jvm.Free.XT.i0_ne_f br177) ?_
          show Steps p.tables e below (T25.setTop (mkF m 180 #[.val (.int p0), .val (.int p1), .val (.int p2), .val (.int p3), .val (.int p4), .val (.int p5), .val (.int z3), .val (.int z9), .val (.int c17_z58), .val (.int c27_z58), .val (.ref rb3_b1), .val (.int (0 : Int32)), .val (.int (1 : Int32)), .val (.int c102_rv), .val (.int c112_rv), .val (.long c127_rv), .second, .val (.long c142_rv), .second, .val (.double z152), .second] [])) _
          refine XS.iconst X25.here hx rfl (hb hby at_180) ?_
          show Steps p.tables e below (T25.setTop (mkF m 181 #[.val (.int p0), .val (.int p1), .val (.int p2), .val (.int p3), .val (.int p4), .val (.int p5), .val (.int z3), .val (.int z9), .val (.int c17_z58), .val (.int c27_z58), .val (.ref rb3_b1), .val (.int (0 : Int32)), .val (.int (1 : Int32)), .val (.int c102_rv), .val (.int c112_rv), .val (.long c127_rv), .second, .val (.long c142_rv), .second, .val (.double z152), .second] [(.int (1 : Int32))])) _
          refine XS.goto X25.here hx rfl (pc0 := 181) (pc' := 185) rfl (hb hby at_181) (by decide) (by decide) ?_
          exact k
        obtain ⟨fs, hr, hrun, hended, hW, hsame⟩ := X25.leave (v := some (.int (1 : Int32))) (fun h => by rw [Bd.returns] at h; cases h)
        refine ⟨_, _, c26 _ ?_, hrun, hended, _, _, rfl, ?_, ⟨_, rfl⟩, hW, hsame.mono (by decide) (by decide)⟩
        · show Steps p.tables e below (T25.setTop (mkF m 185 #[.val (.int p0), .val (.int p1), .val (.int p2), .val (.int p3), .val (.int p4), .val (.int p5), .val (.int z3), .val (.int z9), .val (.int c17_z58), .val (.int c27_z58), .val (.ref rb3_b1), .val (.int (0 : Int32)), .val (.int (1 : Int32)), .val (.int c102_rv), .val (.int c112_rv), .val (.long c127_rv), .second, .val (.long c142_rv), .second, .val (.double z152), .second] [(.int (1 : Int32))])) _
          exact retOut X25 hx Bd.returns rfl (Or.inl ⟨rfl, by simp, _, rfl⟩) (hb hby at_185) hr
        · show Q0 n0 _ T25.heap _
          rw [e25]
          exact ⟨rfl, by first | assumption | exact N0⟩
      · skip
        obtain ⟨c102_z1, hc102_z1⟩ : ∃ z : Int64, c17_z58.toInt64 = z := ⟨_, rfl⟩
        obtain ⟨c102_z5, hc102_z5⟩ : ∃ z : Int64, p2.toInt64 = z := ⟨_, rfl⟩
        obtain ⟨c102_z6, hc102_z6⟩ : ∃ z : Int64, c102_z1 - c102_z5 = z := ⟨_, rfl⟩
        obtain ⟨c102_z11, hc102_z11⟩ : ∃ z : Int32, lcmpW (0 : Int64) c102_z1 = z := ⟨_, rfl⟩
        obtain ⟨c102_z17, hc102_z17⟩ : ∃ z : Int64, z3.toInt64 = z := ⟨_, rfl⟩
        obtain ⟨c102_z18, hc102_z18⟩ : ∃ z : Int32, lcmpW c102_z1 c102_z17 = z := ⟨_, rfl⟩
        obtain ⟨c102_z25, hc102_z25⟩ : ∃ z : Int32, lcmpW (0 : Int64) c102_z6 = z := ⟨_, rfl⟩
        obtain ⟨c102_z32, hc102_z32⟩ : ∃ z : Int64, z3.toInt64 = z := ⟨_, rfl⟩
        obtain ⟨c102_z33, hc102_z33⟩ : ∃ z : Int32, lcmpW c102_z6 c102_z32 = z := ⟨_, rfl⟩
        obtain ⟨c102_rv, hc102_rv⟩ : ∃ z : Int32, (if (0 : Int32) < c102_z11 then (0 : Int32) else (if c102_z18 < (0 : Int32) then (if (0 : Int32) < c102_z25 then (0 : Int32) else (if c102_z33 < (0 : Int32) then (1 : Int32) else (0 : Int32))) else (0 : Int32))) = z := ⟨_, rfl⟩
        obtain ⟨c112_z1, hc112_z1⟩ : ∃ z : Int64, c27_z58.toInt64 = z := ⟨_, rfl⟩
        obtain ⟨c112_z5, hc112_z5⟩ : ∃ z : Int64, p3.toInt64 = z := ⟨_, rfl⟩
        obtain ⟨c112_z6, hc112_z6⟩ : ∃ z : Int64, c112_z1 - c112_z5 = z := ⟨_, rfl⟩
        obtain ⟨c112_z11, hc112_z11⟩ : ∃ z : Int32, lcmpW (0 : Int64) c112_z1 = z := ⟨_, rfl⟩
        obtain ⟨c112_z17, hc112_z17⟩ : ∃ z : Int64, z9.toInt64 = z := ⟨_, rfl⟩
        obtain ⟨c112_z18, hc112_z18⟩ : ∃ z : Int32, lcmpW c112_z1 c112_z17 = z := ⟨_, rfl⟩
        obtain ⟨c112_z25, hc112_z25⟩ : ∃ z : Int32, lcmpW (0 : Int64) c112_z6 = z := ⟨_, rfl⟩
        obtain ⟨c112_z32, hc112_z32⟩ : ∃ z : Int64, z9.toInt64 = z := ⟨_, rfl⟩
        obtain ⟨c112_z33, hc112_z33⟩ : ∃ z : Int32, lcmpW c112_z6 c112_z32 = z := ⟨_, rfl⟩
        obtain ⟨c112_rv, hc112_rv⟩ : ∃ z : Int32, (if (0 : Int32) < c112_z11 then (0 : Int32) else (if c112_z18 < (0 : Int32) then (if (0 : Int32) < c112_z25 then (0 : Int32) else (if c112_z33 < (0 : Int32) then (1 : Int32) else (0 : Int32))) else (0 : Int32))) = z := ⟨_, rfl⟩
        obtain ⟨z120, hz120⟩ : ∃ z : Int64, z3.toInt64 = z := ⟨_, rfl⟩
        obtain ⟨z122, hz122⟩ : ∃ z : Int64, p2.toInt64 = z := ⟨_, rfl⟩
        obtain ⟨c123_z2, hc123_z2⟩ : ∃ z : Int32, lcmpW z122 (0 : Int64) = z := ⟨_, rfl⟩
        obtain ⟨c123_z7, hc123_z7⟩ : ∃ z : Int64, -z122 = z := ⟨_, rfl⟩
        obtain ⟨c123_rv, hc123_rv⟩ : ∃ z : Int64, (if c123_z2 < (0 : Int32) then c123_z7 else z122) = z := ⟨_, rfl⟩
        obtain ⟨z126, hz126⟩ : ∃ z : Int64, z120 - c123_rv = z := ⟨_, rfl⟩
        obtain ⟨c127_z2, hc127_z2⟩ : ∃ z : Int32, lcmpW (0 : Int64) z126 = z := ⟨_, rfl⟩
        obtain ⟨c127_rv, hc127_rv⟩ : ∃ z : Int64, (if c127_z2 < (0 : Int32) then z126 else (0 : Int64)) = z := ⟨_, rfl⟩
        obtain ⟨z135, hz135⟩ : ∃ z : Int64, z9.toInt64 = z := ⟨_, rfl⟩
        obtain ⟨z137, hz137⟩ : ∃ z : Int64, p3.toInt64 = z := ⟨_, rfl⟩
        obtain ⟨c138_z2, hc138_z2⟩ : ∃ z : Int32, lcmpW z137 (0 : Int64) = z := ⟨_, rfl⟩
        obtain ⟨c138_z7, hc138_z7⟩ : ∃ z : Int64, -z137 = z := ⟨_, rfl⟩
        obtain ⟨c138_rv, hc138_rv⟩ : ∃ z : Int64, (if c138_z2 < (0 : Int32) then c138_z7 else z137) = z := ⟨_, rfl⟩
        obtain ⟨z141, hz141⟩ : ∃ z : Int64, z135 - c138_rv = z := ⟨_, rfl⟩
        obtain ⟨c142_z2, hc142_z2⟩ : ∃ z : Int32, lcmpW (0 : Int64) z141 = z := ⟨_, rfl⟩
        obtain ⟨c142_rv, hc142_rv⟩ : ∃ z : Int64, (if c142_z2 < (0 : Int32) then z141 else (0 : Int64)) = z := ⟨_, rfl⟩
        obtain ⟨z151, hz151⟩ : ∃ z : Int64, c127_rv * c142_rv = z := ⟨_, rfl⟩
        obtain ⟨z152, hz152⟩ : ∃ z : UInt64, FP.l2d z151 = z := ⟨_, rfl⟩
        obtain ⟨c171_z30, hc171_z30⟩ : ∃ z : Int32, c38_c18_rv - c38_c6_rv = z := ⟨_, rfl⟩
        obtain ⟨c171_z31, hc171_z31⟩ : ∃ z : UInt64, FP.i2d c171_z30 = z := ⟨_, rfl⟩
        obtain ⟨c171_z40, hc171_z40⟩ : ∃ z : Int32, c38_c25_rv - c38_c11_rv = z := ⟨_, rfl⟩
        obtain ⟨c171_z41, hc171_z41⟩ : ∃ z : UInt64, FP.i2d c171_z40 = z := ⟨_, rfl⟩
        obtain ⟨c171_z42, hc171_z42⟩ : ∃ z : UInt64, FP.dmul c171_z31 c171_z41 = z := ⟨_, rfl⟩
        obtain ⟨c171_rv, hc171_rv⟩ : ∃ z : UInt64, (if c38_c6_rv < c38_c18_rv then (if c38_c11_rv < c38_c25_rv then c171_z42 else FP.dconst0) else FP.dconst0) = z := ⟨_, rfl⟩
        obtain ⟨z176, hz176⟩ : ∃ z : Int32, cmpValue (FP.dcmp c171_rv z152) .l = z := ⟨_, rfl⟩
        obtain ⟨_, _, ⟨T27, L27, k27, n27⟩, -, X27, ⟨Lc27, hQ27, ql27, qy27, qz27⟩, st27⟩ := Jvm.LawKit.callS X17 hx (y := (⟨"com/example/vetrino/vetrino/OverlapOfPinLaw", "meets", "(III)Z"⟩ : MethodName)) hown (mvT hZ (hw _ (List.mem_of_getElem? (i := 47) rfl))) (mvT hZ (hw _ (List.mem_of_getElem? (i := 48) rfl))) (mvT hZ (hw _ (List.mem_of_getElem? (i := 3) rfl))) (mvT hZ (hw _ (List.mem_of_getElem? (i := 49) rfl))) (by decide) (backOf (W := 0) (rm10 l Z a0 hw [] c17_z58 p2 z3 c102_z1 c102_z5 c102_z6 c102_z11 c102_z17 c102_z18 c102_z25 c102_z32 c102_z33 c102_rv T3.heap n0 (Nat.le_trans Z0 K3q.1) hc102_z1 hc102_z5 hc102_z6 hc102_z11 hc102_z17 hc102_z18 hc102_z25 hc102_z32 hc102_z33 hc102_rv) hZ (hw _ (List.mem_of_getElem? (i := 49) rfl)) (hw _ (List.mem_of_getElem? (i := 3) rfl)) (by decide) (by decide)) (g := (mkF m 102 #[.val (.int p0), .val (.int p1), .val (.int p2), .val (.int p3), .val (.int p4), .val (.int p5), .val (.int z3), .val (.int z9), .val (.int c17_z58), .val (.int c27_z58), .val (.ref rb3_b1), .val (.int (0 : Int32)), .val (.int (0 : Int32)), .unset, .unset, .unset, .unset, .unset, .unset, .unset, .unset] [(.int z3), (.int p2), (.int c17_z58)])) rfl (by rw [hml]; rfl) (argsL := [(.int c17_z58), (.int p2), (.int z3)]) (rest := []) (lenOf pd_5 rfl) rfl (by show 2 * 0 + _ ≤ _; exact Nat.le_of_eq rfl) (hb hby at_102) (fun _ _ => ⟨rfl, e17, (by decide : 1 + 0 ≤ _), (by decide : 4 + 0 ≤ _)⟩)
        dsimp only [Pt.U, Pt.locs, Pt.cells, Pt.slots] at X27 ql27 qy27 qz27 st27 hQ27
        subst ql27 qy27 qz27
        obtain ⟨rfl, N27q, e27⟩ := hQ27
        have N27 := Fr.app N17 N27q
        obtain ⟨_, _, ⟨T28, L28, k28, n28⟩, -, X28, ⟨Lc28, hQ28, ql28, qy28, qz28⟩, st28⟩ := Jvm.LawKit.callS X27 hx (y := (⟨"com/example/vetrino/vetrino/OverlapOfPinLaw", "meets", "(III)Z"⟩ : MethodName)) hown (mvT hZ (hw _ (List.mem_of_getElem? (i := 47) rfl))) (mvT hZ (hw _ (List.mem_of_getElem? (i := 48) rfl))) (mvT hZ (hw _ (List.mem_of_getElem? (i := 3) rfl))) (mvT hZ (hw _ (List.mem_of_getElem? (i := 49) rfl))) (by decide) (backOf (W := 0) (rm10 l Z a0 hw [] c27_z58 p3 z9 c112_z1 c112_z5 c112_z6 c112_z11 c112_z17 c112_z18 c112_z25 c112_z32 c112_z33 c112_rv T3.heap n0 (Nat.le_trans Z0 K3q.1) hc112_z1 hc112_z5 hc112_z6 hc112_z11 hc112_z17 hc112_z18 hc112_z25 hc112_z32 hc112_z33 hc112_rv) hZ (hw _ (List.mem_of_getElem? (i := 49) rfl)) (hw _ (List.mem_of_getElem? (i := 3) rfl)) (by decide) (by decide)) (g := (mkF m 112 #[.val (.int p0), .val (.int p1), .val (.int p2), .val (.int p3), .val (.int p4), .val (.int p5), .val (.int z3), .val (.int z9), .val (.int c17_z58), .val (.int c27_z58), .val (.ref rb3_b1), .val (.int (0 : Int32)), .val (.int (0 : Int32)), .val (.int c102_rv), .unset, .unset, .unset, .unset, .unset, .unset, .unset] [(.int z9), (.int p3), (.int c27_z58)])) rfl (by rw [hml]; rfl) (argsL := [(.int c27_z58), (.int p3), (.int z9)]) (rest := []) (lenOf pd_5 rfl) rfl (by show 2 * 0 + _ ≤ _; exact Nat.le_of_eq rfl) (hb hby at_112) (fun _ _ => ⟨rfl, e27, (by decide : 1 + 0 ≤ _), (by decide : 4 + 0 ≤ _)⟩)
        dsimp only [Pt.U, Pt.locs, Pt.cells, Pt.slots] at X28 ql28 qy28 qz28 st28 hQ28
        subst ql28 qy28 qz28
        obtain ⟨rfl, N28q, e28⟩ := hQ28
        have N28 := Fr.app N27 N28q
        obtain ⟨_, _, ⟨T29, L29, k29, n29⟩, -, X29, ⟨Lc29, hQ29, ql29, qy29, qz29⟩, st29⟩ := Jvm.LawKit.callS X28 hx (y := (⟨"java/lang/Math", "abs", "(J)J"⟩ : MethodName)) hown (mvT hZ (hw _ (List.mem_of_getElem? (i := 50) rfl))) (mvT hZ (hw _ (List.mem_of_getElem? (i := 51) rfl))) (mvT hZ (hw _ (List.mem_of_getElem? (i := 13) rfl))) (mvT hZ (hw _ (List.mem_of_getElem? (i := 52) rfl))) (by decide) (backOf (W := 4) (rm11 l Z a0 hw [] z122 c123_z2 c123_z7 c123_rv T3.heap n0 (Nat.le_trans Z0 K3q.1) hc123_z2 hc123_z7 hc123_rv) hZ (hw _ (List.mem_of_getElem? (i := 52) rfl)) (hw _ (List.mem_of_getElem? (i := 13) rfl)) (by decide) (by decide)) (g := (mkF m 123 #[.val (.int p0), .val (.int p1), .val (.int p2), .val (.int p3), .val (.int p4), .val (.int p5), .val (.int z3), .val (.int z9), .val (.int c17_z58), .val (.int c27_z58), .val (.ref rb3_b1), .val (.int (0 : Int32)), .val (.int (0 : Int32)), .val (.int c102_rv), .val (.int c112_rv), .unset, .unset, .unset, .unset, .unset, .unset] [(.long z122), (.long z120), (.long (0 : Int64))])) rfl (by rw [hml]; rfl) (argsL := [(.long z122)]) (rest := [(.long z120), (.long (0 : Int64))]) (lenOf pd_6 rfl) rfl (by show 2 * 0 + _ ≤ _; exact Nat.le_of_eq rfl) (hb hby at_123) (fun _ _ => ⟨rfl, e28, (by decide : 1 + 0 ≤ _), (by decide : 4 + 0 ≤ _)⟩)
        dsimp only [Pt.U, Pt.locs, Pt.cells, Pt.slots] at X29 ql29 qy29 qz29 st29 hQ29
        subst ql29 qy29 qz29
        obtain ⟨rfl, N29q, e29⟩ := hQ29
        have N29 := Fr.app N28 N29q
        obtain ⟨_, _, ⟨T30, L30, k30, n30⟩, -, X30, ⟨Lc30, hQ30, ql30, qy30, qz30⟩, st30⟩ := Jvm.LawKit.callS X29 hx (y := (⟨"java/lang/Math", "max", "(JJ)J"⟩ : MethodName)) hown (mvT hZ (hw _ (List.mem_of_getElem? (i := 53) rfl))) (mvT hZ (hw _ (List.mem_of_getElem? (i := 54) rfl))) (mvT hZ (hw _ (List.mem_of_getElem? (i := 13) rfl))) (mvT hZ (hw _ (List.mem_of_getElem? (i := 55) rfl))) (by decide) (backOf (W := 0) (rm12 l Z a0 hw [] (0 : Int64) z126 c127_z2 c127_rv T3.heap n0 (Nat.le_trans Z0 K3q.1) hc127_z2 hc127_rv) hZ (hw _ (List.mem_of_getElem? (i := 55) rfl)) (hw _ (List.mem_of_getElem? (i := 13) rfl)) (by decide) (by decide)) (g := (mkF m 127 #[.val (.int p0), .val (.int p1), .val (.int p2), .val (.int p3), .val (.int p4), .val (.int p5), .val (.int z3), .val (.int z9), .val (.int c17_z58), .val (.int c27_z58), .val (.ref rb3_b1), .val (.int (0 : Int32)), .val (.int (0 : Int32)), .val (.int c102_rv), .val (.int c112_rv), .unset, .unset, .unset, .unset, .unset, .unset] [(.long z126), (.long (0 : Int64))])) rfl (by rw [hml]; rfl) (argsL := [(.long (0 : Int64)), (.long z126)]) (rest := []) (lenOf pd_7 rfl) rfl (by show 2 * 0 + _ ≤ _; exact Nat.le_of_eq rfl) (hb hby at_127) (fun _ _ => ⟨rfl, e29, (by decide : 1 + 0 ≤ _), (by decide : 4 + 0 ≤ _)⟩)
        dsimp only [Pt.U, Pt.locs, Pt.cells, Pt.slots] at X30 ql30 qy30 qz30 st30 hQ30
        subst ql30 qy30 qz30
        obtain ⟨rfl, N30q, e30⟩ := hQ30
        have N30 := Fr.app N29 N30q
        obtain ⟨_, _, ⟨T31, L31, k31, n31⟩, -, X31, ⟨Lc31, hQ31, ql31, qy31, qz31⟩, st31⟩ := Jvm.LawKit.callS X30 hx (y := (⟨"java/lang/Math", "abs", "(J)J"⟩ : MethodName)) hown (mvT hZ (hw _ (List.mem_of_getElem? (i := 50) rfl))) (mvT hZ (hw _ (List.mem_of_getElem? (i := 51) rfl))) (mvT hZ (hw _ (List.mem_of_getElem? (i := 13) rfl))) (mvT hZ (hw _ (List.mem_of_getElem? (i := 52) rfl))) (by decide) (backOf (W := 4) (rm11 l Z a0 hw [] z137 c138_z2 c138_z7 c138_rv T3.heap n0 (Nat.le_trans Z0 K3q.1) hc138_z2 hc138_z7 hc138_rv) hZ (hw _ (List.mem_of_getElem? (i := 52) rfl)) (hw _ (List.mem_of_getElem? (i := 13) rfl)) (by decide) (by decide)) (g := (mkF m 138 #[.val (.int p0), .val (.int p1), .val (.int p2), .val (.int p3), .val (.int p4), .val (.int p5), .val (.int z3), .val (.int z9), .val (.int c17_z58), .val (.int c27_z58), .val (.ref rb3_b1), .val (.int (0 : Int32)), .val (.int (0 : Int32)), .val (.int c102_rv), .val (.int c112_rv), .val (.long c127_rv), .second, .unset, .unset, .unset, .unset] [(.long z137), (.long z135), (.long (0 : Int64))])) rfl (by rw [hml]; rfl) (argsL := [(.long z137)]) (rest := [(.long z135), (.long (0 : Int64))]) (lenOf pd_6 rfl) rfl (by show 2 * 0 + _ ≤ _; exact Nat.le_of_eq rfl) (hb hby at_138) (fun _ _ => ⟨rfl, e30, (by decide : 1 + 0 ≤ _), (by decide : 4 + 0 ≤ _)⟩)
        dsimp only [Pt.U, Pt.locs, Pt.cells, Pt.slots] at X31 ql31 qy31 qz31 st31 hQ31
        subst ql31 qy31 qz31
        obtain ⟨rfl, N31q, e31⟩ := hQ31
        have N31 := Fr.app N30 N31q
        obtain ⟨_, _, ⟨T32, L32, k32, n32⟩, -, X32, ⟨Lc32, hQ32, ql32, qy32, qz32⟩, st32⟩ := Jvm.LawKit.callS X31 hx (y := (⟨"java/lang/Math", "max", "(JJ)J"⟩ : MethodName)) hown (mvT hZ (hw _ (List.mem_of_getElem? (i := 53) rfl))) (mvT hZ (hw _ (List.mem_of_getElem? (i := 54) rfl))) (mvT hZ (hw _ (List.mem_of_getElem? (i := 13) rfl))) (mvT hZ (hw _ (List.mem_of_getElem? (i := 55) rfl))) (by decide) (backOf (W := 0) (rm12 l Z a0 hw [] (0 : Int64) z141 c142_z2 c142_rv T3.heap n0 (Nat.le_trans Z0 K3q.1) hc142_z2 hc142_rv) hZ (hw _ (List.mem_of_getElem? (i := 55) rfl)) (hw _ (List.mem_of_getElem? (i := 13) rfl)) (by decide) (by decide)) (g := (mkF m 142 #[.val (.int p0), .val (.int p1), .val (.int p2), .val (.int p3), .val (.int p4), .val (.int p5), .val (.int z3), .val (.int z9), .val (.int c17_z58), .val (.int c27_z58), .val (.ref rb3_b1), .val (.int (0 : Int32)), .val (.int (0 : Int32)), .val (.int c102_rv), .val (.int c112_rv), .val (.long c127_rv), .second, .unset, .unset, .unset, .unset] [(.long z141), (.long (0 : Int64))])) rfl (by rw [hml]; rfl) (argsL := [(.long (0 : Int64)), (.long z141)]) (rest := []) (lenOf pd_7 rfl) rfl (by show 2 * 0 + _ ≤ _; exact Nat.le_of_eq rfl) (hb hby at_142) (fun _ _ => ⟨rfl, e31, (by decide : 1 + 0 ≤ _), (by decide : 4 + 0 ≤ _)⟩)
        dsimp only [Pt.U, Pt.locs, Pt.cells, Pt.slots] at X32 ql32 qy32 qz32 st32 hQ32
        subst ql32 qy32 qz32
        obtain ⟨rfl, N32q, e32⟩ := hQ32
        have N32 := Fr.app N31 N32q
        have br159 : (0 : Int32) = c102_rv := by
          rw [meet hA hc38_z17 hc38_c6_rv hc38_c18_rv hc102_z1 hc102_z5 hc102_z6 hc102_z11 hc102_z17 hc102_z18 hc102_z25 hc102_z32 hc102_z33 hc102_rv, if_pos hb50]
        have br166 : (0 : Int32) = c112_rv := by
          rw [meet hB hc38_z24 hc38_c11_rv hc38_c25_rv hc112_z1 hc112_z5 hc112_z6 hc112_z11 hc112_z17 hc112_z18 hc112_z25 hc112_z32 hc112_z33 hc112_rv, if_neg hb77, if_neg hb87]
        obtain ⟨c171_nn42, fin⟩ := area (side hA hc38_z17 hc38_c6_rv hc38_c18_rv hz120 hz122 hc123_z2 hc123_z7 hc123_rv hz126 hc127_z2 hc127_rv) (side hB hc38_z24 hc38_c11_rv hc38_c25_rv hz135 hz137 hc138_z2 hc138_z7 hc138_rv hz141 hc142_z2 hc142_rv) hc171_z30 hc171_z40 hc171_z31 hc171_z41 hc171_z42 hz151 hz152 hc171_rv
        obtain ⟨cq33, kq33, q33a, q33b, q33c⟩ := isOf hZ e32 Q3_0
        obtain ⟨_, _, ⟨T33, L33, k33, n33⟩, -, X33, ⟨Lc33, hQ33, ql33, qy33, qz33⟩, st33⟩ := X32.virtualBack hx (y := (⟨"com/example/vetrino/vetrino/Overlap", "area", "()D"⟩ : MethodName)) (z := (⟨"com/example/vetrino/vetrino/Overlap", "area", "()D"⟩ : MethodName)) hown (mvT hZ (hw _ (List.mem_of_getElem? (i := 56) rfl))) (mvT hZ (hw _ (List.mem_of_getElem? (i := 57) rfl))) (notFace_of_selects (args := #[]) (mvT hZ (hw _ (List.mem_of_getElem? (i := 59) rfl)))) (mvT hZ (hw _ (List.mem_of_getElem? (i := 59) rfl))) (mvT hZ (hw _ (List.mem_of_getElem? (i := 58) rfl))) (by decide) (backOf (W := 0) (rm13 l Z a0 hw [] rb3_b1 c38_c18_rv c38_c6_rv c38_c25_rv c38_c11_rv c171_z30 c171_z31 c171_z40 c171_z41 c171_z42 c171_rv T3.heap n0 (Nat.le_trans Z0 K3q.1) Q3_3 Q3_1 Q3_4 Q3_2 hc171_z30 hc171_z31 hc171_z40 hc171_z41 hc171_z42 hc171_rv c171_nn42) hZ (hw _ (List.mem_of_getElem? (i := 60) rfl)) (hw _ (List.mem_of_getElem? (i := 7) rfl)) (by decide) (by decide)) q33a q33c (g := (mkF m 171 #[.val (.int p0), .val (.int p1), .val (.int p2), .val (.int p3), .val (.int p4), .val (.int p5), .val (.int z3), .val (.int z9), .val (.int c17_z58), .val (.int c27_z58), .val (.ref rb3_b1), .val (.int (0 : Int32)), .val (.int (0 : Int32)), .val (.int c102_rv), .val (.int c112_rv), .val (.long c127_rv), .second, .val (.long c142_rv), .second, .val (.double z152), .second] [(.ref rb3_b1)])) rfl (by rw [hml]; rfl) (Steps.refl _) (argsL := []) (rest := []) (lenOf pd_8 rfl) rfl (by show 2 * 0 + _ ≤ _; exact Nat.le_of_eq rfl) (hb hby at_171) (fun _ _ => ⟨rfl, e32, (by decide : 1 + 0 ≤ _), (by decide : 4 + 0 ≤ _)⟩)
        dsimp only [Pt.U, Pt.locs, Pt.cells, Pt.slots] at X33 ql33 qy33 qz33 st33 hQ33
        subst ql33 qy33 qz33
        obtain ⟨rfl, N33q, e33⟩ := hQ33
        have N33 := Fr.app N32 N33q
        have br177 : z176 = 0 := hz176.symm.trans fin
        have c34 : ∀ t, Steps p.tables e below (T33.setTop (mkF m 185 #[.val (.int p0), .val (.int p1), .val (.int p2), .val (.int p3), .val (.int p4), .val (.int p5), .val (.int z3), .val (.int z9), .val (.int c17_z58), .val (.int c27_z58), .val (.ref rb3_b1), .val (.int (0 : Int32)), .val (.int (0 : Int32)), .val (.int c102_rv), .val (.int c112_rv), .val (.long c127_rv), .second, .val (.long c142_rv), .second, .val (.double z152), .second] [(.int (1 : Int32))])) t → Steps p.tables e below (s₁.setTop (entryFrame m #[(.int p0), (.int p1), (.int p2), (.int p3), (.int p4), (.int p5)] maxLocals)) t := by
          intro t k
          refine c18 t ?_
          show Steps p.tables e below (T17.setTop (mkF m 87 #[.val (.int p0), .val (.int p1), .val (.int p2), .val (.int p3), .val (.int p4), .val (.int p5), .val (.int z3), .val (.int z9), .val (.int c17_z58), .val (.int c27_z58), .val (.ref rb3_b1), .val (.int (0 : Int32)), .unset, .unset, .unset, .unset, .unset, .unset, .unset, .unset, .unset] [(.int c38_c25_rv), (.int c27_z58)])) _
          refine XS.icmpYes X17.here hx rfl (pc0 := 87) (pc' := 94) rfl (hb hby at_87) rfl (Jvm.Free.XT.ii_ge_t hb87) (by decide) (by decide) ?_
          show Steps p.tables e below (T17.setTop (mkF m 94 #[.val (.int p0), .val (.int p1), .val (.int p2), .val (.int p3), .val (.int p4), .val (.int p5), .val (.int z3), .val (.int z9), .val (.int c17_z58), .val (.int c27_z58), .val (.ref rb3_b1), .val (.int (0 : Int32)), .unset, .unset, .unset, .unset, .unset, .unset, .unset, .unset, .unset] [])) _
          refine XS.iconst X17.here hx rfl (hb hby at_94) ?_
          show Steps p.tables e below (T17.setTop (mkF m 95 #[.val (.int p0), .val (.int p1), .val (.int p2), .val (.int p3), .val (.int p4), .val (.int p5), .val (.int z3), .val (.int z9), .val (.int c17_z58), .val (.int c27_z58), .val (.ref rb3_b1), .val (.int (0 : Int32)), .unset, .unset, .unset, .unset, .unset, .unset, .unset, .unset, .unset] [(.int (0 : Int32))])) _
          refine XS.istore X17.here hx rfl (hb hby at_95) rfl (l' := #[.val (.int p0), .val (.int p1), .val (.int p2), .val (.int p3), .val (.int p4), .val (.int p5), .val (.int z3), .val (.int z9), .val (.int c17_z58), .val (.int c27_z58), .val (.ref rb3_b1), .val (.int (0 : Int32)), .val (.int (0 : Int32)), .unset, .unset, .unset, .unset, .unset, .unset, .unset, .unset]) rfl ?_
          show Steps p.tables e below (T17.setTop (mkF m 97 #[.val (.int p0), .val (.int p1), .val (.int p2), .val (.int p3), .val (.int p4), .val (.int p5), .val (.int z3), .val (.int z9), .val (.int c17_z58), .val (.int c27_z58), .val (.ref rb3_b1), .val (.int (0 : Int32)), .val (.int (0 : Int32)), .unset, .unset, .unset, .unset, .unset, .unset, .unset, .unset] [])) _
          refine XS.iload X17.here hx rfl (hb hby at_97) rfl ?_
          show Steps p.tables e below (T17.setTop (mkF m 99 #[.val (.int p0), .val (.int p1), .val (.int p2), .val (.int p3), .val (.int p4), .val (.int p5), .val (.int z3), .val (.int z9), .val (.int c17_z58), .val (.int c27_z58), .val (.ref rb3_b1), .val (.int (0 : Int32)), .val (.int (0 : Int32)), .unset, .unset, .unset, .unset, .unset, .unset, .unset, .unset] [(.int c17_z58)])) _
          refine XS.iloadN X17.here hx rfl (hb hby at_99) rfl ?_
          show Steps p.tables e below (T17.setTop (mkF m 100 #[.val (.int p0), .val (.int p1), .val (.int p2), .val (.int p3), .val (.int p4), .val (.int p5), .val (.int z3), .val (.int z9), .val (.int c17_z58), .val (.int c27_z58), .val (.ref rb3_b1), .val (.int (0 : Int32)), .val (.int (0 : Int32)), .unset, .unset, .unset, .unset, .unset, .unset, .unset, .unset] [(.int p2), (.int c17_z58)])) _
          refine XS.iload X17.here hx rfl (hb hby at_100) rfl ?_
          show Steps p.tables e below (T17.setTop (mkF m 102 #[.val (.int p0), .val (.int p1), .val (.int p2), .val (.int p3), .val (.int p4), .val (.int p5), .val (.int z3), .val (.int z9), .val (.int c17_z58), .val (.int c27_z58), .val (.ref rb3_b1), .val (.int (0 : Int32)), .val (.int (0 : Int32)), .unset, .unset, .unset, .unset, .unset, .unset, .unset, .unset] [(.int z3), (.int p2), (.int c17_z58)])) _
          refine st27 _ ?_
          show Steps p.tables e below (T27.setTop (mkF m 105 #[.val (.int p0), .val (.int p1), .val (.int p2), .val (.int p3), .val (.int p4), .val (.int p5), .val (.int z3), .val (.int z9), .val (.int c17_z58), .val (.int c27_z58), .val (.ref rb3_b1), .val (.int (0 : Int32)), .val (.int (0 : Int32)), .unset, .unset, .unset, .unset, .unset, .unset, .unset, .unset] [(.int c102_rv)])) _
          refine XS.istore X27.here hx rfl (hb hby at_105) rfl (l' := #[.val (.int p0), .val (.int p1), .val (.int p2), .val (.int p3), .val (.int p4), .val (.int p5), .val (.int z3), .val (.int z9), .val (.int c17_z58), .val (.int c27_z58), .val (.ref rb3_b1), .val (.int (0 : Int32)), .val (.int (0 : Int32)), .val (.int c102_rv), .unset, .unset, .unset, .unset, .unset, .unset, .unset]) rfl ?_
          show Steps p.tables e below (T27.setTop (mkF m 107 #[.val (.int p0), .val (.int p1), .val (.int p2), .val (.int p3), .val (.int p4), .val (.int p5), .val (.int z3), .val (.int z9), .val (.int c17_z58), .val (.int c27_z58), .val (.ref rb3_b1), .val (.int (0 : Int32)), .val (.int (0 : Int32)), .val (.int c102_rv), .unset, .unset, .unset, .unset, .unset, .unset, .unset] [])) _
          refine XS.iload X27.here hx rfl (hb hby at_107) rfl ?_
          show Steps p.tables e below (T27.setTop (mkF m 109 #[.val (.int p0), .val (.int p1), .val (.int p2), .val (.int p3), .val (.int p4), .val (.int p5), .val (.int z3), .val (.int z9), .val (.int c17_z58), .val (.int c27_z58), .val (.ref rb3_b1), .val (.int (0 : Int32)), .val (.int (0 : Int32)), .val (.int c102_rv), .unset, .unset, .unset, .unset, .unset, .unset, .unset] [(.int c27_z58)])) _
          refine XS.iloadN X27.here hx rfl (hb hby at_109) rfl ?_
          show Steps p.tables e below (T27.setTop (mkF m 110 #[.val (.int p0), .val (.int p1), .val (.int p2), .val (.int p3), .val (.int p4), .val (.int p5), .val (.int z3), .val (.int z9), .val (.int c17_z58), .val (.int c27_z58), .val (.ref rb3_b1), .val (.int (0 : Int32)), .val (.int (0 : Int32)), .val (.int c102_rv), .unset, .unset, .unset, .unset, .unset, .unset, .unset] [(.int p3), (.int c27_z58)])) _
          refine XS.iload X27.here hx rfl (hb hby at_110) rfl ?_
          show Steps p.tables e below (T27.setTop (mkF m 112 #[.val (.int p0), .val (.int p1), .val (.int p2), .val (.int p3), .val (.int p4), .val (.int p5), .val (.int z3), .val (.int z9), .val (.int c17_z58), .val (.int c27_z58), .val (.ref rb3_b1), .val (.int (0 : Int32)), .val (.int (0 : Int32)), .val (.int c102_rv), .unset, .unset, .unset, .unset, .unset, .unset, .unset] [(.int z9), (.int p3), (.int c27_z58)])) _
          refine st28 _ ?_
          show Steps p.tables e below (T28.setTop (mkF m 115 #[.val (.int p0), .val (.int p1), .val (.int p2), .val (.int p3), .val (.int p4), .val (.int p5), .val (.int z3), .val (.int z9), .val (.int c17_z58), .val (.int c27_z58), .val (.ref rb3_b1), .val (.int (0 : Int32)), .val (.int (0 : Int32)), .val (.int c102_rv), .unset, .unset, .unset, .unset, .unset, .unset, .unset] [(.int c112_rv)])) _
          refine XS.istore X28.here hx rfl (hb hby at_115) rfl (l' := #[.val (.int p0), .val (.int p1), .val (.int p2), .val (.int p3), .val (.int p4), .val (.int p5), .val (.int z3), .val (.int z9), .val (.int c17_z58), .val (.int c27_z58), .val (.ref rb3_b1), .val (.int (0 : Int32)), .val (.int (0 : Int32)), .val (.int c102_rv), .val (.int c112_rv), .unset, .unset, .unset, .unset, .unset, .unset]) rfl ?_
          show Steps p.tables e below (T28.setTop (mkF m 117 #[.val (.int p0), .val (.int p1), .val (.int p2), .val (.int p3), .val (.int p4), .val (.int p5), .val (.int z3), .val (.int z9), .val (.int c17_z58), .val (.int c27_z58), .val (.ref rb3_b1), .val (.int (0 : Int32)), .val (.int (0 : Int32)), .val (.int c102_rv), .val (.int c112_rv), .unset, .unset, .unset, .unset, .unset, .unset] [])) _
          refine XS.lconst X28.here hx rfl (hb hby at_117) ?_
          show Steps p.tables e below (T28.setTop (mkF m 118 #[.val (.int p0), .val (.int p1), .val (.int p2), .val (.int p3), .val (.int p4), .val (.int p5), .val (.int z3), .val (.int z9), .val (.int c17_z58), .val (.int c27_z58), .val (.ref rb3_b1), .val (.int (0 : Int32)), .val (.int (0 : Int32)), .val (.int c102_rv), .val (.int c112_rv), .unset, .unset, .unset, .unset, .unset, .unset] [(.long (0 : Int64))])) _
          refine XS.iload X28.here hx rfl (hb hby at_118) rfl ?_
          show Steps p.tables e below (T28.setTop (mkF m 120 #[.val (.int p0), .val (.int p1), .val (.int p2), .val (.int p3), .val (.int p4), .val (.int p5), .val (.int z3), .val (.int z9), .val (.int c17_z58), .val (.int c27_z58), .val (.ref rb3_b1), .val (.int (0 : Int32)), .val (.int (0 : Int32)), .val (.int c102_rv), .val (.int c112_rv), .unset, .unset, .unset, .unset, .unset, .unset] [(.int z3), (.long (0 : Int64))])) _
          refine Jvm.OwnK.i2l X28.here hx rfl (hb hby at_120) rfl hz120 ?_
          show Steps p.tables e below (T28.setTop (mkF m 121 #[.val (.int p0), .val (.int p1), .val (.int p2), .val (.int p3), .val (.int p4), .val (.int p5), .val (.int z3), .val (.int z9), .val (.int c17_z58), .val (.int c27_z58), .val (.ref rb3_b1), .val (.int (0 : Int32)), .val (.int (0 : Int32)), .val (.int c102_rv), .val (.int c112_rv), .unset, .unset, .unset, .unset, .unset, .unset] [(.long z120), (.long (0 : Int64))])) _
          refine XS.iloadN X28.here hx rfl (hb hby at_121) rfl ?_
          show Steps p.tables e below (T28.setTop (mkF m 122 #[.val (.int p0), .val (.int p1), .val (.int p2), .val (.int p3), .val (.int p4), .val (.int p5), .val (.int z3), .val (.int z9), .val (.int c17_z58), .val (.int c27_z58), .val (.ref rb3_b1), .val (.int (0 : Int32)), .val (.int (0 : Int32)), .val (.int c102_rv), .val (.int c112_rv), .unset, .unset, .unset, .unset, .unset, .unset] [(.int p2), (.long z120), (.long (0 : Int64))])) _
          refine Jvm.OwnK.i2l X28.here hx rfl (hb hby at_122) rfl hz122 ?_
          show Steps p.tables e below (T28.setTop (mkF m 123 #[.val (.int p0), .val (.int p1), .val (.int p2), .val (.int p3), .val (.int p4), .val (.int p5), .val (.int z3), .val (.int z9), .val (.int c17_z58), .val (.int c27_z58), .val (.ref rb3_b1), .val (.int (0 : Int32)), .val (.int (0 : Int32)), .val (.int c102_rv), .val (.int c112_rv), .unset, .unset, .unset, .unset, .unset, .unset] [(.long z122), (.long z120), (.long (0 : Int64))])) _
          refine st29 _ ?_
          show Steps p.tables e below (T29.setTop (mkF m 126 #[.val (.int p0), .val (.int p1), .val (.int p2), .val (.int p3), .val (.int p4), .val (.int p5), .val (.int z3), .val (.int z9), .val (.int c17_z58), .val (.int c27_z58), .val (.ref rb3_b1), .val (.int (0 : Int32)), .val (.int (0 : Int32)), .val (.int c102_rv), .val (.int c112_rv), .unset, .unset, .unset, .unset, .unset, .unset] [(.long c123_rv), (.long z120), (.long (0 : Int64))])) _
          refine Jvm.OwnK.lsub X29.here hx rfl (hb hby at_126) rfl hz126 ?_
          show Steps p.tables e below (T29.setTop (mkF m 127 #[.val (.int p0), .val (.int p1), .val (.int p2), .val (.int p3), .val (.int p4), .val (.int p5), .val (.int z3), .val (.int z9), .val (.int c17_z58), .val (.int c27_z58), .val (.ref rb3_b1), .val (.int (0 : Int32)), .val (.int (0 : Int32)), .val (.int c102_rv), .val (.int c112_rv), .unset, .unset, .unset, .unset, .unset, .unset] [(.long z126), (.long (0 : Int64))])) _
          refine st30 _ ?_
          show Steps p.tables e below (T30.setTop (mkF m 130 #[.val (.int p0), .val (.int p1), .val (.int p2), .val (.int p3), .val (.int p4), .val (.int p5), .val (.int z3), .val (.int z9), .val (.int c17_z58), .val (.int c27_z58), .val (.ref rb3_b1), .val (.int (0 : Int32)), .val (.int (0 : Int32)), .val (.int c102_rv), .val (.int c112_rv), .unset, .unset, .unset, .unset, .unset, .unset] [(.long c127_rv)])) _
          refine XS.lstore X30.here hx rfl (hb hby at_130) rfl (l' := #[.val (.int p0), .val (.int p1), .val (.int p2), .val (.int p3), .val (.int p4), .val (.int p5), .val (.int z3), .val (.int z9), .val (.int c17_z58), .val (.int c27_z58), .val (.ref rb3_b1), .val (.int (0 : Int32)), .val (.int (0 : Int32)), .val (.int c102_rv), .val (.int c112_rv), .val (.long c127_rv), .second, .unset, .unset, .unset, .unset]) rfl ?_
          show Steps p.tables e below (T30.setTop (mkF m 132 #[.val (.int p0), .val (.int p1), .val (.int p2), .val (.int p3), .val (.int p4), .val (.int p5), .val (.int z3), .val (.int z9), .val (.int c17_z58), .val (.int c27_z58), .val (.ref rb3_b1), .val (.int (0 : Int32)), .val (.int (0 : Int32)), .val (.int c102_rv), .val (.int c112_rv), .val (.long c127_rv), .second, .unset, .unset, .unset, .unset] [])) _
          refine XS.lconst X30.here hx rfl (hb hby at_132) ?_
          show Steps p.tables e below (T30.setTop (mkF m 133 #[.val (.int p0), .val (.int p1), .val (.int p2), .val (.int p3), .val (.int p4), .val (.int p5), .val (.int z3), .val (.int z9), .val (.int c17_z58), .val (.int c27_z58), .val (.ref rb3_b1), .val (.int (0 : Int32)), .val (.int (0 : Int32)), .val (.int c102_rv), .val (.int c112_rv), .val (.long c127_rv), .second, .unset, .unset, .unset, .unset] [(.long (0 : Int64))])) _
          refine XS.iload X30.here hx rfl (hb hby at_133) rfl ?_
          show Steps p.tables e below (T30.setTop (mkF m 135 #[.val (.int p0), .val (.int p1), .val (.int p2), .val (.int p3), .val (.int p4), .val (.int p5), .val (.int z3), .val (.int z9), .val (.int c17_z58), .val (.int c27_z58), .val (.ref rb3_b1), .val (.int (0 : Int32)), .val (.int (0 : Int32)), .val (.int c102_rv), .val (.int c112_rv), .val (.long c127_rv), .second, .unset, .unset, .unset, .unset] [(.int z9), (.long (0 : Int64))])) _
          refine Jvm.OwnK.i2l X30.here hx rfl (hb hby at_135) rfl hz135 ?_
          show Steps p.tables e below (T30.setTop (mkF m 136 #[.val (.int p0), .val (.int p1), .val (.int p2), .val (.int p3), .val (.int p4), .val (.int p5), .val (.int z3), .val (.int z9), .val (.int c17_z58), .val (.int c27_z58), .val (.ref rb3_b1), .val (.int (0 : Int32)), .val (.int (0 : Int32)), .val (.int c102_rv), .val (.int c112_rv), .val (.long c127_rv), .second, .unset, .unset, .unset, .unset] [(.long z135), (.long (0 : Int64))])) _
          refine XS.iloadN X30.here hx rfl (hb hby at_136) rfl ?_
          show Steps p.tables e below (T30.setTop (mkF m 137 #[.val (.int p0), .val (.int p1), .val (.int p2), .val (.int p3), .val (.int p4), .val (.int p5), .val (.int z3), .val (.int z9), .val (.int c17_z58), .val (.int c27_z58), .val (.ref rb3_b1), .val (.int (0 : Int32)), .val (.int (0 : Int32)), .val (.int c102_rv), .val (.int c112_rv), .val (.long c127_rv), .second, .unset, .unset, .unset, .unset] [(.int p3), (.long z135), (.long (0 : Int64))])) _
          refine Jvm.OwnK.i2l X30.here hx rfl (hb hby at_137) rfl hz137 ?_
          show Steps p.tables e below (T30.setTop (mkF m 138 #[.val (.int p0), .val (.int p1), .val (.int p2), .val (.int p3), .val (.int p4), .val (.int p5), .val (.int z3), .val (.int z9), .val (.int c17_z58), .val (.int c27_z58), .val (.ref rb3_b1), .val (.int (0 : Int32)), .val (.int (0 : Int32)), .val (.int c102_rv), .val (.int c112_rv), .val (.long c127_rv), .second, .unset, .unset, .unset, .unset] [(.long z137), (.long z135), (.long (0 : Int64))])) _
          refine st31 _ ?_
          show Steps p.tables e below (T31.setTop (mkF m 141 #[.val (.int p0), .val (.int p1), .val (.int p2), .val (.int p3), .val (.int p4), .val (.int p5), .val (.int z3), .val (.int z9), .val (.int c17_z58), .val (.int c27_z58), .val (.ref rb3_b1), .val (.int (0 : Int32)), .val (.int (0 : Int32)), .val (.int c102_rv), .val (.int c112_rv), .val (.long c127_rv), .second, .unset, .unset, .unset, .unset] [(.long c138_rv), (.long z135), (.long (0 : Int64))])) _
          refine Jvm.OwnK.lsub X31.here hx rfl (hb hby at_141) rfl hz141 ?_
          show Steps p.tables e below (T31.setTop (mkF m 142 #[.val (.int p0), .val (.int p1), .val (.int p2), .val (.int p3), .val (.int p4), .val (.int p5), .val (.int z3), .val (.int z9), .val (.int c17_z58), .val (.int c27_z58), .val (.ref rb3_b1), .val (.int (0 : Int32)), .val (.int (0 : Int32)), .val (.int c102_rv), .val (.int c112_rv), .val (.long c127_rv), .second, .unset, .unset, .unset, .unset] [(.long z141), (.long (0 : Int64))])) _
          refine st32 _ ?_
          show Steps p.tables e below (T32.setTop (mkF m 145 #[.val (.int p0), .val (.int p1), .val (.int p2), .val (.int p3), .val (.int p4), .val (.int p5), .val (.int z3), .val (.int z9), .val (.int c17_z58), .val (.int c27_z58), .val (.ref rb3_b1), .val (.int (0 : Int32)), .val (.int (0 : Int32)), .val (.int c102_rv), .val (.int c112_rv), .val (.long c127_rv), .second, .unset, .unset, .unset, .unset] [(.long c142_rv)])) _
          refine XS.lstore X32.here hx rfl (hb hby at_145) rfl (l' := #[.val (.int p0), .val (.int p1), .val (.int p2), .val (.int p3), .val (.int p4), .val (.int p5), .val (.int z3), .val (.int z9), .val (.int c17_z58), .val (.int c27_z58), .val (.ref rb3_b1), .val (.int (0 : Int32)), .val (.int (0 : Int32)), .val (.int c102_rv), .val (.int c112_rv), .val (.long c127_rv), .second, .val (.long c142_rv), .second, .unset, .unset]) rfl ?_
          show Steps p.tables e below (T32.setTop (mkF m 147 #[.val (.int p0), .val (.int p1), .val (.int p2), .val (.int p3), .val (.int p4), .val (.int p5), .val (.int z3), .val (.int z9), .val (.int c17_z58), .val (.int c27_z58), .val (.ref rb3_b1), .val (.int (0 : Int32)), .val (.int (0 : Int32)), .val (.int c102_rv), .val (.int c112_rv), .val (.long c127_rv), .second, .val (.long c142_rv), .second, .unset, .unset] [])) _
          refine XS.lload X32.here hx rfl (hb hby at_147) rfl ?_
          show Steps p.tables e below (T32.setTop (mkF m 149 #[.val (.int p0), .val (.int p1), .val (.int p2), .val (.int p3), .val (.int p4), .val (.int p5), .val (.int z3), .val (.int z9), .val (.int c17_z58), .val (.int c27_z58), .val (.ref rb3_b1), .val (.int (0 : Int32)), .val (.int (0 : Int32)), .val (.int c102_rv), .val (.int c112_rv), .val (.long c127_rv), .second, .val (.long c142_rv), .second, .unset, .unset] [(.long c127_rv)])) _
          refine XS.lload X32.here hx rfl (hb hby at_149) rfl ?_
          show Steps p.tables e below (T32.setTop (mkF m 151 #[.val (.int p0), .val (.int p1), .val (.int p2), .val (.int p3), .val (.int p4), .val (.int p5), .val (.int z3), .val (.int z9), .val (.int c17_z58), .val (.int c27_z58), .val (.ref rb3_b1), .val (.int (0 : Int32)), .val (.int (0 : Int32)), .val (.int c102_rv), .val (.int c112_rv), .val (.long c127_rv), .second, .val (.long c142_rv), .second, .unset, .unset] [(.long c142_rv), (.long c127_rv)])) _
          refine Jvm.OwnK.lmul X32.here hx rfl (hb hby at_151) rfl hz151 ?_
          show Steps p.tables e below (T32.setTop (mkF m 152 #[.val (.int p0), .val (.int p1), .val (.int p2), .val (.int p3), .val (.int p4), .val (.int p5), .val (.int z3), .val (.int z9), .val (.int c17_z58), .val (.int c27_z58), .val (.ref rb3_b1), .val (.int (0 : Int32)), .val (.int (0 : Int32)), .val (.int c102_rv), .val (.int c112_rv), .val (.long c127_rv), .second, .val (.long c142_rv), .second, .unset, .unset] [(.long z151)])) _
          refine XS.l2dS X32.here hx rfl (hb hby at_152) rfl hz152 ?_
          show Steps p.tables e below (T32.setTop (mkF m 153 #[.val (.int p0), .val (.int p1), .val (.int p2), .val (.int p3), .val (.int p4), .val (.int p5), .val (.int z3), .val (.int z9), .val (.int c17_z58), .val (.int c27_z58), .val (.ref rb3_b1), .val (.int (0 : Int32)), .val (.int (0 : Int32)), .val (.int c102_rv), .val (.int c112_rv), .val (.long c127_rv), .second, .val (.long c142_rv), .second, .unset, .unset] [(.double z152)])) _
          refine XS.dstore X32.here hx rfl (hb hby at_153) rfl (l' := #[.val (.int p0), .val (.int p1), .val (.int p2), .val (.int p3), .val (.int p4), .val (.int p5), .val (.int z3), .val (.int z9), .val (.int c17_z58), .val (.int c27_z58), .val (.ref rb3_b1), .val (.int (0 : Int32)), .val (.int (0 : Int32)), .val (.int c102_rv), .val (.int c112_rv), .val (.long c127_rv), .second, .val (.long c142_rv), .second, .val (.double z152), .second]) rfl ?_
          show Steps p.tables e below (T32.setTop (mkF m 155 #[.val (.int p0), .val (.int p1), .val (.int p2), .val (.int p3), .val (.int p4), .val (.int p5), .val (.int z3), .val (.int z9), .val (.int c17_z58), .val (.int c27_z58), .val (.ref rb3_b1), .val (.int (0 : Int32)), .val (.int (0 : Int32)), .val (.int c102_rv), .val (.int c112_rv), .val (.long c127_rv), .second, .val (.long c142_rv), .second, .val (.double z152), .second] [])) _
          refine XS.iload X32.here hx rfl (hb hby at_155) rfl ?_
          show Steps p.tables e below (T32.setTop (mkF m 157 #[.val (.int p0), .val (.int p1), .val (.int p2), .val (.int p3), .val (.int p4), .val (.int p5), .val (.int z3), .val (.int z9), .val (.int c17_z58), .val (.int c27_z58), .val (.ref rb3_b1), .val (.int (0 : Int32)), .val (.int (0 : Int32)), .val (.int c102_rv), .val (.int c112_rv), .val (.long c127_rv), .second, .val (.long c142_rv), .second, .val (.double z152), .second] [(.int (0 : Int32))])) _
          refine XS.iload X32.here hx rfl (hb hby at_157) rfl ?_
          show Steps p.tables e below (T32.setTop (mkF m 159 #[.val (.int p0), .val (.int p1), .val (.int p2), .val (.int p3), .val (.int p4), .val (.int p5), .val (.int z3), .val (.int z9), .val (.int c17_z58), .val (.int c27_z58), .val (.ref rb3_b1), .val (.int (0 : Int32)), .val (.int (0 : Int32)), .val (.int c102_rv), .val (.int c112_rv), .val (.long c127_rv), .second, .val (.long c142_rv), .second, .val (.double z152), .second] [(.int c102_rv), (.int (0 : Int32))])) _
          refine XS.icmpNo X32.here hx rfl (hb hby at_159) rfl (Jvm.Free.XT.ii_ne_f br159) ?_
          show Steps p.tables e below (T32.setTop (mkF m 162 #[.val (.int p0), .val (.int p1), .val (.int p2), .val (.int p3), .val (.int p4), .val (.int p5), .val (.int z3), .val (.int z9), .val (.int c17_z58), .val (.int c27_z58), .val (.ref rb3_b1), .val (.int (0 : Int32)), .val (.int (0 : Int32)), .val (.int c102_rv), .val (.int c112_rv), .val (.long c127_rv), .second, .val (.long c142_rv), .second, .val (.double z152), .second] [])) _
          refine XS.iload X32.here hx rfl (hb hby at_162) rfl ?_
          show Steps p.tables e below (T32.setTop (mkF m 164 #[.val (.int p0), .val (.int p1), .val (.int p2), .val (.int p3), .val (.int p4), .val (.int p5), .val (.int z3), .val (.int z9), .val (.int c17_z58), .val (.int c27_z58), .val (.ref rb3_b1), .val (.int (0 : Int32)), .val (.int (0 : Int32)), .val (.int c102_rv), .val (.int c112_rv), .val (.long c127_rv), .second, .val (.long c142_rv), .second, .val (.double z152), .second] [(.int (0 : Int32))])) _
          refine XS.iload X32.here hx rfl (hb hby at_164) rfl ?_
          show Steps p.tables e below (T32.setTop (mkF m 166 #[.val (.int p0), .val (.int p1), .val (.int p2), .val (.int p3), .val (.int p4), .val (.int p5), .val (.int z3), .val (.int z9), .val (.int c17_z58), .val (.int c27_z58), .val (.ref rb3_b1), .val (.int (0 : Int32)), .val (.int (0 : Int32)), .val (.int c102_rv), .val (.int c112_rv), .val (.long c127_rv), .second, .val (.long c142_rv), .second, .val (.double z152), .second] [(.int c112_rv), (.int (0 : Int32))])) _
          refine XS.icmpNo X32.here hx rfl (hb hby at_166) rfl (Jvm.Free.XT.ii_ne_f br166) ?_
          show Steps p.tables e below (T32.setTop (mkF m 169 #[.val (.int p0), .val (.int p1), .val (.int p2), .val (.int p3), .val (.int p4), .val (.int p5), .val (.int z3), .val (.int z9), .val (.int c17_z58), .val (.int c27_z58), .val (.ref rb3_b1), .val (.int (0 : Int32)), .val (.int (0 : Int32)), .val (.int c102_rv), .val (.int c112_rv), .val (.long c127_rv), .second, .val (.long c142_rv), .second, .val (.double z152), .second] [])) _
          refine XS.aload X32.here hx rfl (hb hby at_169) rfl rfl ?_
          show Steps p.tables e below (T32.setTop (mkF m 171 #[.val (.int p0), .val (.int p1), .val (.int p2), .val (.int p3), .val (.int p4), .val (.int p5), .val (.int z3), .val (.int z9), .val (.int c17_z58), .val (.int c27_z58), .val (.ref rb3_b1), .val (.int (0 : Int32)), .val (.int (0 : Int32)), .val (.int c102_rv), .val (.int c112_rv), .val (.long c127_rv), .second, .val (.long c142_rv), .second, .val (.double z152), .second] [(.ref rb3_b1)])) _
          refine st33.trans ?_
          show Steps p.tables e below (T33.setTop (mkF m 174 #[.val (.int p0), .val (.int p1), .val (.int p2), .val (.int p3), .val (.int p4), .val (.int p5), .val (.int z3), .val (.int z9), .val (.int c17_z58), .val (.int c27_z58), .val (.ref rb3_b1), .val (.int (0 : Int32)), .val (.int (0 : Int32)), .val (.int c102_rv), .val (.int c112_rv), .val (.long c127_rv), .second, .val (.long c142_rv), .second, .val (.double z152), .second] [(.double c171_rv)])) _
          refine XS.dload X33.here hx rfl (hb hby at_174) rfl ?_
          show Steps p.tables e below (T33.setTop (mkF m 176 #[.val (.int p0), .val (.int p1), .val (.int p2), .val (.int p3), .val (.int p4), .val (.int p5), .val (.int z3), .val (.int z9), .val (.int c17_z58), .val (.int c27_z58), .val (.ref rb3_b1), .val (.int (0 : Int32)), .val (.int (0 : Int32)), .val (.int c102_rv), .val (.int c112_rv), .val (.long c127_rv), .second, .val (.long c142_rv), .second, .val (.double z152), .second] [(.double z152), (.double c171_rv)])) _
          refine XS.dcmpS X33.here hx rfl (hb hby at_176) rfl hz176 ?_
          show Steps p.tables e below (T33.setTop (mkF m 177 #[.val (.int p0), .val (.int p1), .val (.int p2), .val (.int p3), .val (.int p4), .val (.int p5), .val (.int z3), .val (.int z9), .val (.int c17_z58), .val (.int c27_z58), .val (.ref rb3_b1), .val (.int (0 : Int32)), .val (.int (0 : Int32)), .val (.int c102_rv), .val (.int c112_rv), .val (.long c127_rv), .second, .val (.long c142_rv), .second, .val (.double z152), .second] [(.int z176)])) _
          refine XS.ifNo X33.here hx rfl (hb hby at_177) rfl (Jvm.Free.XT.i0_ne_f br177) ?_
          show Steps p.tables e below (T33.setTop (mkF m 180 #[.val (.int p0), .val (.int p1), .val (.int p2), .val (.int p3), .val (.int p4), .val (.int p5), .val (.int z3), .val (.int z9), .val (.int c17_z58), .val (.int c27_z58), .val (.ref rb3_b1), .val (.int (0 : Int32)), .val (.int (0 : Int32)), .val (.int c102_rv), .val (.int c112_rv), .val (.long c127_rv), .second, .val (.long c142_rv), .second, .val (.double z152), .second] [])) _
          refine XS.iconst X33.here hx rfl (hb hby at_180) ?_
          show Steps p.tables e below (T33.setTop (mkF m 181 #[.val (.int p0), .val (.int p1), .val (.int p2), .val (.int p3), .val (.int p4), .val (.int p5), .val (.int z3), .val (.int z9), .val (.int c17_z58), .val (.int c27_z58), .val (.ref rb3_b1), .val (.int (0 : Int32)), .val (.int (0 : Int32)), .val (.int c102_rv), .val (.int c112_rv), .val (.long c127_rv), .second, .val (.long c142_rv), .second, .val (.double z152), .second] [(.int (1 : Int32))])) _
          refine XS.goto X33.here hx rfl (pc0 := 181) (pc' := 185) rfl (hb hby at_181) (by decide) (by decide) ?_
          exact k
        obtain ⟨fs, hr, hrun, hended, hW, hsame⟩ := X33.leave (v := some (.int (1 : Int32))) (fun h => by rw [Bd.returns] at h; cases h)
        refine ⟨_, _, c34 _ ?_, hrun, hended, _, _, rfl, ?_, ⟨_, rfl⟩, hW, hsame.mono (by decide) (by decide)⟩
        · show Steps p.tables e below (T33.setTop (mkF m 185 #[.val (.int p0), .val (.int p1), .val (.int p2), .val (.int p3), .val (.int p4), .val (.int p5), .val (.int z3), .val (.int z9), .val (.int c17_z58), .val (.int c27_z58), .val (.ref rb3_b1), .val (.int (0 : Int32)), .val (.int (0 : Int32)), .val (.int c102_rv), .val (.int c112_rv), .val (.long c127_rv), .second, .val (.long c142_rv), .second, .val (.double z152), .second] [(.int (1 : Int32))])) _
          exact retOut X33 hx Bd.returns rfl (Or.inl ⟨rfl, by simp, _, rfl⟩) (hb hby at_185) hr
        · show Q0 n0 _ T33.heap _
          rw [e33]
          exact ⟨rfl, by first | assumption | exact N0⟩
  · skip
    obtain ⟨cq35, kq35, q35a, q35b, q35c⟩ := isOf hZ e5 Q3_0
    obtain ⟨_, _, ⟨T35, L35, k35, n35⟩, -, X35, ⟨Lc35, hQ35, ql35, qy35, qz35⟩, st35⟩ := X5.virtualBack hx (y := (⟨"com/example/vetrino/vetrino/Overlap", "right", "()I"⟩ : MethodName)) (z := (⟨"com/example/vetrino/vetrino/Overlap", "right", "()I"⟩ : MethodName)) hown (mvT hZ (hw _ (List.mem_of_getElem? (i := 61) rfl))) (mvT hZ (hw _ (List.mem_of_getElem? (i := 62) rfl))) (notFace_of_selects (args := #[]) (mvT hZ (hw _ (List.mem_of_getElem? (i := 64) rfl)))) (mvT hZ (hw _ (List.mem_of_getElem? (i := 64) rfl))) (mvT hZ (hw _ (List.mem_of_getElem? (i := 63) rfl))) (by decide) (backOf (W := 1) (rm14 l Z a0 hw [] rb3_b1 c38_c18_rv  T3.heap n0 (Nat.le_trans Z0 K3q.1) Q3_3) hZ (hw _ (List.mem_of_getElem? (i := 65) rfl)) (hw _ (List.mem_of_getElem? (i := 7) rfl)) (by decide) (by decide)) q35a q35c (g := (mkF m 57 #[.val (.int p0), .val (.int p1), .val (.int p2), .val (.int p3), .val (.int p4), .val (.int p5), .val (.int z3), .val (.int z9), .val (.int c17_z58), .val (.int c27_z58), .val (.ref rb3_b1), .unset, .unset, .unset, .unset, .unset, .unset, .unset, .unset, .unset, .unset] [(.ref rb3_b1), (.int c17_z58)])) rfl (by rw [hml]; rfl) (Steps.refl _) (argsL := []) (rest := [(.int c17_z58)]) (lenOf pd_4 rfl) rfl (by show 2 * 0 + _ ≤ _; exact Nat.le_of_eq rfl) (hb hby at_57) (fun _ _ => ⟨rfl, e5, (by decide : 1 + 0 ≤ _), (by decide : 4 + 0 ≤ _)⟩)
    dsimp only [Pt.U, Pt.locs, Pt.cells, Pt.slots] at X35 ql35 qy35 qz35 st35 hQ35
    subst ql35 qy35 qz35
    obtain ⟨rfl, N35q, e35⟩ := hQ35
    have N35 := Fr.app N5 N35q
    have c36 : ∀ t, Steps p.tables e below (T35.setTop (mkF m 60 #[.val (.int p0), .val (.int p1), .val (.int p2), .val (.int p3), .val (.int p4), .val (.int p5), .val (.int z3), .val (.int z9), .val (.int c17_z58), .val (.int c27_z58), .val (.ref rb3_b1), .unset, .unset, .unset, .unset, .unset, .unset, .unset, .unset, .unset, .unset] [(.int c38_c18_rv), (.int c17_z58)])) t → Steps p.tables e below (s₁.setTop (entryFrame m #[(.int p0), (.int p1), (.int p2), (.int p3), (.int p4), (.int p5)] maxLocals)) t := by
      intro t k
      refine c6 t ?_
      show Steps p.tables e below (T5.setTop (mkF m 50 #[.val (.int p0), .val (.int p1), .val (.int p2), .val (.int p3), .val (.int p4), .val (.int p5), .val (.int z3), .val (.int z9), .val (.int c17_z58), .val (.int c27_z58), .val (.ref rb3_b1), .unset, .unset, .unset, .unset, .unset, .unset, .unset, .unset, .unset, .unset] [(.int c17_z58), (.int c38_c6_rv)])) _
      refine XS.icmpNo X5.here hx rfl (hb hby at_50) rfl (Jvm.Free.XT.ii_gt_f hb50) ?_
      show Steps p.tables e below (T5.setTop (mkF m 53 #[.val (.int p0), .val (.int p1), .val (.int p2), .val (.int p3), .val (.int p4), .val (.int p5), .val (.int z3), .val (.int z9), .val (.int c17_z58), .val (.int c27_z58), .val (.ref rb3_b1), .unset, .unset, .unset, .unset, .unset, .unset, .unset, .unset, .unset, .unset] [])) _
      refine XS.iload X5.here hx rfl (hb hby at_53) rfl ?_
      show Steps p.tables e below (T5.setTop (mkF m 55 #[.val (.int p0), .val (.int p1), .val (.int p2), .val (.int p3), .val (.int p4), .val (.int p5), .val (.int z3), .val (.int z9), .val (.int c17_z58), .val (.int c27_z58), .val (.ref rb3_b1), .unset, .unset, .unset, .unset, .unset, .unset, .unset, .unset, .unset, .unset] [(.int c17_z58)])) _
      refine XS.aload X5.here hx rfl (hb hby at_55) rfl rfl ?_
      show Steps p.tables e below (T5.setTop (mkF m 57 #[.val (.int p0), .val (.int p1), .val (.int p2), .val (.int p3), .val (.int p4), .val (.int p5), .val (.int z3), .val (.int z9), .val (.int c17_z58), .val (.int c27_z58), .val (.ref rb3_b1), .unset, .unset, .unset, .unset, .unset, .unset, .unset, .unset, .unset, .unset] [(.ref rb3_b1), (.int c17_z58)])) _
      refine st35.trans ?_
      exact k
    by_cases hb60 : c17_z58 < c38_c18_rv
    · skip
      obtain ⟨cq37, kq37, q37a, q37b, q37c⟩ := isOf hZ e35 Q3_0
      obtain ⟨_, _, ⟨T37, L37, k37, n37⟩, -, X37, ⟨Lc37, hQ37, ql37, qy37, qz37⟩, st37⟩ := X35.virtualBack hx (y := (⟨"com/example/vetrino/vetrino/Overlap", "top", "()I"⟩ : MethodName)) (z := (⟨"com/example/vetrino/vetrino/Overlap", "top", "()I"⟩ : MethodName)) hown (mvT hZ (hw _ (List.mem_of_getElem? (i := 37) rfl))) (mvT hZ (hw _ (List.mem_of_getElem? (i := 38) rfl))) (notFace_of_selects (args := #[]) (mvT hZ (hw _ (List.mem_of_getElem? (i := 40) rfl)))) (mvT hZ (hw _ (List.mem_of_getElem? (i := 40) rfl))) (mvT hZ (hw _ (List.mem_of_getElem? (i := 39) rfl))) (by decide) (backOf (W := 0) (rm8 l Z a0 hw [] rb3_b1 c38_c11_rv  T3.heap n0 (Nat.le_trans Z0 K3q.1) Q3_2) hZ (hw _ (List.mem_of_getElem? (i := 41) rfl)) (hw _ (List.mem_of_getElem? (i := 7) rfl)) (by decide) (by decide)) q37a q37c (g := (mkF m 72 #[.val (.int p0), .val (.int p1), .val (.int p2), .val (.int p3), .val (.int p4), .val (.int p5), .val (.int z3), .val (.int z9), .val (.int c17_z58), .val (.int c27_z58), .val (.ref rb3_b1), .val (.int (1 : Int32)), .unset, .unset, .unset, .unset, .unset, .unset, .unset, .unset, .unset] [(.ref rb3_b1)])) rfl (by rw [hml]; rfl) (Steps.refl _) (argsL := []) (rest := []) (lenOf pd_4 rfl) rfl (by show 2 * 0 + _ ≤ _; exact Nat.le_of_eq rfl) (hb hby at_72) (fun _ _ => ⟨rfl, e35, (by decide : 1 + 0 ≤ _), (by decide : 4 + 0 ≤ _)⟩)
      dsimp only [Pt.U, Pt.locs, Pt.cells, Pt.slots] at X37 ql37 qy37 qz37 st37 hQ37
      subst ql37 qy37 qz37
      obtain ⟨rfl, N37q, e37⟩ := hQ37
      have N37 := Fr.app N35 N37q
      have c38 : ∀ t, Steps p.tables e below (T37.setTop (mkF m 77 #[.val (.int p0), .val (.int p1), .val (.int p2), .val (.int p3), .val (.int p4), .val (.int p5), .val (.int z3), .val (.int z9), .val (.int c17_z58), .val (.int c27_z58), .val (.ref rb3_b1), .val (.int (1 : Int32)), .unset, .unset, .unset, .unset, .unset, .unset, .unset, .unset, .unset] [(.int c27_z58), (.int c38_c11_rv)])) t → Steps p.tables e below (s₁.setTop (entryFrame m #[(.int p0), (.int p1), (.int p2), (.int p3), (.int p4), (.int p5)] maxLocals)) t := by
        intro t k
        refine c36 t ?_
        show Steps p.tables e below (T35.setTop (mkF m 60 #[.val (.int p0), .val (.int p1), .val (.int p2), .val (.int p3), .val (.int p4), .val (.int p5), .val (.int z3), .val (.int z9), .val (.int c17_z58), .val (.int c27_z58), .val (.ref rb3_b1), .unset, .unset, .unset, .unset, .unset, .unset, .unset, .unset, .unset, .unset] [(.int c38_c18_rv), (.int c17_z58)])) _
        refine XS.icmpNo X35.here hx rfl (hb hby at_60) rfl (Jvm.Free.XT.ii_ge_f hb60) ?_
        show Steps p.tables e below (T35.setTop (mkF m 63 #[.val (.int p0), .val (.int p1), .val (.int p2), .val (.int p3), .val (.int p4), .val (.int p5), .val (.int z3), .val (.int z9), .val (.int c17_z58), .val (.int c27_z58), .val (.ref rb3_b1), .unset, .unset, .unset, .unset, .unset, .unset, .unset, .unset, .unset, .unset] [])) _
        refine XS.iconst X35.here hx rfl (hb hby at_63) ?_
        show Steps p.tables e below (T35.setTop (mkF m 64 #[.val (.int p0), .val (.int p1), .val (.int p2), .val (.int p3), .val (.int p4), .val (.int p5), .val (.int z3), .val (.int z9), .val (.int c17_z58), .val (.int c27_z58), .val (.ref rb3_b1), .unset, .unset, .unset, .unset, .unset, .unset, .unset, .unset, .unset, .unset] [(.int (1 : Int32))])) _
        refine XS.goto X35.here hx rfl (pc0 := 64) (pc' := 68) rfl (hb hby at_64) (by decide) (by decide) ?_
        show Steps p.tables e below (T35.setTop (mkF m 68 #[.val (.int p0), .val (.int p1), .val (.int p2), .val (.int p3), .val (.int p4), .val (.int p5), .val (.int z3), .val (.int z9), .val (.int c17_z58), .val (.int c27_z58), .val (.ref rb3_b1), .unset, .unset, .unset, .unset, .unset, .unset, .unset, .unset, .unset, .unset] [(.int (1 : Int32))])) _
        refine XS.istore X35.here hx rfl (hb hby at_68) rfl (l' := #[.val (.int p0), .val (.int p1), .val (.int p2), .val (.int p3), .val (.int p4), .val (.int p5), .val (.int z3), .val (.int z9), .val (.int c17_z58), .val (.int c27_z58), .val (.ref rb3_b1), .val (.int (1 : Int32)), .unset, .unset, .unset, .unset, .unset, .unset, .unset, .unset, .unset]) rfl ?_
        show Steps p.tables e below (T35.setTop (mkF m 70 #[.val (.int p0), .val (.int p1), .val (.int p2), .val (.int p3), .val (.int p4), .val (.int p5), .val (.int z3), .val (.int z9), .val (.int c17_z58), .val (.int c27_z58), .val (.ref rb3_b1), .val (.int (1 : Int32)), .unset, .unset, .unset, .unset, .unset, .unset, .unset, .unset, .unset] [])) _
        refine XS.aload X35.here hx rfl (hb hby at_70) rfl rfl ?_
        show Steps p.tables e below (T35.setTop (mkF m 72 #[.val (.int p0), .val (.int p1), .val (.int p2), .val (.int p3), .val (.int p4), .val (.int p5), .val (.int z3), .val (.int z9), .val (.int c17_z58), .val (.int c27_z58), .val (.ref rb3_b1), .val (.int (1 : Int32)), .unset, .unset, .unset, .unset, .unset, .unset, .unset, .unset, .unset] [(.ref rb3_b1)])) _
        refine st37.trans ?_
        show Steps p.tables e below (T37.setTop (mkF m 75 #[.val (.int p0), .val (.int p1), .val (.int p2), .val (.int p3), .val (.int p4), .val (.int p5), .val (.int z3), .val (.int z9), .val (.int c17_z58), .val (.int c27_z58), .val (.ref rb3_b1), .val (.int (1 : Int32)), .unset, .unset, .unset, .unset, .unset, .unset, .unset, .unset, .unset] [(.int c38_c11_rv)])) _
        refine XS.iload X37.here hx rfl (hb hby at_75) rfl ?_
        exact k
      by_cases hb77 : c27_z58 < c38_c11_rv
      · skip
        obtain ⟨c102_z1, hc102_z1⟩ : ∃ z : Int64, c17_z58.toInt64 = z := ⟨_, rfl⟩
        obtain ⟨c102_z5, hc102_z5⟩ : ∃ z : Int64, p2.toInt64 = z := ⟨_, rfl⟩
        obtain ⟨c102_z6, hc102_z6⟩ : ∃ z : Int64, c102_z1 - c102_z5 = z := ⟨_, rfl⟩
        obtain ⟨c102_z11, hc102_z11⟩ : ∃ z : Int32, lcmpW (0 : Int64) c102_z1 = z := ⟨_, rfl⟩
        obtain ⟨c102_z17, hc102_z17⟩ : ∃ z : Int64, z3.toInt64 = z := ⟨_, rfl⟩
        obtain ⟨c102_z18, hc102_z18⟩ : ∃ z : Int32, lcmpW c102_z1 c102_z17 = z := ⟨_, rfl⟩
        obtain ⟨c102_z25, hc102_z25⟩ : ∃ z : Int32, lcmpW (0 : Int64) c102_z6 = z := ⟨_, rfl⟩
        obtain ⟨c102_z32, hc102_z32⟩ : ∃ z : Int64, z3.toInt64 = z := ⟨_, rfl⟩
        obtain ⟨c102_z33, hc102_z33⟩ : ∃ z : Int32, lcmpW c102_z6 c102_z32 = z := ⟨_, rfl⟩
        obtain ⟨c102_rv, hc102_rv⟩ : ∃ z : Int32, (if (0 : Int32) < c102_z11 then (0 : Int32) else (if c102_z18 < (0 : Int32) then (if (0 : Int32) < c102_z25 then (0 : Int32) else (if c102_z33 < (0 : Int32) then (1 : Int32) else (0 : Int32))) else (0 : Int32))) = z := ⟨_, rfl⟩
        obtain ⟨c112_z1, hc112_z1⟩ : ∃ z : Int64, c27_z58.toInt64 = z := ⟨_, rfl⟩
        obtain ⟨c112_z5, hc112_z5⟩ : ∃ z : Int64, p3.toInt64 = z := ⟨_, rfl⟩
        obtain ⟨c112_z6, hc112_z6⟩ : ∃ z : Int64, c112_z1 - c112_z5 = z := ⟨_, rfl⟩
        obtain ⟨c112_z11, hc112_z11⟩ : ∃ z : Int32, lcmpW (0 : Int64) c112_z1 = z := ⟨_, rfl⟩
        obtain ⟨c112_z17, hc112_z17⟩ : ∃ z : Int64, z9.toInt64 = z := ⟨_, rfl⟩
        obtain ⟨c112_z18, hc112_z18⟩ : ∃ z : Int32, lcmpW c112_z1 c112_z17 = z := ⟨_, rfl⟩
        obtain ⟨c112_z25, hc112_z25⟩ : ∃ z : Int32, lcmpW (0 : Int64) c112_z6 = z := ⟨_, rfl⟩
        obtain ⟨c112_z32, hc112_z32⟩ : ∃ z : Int64, z9.toInt64 = z := ⟨_, rfl⟩
        obtain ⟨c112_z33, hc112_z33⟩ : ∃ z : Int32, lcmpW c112_z6 c112_z32 = z := ⟨_, rfl⟩
        obtain ⟨c112_rv, hc112_rv⟩ : ∃ z : Int32, (if (0 : Int32) < c112_z11 then (0 : Int32) else (if c112_z18 < (0 : Int32) then (if (0 : Int32) < c112_z25 then (0 : Int32) else (if c112_z33 < (0 : Int32) then (1 : Int32) else (0 : Int32))) else (0 : Int32))) = z := ⟨_, rfl⟩
        obtain ⟨z120, hz120⟩ : ∃ z : Int64, z3.toInt64 = z := ⟨_, rfl⟩
        obtain ⟨z122, hz122⟩ : ∃ z : Int64, p2.toInt64 = z := ⟨_, rfl⟩
        obtain ⟨c123_z2, hc123_z2⟩ : ∃ z : Int32, lcmpW z122 (0 : Int64) = z := ⟨_, rfl⟩
        obtain ⟨c123_z7, hc123_z7⟩ : ∃ z : Int64, -z122 = z := ⟨_, rfl⟩
        obtain ⟨c123_rv, hc123_rv⟩ : ∃ z : Int64, (if c123_z2 < (0 : Int32) then c123_z7 else z122) = z := ⟨_, rfl⟩
        obtain ⟨z126, hz126⟩ : ∃ z : Int64, z120 - c123_rv = z := ⟨_, rfl⟩
        obtain ⟨c127_z2, hc127_z2⟩ : ∃ z : Int32, lcmpW (0 : Int64) z126 = z := ⟨_, rfl⟩
        obtain ⟨c127_rv, hc127_rv⟩ : ∃ z : Int64, (if c127_z2 < (0 : Int32) then z126 else (0 : Int64)) = z := ⟨_, rfl⟩
        obtain ⟨z135, hz135⟩ : ∃ z : Int64, z9.toInt64 = z := ⟨_, rfl⟩
        obtain ⟨z137, hz137⟩ : ∃ z : Int64, p3.toInt64 = z := ⟨_, rfl⟩
        obtain ⟨c138_z2, hc138_z2⟩ : ∃ z : Int32, lcmpW z137 (0 : Int64) = z := ⟨_, rfl⟩
        obtain ⟨c138_z7, hc138_z7⟩ : ∃ z : Int64, -z137 = z := ⟨_, rfl⟩
        obtain ⟨c138_rv, hc138_rv⟩ : ∃ z : Int64, (if c138_z2 < (0 : Int32) then c138_z7 else z137) = z := ⟨_, rfl⟩
        obtain ⟨z141, hz141⟩ : ∃ z : Int64, z135 - c138_rv = z := ⟨_, rfl⟩
        obtain ⟨c142_z2, hc142_z2⟩ : ∃ z : Int32, lcmpW (0 : Int64) z141 = z := ⟨_, rfl⟩
        obtain ⟨c142_rv, hc142_rv⟩ : ∃ z : Int64, (if c142_z2 < (0 : Int32) then z141 else (0 : Int64)) = z := ⟨_, rfl⟩
        obtain ⟨z151, hz151⟩ : ∃ z : Int64, c127_rv * c142_rv = z := ⟨_, rfl⟩
        obtain ⟨z152, hz152⟩ : ∃ z : UInt64, FP.l2d z151 = z := ⟨_, rfl⟩
        obtain ⟨c171_z30, hc171_z30⟩ : ∃ z : Int32, c38_c18_rv - c38_c6_rv = z := ⟨_, rfl⟩
        obtain ⟨c171_z31, hc171_z31⟩ : ∃ z : UInt64, FP.i2d c171_z30 = z := ⟨_, rfl⟩
        obtain ⟨c171_z40, hc171_z40⟩ : ∃ z : Int32, c38_c25_rv - c38_c11_rv = z := ⟨_, rfl⟩
        obtain ⟨c171_z41, hc171_z41⟩ : ∃ z : UInt64, FP.i2d c171_z40 = z := ⟨_, rfl⟩
        obtain ⟨c171_z42, hc171_z42⟩ : ∃ z : UInt64, FP.dmul c171_z31 c171_z41 = z := ⟨_, rfl⟩
        obtain ⟨c171_rv, hc171_rv⟩ : ∃ z : UInt64, (if c38_c6_rv < c38_c18_rv then (if c38_c11_rv < c38_c25_rv then c171_z42 else FP.dconst0) else FP.dconst0) = z := ⟨_, rfl⟩
        obtain ⟨z176, hz176⟩ : ∃ z : Int32, cmpValue (FP.dcmp c171_rv z152) .l = z := ⟨_, rfl⟩
        obtain ⟨_, _, ⟨T39, L39, k39, n39⟩, -, X39, ⟨Lc39, hQ39, ql39, qy39, qz39⟩, st39⟩ := Jvm.LawKit.callS X37 hx (y := (⟨"com/example/vetrino/vetrino/OverlapOfPinLaw", "meets", "(III)Z"⟩ : MethodName)) hown (mvT hZ (hw _ (List.mem_of_getElem? (i := 47) rfl))) (mvT hZ (hw _ (List.mem_of_getElem? (i := 48) rfl))) (mvT hZ (hw _ (List.mem_of_getElem? (i := 3) rfl))) (mvT hZ (hw _ (List.mem_of_getElem? (i := 49) rfl))) (by decide) (backOf (W := 0) (rm10 l Z a0 hw [] c17_z58 p2 z3 c102_z1 c102_z5 c102_z6 c102_z11 c102_z17 c102_z18 c102_z25 c102_z32 c102_z33 c102_rv T3.heap n0 (Nat.le_trans Z0 K3q.1) hc102_z1 hc102_z5 hc102_z6 hc102_z11 hc102_z17 hc102_z18 hc102_z25 hc102_z32 hc102_z33 hc102_rv) hZ (hw _ (List.mem_of_getElem? (i := 49) rfl)) (hw _ (List.mem_of_getElem? (i := 3) rfl)) (by decide) (by decide)) (g := (mkF m 102 #[.val (.int p0), .val (.int p1), .val (.int p2), .val (.int p3), .val (.int p4), .val (.int p5), .val (.int z3), .val (.int z9), .val (.int c17_z58), .val (.int c27_z58), .val (.ref rb3_b1), .val (.int (1 : Int32)), .val (.int (0 : Int32)), .unset, .unset, .unset, .unset, .unset, .unset, .unset, .unset] [(.int z3), (.int p2), (.int c17_z58)])) rfl (by rw [hml]; rfl) (argsL := [(.int c17_z58), (.int p2), (.int z3)]) (rest := []) (lenOf pd_5 rfl) rfl (by show 2 * 0 + _ ≤ _; exact Nat.le_of_eq rfl) (hb hby at_102) (fun _ _ => ⟨rfl, e37, (by decide : 1 + 0 ≤ _), (by decide : 4 + 0 ≤ _)⟩)
        dsimp only [Pt.U, Pt.locs, Pt.cells, Pt.slots] at X39 ql39 qy39 qz39 st39 hQ39
        subst ql39 qy39 qz39
        obtain ⟨rfl, N39q, e39⟩ := hQ39
        have N39 := Fr.app N37 N39q
        obtain ⟨_, _, ⟨T40, L40, k40, n40⟩, -, X40, ⟨Lc40, hQ40, ql40, qy40, qz40⟩, st40⟩ := Jvm.LawKit.callS X39 hx (y := (⟨"com/example/vetrino/vetrino/OverlapOfPinLaw", "meets", "(III)Z"⟩ : MethodName)) hown (mvT hZ (hw _ (List.mem_of_getElem? (i := 47) rfl))) (mvT hZ (hw _ (List.mem_of_getElem? (i := 48) rfl))) (mvT hZ (hw _ (List.mem_of_getElem? (i := 3) rfl))) (mvT hZ (hw _ (List.mem_of_getElem? (i := 49) rfl))) (by decide) (backOf (W := 0) (rm10 l Z a0 hw [] c27_z58 p3 z9 c112_z1 c112_z5 c112_z6 c112_z11 c112_z17 c112_z18 c112_z25 c112_z32 c112_z33 c112_rv T3.heap n0 (Nat.le_trans Z0 K3q.1) hc112_z1 hc112_z5 hc112_z6 hc112_z11 hc112_z17 hc112_z18 hc112_z25 hc112_z32 hc112_z33 hc112_rv) hZ (hw _ (List.mem_of_getElem? (i := 49) rfl)) (hw _ (List.mem_of_getElem? (i := 3) rfl)) (by decide) (by decide)) (g := (mkF m 112 #[.val (.int p0), .val (.int p1), .val (.int p2), .val (.int p3), .val (.int p4), .val (.int p5), .val (.int z3), .val (.int z9), .val (.int c17_z58), .val (.int c27_z58), .val (.ref rb3_b1), .val (.int (1 : Int32)), .val (.int (0 : Int32)), .val (.int c102_rv), .unset, .unset, .unset, .unset, .unset, .unset, .unset] [(.int z9), (.int p3), (.int c27_z58)])) rfl (by rw [hml]; rfl) (argsL := [(.int c27_z58), (.int p3), (.int z9)]) (rest := []) (lenOf pd_5 rfl) rfl (by show 2 * 0 + _ ≤ _; exact Nat.le_of_eq rfl) (hb hby at_112) (fun _ _ => ⟨rfl, e39, (by decide : 1 + 0 ≤ _), (by decide : 4 + 0 ≤ _)⟩)
        dsimp only [Pt.U, Pt.locs, Pt.cells, Pt.slots] at X40 ql40 qy40 qz40 st40 hQ40
        subst ql40 qy40 qz40
        obtain ⟨rfl, N40q, e40⟩ := hQ40
        have N40 := Fr.app N39 N40q
        obtain ⟨_, _, ⟨T41, L41, k41, n41⟩, -, X41, ⟨Lc41, hQ41, ql41, qy41, qz41⟩, st41⟩ := Jvm.LawKit.callS X40 hx (y := (⟨"java/lang/Math", "abs", "(J)J"⟩ : MethodName)) hown (mvT hZ (hw _ (List.mem_of_getElem? (i := 50) rfl))) (mvT hZ (hw _ (List.mem_of_getElem? (i := 51) rfl))) (mvT hZ (hw _ (List.mem_of_getElem? (i := 13) rfl))) (mvT hZ (hw _ (List.mem_of_getElem? (i := 52) rfl))) (by decide) (backOf (W := 4) (rm11 l Z a0 hw [] z122 c123_z2 c123_z7 c123_rv T3.heap n0 (Nat.le_trans Z0 K3q.1) hc123_z2 hc123_z7 hc123_rv) hZ (hw _ (List.mem_of_getElem? (i := 52) rfl)) (hw _ (List.mem_of_getElem? (i := 13) rfl)) (by decide) (by decide)) (g := (mkF m 123 #[.val (.int p0), .val (.int p1), .val (.int p2), .val (.int p3), .val (.int p4), .val (.int p5), .val (.int z3), .val (.int z9), .val (.int c17_z58), .val (.int c27_z58), .val (.ref rb3_b1), .val (.int (1 : Int32)), .val (.int (0 : Int32)), .val (.int c102_rv), .val (.int c112_rv), .unset, .unset, .unset, .unset, .unset, .unset] [(.long z122), (.long z120), (.long (0 : Int64))])) rfl (by rw [hml]; rfl) (argsL := [(.long z122)]) (rest := [(.long z120), (.long (0 : Int64))]) (lenOf pd_6 rfl) rfl (by show 2 * 0 + _ ≤ _; exact Nat.le_of_eq rfl) (hb hby at_123) (fun _ _ => ⟨rfl, e40, (by decide : 1 + 0 ≤ _), (by decide : 4 + 0 ≤ _)⟩)
        dsimp only [Pt.U, Pt.locs, Pt.cells, Pt.slots] at X41 ql41 qy41 qz41 st41 hQ41
        subst ql41 qy41 qz41
        obtain ⟨rfl, N41q, e41⟩ := hQ41
        have N41 := Fr.app N40 N41q
        obtain ⟨_, _, ⟨T42, L42, k42, n42⟩, -, X42, ⟨Lc42, hQ42, ql42, qy42, qz42⟩, st42⟩ := Jvm.LawKit.callS X41 hx (y := (⟨"java/lang/Math", "max", "(JJ)J"⟩ : MethodName)) hown (mvT hZ (hw _ (List.mem_of_getElem? (i := 53) rfl))) (mvT hZ (hw _ (List.mem_of_getElem? (i := 54) rfl))) (mvT hZ (hw _ (List.mem_of_getElem? (i := 13) rfl))) (mvT hZ (hw _ (List.mem_of_getElem? (i := 55) rfl))) (by decide) (backOf (W := 0) (rm12 l Z a0 hw [] (0 : Int64) z126 c127_z2 c127_rv T3.heap n0 (Nat.le_trans Z0 K3q.1) hc127_z2 hc127_rv) hZ (hw _ (List.mem_of_getElem? (i := 55) rfl)) (hw _ (List.mem_of_getElem? (i := 13) rfl)) (by decide) (by decide)) (g := (mkF m 127 #[.val (.int p0), .val (.int p1), .val (.int p2), .val (.int p3), .val (.int p4), .val (.int p5), .val (.int z3), .val (.int z9), .val (.int c17_z58), .val (.int c27_z58), .val (.ref rb3_b1), .val (.int (1 : Int32)), .val (.int (0 : Int32)), .val (.int c102_rv), .val (.int c112_rv), .unset, .unset, .unset, .unset, .unset, .unset] [(.long z126), (.long (0 : Int64))])) rfl (by rw [hml]; rfl) (argsL := [(.long (0 : Int64)), (.long z126)]) (rest := []) (lenOf pd_7 rfl) rfl (by show 2 * 0 + _ ≤ _; exact Nat.le_of_eq rfl) (hb hby at_127) (fun _ _ => ⟨rfl, e41, (by decide : 1 + 0 ≤ _), (by decide : 4 + 0 ≤ _)⟩)
        dsimp only [Pt.U, Pt.locs, Pt.cells, Pt.slots] at X42 ql42 qy42 qz42 st42 hQ42
        subst ql42 qy42 qz42
        obtain ⟨rfl, N42q, e42⟩ := hQ42
        have N42 := Fr.app N41 N42q
        obtain ⟨_, _, ⟨T43, L43, k43, n43⟩, -, X43, ⟨Lc43, hQ43, ql43, qy43, qz43⟩, st43⟩ := Jvm.LawKit.callS X42 hx (y := (⟨"java/lang/Math", "abs", "(J)J"⟩ : MethodName)) hown (mvT hZ (hw _ (List.mem_of_getElem? (i := 50) rfl))) (mvT hZ (hw _ (List.mem_of_getElem? (i := 51) rfl))) (mvT hZ (hw _ (List.mem_of_getElem? (i := 13) rfl))) (mvT hZ (hw _ (List.mem_of_getElem? (i := 52) rfl))) (by decide) (backOf (W := 4) (rm11 l Z a0 hw [] z137 c138_z2 c138_z7 c138_rv T3.heap n0 (Nat.le_trans Z0 K3q.1) hc138_z2 hc138_z7 hc138_rv) hZ (hw _ (List.mem_of_getElem? (i := 52) rfl)) (hw _ (List.mem_of_getElem? (i := 13) rfl)) (by decide) (by decide)) (g := (mkF m 138 #[.val (.int p0), .val (.int p1), .val (.int p2), .val (.int p3), .val (.int p4), .val (.int p5), .val (.int z3), .val (.int z9), .val (.int c17_z58), .val (.int c27_z58), .val (.ref rb3_b1), .val (.int (1 : Int32)), .val (.int (0 : Int32)), .val (.int c102_rv), .val (.int c112_rv), .val (.long c127_rv), .second, .unset, .unset, .unset, .unset] [(.long z137), (.long z135), (.long (0 : Int64))])) rfl (by rw [hml]; rfl) (argsL := [(.long z137)]) (rest := [(.long z135), (.long (0 : Int64))]) (lenOf pd_6 rfl) rfl (by show 2 * 0 + _ ≤ _; exact Nat.le_of_eq rfl) (hb hby at_138) (fun _ _ => ⟨rfl, e42, (by decide : 1 + 0 ≤ _), (by decide : 4 + 0 ≤ _)⟩)
        dsimp only [Pt.U, Pt.locs, Pt.cells, Pt.slots] at X43 ql43 qy43 qz43 st43 hQ43
        subst ql43 qy43 qz43
        obtain ⟨rfl, N43q, e43⟩ := hQ43
        have N43 := Fr.app N42 N43q
        obtain ⟨_, _, ⟨T44, L44, k44, n44⟩, -, X44, ⟨Lc44, hQ44, ql44, qy44, qz44⟩, st44⟩ := Jvm.LawKit.callS X43 hx (y := (⟨"java/lang/Math", "max", "(JJ)J"⟩ : MethodName)) hown (mvT hZ (hw _ (List.mem_of_getElem? (i := 53) rfl))) (mvT hZ (hw _ (List.mem_of_getElem? (i := 54) rfl))) (mvT hZ (hw _ (List.mem_of_getElem? (i := 13) rfl))) (mvT hZ (hw _ (List.mem_of_getElem? (i := 55) rfl))) (by decide) (backOf (W := 0) (rm12 l Z a0 hw [] (0 : Int64) z141 c142_z2 c142_rv T3.heap n0 (Nat.le_trans Z0 K3q.1) hc142_z2 hc142_rv) hZ (hw _ (List.mem_of_getElem? (i := 55) rfl)) (hw _ (List.mem_of_getElem? (i := 13) rfl)) (by decide) (by decide)) (g := (mkF m 142 #[.val (.int p0), .val (.int p1), .val (.int p2), .val (.int p3), .val (.int p4), .val (.int p5), .val (.int z3), .val (.int z9), .val (.int c17_z58), .val (.int c27_z58), .val (.ref rb3_b1), .val (.int (1 : Int32)), .val (.int (0 : Int32)), .val (.int c102_rv), .val (.int c112_rv), .val (.long c127_rv), .second, .unset, .unset, .unset, .unset] [(.long z141), (.long (0 : Int64))])) rfl (by rw [hml]; rfl) (argsL := [(.long (0 : Int64)), (.long z141)]) (rest := []) (lenOf pd_7 rfl) rfl (by show 2 * 0 + _ ≤ _; exact Nat.le_of_eq rfl) (hb hby at_142) (fun _ _ => ⟨rfl, e43, (by decide : 1 + 0 ≤ _), (by decide : 4 + 0 ≤ _)⟩)
        dsimp only [Pt.U, Pt.locs, Pt.cells, Pt.slots] at X44 ql44 qy44 qz44 st44 hQ44
        subst ql44 qy44 qz44
        obtain ⟨rfl, N44q, e44⟩ := hQ44
        have N44 := Fr.app N43 N44q
        have br159 : (1 : Int32) = c102_rv := by
          rw [meet hA hc38_z17 hc38_c6_rv hc38_c18_rv hc102_z1 hc102_z5 hc102_z6 hc102_z11 hc102_z17 hc102_z18 hc102_z25 hc102_z32 hc102_z33 hc102_rv, if_neg hb50, if_pos hb60]
        have br166 : (0 : Int32) = c112_rv := by
          rw [meet hB hc38_z24 hc38_c11_rv hc38_c25_rv hc112_z1 hc112_z5 hc112_z6 hc112_z11 hc112_z17 hc112_z18 hc112_z25 hc112_z32 hc112_z33 hc112_rv, if_pos hb77]
        obtain ⟨c171_nn42, fin⟩ := area (side hA hc38_z17 hc38_c6_rv hc38_c18_rv hz120 hz122 hc123_z2 hc123_z7 hc123_rv hz126 hc127_z2 hc127_rv) (side hB hc38_z24 hc38_c11_rv hc38_c25_rv hz135 hz137 hc138_z2 hc138_z7 hc138_rv hz141 hc142_z2 hc142_rv) hc171_z30 hc171_z40 hc171_z31 hc171_z41 hc171_z42 hz151 hz152 hc171_rv
        obtain ⟨cq45, kq45, q45a, q45b, q45c⟩ := isOf hZ e44 Q3_0
        obtain ⟨_, _, ⟨T45, L45, k45, n45⟩, -, X45, ⟨Lc45, hQ45, ql45, qy45, qz45⟩, st45⟩ := X44.virtualBack hx (y := (⟨"com/example/vetrino/vetrino/Overlap", "area", "()D"⟩ : MethodName)) (z := (⟨"com/example/vetrino/vetrino/Overlap", "area", "()D"⟩ : MethodName)) hown (mvT hZ (hw _ (List.mem_of_getElem? (i := 56) rfl))) (mvT hZ (hw _ (List.mem_of_getElem? (i := 57) rfl))) (notFace_of_selects (args := #[]) (mvT hZ (hw _ (List.mem_of_getElem? (i := 59) rfl)))) (mvT hZ (hw _ (List.mem_of_getElem? (i := 59) rfl))) (mvT hZ (hw _ (List.mem_of_getElem? (i := 58) rfl))) (by decide) (backOf (W := 0) (rm13 l Z a0 hw [] rb3_b1 c38_c18_rv c38_c6_rv c38_c25_rv c38_c11_rv c171_z30 c171_z31 c171_z40 c171_z41 c171_z42 c171_rv T3.heap n0 (Nat.le_trans Z0 K3q.1) Q3_3 Q3_1 Q3_4 Q3_2 hc171_z30 hc171_z31 hc171_z40 hc171_z41 hc171_z42 hc171_rv c171_nn42) hZ (hw _ (List.mem_of_getElem? (i := 60) rfl)) (hw _ (List.mem_of_getElem? (i := 7) rfl)) (by decide) (by decide)) q45a q45c (g := (mkF m 171 #[.val (.int p0), .val (.int p1), .val (.int p2), .val (.int p3), .val (.int p4), .val (.int p5), .val (.int z3), .val (.int z9), .val (.int c17_z58), .val (.int c27_z58), .val (.ref rb3_b1), .val (.int (1 : Int32)), .val (.int (0 : Int32)), .val (.int c102_rv), .val (.int c112_rv), .val (.long c127_rv), .second, .val (.long c142_rv), .second, .val (.double z152), .second] [(.ref rb3_b1)])) rfl (by rw [hml]; rfl) (Steps.refl _) (argsL := []) (rest := []) (lenOf pd_8 rfl) rfl (by show 2 * 0 + _ ≤ _; exact Nat.le_of_eq rfl) (hb hby at_171) (fun _ _ => ⟨rfl, e44, (by decide : 1 + 0 ≤ _), (by decide : 4 + 0 ≤ _)⟩)
        dsimp only [Pt.U, Pt.locs, Pt.cells, Pt.slots] at X45 ql45 qy45 qz45 st45 hQ45
        subst ql45 qy45 qz45
        obtain ⟨rfl, N45q, e45⟩ := hQ45
        have N45 := Fr.app N44 N45q
        have br177 : z176 = 0 := hz176.symm.trans fin
        have c46 : ∀ t, Steps p.tables e below (T45.setTop (mkF m 185 #[.val (.int p0), .val (.int p1), .val (.int p2), .val (.int p3), .val (.int p4), .val (.int p5), .val (.int z3), .val (.int z9), .val (.int c17_z58), .val (.int c27_z58), .val (.ref rb3_b1), .val (.int (1 : Int32)), .val (.int (0 : Int32)), .val (.int c102_rv), .val (.int c112_rv), .val (.long c127_rv), .second, .val (.long c142_rv), .second, .val (.double z152), .second] [(.int (1 : Int32))])) t → Steps p.tables e below (s₁.setTop (entryFrame m #[(.int p0), (.int p1), (.int p2), (.int p3), (.int p4), (.int p5)] maxLocals)) t := by
          intro t k
          refine c38 t ?_
          show Steps p.tables e below (T37.setTop (mkF m 77 #[.val (.int p0), .val (.int p1), .val (.int p2), .val (.int p3), .val (.int p4), .val (.int p5), .val (.int z3), .val (.int z9), .val (.int c17_z58), .val (.int c27_z58), .val (.ref rb3_b1), .val (.int (1 : Int32)), .unset, .unset, .unset, .unset, .unset, .unset, .unset, .unset, .unset] [(.int c27_z58), (.int c38_c11_rv)])) _
          refine XS.icmpYes X37.here hx rfl (pc0 := 77) (pc' := 94) rfl (hb hby at_77) rfl (Jvm.Free.XT.ii_gt_t hb77) (by decide) (by decide) ?_
          show Steps p.tables e below (T37.setTop (mkF m 94 #[.val (.int p0), .val (.int p1), .val (.int p2), .val (.int p3), .val (.int p4), .val (.int p5), .val (.int z3), .val (.int z9), .val (.int c17_z58), .val (.int c27_z58), .val (.ref rb3_b1), .val (.int (1 : Int32)), .unset, .unset, .unset, .unset, .unset, .unset, .unset, .unset, .unset] [])) _
          refine XS.iconst X37.here hx rfl (hb hby at_94) ?_
          show Steps p.tables e below (T37.setTop (mkF m 95 #[.val (.int p0), .val (.int p1), .val (.int p2), .val (.int p3), .val (.int p4), .val (.int p5), .val (.int z3), .val (.int z9), .val (.int c17_z58), .val (.int c27_z58), .val (.ref rb3_b1), .val (.int (1 : Int32)), .unset, .unset, .unset, .unset, .unset, .unset, .unset, .unset, .unset] [(.int (0 : Int32))])) _
          refine XS.istore X37.here hx rfl (hb hby at_95) rfl (l' := #[.val (.int p0), .val (.int p1), .val (.int p2), .val (.int p3), .val (.int p4), .val (.int p5), .val (.int z3), .val (.int z9), .val (.int c17_z58), .val (.int c27_z58), .val (.ref rb3_b1), .val (.int (1 : Int32)), .val (.int (0 : Int32)), .unset, .unset, .unset, .unset, .unset, .unset, .unset, .unset]) rfl ?_
          show Steps p.tables e below (T37.setTop (mkF m 97 #[.val (.int p0), .val (.int p1), .val (.int p2), .val (.int p3), .val (.int p4), .val (.int p5), .val (.int z3), .val (.int z9), .val (.int c17_z58), .val (.int c27_z58), .val (.ref rb3_b1), .val (.int (1 : Int32)), .val (.int (0 : Int32)), .unset, .unset, .unset, .unset, .unset, .unset, .unset, .unset] [])) _
          refine XS.iload X37.here hx rfl (hb hby at_97) rfl ?_
          show Steps p.tables e below (T37.setTop (mkF m 99 #[.val (.int p0), .val (.int p1), .val (.int p2), .val (.int p3), .val (.int p4), .val (.int p5), .val (.int z3), .val (.int z9), .val (.int c17_z58), .val (.int c27_z58), .val (.ref rb3_b1), .val (.int (1 : Int32)), .val (.int (0 : Int32)), .unset, .unset, .unset, .unset, .unset, .unset, .unset, .unset] [(.int c17_z58)])) _
          refine XS.iloadN X37.here hx rfl (hb hby at_99) rfl ?_
          show Steps p.tables e below (T37.setTop (mkF m 100 #[.val (.int p0), .val (.int p1), .val (.int p2), .val (.int p3), .val (.int p4), .val (.int p5), .val (.int z3), .val (.int z9), .val (.int c17_z58), .val (.int c27_z58), .val (.ref rb3_b1), .val (.int (1 : Int32)), .val (.int (0 : Int32)), .unset, .unset, .unset, .unset, .unset, .unset, .unset, .unset] [(.int p2), (.int c17_z58)])) _
          refine XS.iload X37.here hx rfl (hb hby at_100) rfl ?_
          show Steps p.tables e below (T37.setTop (mkF m 102 #[.val (.int p0), .val (.int p1), .val (.int p2), .val (.int p3), .val (.int p4), .val (.int p5), .val (.int z3), .val (.int z9), .val (.int c17_z58), .val (.int c27_z58), .val (.ref rb3_b1), .val (.int (1 : Int32)), .val (.int (0 : Int32)), .unset, .unset, .unset, .unset, .unset, .unset, .unset, .unset] [(.int z3), (.int p2), (.int c17_z58)])) _
          refine st39 _ ?_
          show Steps p.tables e below (T39.setTop (mkF m 105 #[.val (.int p0), .val (.int p1), .val (.int p2), .val (.int p3), .val (.int p4), .val (.int p5), .val (.int z3), .val (.int z9), .val (.int c17_z58), .val (.int c27_z58), .val (.ref rb3_b1), .val (.int (1 : Int32)), .val (.int (0 : Int32)), .unset, .unset, .unset, .unset, .unset, .unset, .unset, .unset] [(.int c102_rv)])) _
          refine XS.istore X39.here hx rfl (hb hby at_105) rfl (l' := #[.val (.int p0), .val (.int p1), .val (.int p2), .val (.int p3), .val (.int p4), .val (.int p5), .val (.int z3), .val (.int z9), .val (.int c17_z58), .val (.int c27_z58), .val (.ref rb3_b1), .val (.int (1 : Int32)), .val (.int (0 : Int32)), .val (.int c102_rv), .unset, .unset, .unset, .unset, .unset, .unset, .unset]) rfl ?_
          show Steps p.tables e below (T39.setTop (mkF m 107 #[.val (.int p0), .val (.int p1), .val (.int p2), .val (.int p3), .val (.int p4), .val (.int p5), .val (.int z3), .val (.int z9), .val (.int c17_z58), .val (.int c27_z58), .val (.ref rb3_b1), .val (.int (1 : Int32)), .val (.int (0 : Int32)), .val (.int c102_rv), .unset, .unset, .unset, .unset, .unset, .unset, .unset] [])) _
          refine XS.iload X39.here hx rfl (hb hby at_107) rfl ?_
          show Steps p.tables e below (T39.setTop (mkF m 109 #[.val (.int p0), .val (.int p1), .val (.int p2), .val (.int p3), .val (.int p4), .val (.int p5), .val (.int z3), .val (.int z9), .val (.int c17_z58), .val (.int c27_z58), .val (.ref rb3_b1), .val (.int (1 : Int32)), .val (.int (0 : Int32)), .val (.int c102_rv), .unset, .unset, .unset, .unset, .unset, .unset, .unset] [(.int c27_z58)])) _
          refine XS.iloadN X39.here hx rfl (hb hby at_109) rfl ?_
          show Steps p.tables e below (T39.setTop (mkF m 110 #[.val (.int p0), .val (.int p1), .val (.int p2), .val (.int p3), .val (.int p4), .val (.int p5), .val (.int z3), .val (.int z9), .val (.int c17_z58), .val (.int c27_z58), .val (.ref rb3_b1), .val (.int (1 : Int32)), .val (.int (0 : Int32)), .val (.int c102_rv), .unset, .unset, .unset, .unset, .unset, .unset, .unset] [(.int p3), (.int c27_z58)])) _
          refine XS.iload X39.here hx rfl (hb hby at_110) rfl ?_
          show Steps p.tables e below (T39.setTop (mkF m 112 #[.val (.int p0), .val (.int p1), .val (.int p2), .val (.int p3), .val (.int p4), .val (.int p5), .val (.int z3), .val (.int z9), .val (.int c17_z58), .val (.int c27_z58), .val (.ref rb3_b1), .val (.int (1 : Int32)), .val (.int (0 : Int32)), .val (.int c102_rv), .unset, .unset, .unset, .unset, .unset, .unset, .unset] [(.int z9), (.int p3), (.int c27_z58)])) _
          refine st40 _ ?_
          show Steps p.tables e below (T40.setTop (mkF m 115 #[.val (.int p0), .val (.int p1), .val (.int p2), .val (.int p3), .val (.int p4), .val (.int p5), .val (.int z3), .val (.int z9), .val (.int c17_z58), .val (.int c27_z58), .val (.ref rb3_b1), .val (.int (1 : Int32)), .val (.int (0 : Int32)), .val (.int c102_rv), .unset, .unset, .unset, .unset, .unset, .unset, .unset] [(.int c112_rv)])) _
          refine XS.istore X40.here hx rfl (hb hby at_115) rfl (l' := #[.val (.int p0), .val (.int p1), .val (.int p2), .val (.int p3), .val (.int p4), .val (.int p5), .val (.int z3), .val (.int z9), .val (.int c17_z58), .val (.int c27_z58), .val (.ref rb3_b1), .val (.int (1 : Int32)), .val (.int (0 : Int32)), .val (.int c102_rv), .val (.int c112_rv), .unset, .unset, .unset, .unset, .unset, .unset]) rfl ?_
          show Steps p.tables e below (T40.setTop (mkF m 117 #[.val (.int p0), .val (.int p1), .val (.int p2), .val (.int p3), .val (.int p4), .val (.int p5), .val (.int z3), .val (.int z9), .val (.int c17_z58), .val (.int c27_z58), .val (.ref rb3_b1), .val (.int (1 : Int32)), .val (.int (0 : Int32)), .val (.int c102_rv), .val (.int c112_rv), .unset, .unset, .unset, .unset, .unset, .unset] [])) _
          refine XS.lconst X40.here hx rfl (hb hby at_117) ?_
          show Steps p.tables e below (T40.setTop (mkF m 118 #[.val (.int p0), .val (.int p1), .val (.int p2), .val (.int p3), .val (.int p4), .val (.int p5), .val (.int z3), .val (.int z9), .val (.int c17_z58), .val (.int c27_z58), .val (.ref rb3_b1), .val (.int (1 : Int32)), .val (.int (0 : Int32)), .val (.int c102_rv), .val (.int c112_rv), .unset, .unset, .unset, .unset, .unset, .unset] [(.long (0 : Int64))])) _
          refine XS.iload X40.here hx rfl (hb hby at_118) rfl ?_
          show Steps p.tables e below (T40.setTop (mkF m 120 #[.val (.int p0), .val (.int p1), .val (.int p2), .val (.int p3), .val (.int p4), .val (.int p5), .val (.int z3), .val (.int z9), .val (.int c17_z58), .val (.int c27_z58), .val (.ref rb3_b1), .val (.int (1 : Int32)), .val (.int (0 : Int32)), .val (.int c102_rv), .val (.int c112_rv), .unset, .unset, .unset, .unset, .unset, .unset] [(.int z3), (.long (0 : Int64))])) _
          refine Jvm.OwnK.i2l X40.here hx rfl (hb hby at_120) rfl hz120 ?_
          show Steps p.tables e below (T40.setTop (mkF m 121 #[.val (.int p0), .val (.int p1), .val (.int p2), .val (.int p3), .val (.int p4), .val (.int p5), .val (.int z3), .val (.int z9), .val (.int c17_z58), .val (.int c27_z58), .val (.ref rb3_b1), .val (.int (1 : Int32)), .val (.int (0 : Int32)), .val (.int c102_rv), .val (.int c112_rv), .unset, .unset, .unset, .unset, .unset, .unset] [(.long z120), (.long (0 : Int64))])) _
          refine XS.iloadN X40.here hx rfl (hb hby at_121) rfl ?_
          show Steps p.tables e below (T40.setTop (mkF m 122 #[.val (.int p0), .val (.int p1), .val (.int p2), .val (.int p3), .val (.int p4), .val (.int p5), .val (.int z3), .val (.int z9), .val (.int c17_z58), .val (.int c27_z58), .val (.ref rb3_b1), .val (.int (1 : Int32)), .val (.int (0 : Int32)), .val (.int c102_rv), .val (.int c112_rv), .unset, .unset, .unset, .unset, .unset, .unset] [(.int p2), (.long z120), (.long (0 : Int64))])) _
          refine Jvm.OwnK.i2l X40.here hx rfl (hb hby at_122) rfl hz122 ?_
          show Steps p.tables e below (T40.setTop (mkF m 123 #[.val (.int p0), .val (.int p1), .val (.int p2), .val (.int p3), .val (.int p4), .val (.int p5), .val (.int z3), .val (.int z9), .val (.int c17_z58), .val (.int c27_z58), .val (.ref rb3_b1), .val (.int (1 : Int32)), .val (.int (0 : Int32)), .val (.int c102_rv), .val (.int c112_rv), .unset, .unset, .unset, .unset, .unset, .unset] [(.long z122), (.long z120), (.long (0 : Int64))])) _
          refine st41 _ ?_
          show Steps p.tables e below (T41.setTop (mkF m 126 #[.val (.int p0), .val (.int p1), .val (.int p2), .val (.int p3), .val (.int p4), .val (.int p5), .val (.int z3), .val (.int z9), .val (.int c17_z58), .val (.int c27_z58), .val (.ref rb3_b1), .val (.int (1 : Int32)), .val (.int (0 : Int32)), .val (.int c102_rv), .val (.int c112_rv), .unset, .unset, .unset, .unset, .unset, .unset] [(.long c123_rv), (.long z120), (.long (0 : Int64))])) _
          refine Jvm.OwnK.lsub X41.here hx rfl (hb hby at_126) rfl hz126 ?_
          show Steps p.tables e below (T41.setTop (mkF m 127 #[.val (.int p0), .val (.int p1), .val (.int p2), .val (.int p3), .val (.int p4), .val (.int p5), .val (.int z3), .val (.int z9), .val (.int c17_z58), .val (.int c27_z58), .val (.ref rb3_b1), .val (.int (1 : Int32)), .val (.int (0 : Int32)), .val (.int c102_rv), .val (.int c112_rv), .unset, .unset, .unset, .unset, .unset, .unset] [(.long z126), (.long (0 : Int64))])) _
          refine st42 _ ?_
          show Steps p.tables e below (T42.setTop (mkF m 130 #[.val (.int p0), .val (.int p1), .val (.int p2), .val (.int p3), .val (.int p4), .val (.int p5), .val (.int z3), .val (.int z9), .val (.int c17_z58), .val (.int c27_z58), .val (.ref rb3_b1), .val (.int (1 : Int32)), .val (.int (0 : Int32)), .val (.int c102_rv), .val (.int c112_rv), .unset, .unset, .unset, .unset, .unset, .unset] [(.long c127_rv)])) _
          refine XS.lstore X42.here hx rfl (hb hby at_130) rfl (l' := #[.val (.int p0), .val (.int p1), .val (.int p2), .val (.int p3), .val (.int p4), .val (.int p5), .val (.int z3), .val (.int z9), .val (.int c17_z58), .val (.int c27_z58), .val (.ref rb3_b1), .val (.int (1 : Int32)), .val (.int (0 : Int32)), .val (.int c102_rv), .val (.int c112_rv), .val (.long c127_rv), .second, .unset, .unset, .unset, .unset]) rfl ?_
          show Steps p.tables e below (T42.setTop (mkF m 132 #[.val (.int p0), .val (.int p1), .val (.int p2), .val (.int p3), .val (.int p4), .val (.int p5), .val (.int z3), .val (.int z9), .val (.int c17_z58), .val (.int c27_z58), .val (.ref rb3_b1), .val (.int (1 : Int32)), .val (.int (0 : Int32)), .val (.int c102_rv), .val (.int c112_rv), .val (.long c127_rv), .second, .unset, .unset, .unset, .unset] [])) _
          refine XS.lconst X42.here hx rfl (hb hby at_132) ?_
          show Steps p.tables e below (T42.setTop (mkF m 133 #[.val (.int p0), .val (.int p1), .val (.int p2), .val (.int p3), .val (.int p4), .val (.int p5), .val (.int z3), .val (.int z9), .val (.int c17_z58), .val (.int c27_z58), .val (.ref rb3_b1), .val (.int (1 : Int32)), .val (.int (0 : Int32)), .val (.int c102_rv), .val (.int c112_rv), .val (.long c127_rv), .second, .unset, .unset, .unset, .unset] [(.long (0 : Int64))])) _
          refine XS.iload X42.here hx rfl (hb hby at_133) rfl ?_
          show Steps p.tables e below (T42.setTop (mkF m 135 #[.val (.int p0), .val (.int p1), .val (.int p2), .val (.int p3), .val (.int p4), .val (.int p5), .val (.int z3), .val (.int z9), .val (.int c17_z58), .val (.int c27_z58), .val (.ref rb3_b1), .val (.int (1 : Int32)), .val (.int (0 : Int32)), .val (.int c102_rv), .val (.int c112_rv), .val (.long c127_rv), .second, .unset, .unset, .unset, .unset] [(.int z9), (.long (0 : Int64))])) _
          refine Jvm.OwnK.i2l X42.here hx rfl (hb hby at_135) rfl hz135 ?_
          show Steps p.tables e below (T42.setTop (mkF m 136 #[.val (.int p0), .val (.int p1), .val (.int p2), .val (.int p3), .val (.int p4), .val (.int p5), .val (.int z3), .val (.int z9), .val (.int c17_z58), .val (.int c27_z58), .val (.ref rb3_b1), .val (.int (1 : Int32)), .val (.int (0 : Int32)), .val (.int c102_rv), .val (.int c112_rv), .val (.long c127_rv), .second, .unset, .unset, .unset, .unset] [(.long z135), (.long (0 : Int64))])) _
          refine XS.iloadN X42.here hx rfl (hb hby at_136) rfl ?_
          show Steps p.tables e below (T42.setTop (mkF m 137 #[.val (.int p0), .val (.int p1), .val (.int p2), .val (.int p3), .val (.int p4), .val (.int p5), .val (.int z3), .val (.int z9), .val (.int c17_z58), .val (.int c27_z58), .val (.ref rb3_b1), .val (.int (1 : Int32)), .val (.int (0 : Int32)), .val (.int c102_rv), .val (.int c112_rv), .val (.long c127_rv), .second, .unset, .unset, .unset, .unset] [(.int p3), (.long z135), (.long (0 : Int64))])) _
          refine Jvm.OwnK.i2l X42.here hx rfl (hb hby at_137) rfl hz137 ?_
          show Steps p.tables e below (T42.setTop (mkF m 138 #[.val (.int p0), .val (.int p1), .val (.int p2), .val (.int p3), .val (.int p4), .val (.int p5), .val (.int z3), .val (.int z9), .val (.int c17_z58), .val (.int c27_z58), .val (.ref rb3_b1), .val (.int (1 : Int32)), .val (.int (0 : Int32)), .val (.int c102_rv), .val (.int c112_rv), .val (.long c127_rv), .second, .unset, .unset, .unset, .unset] [(.long z137), (.long z135), (.long (0 : Int64))])) _
          refine st43 _ ?_
          show Steps p.tables e below (T43.setTop (mkF m 141 #[.val (.int p0), .val (.int p1), .val (.int p2), .val (.int p3), .val (.int p4), .val (.int p5), .val (.int z3), .val (.int z9), .val (.int c17_z58), .val (.int c27_z58), .val (.ref rb3_b1), .val (.int (1 : Int32)), .val (.int (0 : Int32)), .val (.int c102_rv), .val (.int c112_rv), .val (.long c127_rv), .second, .unset, .unset, .unset, .unset] [(.long c138_rv), (.long z135), (.long (0 : Int64))])) _
          refine Jvm.OwnK.lsub X43.here hx rfl (hb hby at_141) rfl hz141 ?_
          show Steps p.tables e below (T43.setTop (mkF m 142 #[.val (.int p0), .val (.int p1), .val (.int p2), .val (.int p3), .val (.int p4), .val (.int p5), .val (.int z3), .val (.int z9), .val (.int c17_z58), .val (.int c27_z58), .val (.ref rb3_b1), .val (.int (1 : Int32)), .val (.int (0 : Int32)), .val (.int c102_rv), .val (.int c112_rv), .val (.long c127_rv), .second, .unset, .unset, .unset, .unset] [(.long z141), (.long (0 : Int64))])) _
          refine st44 _ ?_
          show Steps p.tables e below (T44.setTop (mkF m 145 #[.val (.int p0), .val (.int p1), .val (.int p2), .val (.int p3), .val (.int p4), .val (.int p5), .val (.int z3), .val (.int z9), .val (.int c17_z58), .val (.int c27_z58), .val (.ref rb3_b1), .val (.int (1 : Int32)), .val (.int (0 : Int32)), .val (.int c102_rv), .val (.int c112_rv), .val (.long c127_rv), .second, .unset, .unset, .unset, .unset] [(.long c142_rv)])) _
          refine XS.lstore X44.here hx rfl (hb hby at_145) rfl (l' := #[.val (.int p0), .val (.int p1), .val (.int p2), .val (.int p3), .val (.int p4), .val (.int p5), .val (.int z3), .val (.int z9), .val (.int c17_z58), .val (.int c27_z58), .val (.ref rb3_b1), .val (.int (1 : Int32)), .val (.int (0 : Int32)), .val (.int c102_rv), .val (.int c112_rv), .val (.long c127_rv), .second, .val (.long c142_rv), .second, .unset, .unset]) rfl ?_
          show Steps p.tables e below (T44.setTop (mkF m 147 #[.val (.int p0), .val (.int p1), .val (.int p2), .val (.int p3), .val (.int p4), .val (.int p5), .val (.int z3), .val (.int z9), .val (.int c17_z58), .val (.int c27_z58), .val (.ref rb3_b1), .val (.int (1 : Int32)), .val (.int (0 : Int32)), .val (.int c102_rv), .val (.int c112_rv), .val (.long c127_rv), .second, .val (.long c142_rv), .second, .unset, .unset] [])) _
          refine XS.lload X44.here hx rfl (hb hby at_147) rfl ?_
          show Steps p.tables e below (T44.setTop (mkF m 149 #[.val (.int p0), .val (.int p1), .val (.int p2), .val (.int p3), .val (.int p4), .val (.int p5), .val (.int z3), .val (.int z9), .val (.int c17_z58), .val (.int c27_z58), .val (.ref rb3_b1), .val (.int (1 : Int32)), .val (.int (0 : Int32)), .val (.int c102_rv), .val (.int c112_rv), .val (.long c127_rv), .second, .val (.long c142_rv), .second, .unset, .unset] [(.long c127_rv)])) _
          refine XS.lload X44.here hx rfl (hb hby at_149) rfl ?_
          show Steps p.tables e below (T44.setTop (mkF m 151 #[.val (.int p0), .val (.int p1), .val (.int p2), .val (.int p3), .val (.int p4), .val (.int p5), .val (.int z3), .val (.int z9), .val (.int c17_z58), .val (.int c27_z58), .val (.ref rb3_b1), .val (.int (1 : Int32)), .val (.int (0 : Int32)), .val (.int c102_rv), .val (.int c112_rv), .val (.long c127_rv), .second, .val (.long c142_rv), .second, .unset, .unset] [(.long c142_rv), (.long c127_rv)])) _
          refine Jvm.OwnK.lmul X44.here hx rfl (hb hby at_151) rfl hz151 ?_
          show Steps p.tables e below (T44.setTop (mkF m 152 #[.val (.int p0), .val (.int p1), .val (.int p2), .val (.int p3), .val (.int p4), .val (.int p5), .val (.int z3), .val (.int z9), .val (.int c17_z58), .val (.int c27_z58), .val (.ref rb3_b1), .val (.int (1 : Int32)), .val (.int (0 : Int32)), .val (.int c102_rv), .val (.int c112_rv), .val (.long c127_rv), .second, .val (.long c142_rv), .second, .unset, .unset] [(.long z151)])) _
          refine XS.l2dS X44.here hx rfl (hb hby at_152) rfl hz152 ?_
          show Steps p.tables e below (T44.setTop (mkF m 153 #[.val (.int p0), .val (.int p1), .val (.int p2), .val (.int p3), .val (.int p4), .val (.int p5), .val (.int z3), .val (.int z9), .val (.int c17_z58), .val (.int c27_z58), .val (.ref rb3_b1), .val (.int (1 : Int32)), .val (.int (0 : Int32)), .val (.int c102_rv), .val (.int c112_rv), .val (.long c127_rv), .second, .val (.long c142_rv), .second, .unset, .unset] [(.double z152)])) _
          refine XS.dstore X44.here hx rfl (hb hby at_153) rfl (l' := #[.val (.int p0), .val (.int p1), .val (.int p2), .val (.int p3), .val (.int p4), .val (.int p5), .val (.int z3), .val (.int z9), .val (.int c17_z58), .val (.int c27_z58), .val (.ref rb3_b1), .val (.int (1 : Int32)), .val (.int (0 : Int32)), .val (.int c102_rv), .val (.int c112_rv), .val (.long c127_rv), .second, .val (.long c142_rv), .second, .val (.double z152), .second]) rfl ?_
          show Steps p.tables e below (T44.setTop (mkF m 155 #[.val (.int p0), .val (.int p1), .val (.int p2), .val (.int p3), .val (.int p4), .val (.int p5), .val (.int z3), .val (.int z9), .val (.int c17_z58), .val (.int c27_z58), .val (.ref rb3_b1), .val (.int (1 : Int32)), .val (.int (0 : Int32)), .val (.int c102_rv), .val (.int c112_rv), .val (.long c127_rv), .second, .val (.long c142_rv), .second, .val (.double z152), .second] [])) _
          refine XS.iload X44.here hx rfl (hb hby at_155) rfl ?_
          show Steps p.tables e below (T44.setTop (mkF m 157 #[.val (.int p0), .val (.int p1), .val (.int p2), .val (.int p3), .val (.int p4), .val (.int p5), .val (.int z3), .val (.int z9), .val (.int c17_z58), .val (.int c27_z58), .val (.ref rb3_b1), .val (.int (1 : Int32)), .val (.int (0 : Int32)), .val (.int c102_rv), .val (.int c112_rv), .val (.long c127_rv), .second, .val (.long c142_rv), .second, .val (.double z152), .second] [(.int (1 : Int32))])) _
          refine XS.iload X44.here hx rfl (hb hby at_157) rfl ?_
          show Steps p.tables e below (T44.setTop (mkF m 159 #[.val (.int p0), .val (.int p1), .val (.int p2), .val (.int p3), .val (.int p4), .val (.int p5), .val (.int z3), .val (.int z9), .val (.int c17_z58), .val (.int c27_z58), .val (.ref rb3_b1), .val (.int (1 : Int32)), .val (.int (0 : Int32)), .val (.int c102_rv), .val (.int c112_rv), .val (.long c127_rv), .second, .val (.long c142_rv), .second, .val (.double z152), .second] [(.int c102_rv), (.int (1 : Int32))])) _
          refine XS.icmpNo X44.here hx rfl (hb hby at_159) rfl (Jvm.Free.XT.ii_ne_f br159) ?_
          show Steps p.tables e below (T44.setTop (mkF m 162 #[.val (.int p0), .val (.int p1), .val (.int p2), .val (.int p3), .val (.int p4), .val (.int p5), .val (.int z3), .val (.int z9), .val (.int c17_z58), .val (.int c27_z58), .val (.ref rb3_b1), .val (.int (1 : Int32)), .val (.int (0 : Int32)), .val (.int c102_rv), .val (.int c112_rv), .val (.long c127_rv), .second, .val (.long c142_rv), .second, .val (.double z152), .second] [])) _
          refine XS.iload X44.here hx rfl (hb hby at_162) rfl ?_
          show Steps p.tables e below (T44.setTop (mkF m 164 #[.val (.int p0), .val (.int p1), .val (.int p2), .val (.int p3), .val (.int p4), .val (.int p5), .val (.int z3), .val (.int z9), .val (.int c17_z58), .val (.int c27_z58), .val (.ref rb3_b1), .val (.int (1 : Int32)), .val (.int (0 : Int32)), .val (.int c102_rv), .val (.int c112_rv), .val (.long c127_rv), .second, .val (.long c142_rv), .second, .val (.double z152), .second] [(.int (0 : Int32))])) _
          refine XS.iload X44.here hx rfl (hb hby at_164) rfl ?_
          show Steps p.tables e below (T44.setTop (mkF m 166 #[.val (.int p0), .val (.int p1), .val (.int p2), .val (.int p3), .val (.int p4), .val (.int p5), .val (.int z3), .val (.int z9), .val (.int c17_z58), .val (.int c27_z58), .val (.ref rb3_b1), .val (.int (1 : Int32)), .val (.int (0 : Int32)), .val (.int c102_rv), .val (.int c112_rv), .val (.long c127_rv), .second, .val (.long c142_rv), .second, .val (.double z152), .second] [(.int c112_rv), (.int (0 : Int32))])) _
          refine XS.icmpNo X44.here hx rfl (hb hby at_166) rfl (Jvm.Free.XT.ii_ne_f br166) ?_
          show Steps p.tables e below (T44.setTop (mkF m 169 #[.val (.int p0), .val (.int p1), .val (.int p2), .val (.int p3), .val (.int p4), .val (.int p5), .val (.int z3), .val (.int z9), .val (.int c17_z58), .val (.int c27_z58), .val (.ref rb3_b1), .val (.int (1 : Int32)), .val (.int (0 : Int32)), .val (.int c102_rv), .val (.int c112_rv), .val (.long c127_rv), .second, .val (.long c142_rv), .second, .val (.double z152), .second] [])) _
          refine XS.aload X44.here hx rfl (hb hby at_169) rfl rfl ?_
          show Steps p.tables e below (T44.setTop (mkF m 171 #[.val (.int p0), .val (.int p1), .val (.int p2), .val (.int p3), .val (.int p4), .val (.int p5), .val (.int z3), .val (.int z9), .val (.int c17_z58), .val (.int c27_z58), .val (.ref rb3_b1), .val (.int (1 : Int32)), .val (.int (0 : Int32)), .val (.int c102_rv), .val (.int c112_rv), .val (.long c127_rv), .second, .val (.long c142_rv), .second, .val (.double z152), .second] [(.ref rb3_b1)])) _
          refine st45.trans ?_
          show Steps p.tables e below (T45.setTop (mkF m 174 #[.val (.int p0), .val (.int p1), .val (.int p2), .val (.int p3), .val (.int p4), .val (.int p5), .val (.int z3), .val (.int z9), .val (.int c17_z58), .val (.int c27_z58), .val (.ref rb3_b1), .val (.int (1 : Int32)), .val (.int (0 : Int32)), .val (.int c102_rv), .val (.int c112_rv), .val (.long c127_rv), .second, .val (.long c142_rv), .second, .val (.double z152), .second] [(.double c171_rv)])) _
          refine XS.dload X45.here hx rfl (hb hby at_174) rfl ?_
          show Steps p.tables e below (T45.setTop (mkF m 176 #[.val (.int p0), .val (.int p1), .val (.int p2), .val (.int p3), .val (.int p4), .val (.int p5), .val (.int z3), .val (.int z9), .val (.int c17_z58), .val (.int c27_z58), .val (.ref rb3_b1), .val (.int (1 : Int32)), .val (.int (0 : Int32)), .val (.int c102_rv), .val (.int c112_rv), .val (.long c127_rv), .second, .val (.long c142_rv), .second, .val (.double z152), .second] [(.double z152), (.double c171_rv)])) _
          refine XS.dcmpS X45.here hx rfl (hb hby at_176) rfl hz176 ?_
          show Steps p.tables e below (T45.setTop (mkF m 177 #[.val (.int p0), .val (.int p1), .val (.int p2), .val (.int p3), .val (.int p4), .val (.int p5), .val (.int z3), .val (.int z9), .val (.int c17_z58), .val (.int c27_z58), .val (.ref rb3_b1), .val (.int (1 : Int32)), .val (.int (0 : Int32)), .val (.int c102_rv), .val (.int c112_rv), .val (.long c127_rv), .second, .val (.long c142_rv), .second, .val (.double z152), .second] [(.int z176)])) _
          refine XS.ifNo X45.here hx rfl (hb hby at_177) rfl (Jvm.Free.XT.i0_ne_f br177) ?_
          show Steps p.tables e below (T45.setTop (mkF m 180 #[.val (.int p0), .val (.int p1), .val (.int p2), .val (.int p3), .val (.int p4), .val (.int p5), .val (.int z3), .val (.int z9), .val (.int c17_z58), .val (.int c27_z58), .val (.ref rb3_b1), .val (.int (1 : Int32)), .val (.int (0 : Int32)), .val (.int c102_rv), .val (.int c112_rv), .val (.long c127_rv), .second, .val (.long c142_rv), .second, .val (.double z152), .second] [])) _
          refine XS.iconst X45.here hx rfl (hb hby at_180) ?_
          show Steps p.tables e below (T45.setTop (mkF m 181 #[.val (.int p0), .val (.int p1), .val (.int p2), .val (.int p3), .val (.int p4), .val (.int p5), .val (.int z3), .val (.int z9), .val (.int c17_z58), .val (.int c27_z58), .val (.ref rb3_b1), .val (.int (1 : Int32)), .val (.int (0 : Int32)), .val (.int c102_rv), .val (.int c112_rv), .val (.long c127_rv), .second, .val (.long c142_rv), .second, .val (.double z152), .second] [(.int (1 : Int32))])) _
          refine XS.goto X45.here hx rfl (pc0 := 181) (pc' := 185) rfl (hb hby at_181) (by decide) (by decide) ?_
          exact k
        obtain ⟨fs, hr, hrun, hended, hW, hsame⟩ := X45.leave (v := some (.int (1 : Int32))) (fun h => by rw [Bd.returns] at h; cases h)
        refine ⟨_, _, c46 _ ?_, hrun, hended, _, _, rfl, ?_, ⟨_, rfl⟩, hW, hsame.mono (by decide) (by decide)⟩
        · show Steps p.tables e below (T45.setTop (mkF m 185 #[.val (.int p0), .val (.int p1), .val (.int p2), .val (.int p3), .val (.int p4), .val (.int p5), .val (.int z3), .val (.int z9), .val (.int c17_z58), .val (.int c27_z58), .val (.ref rb3_b1), .val (.int (1 : Int32)), .val (.int (0 : Int32)), .val (.int c102_rv), .val (.int c112_rv), .val (.long c127_rv), .second, .val (.long c142_rv), .second, .val (.double z152), .second] [(.int (1 : Int32))])) _
          exact retOut X45 hx Bd.returns rfl (Or.inl ⟨rfl, by simp, _, rfl⟩) (hb hby at_185) hr
        · show Q0 n0 _ T45.heap _
          rw [e45]
          exact ⟨rfl, by first | assumption | exact N0⟩
      · skip
        obtain ⟨cq47, kq47, q47a, q47b, q47c⟩ := isOf hZ e37 Q3_0
        obtain ⟨_, _, ⟨T47, L47, k47, n47⟩, -, X47, ⟨Lc47, hQ47, ql47, qy47, qz47⟩, st47⟩ := X37.virtualBack hx (y := (⟨"com/example/vetrino/vetrino/Overlap", "bottom", "()I"⟩ : MethodName)) (z := (⟨"com/example/vetrino/vetrino/Overlap", "bottom", "()I"⟩ : MethodName)) hown (mvT hZ (hw _ (List.mem_of_getElem? (i := 42) rfl))) (mvT hZ (hw _ (List.mem_of_getElem? (i := 43) rfl))) (notFace_of_selects (args := #[]) (mvT hZ (hw _ (List.mem_of_getElem? (i := 45) rfl)))) (mvT hZ (hw _ (List.mem_of_getElem? (i := 45) rfl))) (mvT hZ (hw _ (List.mem_of_getElem? (i := 44) rfl))) (by decide) (backOf (W := 1) (rm9 l Z a0 hw [] rb3_b1 c38_c25_rv  T3.heap n0 (Nat.le_trans Z0 K3q.1) Q3_4) hZ (hw _ (List.mem_of_getElem? (i := 46) rfl)) (hw _ (List.mem_of_getElem? (i := 7) rfl)) (by decide) (by decide)) q47a q47c (g := (mkF m 84 #[.val (.int p0), .val (.int p1), .val (.int p2), .val (.int p3), .val (.int p4), .val (.int p5), .val (.int z3), .val (.int z9), .val (.int c17_z58), .val (.int c27_z58), .val (.ref rb3_b1), .val (.int (1 : Int32)), .unset, .unset, .unset, .unset, .unset, .unset, .unset, .unset, .unset] [(.ref rb3_b1), (.int c27_z58)])) rfl (by rw [hml]; rfl) (Steps.refl _) (argsL := []) (rest := [(.int c27_z58)]) (lenOf pd_4 rfl) rfl (by show 2 * 0 + _ ≤ _; exact Nat.le_of_eq rfl) (hb hby at_84) (fun _ _ => ⟨rfl, e37, (by decide : 1 + 0 ≤ _), (by decide : 4 + 0 ≤ _)⟩)
        dsimp only [Pt.U, Pt.locs, Pt.cells, Pt.slots] at X47 ql47 qy47 qz47 st47 hQ47
        subst ql47 qy47 qz47
        obtain ⟨rfl, N47q, e47⟩ := hQ47
        have N47 := Fr.app N37 N47q
        have c48 : ∀ t, Steps p.tables e below (T47.setTop (mkF m 87 #[.val (.int p0), .val (.int p1), .val (.int p2), .val (.int p3), .val (.int p4), .val (.int p5), .val (.int z3), .val (.int z9), .val (.int c17_z58), .val (.int c27_z58), .val (.ref rb3_b1), .val (.int (1 : Int32)), .unset, .unset, .unset, .unset, .unset, .unset, .unset, .unset, .unset] [(.int c38_c25_rv), (.int c27_z58)])) t → Steps p.tables e below (s₁.setTop (entryFrame m #[(.int p0), (.int p1), (.int p2), (.int p3), (.int p4), (.int p5)] maxLocals)) t := by
          intro t k
          refine c38 t ?_
          show Steps p.tables e below (T37.setTop (mkF m 77 #[.val (.int p0), .val (.int p1), .val (.int p2), .val (.int p3), .val (.int p4), .val (.int p5), .val (.int z3), .val (.int z9), .val (.int c17_z58), .val (.int c27_z58), .val (.ref rb3_b1), .val (.int (1 : Int32)), .unset, .unset, .unset, .unset, .unset, .unset, .unset, .unset, .unset] [(.int c27_z58), (.int c38_c11_rv)])) _
          refine XS.icmpNo X37.here hx rfl (hb hby at_77) rfl (Jvm.Free.XT.ii_gt_f hb77) ?_
          show Steps p.tables e below (T37.setTop (mkF m 80 #[.val (.int p0), .val (.int p1), .val (.int p2), .val (.int p3), .val (.int p4), .val (.int p5), .val (.int z3), .val (.int z9), .val (.int c17_z58), .val (.int c27_z58), .val (.ref rb3_b1), .val (.int (1 : Int32)), .unset, .unset, .unset, .unset, .unset, .unset, .unset, .unset, .unset] [])) _
          refine XS.iload X37.here hx rfl (hb hby at_80) rfl ?_
          show Steps p.tables e below (T37.setTop (mkF m 82 #[.val (.int p0), .val (.int p1), .val (.int p2), .val (.int p3), .val (.int p4), .val (.int p5), .val (.int z3), .val (.int z9), .val (.int c17_z58), .val (.int c27_z58), .val (.ref rb3_b1), .val (.int (1 : Int32)), .unset, .unset, .unset, .unset, .unset, .unset, .unset, .unset, .unset] [(.int c27_z58)])) _
          refine XS.aload X37.here hx rfl (hb hby at_82) rfl rfl ?_
          show Steps p.tables e below (T37.setTop (mkF m 84 #[.val (.int p0), .val (.int p1), .val (.int p2), .val (.int p3), .val (.int p4), .val (.int p5), .val (.int z3), .val (.int z9), .val (.int c17_z58), .val (.int c27_z58), .val (.ref rb3_b1), .val (.int (1 : Int32)), .unset, .unset, .unset, .unset, .unset, .unset, .unset, .unset, .unset] [(.ref rb3_b1), (.int c27_z58)])) _
          refine st47.trans ?_
          exact k
        by_cases hb87 : c27_z58 < c38_c25_rv
        · skip
          obtain ⟨c102_z1, hc102_z1⟩ : ∃ z : Int64, c17_z58.toInt64 = z := ⟨_, rfl⟩
          obtain ⟨c102_z5, hc102_z5⟩ : ∃ z : Int64, p2.toInt64 = z := ⟨_, rfl⟩
          obtain ⟨c102_z6, hc102_z6⟩ : ∃ z : Int64, c102_z1 - c102_z5 = z := ⟨_, rfl⟩
          obtain ⟨c102_z11, hc102_z11⟩ : ∃ z : Int32, lcmpW (0 : Int64) c102_z1 = z := ⟨_, rfl⟩
          obtain ⟨c102_z17, hc102_z17⟩ : ∃ z : Int64, z3.toInt64 = z := ⟨_, rfl⟩
          obtain ⟨c102_z18, hc102_z18⟩ : ∃ z : Int32, lcmpW c102_z1 c102_z17 = z := ⟨_, rfl⟩
          obtain ⟨c102_z25, hc102_z25⟩ : ∃ z : Int32, lcmpW (0 : Int64) c102_z6 = z := ⟨_, rfl⟩
          obtain ⟨c102_z32, hc102_z32⟩ : ∃ z : Int64, z3.toInt64 = z := ⟨_, rfl⟩
          obtain ⟨c102_z33, hc102_z33⟩ : ∃ z : Int32, lcmpW c102_z6 c102_z32 = z := ⟨_, rfl⟩
          obtain ⟨c102_rv, hc102_rv⟩ : ∃ z : Int32, (if (0 : Int32) < c102_z11 then (0 : Int32) else (if c102_z18 < (0 : Int32) then (if (0 : Int32) < c102_z25 then (0 : Int32) else (if c102_z33 < (0 : Int32) then (1 : Int32) else (0 : Int32))) else (0 : Int32))) = z := ⟨_, rfl⟩
          obtain ⟨c112_z1, hc112_z1⟩ : ∃ z : Int64, c27_z58.toInt64 = z := ⟨_, rfl⟩
          obtain ⟨c112_z5, hc112_z5⟩ : ∃ z : Int64, p3.toInt64 = z := ⟨_, rfl⟩
          obtain ⟨c112_z6, hc112_z6⟩ : ∃ z : Int64, c112_z1 - c112_z5 = z := ⟨_, rfl⟩
          obtain ⟨c112_z11, hc112_z11⟩ : ∃ z : Int32, lcmpW (0 : Int64) c112_z1 = z := ⟨_, rfl⟩
          obtain ⟨c112_z17, hc112_z17⟩ : ∃ z : Int64, z9.toInt64 = z := ⟨_, rfl⟩
          obtain ⟨c112_z18, hc112_z18⟩ : ∃ z : Int32, lcmpW c112_z1 c112_z17 = z := ⟨_, rfl⟩
          obtain ⟨c112_z25, hc112_z25⟩ : ∃ z : Int32, lcmpW (0 : Int64) c112_z6 = z := ⟨_, rfl⟩
          obtain ⟨c112_z32, hc112_z32⟩ : ∃ z : Int64, z9.toInt64 = z := ⟨_, rfl⟩
          obtain ⟨c112_z33, hc112_z33⟩ : ∃ z : Int32, lcmpW c112_z6 c112_z32 = z := ⟨_, rfl⟩
          obtain ⟨c112_rv, hc112_rv⟩ : ∃ z : Int32, (if (0 : Int32) < c112_z11 then (0 : Int32) else (if c112_z18 < (0 : Int32) then (if (0 : Int32) < c112_z25 then (0 : Int32) else (if c112_z33 < (0 : Int32) then (1 : Int32) else (0 : Int32))) else (0 : Int32))) = z := ⟨_, rfl⟩
          obtain ⟨z120, hz120⟩ : ∃ z : Int64, z3.toInt64 = z := ⟨_, rfl⟩
          obtain ⟨z122, hz122⟩ : ∃ z : Int64, p2.toInt64 = z := ⟨_, rfl⟩
          obtain ⟨c123_z2, hc123_z2⟩ : ∃ z : Int32, lcmpW z122 (0 : Int64) = z := ⟨_, rfl⟩
          obtain ⟨c123_z7, hc123_z7⟩ : ∃ z : Int64, -z122 = z := ⟨_, rfl⟩
          obtain ⟨c123_rv, hc123_rv⟩ : ∃ z : Int64, (if c123_z2 < (0 : Int32) then c123_z7 else z122) = z := ⟨_, rfl⟩
          obtain ⟨z126, hz126⟩ : ∃ z : Int64, z120 - c123_rv = z := ⟨_, rfl⟩
          obtain ⟨c127_z2, hc127_z2⟩ : ∃ z : Int32, lcmpW (0 : Int64) z126 = z := ⟨_, rfl⟩
          obtain ⟨c127_rv, hc127_rv⟩ : ∃ z : Int64, (if c127_z2 < (0 : Int32) then z126 else (0 : Int64)) = z := ⟨_, rfl⟩
          obtain ⟨z135, hz135⟩ : ∃ z : Int64, z9.toInt64 = z := ⟨_, rfl⟩
          obtain ⟨z137, hz137⟩ : ∃ z : Int64, p3.toInt64 = z := ⟨_, rfl⟩
          obtain ⟨c138_z2, hc138_z2⟩ : ∃ z : Int32, lcmpW z137 (0 : Int64) = z := ⟨_, rfl⟩
          obtain ⟨c138_z7, hc138_z7⟩ : ∃ z : Int64, -z137 = z := ⟨_, rfl⟩
          obtain ⟨c138_rv, hc138_rv⟩ : ∃ z : Int64, (if c138_z2 < (0 : Int32) then c138_z7 else z137) = z := ⟨_, rfl⟩
          obtain ⟨z141, hz141⟩ : ∃ z : Int64, z135 - c138_rv = z := ⟨_, rfl⟩
          obtain ⟨c142_z2, hc142_z2⟩ : ∃ z : Int32, lcmpW (0 : Int64) z141 = z := ⟨_, rfl⟩
          obtain ⟨c142_rv, hc142_rv⟩ : ∃ z : Int64, (if c142_z2 < (0 : Int32) then z141 else (0 : Int64)) = z := ⟨_, rfl⟩
          obtain ⟨z151, hz151⟩ : ∃ z : Int64, c127_rv * c142_rv = z := ⟨_, rfl⟩
          obtain ⟨z152, hz152⟩ : ∃ z : UInt64, FP.l2d z151 = z := ⟨_, rfl⟩
          obtain ⟨c171_z30, hc171_z30⟩ : ∃ z : Int32, c38_c18_rv - c38_c6_rv = z := ⟨_, rfl⟩
          obtain ⟨c171_z31, hc171_z31⟩ : ∃ z : UInt64, FP.i2d c171_z30 = z := ⟨_, rfl⟩
          obtain ⟨c171_z40, hc171_z40⟩ : ∃ z : Int32, c38_c25_rv - c38_c11_rv = z := ⟨_, rfl⟩
          obtain ⟨c171_z41, hc171_z41⟩ : ∃ z : UInt64, FP.i2d c171_z40 = z := ⟨_, rfl⟩
          obtain ⟨c171_z42, hc171_z42⟩ : ∃ z : UInt64, FP.dmul c171_z31 c171_z41 = z := ⟨_, rfl⟩
          obtain ⟨c171_rv, hc171_rv⟩ : ∃ z : UInt64, (if c38_c6_rv < c38_c18_rv then (if c38_c11_rv < c38_c25_rv then c171_z42 else FP.dconst0) else FP.dconst0) = z := ⟨_, rfl⟩
          obtain ⟨z176, hz176⟩ : ∃ z : Int32, cmpValue (FP.dcmp c171_rv z152) .l = z := ⟨_, rfl⟩
          obtain ⟨_, _, ⟨T49, L49, k49, n49⟩, -, X49, ⟨Lc49, hQ49, ql49, qy49, qz49⟩, st49⟩ := Jvm.LawKit.callS X47 hx (y := (⟨"com/example/vetrino/vetrino/OverlapOfPinLaw", "meets", "(III)Z"⟩ : MethodName)) hown (mvT hZ (hw _ (List.mem_of_getElem? (i := 47) rfl))) (mvT hZ (hw _ (List.mem_of_getElem? (i := 48) rfl))) (mvT hZ (hw _ (List.mem_of_getElem? (i := 3) rfl))) (mvT hZ (hw _ (List.mem_of_getElem? (i := 49) rfl))) (by decide) (backOf (W := 0) (rm10 l Z a0 hw [] c17_z58 p2 z3 c102_z1 c102_z5 c102_z6 c102_z11 c102_z17 c102_z18 c102_z25 c102_z32 c102_z33 c102_rv T3.heap n0 (Nat.le_trans Z0 K3q.1) hc102_z1 hc102_z5 hc102_z6 hc102_z11 hc102_z17 hc102_z18 hc102_z25 hc102_z32 hc102_z33 hc102_rv) hZ (hw _ (List.mem_of_getElem? (i := 49) rfl)) (hw _ (List.mem_of_getElem? (i := 3) rfl)) (by decide) (by decide)) (g := (mkF m 102 #[.val (.int p0), .val (.int p1), .val (.int p2), .val (.int p3), .val (.int p4), .val (.int p5), .val (.int z3), .val (.int z9), .val (.int c17_z58), .val (.int c27_z58), .val (.ref rb3_b1), .val (.int (1 : Int32)), .val (.int (1 : Int32)), .unset, .unset, .unset, .unset, .unset, .unset, .unset, .unset] [(.int z3), (.int p2), (.int c17_z58)])) rfl (by rw [hml]; rfl) (argsL := [(.int c17_z58), (.int p2), (.int z3)]) (rest := []) (lenOf pd_5 rfl) rfl (by show 2 * 0 + _ ≤ _; exact Nat.le_of_eq rfl) (hb hby at_102) (fun _ _ => ⟨rfl, e47, (by decide : 1 + 0 ≤ _), (by decide : 4 + 0 ≤ _)⟩)
          dsimp only [Pt.U, Pt.locs, Pt.cells, Pt.slots] at X49 ql49 qy49 qz49 st49 hQ49
          subst ql49 qy49 qz49
          obtain ⟨rfl, N49q, e49⟩ := hQ49
          have N49 := Fr.app N47 N49q
          obtain ⟨_, _, ⟨T50, L50, k50, n50⟩, -, X50, ⟨Lc50, hQ50, ql50, qy50, qz50⟩, st50⟩ := Jvm.LawKit.callS X49 hx (y := (⟨"com/example/vetrino/vetrino/OverlapOfPinLaw", "meets", "(III)Z"⟩ : MethodName)) hown (mvT hZ (hw _ (List.mem_of_getElem? (i := 47) rfl))) (mvT hZ (hw _ (List.mem_of_getElem? (i := 48) rfl))) (mvT hZ (hw _ (List.mem_of_getElem? (i := 3) rfl))) (mvT hZ (hw _ (List.mem_of_getElem? (i := 49) rfl))) (by decide) (backOf (W := 0) (rm10 l Z a0 hw [] c27_z58 p3 z9 c112_z1 c112_z5 c112_z6 c112_z11 c112_z17 c112_z18 c112_z25 c112_z32 c112_z33 c112_rv T3.heap n0 (Nat.le_trans Z0 K3q.1) hc112_z1 hc112_z5 hc112_z6 hc112_z11 hc112_z17 hc112_z18 hc112_z25 hc112_z32 hc112_z33 hc112_rv) hZ (hw _ (List.mem_of_getElem? (i := 49) rfl)) (hw _ (List.mem_of_getElem? (i := 3) rfl)) (by decide) (by decide)) (g := (mkF m 112 #[.val (.int p0), .val (.int p1), .val (.int p2), .val (.int p3), .val (.int p4), .val (.int p5), .val (.int z3), .val (.int z9), .val (.int c17_z58), .val (.int c27_z58), .val (.ref rb3_b1), .val (.int (1 : Int32)), .val (.int (1 : Int32)), .val (.int c102_rv), .unset, .unset, .unset, .unset, .unset, .unset, .unset] [(.int z9), (.int p3), (.int c27_z58)])) rfl (by rw [hml]; rfl) (argsL := [(.int c27_z58), (.int p3), (.int z9)]) (rest := []) (lenOf pd_5 rfl) rfl (by show 2 * 0 + _ ≤ _; exact Nat.le_of_eq rfl) (hb hby at_112) (fun _ _ => ⟨rfl, e49, (by decide : 1 + 0 ≤ _), (by decide : 4 + 0 ≤ _)⟩)
          dsimp only [Pt.U, Pt.locs, Pt.cells, Pt.slots] at X50 ql50 qy50 qz50 st50 hQ50
          subst ql50 qy50 qz50
          obtain ⟨rfl, N50q, e50⟩ := hQ50
          have N50 := Fr.app N49 N50q
          obtain ⟨_, _, ⟨T51, L51, k51, n51⟩, -, X51, ⟨Lc51, hQ51, ql51, qy51, qz51⟩, st51⟩ := Jvm.LawKit.callS X50 hx (y := (⟨"java/lang/Math", "abs", "(J)J"⟩ : MethodName)) hown (mvT hZ (hw _ (List.mem_of_getElem? (i := 50) rfl))) (mvT hZ (hw _ (List.mem_of_getElem? (i := 51) rfl))) (mvT hZ (hw _ (List.mem_of_getElem? (i := 13) rfl))) (mvT hZ (hw _ (List.mem_of_getElem? (i := 52) rfl))) (by decide) (backOf (W := 4) (rm11 l Z a0 hw [] z122 c123_z2 c123_z7 c123_rv T3.heap n0 (Nat.le_trans Z0 K3q.1) hc123_z2 hc123_z7 hc123_rv) hZ (hw _ (List.mem_of_getElem? (i := 52) rfl)) (hw _ (List.mem_of_getElem? (i := 13) rfl)) (by decide) (by decide)) (g := (mkF m 123 #[.val (.int p0), .val (.int p1), .val (.int p2), .val (.int p3), .val (.int p4), .val (.int p5), .val (.int z3), .val (.int z9), .val (.int c17_z58), .val (.int c27_z58), .val (.ref rb3_b1), .val (.int (1 : Int32)), .val (.int (1 : Int32)), .val (.int c102_rv), .val (.int c112_rv), .unset, .unset, .unset, .unset, .unset, .unset] [(.long z122), (.long z120), (.long (0 : Int64))])) rfl (by rw [hml]; rfl) (argsL := [(.long z122)]) (rest := [(.long z120), (.long (0 : Int64))]) (lenOf pd_6 rfl) rfl (by show 2 * 0 + _ ≤ _; exact Nat.le_of_eq rfl) (hb hby at_123) (fun _ _ => ⟨rfl, e50, (by decide : 1 + 0 ≤ _), (by decide : 4 + 0 ≤ _)⟩)
          dsimp only [Pt.U, Pt.locs, Pt.cells, Pt.slots] at X51 ql51 qy51 qz51 st51 hQ51
          subst ql51 qy51 qz51
          obtain ⟨rfl, N51q, e51⟩ := hQ51
          have N51 := Fr.app N50 N51q
          obtain ⟨_, _, ⟨T52, L52, k52, n52⟩, -, X52, ⟨Lc52, hQ52, ql52, qy52, qz52⟩, st52⟩ := Jvm.LawKit.callS X51 hx (y := (⟨"java/lang/Math", "max", "(JJ)J"⟩ : MethodName)) hown (mvT hZ (hw _ (List.mem_of_getElem? (i := 53) rfl))) (mvT hZ (hw _ (List.mem_of_getElem? (i := 54) rfl))) (mvT hZ (hw _ (List.mem_of_getElem? (i := 13) rfl))) (mvT hZ (hw _ (List.mem_of_getElem? (i := 55) rfl))) (by decide) (backOf (W := 0) (rm12 l Z a0 hw [] (0 : Int64) z126 c127_z2 c127_rv T3.heap n0 (Nat.le_trans Z0 K3q.1) hc127_z2 hc127_rv) hZ (hw _ (List.mem_of_getElem? (i := 55) rfl)) (hw _ (List.mem_of_getElem? (i := 13) rfl)) (by decide) (by decide)) (g := (mkF m 127 #[.val (.int p0), .val (.int p1), .val (.int p2), .val (.int p3), .val (.int p4), .val (.int p5), .val (.int z3), .val (.int z9), .val (.int c17_z58), .val (.int c27_z58), .val (.ref rb3_b1), .val (.int (1 : Int32)), .val (.int (1 : Int32)), .val (.int c102_rv), .val (.int c112_rv), .unset, .unset, .unset, .unset, .unset, .unset] [(.long z126), (.long (0 : Int64))])) rfl (by rw [hml]; rfl) (argsL := [(.long (0 : Int64)), (.long z126)]) (rest := []) (lenOf pd_7 rfl) rfl (by show 2 * 0 + _ ≤ _; exact Nat.le_of_eq rfl) (hb hby at_127) (fun _ _ => ⟨rfl, e51, (by decide : 1 + 0 ≤ _), (by decide : 4 + 0 ≤ _)⟩)
          dsimp only [Pt.U, Pt.locs, Pt.cells, Pt.slots] at X52 ql52 qy52 qz52 st52 hQ52
          subst ql52 qy52 qz52
          obtain ⟨rfl, N52q, e52⟩ := hQ52
          have N52 := Fr.app N51 N52q
          obtain ⟨_, _, ⟨T53, L53, k53, n53⟩, -, X53, ⟨Lc53, hQ53, ql53, qy53, qz53⟩, st53⟩ := Jvm.LawKit.callS X52 hx (y := (⟨"java/lang/Math", "abs", "(J)J"⟩ : MethodName)) hown (mvT hZ (hw _ (List.mem_of_getElem? (i := 50) rfl))) (mvT hZ (hw _ (List.mem_of_getElem? (i := 51) rfl))) (mvT hZ (hw _ (List.mem_of_getElem? (i := 13) rfl))) (mvT hZ (hw _ (List.mem_of_getElem? (i := 52) rfl))) (by decide) (backOf (W := 4) (rm11 l Z a0 hw [] z137 c138_z2 c138_z7 c138_rv T3.heap n0 (Nat.le_trans Z0 K3q.1) hc138_z2 hc138_z7 hc138_rv) hZ (hw _ (List.mem_of_getElem? (i := 52) rfl)) (hw _ (List.mem_of_getElem? (i := 13) rfl)) (by decide) (by decide)) (g := (mkF m 138 #[.val (.int p0), .val (.int p1), .val (.int p2), .val (.int p3), .val (.int p4), .val (.int p5), .val (.int z3), .val (.int z9), .val (.int c17_z58), .val (.int c27_z58), .val (.ref rb3_b1), .val (.int (1 : Int32)), .val (.int (1 : Int32)), .val (.int c102_rv), .val (.int c112_rv), .val (.long c127_rv), .second, .unset, .unset, .unset, .unset] [(.long z137), (.long z135), (.long (0 : Int64))])) rfl (by rw [hml]; rfl) (argsL := [(.long z137)]) (rest := [(.long z135), (.long (0 : Int64))]) (lenOf pd_6 rfl) rfl (by show 2 * 0 + _ ≤ _; exact Nat.le_of_eq rfl) (hb hby at_138) (fun _ _ => ⟨rfl, e52, (by decide : 1 + 0 ≤ _), (by decide : 4 + 0 ≤ _)⟩)
          dsimp only [Pt.U, Pt.locs, Pt.cells, Pt.slots] at X53 ql53 qy53 qz53 st53 hQ53
          subst ql53 qy53 qz53
          obtain ⟨rfl, N53q, e53⟩ := hQ53
          have N53 := Fr.app N52 N53q
          obtain ⟨_, _, ⟨T54, L54, k54, n54⟩, -, X54, ⟨Lc54, hQ54, ql54, qy54, qz54⟩, st54⟩ := Jvm.LawKit.callS X53 hx (y := (⟨"java/lang/Math", "max", "(JJ)J"⟩ : MethodName)) hown (mvT hZ (hw _ (List.mem_of_getElem? (i := 53) rfl))) (mvT hZ (hw _ (List.mem_of_getElem? (i := 54) rfl))) (mvT hZ (hw _ (List.mem_of_getElem? (i := 13) rfl))) (mvT hZ (hw _ (List.mem_of_getElem? (i := 55) rfl))) (by decide) (backOf (W := 0) (rm12 l Z a0 hw [] (0 : Int64) z141 c142_z2 c142_rv T3.heap n0 (Nat.le_trans Z0 K3q.1) hc142_z2 hc142_rv) hZ (hw _ (List.mem_of_getElem? (i := 55) rfl)) (hw _ (List.mem_of_getElem? (i := 13) rfl)) (by decide) (by decide)) (g := (mkF m 142 #[.val (.int p0), .val (.int p1), .val (.int p2), .val (.int p3), .val (.int p4), .val (.int p5), .val (.int z3), .val (.int z9), .val (.int c17_z58), .val (.int c27_z58), .val (.ref rb3_b1), .val (.int (1 : Int32)), .val (.int (1 : Int32)), .val (.int c102_rv), .val (.int c112_rv), .val (.long c127_rv), .second, .unset, .unset, .unset, .unset] [(.long z141), (.long (0 : Int64))])) rfl (by rw [hml]; rfl) (argsL := [(.long (0 : Int64)), (.long z141)]) (rest := []) (lenOf pd_7 rfl) rfl (by show 2 * 0 + _ ≤ _; exact Nat.le_of_eq rfl) (hb hby at_142) (fun _ _ => ⟨rfl, e53, (by decide : 1 + 0 ≤ _), (by decide : 4 + 0 ≤ _)⟩)
          dsimp only [Pt.U, Pt.locs, Pt.cells, Pt.slots] at X54 ql54 qy54 qz54 st54 hQ54
          subst ql54 qy54 qz54
          obtain ⟨rfl, N54q, e54⟩ := hQ54
          have N54 := Fr.app N53 N54q
          have br159 : (1 : Int32) = c102_rv := by
            rw [meet hA hc38_z17 hc38_c6_rv hc38_c18_rv hc102_z1 hc102_z5 hc102_z6 hc102_z11 hc102_z17 hc102_z18 hc102_z25 hc102_z32 hc102_z33 hc102_rv, if_neg hb50, if_pos hb60]
          have br166 : (1 : Int32) = c112_rv := by
            rw [meet hB hc38_z24 hc38_c11_rv hc38_c25_rv hc112_z1 hc112_z5 hc112_z6 hc112_z11 hc112_z17 hc112_z18 hc112_z25 hc112_z32 hc112_z33 hc112_rv, if_neg hb77, if_pos hb87]
          obtain ⟨c171_nn42, fin⟩ := area (side hA hc38_z17 hc38_c6_rv hc38_c18_rv hz120 hz122 hc123_z2 hc123_z7 hc123_rv hz126 hc127_z2 hc127_rv) (side hB hc38_z24 hc38_c11_rv hc38_c25_rv hz135 hz137 hc138_z2 hc138_z7 hc138_rv hz141 hc142_z2 hc142_rv) hc171_z30 hc171_z40 hc171_z31 hc171_z41 hc171_z42 hz151 hz152 hc171_rv
          obtain ⟨cq55, kq55, q55a, q55b, q55c⟩ := isOf hZ e54 Q3_0
          obtain ⟨_, _, ⟨T55, L55, k55, n55⟩, -, X55, ⟨Lc55, hQ55, ql55, qy55, qz55⟩, st55⟩ := X54.virtualBack hx (y := (⟨"com/example/vetrino/vetrino/Overlap", "area", "()D"⟩ : MethodName)) (z := (⟨"com/example/vetrino/vetrino/Overlap", "area", "()D"⟩ : MethodName)) hown (mvT hZ (hw _ (List.mem_of_getElem? (i := 56) rfl))) (mvT hZ (hw _ (List.mem_of_getElem? (i := 57) rfl))) (notFace_of_selects (args := #[]) (mvT hZ (hw _ (List.mem_of_getElem? (i := 59) rfl)))) (mvT hZ (hw _ (List.mem_of_getElem? (i := 59) rfl))) (mvT hZ (hw _ (List.mem_of_getElem? (i := 58) rfl))) (by decide) (backOf (W := 0) (rm13 l Z a0 hw [] rb3_b1 c38_c18_rv c38_c6_rv c38_c25_rv c38_c11_rv c171_z30 c171_z31 c171_z40 c171_z41 c171_z42 c171_rv T3.heap n0 (Nat.le_trans Z0 K3q.1) Q3_3 Q3_1 Q3_4 Q3_2 hc171_z30 hc171_z31 hc171_z40 hc171_z41 hc171_z42 hc171_rv c171_nn42) hZ (hw _ (List.mem_of_getElem? (i := 60) rfl)) (hw _ (List.mem_of_getElem? (i := 7) rfl)) (by decide) (by decide)) q55a q55c (g := (mkF m 171 #[.val (.int p0), .val (.int p1), .val (.int p2), .val (.int p3), .val (.int p4), .val (.int p5), .val (.int z3), .val (.int z9), .val (.int c17_z58), .val (.int c27_z58), .val (.ref rb3_b1), .val (.int (1 : Int32)), .val (.int (1 : Int32)), .val (.int c102_rv), .val (.int c112_rv), .val (.long c127_rv), .second, .val (.long c142_rv), .second, .val (.double z152), .second] [(.ref rb3_b1)])) rfl (by rw [hml]; rfl) (Steps.refl _) (argsL := []) (rest := []) (lenOf pd_8 rfl) rfl (by show 2 * 0 + _ ≤ _; exact Nat.le_of_eq rfl) (hb hby at_171) (fun _ _ => ⟨rfl, e54, (by decide : 1 + 0 ≤ _), (by decide : 4 + 0 ≤ _)⟩)
          dsimp only [Pt.U, Pt.locs, Pt.cells, Pt.slots] at X55 ql55 qy55 qz55 st55 hQ55
          subst ql55 qy55 qz55
          obtain ⟨rfl, N55q, e55⟩ := hQ55
          have N55 := Fr.app N54 N55q
          have br177 : z176 = 0 := hz176.symm.trans fin
          have c56 : ∀ t, Steps p.tables e below (T55.setTop (mkF m 185 #[.val (.int p0), .val (.int p1), .val (.int p2), .val (.int p3), .val (.int p4), .val (.int p5), .val (.int z3), .val (.int z9), .val (.int c17_z58), .val (.int c27_z58), .val (.ref rb3_b1), .val (.int (1 : Int32)), .val (.int (1 : Int32)), .val (.int c102_rv), .val (.int c112_rv), .val (.long c127_rv), .second, .val (.long c142_rv), .second, .val (.double z152), .second] [(.int (1 : Int32))])) t → Steps p.tables e below (s₁.setTop (entryFrame m #[(.int p0), (.int p1), (.int p2), (.int p3), (.int p4), (.int p5)] maxLocals)) t := by
            intro t k
            refine c48 t ?_
            show Steps p.tables e below (T47.setTop (mkF m 87 #[.val (.int p0), .val (.int p1), .val (.int p2), .val (.int p3), .val (.int p4), .val (.int p5), .val (.int z3), .val (.int z9), .val (.int c17_z58), .val (.int c27_z58), .val (.ref rb3_b1), .val (.int (1 : Int32)), .unset, .unset, .unset, .unset, .unset, .unset, .unset, .unset, .unset] [(.int c38_c25_rv), (.int c27_z58)])) _
            refine XS.icmpNo X47.here hx rfl (hb hby at_87) rfl (Jvm.Free.XT.ii_ge_f hb87) ?_
            show Steps p.tables e below (T47.setTop (mkF m 90 #[.val (.int p0), .val (.int p1), .val (.int p2), .val (.int p3), .val (.int p4), .val (.int p5), .val (.int z3), .val (.int z9), .val (.int c17_z58), .val (.int c27_z58), .val (.ref rb3_b1), .val (.int (1 : Int32)), .unset, .unset, .unset, .unset, .unset, .unset, .unset, .unset, .unset] [])) _
            refine XS.iconst X47.here hx rfl (hb hby at_90) ?_
            show Steps p.tables e below (T47.setTop (mkF m 91 #[.val (.int p0), .val (.int p1), .val (.int p2), .val (.int p3), .val (.int p4), .val (.int p5), .val (.int z3), .val (.int z9), .val (.int c17_z58), .val (.int c27_z58), .val (.ref rb3_b1), .val (.int (1 : Int32)), .unset, .unset, .unset, .unset, .unset, .unset, .unset, .unset, .unset] [(.int (1 : Int32))])) _
            refine XS.goto X47.here hx rfl (pc0 := 91) (pc' := 95) rfl (hb hby at_91) (by decide) (by decide) ?_
            show Steps p.tables e below (T47.setTop (mkF m 95 #[.val (.int p0), .val (.int p1), .val (.int p2), .val (.int p3), .val (.int p4), .val (.int p5), .val (.int z3), .val (.int z9), .val (.int c17_z58), .val (.int c27_z58), .val (.ref rb3_b1), .val (.int (1 : Int32)), .unset, .unset, .unset, .unset, .unset, .unset, .unset, .unset, .unset] [(.int (1 : Int32))])) _
            refine XS.istore X47.here hx rfl (hb hby at_95) rfl (l' := #[.val (.int p0), .val (.int p1), .val (.int p2), .val (.int p3), .val (.int p4), .val (.int p5), .val (.int z3), .val (.int z9), .val (.int c17_z58), .val (.int c27_z58), .val (.ref rb3_b1), .val (.int (1 : Int32)), .val (.int (1 : Int32)), .unset, .unset, .unset, .unset, .unset, .unset, .unset, .unset]) rfl ?_
            show Steps p.tables e below (T47.setTop (mkF m 97 #[.val (.int p0), .val (.int p1), .val (.int p2), .val (.int p3), .val (.int p4), .val (.int p5), .val (.int z3), .val (.int z9), .val (.int c17_z58), .val (.int c27_z58), .val (.ref rb3_b1), .val (.int (1 : Int32)), .val (.int (1 : Int32)), .unset, .unset, .unset, .unset, .unset, .unset, .unset, .unset] [])) _
            refine XS.iload X47.here hx rfl (hb hby at_97) rfl ?_
            show Steps p.tables e below (T47.setTop (mkF m 99 #[.val (.int p0), .val (.int p1), .val (.int p2), .val (.int p3), .val (.int p4), .val (.int p5), .val (.int z3), .val (.int z9), .val (.int c17_z58), .val (.int c27_z58), .val (.ref rb3_b1), .val (.int (1 : Int32)), .val (.int (1 : Int32)), .unset, .unset, .unset, .unset, .unset, .unset, .unset, .unset] [(.int c17_z58)])) _
            refine XS.iloadN X47.here hx rfl (hb hby at_99) rfl ?_
            show Steps p.tables e below (T47.setTop (mkF m 100 #[.val (.int p0), .val (.int p1), .val (.int p2), .val (.int p3), .val (.int p4), .val (.int p5), .val (.int z3), .val (.int z9), .val (.int c17_z58), .val (.int c27_z58), .val (.ref rb3_b1), .val (.int (1 : Int32)), .val (.int (1 : Int32)), .unset, .unset, .unset, .unset, .unset, .unset, .unset, .unset] [(.int p2), (.int c17_z58)])) _
            refine XS.iload X47.here hx rfl (hb hby at_100) rfl ?_
            show Steps p.tables e below (T47.setTop (mkF m 102 #[.val (.int p0), .val (.int p1), .val (.int p2), .val (.int p3), .val (.int p4), .val (.int p5), .val (.int z3), .val (.int z9), .val (.int c17_z58), .val (.int c27_z58), .val (.ref rb3_b1), .val (.int (1 : Int32)), .val (.int (1 : Int32)), .unset, .unset, .unset, .unset, .unset, .unset, .unset, .unset] [(.int z3), (.int p2), (.int c17_z58)])) _
            refine st49 _ ?_
            show Steps p.tables e below (T49.setTop (mkF m 105 #[.val (.int p0), .val (.int p1), .val (.int p2), .val (.int p3), .val (.int p4), .val (.int p5), .val (.int z3), .val (.int z9), .val (.int c17_z58), .val (.int c27_z58), .val (.ref rb3_b1), .val (.int (1 : Int32)), .val (.int (1 : Int32)), .unset, .unset, .unset, .unset, .unset, .unset, .unset, .unset] [(.int c102_rv)])) _
            refine XS.istore X49.here hx rfl (hb hby at_105) rfl (l' := #[.val (.int p0), .val (.int p1), .val (.int p2), .val (.int p3), .val (.int p4), .val (.int p5), .val (.int z3), .val (.int z9), .val (.int c17_z58), .val (.int c27_z58), .val (.ref rb3_b1), .val (.int (1 : Int32)), .val (.int (1 : Int32)), .val (.int c102_rv), .unset, .unset, .unset, .unset, .unset, .unset, .unset]) rfl ?_
            show Steps p.tables e below (T49.setTop (mkF m 107 #[.val (.int p0), .val (.int p1), .val (.int p2), .val (.int p3), .val (.int p4), .val (.int p5), .val (.int z3), .val (.int z9), .val (.int c17_z58), .val (.int c27_z58), .val (.ref rb3_b1), .val (.int (1 : Int32)), .val (.int (1 : Int32)), .val (.int c102_rv), .unset, .unset, .unset, .unset, .unset, .unset, .unset] [])) _
            refine XS.iload X49.here hx rfl (hb hby at_107) rfl ?_
            show Steps p.tables e below (T49.setTop (mkF m 109 #[.val (.int p0), .val (.int p1), .val (.int p2), .val (.int p3), .val (.int p4), .val (.int p5), .val (.int z3), .val (.int z9), .val (.int c17_z58), .val (.int c27_z58), .val (.ref rb3_b1), .val (.int (1 : Int32)), .val (.int (1 : Int32)), .val (.int c102_rv), .unset, .unset, .unset, .unset, .unset, .unset, .unset] [(.int c27_z58)])) _
            refine XS.iloadN X49.here hx rfl (hb hby at_109) rfl ?_
            show Steps p.tables e below (T49.setTop (mkF m 110 #[.val (.int p0), .val (.int p1), .val (.int p2), .val (.int p3), .val (.int p4), .val (.int p5), .val (.int z3), .val (.int z9), .val (.int c17_z58), .val (.int c27_z58), .val (.ref rb3_b1), .val (.int (1 : Int32)), .val (.int (1 : Int32)), .val (.int c102_rv), .unset, .unset, .unset, .unset, .unset, .unset, .unset] [(.int p3), (.int c27_z58)])) _
            refine XS.iload X49.here hx rfl (hb hby at_110) rfl ?_
            show Steps p.tables e below (T49.setTop (mkF m 112 #[.val (.int p0), .val (.int p1), .val (.int p2), .val (.int p3), .val (.int p4), .val (.int p5), .val (.int z3), .val (.int z9), .val (.int c17_z58), .val (.int c27_z58), .val (.ref rb3_b1), .val (.int (1 : Int32)), .val (.int (1 : Int32)), .val (.int c102_rv), .unset, .unset, .unset, .unset, .unset, .unset, .unset] [(.int z9), (.int p3), (.int c27_z58)])) _
            refine st50 _ ?_
            show Steps p.tables e below (T50.setTop (mkF m 115 #[.val (.int p0), .val (.int p1), .val (.int p2), .val (.int p3), .val (.int p4), .val (.int p5), .val (.int z3), .val (.int z9), .val (.int c17_z58), .val (.int c27_z58), .val (.ref rb3_b1), .val (.int (1 : Int32)), .val (.int (1 : Int32)), .val (.int c102_rv), .unset, .unset, .unset, .unset, .unset, .unset, .unset] [(.int c112_rv)])) _
            refine XS.istore X50.here hx rfl (hb hby at_115) rfl (l' := #[.val (.int p0), .val (.int p1), .val (.int p2), .val (.int p3), .val (.int p4), .val (.int p5), .val (.int z3), .val (.int z9), .val (.int c17_z58), .val (.int c27_z58), .val (.ref rb3_b1), .val (.int (1 : Int32)), .val (.int (1 : Int32)), .val (.int c102_rv), .val (.int c112_rv), .unset, .unset, .unset, .unset, .unset, .unset]) rfl ?_
            show Steps p.tables e below (T50.setTop (mkF m 117 #[.val (.int p0), .val (.int p1), .val (.int p2), .val (.int p3), .val (.int p4), .val (.int p5), .val (.int z3), .val (.int z9), .val (.int c17_z58), .val (.int c27_z58), .val (.ref rb3_b1), .val (.int (1 : Int32)), .val (.int (1 : Int32)), .val (.int c102_rv), .val (.int c112_rv), .unset, .unset, .unset, .unset, .unset, .unset] [])) _
            refine XS.lconst X50.here hx rfl (hb hby at_117) ?_
            show Steps p.tables e below (T50.setTop (mkF m 118 #[.val (.int p0), .val (.int p1), .val (.int p2), .val (.int p3), .val (.int p4), .val (.int p5), .val (.int z3), .val (.int z9), .val (.int c17_z58), .val (.int c27_z58), .val (.ref rb3_b1), .val (.int (1 : Int32)), .val (.int (1 : Int32)), .val (.int c102_rv), .val (.int c112_rv), .unset, .unset, .unset, .unset, .unset, .unset] [(.long (0 : Int64))])) _
            refine XS.iload X50.here hx rfl (hb hby at_118) rfl ?_
            show Steps p.tables e below (T50.setTop (mkF m 120 #[.val (.int p0), .val (.int p1), .val (.int p2), .val (.int p3), .val (.int p4), .val (.int p5), .val (.int z3), .val (.int z9), .val (.int c17_z58), .val (.int c27_z58), .val (.ref rb3_b1), .val (.int (1 : Int32)), .val (.int (1 : Int32)), .val (.int c102_rv), .val (.int c112_rv), .unset, .unset, .unset, .unset, .unset, .unset] [(.int z3), (.long (0 : Int64))])) _
            refine Jvm.OwnK.i2l X50.here hx rfl (hb hby at_120) rfl hz120 ?_
            show Steps p.tables e below (T50.setTop (mkF m 121 #[.val (.int p0), .val (.int p1), .val (.int p2), .val (.int p3), .val (.int p4), .val (.int p5), .val (.int z3), .val (.int z9), .val (.int c17_z58), .val (.int c27_z58), .val (.ref rb3_b1), .val (.int (1 : Int32)), .val (.int (1 : Int32)), .val (.int c102_rv), .val (.int c112_rv), .unset, .unset, .unset, .unset, .unset, .unset] [(.long z120), (.long (0 : Int64))])) _
            refine XS.iloadN X50.here hx rfl (hb hby at_121) rfl ?_
            show Steps p.tables e below (T50.setTop (mkF m 122 #[.val (.int p0), .val (.int p1), .val (.int p2), .val (.int p3), .val (.int p4), .val (.int p5), .val (.int z3), .val (.int z9), .val (.int c17_z58), .val (.int c27_z58), .val (.ref rb3_b1), .val (.int (1 : Int32)), .val (.int (1 : Int32)), .val (.int c102_rv), .val (.int c112_rv), .unset, .unset, .unset, .unset, .unset, .unset] [(.int p2), (.long z120), (.long (0 : Int64))])) _
            refine Jvm.OwnK.i2l X50.here hx rfl (hb hby at_122) rfl hz122 ?_
            show Steps p.tables e below (T50.setTop (mkF m 123 #[.val (.int p0), .val (.int p1), .val (.int p2), .val (.int p3), .val (.int p4), .val (.int p5), .val (.int z3), .val (.int z9), .val (.int c17_z58), .val (.int c27_z58), .val (.ref rb3_b1), .val (.int (1 : Int32)), .val (.int (1 : Int32)), .val (.int c102_rv), .val (.int c112_rv), .unset, .unset, .unset, .unset, .unset, .unset] [(.long z122), (.long z120), (.long (0 : Int64))])) _
            refine st51 _ ?_
            show Steps p.tables e below (T51.setTop (mkF m 126 #[.val (.int p0), .val (.int p1), .val (.int p2), .val (.int p3), .val (.int p4), .val (.int p5), .val (.int z3), .val (.int z9), .val (.int c17_z58), .val (.int c27_z58), .val (.ref rb3_b1), .val (.int (1 : Int32)), .val (.int (1 : Int32)), .val (.int c102_rv), .val (.int c112_rv), .unset, .unset, .unset, .unset, .unset, .unset] [(.long c123_rv), (.long z120), (.long (0 : Int64))])) _
            refine Jvm.OwnK.lsub X51.here hx rfl (hb hby at_126) rfl hz126 ?_
            show Steps p.tables e below (T51.setTop (mkF m 127 #[.val (.int p0), .val (.int p1), .val (.int p2), .val (.int p3), .val (.int p4), .val (.int p5), .val (.int z3), .val (.int z9), .val (.int c17_z58), .val (.int c27_z58), .val (.ref rb3_b1), .val (.int (1 : Int32)), .val (.int (1 : Int32)), .val (.int c102_rv), .val (.int c112_rv), .unset, .unset, .unset, .unset, .unset, .unset] [(.long z126), (.long (0 : Int64))])) _
            refine st52 _ ?_
            show Steps p.tables e below (T52.setTop (mkF m 130 #[.val (.int p0), .val (.int p1), .val (.int p2), .val (.int p3), .val (.int p4), .val (.int p5), .val (.int z3), .val (.int z9), .val (.int c17_z58), .val (.int c27_z58), .val (.ref rb3_b1), .val (.int (1 : Int32)), .val (.int (1 : Int32)), .val (.int c102_rv), .val (.int c112_rv), .unset, .unset, .unset, .unset, .unset, .unset] [(.long c127_rv)])) _
            refine XS.lstore X52.here hx rfl (hb hby at_130) rfl (l' := #[.val (.int p0), .val (.int p1), .val (.int p2), .val (.int p3), .val (.int p4), .val (.int p5), .val (.int z3), .val (.int z9), .val (.int c17_z58), .val (.int c27_z58), .val (.ref rb3_b1), .val (.int (1 : Int32)), .val (.int (1 : Int32)), .val (.int c102_rv), .val (.int c112_rv), .val (.long c127_rv), .second, .unset, .unset, .unset, .unset]) rfl ?_
            show Steps p.tables e below (T52.setTop (mkF m 132 #[.val (.int p0), .val (.int p1), .val (.int p2), .val (.int p3), .val (.int p4), .val (.int p5), .val (.int z3), .val (.int z9), .val (.int c17_z58), .val (.int c27_z58), .val (.ref rb3_b1), .val (.int (1 : Int32)), .val (.int (1 : Int32)), .val (.int c102_rv), .val (.int c112_rv), .val (.long c127_rv), .second, .unset, .unset, .unset, .unset] [])) _
            refine XS.lconst X52.here hx rfl (hb hby at_132) ?_
            show Steps p.tables e below (T52.setTop (mkF m 133 #[.val (.int p0), .val (.int p1), .val (.int p2), .val (.int p3), .val (.int p4), .val (.int p5), .val (.int z3), .val (.int z9), .val (.int c17_z58), .val (.int c27_z58), .val (.ref rb3_b1), .val (.int (1 : Int32)), .val (.int (1 : Int32)), .val (.int c102_rv), .val (.int c112_rv), .val (.long c127_rv), .second, .unset, .unset, .unset, .unset] [(.long (0 : Int64))])) _
            refine XS.iload X52.here hx rfl (hb hby at_133) rfl ?_
            show Steps p.tables e below (T52.setTop (mkF m 135 #[.val (.int p0), .val (.int p1), .val (.int p2), .val (.int p3), .val (.int p4), .val (.int p5), .val (.int z3), .val (.int z9), .val (.int c17_z58), .val (.int c27_z58), .val (.ref rb3_b1), .val (.int (1 : Int32)), .val (.int (1 : Int32)), .val (.int c102_rv), .val (.int c112_rv), .val (.long c127_rv), .second, .unset, .unset, .unset, .unset] [(.int z9), (.long (0 : Int64))])) _
            refine Jvm.OwnK.i2l X52.here hx rfl (hb hby at_135) rfl hz135 ?_
            show Steps p.tables e below (T52.setTop (mkF m 136 #[.val (.int p0), .val (.int p1), .val (.int p2), .val (.int p3), .val (.int p4), .val (.int p5), .val (.int z3), .val (.int z9), .val (.int c17_z58), .val (.int c27_z58), .val (.ref rb3_b1), .val (.int (1 : Int32)), .val (.int (1 : Int32)), .val (.int c102_rv), .val (.int c112_rv), .val (.long c127_rv), .second, .unset, .unset, .unset, .unset] [(.long z135), (.long (0 : Int64))])) _
            refine XS.iloadN X52.here hx rfl (hb hby at_136) rfl ?_
            show Steps p.tables e below (T52.setTop (mkF m 137 #[.val (.int p0), .val (.int p1), .val (.int p2), .val (.int p3), .val (.int p4), .val (.int p5), .val (.int z3), .val (.int z9), .val (.int c17_z58), .val (.int c27_z58), .val (.ref rb3_b1), .val (.int (1 : Int32)), .val (.int (1 : Int32)), .val (.int c102_rv), .val (.int c112_rv), .val (.long c127_rv), .second, .unset, .unset, .unset, .unset] [(.int p3), (.long z135), (.long (0 : Int64))])) _
            refine Jvm.OwnK.i2l X52.here hx rfl (hb hby at_137) rfl hz137 ?_
            show Steps p.tables e below (T52.setTop (mkF m 138 #[.val (.int p0), .val (.int p1), .val (.int p2), .val (.int p3), .val (.int p4), .val (.int p5), .val (.int z3), .val (.int z9), .val (.int c17_z58), .val (.int c27_z58), .val (.ref rb3_b1), .val (.int (1 : Int32)), .val (.int (1 : Int32)), .val (.int c102_rv), .val (.int c112_rv), .val (.long c127_rv), .second, .unset, .unset, .unset, .unset] [(.long z137), (.long z135), (.long (0 : Int64))])) _
            refine st53 _ ?_
            show Steps p.tables e below (T53.setTop (mkF m 141 #[.val (.int p0), .val (.int p1), .val (.int p2), .val (.int p3), .val (.int p4), .val (.int p5), .val (.int z3), .val (.int z9), .val (.int c17_z58), .val (.int c27_z58), .val (.ref rb3_b1), .val (.int (1 : Int32)), .val (.int (1 : Int32)), .val (.int c102_rv), .val (.int c112_rv), .val (.long c127_rv), .second, .unset, .unset, .unset, .unset] [(.long c138_rv), (.long z135), (.long (0 : Int64))])) _
            refine Jvm.OwnK.lsub X53.here hx rfl (hb hby at_141) rfl hz141 ?_
            show Steps p.tables e below (T53.setTop (mkF m 142 #[.val (.int p0), .val (.int p1), .val (.int p2), .val (.int p3), .val (.int p4), .val (.int p5), .val (.int z3), .val (.int z9), .val (.int c17_z58), .val (.int c27_z58), .val (.ref rb3_b1), .val (.int (1 : Int32)), .val (.int (1 : Int32)), .val (.int c102_rv), .val (.int c112_rv), .val (.long c127_rv), .second, .unset, .unset, .unset, .unset] [(.long z141), (.long (0 : Int64))])) _
            refine st54 _ ?_
            show Steps p.tables e below (T54.setTop (mkF m 145 #[.val (.int p0), .val (.int p1), .val (.int p2), .val (.int p3), .val (.int p4), .val (.int p5), .val (.int z3), .val (.int z9), .val (.int c17_z58), .val (.int c27_z58), .val (.ref rb3_b1), .val (.int (1 : Int32)), .val (.int (1 : Int32)), .val (.int c102_rv), .val (.int c112_rv), .val (.long c127_rv), .second, .unset, .unset, .unset, .unset] [(.long c142_rv)])) _
            refine XS.lstore X54.here hx rfl (hb hby at_145) rfl (l' := #[.val (.int p0), .val (.int p1), .val (.int p2), .val (.int p3), .val (.int p4), .val (.int p5), .val (.int z3), .val (.int z9), .val (.int c17_z58), .val (.int c27_z58), .val (.ref rb3_b1), .val (.int (1 : Int32)), .val (.int (1 : Int32)), .val (.int c102_rv), .val (.int c112_rv), .val (.long c127_rv), .second, .val (.long c142_rv), .second, .unset, .unset]) rfl ?_
            show Steps p.tables e below (T54.setTop (mkF m 147 #[.val (.int p0), .val (.int p1), .val (.int p2), .val (.int p3), .val (.int p4), .val (.int p5), .val (.int z3), .val (.int z9), .val (.int c17_z58), .val (.int c27_z58), .val (.ref rb3_b1), .val (.int (1 : Int32)), .val (.int (1 : Int32)), .val (.int c102_rv), .val (.int c112_rv), .val (.long c127_rv), .second, .val (.long c142_rv), .second, .unset, .unset] [])) _
            refine XS.lload X54.here hx rfl (hb hby at_147) rfl ?_
            show Steps p.tables e below (T54.setTop (mkF m 149 #[.val (.int p0), .val (.int p1), .val (.int p2), .val (.int p3), .val (.int p4), .val (.int p5), .val (.int z3), .val (.int z9), .val (.int c17_z58), .val (.int c27_z58), .val (.ref rb3_b1), .val (.int (1 : Int32)), .val (.int (1 : Int32)), .val (.int c102_rv), .val (.int c112_rv), .val (.long c127_rv), .second, .val (.long c142_rv), .second, .unset, .unset] [(.long c127_rv)])) _
            refine XS.lload X54.here hx rfl (hb hby at_149) rfl ?_
            show Steps p.tables e below (T54.setTop (mkF m 151 #[.val (.int p0), .val (.int p1), .val (.int p2), .val (.int p3), .val (.int p4), .val (.int p5), .val (.int z3), .val (.int z9), .val (.int c17_z58), .val (.int c27_z58), .val (.ref rb3_b1), .val (.int (1 : Int32)), .val (.int (1 : Int32)), .val (.int c102_rv), .val (.int c112_rv), .val (.long c127_rv), .second, .val (.long c142_rv), .second, .unset, .unset] [(.long c142_rv), (.long c127_rv)])) _
            refine Jvm.OwnK.lmul X54.here hx rfl (hb hby at_151) rfl hz151 ?_
            show Steps p.tables e below (T54.setTop (mkF m 152 #[.val (.int p0), .val (.int p1), .val (.int p2), .val (.int p3), .val (.int p4), .val (.int p5), .val (.int z3), .val (.int z9), .val (.int c17_z58), .val (.int c27_z58), .val (.ref rb3_b1), .val (.int (1 : Int32)), .val (.int (1 : Int32)), .val (.int c102_rv), .val (.int c112_rv), .val (.long c127_rv), .second, .val (.long c142_rv), .second, .unset, .unset] [(.long z151)])) _
            refine XS.l2dS X54.here hx rfl (hb hby at_152) rfl hz152 ?_
            show Steps p.tables e below (T54.setTop (mkF m 153 #[.val (.int p0), .val (.int p1), .val (.int p2), .val (.int p3), .val (.int p4), .val (.int p5), .val (.int z3), .val (.int z9), .val (.int c17_z58), .val (.int c27_z58), .val (.ref rb3_b1), .val (.int (1 : Int32)), .val (.int (1 : Int32)), .val (.int c102_rv), .val (.int c112_rv), .val (.long c127_rv), .second, .val (.long c142_rv), .second, .unset, .unset] [(.double z152)])) _
            refine XS.dstore X54.here hx rfl (hb hby at_153) rfl (l' := #[.val (.int p0), .val (.int p1), .val (.int p2), .val (.int p3), .val (.int p4), .val (.int p5), .val (.int z3), .val (.int z9), .val (.int c17_z58), .val (.int c27_z58), .val (.ref rb3_b1), .val (.int (1 : Int32)), .val (.int (1 : Int32)), .val (.int c102_rv), .val (.int c112_rv), .val (.long c127_rv), .second, .val (.long c142_rv), .second, .val (.double z152), .second]) rfl ?_
            show Steps p.tables e below (T54.setTop (mkF m 155 #[.val (.int p0), .val (.int p1), .val (.int p2), .val (.int p3), .val (.int p4), .val (.int p5), .val (.int z3), .val (.int z9), .val (.int c17_z58), .val (.int c27_z58), .val (.ref rb3_b1), .val (.int (1 : Int32)), .val (.int (1 : Int32)), .val (.int c102_rv), .val (.int c112_rv), .val (.long c127_rv), .second, .val (.long c142_rv), .second, .val (.double z152), .second] [])) _
            refine XS.iload X54.here hx rfl (hb hby at_155) rfl ?_
            show Steps p.tables e below (T54.setTop (mkF m 157 #[.val (.int p0), .val (.int p1), .val (.int p2), .val (.int p3), .val (.int p4), .val (.int p5), .val (.int z3), .val (.int z9), .val (.int c17_z58), .val (.int c27_z58), .val (.ref rb3_b1), .val (.int (1 : Int32)), .val (.int (1 : Int32)), .val (.int c102_rv), .val (.int c112_rv), .val (.long c127_rv), .second, .val (.long c142_rv), .second, .val (.double z152), .second] [(.int (1 : Int32))])) _
            refine XS.iload X54.here hx rfl (hb hby at_157) rfl ?_
            show Steps p.tables e below (T54.setTop (mkF m 159 #[.val (.int p0), .val (.int p1), .val (.int p2), .val (.int p3), .val (.int p4), .val (.int p5), .val (.int z3), .val (.int z9), .val (.int c17_z58), .val (.int c27_z58), .val (.ref rb3_b1), .val (.int (1 : Int32)), .val (.int (1 : Int32)), .val (.int c102_rv), .val (.int c112_rv), .val (.long c127_rv), .second, .val (.long c142_rv), .second, .val (.double z152), .second] [(.int c102_rv), (.int (1 : Int32))])) _
            refine XS.icmpNo X54.here hx rfl (hb hby at_159) rfl (Jvm.Free.XT.ii_ne_f br159) ?_
            show Steps p.tables e below (T54.setTop (mkF m 162 #[.val (.int p0), .val (.int p1), .val (.int p2), .val (.int p3), .val (.int p4), .val (.int p5), .val (.int z3), .val (.int z9), .val (.int c17_z58), .val (.int c27_z58), .val (.ref rb3_b1), .val (.int (1 : Int32)), .val (.int (1 : Int32)), .val (.int c102_rv), .val (.int c112_rv), .val (.long c127_rv), .second, .val (.long c142_rv), .second, .val (.double z152), .second] [])) _
            refine XS.iload X54.here hx rfl (hb hby at_162) rfl ?_
            show Steps p.tables e below (T54.setTop (mkF m 164 #[.val (.int p0), .val (.int p1), .val (.int p2), .val (.int p3), .val (.int p4), .val (.int p5), .val (.int z3), .val (.int z9), .val (.int c17_z58), .val (.int c27_z58), .val (.ref rb3_b1), .val (.int (1 : Int32)), .val (.int (1 : Int32)), .val (.int c102_rv), .val (.int c112_rv), .val (.long c127_rv), .second, .val (.long c142_rv), .second, .val (.double z152), .second] [(.int (1 : Int32))])) _
            refine XS.iload X54.here hx rfl (hb hby at_164) rfl ?_
            show Steps p.tables e below (T54.setTop (mkF m 166 #[.val (.int p0), .val (.int p1), .val (.int p2), .val (.int p3), .val (.int p4), .val (.int p5), .val (.int z3), .val (.int z9), .val (.int c17_z58), .val (.int c27_z58), .val (.ref rb3_b1), .val (.int (1 : Int32)), .val (.int (1 : Int32)), .val (.int c102_rv), .val (.int c112_rv), .val (.long c127_rv), .second, .val (.long c142_rv), .second, .val (.double z152), .second] [(.int c112_rv), (.int (1 : Int32))])) _
            refine XS.icmpNo X54.here hx rfl (hb hby at_166) rfl (Jvm.Free.XT.ii_ne_f br166) ?_
            show Steps p.tables e below (T54.setTop (mkF m 169 #[.val (.int p0), .val (.int p1), .val (.int p2), .val (.int p3), .val (.int p4), .val (.int p5), .val (.int z3), .val (.int z9), .val (.int c17_z58), .val (.int c27_z58), .val (.ref rb3_b1), .val (.int (1 : Int32)), .val (.int (1 : Int32)), .val (.int c102_rv), .val (.int c112_rv), .val (.long c127_rv), .second, .val (.long c142_rv), .second, .val (.double z152), .second] [])) _
            refine XS.aload X54.here hx rfl (hb hby at_169) rfl rfl ?_
            show Steps p.tables e below (T54.setTop (mkF m 171 #[.val (.int p0), .val (.int p1), .val (.int p2), .val (.int p3), .val (.int p4), .val (.int p5), .val (.int z3), .val (.int z9), .val (.int c17_z58), .val (.int c27_z58), .val (.ref rb3_b1), .val (.int (1 : Int32)), .val (.int (1 : Int32)), .val (.int c102_rv), .val (.int c112_rv), .val (.long c127_rv), .second, .val (.long c142_rv), .second, .val (.double z152), .second] [(.ref rb3_b1)])) _
            refine st55.trans ?_
            show Steps p.tables e below (T55.setTop (mkF m 174 #[.val (.int p0), .val (.int p1), .val (.int p2), .val (.int p3), .val (.int p4), .val (.int p5), .val (.int z3), .val (.int z9), .val (.int c17_z58), .val (.int c27_z58), .val (.ref rb3_b1), .val (.int (1 : Int32)), .val (.int (1 : Int32)), .val (.int c102_rv), .val (.int c112_rv), .val (.long c127_rv), .second, .val (.long c142_rv), .second, .val (.double z152), .second] [(.double c171_rv)])) _
            refine XS.dload X55.here hx rfl (hb hby at_174) rfl ?_
            show Steps p.tables e below (T55.setTop (mkF m 176 #[.val (.int p0), .val (.int p1), .val (.int p2), .val (.int p3), .val (.int p4), .val (.int p5), .val (.int z3), .val (.int z9), .val (.int c17_z58), .val (.int c27_z58), .val (.ref rb3_b1), .val (.int (1 : Int32)), .val (.int (1 : Int32)), .val (.int c102_rv), .val (.int c112_rv), .val (.long c127_rv), .second, .val (.long c142_rv), .second, .val (.double z152), .second] [(.double z152), (.double c171_rv)])) _
            refine XS.dcmpS X55.here hx rfl (hb hby at_176) rfl hz176 ?_
            show Steps p.tables e below (T55.setTop (mkF m 177 #[.val (.int p0), .val (.int p1), .val (.int p2), .val (.int p3), .val (.int p4), .val (.int p5), .val (.int z3), .val (.int z9), .val (.int c17_z58), .val (.int c27_z58), .val (.ref rb3_b1), .val (.int (1 : Int32)), .val (.int (1 : Int32)), .val (.int c102_rv), .val (.int c112_rv), .val (.long c127_rv), .second, .val (.long c142_rv), .second, .val (.double z152), .second] [(.int z176)])) _
            refine XS.ifNo X55.here hx rfl (hb hby at_177) rfl (Jvm.Free.XT.i0_ne_f br177) ?_
            show Steps p.tables e below (T55.setTop (mkF m 180 #[.val (.int p0), .val (.int p1), .val (.int p2), .val (.int p3), .val (.int p4), .val (.int p5), .val (.int z3), .val (.int z9), .val (.int c17_z58), .val (.int c27_z58), .val (.ref rb3_b1), .val (.int (1 : Int32)), .val (.int (1 : Int32)), .val (.int c102_rv), .val (.int c112_rv), .val (.long c127_rv), .second, .val (.long c142_rv), .second, .val (.double z152), .second] [])) _
            refine XS.iconst X55.here hx rfl (hb hby at_180) ?_
            show Steps p.tables e below (T55.setTop (mkF m 181 #[.val (.int p0), .val (.int p1), .val (.int p2), .val (.int p3), .val (.int p4), .val (.int p5), .val (.int z3), .val (.int z9), .val (.int c17_z58), .val (.int c27_z58), .val (.ref rb3_b1), .val (.int (1 : Int32)), .val (.int (1 : Int32)), .val (.int c102_rv), .val (.int c112_rv), .val (.long c127_rv), .second, .val (.long c142_rv), .second, .val (.double z152), .second] [(.int (1 : Int32))])) _
            refine XS.goto X55.here hx rfl (pc0 := 181) (pc' := 185) rfl (hb hby at_181) (by decide) (by decide) ?_
            exact k
          obtain ⟨fs, hr, hrun, hended, hW, hsame⟩ := X55.leave (v := some (.int (1 : Int32))) (fun h => by rw [Bd.returns] at h; cases h)
          refine ⟨_, _, c56 _ ?_, hrun, hended, _, _, rfl, ?_, ⟨_, rfl⟩, hW, hsame.mono (by decide) (by decide)⟩
          · show Steps p.tables e below (T55.setTop (mkF m 185 #[.val (.int p0), .val (.int p1), .val (.int p2), .val (.int p3), .val (.int p4), .val (.int p5), .val (.int z3), .val (.int z9), .val (.int c17_z58), .val (.int c27_z58), .val (.ref rb3_b1), .val (.int (1 : Int32)), .val (.int (1 : Int32)), .val (.int c102_rv), .val (.int c112_rv), .val (.long c127_rv), .second, .val (.long c142_rv), .second, .val (.double z152), .second] [(.int (1 : Int32))])) _
            exact retOut X55 hx Bd.returns rfl (Or.inl ⟨rfl, by simp, _, rfl⟩) (hb hby at_185) hr
          · show Q0 n0 _ T55.heap _
            rw [e55]
            exact ⟨rfl, by first | assumption | exact N0⟩
        · skip
          obtain ⟨c102_z1, hc102_z1⟩ : ∃ z : Int64, c17_z58.toInt64 = z := ⟨_, rfl⟩
          obtain ⟨c102_z5, hc102_z5⟩ : ∃ z : Int64, p2.toInt64 = z := ⟨_, rfl⟩
          obtain ⟨c102_z6, hc102_z6⟩ : ∃ z : Int64, c102_z1 - c102_z5 = z := ⟨_, rfl⟩
          obtain ⟨c102_z11, hc102_z11⟩ : ∃ z : Int32, lcmpW (0 : Int64) c102_z1 = z := ⟨_, rfl⟩
          obtain ⟨c102_z17, hc102_z17⟩ : ∃ z : Int64, z3.toInt64 = z := ⟨_, rfl⟩
          obtain ⟨c102_z18, hc102_z18⟩ : ∃ z : Int32, lcmpW c102_z1 c102_z17 = z := ⟨_, rfl⟩
          obtain ⟨c102_z25, hc102_z25⟩ : ∃ z : Int32, lcmpW (0 : Int64) c102_z6 = z := ⟨_, rfl⟩
          obtain ⟨c102_z32, hc102_z32⟩ : ∃ z : Int64, z3.toInt64 = z := ⟨_, rfl⟩
          obtain ⟨c102_z33, hc102_z33⟩ : ∃ z : Int32, lcmpW c102_z6 c102_z32 = z := ⟨_, rfl⟩
          obtain ⟨c102_rv, hc102_rv⟩ : ∃ z : Int32, (if (0 : Int32) < c102_z11 then (0 : Int32) else (if c102_z18 < (0 : Int32) then (if (0 : Int32) < c102_z25 then (0 : Int32) else (if c102_z33 < (0 : Int32) then (1 : Int32) else (0 : Int32))) else (0 : Int32))) = z := ⟨_, rfl⟩
          obtain ⟨c112_z1, hc112_z1⟩ : ∃ z : Int64, c27_z58.toInt64 = z := ⟨_, rfl⟩
          obtain ⟨c112_z5, hc112_z5⟩ : ∃ z : Int64, p3.toInt64 = z := ⟨_, rfl⟩
          obtain ⟨c112_z6, hc112_z6⟩ : ∃ z : Int64, c112_z1 - c112_z5 = z := ⟨_, rfl⟩
          obtain ⟨c112_z11, hc112_z11⟩ : ∃ z : Int32, lcmpW (0 : Int64) c112_z1 = z := ⟨_, rfl⟩
          obtain ⟨c112_z17, hc112_z17⟩ : ∃ z : Int64, z9.toInt64 = z := ⟨_, rfl⟩
          obtain ⟨c112_z18, hc112_z18⟩ : ∃ z : Int32, lcmpW c112_z1 c112_z17 = z := ⟨_, rfl⟩
          obtain ⟨c112_z25, hc112_z25⟩ : ∃ z : Int32, lcmpW (0 : Int64) c112_z6 = z := ⟨_, rfl⟩
          obtain ⟨c112_z32, hc112_z32⟩ : ∃ z : Int64, z9.toInt64 = z := ⟨_, rfl⟩
          obtain ⟨c112_z33, hc112_z33⟩ : ∃ z : Int32, lcmpW c112_z6 c112_z32 = z := ⟨_, rfl⟩
          obtain ⟨c112_rv, hc112_rv⟩ : ∃ z : Int32, (if (0 : Int32) < c112_z11 then (0 : Int32) else (if c112_z18 < (0 : Int32) then (if (0 : Int32) < c112_z25 then (0 : Int32) else (if c112_z33 < (0 : Int32) then (1 : Int32) else (0 : Int32))) else (0 : Int32))) = z := ⟨_, rfl⟩
          obtain ⟨z120, hz120⟩ : ∃ z : Int64, z3.toInt64 = z := ⟨_, rfl⟩
          obtain ⟨z122, hz122⟩ : ∃ z : Int64, p2.toInt64 = z := ⟨_, rfl⟩
          obtain ⟨c123_z2, hc123_z2⟩ : ∃ z : Int32, lcmpW z122 (0 : Int64) = z := ⟨_, rfl⟩
          obtain ⟨c123_z7, hc123_z7⟩ : ∃ z : Int64, -z122 = z := ⟨_, rfl⟩
          obtain ⟨c123_rv, hc123_rv⟩ : ∃ z : Int64, (if c123_z2 < (0 : Int32) then c123_z7 else z122) = z := ⟨_, rfl⟩
          obtain ⟨z126, hz126⟩ : ∃ z : Int64, z120 - c123_rv = z := ⟨_, rfl⟩
          obtain ⟨c127_z2, hc127_z2⟩ : ∃ z : Int32, lcmpW (0 : Int64) z126 = z := ⟨_, rfl⟩
          obtain ⟨c127_rv, hc127_rv⟩ : ∃ z : Int64, (if c127_z2 < (0 : Int32) then z126 else (0 : Int64)) = z := ⟨_, rfl⟩
          obtain ⟨z135, hz135⟩ : ∃ z : Int64, z9.toInt64 = z := ⟨_, rfl⟩
          obtain ⟨z137, hz137⟩ : ∃ z : Int64, p3.toInt64 = z := ⟨_, rfl⟩
          obtain ⟨c138_z2, hc138_z2⟩ : ∃ z : Int32, lcmpW z137 (0 : Int64) = z := ⟨_, rfl⟩
          obtain ⟨c138_z7, hc138_z7⟩ : ∃ z : Int64, -z137 = z := ⟨_, rfl⟩
          obtain ⟨c138_rv, hc138_rv⟩ : ∃ z : Int64, (if c138_z2 < (0 : Int32) then c138_z7 else z137) = z := ⟨_, rfl⟩
          obtain ⟨z141, hz141⟩ : ∃ z : Int64, z135 - c138_rv = z := ⟨_, rfl⟩
          obtain ⟨c142_z2, hc142_z2⟩ : ∃ z : Int32, lcmpW (0 : Int64) z141 = z := ⟨_, rfl⟩
          obtain ⟨c142_rv, hc142_rv⟩ : ∃ z : Int64, (if c142_z2 < (0 : Int32) then z141 else (0 : Int64)) = z := ⟨_, rfl⟩
          obtain ⟨z151, hz151⟩ : ∃ z : Int64, c127_rv * c142_rv = z := ⟨_, rfl⟩
          obtain ⟨z152, hz152⟩ : ∃ z : UInt64, FP.l2d z151 = z := ⟨_, rfl⟩
          obtain ⟨c171_z30, hc171_z30⟩ : ∃ z : Int32, c38_c18_rv - c38_c6_rv = z := ⟨_, rfl⟩
          obtain ⟨c171_z31, hc171_z31⟩ : ∃ z : UInt64, FP.i2d c171_z30 = z := ⟨_, rfl⟩
          obtain ⟨c171_z40, hc171_z40⟩ : ∃ z : Int32, c38_c25_rv - c38_c11_rv = z := ⟨_, rfl⟩
          obtain ⟨c171_z41, hc171_z41⟩ : ∃ z : UInt64, FP.i2d c171_z40 = z := ⟨_, rfl⟩
          obtain ⟨c171_z42, hc171_z42⟩ : ∃ z : UInt64, FP.dmul c171_z31 c171_z41 = z := ⟨_, rfl⟩
          obtain ⟨c171_rv, hc171_rv⟩ : ∃ z : UInt64, (if c38_c6_rv < c38_c18_rv then (if c38_c11_rv < c38_c25_rv then c171_z42 else FP.dconst0) else FP.dconst0) = z := ⟨_, rfl⟩
          obtain ⟨z176, hz176⟩ : ∃ z : Int32, cmpValue (FP.dcmp c171_rv z152) .l = z := ⟨_, rfl⟩
          obtain ⟨_, _, ⟨T57, L57, k57, n57⟩, -, X57, ⟨Lc57, hQ57, ql57, qy57, qz57⟩, st57⟩ := Jvm.LawKit.callS X47 hx (y := (⟨"com/example/vetrino/vetrino/OverlapOfPinLaw", "meets", "(III)Z"⟩ : MethodName)) hown (mvT hZ (hw _ (List.mem_of_getElem? (i := 47) rfl))) (mvT hZ (hw _ (List.mem_of_getElem? (i := 48) rfl))) (mvT hZ (hw _ (List.mem_of_getElem? (i := 3) rfl))) (mvT hZ (hw _ (List.mem_of_getElem? (i := 49) rfl))) (by decide) (backOf (W := 0) (rm10 l Z a0 hw [] c17_z58 p2 z3 c102_z1 c102_z5 c102_z6 c102_z11 c102_z17 c102_z18 c102_z25 c102_z32 c102_z33 c102_rv T3.heap n0 (Nat.le_trans Z0 K3q.1) hc102_z1 hc102_z5 hc102_z6 hc102_z11 hc102_z17 hc102_z18 hc102_z25 hc102_z32 hc102_z33 hc102_rv) hZ (hw _ (List.mem_of_getElem? (i := 49) rfl)) (hw _ (List.mem_of_getElem? (i := 3) rfl)) (by decide) (by decide)) (g := (mkF m 102 #[.val (.int p0), .val (.int p1), .val (.int p2), .val (.int p3), .val (.int p4), .val (.int p5), .val (.int z3), .val (.int z9), .val (.int c17_z58), .val (.int c27_z58), .val (.ref rb3_b1), .val (.int (1 : Int32)), .val (.int (0 : Int32)), .unset, .unset, .unset, .unset, .unset, .unset, .unset, .unset] [(.int z3), (.int p2), (.int c17_z58)])) rfl (by rw [hml]; rfl) (argsL := [(.int c17_z58), (.int p2), (.int z3)]) (rest := []) (lenOf pd_5 rfl) rfl (by show 2 * 0 + _ ≤ _; exact Nat.le_of_eq rfl) (hb hby at_102) (fun _ _ => ⟨rfl, e47, (by decide : 1 + 0 ≤ _), (by decide : 4 + 0 ≤ _)⟩)
          dsimp only [Pt.U, Pt.locs, Pt.cells, Pt.slots] at X57 ql57 qy57 qz57 st57 hQ57
          subst ql57 qy57 qz57
          obtain ⟨rfl, N57q, e57⟩ := hQ57
          have N57 := Fr.app N47 N57q
          obtain ⟨_, _, ⟨T58, L58, k58, n58⟩, -, X58, ⟨Lc58, hQ58, ql58, qy58, qz58⟩, st58⟩ := Jvm.LawKit.callS X57 hx (y := (⟨"com/example/vetrino/vetrino/OverlapOfPinLaw", "meets", "(III)Z"⟩ : MethodName)) hown (mvT hZ (hw _ (List.mem_of_getElem? (i := 47) rfl))) (mvT hZ (hw _ (List.mem_of_getElem? (i := 48) rfl))) (mvT hZ (hw _ (List.mem_of_getElem? (i := 3) rfl))) (mvT hZ (hw _ (List.mem_of_getElem? (i := 49) rfl))) (by decide) (backOf (W := 0) (rm10 l Z a0 hw [] c27_z58 p3 z9 c112_z1 c112_z5 c112_z6 c112_z11 c112_z17 c112_z18 c112_z25 c112_z32 c112_z33 c112_rv T3.heap n0 (Nat.le_trans Z0 K3q.1) hc112_z1 hc112_z5 hc112_z6 hc112_z11 hc112_z17 hc112_z18 hc112_z25 hc112_z32 hc112_z33 hc112_rv) hZ (hw _ (List.mem_of_getElem? (i := 49) rfl)) (hw _ (List.mem_of_getElem? (i := 3) rfl)) (by decide) (by decide)) (g := (mkF m 112 #[.val (.int p0), .val (.int p1), .val (.int p2), .val (.int p3), .val (.int p4), .val (.int p5), .val (.int z3), .val (.int z9), .val (.int c17_z58), .val (.int c27_z58), .val (.ref rb3_b1), .val (.int (1 : Int32)), .val (.int (0 : Int32)), .val (.int c102_rv), .unset, .unset, .unset, .unset, .unset, .unset, .unset] [(.int z9), (.int p3), (.int c27_z58)])) rfl (by rw [hml]; rfl) (argsL := [(.int c27_z58), (.int p3), (.int z9)]) (rest := []) (lenOf pd_5 rfl) rfl (by show 2 * 0 + _ ≤ _; exact Nat.le_of_eq rfl) (hb hby at_112) (fun _ _ => ⟨rfl, e57, (by decide : 1 + 0 ≤ _), (by decide : 4 + 0 ≤ _)⟩)
          dsimp only [Pt.U, Pt.locs, Pt.cells, Pt.slots] at X58 ql58 qy58 qz58 st58 hQ58
          subst ql58 qy58 qz58
          obtain ⟨rfl, N58q, e58⟩ := hQ58
          have N58 := Fr.app N57 N58q
          obtain ⟨_, _, ⟨T59, L59, k59, n59⟩, -, X59, ⟨Lc59, hQ59, ql59, qy59, qz59⟩, st59⟩ := Jvm.LawKit.callS X58 hx (y := (⟨"java/lang/Math", "abs", "(J)J"⟩ : MethodName)) hown (mvT hZ (hw _ (List.mem_of_getElem? (i := 50) rfl))) (mvT hZ (hw _ (List.mem_of_getElem? (i := 51) rfl))) (mvT hZ (hw _ (List.mem_of_getElem? (i := 13) rfl))) (mvT hZ (hw _ (List.mem_of_getElem? (i := 52) rfl))) (by decide) (backOf (W := 4) (rm11 l Z a0 hw [] z122 c123_z2 c123_z7 c123_rv T3.heap n0 (Nat.le_trans Z0 K3q.1) hc123_z2 hc123_z7 hc123_rv) hZ (hw _ (List.mem_of_getElem? (i := 52) rfl)) (hw _ (List.mem_of_getElem? (i := 13) rfl)) (by decide) (by decide)) (g := (mkF m 123 #[.val (.int p0), .val (.int p1), .val (.int p2), .val (.int p3), .val (.int p4), .val (.int p5), .val (.int z3), .val (.int z9), .val (.int c17_z58), .val (.int c27_z58), .val (.ref rb3_b1), .val (.int (1 : Int32)), .val (.int (0 : Int32)), .val (.int c102_rv), .val (.int c112_rv), .unset, .unset, .unset, .unset, .unset, .unset] [(.long z122), (.long z120), (.long (0 : Int64))])) rfl (by rw [hml]; rfl) (argsL := [(.long z122)]) (rest := [(.long z120), (.long (0 : Int64))]) (lenOf pd_6 rfl) rfl (by show 2 * 0 + _ ≤ _; exact Nat.le_of_eq rfl) (hb hby at_123) (fun _ _ => ⟨rfl, e58, (by decide : 1 + 0 ≤ _), (by decide : 4 + 0 ≤ _)⟩)
          dsimp only [Pt.U, Pt.locs, Pt.cells, Pt.slots] at X59 ql59 qy59 qz59 st59 hQ59
          subst ql59 qy59 qz59
          obtain ⟨rfl, N59q, e59⟩ := hQ59
          have N59 := Fr.app N58 N59q
          obtain ⟨_, _, ⟨T60, L60, k60, n60⟩, -, X60, ⟨Lc60, hQ60, ql60, qy60, qz60⟩, st60⟩ := Jvm.LawKit.callS X59 hx (y := (⟨"java/lang/Math", "max", "(JJ)J"⟩ : MethodName)) hown (mvT hZ (hw _ (List.mem_of_getElem? (i := 53) rfl))) (mvT hZ (hw _ (List.mem_of_getElem? (i := 54) rfl))) (mvT hZ (hw _ (List.mem_of_getElem? (i := 13) rfl))) (mvT hZ (hw _ (List.mem_of_getElem? (i := 55) rfl))) (by decide) (backOf (W := 0) (rm12 l Z a0 hw [] (0 : Int64) z126 c127_z2 c127_rv T3.heap n0 (Nat.le_trans Z0 K3q.1) hc127_z2 hc127_rv) hZ (hw _ (List.mem_of_getElem? (i := 55) rfl)) (hw _ (List.mem_of_getElem? (i := 13) rfl)) (by decide) (by decide)) (g := (mkF m 127 #[.val (.int p0), .val (.int p1), .val (.int p2), .val (.int p3), .val (.int p4), .val (.int p5), .val (.int z3), .val (.int z9), .val (.int c17_z58), .val (.int c27_z58), .val (.ref rb3_b1), .val (.int (1 : Int32)), .val (.int (0 : Int32)), .val (.int c102_rv), .val (.int c112_rv), .unset, .unset, .unset, .unset, .unset, .unset] [(.long z126), (.long (0 : Int64))])) rfl (by rw [hml]; rfl) (argsL := [(.long (0 : Int64)), (.long z126)]) (rest := []) (lenOf pd_7 rfl) rfl (by show 2 * 0 + _ ≤ _; exact Nat.le_of_eq rfl) (hb hby at_127) (fun _ _ => ⟨rfl, e59, (by decide : 1 + 0 ≤ _), (by decide : 4 + 0 ≤ _)⟩)
          dsimp only [Pt.U, Pt.locs, Pt.cells, Pt.slots] at X60 ql60 qy60 qz60 st60 hQ60
          subst ql60 qy60 qz60
          obtain ⟨rfl, N60q, e60⟩ := hQ60
          have N60 := Fr.app N59 N60q
          obtain ⟨_, _, ⟨T61, L61, k61, n61⟩, -, X61, ⟨Lc61, hQ61, ql61, qy61, qz61⟩, st61⟩ := Jvm.LawKit.callS X60 hx (y := (⟨"java/lang/Math", "abs", "(J)J"⟩ : MethodName)) hown (mvT hZ (hw _ (List.mem_of_getElem? (i := 50) rfl))) (mvT hZ (hw _ (List.mem_of_getElem? (i := 51) rfl))) (mvT hZ (hw _ (List.mem_of_getElem? (i := 13) rfl))) (mvT hZ (hw _ (List.mem_of_getElem? (i := 52) rfl))) (by decide) (backOf (W := 4) (rm11 l Z a0 hw [] z137 c138_z2 c138_z7 c138_rv T3.heap n0 (Nat.le_trans Z0 K3q.1) hc138_z2 hc138_z7 hc138_rv) hZ (hw _ (List.mem_of_getElem? (i := 52) rfl)) (hw _ (List.mem_of_getElem? (i := 13) rfl)) (by decide) (by decide)) (g := (mkF m 138 #[.val (.int p0), .val (.int p1), .val (.int p2), .val (.int p3), .val (.int p4), .val (.int p5), .val (.int z3), .val (.int z9), .val (.int c17_z58), .val (.int c27_z58), .val (.ref rb3_b1), .val (.int (1 : Int32)), .val (.int (0 : Int32)), .val (.int c102_rv), .val (.int c112_rv), .val (.long c127_rv), .second, .unset, .unset, .unset, .unset] [(.long z137), (.long z135), (.long (0 : Int64))])) rfl (by rw [hml]; rfl) (argsL := [(.long z137)]) (rest := [(.long z135), (.long (0 : Int64))]) (lenOf pd_6 rfl) rfl (by show 2 * 0 + _ ≤ _; exact Nat.le_of_eq rfl) (hb hby at_138) (fun _ _ => ⟨rfl, e60, (by decide : 1 + 0 ≤ _), (by decide : 4 + 0 ≤ _)⟩)
          dsimp only [Pt.U, Pt.locs, Pt.cells, Pt.slots] at X61 ql61 qy61 qz61 st61 hQ61
          subst ql61 qy61 qz61
          obtain ⟨rfl, N61q, e61⟩ := hQ61
          have N61 := Fr.app N60 N61q
          obtain ⟨_, _, ⟨T62, L62, k62, n62⟩, -, X62, ⟨Lc62, hQ62, ql62, qy62, qz62⟩, st62⟩ := Jvm.LawKit.callS X61 hx (y := (⟨"java/lang/Math", "max", "(JJ)J"⟩ : MethodName)) hown (mvT hZ (hw _ (List.mem_of_getElem? (i := 53) rfl))) (mvT hZ (hw _ (List.mem_of_getElem? (i := 54) rfl))) (mvT hZ (hw _ (List.mem_of_getElem? (i := 13) rfl))) (mvT hZ (hw _ (List.mem_of_getElem? (i := 55) rfl))) (by decide) (backOf (W := 0) (rm12 l Z a0 hw [] (0 : Int64) z141 c142_z2 c142_rv T3.heap n0 (Nat.le_trans Z0 K3q.1) hc142_z2 hc142_rv) hZ (hw _ (List.mem_of_getElem? (i := 55) rfl)) (hw _ (List.mem_of_getElem? (i := 13) rfl)) (by decide) (by decide)) (g := (mkF m 142 #[.val (.int p0), .val (.int p1), .val (.int p2), .val (.int p3), .val (.int p4), .val (.int p5), .val (.int z3), .val (.int z9), .val (.int c17_z58), .val (.int c27_z58), .val (.ref rb3_b1), .val (.int (1 : Int32)), .val (.int (0 : Int32)), .val (.int c102_rv), .val (.int c112_rv), .val (.long c127_rv), .second, .unset, .unset, .unset, .unset] [(.long z141), (.long (0 : Int64))])) rfl (by rw [hml]; rfl) (argsL := [(.long (0 : Int64)), (.long z141)]) (rest := []) (lenOf pd_7 rfl) rfl (by show 2 * 0 + _ ≤ _; exact Nat.le_of_eq rfl) (hb hby at_142) (fun _ _ => ⟨rfl, e61, (by decide : 1 + 0 ≤ _), (by decide : 4 + 0 ≤ _)⟩)
          dsimp only [Pt.U, Pt.locs, Pt.cells, Pt.slots] at X62 ql62 qy62 qz62 st62 hQ62
          subst ql62 qy62 qz62
          obtain ⟨rfl, N62q, e62⟩ := hQ62
          have N62 := Fr.app N61 N62q
          have br159 : (1 : Int32) = c102_rv := by
            rw [meet hA hc38_z17 hc38_c6_rv hc38_c18_rv hc102_z1 hc102_z5 hc102_z6 hc102_z11 hc102_z17 hc102_z18 hc102_z25 hc102_z32 hc102_z33 hc102_rv, if_neg hb50, if_pos hb60]
          have br166 : (0 : Int32) = c112_rv := by
            rw [meet hB hc38_z24 hc38_c11_rv hc38_c25_rv hc112_z1 hc112_z5 hc112_z6 hc112_z11 hc112_z17 hc112_z18 hc112_z25 hc112_z32 hc112_z33 hc112_rv, if_neg hb77, if_neg hb87]
          obtain ⟨c171_nn42, fin⟩ := area (side hA hc38_z17 hc38_c6_rv hc38_c18_rv hz120 hz122 hc123_z2 hc123_z7 hc123_rv hz126 hc127_z2 hc127_rv) (side hB hc38_z24 hc38_c11_rv hc38_c25_rv hz135 hz137 hc138_z2 hc138_z7 hc138_rv hz141 hc142_z2 hc142_rv) hc171_z30 hc171_z40 hc171_z31 hc171_z41 hc171_z42 hz151 hz152 hc171_rv
          obtain ⟨cq63, kq63, q63a, q63b, q63c⟩ := isOf hZ e62 Q3_0
          obtain ⟨_, _, ⟨T63, L63, k63, n63⟩, -, X63, ⟨Lc63, hQ63, ql63, qy63, qz63⟩, st63⟩ := X62.virtualBack hx (y := (⟨"com/example/vetrino/vetrino/Overlap", "area", "()D"⟩ : MethodName)) (z := (⟨"com/example/vetrino/vetrino/Overlap", "area", "()D"⟩ : MethodName)) hown (mvT hZ (hw _ (List.mem_of_getElem? (i := 56) rfl))) (mvT hZ (hw _ (List.mem_of_getElem? (i := 57) rfl))) (notFace_of_selects (args := #[]) (mvT hZ (hw _ (List.mem_of_getElem? (i := 59) rfl)))) (mvT hZ (hw _ (List.mem_of_getElem? (i := 59) rfl))) (mvT hZ (hw _ (List.mem_of_getElem? (i := 58) rfl))) (by decide) (backOf (W := 0) (rm13 l Z a0 hw [] rb3_b1 c38_c18_rv c38_c6_rv c38_c25_rv c38_c11_rv c171_z30 c171_z31 c171_z40 c171_z41 c171_z42 c171_rv T3.heap n0 (Nat.le_trans Z0 K3q.1) Q3_3 Q3_1 Q3_4 Q3_2 hc171_z30 hc171_z31 hc171_z40 hc171_z41 hc171_z42 hc171_rv c171_nn42) hZ (hw _ (List.mem_of_getElem? (i := 60) rfl)) (hw _ (List.mem_of_getElem? (i := 7) rfl)) (by decide) (by decide)) q63a q63c (g := (mkF m 171 #[.val (.int p0), .val (.int p1), .val (.int p2), .val (.int p3), .val (.int p4), .val (.int p5), .val (.int z3), .val (.int z9), .val (.int c17_z58), .val (.int c27_z58), .val (.ref rb3_b1), .val (.int (1 : Int32)), .val (.int (0 : Int32)), .val (.int c102_rv), .val (.int c112_rv), .val (.long c127_rv), .second, .val (.long c142_rv), .second, .val (.double z152), .second] [(.ref rb3_b1)])) rfl (by rw [hml]; rfl) (Steps.refl _) (argsL := []) (rest := []) (lenOf pd_8 rfl) rfl (by show 2 * 0 + _ ≤ _; exact Nat.le_of_eq rfl) (hb hby at_171) (fun _ _ => ⟨rfl, e62, (by decide : 1 + 0 ≤ _), (by decide : 4 + 0 ≤ _)⟩)
          dsimp only [Pt.U, Pt.locs, Pt.cells, Pt.slots] at X63 ql63 qy63 qz63 st63 hQ63
          subst ql63 qy63 qz63
          obtain ⟨rfl, N63q, e63⟩ := hQ63
          have N63 := Fr.app N62 N63q
          have br177 : z176 = 0 := hz176.symm.trans fin
          have c64 : ∀ t, Steps p.tables e below (T63.setTop (mkF m 185 #[.val (.int p0), .val (.int p1), .val (.int p2), .val (.int p3), .val (.int p4), .val (.int p5), .val (.int z3), .val (.int z9), .val (.int c17_z58), .val (.int c27_z58), .val (.ref rb3_b1), .val (.int (1 : Int32)), .val (.int (0 : Int32)), .val (.int c102_rv), .val (.int c112_rv), .val (.long c127_rv), .second, .val (.long c142_rv), .second, .val (.double z152), .second] [(.int (1 : Int32))])) t → Steps p.tables e below (s₁.setTop (entryFrame m #[(.int p0), (.int p1), (.int p2), (.int p3), (.int p4), (.int p5)] maxLocals)) t := by
            intro t k
            refine c48 t ?_
            show Steps p.tables e below (T47.setTop (mkF m 87 #[.val (.int p0), .val (.int p1), .val (.int p2), .val (.int p3), .val (.int p4), .val (.int p5), .val (.int z3), .val (.int z9), .val (.int c17_z58), .val (.int c27_z58), .val (.ref rb3_b1), .val (.int (1 : Int32)), .unset, .unset, .unset, .unset, .unset, .unset, .unset, .unset, .unset] [(.int c38_c25_rv), (.int c27_z58)])) _
            refine XS.icmpYes X47.here hx rfl (pc0 := 87) (pc' := 94) rfl (hb hby at_87) rfl (Jvm.Free.XT.ii_ge_t hb87) (by decide) (by decide) ?_
            show Steps p.tables e below (T47.setTop (mkF m 94 #[.val (.int p0), .val (.int p1), .val (.int p2), .val (.int p3), .val (.int p4), .val (.int p5), .val (.int z3), .val (.int z9), .val (.int c17_z58), .val (.int c27_z58), .val (.ref rb3_b1), .val (.int (1 : Int32)), .unset, .unset, .unset, .unset, .unset, .unset, .unset, .unset, .unset] [])) _
            refine XS.iconst X47.here hx rfl (hb hby at_94) ?_
            show Steps p.tables e below (T47.setTop (mkF m 95 #[.val (.int p0), .val (.int p1), .val (.int p2), .val (.int p3), .val (.int p4), .val (.int p5), .val (.int z3), .val (.int z9), .val (.int c17_z58), .val (.int c27_z58), .val (.ref rb3_b1), .val (.int (1 : Int32)), .unset, .unset, .unset, .unset, .unset, .unset, .unset, .unset, .unset] [(.int (0 : Int32))])) _
            refine XS.istore X47.here hx rfl (hb hby at_95) rfl (l' := #[.val (.int p0), .val (.int p1), .val (.int p2), .val (.int p3), .val (.int p4), .val (.int p5), .val (.int z3), .val (.int z9), .val (.int c17_z58), .val (.int c27_z58), .val (.ref rb3_b1), .val (.int (1 : Int32)), .val (.int (0 : Int32)), .unset, .unset, .unset, .unset, .unset, .unset, .unset, .unset]) rfl ?_
            show Steps p.tables e below (T47.setTop (mkF m 97 #[.val (.int p0), .val (.int p1), .val (.int p2), .val (.int p3), .val (.int p4), .val (.int p5), .val (.int z3), .val (.int z9), .val (.int c17_z58), .val (.int c27_z58), .val (.ref rb3_b1), .val (.int (1 : Int32)), .val (.int (0 : Int32)), .unset, .unset, .unset, .unset, .unset, .unset, .unset, .unset] [])) _
            refine XS.iload X47.here hx rfl (hb hby at_97) rfl ?_
            show Steps p.tables e below (T47.setTop (mkF m 99 #[.val (.int p0), .val (.int p1), .val (.int p2), .val (.int p3), .val (.int p4), .val (.int p5), .val (.int z3), .val (.int z9), .val (.int c17_z58), .val (.int c27_z58), .val (.ref rb3_b1), .val (.int (1 : Int32)), .val (.int (0 : Int32)), .unset, .unset, .unset, .unset, .unset, .unset, .unset, .unset] [(.int c17_z58)])) _
            refine XS.iloadN X47.here hx rfl (hb hby at_99) rfl ?_
            show Steps p.tables e below (T47.setTop (mkF m 100 #[.val (.int p0), .val (.int p1), .val (.int p2), .val (.int p3), .val (.int p4), .val (.int p5), .val (.int z3), .val (.int z9), .val (.int c17_z58), .val (.int c27_z58), .val (.ref rb3_b1), .val (.int (1 : Int32)), .val (.int (0 : Int32)), .unset, .unset, .unset, .unset, .unset, .unset, .unset, .unset] [(.int p2), (.int c17_z58)])) _
            refine XS.iload X47.here hx rfl (hb hby at_100) rfl ?_
            show Steps p.tables e below (T47.setTop (mkF m 102 #[.val (.int p0), .val (.int p1), .val (.int p2), .val (.int p3), .val (.int p4), .val (.int p5), .val (.int z3), .val (.int z9), .val (.int c17_z58), .val (.int c27_z58), .val (.ref rb3_b1), .val (.int (1 : Int32)), .val (.int (0 : Int32)), .unset, .unset, .unset, .unset, .unset, .unset, .unset, .unset] [(.int z3), (.int p2), (.int c17_z58)])) _
            refine st57 _ ?_
            show Steps p.tables e below (T57.setTop (mkF m 105 #[.val (.int p0), .val (.int p1), .val (.int p2), .val (.int p3), .val (.int p4), .val (.int p5), .val (.int z3), .val (.int z9), .val (.int c17_z58), .val (.int c27_z58), .val (.ref rb3_b1), .val (.int (1 : Int32)), .val (.int (0 : Int32)), .unset, .unset, .unset, .unset, .unset, .unset, .unset, .unset] [(.int c102_rv)])) _
            refine XS.istore X57.here hx rfl (hb hby at_105) rfl (l' := #[.val (.int p0), .val (.int p1), .val (.int p2), .val (.int p3), .val (.int p4), .val (.int p5), .val (.int z3), .val (.int z9), .val (.int c17_z58), .val (.int c27_z58), .val (.ref rb3_b1), .val (.int (1 : Int32)), .val (.int (0 : Int32)), .val (.int c102_rv), .unset, .unset, .unset, .unset, .unset, .unset, .unset]) rfl ?_
            show Steps p.tables e below (T57.setTop (mkF m 107 #[.val (.int p0), .val (.int p1), .val (.int p2), .val (.int p3), .val (.int p4), .val (.int p5), .val (.int z3), .val (.int z9), .val (.int c17_z58), .val (.int c27_z58), .val (.ref rb3_b1), .val (.int (1 : Int32)), .val (.int (0 : Int32)), .val (.int c102_rv), .unset, .unset, .unset, .unset, .unset, .unset, .unset] [])) _
            refine XS.iload X57.here hx rfl (hb hby at_107) rfl ?_
            show Steps p.tables e below (T57.setTop (mkF m 109 #[.val (.int p0), .val (.int p1), .val (.int p2), .val (.int p3), .val (.int p4), .val (.int p5), .val (.int z3), .val (.int z9), .val (.int c17_z58), .val (.int c27_z58), .val (.ref rb3_b1), .val (.int (1 : Int32)), .val (.int (0 : Int32)), .val (.int c102_rv), .unset, .unset, .unset, .unset, .unset, .unset, .unset] [(.int c27_z58)])) _
            refine XS.iloadN X57.here hx rfl (hb hby at_109) rfl ?_
            show Steps p.tables e below (T57.setTop (mkF m 110 #[.val (.int p0), .val (.int p1), .val (.int p2), .val (.int p3), .val (.int p4), .val (.int p5), .val (.int z3), .val (.int z9), .val (.int c17_z58), .val (.int c27_z58), .val (.ref rb3_b1), .val (.int (1 : Int32)), .val (.int (0 : Int32)), .val (.int c102_rv), .unset, .unset, .unset, .unset, .unset, .unset, .unset] [(.int p3), (.int c27_z58)])) _
            refine XS.iload X57.here hx rfl (hb hby at_110) rfl ?_
            show Steps p.tables e below (T57.setTop (mkF m 112 #[.val (.int p0), .val (.int p1), .val (.int p2), .val (.int p3), .val (.int p4), .val (.int p5), .val (.int z3), .val (.int z9), .val (.int c17_z58), .val (.int c27_z58), .val (.ref rb3_b1), .val (.int (1 : Int32)), .val (.int (0 : Int32)), .val (.int c102_rv), .unset, .unset, .unset, .unset, .unset, .unset, .unset] [(.int z9), (.int p3), (.int c27_z58)])) _
            refine st58 _ ?_
            show Steps p.tables e below (T58.setTop (mkF m 115 #[.val (.int p0), .val (.int p1), .val (.int p2), .val (.int p3), .val (.int p4), .val (.int p5), .val (.int z3), .val (.int z9), .val (.int c17_z58), .val (.int c27_z58), .val (.ref rb3_b1), .val (.int (1 : Int32)), .val (.int (0 : Int32)), .val (.int c102_rv), .unset, .unset, .unset, .unset, .unset, .unset, .unset] [(.int c112_rv)])) _
            refine XS.istore X58.here hx rfl (hb hby at_115) rfl (l' := #[.val (.int p0), .val (.int p1), .val (.int p2), .val (.int p3), .val (.int p4), .val (.int p5), .val (.int z3), .val (.int z9), .val (.int c17_z58), .val (.int c27_z58), .val (.ref rb3_b1), .val (.int (1 : Int32)), .val (.int (0 : Int32)), .val (.int c102_rv), .val (.int c112_rv), .unset, .unset, .unset, .unset, .unset, .unset]) rfl ?_
            show Steps p.tables e below (T58.setTop (mkF m 117 #[.val (.int p0), .val (.int p1), .val (.int p2), .val (.int p3), .val (.int p4), .val (.int p5), .val (.int z3), .val (.int z9), .val (.int c17_z58), .val (.int c27_z58), .val (.ref rb3_b1), .val (.int (1 : Int32)), .val (.int (0 : Int32)), .val (.int c102_rv), .val (.int c112_rv), .unset, .unset, .unset, .unset, .unset, .unset] [])) _
            refine XS.lconst X58.here hx rfl (hb hby at_117) ?_
            show Steps p.tables e below (T58.setTop (mkF m 118 #[.val (.int p0), .val (.int p1), .val (.int p2), .val (.int p3), .val (.int p4), .val (.int p5), .val (.int z3), .val (.int z9), .val (.int c17_z58), .val (.int c27_z58), .val (.ref rb3_b1), .val (.int (1 : Int32)), .val (.int (0 : Int32)), .val (.int c102_rv), .val (.int c112_rv), .unset, .unset, .unset, .unset, .unset, .unset] [(.long (0 : Int64))])) _
            refine XS.iload X58.here hx rfl (hb hby at_118) rfl ?_
            show Steps p.tables e below (T58.setTop (mkF m 120 #[.val (.int p0), .val (.int p1), .val (.int p2), .val (.int p3), .val (.int p4), .val (.int p5), .val (.int z3), .val (.int z9), .val (.int c17_z58), .val (.int c27_z58), .val (.ref rb3_b1), .val (.int (1 : Int32)), .val (.int (0 : Int32)), .val (.int c102_rv), .val (.int c112_rv), .unset, .unset, .unset, .unset, .unset, .unset] [(.int z3), (.long (0 : Int64))])) _
            refine Jvm.OwnK.i2l X58.here hx rfl (hb hby at_120) rfl hz120 ?_
            show Steps p.tables e below (T58.setTop (mkF m 121 #[.val (.int p0), .val (.int p1), .val (.int p2), .val (.int p3), .val (.int p4), .val (.int p5), .val (.int z3), .val (.int z9), .val (.int c17_z58), .val (.int c27_z58), .val (.ref rb3_b1), .val (.int (1 : Int32)), .val (.int (0 : Int32)), .val (.int c102_rv), .val (.int c112_rv), .unset, .unset, .unset, .unset, .unset, .unset] [(.long z120), (.long (0 : Int64))])) _
            refine XS.iloadN X58.here hx rfl (hb hby at_121) rfl ?_
            show Steps p.tables e below (T58.setTop (mkF m 122 #[.val (.int p0), .val (.int p1), .val (.int p2), .val (.int p3), .val (.int p4), .val (.int p5), .val (.int z3), .val (.int z9), .val (.int c17_z58), .val (.int c27_z58), .val (.ref rb3_b1), .val (.int (1 : Int32)), .val (.int (0 : Int32)), .val (.int c102_rv), .val (.int c112_rv), .unset, .unset, .unset, .unset, .unset, .unset] [(.int p2), (.long z120), (.long (0 : Int64))])) _
            refine Jvm.OwnK.i2l X58.here hx rfl (hb hby at_122) rfl hz122 ?_
            show Steps p.tables e below (T58.setTop (mkF m 123 #[.val (.int p0), .val (.int p1), .val (.int p2), .val (.int p3), .val (.int p4), .val (.int p5), .val (.int z3), .val (.int z9), .val (.int c17_z58), .val (.int c27_z58), .val (.ref rb3_b1), .val (.int (1 : Int32)), .val (.int (0 : Int32)), .val (.int c102_rv), .val (.int c112_rv), .unset, .unset, .unset, .unset, .unset, .unset] [(.long z122), (.long z120), (.long (0 : Int64))])) _
            refine st59 _ ?_
            show Steps p.tables e below (T59.setTop (mkF m 126 #[.val (.int p0), .val (.int p1), .val (.int p2), .val (.int p3), .val (.int p4), .val (.int p5), .val (.int z3), .val (.int z9), .val (.int c17_z58), .val (.int c27_z58), .val (.ref rb3_b1), .val (.int (1 : Int32)), .val (.int (0 : Int32)), .val (.int c102_rv), .val (.int c112_rv), .unset, .unset, .unset, .unset, .unset, .unset] [(.long c123_rv), (.long z120), (.long (0 : Int64))])) _
            refine Jvm.OwnK.lsub X59.here hx rfl (hb hby at_126) rfl hz126 ?_
            show Steps p.tables e below (T59.setTop (mkF m 127 #[.val (.int p0), .val (.int p1), .val (.int p2), .val (.int p3), .val (.int p4), .val (.int p5), .val (.int z3), .val (.int z9), .val (.int c17_z58), .val (.int c27_z58), .val (.ref rb3_b1), .val (.int (1 : Int32)), .val (.int (0 : Int32)), .val (.int c102_rv), .val (.int c112_rv), .unset, .unset, .unset, .unset, .unset, .unset] [(.long z126), (.long (0 : Int64))])) _
            refine st60 _ ?_
            show Steps p.tables e below (T60.setTop (mkF m 130 #[.val (.int p0), .val (.int p1), .val (.int p2), .val (.int p3), .val (.int p4), .val (.int p5), .val (.int z3), .val (.int z9), .val (.int c17_z58), .val (.int c27_z58), .val (.ref rb3_b1), .val (.int (1 : Int32)), .val (.int (0 : Int32)), .val (.int c102_rv), .val (.int c112_rv), .unset, .unset, .unset, .unset, .unset, .unset] [(.long c127_rv)])) _
            refine XS.lstore X60.here hx rfl (hb hby at_130) rfl (l' := #[.val (.int p0), .val (.int p1), .val (.int p2), .val (.int p3), .val (.int p4), .val (.int p5), .val (.int z3), .val (.int z9), .val (.int c17_z58), .val (.int c27_z58), .val (.ref rb3_b1), .val (.int (1 : Int32)), .val (.int (0 : Int32)), .val (.int c102_rv), .val (.int c112_rv), .val (.long c127_rv), .second, .unset, .unset, .unset, .unset]) rfl ?_
            show Steps p.tables e below (T60.setTop (mkF m 132 #[.val (.int p0), .val (.int p1), .val (.int p2), .val (.int p3), .val (.int p4), .val (.int p5), .val (.int z3), .val (.int z9), .val (.int c17_z58), .val (.int c27_z58), .val (.ref rb3_b1), .val (.int (1 : Int32)), .val (.int (0 : Int32)), .val (.int c102_rv), .val (.int c112_rv), .val (.long c127_rv), .second, .unset, .unset, .unset, .unset] [])) _
            refine XS.lconst X60.here hx rfl (hb hby at_132) ?_
            show Steps p.tables e below (T60.setTop (mkF m 133 #[.val (.int p0), .val (.int p1), .val (.int p2), .val (.int p3), .val (.int p4), .val (.int p5), .val (.int z3), .val (.int z9), .val (.int c17_z58), .val (.int c27_z58), .val (.ref rb3_b1), .val (.int (1 : Int32)), .val (.int (0 : Int32)), .val (.int c102_rv), .val (.int c112_rv), .val (.long c127_rv), .second, .unset, .unset, .unset, .unset] [(.long (0 : Int64))])) _
            refine XS.iload X60.here hx rfl (hb hby at_133) rfl ?_
            show Steps p.tables e below (T60.setTop (mkF m 135 #[.val (.int p0), .val (.int p1), .val (.int p2), .val (.int p3), .val (.int p4), .val (.int p5), .val (.int z3), .val (.int z9), .val (.int c17_z58), .val (.int c27_z58), .val (.ref rb3_b1), .val (.int (1 : Int32)), .val (.int (0 : Int32)), .val (.int c102_rv), .val (.int c112_rv), .val (.long c127_rv), .second, .unset, .unset, .unset, .unset] [(.int z9), (.long (0 : Int64))])) _
            refine Jvm.OwnK.i2l X60.here hx rfl (hb hby at_135) rfl hz135 ?_
            show Steps p.tables e below (T60.setTop (mkF m 136 #[.val (.int p0), .val (.int p1), .val (.int p2), .val (.int p3), .val (.int p4), .val (.int p5), .val (.int z3), .val (.int z9), .val (.int c17_z58), .val (.int c27_z58), .val (.ref rb3_b1), .val (.int (1 : Int32)), .val (.int (0 : Int32)), .val (.int c102_rv), .val (.int c112_rv), .val (.long c127_rv), .second, .unset, .unset, .unset, .unset] [(.long z135), (.long (0 : Int64))])) _
            refine XS.iloadN X60.here hx rfl (hb hby at_136) rfl ?_
            show Steps p.tables e below (T60.setTop (mkF m 137 #[.val (.int p0), .val (.int p1), .val (.int p2), .val (.int p3), .val (.int p4), .val (.int p5), .val (.int z3), .val (.int z9), .val (.int c17_z58), .val (.int c27_z58), .val (.ref rb3_b1), .val (.int (1 : Int32)), .val (.int (0 : Int32)), .val (.int c102_rv), .val (.int c112_rv), .val (.long c127_rv), .second, .unset, .unset, .unset, .unset] [(.int p3), (.long z135), (.long (0 : Int64))])) _
            refine Jvm.OwnK.i2l X60.here hx rfl (hb hby at_137) rfl hz137 ?_
            show Steps p.tables e below (T60.setTop (mkF m 138 #[.val (.int p0), .val (.int p1), .val (.int p2), .val (.int p3), .val (.int p4), .val (.int p5), .val (.int z3), .val (.int z9), .val (.int c17_z58), .val (.int c27_z58), .val (.ref rb3_b1), .val (.int (1 : Int32)), .val (.int (0 : Int32)), .val (.int c102_rv), .val (.int c112_rv), .val (.long c127_rv), .second, .unset, .unset, .unset, .unset] [(.long z137), (.long z135), (.long (0 : Int64))])) _
            refine st61 _ ?_
            show Steps p.tables e below (T61.setTop (mkF m 141 #[.val (.int p0), .val (.int p1), .val (.int p2), .val (.int p3), .val (.int p4), .val (.int p5), .val (.int z3), .val (.int z9), .val (.int c17_z58), .val (.int c27_z58), .val (.ref rb3_b1), .val (.int (1 : Int32)), .val (.int (0 : Int32)), .val (.int c102_rv), .val (.int c112_rv), .val (.long c127_rv), .second, .unset, .unset, .unset, .unset] [(.long c138_rv), (.long z135), (.long (0 : Int64))])) _
            refine Jvm.OwnK.lsub X61.here hx rfl (hb hby at_141) rfl hz141 ?_
            show Steps p.tables e below (T61.setTop (mkF m 142 #[.val (.int p0), .val (.int p1), .val (.int p2), .val (.int p3), .val (.int p4), .val (.int p5), .val (.int z3), .val (.int z9), .val (.int c17_z58), .val (.int c27_z58), .val (.ref rb3_b1), .val (.int (1 : Int32)), .val (.int (0 : Int32)), .val (.int c102_rv), .val (.int c112_rv), .val (.long c127_rv), .second, .unset, .unset, .unset, .unset] [(.long z141), (.long (0 : Int64))])) _
            refine st62 _ ?_
            show Steps p.tables e below (T62.setTop (mkF m 145 #[.val (.int p0), .val (.int p1), .val (.int p2), .val (.int p3), .val (.int p4), .val (.int p5), .val (.int z3), .val (.int z9), .val (.int c17_z58), .val (.int c27_z58), .val (.ref rb3_b1), .val (.int (1 : Int32)), .val (.int (0 : Int32)), .val (.int c102_rv), .val (.int c112_rv), .val (.long c127_rv), .second, .unset, .unset, .unset, .unset] [(.long c142_rv)])) _
            refine XS.lstore X62.here hx rfl (hb hby at_145) rfl (l' := #[.val (.int p0), .val (.int p1), .val (.int p2), .val (.int p3), .val (.int p4), .val (.int p5), .val (.int z3), .val (.int z9), .val (.int c17_z58), .val (.int c27_z58), .val (.ref rb3_b1), .val (.int (1 : Int32)), .val (.int (0 : Int32)), .val (.int c102_rv), .val (.int c112_rv), .val (.long c127_rv), .second, .val (.long c142_rv), .second, .unset, .unset]) rfl ?_
            show Steps p.tables e below (T62.setTop (mkF m 147 #[.val (.int p0), .val (.int p1), .val (.int p2), .val (.int p3), .val (.int p4), .val (.int p5), .val (.int z3), .val (.int z9), .val (.int c17_z58), .val (.int c27_z58), .val (.ref rb3_b1), .val (.int (1 : Int32)), .val (.int (0 : Int32)), .val (.int c102_rv), .val (.int c112_rv), .val (.long c127_rv), .second, .val (.long c142_rv), .second, .unset, .unset] [])) _
            refine XS.lload X62.here hx rfl (hb hby at_147) rfl ?_
            show Steps p.tables e below (T62.setTop (mkF m 149 #[.val (.int p0), .val (.int p1), .val (.int p2), .val (.int p3), .val (.int p4), .val (.int p5), .val (.int z3), .val (.int z9), .val (.int c17_z58), .val (.int c27_z58), .val (.ref rb3_b1), .val (.int (1 : Int32)), .val (.int (0 : Int32)), .val (.int c102_rv), .val (.int c112_rv), .val (.long c127_rv), .second, .val (.long c142_rv), .second, .unset, .unset] [(.long c127_rv)])) _
            refine XS.lload X62.here hx rfl (hb hby at_149) rfl ?_
            show Steps p.tables e below (T62.setTop (mkF m 151 #[.val (.int p0), .val (.int p1), .val (.int p2), .val (.int p3), .val (.int p4), .val (.int p5), .val (.int z3), .val (.int z9), .val (.int c17_z58), .val (.int c27_z58), .val (.ref rb3_b1), .val (.int (1 : Int32)), .val (.int (0 : Int32)), .val (.int c102_rv), .val (.int c112_rv), .val (.long c127_rv), .second, .val (.long c142_rv), .second, .unset, .unset] [(.long c142_rv), (.long c127_rv)])) _
            refine Jvm.OwnK.lmul X62.here hx rfl (hb hby at_151) rfl hz151 ?_
            show Steps p.tables e below (T62.setTop (mkF m 152 #[.val (.int p0), .val (.int p1), .val (.int p2), .val (.int p3), .val (.int p4), .val (.int p5), .val (.int z3), .val (.int z9), .val (.int c17_z58), .val (.int c27_z58), .val (.ref rb3_b1), .val (.int (1 : Int32)), .val (.int (0 : Int32)), .val (.int c102_rv), .val (.int c112_rv), .val (.long c127_rv), .second, .val (.long c142_rv), .second, .unset, .unset] [(.long z151)])) _
            refine XS.l2dS X62.here hx rfl (hb hby at_152) rfl hz152 ?_
            show Steps p.tables e below (T62.setTop (mkF m 153 #[.val (.int p0), .val (.int p1), .val (.int p2), .val (.int p3), .val (.int p4), .val (.int p5), .val (.int z3), .val (.int z9), .val (.int c17_z58), .val (.int c27_z58), .val (.ref rb3_b1), .val (.int (1 : Int32)), .val (.int (0 : Int32)), .val (.int c102_rv), .val (.int c112_rv), .val (.long c127_rv), .second, .val (.long c142_rv), .second, .unset, .unset] [(.double z152)])) _
            refine XS.dstore X62.here hx rfl (hb hby at_153) rfl (l' := #[.val (.int p0), .val (.int p1), .val (.int p2), .val (.int p3), .val (.int p4), .val (.int p5), .val (.int z3), .val (.int z9), .val (.int c17_z58), .val (.int c27_z58), .val (.ref rb3_b1), .val (.int (1 : Int32)), .val (.int (0 : Int32)), .val (.int c102_rv), .val (.int c112_rv), .val (.long c127_rv), .second, .val (.long c142_rv), .second, .val (.double z152), .second]) rfl ?_
            show Steps p.tables e below (T62.setTop (mkF m 155 #[.val (.int p0), .val (.int p1), .val (.int p2), .val (.int p3), .val (.int p4), .val (.int p5), .val (.int z3), .val (.int z9), .val (.int c17_z58), .val (.int c27_z58), .val (.ref rb3_b1), .val (.int (1 : Int32)), .val (.int (0 : Int32)), .val (.int c102_rv), .val (.int c112_rv), .val (.long c127_rv), .second, .val (.long c142_rv), .second, .val (.double z152), .second] [])) _
            refine XS.iload X62.here hx rfl (hb hby at_155) rfl ?_
            show Steps p.tables e below (T62.setTop (mkF m 157 #[.val (.int p0), .val (.int p1), .val (.int p2), .val (.int p3), .val (.int p4), .val (.int p5), .val (.int z3), .val (.int z9), .val (.int c17_z58), .val (.int c27_z58), .val (.ref rb3_b1), .val (.int (1 : Int32)), .val (.int (0 : Int32)), .val (.int c102_rv), .val (.int c112_rv), .val (.long c127_rv), .second, .val (.long c142_rv), .second, .val (.double z152), .second] [(.int (1 : Int32))])) _
            refine XS.iload X62.here hx rfl (hb hby at_157) rfl ?_
            show Steps p.tables e below (T62.setTop (mkF m 159 #[.val (.int p0), .val (.int p1), .val (.int p2), .val (.int p3), .val (.int p4), .val (.int p5), .val (.int z3), .val (.int z9), .val (.int c17_z58), .val (.int c27_z58), .val (.ref rb3_b1), .val (.int (1 : Int32)), .val (.int (0 : Int32)), .val (.int c102_rv), .val (.int c112_rv), .val (.long c127_rv), .second, .val (.long c142_rv), .second, .val (.double z152), .second] [(.int c102_rv), (.int (1 : Int32))])) _
            refine XS.icmpNo X62.here hx rfl (hb hby at_159) rfl (Jvm.Free.XT.ii_ne_f br159) ?_
            show Steps p.tables e below (T62.setTop (mkF m 162 #[.val (.int p0), .val (.int p1), .val (.int p2), .val (.int p3), .val (.int p4), .val (.int p5), .val (.int z3), .val (.int z9), .val (.int c17_z58), .val (.int c27_z58), .val (.ref rb3_b1), .val (.int (1 : Int32)), .val (.int (0 : Int32)), .val (.int c102_rv), .val (.int c112_rv), .val (.long c127_rv), .second, .val (.long c142_rv), .second, .val (.double z152), .second] [])) _
            refine XS.iload X62.here hx rfl (hb hby at_162) rfl ?_
            show Steps p.tables e below (T62.setTop (mkF m 164 #[.val (.int p0), .val (.int p1), .val (.int p2), .val (.int p3), .val (.int p4), .val (.int p5), .val (.int z3), .val (.int z9), .val (.int c17_z58), .val (.int c27_z58), .val (.ref rb3_b1), .val (.int (1 : Int32)), .val (.int (0 : Int32)), .val (.int c102_rv), .val (.int c112_rv), .val (.long c127_rv), .second, .val (.long c142_rv), .second, .val (.double z152), .second] [(.int (0 : Int32))])) _
            refine XS.iload X62.here hx rfl (hb hby at_164) rfl ?_
            show Steps p.tables e below (T62.setTop (mkF m 166 #[.val (.int p0), .val (.int p1), .val (.int p2), .val (.int p3), .val (.int p4), .val (.int p5), .val (.int z3), .val (.int z9), .val (.int c17_z58), .val (.int c27_z58), .val (.ref rb3_b1), .val (.int (1 : Int32)), .val (.int (0 : Int32)), .val (.int c102_rv), .val (.int c112_rv), .val (.long c127_rv), .second, .val (.long c142_rv), .second, .val (.double z152), .second] [(.int c112_rv), (.int (0 : Int32))])) _
            refine XS.icmpNo X62.here hx rfl (hb hby at_166) rfl (Jvm.Free.XT.ii_ne_f br166) ?_
            show Steps p.tables e below (T62.setTop (mkF m 169 #[.val (.int p0), .val (.int p1), .val (.int p2), .val (.int p3), .val (.int p4), .val (.int p5), .val (.int z3), .val (.int z9), .val (.int c17_z58), .val (.int c27_z58), .val (.ref rb3_b1), .val (.int (1 : Int32)), .val (.int (0 : Int32)), .val (.int c102_rv), .val (.int c112_rv), .val (.long c127_rv), .second, .val (.long c142_rv), .second, .val (.double z152), .second] [])) _
            refine XS.aload X62.here hx rfl (hb hby at_169) rfl rfl ?_
            show Steps p.tables e below (T62.setTop (mkF m 171 #[.val (.int p0), .val (.int p1), .val (.int p2), .val (.int p3), .val (.int p4), .val (.int p5), .val (.int z3), .val (.int z9), .val (.int c17_z58), .val (.int c27_z58), .val (.ref rb3_b1), .val (.int (1 : Int32)), .val (.int (0 : Int32)), .val (.int c102_rv), .val (.int c112_rv), .val (.long c127_rv), .second, .val (.long c142_rv), .second, .val (.double z152), .second] [(.ref rb3_b1)])) _
            refine st63.trans ?_
            show Steps p.tables e below (T63.setTop (mkF m 174 #[.val (.int p0), .val (.int p1), .val (.int p2), .val (.int p3), .val (.int p4), .val (.int p5), .val (.int z3), .val (.int z9), .val (.int c17_z58), .val (.int c27_z58), .val (.ref rb3_b1), .val (.int (1 : Int32)), .val (.int (0 : Int32)), .val (.int c102_rv), .val (.int c112_rv), .val (.long c127_rv), .second, .val (.long c142_rv), .second, .val (.double z152), .second] [(.double c171_rv)])) _
            refine XS.dload X63.here hx rfl (hb hby at_174) rfl ?_
            show Steps p.tables e below (T63.setTop (mkF m 176 #[.val (.int p0), .val (.int p1), .val (.int p2), .val (.int p3), .val (.int p4), .val (.int p5), .val (.int z3), .val (.int z9), .val (.int c17_z58), .val (.int c27_z58), .val (.ref rb3_b1), .val (.int (1 : Int32)), .val (.int (0 : Int32)), .val (.int c102_rv), .val (.int c112_rv), .val (.long c127_rv), .second, .val (.long c142_rv), .second, .val (.double z152), .second] [(.double z152), (.double c171_rv)])) _
            refine XS.dcmpS X63.here hx rfl (hb hby at_176) rfl hz176 ?_
            show Steps p.tables e below (T63.setTop (mkF m 177 #[.val (.int p0), .val (.int p1), .val (.int p2), .val (.int p3), .val (.int p4), .val (.int p5), .val (.int z3), .val (.int z9), .val (.int c17_z58), .val (.int c27_z58), .val (.ref rb3_b1), .val (.int (1 : Int32)), .val (.int (0 : Int32)), .val (.int c102_rv), .val (.int c112_rv), .val (.long c127_rv), .second, .val (.long c142_rv), .second, .val (.double z152), .second] [(.int z176)])) _
            refine XS.ifNo X63.here hx rfl (hb hby at_177) rfl (Jvm.Free.XT.i0_ne_f br177) ?_
            show Steps p.tables e below (T63.setTop (mkF m 180 #[.val (.int p0), .val (.int p1), .val (.int p2), .val (.int p3), .val (.int p4), .val (.int p5), .val (.int z3), .val (.int z9), .val (.int c17_z58), .val (.int c27_z58), .val (.ref rb3_b1), .val (.int (1 : Int32)), .val (.int (0 : Int32)), .val (.int c102_rv), .val (.int c112_rv), .val (.long c127_rv), .second, .val (.long c142_rv), .second, .val (.double z152), .second] [])) _
            refine XS.iconst X63.here hx rfl (hb hby at_180) ?_
            show Steps p.tables e below (T63.setTop (mkF m 181 #[.val (.int p0), .val (.int p1), .val (.int p2), .val (.int p3), .val (.int p4), .val (.int p5), .val (.int z3), .val (.int z9), .val (.int c17_z58), .val (.int c27_z58), .val (.ref rb3_b1), .val (.int (1 : Int32)), .val (.int (0 : Int32)), .val (.int c102_rv), .val (.int c112_rv), .val (.long c127_rv), .second, .val (.long c142_rv), .second, .val (.double z152), .second] [(.int (1 : Int32))])) _
            refine XS.goto X63.here hx rfl (pc0 := 181) (pc' := 185) rfl (hb hby at_181) (by decide) (by decide) ?_
            exact k
          obtain ⟨fs, hr, hrun, hended, hW, hsame⟩ := X63.leave (v := some (.int (1 : Int32))) (fun h => by rw [Bd.returns] at h; cases h)
          refine ⟨_, _, c64 _ ?_, hrun, hended, _, _, rfl, ?_, ⟨_, rfl⟩, hW, hsame.mono (by decide) (by decide)⟩
          · show Steps p.tables e below (T63.setTop (mkF m 185 #[.val (.int p0), .val (.int p1), .val (.int p2), .val (.int p3), .val (.int p4), .val (.int p5), .val (.int z3), .val (.int z9), .val (.int c17_z58), .val (.int c27_z58), .val (.ref rb3_b1), .val (.int (1 : Int32)), .val (.int (0 : Int32)), .val (.int c102_rv), .val (.int c112_rv), .val (.long c127_rv), .second, .val (.long c142_rv), .second, .val (.double z152), .second] [(.int (1 : Int32))])) _
            exact retOut X63 hx Bd.returns rfl (Or.inl ⟨rfl, by simp, _, rfl⟩) (hb hby at_185) hr
          · show Q0 n0 _ T63.heap _
            rw [e63]
            exact ⟨rfl, by first | assumption | exact N0⟩
    · skip
      obtain ⟨cq65, kq65, q65a, q65b, q65c⟩ := isOf hZ e35 Q3_0
      obtain ⟨_, _, ⟨T65, L65, k65, n65⟩, -, X65, ⟨Lc65, hQ65, ql65, qy65, qz65⟩, st65⟩ := X35.virtualBack hx (y := (⟨"com/example/vetrino/vetrino/Overlap", "top", "()I"⟩ : MethodName)) (z := (⟨"com/example/vetrino/vetrino/Overlap", "top", "()I"⟩ : MethodName)) hown (mvT hZ (hw _ (List.mem_of_getElem? (i := 37) rfl))) (mvT hZ (hw _ (List.mem_of_getElem? (i := 38) rfl))) (notFace_of_selects (args := #[]) (mvT hZ (hw _ (List.mem_of_getElem? (i := 40) rfl)))) (mvT hZ (hw _ (List.mem_of_getElem? (i := 40) rfl))) (mvT hZ (hw _ (List.mem_of_getElem? (i := 39) rfl))) (by decide) (backOf (W := 0) (rm8 l Z a0 hw [] rb3_b1 c38_c11_rv  T3.heap n0 (Nat.le_trans Z0 K3q.1) Q3_2) hZ (hw _ (List.mem_of_getElem? (i := 41) rfl)) (hw _ (List.mem_of_getElem? (i := 7) rfl)) (by decide) (by decide)) q65a q65c (g := (mkF m 72 #[.val (.int p0), .val (.int p1), .val (.int p2), .val (.int p3), .val (.int p4), .val (.int p5), .val (.int z3), .val (.int z9), .val (.int c17_z58), .val (.int c27_z58), .val (.ref rb3_b1), .val (.int (0 : Int32)), .unset, .unset, .unset, .unset, .unset, .unset, .unset, .unset, .unset] [(.ref rb3_b1)])) rfl (by rw [hml]; rfl) (Steps.refl _) (argsL := []) (rest := []) (lenOf pd_4 rfl) rfl (by show 2 * 0 + _ ≤ _; exact Nat.le_of_eq rfl) (hb hby at_72) (fun _ _ => ⟨rfl, e35, (by decide : 1 + 0 ≤ _), (by decide : 4 + 0 ≤ _)⟩)
      dsimp only [Pt.U, Pt.locs, Pt.cells, Pt.slots] at X65 ql65 qy65 qz65 st65 hQ65
      subst ql65 qy65 qz65
      obtain ⟨rfl, N65q, e65⟩ := hQ65
      have N65 := Fr.app N35 N65q
      have c66 : ∀ t, Steps p.tables e below (T65.setTop (mkF m 77 #[.val (.int p0), .val (.int p1), .val (.int p2), .val (.int p3), .val (.int p4), .val (.int p5), .val (.int z3), .val (.int z9), .val (.int c17_z58), .val (.int c27_z58), .val (.ref rb3_b1), .val (.int (0 : Int32)), .unset, .unset, .unset, .unset, .unset, .unset, .unset, .unset, .unset] [(.int c27_z58), (.int c38_c11_rv)])) t → Steps p.tables e below (s₁.setTop (entryFrame m #[(.int p0), (.int p1), (.int p2), (.int p3), (.int p4), (.int p5)] maxLocals)) t := by
        intro t k
        refine c36 t ?_
        show Steps p.tables e below (T35.setTop (mkF m 60 #[.val (.int p0), .val (.int p1), .val (.int p2), .val (.int p3), .val (.int p4), .val (.int p5), .val (.int z3), .val (.int z9), .val (.int c17_z58), .val (.int c27_z58), .val (.ref rb3_b1), .unset, .unset, .unset, .unset, .unset, .unset, .unset, .unset, .unset, .unset] [(.int c38_c18_rv), (.int c17_z58)])) _
        refine XS.icmpYes X35.here hx rfl (pc0 := 60) (pc' := 67) rfl (hb hby at_60) rfl (Jvm.Free.XT.ii_ge_t hb60) (by decide) (by decide) ?_
        show Steps p.tables e below (T35.setTop (mkF m 67 #[.val (.int p0), .val (.int p1), .val (.int p2), .val (.int p3), .val (.int p4), .val (.int p5), .val (.int z3), .val (.int z9), .val (.int c17_z58), .val (.int c27_z58), .val (.ref rb3_b1), .unset, .unset, .unset, .unset, .unset, .unset, .unset, .unset, .unset, .unset] [])) _
        refine XS.iconst X35.here hx rfl (hb hby at_67) ?_
        show Steps p.tables e below (T35.setTop (mkF m 68 #[.val (.int p0), .val (.int p1), .val (.int p2), .val (.int p3), .val (.int p4), .val (.int p5), .val (.int z3), .val (.int z9), .val (.int c17_z58), .val (.int c27_z58), .val (.ref rb3_b1), .unset, .unset, .unset, .unset, .unset, .unset, .unset, .unset, .unset, .unset] [(.int (0 : Int32))])) _
        refine XS.istore X35.here hx rfl (hb hby at_68) rfl (l' := #[.val (.int p0), .val (.int p1), .val (.int p2), .val (.int p3), .val (.int p4), .val (.int p5), .val (.int z3), .val (.int z9), .val (.int c17_z58), .val (.int c27_z58), .val (.ref rb3_b1), .val (.int (0 : Int32)), .unset, .unset, .unset, .unset, .unset, .unset, .unset, .unset, .unset]) rfl ?_
        show Steps p.tables e below (T35.setTop (mkF m 70 #[.val (.int p0), .val (.int p1), .val (.int p2), .val (.int p3), .val (.int p4), .val (.int p5), .val (.int z3), .val (.int z9), .val (.int c17_z58), .val (.int c27_z58), .val (.ref rb3_b1), .val (.int (0 : Int32)), .unset, .unset, .unset, .unset, .unset, .unset, .unset, .unset, .unset] [])) _
        refine XS.aload X35.here hx rfl (hb hby at_70) rfl rfl ?_
        show Steps p.tables e below (T35.setTop (mkF m 72 #[.val (.int p0), .val (.int p1), .val (.int p2), .val (.int p3), .val (.int p4), .val (.int p5), .val (.int z3), .val (.int z9), .val (.int c17_z58), .val (.int c27_z58), .val (.ref rb3_b1), .val (.int (0 : Int32)), .unset, .unset, .unset, .unset, .unset, .unset, .unset, .unset, .unset] [(.ref rb3_b1)])) _
        refine st65.trans ?_
        show Steps p.tables e below (T65.setTop (mkF m 75 #[.val (.int p0), .val (.int p1), .val (.int p2), .val (.int p3), .val (.int p4), .val (.int p5), .val (.int z3), .val (.int z9), .val (.int c17_z58), .val (.int c27_z58), .val (.ref rb3_b1), .val (.int (0 : Int32)), .unset, .unset, .unset, .unset, .unset, .unset, .unset, .unset, .unset] [(.int c38_c11_rv)])) _
        refine XS.iload X65.here hx rfl (hb hby at_75) rfl ?_
        exact k
      by_cases hb77 : c27_z58 < c38_c11_rv
      · skip
        obtain ⟨c102_z1, hc102_z1⟩ : ∃ z : Int64, c17_z58.toInt64 = z := ⟨_, rfl⟩
        obtain ⟨c102_z5, hc102_z5⟩ : ∃ z : Int64, p2.toInt64 = z := ⟨_, rfl⟩
        obtain ⟨c102_z6, hc102_z6⟩ : ∃ z : Int64, c102_z1 - c102_z5 = z := ⟨_, rfl⟩
        obtain ⟨c102_z11, hc102_z11⟩ : ∃ z : Int32, lcmpW (0 : Int64) c102_z1 = z := ⟨_, rfl⟩
        obtain ⟨c102_z17, hc102_z17⟩ : ∃ z : Int64, z3.toInt64 = z := ⟨_, rfl⟩
        obtain ⟨c102_z18, hc102_z18⟩ : ∃ z : Int32, lcmpW c102_z1 c102_z17 = z := ⟨_, rfl⟩
        obtain ⟨c102_z25, hc102_z25⟩ : ∃ z : Int32, lcmpW (0 : Int64) c102_z6 = z := ⟨_, rfl⟩
        obtain ⟨c102_z32, hc102_z32⟩ : ∃ z : Int64, z3.toInt64 = z := ⟨_, rfl⟩
        obtain ⟨c102_z33, hc102_z33⟩ : ∃ z : Int32, lcmpW c102_z6 c102_z32 = z := ⟨_, rfl⟩
        obtain ⟨c102_rv, hc102_rv⟩ : ∃ z : Int32, (if (0 : Int32) < c102_z11 then (0 : Int32) else (if c102_z18 < (0 : Int32) then (if (0 : Int32) < c102_z25 then (0 : Int32) else (if c102_z33 < (0 : Int32) then (1 : Int32) else (0 : Int32))) else (0 : Int32))) = z := ⟨_, rfl⟩
        obtain ⟨c112_z1, hc112_z1⟩ : ∃ z : Int64, c27_z58.toInt64 = z := ⟨_, rfl⟩
        obtain ⟨c112_z5, hc112_z5⟩ : ∃ z : Int64, p3.toInt64 = z := ⟨_, rfl⟩
        obtain ⟨c112_z6, hc112_z6⟩ : ∃ z : Int64, c112_z1 - c112_z5 = z := ⟨_, rfl⟩
        obtain ⟨c112_z11, hc112_z11⟩ : ∃ z : Int32, lcmpW (0 : Int64) c112_z1 = z := ⟨_, rfl⟩
        obtain ⟨c112_z17, hc112_z17⟩ : ∃ z : Int64, z9.toInt64 = z := ⟨_, rfl⟩
        obtain ⟨c112_z18, hc112_z18⟩ : ∃ z : Int32, lcmpW c112_z1 c112_z17 = z := ⟨_, rfl⟩
        obtain ⟨c112_z25, hc112_z25⟩ : ∃ z : Int32, lcmpW (0 : Int64) c112_z6 = z := ⟨_, rfl⟩
        obtain ⟨c112_z32, hc112_z32⟩ : ∃ z : Int64, z9.toInt64 = z := ⟨_, rfl⟩
        obtain ⟨c112_z33, hc112_z33⟩ : ∃ z : Int32, lcmpW c112_z6 c112_z32 = z := ⟨_, rfl⟩
        obtain ⟨c112_rv, hc112_rv⟩ : ∃ z : Int32, (if (0 : Int32) < c112_z11 then (0 : Int32) else (if c112_z18 < (0 : Int32) then (if (0 : Int32) < c112_z25 then (0 : Int32) else (if c112_z33 < (0 : Int32) then (1 : Int32) else (0 : Int32))) else (0 : Int32))) = z := ⟨_, rfl⟩
        obtain ⟨z120, hz120⟩ : ∃ z : Int64, z3.toInt64 = z := ⟨_, rfl⟩
        obtain ⟨z122, hz122⟩ : ∃ z : Int64, p2.toInt64 = z := ⟨_, rfl⟩
        obtain ⟨c123_z2, hc123_z2⟩ : ∃ z : Int32, lcmpW z122 (0 : Int64) = z := ⟨_, rfl⟩
        obtain ⟨c123_z7, hc123_z7⟩ : ∃ z : Int64, -z122 = z := ⟨_, rfl⟩
        obtain ⟨c123_rv, hc123_rv⟩ : ∃ z : Int64, (if c123_z2 < (0 : Int32) then c123_z7 else z122) = z := ⟨_, rfl⟩
        obtain ⟨z126, hz126⟩ : ∃ z : Int64, z120 - c123_rv = z := ⟨_, rfl⟩
        obtain ⟨c127_z2, hc127_z2⟩ : ∃ z : Int32, lcmpW (0 : Int64) z126 = z := ⟨_, rfl⟩
        obtain ⟨c127_rv, hc127_rv⟩ : ∃ z : Int64, (if c127_z2 < (0 : Int32) then z126 else (0 : Int64)) = z := ⟨_, rfl⟩
        obtain ⟨z135, hz135⟩ : ∃ z : Int64, z9.toInt64 = z := ⟨_, rfl⟩
        obtain ⟨z137, hz137⟩ : ∃ z : Int64, p3.toInt64 = z := ⟨_, rfl⟩
        obtain ⟨c138_z2, hc138_z2⟩ : ∃ z : Int32, lcmpW z137 (0 : Int64) = z := ⟨_, rfl⟩
        obtain ⟨c138_z7, hc138_z7⟩ : ∃ z : Int64, -z137 = z := ⟨_, rfl⟩
        obtain ⟨c138_rv, hc138_rv⟩ : ∃ z : Int64, (if c138_z2 < (0 : Int32) then c138_z7 else z137) = z := ⟨_, rfl⟩
        obtain ⟨z141, hz141⟩ : ∃ z : Int64, z135 - c138_rv = z := ⟨_, rfl⟩
        obtain ⟨c142_z2, hc142_z2⟩ : ∃ z : Int32, lcmpW (0 : Int64) z141 = z := ⟨_, rfl⟩
        obtain ⟨c142_rv, hc142_rv⟩ : ∃ z : Int64, (if c142_z2 < (0 : Int32) then z141 else (0 : Int64)) = z := ⟨_, rfl⟩
        obtain ⟨z151, hz151⟩ : ∃ z : Int64, c127_rv * c142_rv = z := ⟨_, rfl⟩
        obtain ⟨z152, hz152⟩ : ∃ z : UInt64, FP.l2d z151 = z := ⟨_, rfl⟩
        obtain ⟨c171_z30, hc171_z30⟩ : ∃ z : Int32, c38_c18_rv - c38_c6_rv = z := ⟨_, rfl⟩
        obtain ⟨c171_z31, hc171_z31⟩ : ∃ z : UInt64, FP.i2d c171_z30 = z := ⟨_, rfl⟩
        obtain ⟨c171_z40, hc171_z40⟩ : ∃ z : Int32, c38_c25_rv - c38_c11_rv = z := ⟨_, rfl⟩
        obtain ⟨c171_z41, hc171_z41⟩ : ∃ z : UInt64, FP.i2d c171_z40 = z := ⟨_, rfl⟩
        obtain ⟨c171_z42, hc171_z42⟩ : ∃ z : UInt64, FP.dmul c171_z31 c171_z41 = z := ⟨_, rfl⟩
        obtain ⟨c171_rv, hc171_rv⟩ : ∃ z : UInt64, (if c38_c6_rv < c38_c18_rv then (if c38_c11_rv < c38_c25_rv then c171_z42 else FP.dconst0) else FP.dconst0) = z := ⟨_, rfl⟩
        obtain ⟨z176, hz176⟩ : ∃ z : Int32, cmpValue (FP.dcmp c171_rv z152) .l = z := ⟨_, rfl⟩
        obtain ⟨_, _, ⟨T67, L67, k67, n67⟩, -, X67, ⟨Lc67, hQ67, ql67, qy67, qz67⟩, st67⟩ := Jvm.LawKit.callS X65 hx (y := (⟨"com/example/vetrino/vetrino/OverlapOfPinLaw", "meets", "(III)Z"⟩ : MethodName)) hown (mvT hZ (hw _ (List.mem_of_getElem? (i := 47) rfl))) (mvT hZ (hw _ (List.mem_of_getElem? (i := 48) rfl))) (mvT hZ (hw _ (List.mem_of_getElem? (i := 3) rfl))) (mvT hZ (hw _ (List.mem_of_getElem? (i := 49) rfl))) (by decide) (backOf (W := 0) (rm10 l Z a0 hw [] c17_z58 p2 z3 c102_z1 c102_z5 c102_z6 c102_z11 c102_z17 c102_z18 c102_z25 c102_z32 c102_z33 c102_rv T3.heap n0 (Nat.le_trans Z0 K3q.1) hc102_z1 hc102_z5 hc102_z6 hc102_z11 hc102_z17 hc102_z18 hc102_z25 hc102_z32 hc102_z33 hc102_rv) hZ (hw _ (List.mem_of_getElem? (i := 49) rfl)) (hw _ (List.mem_of_getElem? (i := 3) rfl)) (by decide) (by decide)) (g := (mkF m 102 #[.val (.int p0), .val (.int p1), .val (.int p2), .val (.int p3), .val (.int p4), .val (.int p5), .val (.int z3), .val (.int z9), .val (.int c17_z58), .val (.int c27_z58), .val (.ref rb3_b1), .val (.int (0 : Int32)), .val (.int (0 : Int32)), .unset, .unset, .unset, .unset, .unset, .unset, .unset, .unset] [(.int z3), (.int p2), (.int c17_z58)])) rfl (by rw [hml]; rfl) (argsL := [(.int c17_z58), (.int p2), (.int z3)]) (rest := []) (lenOf pd_5 rfl) rfl (by show 2 * 0 + _ ≤ _; exact Nat.le_of_eq rfl) (hb hby at_102) (fun _ _ => ⟨rfl, e65, (by decide : 1 + 0 ≤ _), (by decide : 4 + 0 ≤ _)⟩)
        dsimp only [Pt.U, Pt.locs, Pt.cells, Pt.slots] at X67 ql67 qy67 qz67 st67 hQ67
        subst ql67 qy67 qz67
        obtain ⟨rfl, N67q, e67⟩ := hQ67
        have N67 := Fr.app N65 N67q
        obtain ⟨_, _, ⟨T68, L68, k68, n68⟩, -, X68, ⟨Lc68, hQ68, ql68, qy68, qz68⟩, st68⟩ := Jvm.LawKit.callS X67 hx (y := (⟨"com/example/vetrino/vetrino/OverlapOfPinLaw", "meets", "(III)Z"⟩ : MethodName)) hown (mvT hZ (hw _ (List.mem_of_getElem? (i := 47) rfl))) (mvT hZ (hw _ (List.mem_of_getElem? (i := 48) rfl))) (mvT hZ (hw _ (List.mem_of_getElem? (i := 3) rfl))) (mvT hZ (hw _ (List.mem_of_getElem? (i := 49) rfl))) (by decide) (backOf (W := 0) (rm10 l Z a0 hw [] c27_z58 p3 z9 c112_z1 c112_z5 c112_z6 c112_z11 c112_z17 c112_z18 c112_z25 c112_z32 c112_z33 c112_rv T3.heap n0 (Nat.le_trans Z0 K3q.1) hc112_z1 hc112_z5 hc112_z6 hc112_z11 hc112_z17 hc112_z18 hc112_z25 hc112_z32 hc112_z33 hc112_rv) hZ (hw _ (List.mem_of_getElem? (i := 49) rfl)) (hw _ (List.mem_of_getElem? (i := 3) rfl)) (by decide) (by decide)) (g := (mkF m 112 #[.val (.int p0), .val (.int p1), .val (.int p2), .val (.int p3), .val (.int p4), .val (.int p5), .val (.int z3), .val (.int z9), .val (.int c17_z58), .val (.int c27_z58), .val (.ref rb3_b1), .val (.int (0 : Int32)), .val (.int (0 : Int32)), .val (.int c102_rv), .unset, .unset, .unset, .unset, .unset, .unset, .unset] [(.int z9), (.int p3), (.int c27_z58)])) rfl (by rw [hml]; rfl) (argsL := [(.int c27_z58), (.int p3), (.int z9)]) (rest := []) (lenOf pd_5 rfl) rfl (by show 2 * 0 + _ ≤ _; exact Nat.le_of_eq rfl) (hb hby at_112) (fun _ _ => ⟨rfl, e67, (by decide : 1 + 0 ≤ _), (by decide : 4 + 0 ≤ _)⟩)
        dsimp only [Pt.U, Pt.locs, Pt.cells, Pt.slots] at X68 ql68 qy68 qz68 st68 hQ68
        subst ql68 qy68 qz68
        obtain ⟨rfl, N68q, e68⟩ := hQ68
        have N68 := Fr.app N67 N68q
        obtain ⟨_, _, ⟨T69, L69, k69, n69⟩, -, X69, ⟨Lc69, hQ69, ql69, qy69, qz69⟩, st69⟩ := Jvm.LawKit.callS X68 hx (y := (⟨"java/lang/Math", "abs", "(J)J"⟩ : MethodName)) hown (mvT hZ (hw _ (List.mem_of_getElem? (i := 50) rfl))) (mvT hZ (hw _ (List.mem_of_getElem? (i := 51) rfl))) (mvT hZ (hw _ (List.mem_of_getElem? (i := 13) rfl))) (mvT hZ (hw _ (List.mem_of_getElem? (i := 52) rfl))) (by decide) (backOf (W := 4) (rm11 l Z a0 hw [] z122 c123_z2 c123_z7 c123_rv T3.heap n0 (Nat.le_trans Z0 K3q.1) hc123_z2 hc123_z7 hc123_rv) hZ (hw _ (List.mem_of_getElem? (i := 52) rfl)) (hw _ (List.mem_of_getElem? (i := 13) rfl)) (by decide) (by decide)) (g := (mkF m 123 #[.val (.int p0), .val (.int p1), .val (.int p2), .val (.int p3), .val (.int p4), .val (.int p5), .val (.int z3), .val (.int z9), .val (.int c17_z58), .val (.int c27_z58), .val (.ref rb3_b1), .val (.int (0 : Int32)), .val (.int (0 : Int32)), .val (.int c102_rv), .val (.int c112_rv), .unset, .unset, .unset, .unset, .unset, .unset] [(.long z122), (.long z120), (.long (0 : Int64))])) rfl (by rw [hml]; rfl) (argsL := [(.long z122)]) (rest := [(.long z120), (.long (0 : Int64))]) (lenOf pd_6 rfl) rfl (by show 2 * 0 + _ ≤ _; exact Nat.le_of_eq rfl) (hb hby at_123) (fun _ _ => ⟨rfl, e68, (by decide : 1 + 0 ≤ _), (by decide : 4 + 0 ≤ _)⟩)
        dsimp only [Pt.U, Pt.locs, Pt.cells, Pt.slots] at X69 ql69 qy69 qz69 st69 hQ69
        subst ql69 qy69 qz69
        obtain ⟨rfl, N69q, e69⟩ := hQ69
        have N69 := Fr.app N68 N69q
        obtain ⟨_, _, ⟨T70, L70, k70, n70⟩, -, X70, ⟨Lc70, hQ70, ql70, qy70, qz70⟩, st70⟩ := Jvm.LawKit.callS X69 hx (y := (⟨"java/lang/Math", "max", "(JJ)J"⟩ : MethodName)) hown (mvT hZ (hw _ (List.mem_of_getElem? (i := 53) rfl))) (mvT hZ (hw _ (List.mem_of_getElem? (i := 54) rfl))) (mvT hZ (hw _ (List.mem_of_getElem? (i := 13) rfl))) (mvT hZ (hw _ (List.mem_of_getElem? (i := 55) rfl))) (by decide) (backOf (W := 0) (rm12 l Z a0 hw [] (0 : Int64) z126 c127_z2 c127_rv T3.heap n0 (Nat.le_trans Z0 K3q.1) hc127_z2 hc127_rv) hZ (hw _ (List.mem_of_getElem? (i := 55) rfl)) (hw _ (List.mem_of_getElem? (i := 13) rfl)) (by decide) (by decide)) (g := (mkF m 127 #[.val (.int p0), .val (.int p1), .val (.int p2), .val (.int p3), .val (.int p4), .val (.int p5), .val (.int z3), .val (.int z9), .val (.int c17_z58), .val (.int c27_z58), .val (.ref rb3_b1), .val (.int (0 : Int32)), .val (.int (0 : Int32)), .val (.int c102_rv), .val (.int c112_rv), .unset, .unset, .unset, .unset, .unset, .unset] [(.long z126), (.long (0 : Int64))])) rfl (by rw [hml]; rfl) (argsL := [(.long (0 : Int64)), (.long z126)]) (rest := []) (lenOf pd_7 rfl) rfl (by show 2 * 0 + _ ≤ _; exact Nat.le_of_eq rfl) (hb hby at_127) (fun _ _ => ⟨rfl, e69, (by decide : 1 + 0 ≤ _), (by decide : 4 + 0 ≤ _)⟩)
        dsimp only [Pt.U, Pt.locs, Pt.cells, Pt.slots] at X70 ql70 qy70 qz70 st70 hQ70
        subst ql70 qy70 qz70
        obtain ⟨rfl, N70q, e70⟩ := hQ70
        have N70 := Fr.app N69 N70q
        obtain ⟨_, _, ⟨T71, L71, k71, n71⟩, -, X71, ⟨Lc71, hQ71, ql71, qy71, qz71⟩, st71⟩ := Jvm.LawKit.callS X70 hx (y := (⟨"java/lang/Math", "abs", "(J)J"⟩ : MethodName)) hown (mvT hZ (hw _ (List.mem_of_getElem? (i := 50) rfl))) (mvT hZ (hw _ (List.mem_of_getElem? (i := 51) rfl))) (mvT hZ (hw _ (List.mem_of_getElem? (i := 13) rfl))) (mvT hZ (hw _ (List.mem_of_getElem? (i := 52) rfl))) (by decide) (backOf (W := 4) (rm11 l Z a0 hw [] z137 c138_z2 c138_z7 c138_rv T3.heap n0 (Nat.le_trans Z0 K3q.1) hc138_z2 hc138_z7 hc138_rv) hZ (hw _ (List.mem_of_getElem? (i := 52) rfl)) (hw _ (List.mem_of_getElem? (i := 13) rfl)) (by decide) (by decide)) (g := (mkF m 138 #[.val (.int p0), .val (.int p1), .val (.int p2), .val (.int p3), .val (.int p4), .val (.int p5), .val (.int z3), .val (.int z9), .val (.int c17_z58), .val (.int c27_z58), .val (.ref rb3_b1), .val (.int (0 : Int32)), .val (.int (0 : Int32)), .val (.int c102_rv), .val (.int c112_rv), .val (.long c127_rv), .second, .unset, .unset, .unset, .unset] [(.long z137), (.long z135), (.long (0 : Int64))])) rfl (by rw [hml]; rfl) (argsL := [(.long z137)]) (rest := [(.long z135), (.long (0 : Int64))]) (lenOf pd_6 rfl) rfl (by show 2 * 0 + _ ≤ _; exact Nat.le_of_eq rfl) (hb hby at_138) (fun _ _ => ⟨rfl, e70, (by decide : 1 + 0 ≤ _), (by decide : 4 + 0 ≤ _)⟩)
        dsimp only [Pt.U, Pt.locs, Pt.cells, Pt.slots] at X71 ql71 qy71 qz71 st71 hQ71
        subst ql71 qy71 qz71
        obtain ⟨rfl, N71q, e71⟩ := hQ71
        have N71 := Fr.app N70 N71q
        obtain ⟨_, _, ⟨T72, L72, k72, n72⟩, -, X72, ⟨Lc72, hQ72, ql72, qy72, qz72⟩, st72⟩ := Jvm.LawKit.callS X71 hx (y := (⟨"java/lang/Math", "max", "(JJ)J"⟩ : MethodName)) hown (mvT hZ (hw _ (List.mem_of_getElem? (i := 53) rfl))) (mvT hZ (hw _ (List.mem_of_getElem? (i := 54) rfl))) (mvT hZ (hw _ (List.mem_of_getElem? (i := 13) rfl))) (mvT hZ (hw _ (List.mem_of_getElem? (i := 55) rfl))) (by decide) (backOf (W := 0) (rm12 l Z a0 hw [] (0 : Int64) z141 c142_z2 c142_rv T3.heap n0 (Nat.le_trans Z0 K3q.1) hc142_z2 hc142_rv) hZ (hw _ (List.mem_of_getElem? (i := 55) rfl)) (hw _ (List.mem_of_getElem? (i := 13) rfl)) (by decide) (by decide)) (g := (mkF m 142 #[.val (.int p0), .val (.int p1), .val (.int p2), .val (.int p3), .val (.int p4), .val (.int p5), .val (.int z3), .val (.int z9), .val (.int c17_z58), .val (.int c27_z58), .val (.ref rb3_b1), .val (.int (0 : Int32)), .val (.int (0 : Int32)), .val (.int c102_rv), .val (.int c112_rv), .val (.long c127_rv), .second, .unset, .unset, .unset, .unset] [(.long z141), (.long (0 : Int64))])) rfl (by rw [hml]; rfl) (argsL := [(.long (0 : Int64)), (.long z141)]) (rest := []) (lenOf pd_7 rfl) rfl (by show 2 * 0 + _ ≤ _; exact Nat.le_of_eq rfl) (hb hby at_142) (fun _ _ => ⟨rfl, e71, (by decide : 1 + 0 ≤ _), (by decide : 4 + 0 ≤ _)⟩)
        dsimp only [Pt.U, Pt.locs, Pt.cells, Pt.slots] at X72 ql72 qy72 qz72 st72 hQ72
        subst ql72 qy72 qz72
        obtain ⟨rfl, N72q, e72⟩ := hQ72
        have N72 := Fr.app N71 N72q
        have br159 : (0 : Int32) = c102_rv := by
          rw [meet hA hc38_z17 hc38_c6_rv hc38_c18_rv hc102_z1 hc102_z5 hc102_z6 hc102_z11 hc102_z17 hc102_z18 hc102_z25 hc102_z32 hc102_z33 hc102_rv, if_neg hb50, if_neg hb60]
        have br166 : (0 : Int32) = c112_rv := by
          rw [meet hB hc38_z24 hc38_c11_rv hc38_c25_rv hc112_z1 hc112_z5 hc112_z6 hc112_z11 hc112_z17 hc112_z18 hc112_z25 hc112_z32 hc112_z33 hc112_rv, if_pos hb77]
        obtain ⟨c171_nn42, fin⟩ := area (side hA hc38_z17 hc38_c6_rv hc38_c18_rv hz120 hz122 hc123_z2 hc123_z7 hc123_rv hz126 hc127_z2 hc127_rv) (side hB hc38_z24 hc38_c11_rv hc38_c25_rv hz135 hz137 hc138_z2 hc138_z7 hc138_rv hz141 hc142_z2 hc142_rv) hc171_z30 hc171_z40 hc171_z31 hc171_z41 hc171_z42 hz151 hz152 hc171_rv
        obtain ⟨cq73, kq73, q73a, q73b, q73c⟩ := isOf hZ e72 Q3_0
        obtain ⟨_, _, ⟨T73, L73, k73, n73⟩, -, X73, ⟨Lc73, hQ73, ql73, qy73, qz73⟩, st73⟩ := X72.virtualBack hx (y := (⟨"com/example/vetrino/vetrino/Overlap", "area", "()D"⟩ : MethodName)) (z := (⟨"com/example/vetrino/vetrino/Overlap", "area", "()D"⟩ : MethodName)) hown (mvT hZ (hw _ (List.mem_of_getElem? (i := 56) rfl))) (mvT hZ (hw _ (List.mem_of_getElem? (i := 57) rfl))) (notFace_of_selects (args := #[]) (mvT hZ (hw _ (List.mem_of_getElem? (i := 59) rfl)))) (mvT hZ (hw _ (List.mem_of_getElem? (i := 59) rfl))) (mvT hZ (hw _ (List.mem_of_getElem? (i := 58) rfl))) (by decide) (backOf (W := 0) (rm13 l Z a0 hw [] rb3_b1 c38_c18_rv c38_c6_rv c38_c25_rv c38_c11_rv c171_z30 c171_z31 c171_z40 c171_z41 c171_z42 c171_rv T3.heap n0 (Nat.le_trans Z0 K3q.1) Q3_3 Q3_1 Q3_4 Q3_2 hc171_z30 hc171_z31 hc171_z40 hc171_z41 hc171_z42 hc171_rv c171_nn42) hZ (hw _ (List.mem_of_getElem? (i := 60) rfl)) (hw _ (List.mem_of_getElem? (i := 7) rfl)) (by decide) (by decide)) q73a q73c (g := (mkF m 171 #[.val (.int p0), .val (.int p1), .val (.int p2), .val (.int p3), .val (.int p4), .val (.int p5), .val (.int z3), .val (.int z9), .val (.int c17_z58), .val (.int c27_z58), .val (.ref rb3_b1), .val (.int (0 : Int32)), .val (.int (0 : Int32)), .val (.int c102_rv), .val (.int c112_rv), .val (.long c127_rv), .second, .val (.long c142_rv), .second, .val (.double z152), .second] [(.ref rb3_b1)])) rfl (by rw [hml]; rfl) (Steps.refl _) (argsL := []) (rest := []) (lenOf pd_8 rfl) rfl (by show 2 * 0 + _ ≤ _; exact Nat.le_of_eq rfl) (hb hby at_171) (fun _ _ => ⟨rfl, e72, (by decide : 1 + 0 ≤ _), (by decide : 4 + 0 ≤ _)⟩)
        dsimp only [Pt.U, Pt.locs, Pt.cells, Pt.slots] at X73 ql73 qy73 qz73 st73 hQ73
        subst ql73 qy73 qz73
        obtain ⟨rfl, N73q, e73⟩ := hQ73
        have N73 := Fr.app N72 N73q
        have br177 : z176 = 0 := hz176.symm.trans fin
        have c74 : ∀ t, Steps p.tables e below (T73.setTop (mkF m 185 #[.val (.int p0), .val (.int p1), .val (.int p2), .val (.int p3), .val (.int p4), .val (.int p5), .val (.int z3), .val (.int z9), .val (.int c17_z58), .val (.int c27_z58), .val (.ref rb3_b1), .val (.int (0 : Int32)), .val (.int (0 : Int32)), .val (.int c102_rv), .val (.int c112_rv), .val (.long c127_rv), .second, .val (.long c142_rv), .second, .val (.double z152), .second] [(.int (1 : Int32))])) t → Steps p.tables e below (s₁.setTop (entryFrame m #[(.int p0), (.int p1), (.int p2), (.int p3), (.int p4), (.int p5)] maxLocals)) t := by
          intro t k
          refine c66 t ?_
          show Steps p.tables e below (T65.setTop (mkF m 77 #[.val (.int p0), .val (.int p1), .val (.int p2), .val (.int p3), .val (.int p4), .val (.int p5), .val (.int z3), .val (.int z9), .val (.int c17_z58), .val (.int c27_z58), .val (.ref rb3_b1), .val (.int (0 : Int32)), .unset, .unset, .unset, .unset, .unset, .unset, .unset, .unset, .unset] [(.int c27_z58), (.int c38_c11_rv)])) _
          refine XS.icmpYes X65.here hx rfl (pc0 := 77) (pc' := 94) rfl (hb hby at_77) rfl (Jvm.Free.XT.ii_gt_t hb77) (by decide) (by decide) ?_
          show Steps p.tables e below (T65.setTop (mkF m 94 #[.val (.int p0), .val (.int p1), .val (.int p2), .val (.int p3), .val (.int p4), .val (.int p5), .val (.int z3), .val (.int z9), .val (.int c17_z58), .val (.int c27_z58), .val (.ref rb3_b1), .val (.int (0 : Int32)), .unset, .unset, .unset, .unset, .unset, .unset, .unset, .unset, .unset] [])) _
          refine XS.iconst X65.here hx rfl (hb hby at_94) ?_
          show Steps p.tables e below (T65.setTop (mkF m 95 #[.val (.int p0), .val (.int p1), .val (.int p2), .val (.int p3), .val (.int p4), .val (.int p5), .val (.int z3), .val (.int z9), .val (.int c17_z58), .val (.int c27_z58), .val (.ref rb3_b1), .val (.int (0 : Int32)), .unset, .unset, .unset, .unset, .unset, .unset, .unset, .unset, .unset] [(.int (0 : Int32))])) _
          refine XS.istore X65.here hx rfl (hb hby at_95) rfl (l' := #[.val (.int p0), .val (.int p1), .val (.int p2), .val (.int p3), .val (.int p4), .val (.int p5), .val (.int z3), .val (.int z9), .val (.int c17_z58), .val (.int c27_z58), .val (.ref rb3_b1), .val (.int (0 : Int32)), .val (.int (0 : Int32)), .unset, .unset, .unset, .unset, .unset, .unset, .unset, .unset]) rfl ?_
          show Steps p.tables e below (T65.setTop (mkF m 97 #[.val (.int p0), .val (.int p1), .val (.int p2), .val (.int p3), .val (.int p4), .val (.int p5), .val (.int z3), .val (.int z9), .val (.int c17_z58), .val (.int c27_z58), .val (.ref rb3_b1), .val (.int (0 : Int32)), .val (.int (0 : Int32)), .unset, .unset, .unset, .unset, .unset, .unset, .unset, .unset] [])) _
          refine XS.iload X65.here hx rfl (hb hby at_97) rfl ?_
          show Steps p.tables e below (T65.setTop (mkF m 99 #[.val (.int p0), .val (.int p1), .val (.int p2), .val (.int p3), .val (.int p4), .val (.int p5), .val (.int z3), .val (.int z9), .val (.int c17_z58), .val (.int c27_z58), .val (.ref rb3_b1), .val (.int (0 : Int32)), .val (.int (0 : Int32)), .unset, .unset, .unset, .unset, .unset, .unset, .unset, .unset] [(.int c17_z58)])) _
          refine XS.iloadN X65.here hx rfl (hb hby at_99) rfl ?_
          show Steps p.tables e below (T65.setTop (mkF m 100 #[.val (.int p0), .val (.int p1), .val (.int p2), .val (.int p3), .val (.int p4), .val (.int p5), .val (.int z3), .val (.int z9), .val (.int c17_z58), .val (.int c27_z58), .val (.ref rb3_b1), .val (.int (0 : Int32)), .val (.int (0 : Int32)), .unset, .unset, .unset, .unset, .unset, .unset, .unset, .unset] [(.int p2), (.int c17_z58)])) _
          refine XS.iload X65.here hx rfl (hb hby at_100) rfl ?_
          show Steps p.tables e below (T65.setTop (mkF m 102 #[.val (.int p0), .val (.int p1), .val (.int p2), .val (.int p3), .val (.int p4), .val (.int p5), .val (.int z3), .val (.int z9), .val (.int c17_z58), .val (.int c27_z58), .val (.ref rb3_b1), .val (.int (0 : Int32)), .val (.int (0 : Int32)), .unset, .unset, .unset, .unset, .unset, .unset, .unset, .unset] [(.int z3), (.int p2), (.int c17_z58)])) _
          refine st67 _ ?_
          show Steps p.tables e below (T67.setTop (mkF m 105 #[.val (.int p0), .val (.int p1), .val (.int p2), .val (.int p3), .val (.int p4), .val (.int p5), .val (.int z3), .val (.int z9), .val (.int c17_z58), .val (.int c27_z58), .val (.ref rb3_b1), .val (.int (0 : Int32)), .val (.int (0 : Int32)), .unset, .unset, .unset, .unset, .unset, .unset, .unset, .unset] [(.int c102_rv)])) _
          refine XS.istore X67.here hx rfl (hb hby at_105) rfl (l' := #[.val (.int p0), .val (.int p1), .val (.int p2), .val (.int p3), .val (.int p4), .val (.int p5), .val (.int z3), .val (.int z9), .val (.int c17_z58), .val (.int c27_z58), .val (.ref rb3_b1), .val (.int (0 : Int32)), .val (.int (0 : Int32)), .val (.int c102_rv), .unset, .unset, .unset, .unset, .unset, .unset, .unset]) rfl ?_
          show Steps p.tables e below (T67.setTop (mkF m 107 #[.val (.int p0), .val (.int p1), .val (.int p2), .val (.int p3), .val (.int p4), .val (.int p5), .val (.int z3), .val (.int z9), .val (.int c17_z58), .val (.int c27_z58), .val (.ref rb3_b1), .val (.int (0 : Int32)), .val (.int (0 : Int32)), .val (.int c102_rv), .unset, .unset, .unset, .unset, .unset, .unset, .unset] [])) _
          refine XS.iload X67.here hx rfl (hb hby at_107) rfl ?_
          show Steps p.tables e below (T67.setTop (mkF m 109 #[.val (.int p0), .val (.int p1), .val (.int p2), .val (.int p3), .val (.int p4), .val (.int p5), .val (.int z3), .val (.int z9), .val (.int c17_z58), .val (.int c27_z58), .val (.ref rb3_b1), .val (.int (0 : Int32)), .val (.int (0 : Int32)), .val (.int c102_rv), .unset, .unset, .unset, .unset, .unset, .unset, .unset] [(.int c27_z58)])) _
          refine XS.iloadN X67.here hx rfl (hb hby at_109) rfl ?_
          show Steps p.tables e below (T67.setTop (mkF m 110 #[.val (.int p0), .val (.int p1), .val (.int p2), .val (.int p3), .val (.int p4), .val (.int p5), .val (.int z3), .val (.int z9), .val (.int c17_z58), .val (.int c27_z58), .val (.ref rb3_b1), .val (.int (0 : Int32)), .val (.int (0 : Int32)), .val (.int c102_rv), .unset, .unset, .unset, .unset, .unset, .unset, .unset] [(.int p3), (.int c27_z58)])) _
          refine XS.iload X67.here hx rfl (hb hby at_110) rfl ?_
          show Steps p.tables e below (T67.setTop (mkF m 112 #[.val (.int p0), .val (.int p1), .val (.int p2), .val (.int p3), .val (.int p4), .val (.int p5), .val (.int z3), .val (.int z9), .val (.int c17_z58), .val (.int c27_z58), .val (.ref rb3_b1), .val (.int (0 : Int32)), .val (.int (0 : Int32)), .val (.int c102_rv), .unset, .unset, .unset, .unset, .unset, .unset, .unset] [(.int z9), (.int p3), (.int c27_z58)])) _
          refine st68 _ ?_
          show Steps p.tables e below (T68.setTop (mkF m 115 #[.val (.int p0), .val (.int p1), .val (.int p2), .val (.int p3), .val (.int p4), .val (.int p5), .val (.int z3), .val (.int z9), .val (.int c17_z58), .val (.int c27_z58), .val (.ref rb3_b1), .val (.int (0 : Int32)), .val (.int (0 : Int32)), .val (.int c102_rv), .unset, .unset, .unset, .unset, .unset, .unset, .unset] [(.int c112_rv)])) _
          refine XS.istore X68.here hx rfl (hb hby at_115) rfl (l' := #[.val (.int p0), .val (.int p1), .val (.int p2), .val (.int p3), .val (.int p4), .val (.int p5), .val (.int z3), .val (.int z9), .val (.int c17_z58), .val (.int c27_z58), .val (.ref rb3_b1), .val (.int (0 : Int32)), .val (.int (0 : Int32)), .val (.int c102_rv), .val (.int c112_rv), .unset, .unset, .unset, .unset, .unset, .unset]) rfl ?_
          show Steps p.tables e below (T68.setTop (mkF m 117 #[.val (.int p0), .val (.int p1), .val (.int p2), .val (.int p3), .val (.int p4), .val (.int p5), .val (.int z3), .val (.int z9), .val (.int c17_z58), .val (.int c27_z58), .val (.ref rb3_b1), .val (.int (0 : Int32)), .val (.int (0 : Int32)), .val (.int c102_rv), .val (.int c112_rv), .unset, .unset, .unset, .unset, .unset, .unset] [])) _
          refine XS.lconst X68.here hx rfl (hb hby at_117) ?_
          show Steps p.tables e below (T68.setTop (mkF m 118 #[.val (.int p0), .val (.int p1), .val (.int p2), .val (.int p3), .val (.int p4), .val (.int p5), .val (.int z3), .val (.int z9), .val (.int c17_z58), .val (.int c27_z58), .val (.ref rb3_b1), .val (.int (0 : Int32)), .val (.int (0 : Int32)), .val (.int c102_rv), .val (.int c112_rv), .unset, .unset, .unset, .unset, .unset, .unset] [(.long (0 : Int64))])) _
          refine XS.iload X68.here hx rfl (hb hby at_118) rfl ?_
          show Steps p.tables e below (T68.setTop (mkF m 120 #[.val (.int p0), .val (.int p1), .val (.int p2), .val (.int p3), .val (.int p4), .val (.int p5), .val (.int z3), .val (.int z9), .val (.int c17_z58), .val (.int c27_z58), .val (.ref rb3_b1), .val (.int (0 : Int32)), .val (.int (0 : Int32)), .val (.int c102_rv), .val (.int c112_rv), .unset, .unset, .unset, .unset, .unset, .unset] [(.int z3), (.long (0 : Int64))])) _
          refine Jvm.OwnK.i2l X68.here hx rfl (hb hby at_120) rfl hz120 ?_
          show Steps p.tables e below (T68.setTop (mkF m 121 #[.val (.int p0), .val (.int p1), .val (.int p2), .val (.int p3), .val (.int p4), .val (.int p5), .val (.int z3), .val (.int z9), .val (.int c17_z58), .val (.int c27_z58), .val (.ref rb3_b1), .val (.int (0 : Int32)), .val (.int (0 : Int32)), .val (.int c102_rv), .val (.int c112_rv), .unset, .unset, .unset, .unset, .unset, .unset] [(.long z120), (.long (0 : Int64))])) _
          refine XS.iloadN X68.here hx rfl (hb hby at_121) rfl ?_
          show Steps p.tables e below (T68.setTop (mkF m 122 #[.val (.int p0), .val (.int p1), .val (.int p2), .val (.int p3), .val (.int p4), .val (.int p5), .val (.int z3), .val (.int z9), .val (.int c17_z58), .val (.int c27_z58), .val (.ref rb3_b1), .val (.int (0 : Int32)), .val (.int (0 : Int32)), .val (.int c102_rv), .val (.int c112_rv), .unset, .unset, .unset, .unset, .unset, .unset] [(.int p2), (.long z120), (.long (0 : Int64))])) _
          refine Jvm.OwnK.i2l X68.here hx rfl (hb hby at_122) rfl hz122 ?_
          show Steps p.tables e below (T68.setTop (mkF m 123 #[.val (.int p0), .val (.int p1), .val (.int p2), .val (.int p3), .val (.int p4), .val (.int p5), .val (.int z3), .val (.int z9), .val (.int c17_z58), .val (.int c27_z58), .val (.ref rb3_b1), .val (.int (0 : Int32)), .val (.int (0 : Int32)), .val (.int c102_rv), .val (.int c112_rv), .unset, .unset, .unset, .unset, .unset, .unset] [(.long z122), (.long z120), (.long (0 : Int64))])) _
          refine st69 _ ?_
          show Steps p.tables e below (T69.setTop (mkF m 126 #[.val (.int p0), .val (.int p1), .val (.int p2), .val (.int p3), .val (.int p4), .val (.int p5), .val (.int z3), .val (.int z9), .val (.int c17_z58), .val (.int c27_z58), .val (.ref rb3_b1), .val (.int (0 : Int32)), .val (.int (0 : Int32)), .val (.int c102_rv), .val (.int c112_rv), .unset, .unset, .unset, .unset, .unset, .unset] [(.long c123_rv), (.long z120), (.long (0 : Int64))])) _
          refine Jvm.OwnK.lsub X69.here hx rfl (hb hby at_126) rfl hz126 ?_
          show Steps p.tables e below (T69.setTop (mkF m 127 #[.val (.int p0), .val (.int p1), .val (.int p2), .val (.int p3), .val (.int p4), .val (.int p5), .val (.int z3), .val (.int z9), .val (.int c17_z58), .val (.int c27_z58), .val (.ref rb3_b1), .val (.int (0 : Int32)), .val (.int (0 : Int32)), .val (.int c102_rv), .val (.int c112_rv), .unset, .unset, .unset, .unset, .unset, .unset] [(.long z126), (.long (0 : Int64))])) _
          refine st70 _ ?_
          show Steps p.tables e below (T70.setTop (mkF m 130 #[.val (.int p0), .val (.int p1), .val (.int p2), .val (.int p3), .val (.int p4), .val (.int p5), .val (.int z3), .val (.int z9), .val (.int c17_z58), .val (.int c27_z58), .val (.ref rb3_b1), .val (.int (0 : Int32)), .val (.int (0 : Int32)), .val (.int c102_rv), .val (.int c112_rv), .unset, .unset, .unset, .unset, .unset, .unset] [(.long c127_rv)])) _
          refine XS.lstore X70.here hx rfl (hb hby at_130) rfl (l' := #[.val (.int p0), .val (.int p1), .val (.int p2), .val (.int p3), .val (.int p4), .val (.int p5), .val (.int z3), .val (.int z9), .val (.int c17_z58), .val (.int c27_z58), .val (.ref rb3_b1), .val (.int (0 : Int32)), .val (.int (0 : Int32)), .val (.int c102_rv), .val (.int c112_rv), .val (.long c127_rv), .second, .unset, .unset, .unset, .unset]) rfl ?_
          show Steps p.tables e below (T70.setTop (mkF m 132 #[.val (.int p0), .val (.int p1), .val (.int p2), .val (.int p3), .val (.int p4), .val (.int p5), .val (.int z3), .val (.int z9), .val (.int c17_z58), .val (.int c27_z58), .val (.ref rb3_b1), .val (.int (0 : Int32)), .val (.int (0 : Int32)), .val (.int c102_rv), .val (.int c112_rv), .val (.long c127_rv), .second, .unset, .unset, .unset, .unset] [])) _
          refine XS.lconst X70.here hx rfl (hb hby at_132) ?_
          show Steps p.tables e below (T70.setTop (mkF m 133 #[.val (.int p0), .val (.int p1), .val (.int p2), .val (.int p3), .val (.int p4), .val (.int p5), .val (.int z3), .val (.int z9), .val (.int c17_z58), .val (.int c27_z58), .val (.ref rb3_b1), .val (.int (0 : Int32)), .val (.int (0 : Int32)), .val (.int c102_rv), .val (.int c112_rv), .val (.long c127_rv), .second, .unset, .unset, .unset, .unset] [(.long (0 : Int64))])) _
          refine XS.iload X70.here hx rfl (hb hby at_133) rfl ?_
          show Steps p.tables e below (T70.setTop (mkF m 135 #[.val (.int p0), .val (.int p1), .val (.int p2), .val (.int p3), .val (.int p4), .val (.int p5), .val (.int z3), .val (.int z9), .val (.int c17_z58), .val (.int c27_z58), .val (.ref rb3_b1), .val (.int (0 : Int32)), .val (.int (0 : Int32)), .val (.int c102_rv), .val (.int c112_rv), .val (.long c127_rv), .second, .unset, .unset, .unset, .unset] [(.int z9), (.long (0 : Int64))])) _
          refine Jvm.OwnK.i2l X70.here hx rfl (hb hby at_135) rfl hz135 ?_
          show Steps p.tables e below (T70.setTop (mkF m 136 #[.val (.int p0), .val (.int p1), .val (.int p2), .val (.int p3), .val (.int p4), .val (.int p5), .val (.int z3), .val (.int z9), .val (.int c17_z58), .val (.int c27_z58), .val (.ref rb3_b1), .val (.int (0 : Int32)), .val (.int (0 : Int32)), .val (.int c102_rv), .val (.int c112_rv), .val (.long c127_rv), .second, .unset, .unset, .unset, .unset] [(.long z135), (.long (0 : Int64))])) _
          refine XS.iloadN X70.here hx rfl (hb hby at_136) rfl ?_
          show Steps p.tables e below (T70.setTop (mkF m 137 #[.val (.int p0), .val (.int p1), .val (.int p2), .val (.int p3), .val (.int p4), .val (.int p5), .val (.int z3), .val (.int z9), .val (.int c17_z58), .val (.int c27_z58), .val (.ref rb3_b1), .val (.int (0 : Int32)), .val (.int (0 : Int32)), .val (.int c102_rv), .val (.int c112_rv), .val (.long c127_rv), .second, .unset, .unset, .unset, .unset] [(.int p3), (.long z135), (.long (0 : Int64))])) _
          refine Jvm.OwnK.i2l X70.here hx rfl (hb hby at_137) rfl hz137 ?_
          show Steps p.tables e below (T70.setTop (mkF m 138 #[.val (.int p0), .val (.int p1), .val (.int p2), .val (.int p3), .val (.int p4), .val (.int p5), .val (.int z3), .val (.int z9), .val (.int c17_z58), .val (.int c27_z58), .val (.ref rb3_b1), .val (.int (0 : Int32)), .val (.int (0 : Int32)), .val (.int c102_rv), .val (.int c112_rv), .val (.long c127_rv), .second, .unset, .unset, .unset, .unset] [(.long z137), (.long z135), (.long (0 : Int64))])) _
          refine st71 _ ?_
          show Steps p.tables e below (T71.setTop (mkF m 141 #[.val (.int p0), .val (.int p1), .val (.int p2), .val (.int p3), .val (.int p4), .val (.int p5), .val (.int z3), .val (.int z9), .val (.int c17_z58), .val (.int c27_z58), .val (.ref rb3_b1), .val (.int (0 : Int32)), .val (.int (0 : Int32)), .val (.int c102_rv), .val (.int c112_rv), .val (.long c127_rv), .second, .unset, .unset, .unset, .unset] [(.long c138_rv), (.long z135), (.long (0 : Int64))])) _
          refine Jvm.OwnK.lsub X71.here hx rfl (hb hby at_141) rfl hz141 ?_
          show Steps p.tables e below (T71.setTop (mkF m 142 #[.val (.int p0), .val (.int p1), .val (.int p2), .val (.int p3), .val (.int p4), .val (.int p5), .val (.int z3), .val (.int z9), .val (.int c17_z58), .val (.int c27_z58), .val (.ref rb3_b1), .val (.int (0 : Int32)), .val (.int (0 : Int32)), .val (.int c102_rv), .val (.int c112_rv), .val (.long c127_rv), .second, .unset, .unset, .unset, .unset] [(.long z141), (.long (0 : Int64))])) _
          refine st72 _ ?_
          show Steps p.tables e below (T72.setTop (mkF m 145 #[.val (.int p0), .val (.int p1), .val (.int p2), .val (.int p3), .val (.int p4), .val (.int p5), .val (.int z3), .val (.int z9), .val (.int c17_z58), .val (.int c27_z58), .val (.ref rb3_b1), .val (.int (0 : Int32)), .val (.int (0 : Int32)), .val (.int c102_rv), .val (.int c112_rv), .val (.long c127_rv), .second, .unset, .unset, .unset, .unset] [(.long c142_rv)])) _
          refine XS.lstore X72.here hx rfl (hb hby at_145) rfl (l' := #[.val (.int p0), .val (.int p1), .val (.int p2), .val (.int p3), .val (.int p4), .val (.int p5), .val (.int z3), .val (.int z9), .val (.int c17_z58), .val (.int c27_z58), .val (.ref rb3_b1), .val (.int (0 : Int32)), .val (.int (0 : Int32)), .val (.int c102_rv), .val (.int c112_rv), .val (.long c127_rv), .second, .val (.long c142_rv), .second, .unset, .unset]) rfl ?_
          show Steps p.tables e below (T72.setTop (mkF m 147 #[.val (.int p0), .val (.int p1), .val (.int p2), .val (.int p3), .val (.int p4), .val (.int p5), .val (.int z3), .val (.int z9), .val (.int c17_z58), .val (.int c27_z58), .val (.ref rb3_b1), .val (.int (0 : Int32)), .val (.int (0 : Int32)), .val (.int c102_rv), .val (.int c112_rv), .val (.long c127_rv), .second, .val (.long c142_rv), .second, .unset, .unset] [])) _
          refine XS.lload X72.here hx rfl (hb hby at_147) rfl ?_
          show Steps p.tables e below (T72.setTop (mkF m 149 #[.val (.int p0), .val (.int p1), .val (.int p2), .val (.int p3), .val (.int p4), .val (.int p5), .val (.int z3), .val (.int z9), .val (.int c17_z58), .val (.int c27_z58), .val (.ref rb3_b1), .val (.int (0 : Int32)), .val (.int (0 : Int32)), .val (.int c102_rv), .val (.int c112_rv), .val (.long c127_rv), .second, .val (.long c142_rv), .second, .unset, .unset] [(.long c127_rv)])) _
          refine XS.lload X72.here hx rfl (hb hby at_149) rfl ?_
          show Steps p.tables e below (T72.setTop (mkF m 151 #[.val (.int p0), .val (.int p1), .val (.int p2), .val (.int p3), .val (.int p4), .val (.int p5), .val (.int z3), .val (.int z9), .val (.int c17_z58), .val (.int c27_z58), .val (.ref rb3_b1), .val (.int (0 : Int32)), .val (.int (0 : Int32)), .val (.int c102_rv), .val (.int c112_rv), .val (.long c127_rv), .second, .val (.long c142_rv), .second, .unset, .unset] [(.long c142_rv), (.long c127_rv)])) _
          refine Jvm.OwnK.lmul X72.here hx rfl (hb hby at_151) rfl hz151 ?_
          show Steps p.tables e below (T72.setTop (mkF m 152 #[.val (.int p0), .val (.int p1), .val (.int p2), .val (.int p3), .val (.int p4), .val (.int p5), .val (.int z3), .val (.int z9), .val (.int c17_z58), .val (.int c27_z58), .val (.ref rb3_b1), .val (.int (0 : Int32)), .val (.int (0 : Int32)), .val (.int c102_rv), .val (.int c112_rv), .val (.long c127_rv), .second, .val (.long c142_rv), .second, .unset, .unset] [(.long z151)])) _
          refine XS.l2dS X72.here hx rfl (hb hby at_152) rfl hz152 ?_
          show Steps p.tables e below (T72.setTop (mkF m 153 #[.val (.int p0), .val (.int p1), .val (.int p2), .val (.int p3), .val (.int p4), .val (.int p5), .val (.int z3), .val (.int z9), .val (.int c17_z58), .val (.int c27_z58), .val (.ref rb3_b1), .val (.int (0 : Int32)), .val (.int (0 : Int32)), .val (.int c102_rv), .val (.int c112_rv), .val (.long c127_rv), .second, .val (.long c142_rv), .second, .unset, .unset] [(.double z152)])) _
          refine XS.dstore X72.here hx rfl (hb hby at_153) rfl (l' := #[.val (.int p0), .val (.int p1), .val (.int p2), .val (.int p3), .val (.int p4), .val (.int p5), .val (.int z3), .val (.int z9), .val (.int c17_z58), .val (.int c27_z58), .val (.ref rb3_b1), .val (.int (0 : Int32)), .val (.int (0 : Int32)), .val (.int c102_rv), .val (.int c112_rv), .val (.long c127_rv), .second, .val (.long c142_rv), .second, .val (.double z152), .second]) rfl ?_
          show Steps p.tables e below (T72.setTop (mkF m 155 #[.val (.int p0), .val (.int p1), .val (.int p2), .val (.int p3), .val (.int p4), .val (.int p5), .val (.int z3), .val (.int z9), .val (.int c17_z58), .val (.int c27_z58), .val (.ref rb3_b1), .val (.int (0 : Int32)), .val (.int (0 : Int32)), .val (.int c102_rv), .val (.int c112_rv), .val (.long c127_rv), .second, .val (.long c142_rv), .second, .val (.double z152), .second] [])) _
          refine XS.iload X72.here hx rfl (hb hby at_155) rfl ?_
          show Steps p.tables e below (T72.setTop (mkF m 157 #[.val (.int p0), .val (.int p1), .val (.int p2), .val (.int p3), .val (.int p4), .val (.int p5), .val (.int z3), .val (.int z9), .val (.int c17_z58), .val (.int c27_z58), .val (.ref rb3_b1), .val (.int (0 : Int32)), .val (.int (0 : Int32)), .val (.int c102_rv), .val (.int c112_rv), .val (.long c127_rv), .second, .val (.long c142_rv), .second, .val (.double z152), .second] [(.int (0 : Int32))])) _
          refine XS.iload X72.here hx rfl (hb hby at_157) rfl ?_
          show Steps p.tables e below (T72.setTop (mkF m 159 #[.val (.int p0), .val (.int p1), .val (.int p2), .val (.int p3), .val (.int p4), .val (.int p5), .val (.int z3), .val (.int z9), .val (.int c17_z58), .val (.int c27_z58), .val (.ref rb3_b1), .val (.int (0 : Int32)), .val (.int (0 : Int32)), .val (.int c102_rv), .val (.int c112_rv), .val (.long c127_rv), .second, .val (.long c142_rv), .second, .val (.double z152), .second] [(.int c102_rv), (.int (0 : Int32))])) _
          refine XS.icmpNo X72.here hx rfl (hb hby at_159) rfl (Jvm.Free.XT.ii_ne_f br159) ?_
          show Steps p.tables e below (T72.setTop (mkF m 162 #[.val (.int p0), .val (.int p1), .val (.int p2), .val (.int p3), .val (.int p4), .val (.int p5), .val (.int z3), .val (.int z9), .val (.int c17_z58), .val (.int c27_z58), .val (.ref rb3_b1), .val (.int (0 : Int32)), .val (.int (0 : Int32)), .val (.int c102_rv), .val (.int c112_rv), .val (.long c127_rv), .second, .val (.long c142_rv), .second, .val (.double z152), .second] [])) _
          refine XS.iload X72.here hx rfl (hb hby at_162) rfl ?_
          show Steps p.tables e below (T72.setTop (mkF m 164 #[.val (.int p0), .val (.int p1), .val (.int p2), .val (.int p3), .val (.int p4), .val (.int p5), .val (.int z3), .val (.int z9), .val (.int c17_z58), .val (.int c27_z58), .val (.ref rb3_b1), .val (.int (0 : Int32)), .val (.int (0 : Int32)), .val (.int c102_rv), .val (.int c112_rv), .val (.long c127_rv), .second, .val (.long c142_rv), .second, .val (.double z152), .second] [(.int (0 : Int32))])) _
          refine XS.iload X72.here hx rfl (hb hby at_164) rfl ?_
          show Steps p.tables e below (T72.setTop (mkF m 166 #[.val (.int p0), .val (.int p1), .val (.int p2), .val (.int p3), .val (.int p4), .val (.int p5), .val (.int z3), .val (.int z9), .val (.int c17_z58), .val (.int c27_z58), .val (.ref rb3_b1), .val (.int (0 : Int32)), .val (.int (0 : Int32)), .val (.int c102_rv), .val (.int c112_rv), .val (.long c127_rv), .second, .val (.long c142_rv), .second, .val (.double z152), .second] [(.int c112_rv), (.int (0 : Int32))])) _
          refine XS.icmpNo X72.here hx rfl (hb hby at_166) rfl (Jvm.Free.XT.ii_ne_f br166) ?_
          show Steps p.tables e below (T72.setTop (mkF m 169 #[.val (.int p0), .val (.int p1), .val (.int p2), .val (.int p3), .val (.int p4), .val (.int p5), .val (.int z3), .val (.int z9), .val (.int c17_z58), .val (.int c27_z58), .val (.ref rb3_b1), .val (.int (0 : Int32)), .val (.int (0 : Int32)), .val (.int c102_rv), .val (.int c112_rv), .val (.long c127_rv), .second, .val (.long c142_rv), .second, .val (.double z152), .second] [])) _
          refine XS.aload X72.here hx rfl (hb hby at_169) rfl rfl ?_
          show Steps p.tables e below (T72.setTop (mkF m 171 #[.val (.int p0), .val (.int p1), .val (.int p2), .val (.int p3), .val (.int p4), .val (.int p5), .val (.int z3), .val (.int z9), .val (.int c17_z58), .val (.int c27_z58), .val (.ref rb3_b1), .val (.int (0 : Int32)), .val (.int (0 : Int32)), .val (.int c102_rv), .val (.int c112_rv), .val (.long c127_rv), .second, .val (.long c142_rv), .second, .val (.double z152), .second] [(.ref rb3_b1)])) _
          refine st73.trans ?_
          show Steps p.tables e below (T73.setTop (mkF m 174 #[.val (.int p0), .val (.int p1), .val (.int p2), .val (.int p3), .val (.int p4), .val (.int p5), .val (.int z3), .val (.int z9), .val (.int c17_z58), .val (.int c27_z58), .val (.ref rb3_b1), .val (.int (0 : Int32)), .val (.int (0 : Int32)), .val (.int c102_rv), .val (.int c112_rv), .val (.long c127_rv), .second, .val (.long c142_rv), .second, .val (.double z152), .second] [(.double c171_rv)])) _
          refine XS.dload X73.here hx rfl (hb hby at_174) rfl ?_
          show Steps p.tables e below (T73.setTop (mkF m 176 #[.val (.int p0), .val (.int p1), .val (.int p2), .val (.int p3), .val (.int p4), .val (.int p5), .val (.int z3), .val (.int z9), .val (.int c17_z58), .val (.int c27_z58), .val (.ref rb3_b1), .val (.int (0 : Int32)), .val (.int (0 : Int32)), .val (.int c102_rv), .val (.int c112_rv), .val (.long c127_rv), .second, .val (.long c142_rv), .second, .val (.double z152), .second] [(.double z152), (.double c171_rv)])) _
          refine XS.dcmpS X73.here hx rfl (hb hby at_176) rfl hz176 ?_
          show Steps p.tables e below (T73.setTop (mkF m 177 #[.val (.int p0), .val (.int p1), .val (.int p2), .val (.int p3), .val (.int p4), .val (.int p5), .val (.int z3), .val (.int z9), .val (.int c17_z58), .val (.int c27_z58), .val (.ref rb3_b1), .val (.int (0 : Int32)), .val (.int (0 : Int32)), .val (.int c102_rv), .val (.int c112_rv), .val (.long c127_rv), .second, .val (.long c142_rv), .second, .val (.double z152), .second] [(.int z176)])) _
          refine XS.ifNo X73.here hx rfl (hb hby at_177) rfl (Jvm.Free.XT.i0_ne_f br177) ?_
          show Steps p.tables e below (T73.setTop (mkF m 180 #[.val (.int p0), .val (.int p1), .val (.int p2), .val (.int p3), .val (.int p4), .val (.int p5), .val (.int z3), .val (.int z9), .val (.int c17_z58), .val (.int c27_z58), .val (.ref rb3_b1), .val (.int (0 : Int32)), .val (.int (0 : Int32)), .val (.int c102_rv), .val (.int c112_rv), .val (.long c127_rv), .second, .val (.long c142_rv), .second, .val (.double z152), .second] [])) _
          refine XS.iconst X73.here hx rfl (hb hby at_180) ?_
          show Steps p.tables e below (T73.setTop (mkF m 181 #[.val (.int p0), .val (.int p1), .val (.int p2), .val (.int p3), .val (.int p4), .val (.int p5), .val (.int z3), .val (.int z9), .val (.int c17_z58), .val (.int c27_z58), .val (.ref rb3_b1), .val (.int (0 : Int32)), .val (.int (0 : Int32)), .val (.int c102_rv), .val (.int c112_rv), .val (.long c127_rv), .second, .val (.long c142_rv), .second, .val (.double z152), .second] [(.int (1 : Int32))])) _
          refine XS.goto X73.here hx rfl (pc0 := 181) (pc' := 185) rfl (hb hby at_181) (by decide) (by decide) ?_
          exact k
        obtain ⟨fs, hr, hrun, hended, hW, hsame⟩ := X73.leave (v := some (.int (1 : Int32))) (fun h => by rw [Bd.returns] at h; cases h)
        refine ⟨_, _, c74 _ ?_, hrun, hended, _, _, rfl, ?_, ⟨_, rfl⟩, hW, hsame.mono (by decide) (by decide)⟩
        · show Steps p.tables e below (T73.setTop (mkF m 185 #[.val (.int p0), .val (.int p1), .val (.int p2), .val (.int p3), .val (.int p4), .val (.int p5), .val (.int z3), .val (.int z9), .val (.int c17_z58), .val (.int c27_z58), .val (.ref rb3_b1), .val (.int (0 : Int32)), .val (.int (0 : Int32)), .val (.int c102_rv), .val (.int c112_rv), .val (.long c127_rv), .second, .val (.long c142_rv), .second, .val (.double z152), .second] [(.int (1 : Int32))])) _
          exact retOut X73 hx Bd.returns rfl (Or.inl ⟨rfl, by simp, _, rfl⟩) (hb hby at_185) hr
        · show Q0 n0 _ T73.heap _
          rw [e73]
          exact ⟨rfl, by first | assumption | exact N0⟩
      · skip
        obtain ⟨cq75, kq75, q75a, q75b, q75c⟩ := isOf hZ e65 Q3_0
        obtain ⟨_, _, ⟨T75, L75, k75, n75⟩, -, X75, ⟨Lc75, hQ75, ql75, qy75, qz75⟩, st75⟩ := X65.virtualBack hx (y := (⟨"com/example/vetrino/vetrino/Overlap", "bottom", "()I"⟩ : MethodName)) (z := (⟨"com/example/vetrino/vetrino/Overlap", "bottom", "()I"⟩ : MethodName)) hown (mvT hZ (hw _ (List.mem_of_getElem? (i := 42) rfl))) (mvT hZ (hw _ (List.mem_of_getElem? (i := 43) rfl))) (notFace_of_selects (args := #[]) (mvT hZ (hw _ (List.mem_of_getElem? (i := 45) rfl)))) (mvT hZ (hw _ (List.mem_of_getElem? (i := 45) rfl))) (mvT hZ (hw _ (List.mem_of_getElem? (i := 44) rfl))) (by decide) (backOf (W := 1) (rm9 l Z a0 hw [] rb3_b1 c38_c25_rv  T3.heap n0 (Nat.le_trans Z0 K3q.1) Q3_4) hZ (hw _ (List.mem_of_getElem? (i := 46) rfl)) (hw _ (List.mem_of_getElem? (i := 7) rfl)) (by decide) (by decide)) q75a q75c (g := (mkF m 84 #[.val (.int p0), .val (.int p1), .val (.int p2), .val (.int p3), .val (.int p4), .val (.int p5), .val (.int z3), .val (.int z9), .val (.int c17_z58), .val (.int c27_z58), .val (.ref rb3_b1), .val (.int (0 : Int32)), .unset, .unset, .unset, .unset, .unset, .unset, .unset, .unset, .unset] [(.ref rb3_b1), (.int c27_z58)])) rfl (by rw [hml]; rfl) (Steps.refl _) (argsL := []) (rest := [(.int c27_z58)]) (lenOf pd_4 rfl) rfl (by show 2 * 0 + _ ≤ _; exact Nat.le_of_eq rfl) (hb hby at_84) (fun _ _ => ⟨rfl, e65, (by decide : 1 + 0 ≤ _), (by decide : 4 + 0 ≤ _)⟩)
        dsimp only [Pt.U, Pt.locs, Pt.cells, Pt.slots] at X75 ql75 qy75 qz75 st75 hQ75
        subst ql75 qy75 qz75
        obtain ⟨rfl, N75q, e75⟩ := hQ75
        have N75 := Fr.app N65 N75q
        have c76 : ∀ t, Steps p.tables e below (T75.setTop (mkF m 87 #[.val (.int p0), .val (.int p1), .val (.int p2), .val (.int p3), .val (.int p4), .val (.int p5), .val (.int z3), .val (.int z9), .val (.int c17_z58), .val (.int c27_z58), .val (.ref rb3_b1), .val (.int (0 : Int32)), .unset, .unset, .unset, .unset, .unset, .unset, .unset, .unset, .unset] [(.int c38_c25_rv), (.int c27_z58)])) t → Steps p.tables e below (s₁.setTop (entryFrame m #[(.int p0), (.int p1), (.int p2), (.int p3), (.int p4), (.int p5)] maxLocals)) t := by
          intro t k
          refine c66 t ?_
          show Steps p.tables e below (T65.setTop (mkF m 77 #[.val (.int p0), .val (.int p1), .val (.int p2), .val (.int p3), .val (.int p4), .val (.int p5), .val (.int z3), .val (.int z9), .val (.int c17_z58), .val (.int c27_z58), .val (.ref rb3_b1), .val (.int (0 : Int32)), .unset, .unset, .unset, .unset, .unset, .unset, .unset, .unset, .unset] [(.int c27_z58), (.int c38_c11_rv)])) _
          refine XS.icmpNo X65.here hx rfl (hb hby at_77) rfl (Jvm.Free.XT.ii_gt_f hb77) ?_
          show Steps p.tables e below (T65.setTop (mkF m 80 #[.val (.int p0), .val (.int p1), .val (.int p2), .val (.int p3), .val (.int p4), .val (.int p5), .val (.int z3), .val (.int z9), .val (.int c17_z58), .val (.int c27_z58), .val (.ref rb3_b1), .val (.int (0 : Int32)), .unset, .unset, .unset, .unset, .unset, .unset, .unset, .unset, .unset] [])) _
          refine XS.iload X65.here hx rfl (hb hby at_80) rfl ?_
          show Steps p.tables e below (T65.setTop (mkF m 82 #[.val (.int p0), .val (.int p1), .val (.int p2), .val (.int p3), .val (.int p4), .val (.int p5), .val (.int z3), .val (.int z9), .val (.int c17_z58), .val (.int c27_z58), .val (.ref rb3_b1), .val (.int (0 : Int32)), .unset, .unset, .unset, .unset, .unset, .unset, .unset, .unset, .unset] [(.int c27_z58)])) _
          refine XS.aload X65.here hx rfl (hb hby at_82) rfl rfl ?_
          show Steps p.tables e below (T65.setTop (mkF m 84 #[.val (.int p0), .val (.int p1), .val (.int p2), .val (.int p3), .val (.int p4), .val (.int p5), .val (.int z3), .val (.int z9), .val (.int c17_z58), .val (.int c27_z58), .val (.ref rb3_b1), .val (.int (0 : Int32)), .unset, .unset, .unset, .unset, .unset, .unset, .unset, .unset, .unset] [(.ref rb3_b1), (.int c27_z58)])) _
          refine st75.trans ?_
          exact k
        by_cases hb87 : c27_z58 < c38_c25_rv
        · skip
          obtain ⟨c102_z1, hc102_z1⟩ : ∃ z : Int64, c17_z58.toInt64 = z := ⟨_, rfl⟩
          obtain ⟨c102_z5, hc102_z5⟩ : ∃ z : Int64, p2.toInt64 = z := ⟨_, rfl⟩
          obtain ⟨c102_z6, hc102_z6⟩ : ∃ z : Int64, c102_z1 - c102_z5 = z := ⟨_, rfl⟩
          obtain ⟨c102_z11, hc102_z11⟩ : ∃ z : Int32, lcmpW (0 : Int64) c102_z1 = z := ⟨_, rfl⟩
          obtain ⟨c102_z17, hc102_z17⟩ : ∃ z : Int64, z3.toInt64 = z := ⟨_, rfl⟩
          obtain ⟨c102_z18, hc102_z18⟩ : ∃ z : Int32, lcmpW c102_z1 c102_z17 = z := ⟨_, rfl⟩
          obtain ⟨c102_z25, hc102_z25⟩ : ∃ z : Int32, lcmpW (0 : Int64) c102_z6 = z := ⟨_, rfl⟩
          obtain ⟨c102_z32, hc102_z32⟩ : ∃ z : Int64, z3.toInt64 = z := ⟨_, rfl⟩
          obtain ⟨c102_z33, hc102_z33⟩ : ∃ z : Int32, lcmpW c102_z6 c102_z32 = z := ⟨_, rfl⟩
          obtain ⟨c102_rv, hc102_rv⟩ : ∃ z : Int32, (if (0 : Int32) < c102_z11 then (0 : Int32) else (if c102_z18 < (0 : Int32) then (if (0 : Int32) < c102_z25 then (0 : Int32) else (if c102_z33 < (0 : Int32) then (1 : Int32) else (0 : Int32))) else (0 : Int32))) = z := ⟨_, rfl⟩
          obtain ⟨c112_z1, hc112_z1⟩ : ∃ z : Int64, c27_z58.toInt64 = z := ⟨_, rfl⟩
          obtain ⟨c112_z5, hc112_z5⟩ : ∃ z : Int64, p3.toInt64 = z := ⟨_, rfl⟩
          obtain ⟨c112_z6, hc112_z6⟩ : ∃ z : Int64, c112_z1 - c112_z5 = z := ⟨_, rfl⟩
          obtain ⟨c112_z11, hc112_z11⟩ : ∃ z : Int32, lcmpW (0 : Int64) c112_z1 = z := ⟨_, rfl⟩
          obtain ⟨c112_z17, hc112_z17⟩ : ∃ z : Int64, z9.toInt64 = z := ⟨_, rfl⟩
          obtain ⟨c112_z18, hc112_z18⟩ : ∃ z : Int32, lcmpW c112_z1 c112_z17 = z := ⟨_, rfl⟩
          obtain ⟨c112_z25, hc112_z25⟩ : ∃ z : Int32, lcmpW (0 : Int64) c112_z6 = z := ⟨_, rfl⟩
          obtain ⟨c112_z32, hc112_z32⟩ : ∃ z : Int64, z9.toInt64 = z := ⟨_, rfl⟩
          obtain ⟨c112_z33, hc112_z33⟩ : ∃ z : Int32, lcmpW c112_z6 c112_z32 = z := ⟨_, rfl⟩
          obtain ⟨c112_rv, hc112_rv⟩ : ∃ z : Int32, (if (0 : Int32) < c112_z11 then (0 : Int32) else (if c112_z18 < (0 : Int32) then (if (0 : Int32) < c112_z25 then (0 : Int32) else (if c112_z33 < (0 : Int32) then (1 : Int32) else (0 : Int32))) else (0 : Int32))) = z := ⟨_, rfl⟩
          obtain ⟨z120, hz120⟩ : ∃ z : Int64, z3.toInt64 = z := ⟨_, rfl⟩
          obtain ⟨z122, hz122⟩ : ∃ z : Int64, p2.toInt64 = z := ⟨_, rfl⟩
          obtain ⟨c123_z2, hc123_z2⟩ : ∃ z : Int32, lcmpW z122 (0 : Int64) = z := ⟨_, rfl⟩
          obtain ⟨c123_z7, hc123_z7⟩ : ∃ z : Int64, -z122 = z := ⟨_, rfl⟩
          obtain ⟨c123_rv, hc123_rv⟩ : ∃ z : Int64, (if c123_z2 < (0 : Int32) then c123_z7 else z122) = z := ⟨_, rfl⟩
          obtain ⟨z126, hz126⟩ : ∃ z : Int64, z120 - c123_rv = z := ⟨_, rfl⟩
          obtain ⟨c127_z2, hc127_z2⟩ : ∃ z : Int32, lcmpW (0 : Int64) z126 = z := ⟨_, rfl⟩
          obtain ⟨c127_rv, hc127_rv⟩ : ∃ z : Int64, (if c127_z2 < (0 : Int32) then z126 else (0 : Int64)) = z := ⟨_, rfl⟩
          obtain ⟨z135, hz135⟩ : ∃ z : Int64, z9.toInt64 = z := ⟨_, rfl⟩
          obtain ⟨z137, hz137⟩ : ∃ z : Int64, p3.toInt64 = z := ⟨_, rfl⟩
          obtain ⟨c138_z2, hc138_z2⟩ : ∃ z : Int32, lcmpW z137 (0 : Int64) = z := ⟨_, rfl⟩
          obtain ⟨c138_z7, hc138_z7⟩ : ∃ z : Int64, -z137 = z := ⟨_, rfl⟩
          obtain ⟨c138_rv, hc138_rv⟩ : ∃ z : Int64, (if c138_z2 < (0 : Int32) then c138_z7 else z137) = z := ⟨_, rfl⟩
          obtain ⟨z141, hz141⟩ : ∃ z : Int64, z135 - c138_rv = z := ⟨_, rfl⟩
          obtain ⟨c142_z2, hc142_z2⟩ : ∃ z : Int32, lcmpW (0 : Int64) z141 = z := ⟨_, rfl⟩
          obtain ⟨c142_rv, hc142_rv⟩ : ∃ z : Int64, (if c142_z2 < (0 : Int32) then z141 else (0 : Int64)) = z := ⟨_, rfl⟩
          obtain ⟨z151, hz151⟩ : ∃ z : Int64, c127_rv * c142_rv = z := ⟨_, rfl⟩
          obtain ⟨z152, hz152⟩ : ∃ z : UInt64, FP.l2d z151 = z := ⟨_, rfl⟩
          obtain ⟨c171_z30, hc171_z30⟩ : ∃ z : Int32, c38_c18_rv - c38_c6_rv = z := ⟨_, rfl⟩
          obtain ⟨c171_z31, hc171_z31⟩ : ∃ z : UInt64, FP.i2d c171_z30 = z := ⟨_, rfl⟩
          obtain ⟨c171_z40, hc171_z40⟩ : ∃ z : Int32, c38_c25_rv - c38_c11_rv = z := ⟨_, rfl⟩
          obtain ⟨c171_z41, hc171_z41⟩ : ∃ z : UInt64, FP.i2d c171_z40 = z := ⟨_, rfl⟩
          obtain ⟨c171_z42, hc171_z42⟩ : ∃ z : UInt64, FP.dmul c171_z31 c171_z41 = z := ⟨_, rfl⟩
          obtain ⟨c171_rv, hc171_rv⟩ : ∃ z : UInt64, (if c38_c6_rv < c38_c18_rv then (if c38_c11_rv < c38_c25_rv then c171_z42 else FP.dconst0) else FP.dconst0) = z := ⟨_, rfl⟩
          obtain ⟨z176, hz176⟩ : ∃ z : Int32, cmpValue (FP.dcmp c171_rv z152) .l = z := ⟨_, rfl⟩
          obtain ⟨_, _, ⟨T77, L77, k77, n77⟩, -, X77, ⟨Lc77, hQ77, ql77, qy77, qz77⟩, st77⟩ := Jvm.LawKit.callS X75 hx (y := (⟨"com/example/vetrino/vetrino/OverlapOfPinLaw", "meets", "(III)Z"⟩ : MethodName)) hown (mvT hZ (hw _ (List.mem_of_getElem? (i := 47) rfl))) (mvT hZ (hw _ (List.mem_of_getElem? (i := 48) rfl))) (mvT hZ (hw _ (List.mem_of_getElem? (i := 3) rfl))) (mvT hZ (hw _ (List.mem_of_getElem? (i := 49) rfl))) (by decide) (backOf (W := 0) (rm10 l Z a0 hw [] c17_z58 p2 z3 c102_z1 c102_z5 c102_z6 c102_z11 c102_z17 c102_z18 c102_z25 c102_z32 c102_z33 c102_rv T3.heap n0 (Nat.le_trans Z0 K3q.1) hc102_z1 hc102_z5 hc102_z6 hc102_z11 hc102_z17 hc102_z18 hc102_z25 hc102_z32 hc102_z33 hc102_rv) hZ (hw _ (List.mem_of_getElem? (i := 49) rfl)) (hw _ (List.mem_of_getElem? (i := 3) rfl)) (by decide) (by decide)) (g := (mkF m 102 #[.val (.int p0), .val (.int p1), .val (.int p2), .val (.int p3), .val (.int p4), .val (.int p5), .val (.int z3), .val (.int z9), .val (.int c17_z58), .val (.int c27_z58), .val (.ref rb3_b1), .val (.int (0 : Int32)), .val (.int (1 : Int32)), .unset, .unset, .unset, .unset, .unset, .unset, .unset, .unset] [(.int z3), (.int p2), (.int c17_z58)])) rfl (by rw [hml]; rfl) (argsL := [(.int c17_z58), (.int p2), (.int z3)]) (rest := []) (lenOf pd_5 rfl) rfl (by show 2 * 0 + _ ≤ _; exact Nat.le_of_eq rfl) (hb hby at_102) (fun _ _ => ⟨rfl, e75, (by decide : 1 + 0 ≤ _), (by decide : 4 + 0 ≤ _)⟩)
          dsimp only [Pt.U, Pt.locs, Pt.cells, Pt.slots] at X77 ql77 qy77 qz77 st77 hQ77
          subst ql77 qy77 qz77
          obtain ⟨rfl, N77q, e77⟩ := hQ77
          have N77 := Fr.app N75 N77q
          obtain ⟨_, _, ⟨T78, L78, k78, n78⟩, -, X78, ⟨Lc78, hQ78, ql78, qy78, qz78⟩, st78⟩ := Jvm.LawKit.callS X77 hx (y := (⟨"com/example/vetrino/vetrino/OverlapOfPinLaw", "meets", "(III)Z"⟩ : MethodName)) hown (mvT hZ (hw _ (List.mem_of_getElem? (i := 47) rfl))) (mvT hZ (hw _ (List.mem_of_getElem? (i := 48) rfl))) (mvT hZ (hw _ (List.mem_of_getElem? (i := 3) rfl))) (mvT hZ (hw _ (List.mem_of_getElem? (i := 49) rfl))) (by decide) (backOf (W := 0) (rm10 l Z a0 hw [] c27_z58 p3 z9 c112_z1 c112_z5 c112_z6 c112_z11 c112_z17 c112_z18 c112_z25 c112_z32 c112_z33 c112_rv T3.heap n0 (Nat.le_trans Z0 K3q.1) hc112_z1 hc112_z5 hc112_z6 hc112_z11 hc112_z17 hc112_z18 hc112_z25 hc112_z32 hc112_z33 hc112_rv) hZ (hw _ (List.mem_of_getElem? (i := 49) rfl)) (hw _ (List.mem_of_getElem? (i := 3) rfl)) (by decide) (by decide)) (g := (mkF m 112 #[.val (.int p0), .val (.int p1), .val (.int p2), .val (.int p3), .val (.int p4), .val (.int p5), .val (.int z3), .val (.int z9), .val (.int c17_z58), .val (.int c27_z58), .val (.ref rb3_b1), .val (.int (0 : Int32)), .val (.int (1 : Int32)), .val (.int c102_rv), .unset, .unset, .unset, .unset, .unset, .unset, .unset] [(.int z9), (.int p3), (.int c27_z58)])) rfl (by rw [hml]; rfl) (argsL := [(.int c27_z58), (.int p3), (.int z9)]) (rest := []) (lenOf pd_5 rfl) rfl (by show 2 * 0 + _ ≤ _; exact Nat.le_of_eq rfl) (hb hby at_112) (fun _ _ => ⟨rfl, e77, (by decide : 1 + 0 ≤ _), (by decide : 4 + 0 ≤ _)⟩)
          dsimp only [Pt.U, Pt.locs, Pt.cells, Pt.slots] at X78 ql78 qy78 qz78 st78 hQ78
          subst ql78 qy78 qz78
          obtain ⟨rfl, N78q, e78⟩ := hQ78
          have N78 := Fr.app N77 N78q
          obtain ⟨_, _, ⟨T79, L79, k79, n79⟩, -, X79, ⟨Lc79, hQ79, ql79, qy79, qz79⟩, st79⟩ := Jvm.LawKit.callS X78 hx (y := (⟨"java/lang/Math", "abs", "(J)J"⟩ : MethodName)) hown (mvT hZ (hw _ (List.mem_of_getElem? (i := 50) rfl))) (mvT hZ (hw _ (List.mem_of_getElem? (i := 51) rfl))) (mvT hZ (hw _ (List.mem_of_getElem? (i := 13) rfl))) (mvT hZ (hw _ (List.mem_of_getElem? (i := 52) rfl))) (by decide) (backOf (W := 4) (rm11 l Z a0 hw [] z122 c123_z2 c123_z7 c123_rv T3.heap n0 (Nat.le_trans Z0 K3q.1) hc123_z2 hc123_z7 hc123_rv) hZ (hw _ (List.mem_of_getElem? (i := 52) rfl)) (hw _ (List.mem_of_getElem? (i := 13) rfl)) (by decide) (by decide)) (g := (mkF m 123 #[.val (.int p0), .val (.int p1), .val (.int p2), .val (.int p3), .val (.int p4), .val (.int p5), .val (.int z3), .val (.int z9), .val (.int c17_z58), .val (.int c27_z58), .val (.ref rb3_b1), .val (.int (0 : Int32)), .val (.int (1 : Int32)), .val (.int c102_rv), .val (.int c112_rv), .unset, .unset, .unset, .unset, .unset, .unset] [(.long z122), (.long z120), (.long (0 : Int64))])) rfl (by rw [hml]; rfl) (argsL := [(.long z122)]) (rest := [(.long z120), (.long (0 : Int64))]) (lenOf pd_6 rfl) rfl (by show 2 * 0 + _ ≤ _; exact Nat.le_of_eq rfl) (hb hby at_123) (fun _ _ => ⟨rfl, e78, (by decide : 1 + 0 ≤ _), (by decide : 4 + 0 ≤ _)⟩)
          dsimp only [Pt.U, Pt.locs, Pt.cells, Pt.slots] at X79 ql79 qy79 qz79 st79 hQ79
          subst ql79 qy79 qz79
          obtain ⟨rfl, N79q, e79⟩ := hQ79
          have N79 := Fr.app N78 N79q
          obtain ⟨_, _, ⟨T80, L80, k80, n80⟩, -, X80, ⟨Lc80, hQ80, ql80, qy80, qz80⟩, st80⟩ := Jvm.LawKit.callS X79 hx (y := (⟨"java/lang/Math", "max", "(JJ)J"⟩ : MethodName)) hown (mvT hZ (hw _ (List.mem_of_getElem? (i := 53) rfl))) (mvT hZ (hw _ (List.mem_of_getElem? (i := 54) rfl))) (mvT hZ (hw _ (List.mem_of_getElem? (i := 13) rfl))) (mvT hZ (hw _ (List.mem_of_getElem? (i := 55) rfl))) (by decide) (backOf (W := 0) (rm12 l Z a0 hw [] (0 : Int64) z126 c127_z2 c127_rv T3.heap n0 (Nat.le_trans Z0 K3q.1) hc127_z2 hc127_rv) hZ (hw _ (List.mem_of_getElem? (i := 55) rfl)) (hw _ (List.mem_of_getElem? (i := 13) rfl)) (by decide) (by decide)) (g := (mkF m 127 #[.val (.int p0), .val (.int p1), .val (.int p2), .val (.int p3), .val (.int p4), .val (.int p5), .val (.int z3), .val (.int z9), .val (.int c17_z58), .val (.int c27_z58), .val (.ref rb3_b1), .val (.int (0 : Int32)), .val (.int (1 : Int32)), .val (.int c102_rv), .val (.int c112_rv), .unset, .unset, .unset, .unset, .unset, .unset] [(.long z126), (.long (0 : Int64))])) rfl (by rw [hml]; rfl) (argsL := [(.long (0 : Int64)), (.long z126)]) (rest := []) (lenOf pd_7 rfl) rfl (by show 2 * 0 + _ ≤ _; exact Nat.le_of_eq rfl) (hb hby at_127) (fun _ _ => ⟨rfl, e79, (by decide : 1 + 0 ≤ _), (by decide : 4 + 0 ≤ _)⟩)
          dsimp only [Pt.U, Pt.locs, Pt.cells, Pt.slots] at X80 ql80 qy80 qz80 st80 hQ80
          subst ql80 qy80 qz80
          obtain ⟨rfl, N80q, e80⟩ := hQ80
          have N80 := Fr.app N79 N80q
          obtain ⟨_, _, ⟨T81, L81, k81, n81⟩, -, X81, ⟨Lc81, hQ81, ql81, qy81, qz81⟩, st81⟩ := Jvm.LawKit.callS X80 hx (y := (⟨"java/lang/Math", "abs", "(J)J"⟩ : MethodName)) hown (mvT hZ (hw _ (List.mem_of_getElem? (i := 50) rfl))) (mvT hZ (hw _ (List.mem_of_getElem? (i := 51) rfl))) (mvT hZ (hw _ (List.mem_of_getElem? (i := 13) rfl))) (mvT hZ (hw _ (List.mem_of_getElem? (i := 52) rfl))) (by decide) (backOf (W := 4) (rm11 l Z a0 hw [] z137 c138_z2 c138_z7 c138_rv T3.heap n0 (Nat.le_trans Z0 K3q.1) hc138_z2 hc138_z7 hc138_rv) hZ (hw _ (List.mem_of_getElem? (i := 52) rfl)) (hw _ (List.mem_of_getElem? (i := 13) rfl)) (by decide) (by decide)) (g := (mkF m 138 #[.val (.int p0), .val (.int p1), .val (.int p2), .val (.int p3), .val (.int p4), .val (.int p5), .val (.int z3), .val (.int z9), .val (.int c17_z58), .val (.int c27_z58), .val (.ref rb3_b1), .val (.int (0 : Int32)), .val (.int (1 : Int32)), .val (.int c102_rv), .val (.int c112_rv), .val (.long c127_rv), .second, .unset, .unset, .unset, .unset] [(.long z137), (.long z135), (.long (0 : Int64))])) rfl (by rw [hml]; rfl) (argsL := [(.long z137)]) (rest := [(.long z135), (.long (0 : Int64))]) (lenOf pd_6 rfl) rfl (by show 2 * 0 + _ ≤ _; exact Nat.le_of_eq rfl) (hb hby at_138) (fun _ _ => ⟨rfl, e80, (by decide : 1 + 0 ≤ _), (by decide : 4 + 0 ≤ _)⟩)
          dsimp only [Pt.U, Pt.locs, Pt.cells, Pt.slots] at X81 ql81 qy81 qz81 st81 hQ81
          subst ql81 qy81 qz81
          obtain ⟨rfl, N81q, e81⟩ := hQ81
          have N81 := Fr.app N80 N81q
          obtain ⟨_, _, ⟨T82, L82, k82, n82⟩, -, X82, ⟨Lc82, hQ82, ql82, qy82, qz82⟩, st82⟩ := Jvm.LawKit.callS X81 hx (y := (⟨"java/lang/Math", "max", "(JJ)J"⟩ : MethodName)) hown (mvT hZ (hw _ (List.mem_of_getElem? (i := 53) rfl))) (mvT hZ (hw _ (List.mem_of_getElem? (i := 54) rfl))) (mvT hZ (hw _ (List.mem_of_getElem? (i := 13) rfl))) (mvT hZ (hw _ (List.mem_of_getElem? (i := 55) rfl))) (by decide) (backOf (W := 0) (rm12 l Z a0 hw [] (0 : Int64) z141 c142_z2 c142_rv T3.heap n0 (Nat.le_trans Z0 K3q.1) hc142_z2 hc142_rv) hZ (hw _ (List.mem_of_getElem? (i := 55) rfl)) (hw _ (List.mem_of_getElem? (i := 13) rfl)) (by decide) (by decide)) (g := (mkF m 142 #[.val (.int p0), .val (.int p1), .val (.int p2), .val (.int p3), .val (.int p4), .val (.int p5), .val (.int z3), .val (.int z9), .val (.int c17_z58), .val (.int c27_z58), .val (.ref rb3_b1), .val (.int (0 : Int32)), .val (.int (1 : Int32)), .val (.int c102_rv), .val (.int c112_rv), .val (.long c127_rv), .second, .unset, .unset, .unset, .unset] [(.long z141), (.long (0 : Int64))])) rfl (by rw [hml]; rfl) (argsL := [(.long (0 : Int64)), (.long z141)]) (rest := []) (lenOf pd_7 rfl) rfl (by show 2 * 0 + _ ≤ _; exact Nat.le_of_eq rfl) (hb hby at_142) (fun _ _ => ⟨rfl, e81, (by decide : 1 + 0 ≤ _), (by decide : 4 + 0 ≤ _)⟩)
          dsimp only [Pt.U, Pt.locs, Pt.cells, Pt.slots] at X82 ql82 qy82 qz82 st82 hQ82
          subst ql82 qy82 qz82
          obtain ⟨rfl, N82q, e82⟩ := hQ82
          have N82 := Fr.app N81 N82q
          have br159 : (0 : Int32) = c102_rv := by
            rw [meet hA hc38_z17 hc38_c6_rv hc38_c18_rv hc102_z1 hc102_z5 hc102_z6 hc102_z11 hc102_z17 hc102_z18 hc102_z25 hc102_z32 hc102_z33 hc102_rv, if_neg hb50, if_neg hb60]
          have br166 : (1 : Int32) = c112_rv := by
            rw [meet hB hc38_z24 hc38_c11_rv hc38_c25_rv hc112_z1 hc112_z5 hc112_z6 hc112_z11 hc112_z17 hc112_z18 hc112_z25 hc112_z32 hc112_z33 hc112_rv, if_neg hb77, if_pos hb87]
          obtain ⟨c171_nn42, fin⟩ := area (side hA hc38_z17 hc38_c6_rv hc38_c18_rv hz120 hz122 hc123_z2 hc123_z7 hc123_rv hz126 hc127_z2 hc127_rv) (side hB hc38_z24 hc38_c11_rv hc38_c25_rv hz135 hz137 hc138_z2 hc138_z7 hc138_rv hz141 hc142_z2 hc142_rv) hc171_z30 hc171_z40 hc171_z31 hc171_z41 hc171_z42 hz151 hz152 hc171_rv
          obtain ⟨cq83, kq83, q83a, q83b, q83c⟩ := isOf hZ e82 Q3_0
          obtain ⟨_, _, ⟨T83, L83, k83, n83⟩, -, X83, ⟨Lc83, hQ83, ql83, qy83, qz83⟩, st83⟩ := X82.virtualBack hx (y := (⟨"com/example/vetrino/vetrino/Overlap", "area", "()D"⟩ : MethodName)) (z := (⟨"com/example/vetrino/vetrino/Overlap", "area", "()D"⟩ : MethodName)) hown (mvT hZ (hw _ (List.mem_of_getElem? (i := 56) rfl))) (mvT hZ (hw _ (List.mem_of_getElem? (i := 57) rfl))) (notFace_of_selects (args := #[]) (mvT hZ (hw _ (List.mem_of_getElem? (i := 59) rfl)))) (mvT hZ (hw _ (List.mem_of_getElem? (i := 59) rfl))) (mvT hZ (hw _ (List.mem_of_getElem? (i := 58) rfl))) (by decide) (backOf (W := 0) (rm13 l Z a0 hw [] rb3_b1 c38_c18_rv c38_c6_rv c38_c25_rv c38_c11_rv c171_z30 c171_z31 c171_z40 c171_z41 c171_z42 c171_rv T3.heap n0 (Nat.le_trans Z0 K3q.1) Q3_3 Q3_1 Q3_4 Q3_2 hc171_z30 hc171_z31 hc171_z40 hc171_z41 hc171_z42 hc171_rv c171_nn42) hZ (hw _ (List.mem_of_getElem? (i := 60) rfl)) (hw _ (List.mem_of_getElem? (i := 7) rfl)) (by decide) (by decide)) q83a q83c (g := (mkF m 171 #[.val (.int p0), .val (.int p1), .val (.int p2), .val (.int p3), .val (.int p4), .val (.int p5), .val (.int z3), .val (.int z9), .val (.int c17_z58), .val (.int c27_z58), .val (.ref rb3_b1), .val (.int (0 : Int32)), .val (.int (1 : Int32)), .val (.int c102_rv), .val (.int c112_rv), .val (.long c127_rv), .second, .val (.long c142_rv), .second, .val (.double z152), .second] [(.ref rb3_b1)])) rfl (by rw [hml]; rfl) (Steps.refl _) (argsL := []) (rest := []) (lenOf pd_8 rfl) rfl (by show 2 * 0 + _ ≤ _; exact Nat.le_of_eq rfl) (hb hby at_171) (fun _ _ => ⟨rfl, e82, (by decide : 1 + 0 ≤ _), (by decide : 4 + 0 ≤ _)⟩)
          dsimp only [Pt.U, Pt.locs, Pt.cells, Pt.slots] at X83 ql83 qy83 qz83 st83 hQ83
          subst ql83 qy83 qz83
          obtain ⟨rfl, N83q, e83⟩ := hQ83
          have N83 := Fr.app N82 N83q
          have br177 : z176 = 0 := hz176.symm.trans fin
          have c84 : ∀ t, Steps p.tables e below (T83.setTop (mkF m 185 #[.val (.int p0), .val (.int p1), .val (.int p2), .val (.int p3), .val (.int p4), .val (.int p5), .val (.int z3), .val (.int z9), .val (.int c17_z58), .val (.int c27_z58), .val (.ref rb3_b1), .val (.int (0 : Int32)), .val (.int (1 : Int32)), .val (.int c102_rv), .val (.int c112_rv), .val (.long c127_rv), .second, .val (.long c142_rv), .second, .val (.double z152), .second] [(.int (1 : Int32))])) t → Steps p.tables e below (s₁.setTop (entryFrame m #[(.int p0), (.int p1), (.int p2), (.int p3), (.int p4), (.int p5)] maxLocals)) t := by
            intro t k
            refine c76 t ?_
            show Steps p.tables e below (T75.setTop (mkF m 87 #[.val (.int p0), .val (.int p1), .val (.int p2), .val (.int p3), .val (.int p4), .val (.int p5), .val (.int z3), .val (.int z9), .val (.int c17_z58), .val (.int c27_z58), .val (.ref rb3_b1), .val (.int (0 : Int32)), .unset, .unset, .unset, .unset, .unset, .unset, .unset, .unset, .unset] [(.int c38_c25_rv), (.int c27_z58)])) _
            refine XS.icmpNo X75.here hx rfl (hb hby at_87) rfl (Jvm.Free.XT.ii_ge_f hb87) ?_
            show Steps p.tables e below (T75.setTop (mkF m 90 #[.val (.int p0), .val (.int p1), .val (.int p2), .val (.int p3), .val (.int p4), .val (.int p5), .val (.int z3), .val (.int z9), .val (.int c17_z58), .val (.int c27_z58), .val (.ref rb3_b1), .val (.int (0 : Int32)), .unset, .unset, .unset, .unset, .unset, .unset, .unset, .unset, .unset] [])) _
            refine XS.iconst X75.here hx rfl (hb hby at_90) ?_
            show Steps p.tables e below (T75.setTop (mkF m 91 #[.val (.int p0), .val (.int p1), .val (.int p2), .val (.int p3), .val (.int p4), .val (.int p5), .val (.int z3), .val (.int z9), .val (.int c17_z58), .val (.int c27_z58), .val (.ref rb3_b1), .val (.int (0 : Int32)), .unset, .unset, .unset, .unset, .unset, .unset, .unset, .unset, .unset] [(.int (1 : Int32))])) _
            refine XS.goto X75.here hx rfl (pc0 := 91) (pc' := 95) rfl (hb hby at_91) (by decide) (by decide) ?_
            show Steps p.tables e below (T75.setTop (mkF m 95 #[.val (.int p0), .val (.int p1), .val (.int p2), .val (.int p3), .val (.int p4), .val (.int p5), .val (.int z3), .val (.int z9), .val (.int c17_z58), .val (.int c27_z58), .val (.ref rb3_b1), .val (.int (0 : Int32)), .unset, .unset, .unset, .unset, .unset, .unset, .unset, .unset, .unset] [(.int (1 : Int32))])) _
            refine XS.istore X75.here hx rfl (hb hby at_95) rfl (l' := #[.val (.int p0), .val (.int p1), .val (.int p2), .val (.int p3), .val (.int p4), .val (.int p5), .val (.int z3), .val (.int z9), .val (.int c17_z58), .val (.int c27_z58), .val (.ref rb3_b1), .val (.int (0 : Int32)), .val (.int (1 : Int32)), .unset, .unset, .unset, .unset, .unset, .unset, .unset, .unset]) rfl ?_
            show Steps p.tables e below (T75.setTop (mkF m 97 #[.val (.int p0), .val (.int p1), .val (.int p2), .val (.int p3), .val (.int p4), .val (.int p5), .val (.int z3), .val (.int z9), .val (.int c17_z58), .val (.int c27_z58), .val (.ref rb3_b1), .val (.int (0 : Int32)), .val (.int (1 : Int32)), .unset, .unset, .unset, .unset, .unset, .unset, .unset, .unset] [])) _
            refine XS.iload X75.here hx rfl (hb hby at_97) rfl ?_
            show Steps p.tables e below (T75.setTop (mkF m 99 #[.val (.int p0), .val (.int p1), .val (.int p2), .val (.int p3), .val (.int p4), .val (.int p5), .val (.int z3), .val (.int z9), .val (.int c17_z58), .val (.int c27_z58), .val (.ref rb3_b1), .val (.int (0 : Int32)), .val (.int (1 : Int32)), .unset, .unset, .unset, .unset, .unset, .unset, .unset, .unset] [(.int c17_z58)])) _
            refine XS.iloadN X75.here hx rfl (hb hby at_99) rfl ?_
            show Steps p.tables e below (T75.setTop (mkF m 100 #[.val (.int p0), .val (.int p1), .val (.int p2), .val (.int p3), .val (.int p4), .val (.int p5), .val (.int z3), .val (.int z9), .val (.int c17_z58), .val (.int c27_z58), .val (.ref rb3_b1), .val (.int (0 : Int32)), .val (.int (1 : Int32)), .unset, .unset, .unset, .unset, .unset, .unset, .unset, .unset] [(.int p2), (.int c17_z58)])) _
            refine XS.iload X75.here hx rfl (hb hby at_100) rfl ?_
            show Steps p.tables e below (T75.setTop (mkF m 102 #[.val (.int p0), .val (.int p1), .val (.int p2), .val (.int p3), .val (.int p4), .val (.int p5), .val (.int z3), .val (.int z9), .val (.int c17_z58), .val (.int c27_z58), .val (.ref rb3_b1), .val (.int (0 : Int32)), .val (.int (1 : Int32)), .unset, .unset, .unset, .unset, .unset, .unset, .unset, .unset] [(.int z3), (.int p2), (.int c17_z58)])) _
            refine st77 _ ?_
            show Steps p.tables e below (T77.setTop (mkF m 105 #[.val (.int p0), .val (.int p1), .val (.int p2), .val (.int p3), .val (.int p4), .val (.int p5), .val (.int z3), .val (.int z9), .val (.int c17_z58), .val (.int c27_z58), .val (.ref rb3_b1), .val (.int (0 : Int32)), .val (.int (1 : Int32)), .unset, .unset, .unset, .unset, .unset, .unset, .unset, .unset] [(.int c102_rv)])) _
            refine XS.istore X77.here hx rfl (hb hby at_105) rfl (l' := #[.val (.int p0), .val (.int p1), .val (.int p2), .val (.int p3), .val (.int p4), .val (.int p5), .val (.int z3), .val (.int z9), .val (.int c17_z58), .val (.int c27_z58), .val (.ref rb3_b1), .val (.int (0 : Int32)), .val (.int (1 : Int32)), .val (.int c102_rv), .unset, .unset, .unset, .unset, .unset, .unset, .unset]) rfl ?_
            show Steps p.tables e below (T77.setTop (mkF m 107 #[.val (.int p0), .val (.int p1), .val (.int p2), .val (.int p3), .val (.int p4), .val (.int p5), .val (.int z3), .val (.int z9), .val (.int c17_z58), .val (.int c27_z58), .val (.ref rb3_b1), .val (.int (0 : Int32)), .val (.int (1 : Int32)), .val (.int c102_rv), .unset, .unset, .unset, .unset, .unset, .unset, .unset] [])) _
            refine XS.iload X77.here hx rfl (hb hby at_107) rfl ?_
            show Steps p.tables e below (T77.setTop (mkF m 109 #[.val (.int p0), .val (.int p1), .val (.int p2), .val (.int p3), .val (.int p4), .val (.int p5), .val (.int z3), .val (.int z9), .val (.int c17_z58), .val (.int c27_z58), .val (.ref rb3_b1), .val (.int (0 : Int32)), .val (.int (1 : Int32)), .val (.int c102_rv), .unset, .unset, .unset, .unset, .unset, .unset, .unset] [(.int c27_z58)])) _
            refine XS.iloadN X77.here hx rfl (hb hby at_109) rfl ?_
            show Steps p.tables e below (T77.setTop (mkF m 110 #[.val (.int p0), .val (.int p1), .val (.int p2), .val (.int p3), .val (.int p4), .val (.int p5), .val (.int z3), .val (.int z9), .val (.int c17_z58), .val (.int c27_z58), .val (.ref rb3_b1), .val (.int (0 : Int32)), .val (.int (1 : Int32)), .val (.int c102_rv), .unset, .unset, .unset, .unset, .unset, .unset, .unset] [(.int p3), (.int c27_z58)])) _
            refine XS.iload X77.here hx rfl (hb hby at_110) rfl ?_
            show Steps p.tables e below (T77.setTop (mkF m 112 #[.val (.int p0), .val (.int p1), .val (.int p2), .val (.int p3), .val (.int p4), .val (.int p5), .val (.int z3), .val (.int z9), .val (.int c17_z58), .val (.int c27_z58), .val (.ref rb3_b1), .val (.int (0 : Int32)), .val (.int (1 : Int32)), .val (.int c102_rv), .unset, .unset, .unset, .unset, .unset, .unset, .unset] [(.int z9), (.int p3), (.int c27_z58)])) _
            refine st78 _ ?_
            show Steps p.tables e below (T78.setTop (mkF m 115 #[.val (.int p0), .val (.int p1), .val (.int p2), .val (.int p3), .val (.int p4), .val (.int p5), .val (.int z3), .val (.int z9), .val (.int c17_z58), .val (.int c27_z58), .val (.ref rb3_b1), .val (.int (0 : Int32)), .val (.int (1 : Int32)), .val (.int c102_rv), .unset, .unset, .unset, .unset, .unset, .unset, .unset] [(.int c112_rv)])) _
            refine XS.istore X78.here hx rfl (hb hby at_115) rfl (l' := #[.val (.int p0), .val (.int p1), .val (.int p2), .val (.int p3), .val (.int p4), .val (.int p5), .val (.int z3), .val (.int z9), .val (.int c17_z58), .val (.int c27_z58), .val (.ref rb3_b1), .val (.int (0 : Int32)), .val (.int (1 : Int32)), .val (.int c102_rv), .val (.int c112_rv), .unset, .unset, .unset, .unset, .unset, .unset]) rfl ?_
            show Steps p.tables e below (T78.setTop (mkF m 117 #[.val (.int p0), .val (.int p1), .val (.int p2), .val (.int p3), .val (.int p4), .val (.int p5), .val (.int z3), .val (.int z9), .val (.int c17_z58), .val (.int c27_z58), .val (.ref rb3_b1), .val (.int (0 : Int32)), .val (.int (1 : Int32)), .val (.int c102_rv), .val (.int c112_rv), .unset, .unset, .unset, .unset, .unset, .unset] [])) _
            refine XS.lconst X78.here hx rfl (hb hby at_117) ?_
            show Steps p.tables e below (T78.setTop (mkF m 118 #[.val (.int p0), .val (.int p1), .val (.int p2), .val (.int p3), .val (.int p4), .val (.int p5), .val (.int z3), .val (.int z9), .val (.int c17_z58), .val (.int c27_z58), .val (.ref rb3_b1), .val (.int (0 : Int32)), .val (.int (1 : Int32)), .val (.int c102_rv), .val (.int c112_rv), .unset, .unset, .unset, .unset, .unset, .unset] [(.long (0 : Int64))])) _
            refine XS.iload X78.here hx rfl (hb hby at_118) rfl ?_
            show Steps p.tables e below (T78.setTop (mkF m 120 #[.val (.int p0), .val (.int p1), .val (.int p2), .val (.int p3), .val (.int p4), .val (.int p5), .val (.int z3), .val (.int z9), .val (.int c17_z58), .val (.int c27_z58), .val (.ref rb3_b1), .val (.int (0 : Int32)), .val (.int (1 : Int32)), .val (.int c102_rv), .val (.int c112_rv), .unset, .unset, .unset, .unset, .unset, .unset] [(.int z3), (.long (0 : Int64))])) _
            refine Jvm.OwnK.i2l X78.here hx rfl (hb hby at_120) rfl hz120 ?_
            show Steps p.tables e below (T78.setTop (mkF m 121 #[.val (.int p0), .val (.int p1), .val (.int p2), .val (.int p3), .val (.int p4), .val (.int p5), .val (.int z3), .val (.int z9), .val (.int c17_z58), .val (.int c27_z58), .val (.ref rb3_b1), .val (.int (0 : Int32)), .val (.int (1 : Int32)), .val (.int c102_rv), .val (.int c112_rv), .unset, .unset, .unset, .unset, .unset, .unset] [(.long z120), (.long (0 : Int64))])) _
            refine XS.iloadN X78.here hx rfl (hb hby at_121) rfl ?_
            show Steps p.tables e below (T78.setTop (mkF m 122 #[.val (.int p0), .val (.int p1), .val (.int p2), .val (.int p3), .val (.int p4), .val (.int p5), .val (.int z3), .val (.int z9), .val (.int c17_z58), .val (.int c27_z58), .val (.ref rb3_b1), .val (.int (0 : Int32)), .val (.int (1 : Int32)), .val (.int c102_rv), .val (.int c112_rv), .unset, .unset, .unset, .unset, .unset, .unset] [(.int p2), (.long z120), (.long (0 : Int64))])) _
            refine Jvm.OwnK.i2l X78.here hx rfl (hb hby at_122) rfl hz122 ?_
            show Steps p.tables e below (T78.setTop (mkF m 123 #[.val (.int p0), .val (.int p1), .val (.int p2), .val (.int p3), .val (.int p4), .val (.int p5), .val (.int z3), .val (.int z9), .val (.int c17_z58), .val (.int c27_z58), .val (.ref rb3_b1), .val (.int (0 : Int32)), .val (.int (1 : Int32)), .val (.int c102_rv), .val (.int c112_rv), .unset, .unset, .unset, .unset, .unset, .unset] [(.long z122), (.long z120), (.long (0 : Int64))])) _
            refine st79 _ ?_
            show Steps p.tables e below (T79.setTop (mkF m 126 #[.val (.int p0), .val (.int p1), .val (.int p2), .val (.int p3), .val (.int p4), .val (.int p5), .val (.int z3), .val (.int z9), .val (.int c17_z58), .val (.int c27_z58), .val (.ref rb3_b1), .val (.int (0 : Int32)), .val (.int (1 : Int32)), .val (.int c102_rv), .val (.int c112_rv), .unset, .unset, .unset, .unset, .unset, .unset] [(.long c123_rv), (.long z120), (.long (0 : Int64))])) _
            refine Jvm.OwnK.lsub X79.here hx rfl (hb hby at_126) rfl hz126 ?_
            show Steps p.tables e below (T79.setTop (mkF m 127 #[.val (.int p0), .val (.int p1), .val (.int p2), .val (.int p3), .val (.int p4), .val (.int p5), .val (.int z3), .val (.int z9), .val (.int c17_z58), .val (.int c27_z58), .val (.ref rb3_b1), .val (.int (0 : Int32)), .val (.int (1 : Int32)), .val (.int c102_rv), .val (.int c112_rv), .unset, .unset, .unset, .unset, .unset, .unset] [(.long z126), (.long (0 : Int64))])) _
            refine st80 _ ?_
            show Steps p.tables e below (T80.setTop (mkF m 130 #[.val (.int p0), .val (.int p1), .val (.int p2), .val (.int p3), .val (.int p4), .val (.int p5), .val (.int z3), .val (.int z9), .val (.int c17_z58), .val (.int c27_z58), .val (.ref rb3_b1), .val (.int (0 : Int32)), .val (.int (1 : Int32)), .val (.int c102_rv), .val (.int c112_rv), .unset, .unset, .unset, .unset, .unset, .unset] [(.long c127_rv)])) _
            refine XS.lstore X80.here hx rfl (hb hby at_130) rfl (l' := #[.val (.int p0), .val (.int p1), .val (.int p2), .val (.int p3), .val (.int p4), .val (.int p5), .val (.int z3), .val (.int z9), .val (.int c17_z58), .val (.int c27_z58), .val (.ref rb3_b1), .val (.int (0 : Int32)), .val (.int (1 : Int32)), .val (.int c102_rv), .val (.int c112_rv), .val (.long c127_rv), .second, .unset, .unset, .unset, .unset]) rfl ?_
            show Steps p.tables e below (T80.setTop (mkF m 132 #[.val (.int p0), .val (.int p1), .val (.int p2), .val (.int p3), .val (.int p4), .val (.int p5), .val (.int z3), .val (.int z9), .val (.int c17_z58), .val (.int c27_z58), .val (.ref rb3_b1), .val (.int (0 : Int32)), .val (.int (1 : Int32)), .val (.int c102_rv), .val (.int c112_rv), .val (.long c127_rv), .second, .unset, .unset, .unset, .unset] [])) _
            refine XS.lconst X80.here hx rfl (hb hby at_132) ?_
            show Steps p.tables e below (T80.setTop (mkF m 133 #[.val (.int p0), .val (.int p1), .val (.int p2), .val (.int p3), .val (.int p4), .val (.int p5), .val (.int z3), .val (.int z9), .val (.int c17_z58), .val (.int c27_z58), .val (.ref rb3_b1), .val (.int (0 : Int32)), .val (.int (1 : Int32)), .val (.int c102_rv), .val (.int c112_rv), .val (.long c127_rv), .second, .unset, .unset, .unset, .unset] [(.long (0 : Int64))])) _
            refine XS.iload X80.here hx rfl (hb hby at_133) rfl ?_
            show Steps p.tables e below (T80.setTop (mkF m 135 #[.val (.int p0), .val (.int p1), .val (.int p2), .val (.int p3), .val (.int p4), .val (.int p5), .val (.int z3), .val (.int z9), .val (.int c17_z58), .val (.int c27_z58), .val (.ref rb3_b1), .val (.int (0 : Int32)), .val (.int (1 : Int32)), .val (.int c102_rv), .val (.int c112_rv), .val (.long c127_rv), .second, .unset, .unset, .unset, .unset] [(.int z9), (.long (0 : Int64))])) _
            refine Jvm.OwnK.i2l X80.here hx rfl (hb hby at_135) rfl hz135 ?_
            show Steps p.tables e below (T80.setTop (mkF m 136 #[.val (.int p0), .val (.int p1), .val (.int p2), .val (.int p3), .val (.int p4), .val (.int p5), .val (.int z3), .val (.int z9), .val (.int c17_z58), .val (.int c27_z58), .val (.ref rb3_b1), .val (.int (0 : Int32)), .val (.int (1 : Int32)), .val (.int c102_rv), .val (.int c112_rv), .val (.long c127_rv), .second, .unset, .unset, .unset, .unset] [(.long z135), (.long (0 : Int64))])) _
            refine XS.iloadN X80.here hx rfl (hb hby at_136) rfl ?_
            show Steps p.tables e below (T80.setTop (mkF m 137 #[.val (.int p0), .val (.int p1), .val (.int p2), .val (.int p3), .val (.int p4), .val (.int p5), .val (.int z3), .val (.int z9), .val (.int c17_z58), .val (.int c27_z58), .val (.ref rb3_b1), .val (.int (0 : Int32)), .val (.int (1 : Int32)), .val (.int c102_rv), .val (.int c112_rv), .val (.long c127_rv), .second, .unset, .unset, .unset, .unset] [(.int p3), (.long z135), (.long (0 : Int64))])) _
            refine Jvm.OwnK.i2l X80.here hx rfl (hb hby at_137) rfl hz137 ?_
            show Steps p.tables e below (T80.setTop (mkF m 138 #[.val (.int p0), .val (.int p1), .val (.int p2), .val (.int p3), .val (.int p4), .val (.int p5), .val (.int z3), .val (.int z9), .val (.int c17_z58), .val (.int c27_z58), .val (.ref rb3_b1), .val (.int (0 : Int32)), .val (.int (1 : Int32)), .val (.int c102_rv), .val (.int c112_rv), .val (.long c127_rv), .second, .unset, .unset, .unset, .unset] [(.long z137), (.long z135), (.long (0 : Int64))])) _
            refine st81 _ ?_
            show Steps p.tables e below (T81.setTop (mkF m 141 #[.val (.int p0), .val (.int p1), .val (.int p2), .val (.int p3), .val (.int p4), .val (.int p5), .val (.int z3), .val (.int z9), .val (.int c17_z58), .val (.int c27_z58), .val (.ref rb3_b1), .val (.int (0 : Int32)), .val (.int (1 : Int32)), .val (.int c102_rv), .val (.int c112_rv), .val (.long c127_rv), .second, .unset, .unset, .unset, .unset] [(.long c138_rv), (.long z135), (.long (0 : Int64))])) _
            refine Jvm.OwnK.lsub X81.here hx rfl (hb hby at_141) rfl hz141 ?_
            show Steps p.tables e below (T81.setTop (mkF m 142 #[.val (.int p0), .val (.int p1), .val (.int p2), .val (.int p3), .val (.int p4), .val (.int p5), .val (.int z3), .val (.int z9), .val (.int c17_z58), .val (.int c27_z58), .val (.ref rb3_b1), .val (.int (0 : Int32)), .val (.int (1 : Int32)), .val (.int c102_rv), .val (.int c112_rv), .val (.long c127_rv), .second, .unset, .unset, .unset, .unset] [(.long z141), (.long (0 : Int64))])) _
            refine st82 _ ?_
            show Steps p.tables e below (T82.setTop (mkF m 145 #[.val (.int p0), .val (.int p1), .val (.int p2), .val (.int p3), .val (.int p4), .val (.int p5), .val (.int z3), .val (.int z9), .val (.int c17_z58), .val (.int c27_z58), .val (.ref rb3_b1), .val (.int (0 : Int32)), .val (.int (1 : Int32)), .val (.int c102_rv), .val (.int c112_rv), .val (.long c127_rv), .second, .unset, .unset, .unset, .unset] [(.long c142_rv)])) _
            refine XS.lstore X82.here hx rfl (hb hby at_145) rfl (l' := #[.val (.int p0), .val (.int p1), .val (.int p2), .val (.int p3), .val (.int p4), .val (.int p5), .val (.int z3), .val (.int z9), .val (.int c17_z58), .val (.int c27_z58), .val (.ref rb3_b1), .val (.int (0 : Int32)), .val (.int (1 : Int32)), .val (.int c102_rv), .val (.int c112_rv), .val (.long c127_rv), .second, .val (.long c142_rv), .second, .unset, .unset]) rfl ?_
            show Steps p.tables e below (T82.setTop (mkF m 147 #[.val (.int p0), .val (.int p1), .val (.int p2), .val (.int p3), .val (.int p4), .val (.int p5), .val (.int z3), .val (.int z9), .val (.int c17_z58), .val (.int c27_z58), .val (.ref rb3_b1), .val (.int (0 : Int32)), .val (.int (1 : Int32)), .val (.int c102_rv), .val (.int c112_rv), .val (.long c127_rv), .second, .val (.long c142_rv), .second, .unset, .unset] [])) _
            refine XS.lload X82.here hx rfl (hb hby at_147) rfl ?_
            show Steps p.tables e below (T82.setTop (mkF m 149 #[.val (.int p0), .val (.int p1), .val (.int p2), .val (.int p3), .val (.int p4), .val (.int p5), .val (.int z3), .val (.int z9), .val (.int c17_z58), .val (.int c27_z58), .val (.ref rb3_b1), .val (.int (0 : Int32)), .val (.int (1 : Int32)), .val (.int c102_rv), .val (.int c112_rv), .val (.long c127_rv), .second, .val (.long c142_rv), .second, .unset, .unset] [(.long c127_rv)])) _
            refine XS.lload X82.here hx rfl (hb hby at_149) rfl ?_
            show Steps p.tables e below (T82.setTop (mkF m 151 #[.val (.int p0), .val (.int p1), .val (.int p2), .val (.int p3), .val (.int p4), .val (.int p5), .val (.int z3), .val (.int z9), .val (.int c17_z58), .val (.int c27_z58), .val (.ref rb3_b1), .val (.int (0 : Int32)), .val (.int (1 : Int32)), .val (.int c102_rv), .val (.int c112_rv), .val (.long c127_rv), .second, .val (.long c142_rv), .second, .unset, .unset] [(.long c142_rv), (.long c127_rv)])) _
            refine Jvm.OwnK.lmul X82.here hx rfl (hb hby at_151) rfl hz151 ?_
            show Steps p.tables e below (T82.setTop (mkF m 152 #[.val (.int p0), .val (.int p1), .val (.int p2), .val (.int p3), .val (.int p4), .val (.int p5), .val (.int z3), .val (.int z9), .val (.int c17_z58), .val (.int c27_z58), .val (.ref rb3_b1), .val (.int (0 : Int32)), .val (.int (1 : Int32)), .val (.int c102_rv), .val (.int c112_rv), .val (.long c127_rv), .second, .val (.long c142_rv), .second, .unset, .unset] [(.long z151)])) _
            refine XS.l2dS X82.here hx rfl (hb hby at_152) rfl hz152 ?_
            show Steps p.tables e below (T82.setTop (mkF m 153 #[.val (.int p0), .val (.int p1), .val (.int p2), .val (.int p3), .val (.int p4), .val (.int p5), .val (.int z3), .val (.int z9), .val (.int c17_z58), .val (.int c27_z58), .val (.ref rb3_b1), .val (.int (0 : Int32)), .val (.int (1 : Int32)), .val (.int c102_rv), .val (.int c112_rv), .val (.long c127_rv), .second, .val (.long c142_rv), .second, .unset, .unset] [(.double z152)])) _
            refine XS.dstore X82.here hx rfl (hb hby at_153) rfl (l' := #[.val (.int p0), .val (.int p1), .val (.int p2), .val (.int p3), .val (.int p4), .val (.int p5), .val (.int z3), .val (.int z9), .val (.int c17_z58), .val (.int c27_z58), .val (.ref rb3_b1), .val (.int (0 : Int32)), .val (.int (1 : Int32)), .val (.int c102_rv), .val (.int c112_rv), .val (.long c127_rv), .second, .val (.long c142_rv), .second, .val (.double z152), .second]) rfl ?_
            show Steps p.tables e below (T82.setTop (mkF m 155 #[.val (.int p0), .val (.int p1), .val (.int p2), .val (.int p3), .val (.int p4), .val (.int p5), .val (.int z3), .val (.int z9), .val (.int c17_z58), .val (.int c27_z58), .val (.ref rb3_b1), .val (.int (0 : Int32)), .val (.int (1 : Int32)), .val (.int c102_rv), .val (.int c112_rv), .val (.long c127_rv), .second, .val (.long c142_rv), .second, .val (.double z152), .second] [])) _
            refine XS.iload X82.here hx rfl (hb hby at_155) rfl ?_
            show Steps p.tables e below (T82.setTop (mkF m 157 #[.val (.int p0), .val (.int p1), .val (.int p2), .val (.int p3), .val (.int p4), .val (.int p5), .val (.int z3), .val (.int z9), .val (.int c17_z58), .val (.int c27_z58), .val (.ref rb3_b1), .val (.int (0 : Int32)), .val (.int (1 : Int32)), .val (.int c102_rv), .val (.int c112_rv), .val (.long c127_rv), .second, .val (.long c142_rv), .second, .val (.double z152), .second] [(.int (0 : Int32))])) _
            refine XS.iload X82.here hx rfl (hb hby at_157) rfl ?_
            show Steps p.tables e below (T82.setTop (mkF m 159 #[.val (.int p0), .val (.int p1), .val (.int p2), .val (.int p3), .val (.int p4), .val (.int p5), .val (.int z3), .val (.int z9), .val (.int c17_z58), .val (.int c27_z58), .val (.ref rb3_b1), .val (.int (0 : Int32)), .val (.int (1 : Int32)), .val (.int c102_rv), .val (.int c112_rv), .val (.long c127_rv), .second, .val (.long c142_rv), .second, .val (.double z152), .second] [(.int c102_rv), (.int (0 : Int32))])) _
            refine XS.icmpNo X82.here hx rfl (hb hby at_159) rfl (Jvm.Free.XT.ii_ne_f br159) ?_
            show Steps p.tables e below (T82.setTop (mkF m 162 #[.val (.int p0), .val (.int p1), .val (.int p2), .val (.int p3), .val (.int p4), .val (.int p5), .val (.int z3), .val (.int z9), .val (.int c17_z58), .val (.int c27_z58), .val (.ref rb3_b1), .val (.int (0 : Int32)), .val (.int (1 : Int32)), .val (.int c102_rv), .val (.int c112_rv), .val (.long c127_rv), .second, .val (.long c142_rv), .second, .val (.double z152), .second] [])) _
            refine XS.iload X82.here hx rfl (hb hby at_162) rfl ?_
            show Steps p.tables e below (T82.setTop (mkF m 164 #[.val (.int p0), .val (.int p1), .val (.int p2), .val (.int p3), .val (.int p4), .val (.int p5), .val (.int z3), .val (.int z9), .val (.int c17_z58), .val (.int c27_z58), .val (.ref rb3_b1), .val (.int (0 : Int32)), .val (.int (1 : Int32)), .val (.int c102_rv), .val (.int c112_rv), .val (.long c127_rv), .second, .val (.long c142_rv), .second, .val (.double z152), .second] [(.int (1 : Int32))])) _
            refine XS.iload X82.here hx rfl (hb hby at_164) rfl ?_
            show Steps p.tables e below (T82.setTop (mkF m 166 #[.val (.int p0), .val (.int p1), .val (.int p2), .val (.int p3), .val (.int p4), .val (.int p5), .val (.int z3), .val (.int z9), .val (.int c17_z58), .val (.int c27_z58), .val (.ref rb3_b1), .val (.int (0 : Int32)), .val (.int (1 : Int32)), .val (.int c102_rv), .val (.int c112_rv), .val (.long c127_rv), .second, .val (.long c142_rv), .second, .val (.double z152), .second] [(.int c112_rv), (.int (1 : Int32))])) _
            refine XS.icmpNo X82.here hx rfl (hb hby at_166) rfl (Jvm.Free.XT.ii_ne_f br166) ?_
            show Steps p.tables e below (T82.setTop (mkF m 169 #[.val (.int p0), .val (.int p1), .val (.int p2), .val (.int p3), .val (.int p4), .val (.int p5), .val (.int z3), .val (.int z9), .val (.int c17_z58), .val (.int c27_z58), .val (.ref rb3_b1), .val (.int (0 : Int32)), .val (.int (1 : Int32)), .val (.int c102_rv), .val (.int c112_rv), .val (.long c127_rv), .second, .val (.long c142_rv), .second, .val (.double z152), .second] [])) _
            refine XS.aload X82.here hx rfl (hb hby at_169) rfl rfl ?_
            show Steps p.tables e below (T82.setTop (mkF m 171 #[.val (.int p0), .val (.int p1), .val (.int p2), .val (.int p3), .val (.int p4), .val (.int p5), .val (.int z3), .val (.int z9), .val (.int c17_z58), .val (.int c27_z58), .val (.ref rb3_b1), .val (.int (0 : Int32)), .val (.int (1 : Int32)), .val (.int c102_rv), .val (.int c112_rv), .val (.long c127_rv), .second, .val (.long c142_rv), .second, .val (.double z152), .second] [(.ref rb3_b1)])) _
            refine st83.trans ?_
            show Steps p.tables e below (T83.setTop (mkF m 174 #[.val (.int p0), .val (.int p1), .val (.int p2), .val (.int p3), .val (.int p4), .val (.int p5), .val (.int z3), .val (.int z9), .val (.int c17_z58), .val (.int c27_z58), .val (.ref rb3_b1), .val (.int (0 : Int32)), .val (.int (1 : Int32)), .val (.int c102_rv), .val (.int c112_rv), .val (.long c127_rv), .second, .val (.long c142_rv), .second, .val (.double z152), .second] [(.double c171_rv)])) _
            refine XS.dload X83.here hx rfl (hb hby at_174) rfl ?_
            show Steps p.tables e below (T83.setTop (mkF m 176 #[.val (.int p0), .val (.int p1), .val (.int p2), .val (.int p3), .val (.int p4), .val (.int p5), .val (.int z3), .val (.int z9), .val (.int c17_z58), .val (.int c27_z58), .val (.ref rb3_b1), .val (.int (0 : Int32)), .val (.int (1 : Int32)), .val (.int c102_rv), .val (.int c112_rv), .val (.long c127_rv), .second, .val (.long c142_rv), .second, .val (.double z152), .second] [(.double z152), (.double c171_rv)])) _
            refine XS.dcmpS X83.here hx rfl (hb hby at_176) rfl hz176 ?_
            show Steps p.tables e below (T83.setTop (mkF m 177 #[.val (.int p0), .val (.int p1), .val (.int p2), .val (.int p3), .val (.int p4), .val (.int p5), .val (.int z3), .val (.int z9), .val (.int c17_z58), .val (.int c27_z58), .val (.ref rb3_b1), .val (.int (0 : Int32)), .val (.int (1 : Int32)), .val (.int c102_rv), .val (.int c112_rv), .val (.long c127_rv), .second, .val (.long c142_rv), .second, .val (.double z152), .second] [(.int z176)])) _
            refine XS.ifNo X83.here hx rfl (hb hby at_177) rfl (Jvm.Free.XT.i0_ne_f br177) ?_
            show Steps p.tables e below (T83.setTop (mkF m 180 #[.val (.int p0), .val (.int p1), .val (.int p2), .val (.int p3), .val (.int p4), .val (.int p5), .val (.int z3), .val (.int z9), .val (.int c17_z58), .val (.int c27_z58), .val (.ref rb3_b1), .val (.int (0 : Int32)), .val (.int (1 : Int32)), .val (.int c102_rv), .val (.int c112_rv), .val (.long c127_rv), .second, .val (.long c142_rv), .second, .val (.double z152), .second] [])) _
            refine XS.iconst X83.here hx rfl (hb hby at_180) ?_
            show Steps p.tables e below (T83.setTop (mkF m 181 #[.val (.int p0), .val (.int p1), .val (.int p2), .val (.int p3), .val (.int p4), .val (.int p5), .val (.int z3), .val (.int z9), .val (.int c17_z58), .val (.int c27_z58), .val (.ref rb3_b1), .val (.int (0 : Int32)), .val (.int (1 : Int32)), .val (.int c102_rv), .val (.int c112_rv), .val (.long c127_rv), .second, .val (.long c142_rv), .second, .val (.double z152), .second] [(.int (1 : Int32))])) _
            refine XS.goto X83.here hx rfl (pc0 := 181) (pc' := 185) rfl (hb hby at_181) (by decide) (by decide) ?_
            exact k
          obtain ⟨fs, hr, hrun, hended, hW, hsame⟩ := X83.leave (v := some (.int (1 : Int32))) (fun h => by rw [Bd.returns] at h; cases h)
          refine ⟨_, _, c84 _ ?_, hrun, hended, _, _, rfl, ?_, ⟨_, rfl⟩, hW, hsame.mono (by decide) (by decide)⟩
          · show Steps p.tables e below (T83.setTop (mkF m 185 #[.val (.int p0), .val (.int p1), .val (.int p2), .val (.int p3), .val (.int p4), .val (.int p5), .val (.int z3), .val (.int z9), .val (.int c17_z58), .val (.int c27_z58), .val (.ref rb3_b1), .val (.int (0 : Int32)), .val (.int (1 : Int32)), .val (.int c102_rv), .val (.int c112_rv), .val (.long c127_rv), .second, .val (.long c142_rv), .second, .val (.double z152), .second] [(.int (1 : Int32))])) _
            exact retOut X83 hx Bd.returns rfl (Or.inl ⟨rfl, by simp, _, rfl⟩) (hb hby at_185) hr
          · show Q0 n0 _ T83.heap _
            rw [e83]
            exact ⟨rfl, by first | assumption | exact N0⟩
        · skip
          obtain ⟨c102_z1, hc102_z1⟩ : ∃ z : Int64, c17_z58.toInt64 = z := ⟨_, rfl⟩
          obtain ⟨c102_z5, hc102_z5⟩ : ∃ z : Int64, p2.toInt64 = z := ⟨_, rfl⟩
          obtain ⟨c102_z6, hc102_z6⟩ : ∃ z : Int64, c102_z1 - c102_z5 = z := ⟨_, rfl⟩
          obtain ⟨c102_z11, hc102_z11⟩ : ∃ z : Int32, lcmpW (0 : Int64) c102_z1 = z := ⟨_, rfl⟩
          obtain ⟨c102_z17, hc102_z17⟩ : ∃ z : Int64, z3.toInt64 = z := ⟨_, rfl⟩
          obtain ⟨c102_z18, hc102_z18⟩ : ∃ z : Int32, lcmpW c102_z1 c102_z17 = z := ⟨_, rfl⟩
          obtain ⟨c102_z25, hc102_z25⟩ : ∃ z : Int32, lcmpW (0 : Int64) c102_z6 = z := ⟨_, rfl⟩
          obtain ⟨c102_z32, hc102_z32⟩ : ∃ z : Int64, z3.toInt64 = z := ⟨_, rfl⟩
          obtain ⟨c102_z33, hc102_z33⟩ : ∃ z : Int32, lcmpW c102_z6 c102_z32 = z := ⟨_, rfl⟩
          obtain ⟨c102_rv, hc102_rv⟩ : ∃ z : Int32, (if (0 : Int32) < c102_z11 then (0 : Int32) else (if c102_z18 < (0 : Int32) then (if (0 : Int32) < c102_z25 then (0 : Int32) else (if c102_z33 < (0 : Int32) then (1 : Int32) else (0 : Int32))) else (0 : Int32))) = z := ⟨_, rfl⟩
          obtain ⟨c112_z1, hc112_z1⟩ : ∃ z : Int64, c27_z58.toInt64 = z := ⟨_, rfl⟩
          obtain ⟨c112_z5, hc112_z5⟩ : ∃ z : Int64, p3.toInt64 = z := ⟨_, rfl⟩
          obtain ⟨c112_z6, hc112_z6⟩ : ∃ z : Int64, c112_z1 - c112_z5 = z := ⟨_, rfl⟩
          obtain ⟨c112_z11, hc112_z11⟩ : ∃ z : Int32, lcmpW (0 : Int64) c112_z1 = z := ⟨_, rfl⟩
          obtain ⟨c112_z17, hc112_z17⟩ : ∃ z : Int64, z9.toInt64 = z := ⟨_, rfl⟩
          obtain ⟨c112_z18, hc112_z18⟩ : ∃ z : Int32, lcmpW c112_z1 c112_z17 = z := ⟨_, rfl⟩
          obtain ⟨c112_z25, hc112_z25⟩ : ∃ z : Int32, lcmpW (0 : Int64) c112_z6 = z := ⟨_, rfl⟩
          obtain ⟨c112_z32, hc112_z32⟩ : ∃ z : Int64, z9.toInt64 = z := ⟨_, rfl⟩
          obtain ⟨c112_z33, hc112_z33⟩ : ∃ z : Int32, lcmpW c112_z6 c112_z32 = z := ⟨_, rfl⟩
          obtain ⟨c112_rv, hc112_rv⟩ : ∃ z : Int32, (if (0 : Int32) < c112_z11 then (0 : Int32) else (if c112_z18 < (0 : Int32) then (if (0 : Int32) < c112_z25 then (0 : Int32) else (if c112_z33 < (0 : Int32) then (1 : Int32) else (0 : Int32))) else (0 : Int32))) = z := ⟨_, rfl⟩
          obtain ⟨z120, hz120⟩ : ∃ z : Int64, z3.toInt64 = z := ⟨_, rfl⟩
          obtain ⟨z122, hz122⟩ : ∃ z : Int64, p2.toInt64 = z := ⟨_, rfl⟩
          obtain ⟨c123_z2, hc123_z2⟩ : ∃ z : Int32, lcmpW z122 (0 : Int64) = z := ⟨_, rfl⟩
          obtain ⟨c123_z7, hc123_z7⟩ : ∃ z : Int64, -z122 = z := ⟨_, rfl⟩
          obtain ⟨c123_rv, hc123_rv⟩ : ∃ z : Int64, (if c123_z2 < (0 : Int32) then c123_z7 else z122) = z := ⟨_, rfl⟩
          obtain ⟨z126, hz126⟩ : ∃ z : Int64, z120 - c123_rv = z := ⟨_, rfl⟩
          obtain ⟨c127_z2, hc127_z2⟩ : ∃ z : Int32, lcmpW (0 : Int64) z126 = z := ⟨_, rfl⟩
          obtain ⟨c127_rv, hc127_rv⟩ : ∃ z : Int64, (if c127_z2 < (0 : Int32) then z126 else (0 : Int64)) = z := ⟨_, rfl⟩
          obtain ⟨z135, hz135⟩ : ∃ z : Int64, z9.toInt64 = z := ⟨_, rfl⟩
          obtain ⟨z137, hz137⟩ : ∃ z : Int64, p3.toInt64 = z := ⟨_, rfl⟩
          obtain ⟨c138_z2, hc138_z2⟩ : ∃ z : Int32, lcmpW z137 (0 : Int64) = z := ⟨_, rfl⟩
          obtain ⟨c138_z7, hc138_z7⟩ : ∃ z : Int64, -z137 = z := ⟨_, rfl⟩
          obtain ⟨c138_rv, hc138_rv⟩ : ∃ z : Int64, (if c138_z2 < (0 : Int32) then c138_z7 else z137) = z := ⟨_, rfl⟩
          obtain ⟨z141, hz141⟩ : ∃ z : Int64, z135 - c138_rv = z := ⟨_, rfl⟩
          obtain ⟨c142_z2, hc142_z2⟩ : ∃ z : Int32, lcmpW (0 : Int64) z141 = z := ⟨_, rfl⟩
          obtain ⟨c142_rv, hc142_rv⟩ : ∃ z : Int64, (if c142_z2 < (0 : Int32) then z141 else (0 : Int64)) = z := ⟨_, rfl⟩
          obtain ⟨z151, hz151⟩ : ∃ z : Int64, c127_rv * c142_rv = z := ⟨_, rfl⟩
          obtain ⟨z152, hz152⟩ : ∃ z : UInt64, FP.l2d z151 = z := ⟨_, rfl⟩
          obtain ⟨c171_z30, hc171_z30⟩ : ∃ z : Int32, c38_c18_rv - c38_c6_rv = z := ⟨_, rfl⟩
          obtain ⟨c171_z31, hc171_z31⟩ : ∃ z : UInt64, FP.i2d c171_z30 = z := ⟨_, rfl⟩
          obtain ⟨c171_z40, hc171_z40⟩ : ∃ z : Int32, c38_c25_rv - c38_c11_rv = z := ⟨_, rfl⟩
          obtain ⟨c171_z41, hc171_z41⟩ : ∃ z : UInt64, FP.i2d c171_z40 = z := ⟨_, rfl⟩
          obtain ⟨c171_z42, hc171_z42⟩ : ∃ z : UInt64, FP.dmul c171_z31 c171_z41 = z := ⟨_, rfl⟩
          obtain ⟨c171_rv, hc171_rv⟩ : ∃ z : UInt64, (if c38_c6_rv < c38_c18_rv then (if c38_c11_rv < c38_c25_rv then c171_z42 else FP.dconst0) else FP.dconst0) = z := ⟨_, rfl⟩
          obtain ⟨z176, hz176⟩ : ∃ z : Int32, cmpValue (FP.dcmp c171_rv z152) .l = z := ⟨_, rfl⟩
          obtain ⟨_, _, ⟨T85, L85, k85, n85⟩, -, X85, ⟨Lc85, hQ85, ql85, qy85, qz85⟩, st85⟩ := Jvm.LawKit.callS X75 hx (y := (⟨"com/example/vetrino/vetrino/OverlapOfPinLaw", "meets", "(III)Z"⟩ : MethodName)) hown (mvT hZ (hw _ (List.mem_of_getElem? (i := 47) rfl))) (mvT hZ (hw _ (List.mem_of_getElem? (i := 48) rfl))) (mvT hZ (hw _ (List.mem_of_getElem? (i := 3) rfl))) (mvT hZ (hw _ (List.mem_of_getElem? (i := 49) rfl))) (by decide) (backOf (W := 0) (rm10 l Z a0 hw [] c17_z58 p2 z3 c102_z1 c102_z5 c102_z6 c102_z11 c102_z17 c102_z18 c102_z25 c102_z32 c102_z33 c102_rv T3.heap n0 (Nat.le_trans Z0 K3q.1) hc102_z1 hc102_z5 hc102_z6 hc102_z11 hc102_z17 hc102_z18 hc102_z25 hc102_z32 hc102_z33 hc102_rv) hZ (hw _ (List.mem_of_getElem? (i := 49) rfl)) (hw _ (List.mem_of_getElem? (i := 3) rfl)) (by decide) (by decide)) (g := (mkF m 102 #[.val (.int p0), .val (.int p1), .val (.int p2), .val (.int p3), .val (.int p4), .val (.int p5), .val (.int z3), .val (.int z9), .val (.int c17_z58), .val (.int c27_z58), .val (.ref rb3_b1), .val (.int (0 : Int32)), .val (.int (0 : Int32)), .unset, .unset, .unset, .unset, .unset, .unset, .unset, .unset] [(.int z3), (.int p2), (.int c17_z58)])) rfl (by rw [hml]; rfl) (argsL := [(.int c17_z58), (.int p2), (.int z3)]) (rest := []) (lenOf pd_5 rfl) rfl (by show 2 * 0 + _ ≤ _; exact Nat.le_of_eq rfl) (hb hby at_102) (fun _ _ => ⟨rfl, e75, (by decide : 1 + 0 ≤ _), (by decide : 4 + 0 ≤ _)⟩)
          dsimp only [Pt.U, Pt.locs, Pt.cells, Pt.slots] at X85 ql85 qy85 qz85 st85 hQ85
          subst ql85 qy85 qz85
          obtain ⟨rfl, N85q, e85⟩ := hQ85
          have N85 := Fr.app N75 N85q
          obtain ⟨_, _, ⟨T86, L86, k86, n86⟩, -, X86, ⟨Lc86, hQ86, ql86, qy86, qz86⟩, st86⟩ := Jvm.LawKit.callS X85 hx (y := (⟨"com/example/vetrino/vetrino/OverlapOfPinLaw", "meets", "(III)Z"⟩ : MethodName)) hown (mvT hZ (hw _ (List.mem_of_getElem? (i := 47) rfl))) (mvT hZ (hw _ (List.mem_of_getElem? (i := 48) rfl))) (mvT hZ (hw _ (List.mem_of_getElem? (i := 3) rfl))) (mvT hZ (hw _ (List.mem_of_getElem? (i := 49) rfl))) (by decide) (backOf (W := 0) (rm10 l Z a0 hw [] c27_z58 p3 z9 c112_z1 c112_z5 c112_z6 c112_z11 c112_z17 c112_z18 c112_z25 c112_z32 c112_z33 c112_rv T3.heap n0 (Nat.le_trans Z0 K3q.1) hc112_z1 hc112_z5 hc112_z6 hc112_z11 hc112_z17 hc112_z18 hc112_z25 hc112_z32 hc112_z33 hc112_rv) hZ (hw _ (List.mem_of_getElem? (i := 49) rfl)) (hw _ (List.mem_of_getElem? (i := 3) rfl)) (by decide) (by decide)) (g := (mkF m 112 #[.val (.int p0), .val (.int p1), .val (.int p2), .val (.int p3), .val (.int p4), .val (.int p5), .val (.int z3), .val (.int z9), .val (.int c17_z58), .val (.int c27_z58), .val (.ref rb3_b1), .val (.int (0 : Int32)), .val (.int (0 : Int32)), .val (.int c102_rv), .unset, .unset, .unset, .unset, .unset, .unset, .unset] [(.int z9), (.int p3), (.int c27_z58)])) rfl (by rw [hml]; rfl) (argsL := [(.int c27_z58), (.int p3), (.int z9)]) (rest := []) (lenOf pd_5 rfl) rfl (by show 2 * 0 + _ ≤ _; exact Nat.le_of_eq rfl) (hb hby at_112) (fun _ _ => ⟨rfl, e85, (by decide : 1 + 0 ≤ _), (by decide : 4 + 0 ≤ _)⟩)
          dsimp only [Pt.U, Pt.locs, Pt.cells, Pt.slots] at X86 ql86 qy86 qz86 st86 hQ86
          subst ql86 qy86 qz86
          obtain ⟨rfl, N86q, e86⟩ := hQ86
          have N86 := Fr.app N85 N86q
          obtain ⟨_, _, ⟨T87, L87, k87, n87⟩, -, X87, ⟨Lc87, hQ87, ql87, qy87, qz87⟩, st87⟩ := Jvm.LawKit.callS X86 hx (y := (⟨"java/lang/Math", "abs", "(J)J"⟩ : MethodName)) hown (mvT hZ (hw _ (List.mem_of_getElem? (i := 50) rfl))) (mvT hZ (hw _ (List.mem_of_getElem? (i := 51) rfl))) (mvT hZ (hw _ (List.mem_of_getElem? (i := 13) rfl))) (mvT hZ (hw _ (List.mem_of_getElem? (i := 52) rfl))) (by decide) (backOf (W := 4) (rm11 l Z a0 hw [] z122 c123_z2 c123_z7 c123_rv T3.heap n0 (Nat.le_trans Z0 K3q.1) hc123_z2 hc123_z7 hc123_rv) hZ (hw _ (List.mem_of_getElem? (i := 52) rfl)) (hw _ (List.mem_of_getElem? (i := 13) rfl)) (by decide) (by decide)) (g := (mkF m 123 #[.val (.int p0), .val (.int p1), .val (.int p2), .val (.int p3), .val (.int p4), .val (.int p5), .val (.int z3), .val (.int z9), .val (.int c17_z58), .val (.int c27_z58), .val (.ref rb3_b1), .val (.int (0 : Int32)), .val (.int (0 : Int32)), .val (.int c102_rv), .val (.int c112_rv), .unset, .unset, .unset, .unset, .unset, .unset] [(.long z122), (.long z120), (.long (0 : Int64))])) rfl (by rw [hml]; rfl) (argsL := [(.long z122)]) (rest := [(.long z120), (.long (0 : Int64))]) (lenOf pd_6 rfl) rfl (by show 2 * 0 + _ ≤ _; exact Nat.le_of_eq rfl) (hb hby at_123) (fun _ _ => ⟨rfl, e86, (by decide : 1 + 0 ≤ _), (by decide : 4 + 0 ≤ _)⟩)
          dsimp only [Pt.U, Pt.locs, Pt.cells, Pt.slots] at X87 ql87 qy87 qz87 st87 hQ87
          subst ql87 qy87 qz87
          obtain ⟨rfl, N87q, e87⟩ := hQ87
          have N87 := Fr.app N86 N87q
          obtain ⟨_, _, ⟨T88, L88, k88, n88⟩, -, X88, ⟨Lc88, hQ88, ql88, qy88, qz88⟩, st88⟩ := Jvm.LawKit.callS X87 hx (y := (⟨"java/lang/Math", "max", "(JJ)J"⟩ : MethodName)) hown (mvT hZ (hw _ (List.mem_of_getElem? (i := 53) rfl))) (mvT hZ (hw _ (List.mem_of_getElem? (i := 54) rfl))) (mvT hZ (hw _ (List.mem_of_getElem? (i := 13) rfl))) (mvT hZ (hw _ (List.mem_of_getElem? (i := 55) rfl))) (by decide) (backOf (W := 0) (rm12 l Z a0 hw [] (0 : Int64) z126 c127_z2 c127_rv T3.heap n0 (Nat.le_trans Z0 K3q.1) hc127_z2 hc127_rv) hZ (hw _ (List.mem_of_getElem? (i := 55) rfl)) (hw _ (List.mem_of_getElem? (i := 13) rfl)) (by decide) (by decide)) (g := (mkF m 127 #[.val (.int p0), .val (.int p1), .val (.int p2), .val (.int p3), .val (.int p4), .val (.int p5), .val (.int z3), .val (.int z9), .val (.int c17_z58), .val (.int c27_z58), .val (.ref rb3_b1), .val (.int (0 : Int32)), .val (.int (0 : Int32)), .val (.int c102_rv), .val (.int c112_rv), .unset, .unset, .unset, .unset, .unset, .unset] [(.long z126), (.long (0 : Int64))])) rfl (by rw [hml]; rfl) (argsL := [(.long (0 : Int64)), (.long z126)]) (rest := []) (lenOf pd_7 rfl) rfl (by show 2 * 0 + _ ≤ _; exact Nat.le_of_eq rfl) (hb hby at_127) (fun _ _ => ⟨rfl, e87, (by decide : 1 + 0 ≤ _), (by decide : 4 + 0 ≤ _)⟩)
          dsimp only [Pt.U, Pt.locs, Pt.cells, Pt.slots] at X88 ql88 qy88 qz88 st88 hQ88
          subst ql88 qy88 qz88
          obtain ⟨rfl, N88q, e88⟩ := hQ88
          have N88 := Fr.app N87 N88q
          obtain ⟨_, _, ⟨T89, L89, k89, n89⟩, -, X89, ⟨Lc89, hQ89, ql89, qy89, qz89⟩, st89⟩ := Jvm.LawKit.callS X88 hx (y := (⟨"java/lang/Math", "abs", "(J)J"⟩ : MethodName)) hown (mvT hZ (hw _ (List.mem_of_getElem? (i := 50) rfl))) (mvT hZ (hw _ (List.mem_of_getElem? (i := 51) rfl))) (mvT hZ (hw _ (List.mem_of_getElem? (i := 13) rfl))) (mvT hZ (hw _ (List.mem_of_getElem? (i := 52) rfl))) (by decide) (backOf (W := 4) (rm11 l Z a0 hw [] z137 c138_z2 c138_z7 c138_rv T3.heap n0 (Nat.le_trans Z0 K3q.1) hc138_z2 hc138_z7 hc138_rv) hZ (hw _ (List.mem_of_getElem? (i := 52) rfl)) (hw _ (List.mem_of_getElem? (i := 13) rfl)) (by decide) (by decide)) (g := (mkF m 138 #[.val (.int p0), .val (.int p1), .val (.int p2), .val (.int p3), .val (.int p4), .val (.int p5), .val (.int z3), .val (.int z9), .val (.int c17_z58), .val (.int c27_z58), .val (.ref rb3_b1), .val (.int (0 : Int32)), .val (.int (0 : Int32)), .val (.int c102_rv), .val (.int c112_rv), .val (.long c127_rv), .second, .unset, .unset, .unset, .unset] [(.long z137), (.long z135), (.long (0 : Int64))])) rfl (by rw [hml]; rfl) (argsL := [(.long z137)]) (rest := [(.long z135), (.long (0 : Int64))]) (lenOf pd_6 rfl) rfl (by show 2 * 0 + _ ≤ _; exact Nat.le_of_eq rfl) (hb hby at_138) (fun _ _ => ⟨rfl, e88, (by decide : 1 + 0 ≤ _), (by decide : 4 + 0 ≤ _)⟩)
          dsimp only [Pt.U, Pt.locs, Pt.cells, Pt.slots] at X89 ql89 qy89 qz89 st89 hQ89
          subst ql89 qy89 qz89
          obtain ⟨rfl, N89q, e89⟩ := hQ89
          have N89 := Fr.app N88 N89q
          obtain ⟨_, _, ⟨T90, L90, k90, n90⟩, -, X90, ⟨Lc90, hQ90, ql90, qy90, qz90⟩, st90⟩ := Jvm.LawKit.callS X89 hx (y := (⟨"java/lang/Math", "max", "(JJ)J"⟩ : MethodName)) hown (mvT hZ (hw _ (List.mem_of_getElem? (i := 53) rfl))) (mvT hZ (hw _ (List.mem_of_getElem? (i := 54) rfl))) (mvT hZ (hw _ (List.mem_of_getElem? (i := 13) rfl))) (mvT hZ (hw _ (List.mem_of_getElem? (i := 55) rfl))) (by decide) (backOf (W := 0) (rm12 l Z a0 hw [] (0 : Int64) z141 c142_z2 c142_rv T3.heap n0 (Nat.le_trans Z0 K3q.1) hc142_z2 hc142_rv) hZ (hw _ (List.mem_of_getElem? (i := 55) rfl)) (hw _ (List.mem_of_getElem? (i := 13) rfl)) (by decide) (by decide)) (g := (mkF m 142 #[.val (.int p0), .val (.int p1), .val (.int p2), .val (.int p3), .val (.int p4), .val (.int p5), .val (.int z3), .val (.int z9), .val (.int c17_z58), .val (.int c27_z58), .val (.ref rb3_b1), .val (.int (0 : Int32)), .val (.int (0 : Int32)), .val (.int c102_rv), .val (.int c112_rv), .val (.long c127_rv), .second, .unset, .unset, .unset, .unset] [(.long z141), (.long (0 : Int64))])) rfl (by rw [hml]; rfl) (argsL := [(.long (0 : Int64)), (.long z141)]) (rest := []) (lenOf pd_7 rfl) rfl (by show 2 * 0 + _ ≤ _; exact Nat.le_of_eq rfl) (hb hby at_142) (fun _ _ => ⟨rfl, e89, (by decide : 1 + 0 ≤ _), (by decide : 4 + 0 ≤ _)⟩)
          dsimp only [Pt.U, Pt.locs, Pt.cells, Pt.slots] at X90 ql90 qy90 qz90 st90 hQ90
          subst ql90 qy90 qz90
          obtain ⟨rfl, N90q, e90⟩ := hQ90
          have N90 := Fr.app N89 N90q
          have br159 : (0 : Int32) = c102_rv := by
            rw [meet hA hc38_z17 hc38_c6_rv hc38_c18_rv hc102_z1 hc102_z5 hc102_z6 hc102_z11 hc102_z17 hc102_z18 hc102_z25 hc102_z32 hc102_z33 hc102_rv, if_neg hb50, if_neg hb60]
          have br166 : (0 : Int32) = c112_rv := by
            rw [meet hB hc38_z24 hc38_c11_rv hc38_c25_rv hc112_z1 hc112_z5 hc112_z6 hc112_z11 hc112_z17 hc112_z18 hc112_z25 hc112_z32 hc112_z33 hc112_rv, if_neg hb77, if_neg hb87]
          obtain ⟨c171_nn42, fin⟩ := area (side hA hc38_z17 hc38_c6_rv hc38_c18_rv hz120 hz122 hc123_z2 hc123_z7 hc123_rv hz126 hc127_z2 hc127_rv) (side hB hc38_z24 hc38_c11_rv hc38_c25_rv hz135 hz137 hc138_z2 hc138_z7 hc138_rv hz141 hc142_z2 hc142_rv) hc171_z30 hc171_z40 hc171_z31 hc171_z41 hc171_z42 hz151 hz152 hc171_rv
          obtain ⟨cq91, kq91, q91a, q91b, q91c⟩ := isOf hZ e90 Q3_0
          obtain ⟨_, _, ⟨T91, L91, k91, n91⟩, -, X91, ⟨Lc91, hQ91, ql91, qy91, qz91⟩, st91⟩ := X90.virtualBack hx (y := (⟨"com/example/vetrino/vetrino/Overlap", "area", "()D"⟩ : MethodName)) (z := (⟨"com/example/vetrino/vetrino/Overlap", "area", "()D"⟩ : MethodName)) hown (mvT hZ (hw _ (List.mem_of_getElem? (i := 56) rfl))) (mvT hZ (hw _ (List.mem_of_getElem? (i := 57) rfl))) (notFace_of_selects (args := #[]) (mvT hZ (hw _ (List.mem_of_getElem? (i := 59) rfl)))) (mvT hZ (hw _ (List.mem_of_getElem? (i := 59) rfl))) (mvT hZ (hw _ (List.mem_of_getElem? (i := 58) rfl))) (by decide) (backOf (W := 0) (rm13 l Z a0 hw [] rb3_b1 c38_c18_rv c38_c6_rv c38_c25_rv c38_c11_rv c171_z30 c171_z31 c171_z40 c171_z41 c171_z42 c171_rv T3.heap n0 (Nat.le_trans Z0 K3q.1) Q3_3 Q3_1 Q3_4 Q3_2 hc171_z30 hc171_z31 hc171_z40 hc171_z41 hc171_z42 hc171_rv c171_nn42) hZ (hw _ (List.mem_of_getElem? (i := 60) rfl)) (hw _ (List.mem_of_getElem? (i := 7) rfl)) (by decide) (by decide)) q91a q91c (g := (mkF m 171 #[.val (.int p0), .val (.int p1), .val (.int p2), .val (.int p3), .val (.int p4), .val (.int p5), .val (.int z3), .val (.int z9), .val (.int c17_z58), .val (.int c27_z58), .val (.ref rb3_b1), .val (.int (0 : Int32)), .val (.int (0 : Int32)), .val (.int c102_rv), .val (.int c112_rv), .val (.long c127_rv), .second, .val (.long c142_rv), .second, .val (.double z152), .second] [(.ref rb3_b1)])) rfl (by rw [hml]; rfl) (Steps.refl _) (argsL := []) (rest := []) (lenOf pd_8 rfl) rfl (by show 2 * 0 + _ ≤ _; exact Nat.le_of_eq rfl) (hb hby at_171) (fun _ _ => ⟨rfl, e90, (by decide : 1 + 0 ≤ _), (by decide : 4 + 0 ≤ _)⟩)
          dsimp only [Pt.U, Pt.locs, Pt.cells, Pt.slots] at X91 ql91 qy91 qz91 st91 hQ91
          subst ql91 qy91 qz91
          obtain ⟨rfl, N91q, e91⟩ := hQ91
          have N91 := Fr.app N90 N91q
          have br177 : z176 = 0 := hz176.symm.trans fin
          have c92 : ∀ t, Steps p.tables e below (T91.setTop (mkF m 185 #[.val (.int p0), .val (.int p1), .val (.int p2), .val (.int p3), .val (.int p4), .val (.int p5), .val (.int z3), .val (.int z9), .val (.int c17_z58), .val (.int c27_z58), .val (.ref rb3_b1), .val (.int (0 : Int32)), .val (.int (0 : Int32)), .val (.int c102_rv), .val (.int c112_rv), .val (.long c127_rv), .second, .val (.long c142_rv), .second, .val (.double z152), .second] [(.int (1 : Int32))])) t → Steps p.tables e below (s₁.setTop (entryFrame m #[(.int p0), (.int p1), (.int p2), (.int p3), (.int p4), (.int p5)] maxLocals)) t := by
            intro t k
            refine c76 t ?_
            show Steps p.tables e below (T75.setTop (mkF m 87 #[.val (.int p0), .val (.int p1), .val (.int p2), .val (.int p3), .val (.int p4), .val (.int p5), .val (.int z3), .val (.int z9), .val (.int c17_z58), .val (.int c27_z58), .val (.ref rb3_b1), .val (.int (0 : Int32)), .unset, .unset, .unset, .unset, .unset, .unset, .unset, .unset, .unset] [(.int c38_c25_rv), (.int c27_z58)])) _
            refine XS.icmpYes X75.here hx rfl (pc0 := 87) (pc' := 94) rfl (hb hby at_87) rfl (Jvm.Free.XT.ii_ge_t hb87) (by decide) (by decide) ?_
            show Steps p.tables e below (T75.setTop (mkF m 94 #[.val (.int p0), .val (.int p1), .val (.int p2), .val (.int p3), .val (.int p4), .val (.int p5), .val (.int z3), .val (.int z9), .val (.int c17_z58), .val (.int c27_z58), .val (.ref rb3_b1), .val (.int (0 : Int32)), .unset, .unset, .unset, .unset, .unset, .unset, .unset, .unset, .unset] [])) _
            refine XS.iconst X75.here hx rfl (hb hby at_94) ?_
            show Steps p.tables e below (T75.setTop (mkF m 95 #[.val (.int p0), .val (.int p1), .val (.int p2), .val (.int p3), .val (.int p4), .val (.int p5), .val (.int z3), .val (.int z9), .val (.int c17_z58), .val (.int c27_z58), .val (.ref rb3_b1), .val (.int (0 : Int32)), .unset, .unset, .unset, .unset, .unset, .unset, .unset, .unset, .unset] [(.int (0 : Int32))])) _
            refine XS.istore X75.here hx rfl (hb hby at_95) rfl (l' := #[.val (.int p0), .val (.int p1), .val (.int p2), .val (.int p3), .val (.int p4), .val (.int p5), .val (.int z3), .val (.int z9), .val (.int c17_z58), .val (.int c27_z58), .val (.ref rb3_b1), .val (.int (0 : Int32)), .val (.int (0 : Int32)), .unset, .unset, .unset, .unset, .unset, .unset, .unset, .unset]) rfl ?_
            show Steps p.tables e below (T75.setTop (mkF m 97 #[.val (.int p0), .val (.int p1), .val (.int p2), .val (.int p3), .val (.int p4), .val (.int p5), .val (.int z3), .val (.int z9), .val (.int c17_z58), .val (.int c27_z58), .val (.ref rb3_b1), .val (.int (0 : Int32)), .val (.int (0 : Int32)), .unset, .unset, .unset, .unset, .unset, .unset, .unset, .unset] [])) _
            refine XS.iload X75.here hx rfl (hb hby at_97) rfl ?_
            show Steps p.tables e below (T75.setTop (mkF m 99 #[.val (.int p0), .val (.int p1), .val (.int p2), .val (.int p3), .val (.int p4), .val (.int p5), .val (.int z3), .val (.int z9), .val (.int c17_z58), .val (.int c27_z58), .val (.ref rb3_b1), .val (.int (0 : Int32)), .val (.int (0 : Int32)), .unset, .unset, .unset, .unset, .unset, .unset, .unset, .unset] [(.int c17_z58)])) _
            refine XS.iloadN X75.here hx rfl (hb hby at_99) rfl ?_
            show Steps p.tables e below (T75.setTop (mkF m 100 #[.val (.int p0), .val (.int p1), .val (.int p2), .val (.int p3), .val (.int p4), .val (.int p5), .val (.int z3), .val (.int z9), .val (.int c17_z58), .val (.int c27_z58), .val (.ref rb3_b1), .val (.int (0 : Int32)), .val (.int (0 : Int32)), .unset, .unset, .unset, .unset, .unset, .unset, .unset, .unset] [(.int p2), (.int c17_z58)])) _
            refine XS.iload X75.here hx rfl (hb hby at_100) rfl ?_
            show Steps p.tables e below (T75.setTop (mkF m 102 #[.val (.int p0), .val (.int p1), .val (.int p2), .val (.int p3), .val (.int p4), .val (.int p5), .val (.int z3), .val (.int z9), .val (.int c17_z58), .val (.int c27_z58), .val (.ref rb3_b1), .val (.int (0 : Int32)), .val (.int (0 : Int32)), .unset, .unset, .unset, .unset, .unset, .unset, .unset, .unset] [(.int z3), (.int p2), (.int c17_z58)])) _
            refine st85 _ ?_
            show Steps p.tables e below (T85.setTop (mkF m 105 #[.val (.int p0), .val (.int p1), .val (.int p2), .val (.int p3), .val (.int p4), .val (.int p5), .val (.int z3), .val (.int z9), .val (.int c17_z58), .val (.int c27_z58), .val (.ref rb3_b1), .val (.int (0 : Int32)), .val (.int (0 : Int32)), .unset, .unset, .unset, .unset, .unset, .unset, .unset, .unset] [(.int c102_rv)])) _
            refine XS.istore X85.here hx rfl (hb hby at_105) rfl (l' := #[.val (.int p0), .val (.int p1), .val (.int p2), .val (.int p3), .val (.int p4), .val (.int p5), .val (.int z3), .val (.int z9), .val (.int c17_z58), .val (.int c27_z58), .val (.ref rb3_b1), .val (.int (0 : Int32)), .val (.int (0 : Int32)), .val (.int c102_rv), .unset, .unset, .unset, .unset, .unset, .unset, .unset]) rfl ?_
            show Steps p.tables e below (T85.setTop (mkF m 107 #[.val (.int p0), .val (.int p1), .val (.int p2), .val (.int p3), .val (.int p4), .val (.int p5), .val (.int z3), .val (.int z9), .val (.int c17_z58), .val (.int c27_z58), .val (.ref rb3_b1), .val (.int (0 : Int32)), .val (.int (0 : Int32)), .val (.int c102_rv), .unset, .unset, .unset, .unset, .unset, .unset, .unset] [])) _
            refine XS.iload X85.here hx rfl (hb hby at_107) rfl ?_
            show Steps p.tables e below (T85.setTop (mkF m 109 #[.val (.int p0), .val (.int p1), .val (.int p2), .val (.int p3), .val (.int p4), .val (.int p5), .val (.int z3), .val (.int z9), .val (.int c17_z58), .val (.int c27_z58), .val (.ref rb3_b1), .val (.int (0 : Int32)), .val (.int (0 : Int32)), .val (.int c102_rv), .unset, .unset, .unset, .unset, .unset, .unset, .unset] [(.int c27_z58)])) _
            refine XS.iloadN X85.here hx rfl (hb hby at_109) rfl ?_
            show Steps p.tables e below (T85.setTop (mkF m 110 #[.val (.int p0), .val (.int p1), .val (.int p2), .val (.int p3), .val (.int p4), .val (.int p5), .val (.int z3), .val (.int z9), .val (.int c17_z58), .val (.int c27_z58), .val (.ref rb3_b1), .val (.int (0 : Int32)), .val (.int (0 : Int32)), .val (.int c102_rv), .unset, .unset, .unset, .unset, .unset, .unset, .unset] [(.int p3), (.int c27_z58)])) _
            refine XS.iload X85.here hx rfl (hb hby at_110) rfl ?_
            show Steps p.tables e below (T85.setTop (mkF m 112 #[.val (.int p0), .val (.int p1), .val (.int p2), .val (.int p3), .val (.int p4), .val (.int p5), .val (.int z3), .val (.int z9), .val (.int c17_z58), .val (.int c27_z58), .val (.ref rb3_b1), .val (.int (0 : Int32)), .val (.int (0 : Int32)), .val (.int c102_rv), .unset, .unset, .unset, .unset, .unset, .unset, .unset] [(.int z9), (.int p3), (.int c27_z58)])) _
            refine st86 _ ?_
            show Steps p.tables e below (T86.setTop (mkF m 115 #[.val (.int p0), .val (.int p1), .val (.int p2), .val (.int p3), .val (.int p4), .val (.int p5), .val (.int z3), .val (.int z9), .val (.int c17_z58), .val (.int c27_z58), .val (.ref rb3_b1), .val (.int (0 : Int32)), .val (.int (0 : Int32)), .val (.int c102_rv), .unset, .unset, .unset, .unset, .unset, .unset, .unset] [(.int c112_rv)])) _
            refine XS.istore X86.here hx rfl (hb hby at_115) rfl (l' := #[.val (.int p0), .val (.int p1), .val (.int p2), .val (.int p3), .val (.int p4), .val (.int p5), .val (.int z3), .val (.int z9), .val (.int c17_z58), .val (.int c27_z58), .val (.ref rb3_b1), .val (.int (0 : Int32)), .val (.int (0 : Int32)), .val (.int c102_rv), .val (.int c112_rv), .unset, .unset, .unset, .unset, .unset, .unset]) rfl ?_
            show Steps p.tables e below (T86.setTop (mkF m 117 #[.val (.int p0), .val (.int p1), .val (.int p2), .val (.int p3), .val (.int p4), .val (.int p5), .val (.int z3), .val (.int z9), .val (.int c17_z58), .val (.int c27_z58), .val (.ref rb3_b1), .val (.int (0 : Int32)), .val (.int (0 : Int32)), .val (.int c102_rv), .val (.int c112_rv), .unset, .unset, .unset, .unset, .unset, .unset] [])) _
            refine XS.lconst X86.here hx rfl (hb hby at_117) ?_
            show Steps p.tables e below (T86.setTop (mkF m 118 #[.val (.int p0), .val (.int p1), .val (.int p2), .val (.int p3), .val (.int p4), .val (.int p5), .val (.int z3), .val (.int z9), .val (.int c17_z58), .val (.int c27_z58), .val (.ref rb3_b1), .val (.int (0 : Int32)), .val (.int (0 : Int32)), .val (.int c102_rv), .val (.int c112_rv), .unset, .unset, .unset, .unset, .unset, .unset] [(.long (0 : Int64))])) _
            refine XS.iload X86.here hx rfl (hb hby at_118) rfl ?_
            show Steps p.tables e below (T86.setTop (mkF m 120 #[.val (.int p0), .val (.int p1), .val (.int p2), .val (.int p3), .val (.int p4), .val (.int p5), .val (.int z3), .val (.int z9), .val (.int c17_z58), .val (.int c27_z58), .val (.ref rb3_b1), .val (.int (0 : Int32)), .val (.int (0 : Int32)), .val (.int c102_rv), .val (.int c112_rv), .unset, .unset, .unset, .unset, .unset, .unset] [(.int z3), (.long (0 : Int64))])) _
            refine Jvm.OwnK.i2l X86.here hx rfl (hb hby at_120) rfl hz120 ?_
            show Steps p.tables e below (T86.setTop (mkF m 121 #[.val (.int p0), .val (.int p1), .val (.int p2), .val (.int p3), .val (.int p4), .val (.int p5), .val (.int z3), .val (.int z9), .val (.int c17_z58), .val (.int c27_z58), .val (.ref rb3_b1), .val (.int (0 : Int32)), .val (.int (0 : Int32)), .val (.int c102_rv), .val (.int c112_rv), .unset, .unset, .unset, .unset, .unset, .unset] [(.long z120), (.long (0 : Int64))])) _
            refine XS.iloadN X86.here hx rfl (hb hby at_121) rfl ?_
            show Steps p.tables e below (T86.setTop (mkF m 122 #[.val (.int p0), .val (.int p1), .val (.int p2), .val (.int p3), .val (.int p4), .val (.int p5), .val (.int z3), .val (.int z9), .val (.int c17_z58), .val (.int c27_z58), .val (.ref rb3_b1), .val (.int (0 : Int32)), .val (.int (0 : Int32)), .val (.int c102_rv), .val (.int c112_rv), .unset, .unset, .unset, .unset, .unset, .unset] [(.int p2), (.long z120), (.long (0 : Int64))])) _
            refine Jvm.OwnK.i2l X86.here hx rfl (hb hby at_122) rfl hz122 ?_
            show Steps p.tables e below (T86.setTop (mkF m 123 #[.val (.int p0), .val (.int p1), .val (.int p2), .val (.int p3), .val (.int p4), .val (.int p5), .val (.int z3), .val (.int z9), .val (.int c17_z58), .val (.int c27_z58), .val (.ref rb3_b1), .val (.int (0 : Int32)), .val (.int (0 : Int32)), .val (.int c102_rv), .val (.int c112_rv), .unset, .unset, .unset, .unset, .unset, .unset] [(.long z122), (.long z120), (.long (0 : Int64))])) _
            refine st87 _ ?_
            show Steps p.tables e below (T87.setTop (mkF m 126 #[.val (.int p0), .val (.int p1), .val (.int p2), .val (.int p3), .val (.int p4), .val (.int p5), .val (.int z3), .val (.int z9), .val (.int c17_z58), .val (.int c27_z58), .val (.ref rb3_b1), .val (.int (0 : Int32)), .val (.int (0 : Int32)), .val (.int c102_rv), .val (.int c112_rv), .unset, .unset, .unset, .unset, .unset, .unset] [(.long c123_rv), (.long z120), (.long (0 : Int64))])) _
            refine Jvm.OwnK.lsub X87.here hx rfl (hb hby at_126) rfl hz126 ?_
            show Steps p.tables e below (T87.setTop (mkF m 127 #[.val (.int p0), .val (.int p1), .val (.int p2), .val (.int p3), .val (.int p4), .val (.int p5), .val (.int z3), .val (.int z9), .val (.int c17_z58), .val (.int c27_z58), .val (.ref rb3_b1), .val (.int (0 : Int32)), .val (.int (0 : Int32)), .val (.int c102_rv), .val (.int c112_rv), .unset, .unset, .unset, .unset, .unset, .unset] [(.long z126), (.long (0 : Int64))])) _
            refine st88 _ ?_
            show Steps p.tables e below (T88.setTop (mkF m 130 #[.val (.int p0), .val (.int p1), .val (.int p2), .val (.int p3), .val (.int p4), .val (.int p5), .val (.int z3), .val (.int z9), .val (.int c17_z58), .val (.int c27_z58), .val (.ref rb3_b1), .val (.int (0 : Int32)), .val (.int (0 : Int32)), .val (.int c102_rv), .val (.int c112_rv), .unset, .unset, .unset, .unset, .unset, .unset] [(.long c127_rv)])) _
            refine XS.lstore X88.here hx rfl (hb hby at_130) rfl (l' := #[.val (.int p0), .val (.int p1), .val (.int p2), .val (.int p3), .val (.int p4), .val (.int p5), .val (.int z3), .val (.int z9), .val (.int c17_z58), .val (.int c27_z58), .val (.ref rb3_b1), .val (.int (0 : Int32)), .val (.int (0 : Int32)), .val (.int c102_rv), .val (.int c112_rv), .val (.long c127_rv), .second, .unset, .unset, .unset, .unset]) rfl ?_
            show Steps p.tables e below (T88.setTop (mkF m 132 #[.val (.int p0), .val (.int p1), .val (.int p2), .val (.int p3), .val (.int p4), .val (.int p5), .val (.int z3), .val (.int z9), .val (.int c17_z58), .val (.int c27_z58), .val (.ref rb3_b1), .val (.int (0 : Int32)), .val (.int (0 : Int32)), .val (.int c102_rv), .val (.int c112_rv), .val (.long c127_rv), .second, .unset, .unset, .unset, .unset] [])) _
            refine XS.lconst X88.here hx rfl (hb hby at_132) ?_
            show Steps p.tables e below (T88.setTop (mkF m 133 #[.val (.int p0), .val (.int p1), .val (.int p2), .val (.int p3), .val (.int p4), .val (.int p5), .val (.int z3), .val (.int z9), .val (.int c17_z58), .val (.int c27_z58), .val (.ref rb3_b1), .val (.int (0 : Int32)), .val (.int (0 : Int32)), .val (.int c102_rv), .val (.int c112_rv), .val (.long c127_rv), .second, .unset, .unset, .unset, .unset] [(.long (0 : Int64))])) _
            refine XS.iload X88.here hx rfl (hb hby at_133) rfl ?_
            show Steps p.tables e below (T88.setTop (mkF m 135 #[.val (.int p0), .val (.int p1), .val (.int p2), .val (.int p3), .val (.int p4), .val (.int p5), .val (.int z3), .val (.int z9), .val (.int c17_z58), .val (.int c27_z58), .val (.ref rb3_b1), .val (.int (0 : Int32)), .val (.int (0 : Int32)), .val (.int c102_rv), .val (.int c112_rv), .val (.long c127_rv), .second, .unset, .unset, .unset, .unset] [(.int z9), (.long (0 : Int64))])) _
            refine Jvm.OwnK.i2l X88.here hx rfl (hb hby at_135) rfl hz135 ?_
            show Steps p.tables e below (T88.setTop (mkF m 136 #[.val (.int p0), .val (.int p1), .val (.int p2), .val (.int p3), .val (.int p4), .val (.int p5), .val (.int z3), .val (.int z9), .val (.int c17_z58), .val (.int c27_z58), .val (.ref rb3_b1), .val (.int (0 : Int32)), .val (.int (0 : Int32)), .val (.int c102_rv), .val (.int c112_rv), .val (.long c127_rv), .second, .unset, .unset, .unset, .unset] [(.long z135), (.long (0 : Int64))])) _
            refine XS.iloadN X88.here hx rfl (hb hby at_136) rfl ?_
            show Steps p.tables e below (T88.setTop (mkF m 137 #[.val (.int p0), .val (.int p1), .val (.int p2), .val (.int p3), .val (.int p4), .val (.int p5), .val (.int z3), .val (.int z9), .val (.int c17_z58), .val (.int c27_z58), .val (.ref rb3_b1), .val (.int (0 : Int32)), .val (.int (0 : Int32)), .val (.int c102_rv), .val (.int c112_rv), .val (.long c127_rv), .second, .unset, .unset, .unset, .unset] [(.int p3), (.long z135), (.long (0 : Int64))])) _
            refine Jvm.OwnK.i2l X88.here hx rfl (hb hby at_137) rfl hz137 ?_
            show Steps p.tables e below (T88.setTop (mkF m 138 #[.val (.int p0), .val (.int p1), .val (.int p2), .val (.int p3), .val (.int p4), .val (.int p5), .val (.int z3), .val (.int z9), .val (.int c17_z58), .val (.int c27_z58), .val (.ref rb3_b1), .val (.int (0 : Int32)), .val (.int (0 : Int32)), .val (.int c102_rv), .val (.int c112_rv), .val (.long c127_rv), .second, .unset, .unset, .unset, .unset] [(.long z137), (.long z135), (.long (0 : Int64))])) _
            refine st89 _ ?_
            show Steps p.tables e below (T89.setTop (mkF m 141 #[.val (.int p0), .val (.int p1), .val (.int p2), .val (.int p3), .val (.int p4), .val (.int p5), .val (.int z3), .val (.int z9), .val (.int c17_z58), .val (.int c27_z58), .val (.ref rb3_b1), .val (.int (0 : Int32)), .val (.int (0 : Int32)), .val (.int c102_rv), .val (.int c112_rv), .val (.long c127_rv), .second, .unset, .unset, .unset, .unset] [(.long c138_rv), (.long z135), (.long (0 : Int64))])) _
            refine Jvm.OwnK.lsub X89.here hx rfl (hb hby at_141) rfl hz141 ?_
            show Steps p.tables e below (T89.setTop (mkF m 142 #[.val (.int p0), .val (.int p1), .val (.int p2), .val (.int p3), .val (.int p4), .val (.int p5), .val (.int z3), .val (.int z9), .val (.int c17_z58), .val (.int c27_z58), .val (.ref rb3_b1), .val (.int (0 : Int32)), .val (.int (0 : Int32)), .val (.int c102_rv), .val (.int c112_rv), .val (.long c127_rv), .second, .unset, .unset, .unset, .unset] [(.long z141), (.long (0 : Int64))])) _
            refine st90 _ ?_
            show Steps p.tables e below (T90.setTop (mkF m 145 #[.val (.int p0), .val (.int p1), .val (.int p2), .val (.int p3), .val (.int p4), .val (.int p5), .val (.int z3), .val (.int z9), .val (.int c17_z58), .val (.int c27_z58), .val (.ref rb3_b1), .val (.int (0 : Int32)), .val (.int (0 : Int32)), .val (.int c102_rv), .val (.int c112_rv), .val (.long c127_rv), .second, .unset, .unset, .unset, .unset] [(.long c142_rv)])) _
            refine XS.lstore X90.here hx rfl (hb hby at_145) rfl (l' := #[.val (.int p0), .val (.int p1), .val (.int p2), .val (.int p3), .val (.int p4), .val (.int p5), .val (.int z3), .val (.int z9), .val (.int c17_z58), .val (.int c27_z58), .val (.ref rb3_b1), .val (.int (0 : Int32)), .val (.int (0 : Int32)), .val (.int c102_rv), .val (.int c112_rv), .val (.long c127_rv), .second, .val (.long c142_rv), .second, .unset, .unset]) rfl ?_
            show Steps p.tables e below (T90.setTop (mkF m 147 #[.val (.int p0), .val (.int p1), .val (.int p2), .val (.int p3), .val (.int p4), .val (.int p5), .val (.int z3), .val (.int z9), .val (.int c17_z58), .val (.int c27_z58), .val (.ref rb3_b1), .val (.int (0 : Int32)), .val (.int (0 : Int32)), .val (.int c102_rv), .val (.int c112_rv), .val (.long c127_rv), .second, .val (.long c142_rv), .second, .unset, .unset] [])) _
            refine XS.lload X90.here hx rfl (hb hby at_147) rfl ?_
            show Steps p.tables e below (T90.setTop (mkF m 149 #[.val (.int p0), .val (.int p1), .val (.int p2), .val (.int p3), .val (.int p4), .val (.int p5), .val (.int z3), .val (.int z9), .val (.int c17_z58), .val (.int c27_z58), .val (.ref rb3_b1), .val (.int (0 : Int32)), .val (.int (0 : Int32)), .val (.int c102_rv), .val (.int c112_rv), .val (.long c127_rv), .second, .val (.long c142_rv), .second, .unset, .unset] [(.long c127_rv)])) _
            refine XS.lload X90.here hx rfl (hb hby at_149) rfl ?_
            show Steps p.tables e below (T90.setTop (mkF m 151 #[.val (.int p0), .val (.int p1), .val (.int p2), .val (.int p3), .val (.int p4), .val (.int p5), .val (.int z3), .val (.int z9), .val (.int c17_z58), .val (.int c27_z58), .val (.ref rb3_b1), .val (.int (0 : Int32)), .val (.int (0 : Int32)), .val (.int c102_rv), .val (.int c112_rv), .val (.long c127_rv), .second, .val (.long c142_rv), .second, .unset, .unset] [(.long c142_rv), (.long c127_rv)])) _
            refine Jvm.OwnK.lmul X90.here hx rfl (hb hby at_151) rfl hz151 ?_
            show Steps p.tables e below (T90.setTop (mkF m 152 #[.val (.int p0), .val (.int p1), .val (.int p2), .val (.int p3), .val (.int p4), .val (.int p5), .val (.int z3), .val (.int z9), .val (.int c17_z58), .val (.int c27_z58), .val (.ref rb3_b1), .val (.int (0 : Int32)), .val (.int (0 : Int32)), .val (.int c102_rv), .val (.int c112_rv), .val (.long c127_rv), .second, .val (.long c142_rv), .second, .unset, .unset] [(.long z151)])) _
            refine XS.l2dS X90.here hx rfl (hb hby at_152) rfl hz152 ?_
            show Steps p.tables e below (T90.setTop (mkF m 153 #[.val (.int p0), .val (.int p1), .val (.int p2), .val (.int p3), .val (.int p4), .val (.int p5), .val (.int z3), .val (.int z9), .val (.int c17_z58), .val (.int c27_z58), .val (.ref rb3_b1), .val (.int (0 : Int32)), .val (.int (0 : Int32)), .val (.int c102_rv), .val (.int c112_rv), .val (.long c127_rv), .second, .val (.long c142_rv), .second, .unset, .unset] [(.double z152)])) _
            refine XS.dstore X90.here hx rfl (hb hby at_153) rfl (l' := #[.val (.int p0), .val (.int p1), .val (.int p2), .val (.int p3), .val (.int p4), .val (.int p5), .val (.int z3), .val (.int z9), .val (.int c17_z58), .val (.int c27_z58), .val (.ref rb3_b1), .val (.int (0 : Int32)), .val (.int (0 : Int32)), .val (.int c102_rv), .val (.int c112_rv), .val (.long c127_rv), .second, .val (.long c142_rv), .second, .val (.double z152), .second]) rfl ?_
            show Steps p.tables e below (T90.setTop (mkF m 155 #[.val (.int p0), .val (.int p1), .val (.int p2), .val (.int p3), .val (.int p4), .val (.int p5), .val (.int z3), .val (.int z9), .val (.int c17_z58), .val (.int c27_z58), .val (.ref rb3_b1), .val (.int (0 : Int32)), .val (.int (0 : Int32)), .val (.int c102_rv), .val (.int c112_rv), .val (.long c127_rv), .second, .val (.long c142_rv), .second, .val (.double z152), .second] [])) _
            refine XS.iload X90.here hx rfl (hb hby at_155) rfl ?_
            show Steps p.tables e below (T90.setTop (mkF m 157 #[.val (.int p0), .val (.int p1), .val (.int p2), .val (.int p3), .val (.int p4), .val (.int p5), .val (.int z3), .val (.int z9), .val (.int c17_z58), .val (.int c27_z58), .val (.ref rb3_b1), .val (.int (0 : Int32)), .val (.int (0 : Int32)), .val (.int c102_rv), .val (.int c112_rv), .val (.long c127_rv), .second, .val (.long c142_rv), .second, .val (.double z152), .second] [(.int (0 : Int32))])) _
            refine XS.iload X90.here hx rfl (hb hby at_157) rfl ?_
            show Steps p.tables e below (T90.setTop (mkF m 159 #[.val (.int p0), .val (.int p1), .val (.int p2), .val (.int p3), .val (.int p4), .val (.int p5), .val (.int z3), .val (.int z9), .val (.int c17_z58), .val (.int c27_z58), .val (.ref rb3_b1), .val (.int (0 : Int32)), .val (.int (0 : Int32)), .val (.int c102_rv), .val (.int c112_rv), .val (.long c127_rv), .second, .val (.long c142_rv), .second, .val (.double z152), .second] [(.int c102_rv), (.int (0 : Int32))])) _
            refine XS.icmpNo X90.here hx rfl (hb hby at_159) rfl (Jvm.Free.XT.ii_ne_f br159) ?_
            show Steps p.tables e below (T90.setTop (mkF m 162 #[.val (.int p0), .val (.int p1), .val (.int p2), .val (.int p3), .val (.int p4), .val (.int p5), .val (.int z3), .val (.int z9), .val (.int c17_z58), .val (.int c27_z58), .val (.ref rb3_b1), .val (.int (0 : Int32)), .val (.int (0 : Int32)), .val (.int c102_rv), .val (.int c112_rv), .val (.long c127_rv), .second, .val (.long c142_rv), .second, .val (.double z152), .second] [])) _
            refine XS.iload X90.here hx rfl (hb hby at_162) rfl ?_
            show Steps p.tables e below (T90.setTop (mkF m 164 #[.val (.int p0), .val (.int p1), .val (.int p2), .val (.int p3), .val (.int p4), .val (.int p5), .val (.int z3), .val (.int z9), .val (.int c17_z58), .val (.int c27_z58), .val (.ref rb3_b1), .val (.int (0 : Int32)), .val (.int (0 : Int32)), .val (.int c102_rv), .val (.int c112_rv), .val (.long c127_rv), .second, .val (.long c142_rv), .second, .val (.double z152), .second] [(.int (0 : Int32))])) _
            refine XS.iload X90.here hx rfl (hb hby at_164) rfl ?_
            show Steps p.tables e below (T90.setTop (mkF m 166 #[.val (.int p0), .val (.int p1), .val (.int p2), .val (.int p3), .val (.int p4), .val (.int p5), .val (.int z3), .val (.int z9), .val (.int c17_z58), .val (.int c27_z58), .val (.ref rb3_b1), .val (.int (0 : Int32)), .val (.int (0 : Int32)), .val (.int c102_rv), .val (.int c112_rv), .val (.long c127_rv), .second, .val (.long c142_rv), .second, .val (.double z152), .second] [(.int c112_rv), (.int (0 : Int32))])) _
            refine XS.icmpNo X90.here hx rfl (hb hby at_166) rfl (Jvm.Free.XT.ii_ne_f br166) ?_
            show Steps p.tables e below (T90.setTop (mkF m 169 #[.val (.int p0), .val (.int p1), .val (.int p2), .val (.int p3), .val (.int p4), .val (.int p5), .val (.int z3), .val (.int z9), .val (.int c17_z58), .val (.int c27_z58), .val (.ref rb3_b1), .val (.int (0 : Int32)), .val (.int (0 : Int32)), .val (.int c102_rv), .val (.int c112_rv), .val (.long c127_rv), .second, .val (.long c142_rv), .second, .val (.double z152), .second] [])) _
            refine XS.aload X90.here hx rfl (hb hby at_169) rfl rfl ?_
            show Steps p.tables e below (T90.setTop (mkF m 171 #[.val (.int p0), .val (.int p1), .val (.int p2), .val (.int p3), .val (.int p4), .val (.int p5), .val (.int z3), .val (.int z9), .val (.int c17_z58), .val (.int c27_z58), .val (.ref rb3_b1), .val (.int (0 : Int32)), .val (.int (0 : Int32)), .val (.int c102_rv), .val (.int c112_rv), .val (.long c127_rv), .second, .val (.long c142_rv), .second, .val (.double z152), .second] [(.ref rb3_b1)])) _
            refine st91.trans ?_
            show Steps p.tables e below (T91.setTop (mkF m 174 #[.val (.int p0), .val (.int p1), .val (.int p2), .val (.int p3), .val (.int p4), .val (.int p5), .val (.int z3), .val (.int z9), .val (.int c17_z58), .val (.int c27_z58), .val (.ref rb3_b1), .val (.int (0 : Int32)), .val (.int (0 : Int32)), .val (.int c102_rv), .val (.int c112_rv), .val (.long c127_rv), .second, .val (.long c142_rv), .second, .val (.double z152), .second] [(.double c171_rv)])) _
            refine XS.dload X91.here hx rfl (hb hby at_174) rfl ?_
            show Steps p.tables e below (T91.setTop (mkF m 176 #[.val (.int p0), .val (.int p1), .val (.int p2), .val (.int p3), .val (.int p4), .val (.int p5), .val (.int z3), .val (.int z9), .val (.int c17_z58), .val (.int c27_z58), .val (.ref rb3_b1), .val (.int (0 : Int32)), .val (.int (0 : Int32)), .val (.int c102_rv), .val (.int c112_rv), .val (.long c127_rv), .second, .val (.long c142_rv), .second, .val (.double z152), .second] [(.double z152), (.double c171_rv)])) _
            refine XS.dcmpS X91.here hx rfl (hb hby at_176) rfl hz176 ?_
            show Steps p.tables e below (T91.setTop (mkF m 177 #[.val (.int p0), .val (.int p1), .val (.int p2), .val (.int p3), .val (.int p4), .val (.int p5), .val (.int z3), .val (.int z9), .val (.int c17_z58), .val (.int c27_z58), .val (.ref rb3_b1), .val (.int (0 : Int32)), .val (.int (0 : Int32)), .val (.int c102_rv), .val (.int c112_rv), .val (.long c127_rv), .second, .val (.long c142_rv), .second, .val (.double z152), .second] [(.int z176)])) _
            refine XS.ifNo X91.here hx rfl (hb hby at_177) rfl (Jvm.Free.XT.i0_ne_f br177) ?_
            show Steps p.tables e below (T91.setTop (mkF m 180 #[.val (.int p0), .val (.int p1), .val (.int p2), .val (.int p3), .val (.int p4), .val (.int p5), .val (.int z3), .val (.int z9), .val (.int c17_z58), .val (.int c27_z58), .val (.ref rb3_b1), .val (.int (0 : Int32)), .val (.int (0 : Int32)), .val (.int c102_rv), .val (.int c112_rv), .val (.long c127_rv), .second, .val (.long c142_rv), .second, .val (.double z152), .second] [])) _
            refine XS.iconst X91.here hx rfl (hb hby at_180) ?_
            show Steps p.tables e below (T91.setTop (mkF m 181 #[.val (.int p0), .val (.int p1), .val (.int p2), .val (.int p3), .val (.int p4), .val (.int p5), .val (.int z3), .val (.int z9), .val (.int c17_z58), .val (.int c27_z58), .val (.ref rb3_b1), .val (.int (0 : Int32)), .val (.int (0 : Int32)), .val (.int c102_rv), .val (.int c112_rv), .val (.long c127_rv), .second, .val (.long c142_rv), .second, .val (.double z152), .second] [(.int (1 : Int32))])) _
            refine XS.goto X91.here hx rfl (pc0 := 181) (pc' := 185) rfl (hb hby at_181) (by decide) (by decide) ?_
            exact k
          obtain ⟨fs, hr, hrun, hended, hW, hsame⟩ := X91.leave (v := some (.int (1 : Int32))) (fun h => by rw [Bd.returns] at h; cases h)
          refine ⟨_, _, c92 _ ?_, hrun, hended, _, _, rfl, ?_, ⟨_, rfl⟩, hW, hsame.mono (by decide) (by decide)⟩
          · show Steps p.tables e below (T91.setTop (mkF m 185 #[.val (.int p0), .val (.int p1), .val (.int p2), .val (.int p3), .val (.int p4), .val (.int p5), .val (.int z3), .val (.int z9), .val (.int c17_z58), .val (.int c27_z58), .val (.ref rb3_b1), .val (.int (0 : Int32)), .val (.int (0 : Int32)), .val (.int c102_rv), .val (.int c112_rv), .val (.long c127_rv), .second, .val (.long c142_rv), .second, .val (.double z152), .second] [(.int (1 : Int32))])) _
            exact retOut X91 hx Bd.returns rfl (Or.inl ⟨rfl, by simp, _, rfl⟩) (hb hby at_185) hr
          · show Q0 n0 _ T91.heap _
            rw [e91]
            exact ⟨rfl, by first | assumption | exact N0⟩
set_option maxRecDepth 65536 in
set_option maxHeartbeats 40000000 in
theorem comes_1 {Post : Tables → Env → Array Value → State → Outcome → State → Prop} (hpost : ∀ tb e args s v u, (limb_1_1.after args s (.returned v) u = true ∧ limb_1_2.after args s (.returned v) u = true ∧ True) → FrameEnd s (.returned v) u (Jvm.fieldLocs frame_1_writes args s ++ Jvm.arrayLocs frame_1_arrays args s ++ Jvm.staticLocs frame_1_statics s) 16 128 → Post tb e args s (.returned v) u) :
    ArmFor flags0 classFile x code maxLocals ret World_1 tables_1 room_1 Calls_1 rest_1 Pre_1 Post := by
  intro l hfl _ _ p e ha hc hk s m args below hf hA hF happ hP
  obtain ⟨hcalls, hrest, hpre⟩ := hP
  obtain ⟨-, -, -, hnamed, -, -, -, hat⟩ := (Spec.applies_iff hf).mp happ
  obtain ⟨hg, hn⟩ := and_e (Cond.before_iff.mp (show (Jvm.Cond.and given_1 narrow_1).before args s = true from hpre))
  obtain ⟨g1, g2⟩ := and_e hg
  obtain ⟨g3, g4⟩ := and_e g2
  obtain ⟨g5, g6⟩ := and_e g4
  obtain ⟨g7, g8⟩ := and_e g6
  obtain ⟨g9, g10⟩ := and_e g8
  obtain ⟨g11, g12⟩ := and_e g10
  obtain ⟨w0, w1, w2, w3, w4, w5, rfl⟩ : ∃ w0 w1 w2 w3 w4 w5 : Value, args = #[w0, w1, w2, w3, w4, w5] := by
    have hs : args.size = 6 := by simpa [Cond.value, given_1] using g1
    obtain ⟨L⟩ := args
    match L, hs with
    | [w0, w1, w2, w3, w4, w5], _ => exact ⟨w0, w1, w2, w3, w4, w5, rfl⟩
  have hw := fun d (hd : d ∈ tables_1) => atoms_spec (ws := Jvm.Cond.code x code maxLocals ret :: tables_1) hat d (List.mem_cons_of_mem _ hd)
  have hfit : Fit s := fun {y c} hc i hi => by
    obtain ⟨ha, rfl⟩ := Array.getElem?_eq_some_iff.mp hc
    have q := List.all_eq_true.mp ((Array.all_eq_true_iff_forall_mem.mp hF) _ (Array.getElem_mem ha)) i (List.mem_range.mpr hi)
    simpa [Array.getElem?_eq_getElem hi] using q
  obtain ⟨i0, ei0⟩ := is_v g3
  obtain rfl : w0 = (.int i0) := Option.some.inj ei0
  obtain ⟨i1, ei1⟩ := is_v g5
  obtain rfl : w1 = (.int i1) := Option.some.inj ei1
  obtain ⟨i2, ei2⟩ := is_v g7
  obtain rfl : w2 = (.int i2) := Option.some.inj ei2
  obtain ⟨i3, ei3⟩ := is_v g9
  obtain rfl : w3 = (.int i3) := Option.some.inj ei3
  obtain ⟨i4, ei4⟩ := is_v g11
  obtain rfl : w4 = (.int i4) := Option.some.inj ei4
  obtain ⟨i5, ei5⟩ := is_v g12
  obtain rfl : w5 = (.int i5) := Option.some.inj ei5
  obtain ⟨n, o, h1, h2, h3, _, L, rfl, ⟨rfl, N⟩, hq⟩ := rm0 l s _ hw tables_1 i0 i1 i2 i3 i4 i5  s.heap s.heap.size (Nat.le_refl _)  p e ha hc hk s m _ below hf ((Spec.applies_iff_loose hf).mp happ).1 ⟨rfl, State.Warmed39.refl s, rfl⟩ trivial
  refine ⟨n, _, h1, h2, h3, hpost _ _ _ _ _ _ ⟨Cond.after_iff.mpr rfl, Cond.after_iff.mpr (eq_i res_at (Term.int_eval (1)) rfl), trivial⟩ ⟨hq.1, hq.2.1, (hq.2.2.sift fun y hy => Or.inr (N y hy)).mono (by decide) (by decide)⟩⟩
theorem main_1_1 : Claimed_1_1 := comes_1 fun _ _ _ _ _ _ h hF => ⟨h.1, hF⟩
theorem main_1_2 : Claimed_1_2 := comes_1 fun _ _ _ _ _ _ h hF => ⟨h.2.1, hF⟩
end Jvm.Pilot.@@N@@
namespace Jvm.Pilot.@@N@@
open Jvm Jvm.ClassFile Sem Op Lib Jvm.Free Jvm.Stand Jvm.Pilot.@@N@@.Jvm.D
/-! MADE BY PROGRAM (witnessworld.py) out of the Statement's table words and the real class files: 10 classes; the members and pool entries that the words name. The judged class is class 1, her method 1. -/
namespace start1
open Jvm.ClassFile
def u (s : String) : CpInfo := .utf8 (stringToUtf16 s)
/-- a pool by its gaps: so many unusable entries, then the entry; so many at the end -/
def gap : Nat → List CpInfo → List CpInfo
  | 0, r => r
  | n + 1, r => .unusable :: gap n r
def poolList (es : List (Nat × CpInfo)) (last : Nat) : List CpInfo := es.foldr (fun e r => gap e.1 (e.2 :: r)) (gap last [])
def pool (es : List (Nat × CpInfo)) (last : Nat) : Array CpInfo := ⟨poolList es last⟩
def fileOf (pool : Array CpInfo) (this : Nat) (attrs : Array Attribute := #[]) (ms : Array MethodInfo := #[]) (fl : Nat := 33) (sup : Nat := 0) (ifs : Array Nat := #[]) (fds : Array FieldInfo := #[]) : ClassFile where
  minorVersion := 0
  majorVersion := 65
  constantPool := pool
  accessFlags := fl
  thisClass := this
  superClass := sup
  interfaces := ifs
  fields := fds
  methods := ms
  attributes := attrs
def plain (name : String) (sup : Option ClassId) : Class where
  name := name
  kind := .ordinary
  loader := none
  accessFlags := 33
  super := sup
  interfaces := #[]
  cf := none
  fields := #[]
  methods := #[]
  instanceTypes := #[]
  staticTypes := #[]
  resolved := #[]
  callSites := []
  init := .initialized
  statics := none
  mirror := none

def pool0 : Array CpInfo := pool [(5, u "<init>"), (0, u "()V"), (1, .class_ 10), (1, u "java/lang/Object")] 113

def k0c0 : Code := { maxStack := 0, maxLocals := 1, code := object_method_1_code, exceptionTable := #[], attributes := #[] }
def k0m0 : Method := { name := "<init>", desc := "()V", sig := { parameters := [], returnType := none }, accessFlags := 1, code := some k0c0 }
/-- java/lang/Object -/
def k0 : Class := { plain "java/lang/Object" none with
  accessFlags := 33
  interfaces := #[]
  cf := some (fileOf pool0 8 #[] #[{ accessFlags := 1, nameIndex := 5, descriptorIndex := 6, attributes := #[] }] 33 0 #[] #[])
  fields := #[]
  methods := #[k0m0]
  instanceTypes := #[]
  staticTypes := #[]
  resolved := Array.replicate 124 none
  statics := none }

def pool1 : Array CpInfo := pool [(2, .class_ 4), (1, u "java/lang/Object"), (0, u "<init>"), (0, u "()V"), (0, .integer 1073741823), (0, .methodref 9 10), (0, .class_ 11), (0, .nameAndType 12 13), (0, u "com/example/vetrino/vetrino/OverlapOfPinLaw"), (0, u "probe"), (0, u "(III)I"), (0, .methodref 15 16), (0, .class_ 17), (0, .nameAndType 18 19), (0, u "com/example/vetrino/vetrino/Overlap"), (0, u "of"), (0, u "(IIII)Lcom/example/vetrino/vetrino/Overlap;"), (0, .methodref 15 21), (0, .nameAndType 22 23), (0, u "left"), (0, u "()I"), (0, .methodref 15 25), (0, .nameAndType 26 23), (0, u "right"), (0, .methodref 15 28), (0, .nameAndType 29 23), (0, u "top"), (0, .methodref 15 31), (0, .nameAndType 32 23), (0, u "bottom"), (0, .methodref 9 34), (0, .nameAndType 35 36), (0, u "meets"), (0, u "(III)Z"), (0, .methodref 38 39), (0, .class_ 40), (0, .nameAndType 41 42), (0, u "java/lang/Math"), (0, u "abs"), (0, u "(J)J"), (0, .methodref 38 44), (0, .nameAndType 45 46), (0, u "max"), (0, u "(JJ)J"), (0, .methodref 15 48), (0, .nameAndType 49 50), (0, u "area"), (0, u "()D"), (2, u "law"), (0, u "(IIIIII)Z")] 3

def k1m0 : Method := { name := "<init>", desc := "()V", sig := { parameters := [], returnType := none }, accessFlags := 1, code := none }
def k1c1 : Code := { maxStack := 6, maxLocals := 21, code := code, exceptionTable := #[], attributes := #[] }
def k1m1 : Method := { name := "law", desc := "(IIIIII)Z", sig := { parameters := [.int, .int, .int, .int, .int, .int], returnType := some .boolean }, accessFlags := 9, code := some k1c1 }
def k1c2 : Code := { maxStack := 4, maxLocals := 7, code := method_3_code, exceptionTable := #[], attributes := #[] }
def k1m2 : Method := { name := "probe", desc := "(III)I", sig := { parameters := [.int, .int, .int], returnType := some .int }, accessFlags := 10, code := some k1c2 }
def k1c3 : Code := { maxStack := 4, maxLocals := 7, code := method_4_code, exceptionTable := #[], attributes := #[] }
def k1m3 : Method := { name := "meets", desc := "(III)Z", sig := { parameters := [.int, .int, .int], returnType := some .boolean }, accessFlags := 10, code := some k1c3 }
/-- com/example/vetrino/vetrino/OverlapOfPinLaw -/
def k1 : Class := { plain "com/example/vetrino/vetrino/OverlapOfPinLaw" (some 0) with
  accessFlags := 49
  interfaces := #[]
  cf := some (fileOf pool1 9 #[] #[{ accessFlags := 1, nameIndex := 5, descriptorIndex := 6, attributes := #[] }, { accessFlags := 9, nameIndex := 53, descriptorIndex := 54, attributes := #[] }, { accessFlags := 10, nameIndex := 12, descriptorIndex := 13, attributes := #[] }, { accessFlags := 10, nameIndex := 35, descriptorIndex := 36, attributes := #[] }] 49 2 #[] #[])
  fields := #[]
  methods := #[k1m0, k1m1, k1m2, k1m3]
  instanceTypes := #[]
  staticTypes := #[]
  resolved := Array.replicate 58 none
  statics := none }

def pool2 : Array CpInfo := pool [(1, .methodref 2 3), (0, .class_ 4), (0, .nameAndType 5 6), (0, u "java/lang/Object"), (0, u "<init>"), (0, u "()V"), (0, .fieldref 8 9), (0, .class_ 10), (0, .nameAndType 11 12), (0, u "com/example/vetrino/vetrino/Overlap"), (0, u "left"), (0, u "I"), (0, .fieldref 8 14), (0, .nameAndType 15 12), (0, u "top"), (0, .fieldref 8 17), (0, .nameAndType 18 12), (0, u "right"), (0, .fieldref 8 20), (0, .nameAndType 21 12), (0, u "bottom"), (0, .methodref 23 24), (0, .class_ 25), (0, .nameAndType 26 27), (0, u "java/lang/Math"), (0, u "max"), (0, u "(II)I"), (0, .methodref 23 29), (0, .nameAndType 30 27), (0, u "min"), (0, .methodref 8 32), (0, .nameAndType 5 33), (0, u "(IIII)V"), (2, u "of"), (0, u "(IIII)Lcom/example/vetrino/vetrino/Overlap;"), (2, u "()I"), (0, u "area"), (0, u "()D")] 3

def k2c0 : Code := { maxStack := 2, maxLocals := 5, code := prog_7_method_1_code, exceptionTable := #[], attributes := #[] }
def k2m0 : Method := { name := "<init>", desc := "(IIII)V", sig := { parameters := [.int, .int, .int, .int], returnType := none }, accessFlags := 2, code := some k2c0 }
def k2c1 : Code := { maxStack := 8, maxLocals := 4, code := prog_7_method_2_code, exceptionTable := #[], attributes := #[] }
def k2m1 : Method := { name := "of", desc := "(IIII)Lcom/example/vetrino/vetrino/Overlap;", sig := { parameters := [.int, .int, .int, .int], returnType := some (.object "com/example/vetrino/vetrino/Overlap") }, accessFlags := 8, code := some k2c1 }
def k2c2 : Code := { maxStack := 1, maxLocals := 1, code := prog_7_method_4_code, exceptionTable := #[], attributes := #[] }
def k2m2 : Method := { name := "left", desc := "()I", sig := { parameters := [], returnType := some .int }, accessFlags := 0, code := some k2c2 }
def k2c3 : Code := { maxStack := 1, maxLocals := 1, code := prog_7_method_5_code, exceptionTable := #[], attributes := #[] }
def k2m3 : Method := { name := "top", desc := "()I", sig := { parameters := [], returnType := some .int }, accessFlags := 0, code := some k2c3 }
def k2c4 : Code := { maxStack := 1, maxLocals := 1, code := prog_7_method_6_code, exceptionTable := #[], attributes := #[] }
def k2m4 : Method := { name := "right", desc := "()I", sig := { parameters := [], returnType := some .int }, accessFlags := 0, code := some k2c4 }
def k2c5 : Code := { maxStack := 1, maxLocals := 1, code := prog_7_method_7_code, exceptionTable := #[], attributes := #[] }
def k2m5 : Method := { name := "bottom", desc := "()I", sig := { parameters := [], returnType := some .int }, accessFlags := 0, code := some k2c5 }
def k2c6 : Code := { maxStack := 4, maxLocals := 1, code := prog_7_method_8_code, exceptionTable := #[], attributes := #[] }
def k2m6 : Method := { name := "area", desc := "()D", sig := { parameters := [], returnType := some .double }, accessFlags := 0, code := some k2c6 }
/-- com/example/vetrino/vetrino/Overlap -/
def k2 : Class := { plain "com/example/vetrino/vetrino/Overlap" (some 0) with
  accessFlags := 48
  interfaces := #[]
  cf := some (fileOf pool2 8 #[] #[{ accessFlags := 2, nameIndex := 5, descriptorIndex := 33, attributes := #[] }, { accessFlags := 8, nameIndex := 36, descriptorIndex := 37, attributes := #[] }, { accessFlags := 0, nameIndex := 11, descriptorIndex := 40, attributes := #[] }, { accessFlags := 0, nameIndex := 15, descriptorIndex := 40, attributes := #[] }, { accessFlags := 0, nameIndex := 18, descriptorIndex := 40, attributes := #[] }, { accessFlags := 0, nameIndex := 21, descriptorIndex := 40, attributes := #[] }, { accessFlags := 0, nameIndex := 41, descriptorIndex := 42, attributes := #[] }] 48 2 #[] #[{ accessFlags := 18, nameIndex := 11, descriptorIndex := 12, attributes := #[] }, { accessFlags := 18, nameIndex := 15, descriptorIndex := 12, attributes := #[] }, { accessFlags := 18, nameIndex := 18, descriptorIndex := 12, attributes := #[] }, { accessFlags := 18, nameIndex := 21, descriptorIndex := 12, attributes := #[] }])
  fields := #[{ name := "left", type := .int, accessFlags := 18, slot := 0, constantValue := 0 }, { name := "top", type := .int, accessFlags := 18, slot := 1, constantValue := 0 }, { name := "right", type := .int, accessFlags := 18, slot := 2, constantValue := 0 }, { name := "bottom", type := .int, accessFlags := 18, slot := 3, constantValue := 0 }]
  methods := #[k2m0, k2m1, k2m2, k2m3, k2m4, k2m5, k2m6]
  instanceTypes := #[.int, .int, .int, .int]
  staticTypes := #[]
  resolved := Array.replicate 46 none
  statics := none }

def pool3 : Array CpInfo := pool [(1, .class_ 2), (0, u "java/lang/Math"), (1, .class_ 6), (1, u "java/lang/Object"), (0, u "<init>"), (0, u "()V"), (89, .class_ 100), (1, u "java/lang/Math$RandomNumberGeneratorHolder"), (20, u "(JJ)J"), (2, u "abs"), (0, u "(J)J"), (46, u "negativeZeroFloatBits"), (0, u "J"), (2, u "negativeZeroDoubleBits"), (21, u "max"), (2, u "min"), (43, u "$assertionsDisabled"), (0, u "Z"), (88, u "(II)I"), (2, u "twoToTheDoubleScaleDown"), (0, u "D"), (4, u "twoToTheDoubleScaleUp"), (9, u "E"), (3, u "PI"), (2, u "TAU"), (2, u "DEGREES_TO_RADIANS"), (0, u "RADIANS_TO_DEGREES")] 94

def k3m0 : Method := { name := "<init>", desc := "()V", sig := { parameters := [], returnType := none }, accessFlags := 2, code := none }
def k3c1 : Code := { maxStack := 4, maxLocals := 2, code := jdk_29_method_61_code, exceptionTable := #[], attributes := #[] }
def k3m1 : Method := { name := "abs", desc := "(J)J", sig := { parameters := [.long], returnType := some .long }, accessFlags := 9, code := some k3c1 }
def k3c2 : Code := { maxStack := 2, maxLocals := 2, code := jdk_29_method_65_code, exceptionTable := #[], attributes := #[] }
def k3m2 : Method := { name := "max", desc := "(II)I", sig := { parameters := [.int, .int], returnType := some .int }, accessFlags := 9, code := some k3c2 }
def k3c3 : Code := { maxStack := 4, maxLocals := 4, code := jdk_29_method_66_code, exceptionTable := #[], attributes := #[] }
def k3m3 : Method := { name := "max", desc := "(JJ)J", sig := { parameters := [.long, .long], returnType := some .long }, accessFlags := 9, code := some k3c3 }
def k3c4 : Code := { maxStack := 2, maxLocals := 2, code := jdk_29_method_69_code, exceptionTable := #[], attributes := #[] }
def k3m4 : Method := { name := "min", desc := "(II)I", sig := { parameters := [.int, .int], returnType := some .int }, accessFlags := 9, code := some k3c4 }
/-- java/lang/Math -/
def k3 : Class := { plain "java/lang/Math" (some 0) with
  accessFlags := 49
  interfaces := #[]
  cf := some (fileOf pool3 1 #[.nestMembers #[98]] #[{ accessFlags := 2, nameIndex := 7, descriptorIndex := 8, attributes := #[] }, { accessFlags := 9, nameIndex := 124, descriptorIndex := 125, attributes := #[] }, { accessFlags := 9, nameIndex := 198, descriptorIndex := 335, attributes := #[] }, { accessFlags := 9, nameIndex := 198, descriptorIndex := 121, attributes := #[] }, { accessFlags := 9, nameIndex := 201, descriptorIndex := 335, attributes := #[] }] 49 4 #[] #[{ accessFlags := 25, nameIndex := 354, descriptorIndex := 339, attributes := #[] }, { accessFlags := 25, nameIndex := 358, descriptorIndex := 339, attributes := #[] }, { accessFlags := 25, nameIndex := 361, descriptorIndex := 339, attributes := #[] }, { accessFlags := 26, nameIndex := 364, descriptorIndex := 339, attributes := #[] }, { accessFlags := 26, nameIndex := 365, descriptorIndex := 339, attributes := #[] }, { accessFlags := 26, nameIndex := 172, descriptorIndex := 173, attributes := #[] }, { accessFlags := 26, nameIndex := 176, descriptorIndex := 173, attributes := #[] }, { accessFlags := 8, nameIndex := 344, descriptorIndex := 339, attributes := #[] }, { accessFlags := 8, nameIndex := 338, descriptorIndex := 339, attributes := #[] }, { accessFlags := 4120, nameIndex := 245, descriptorIndex := 246, attributes := #[] }])
  fields := #[{ name := "E", type := .double, accessFlags := 25, slot := 0, constantValue := 0 }, { name := "PI", type := .double, accessFlags := 25, slot := 1, constantValue := 0 }, { name := "TAU", type := .double, accessFlags := 25, slot := 2, constantValue := 0 }, { name := "DEGREES_TO_RADIANS", type := .double, accessFlags := 26, slot := 3, constantValue := 0 }, { name := "RADIANS_TO_DEGREES", type := .double, accessFlags := 26, slot := 4, constantValue := 0 }, { name := "negativeZeroFloatBits", type := .long, accessFlags := 26, slot := 5, constantValue := 0 }, { name := "negativeZeroDoubleBits", type := .long, accessFlags := 26, slot := 6, constantValue := 0 }, { name := "twoToTheDoubleScaleUp", type := .double, accessFlags := 8, slot := 7, constantValue := 0 }, { name := "twoToTheDoubleScaleDown", type := .double, accessFlags := 8, slot := 8, constantValue := 0 }, { name := "$assertionsDisabled", type := .boolean, accessFlags := 4120, slot := 9, constantValue := 0 }]
  methods := #[k3m0, k3m1, k3m2, k3m3, k3m4]
  instanceTypes := #[]
  staticTypes := #[.double, .double, .double, .double, .double, .long, .long, .double, .double, .boolean]
  resolved := Array.replicate 460 none
  statics := none }

def pool4 : Array CpInfo := pool [(1, u "java/lang/Cloneable"), (0, .class_ 1), (0, u "java/lang/Object"), (0, .class_ 3)] 3

/-- java/lang/Cloneable -/
def k4 : Class := { plain "java/lang/Cloneable" (some 0) with
  accessFlags := 1537
  interfaces := #[]
  cf := some (fileOf pool4 2 #[] #[] 1537 4 #[] #[])
  fields := #[]
  methods := #[]
  instanceTypes := #[]
  staticTypes := #[]
  resolved := Array.replicate 8 none
  statics := none }

def pool5 : Array CpInfo := pool [(1, u "java/io/Serializable"), (0, .class_ 1), (0, u "java/lang/Object"), (0, .class_ 3)] 3

/-- java/io/Serializable -/
def k5 : Class := { plain "java/io/Serializable" (some 0) with
  accessFlags := 1537
  interfaces := #[]
  cf := some (fileOf pool5 2 #[] #[] 1537 4 #[] #[])
  fields := #[]
  methods := #[]
  instanceTypes := #[]
  staticTypes := #[]
  resolved := Array.replicate 8 none
  statics := none }

/-- the primitive byte -/
def k6 : Class := { plain "byte" none with kind := .primitive 'B', accessFlags := 0x411 }
/-- [B -/
def k7 : Class := { plain "[B" (some 0) with kind := .array 6 .byte, interfaces := #[4, 5], accessFlags := 1041 }

/-- the primitive int -/
def k8 : Class := { plain "int" none with kind := .primitive 'I', accessFlags := 0x411 }
/-- [I -/
def k9 : Class := { plain "[I" (some 0) with kind := .array 8 .int, interfaces := #[4, 5], accessFlags := 1041 }

def heap : Heap := #[]
def classes : Array Class := #[k0, k1, k2, k3, k4, k5, k6, k7, k8, k9]
def interned : List (Array UInt16 × Addr) := []
def slotsUsed : Nat := 0
def theMethod : MethodId := ⟨1, 1⟩
def args0 : Array Value := #[.int 5, .int 5, .int 5, .int 5, .int 5, .int 5]
def aboutOver (below : List Frame) : State where
  vm := { classes := classes, interned := interned.toArray }
  heap := heap
  slotsUsed := slotsUsed
  threads := #[{ frames := .invoking theMethod args0 :: below }]
def below0 : List Frame := [.native { method := ⟨0, 0⟩, args := #[] }]
def about1 : State := aboutOver below0
def p0 : Program := .bare "" "" ""
def e0 : Env := launch0.env 0 0 0
theorem w_frames : about1.frames = Frame.invoking theMethod args0 :: below0 := rfl
set_option maxRecDepth 65536 in
theorem w_args : argsFit about1.vm theMethod args0 = true := by decide +kernel
set_option maxRecDepth 65536 in
theorem w_heap : heapFits about1 = true := by decide +kernel
set_option maxRecDepth 65536 in
theorem w_runnable : about1.curStatus? = some .runnable := by decide +kernel
set_option maxRecDepth 65536 in
theorem w_alone : about1.alone = true := by decide +kernel
set_option maxRecDepth 65536 in
theorem w_named : about1.methodNamed? x = some theMethod := by decide +kernel
set_option maxRecDepth 65536 in
theorem w_hears : about1.hears theMethod below0 = true := by decide +kernel
set_option maxRecDepth 65536 in
theorem w_ripe : about1.ripe theMethod args0 below0 = true := by decide +kernel
theorem w_running : about1.status = .running := rfl
set_option maxRecDepth 65536 in
theorem w_room : about1.hasRoom e0.platform room_1 = true :=
  launch0.hasRoom_least _ room_1 (by decide +kernel) (by decide +kernel) (by decide +kernel) (by decide +kernel) (by decide +kernel) (by decide +kernel)
theorem allAtoms_all (ts : List Jvm.Cond) (a : Array Jvm.Value) (st : Jvm.State) : (allAtoms ts).before a st = ts.all (fun c => c.before a st) := by
  induction ts with
  | nil => rfl
  | cons c t ih =>
    show (Jvm.Cond.and c (allAtoms t)).before a st = _
    rw [Jvm.Cond.before_and, ih, List.all_cons]
def words1 : List Jvm.Cond := Jvm.Cond.code x code maxLocals ret :: tables_1
/-- a 'code' word, met by the world's own term for the bytes: nothing is compared byte by byte -/
theorem code_word {y : MethodName} {bytes : ByteArray} {mx : Nat} {rt : Option FieldType} {a : Array Value} {s : State} {m : MethodId} {meth : Method} {c : Code} (h1 : s.methodNamed? y = some m) (h2 : s.vm.method? m = some meth) (h3 : meth.code = some c) (h4 : c.code = bytes)
    (h5 : (c.maxLocals == mx && c.exceptionTable.isEmpty && decide (c.maxStack ≤ mostOperands) && decide (meth.sig.returnType = rt) && !meth.locks && decide (parseMethodDescriptor y.desc = some meth.sig)) = true) : (Jvm.Cond.code y bytes mx rt).before a s = true := by
  simp only [Bool.and_eq_true, beq_iff_eq, Bool.not_eq_true', decide_eq_true_eq] at h5
  obtain ⟨⟨⟨⟨⟨g1, g2⟩, g3⟩, g4⟩, g5⟩, g6⟩ := h5
  simp [Cond.before, Cond.holds, Cond.value, h1, h2, h3, h4, g1, g2, g3, g4, g5, g6]
def isCode : Jvm.Cond → Bool
  | .code _ _ _ _ => true
  | _ => false
theorem all_split {L : List Jvm.Cond} {P : Jvm.Cond → Bool} (h1 : L.all (fun c => isCode c || P c) = true) (h2 : ∀ c ∈ L.filter isCode, P c = true) : L.all P = true := by
  refine List.all_eq_true.mpr fun c hc => ?_
  have h := List.all_eq_true.mp h1 c hc
  rcases Bool.eq_false_or_eq_true (isCode c) with hi | hi
  · exact h2 c (List.mem_filter.mpr ⟨hc, hi⟩)
  · simpa [hi] using h
set_option maxRecDepth 65536 in
theorem w_c0 : (Jvm.Cond.code x code maxLocals ret).before args0 about1 = true := code_word (m := ⟨1, 1⟩) (meth := k1m1) (c := k1c1) (by decide +kernel) rfl rfl rfl (by decide +kernel)
set_option maxRecDepth 65536 in
theorem w_c1 : (Jvm.Cond.code ({ cls := "com/example/vetrino/vetrino/OverlapOfPinLaw", name := "probe", desc := "(III)I" } : Jvm.MethodName) method_3_code (7 : Nat) (Option.some Jvm.ClassFile.FieldType.int)).before args0 about1 = true := code_word (m := ⟨1, 2⟩) (meth := k1m2) (c := k1c2) (by decide +kernel) rfl rfl rfl (by decide +kernel)
set_option maxRecDepth 65536 in
theorem w_c2 : (Jvm.Cond.code ({ cls := "com/example/vetrino/vetrino/Overlap", name := "of", desc := "(IIII)Lcom/example/vetrino/vetrino/Overlap;" } : Jvm.MethodName) prog_7_method_2_code (4 : Nat) (Option.some (Jvm.ClassFile.FieldType.object "com/example/vetrino/vetrino/Overlap"))).before args0 about1 = true := code_word (m := ⟨2, 1⟩) (meth := k2m1) (c := k2c1) (by decide +kernel) rfl rfl rfl (by decide +kernel)
set_option maxRecDepth 65536 in
theorem w_c3 : (Jvm.Cond.code ({ cls := "java/lang/Math", name := "max", desc := "(II)I" } : Jvm.MethodName) jdk_29_method_65_code (2 : Nat) (Option.some Jvm.ClassFile.FieldType.int)).before args0 about1 = true := code_word (m := ⟨3, 2⟩) (meth := k3m2) (c := k3c2) (by decide +kernel) rfl rfl rfl (by decide +kernel)
set_option maxRecDepth 65536 in
theorem w_c4 : (Jvm.Cond.code ({ cls := "java/lang/Math", name := "min", desc := "(II)I" } : Jvm.MethodName) jdk_29_method_69_code (2 : Nat) (Option.some Jvm.ClassFile.FieldType.int)).before args0 about1 = true := code_word (m := ⟨3, 4⟩) (meth := k3m4) (c := k3c4) (by decide +kernel) rfl rfl rfl (by decide +kernel)
set_option maxRecDepth 65536 in
theorem w_c5 : (Jvm.Cond.code ({ cls := "com/example/vetrino/vetrino/Overlap", name := "<init>", desc := "(IIII)V" } : Jvm.MethodName) prog_7_method_1_code (5 : Nat) (Option.none : Option Jvm.ClassFile.FieldType)).before args0 about1 = true := code_word (m := ⟨2, 0⟩) (meth := k2m0) (c := k2c0) (by decide +kernel) rfl rfl rfl (by decide +kernel)
set_option maxRecDepth 65536 in
theorem w_c6 : (Jvm.Cond.code ({ cls := "java/lang/Object", name := "<init>", desc := "()V" } : Jvm.MethodName) object_method_1_code (1 : Nat) (Option.none : Option Jvm.ClassFile.FieldType)).before args0 about1 = true := code_word (m := ⟨0, 0⟩) (meth := k0m0) (c := k0c0) (by decide +kernel) rfl rfl rfl (by decide +kernel)
set_option maxRecDepth 65536 in
theorem w_c7 : (Jvm.Cond.code ({ cls := "com/example/vetrino/vetrino/Overlap", name := "left", desc := "()I" } : Jvm.MethodName) prog_7_method_4_code (1 : Nat) (Option.some Jvm.ClassFile.FieldType.int)).before args0 about1 = true := code_word (m := ⟨2, 2⟩) (meth := k2m2) (c := k2c2) (by decide +kernel) rfl rfl rfl (by decide +kernel)
set_option maxRecDepth 65536 in
theorem w_c8 : (Jvm.Cond.code ({ cls := "com/example/vetrino/vetrino/Overlap", name := "top", desc := "()I" } : Jvm.MethodName) prog_7_method_5_code (1 : Nat) (Option.some Jvm.ClassFile.FieldType.int)).before args0 about1 = true := code_word (m := ⟨2, 3⟩) (meth := k2m3) (c := k2c3) (by decide +kernel) rfl rfl rfl (by decide +kernel)
set_option maxRecDepth 65536 in
theorem w_c9 : (Jvm.Cond.code ({ cls := "com/example/vetrino/vetrino/Overlap", name := "bottom", desc := "()I" } : Jvm.MethodName) prog_7_method_7_code (1 : Nat) (Option.some Jvm.ClassFile.FieldType.int)).before args0 about1 = true := code_word (m := ⟨2, 5⟩) (meth := k2m5) (c := k2c5) (by decide +kernel) rfl rfl rfl (by decide +kernel)
set_option maxRecDepth 65536 in
theorem w_c10 : (Jvm.Cond.code ({ cls := "com/example/vetrino/vetrino/OverlapOfPinLaw", name := "meets", desc := "(III)Z" } : Jvm.MethodName) method_4_code (7 : Nat) (Option.some Jvm.ClassFile.FieldType.boolean)).before args0 about1 = true := code_word (m := ⟨1, 3⟩) (meth := k1m3) (c := k1c3) (by decide +kernel) rfl rfl rfl (by decide +kernel)
set_option maxRecDepth 65536 in
theorem w_c11 : (Jvm.Cond.code ({ cls := "java/lang/Math", name := "abs", desc := "(J)J" } : Jvm.MethodName) jdk_29_method_61_code (2 : Nat) (Option.some Jvm.ClassFile.FieldType.long)).before args0 about1 = true := code_word (m := ⟨3, 1⟩) (meth := k3m1) (c := k3c1) (by decide +kernel) rfl rfl rfl (by decide +kernel)
set_option maxRecDepth 65536 in
theorem w_c12 : (Jvm.Cond.code ({ cls := "java/lang/Math", name := "max", desc := "(JJ)J" } : Jvm.MethodName) jdk_29_method_66_code (4 : Nat) (Option.some Jvm.ClassFile.FieldType.long)).before args0 about1 = true := code_word (m := ⟨3, 3⟩) (meth := k3m3) (c := k3c3) (by decide +kernel) rfl rfl rfl (by decide +kernel)
set_option maxRecDepth 65536 in
theorem w_c13 : (Jvm.Cond.code ({ cls := "com/example/vetrino/vetrino/Overlap", name := "area", desc := "()D" } : Jvm.MethodName) prog_7_method_8_code (1 : Nat) (Option.some Jvm.ClassFile.FieldType.double)).before args0 about1 = true := code_word (m := ⟨2, 6⟩) (meth := k2m6) (c := k2c6) (by decide +kernel) rfl rfl rfl (by decide +kernel)
set_option maxRecDepth 65536 in
theorem w_c14 : (Jvm.Cond.code ({ cls := "com/example/vetrino/vetrino/Overlap", name := "right", desc := "()I" } : Jvm.MethodName) prog_7_method_6_code (1 : Nat) (Option.some Jvm.ClassFile.FieldType.int)).before args0 about1 = true := code_word (m := ⟨2, 4⟩) (meth := k2m4) (c := k2c4) (by decide +kernel) rfl rfl rfl (by decide +kernel)
def codes1 : List Jvm.Cond := [Jvm.Cond.code x code maxLocals ret, Jvm.Cond.code ({ cls := "com/example/vetrino/vetrino/OverlapOfPinLaw", name := "probe", desc := "(III)I" } : Jvm.MethodName) method_3_code (7 : Nat) (Option.some Jvm.ClassFile.FieldType.int), Jvm.Cond.code ({ cls := "com/example/vetrino/vetrino/Overlap", name := "of", desc := "(IIII)Lcom/example/vetrino/vetrino/Overlap;" } : Jvm.MethodName) prog_7_method_2_code (4 : Nat) (Option.some (Jvm.ClassFile.FieldType.object "com/example/vetrino/vetrino/Overlap")), Jvm.Cond.code ({ cls := "java/lang/Math", name := "max", desc := "(II)I" } : Jvm.MethodName) jdk_29_method_65_code (2 : Nat) (Option.some Jvm.ClassFile.FieldType.int), Jvm.Cond.code ({ cls := "java/lang/Math", name := "min", desc := "(II)I" } : Jvm.MethodName) jdk_29_method_69_code (2 : Nat) (Option.some Jvm.ClassFile.FieldType.int), Jvm.Cond.code ({ cls := "com/example/vetrino/vetrino/Overlap", name := "<init>", desc := "(IIII)V" } : Jvm.MethodName) prog_7_method_1_code (5 : Nat) (Option.none : Option Jvm.ClassFile.FieldType), Jvm.Cond.code ({ cls := "java/lang/Object", name := "<init>", desc := "()V" } : Jvm.MethodName) object_method_1_code (1 : Nat) (Option.none : Option Jvm.ClassFile.FieldType), Jvm.Cond.code ({ cls := "com/example/vetrino/vetrino/Overlap", name := "left", desc := "()I" } : Jvm.MethodName) prog_7_method_4_code (1 : Nat) (Option.some Jvm.ClassFile.FieldType.int), Jvm.Cond.code ({ cls := "com/example/vetrino/vetrino/Overlap", name := "top", desc := "()I" } : Jvm.MethodName) prog_7_method_5_code (1 : Nat) (Option.some Jvm.ClassFile.FieldType.int), Jvm.Cond.code ({ cls := "com/example/vetrino/vetrino/Overlap", name := "bottom", desc := "()I" } : Jvm.MethodName) prog_7_method_7_code (1 : Nat) (Option.some Jvm.ClassFile.FieldType.int), Jvm.Cond.code ({ cls := "com/example/vetrino/vetrino/OverlapOfPinLaw", name := "meets", desc := "(III)Z" } : Jvm.MethodName) method_4_code (7 : Nat) (Option.some Jvm.ClassFile.FieldType.boolean), Jvm.Cond.code ({ cls := "java/lang/Math", name := "abs", desc := "(J)J" } : Jvm.MethodName) jdk_29_method_61_code (2 : Nat) (Option.some Jvm.ClassFile.FieldType.long), Jvm.Cond.code ({ cls := "java/lang/Math", name := "max", desc := "(JJ)J" } : Jvm.MethodName) jdk_29_method_66_code (4 : Nat) (Option.some Jvm.ClassFile.FieldType.long), Jvm.Cond.code ({ cls := "com/example/vetrino/vetrino/Overlap", name := "area", desc := "()D" } : Jvm.MethodName) prog_7_method_8_code (1 : Nat) (Option.some Jvm.ClassFile.FieldType.double), Jvm.Cond.code ({ cls := "com/example/vetrino/vetrino/Overlap", name := "right", desc := "()I" } : Jvm.MethodName) prog_7_method_6_code (1 : Nat) (Option.some Jvm.ClassFile.FieldType.int)]
set_option maxRecDepth 65536 in
theorem codes_eq : words1.filter isCode = codes1 := rfl
theorem w_codes : ∀ c ∈ words1.filter isCode, c.before args0 about1 = true := by
  rw [codes_eq]
  intro c hc
  simp only [codes1, List.mem_cons, List.not_mem_nil, or_false] at hc
  rcases hc with rfl | rfl | rfl | rfl | rfl | rfl | rfl | rfl | rfl | rfl | rfl | rfl | rfl | rfl | rfl
  · exact w_c0
  · exact w_c1
  · exact w_c2
  · exact w_c3
  · exact w_c4
  · exact w_c5
  · exact w_c6
  · exact w_c7
  · exact w_c8
  · exact w_c9
  · exact w_c10
  · exact w_c11
  · exact w_c12
  · exact w_c13
  · exact w_c14
set_option maxRecDepth 65536 in
theorem w_t1 : (words1.take 24).all (fun c => isCode c || c.before args0 about1) = true := by decide +kernel
set_option maxRecDepth 65536 in
theorem w_t2 : ((words1.drop 24).take 24).all (fun c => isCode c || c.before args0 about1) = true := by decide +kernel
set_option maxRecDepth 65536 in
theorem w_t3 : ((words1.drop 24).drop 24).all (fun c => isCode c || c.before args0 about1) = true := by decide +kernel
theorem w_tables : (allAtoms (Jvm.Cond.code x code maxLocals ret :: tables_1)).before args0 about1 = true := by
  rw [allAtoms_all]
  show words1.all (fun c => c.before args0 about1) = true
  refine all_split ?_ w_codes
  rw [← List.take_append_drop 24 words1, List.all_append, w_t1, ← List.take_append_drop 24 (words1.drop 24), List.all_append, w_t2, w_t3]
  rfl
set_option maxRecDepth 65536 in
theorem w_case : (Jvm.Cond.and given_1 narrow_1).before args0 about1 = true := by decide +kernel
theorem w_applies : (headSpec (Jvm.Cond.code x code maxLocals ret :: tables_1) room_1).applies x e0.platform about1 = true :=
  (Spec.applies_iff w_frames).mpr ⟨w_running, w_runnable, w_alone, w_named, w_hears, w_ripe, w_room, w_tables⟩
theorem atStart : AtStart classFile x code maxLocals ret World_1 tables_1 room_1 Calls_1 rest_1 Pre_1 launch0 p0 e0 about1 theMethod args0 below0 :=
  ⟨lists_1, trivial, launch0.admits_env _ _ _, launch0.least_env, fairChoices_fair.cas, fairChoices_fair.clock, w_frames, w_args, w_heap, w_applies, trivial, trivial, w_case⟩
end start1
theorem witness_1 : WitnessClaimed_1 := ⟨start1.p0, start1.e0, start1.about1, start1.theMethod, start1.args0, start1.below0, start1.atStart⟩
end Jvm.Pilot.@@N@@
