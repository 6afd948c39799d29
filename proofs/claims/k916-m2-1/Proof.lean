import JvmDerived
import JvmDerived.Pilot.@@N@@Statement
import JvmDerived.Pilot.@@N@@Code
set_option linter.unusedVariables false
set_option linter.unusedSimpArgs false
namespace Jvm.RoadKit
open Sem ClassFile Op Lib Jvm.Stand Jvm.Free Jvm.LawKit
section New
variable {p : Program} {l : Launch} {e : Env} {R : Room} {s : State} {m : MethodId} {args : Array Value} {below : List Frame} {meth : Method} {c : Code} {T : State} {locs : List Loc} {cells slots : Nat}
theorem retI (X : Stand p l e R s m args below meth c T locs cells slots) (hx : p.tables.exec = Jvm.exec) {pc : Nat} {Ls : Array Slot} {z : Int32} {rest : List Value} (hret : meth.sig.returnType = some .int) (hd : decode c.code pc = .ok (.ireturn, 1)) {fs : List Frame}
    (hl : ∀ (f : JFrame) (acts : List Action), f.method = m → f.locked = none → f.entered = [] → (doReturn e (T.setTop f) acts (some (.int z))).1 = T.setFrames fs) : Steps p.tables e below (T.setTop (mkF m pc Ls (.int z :: rest))) (T.setFrames fs) := by
  have hm' : T.vm.method? m = some meth := X.method'
  have hn : narrow .int (.int z) = .int z := rfl
  show Steps p.tables e below (T.setTop { method := m, pc := pc, locals := Ls, stack := _ :: rest, locked := none }) _
  jvm_step X.here [X.here.top, hx, hd, hm', hret, hn]
  first | (intro acts; rw [hl _ acts rfl rfl rfl]) | rw [hl _ _ rfl rfl rfl]
  exact Steps.refl _
end New
end Jvm.RoadKit
namespace Jvm.Pilot.@@N@@
open Jvm Jvm.ClassFile Sem Op Lib Jvm.Free Jvm.Stand Jvm.LawKit Jvm.RoadKit Bundle Jvm.Pilot.@@N@@.Jvm.D
def f1_0 (n1 : Int32) (s0 : Int32) (s1 : Int32) (s2 : Int32) (s3 : Int32) (s4 : Int32) (s5 : Int32) (s6 : Int32) : Int32 := ((if s0 = (0 : Int32) then (1 : Int32) else (0 : Int32)) &&& 1)
def f1_1 (n1 : Int32) (s0 : Int32) (s1 : Int32) (s2 : Int32) (s3 : Int32) (s4 : Int32) (s5 : Int32) (s6 : Int32) : Int32 := ((if s1 = (0 : Int32) then (1 : Int32) else (0 : Int32)) &&& 1)
def f1_2 (n1 : Int32) (s0 : Int32) (s1 : Int32) (s2 : Int32) (s3 : Int32) (s4 : Int32) (s5 : Int32) (s6 : Int32) : Int32 := ((if s2 = (0 : Int32) then (1 : Int32) else (0 : Int32)) &&& 1)
def f1_3 (n1 : Int32) (s0 : Int32) (s1 : Int32) (s2 : Int32) (s3 : Int32) (s4 : Int32) (s5 : Int32) (s6 : Int32) : Int32 := ((if s3 = (0 : Int32) then (1 : Int32) else (0 : Int32)) &&& 1)
def f1_4 (n1 : Int32) (s0 : Int32) (s1 : Int32) (s2 : Int32) (s3 : Int32) (s4 : Int32) (s5 : Int32) (s6 : Int32) : Int32 := ((if s4 = (0 : Int32) then (1 : Int32) else (0 : Int32)) &&& 1)
def f1_5 (n1 : Int32) (s0 : Int32) (s1 : Int32) (s2 : Int32) (s3 : Int32) (s4 : Int32) (s5 : Int32) (s6 : Int32) : Int32 := ((if s5 = (0 : Int32) then (1 : Int32) else (0 : Int32)) &&& 1)
def f1_6 (n1 : Int32) (s0 : Int32) (s1 : Int32) (s2 : Int32) (s3 : Int32) (s4 : Int32) (s5 : Int32) (s6 : Int32) : Int32 := ((if s6 = (0 : Int32) then (1 : Int32) else (0 : Int32)) &&& 1)
def f1_x0 (n1 : Int32) (s0 : Int32) (s1 : Int32) (s2 : Int32) (s3 : Int32) (s4 : Int32) (s5 : Int32) (s6 : Int32) : Int32 := (if (0 : Int32) < n1 then (f1_0 n1 s0 s1 s2 s3 s4 s5 s6) else (0 : Int32))
def f1_x1 (n1 : Int32) (s0 : Int32) (s1 : Int32) (s2 : Int32) (s3 : Int32) (s4 : Int32) (s5 : Int32) (s6 : Int32) : Int32 := (if (0 : Int32) < n1 then (if (1 : Int32) < n1 then (f1_1 n1 s0 s1 s2 s3 s4 s5 s6) else (0 : Int32)) else (0 : Int32))
def f1_x2 (n1 : Int32) (s0 : Int32) (s1 : Int32) (s2 : Int32) (s3 : Int32) (s4 : Int32) (s5 : Int32) (s6 : Int32) : Int32 := (if (0 : Int32) < n1 then (if (1 : Int32) < n1 then (if (2 : Int32) < n1 then (f1_2 n1 s0 s1 s2 s3 s4 s5 s6) else (0 : Int32)) else (0 : Int32)) else (0 : Int32))
def f1_x3 (n1 : Int32) (s0 : Int32) (s1 : Int32) (s2 : Int32) (s3 : Int32) (s4 : Int32) (s5 : Int32) (s6 : Int32) : Int32 := (if (0 : Int32) < n1 then (if (1 : Int32) < n1 then (if (2 : Int32) < n1 then (if (3 : Int32) < n1 then (f1_3 n1 s0 s1 s2 s3 s4 s5 s6) else (0 : Int32)) else (0 : Int32)) else (0 : Int32)) else (0 : Int32))
def f1_x4 (n1 : Int32) (s0 : Int32) (s1 : Int32) (s2 : Int32) (s3 : Int32) (s4 : Int32) (s5 : Int32) (s6 : Int32) : Int32 := (if (0 : Int32) < n1 then (if (1 : Int32) < n1 then (if (2 : Int32) < n1 then (if (3 : Int32) < n1 then (if (4 : Int32) < n1 then (f1_4 n1 s0 s1 s2 s3 s4 s5 s6) else (0 : Int32)) else (0 : Int32)) else (0 : Int32)) else (0 : Int32)) else (0 : Int32))
def f1_x5 (n1 : Int32) (s0 : Int32) (s1 : Int32) (s2 : Int32) (s3 : Int32) (s4 : Int32) (s5 : Int32) (s6 : Int32) : Int32 := (if (0 : Int32) < n1 then (if (1 : Int32) < n1 then (if (2 : Int32) < n1 then (if (3 : Int32) < n1 then (if (4 : Int32) < n1 then (if (5 : Int32) < n1 then (f1_5 n1 s0 s1 s2 s3 s4 s5 s6) else (0 : Int32)) else (0 : Int32)) else (0 : Int32)) else (0 : Int32)) else (0 : Int32)) else (0 : Int32))
def f1_x6 (n1 : Int32) (s0 : Int32) (s1 : Int32) (s2 : Int32) (s3 : Int32) (s4 : Int32) (s5 : Int32) (s6 : Int32) : Int32 := (if (0 : Int32) < n1 then (if (1 : Int32) < n1 then (if (2 : Int32) < n1 then (if (3 : Int32) < n1 then (if (4 : Int32) < n1 then (if (5 : Int32) < n1 then (if (6 : Int32) < n1 then (f1_6 n1 s0 s1 s2 s3 s4 s5 s6) else (0 : Int32)) else (0 : Int32)) else (0 : Int32)) else (0 : Int32)) else (0 : Int32)) else (0 : Int32)) else (0 : Int32))
def fat0_0 (p4 : Int32) (n1 : Int32) (s0 : Int32) (s1 : Int32) (s2 : Int32) (s3 : Int32) (s4 : Int32) (s5 : Int32) (s6 : Int32) (r0 : Int32) (r1 : Int32) (r2 : Int32) (r3 : Int32) (r4 : Int32) (r5 : Int32) (r6 : Int32) : Int32 := (if ((XT.ushr p4 (0 : Int32)) &&& (1 : Int32)) = (0 : Int32) then (0 : Int32) else (1 : Int32))
def fat0_1 (p4 : Int32) (n1 : Int32) (s0 : Int32) (s1 : Int32) (s2 : Int32) (s3 : Int32) (s4 : Int32) (s5 : Int32) (s6 : Int32) (r0 : Int32) (r1 : Int32) (r2 : Int32) (r3 : Int32) (r4 : Int32) (r5 : Int32) (r6 : Int32) : Int32 := (if (fat0_0 p4 n1 s0 s1 s2 s3 s4 s5 s6 r0 r1 r2 r3 r4 r5 r6) = (0 : Int32) then (1 : Int32) else (0 : Int32))
def fat0_2 (p4 : Int32) (n1 : Int32) (s0 : Int32) (s1 : Int32) (s2 : Int32) (s3 : Int32) (s4 : Int32) (s5 : Int32) (s6 : Int32) (r0 : Int32) (r1 : Int32) (r2 : Int32) (r3 : Int32) (r4 : Int32) (r5 : Int32) (r6 : Int32) : Int32 := (if r0 = (fat0_1 p4 n1 s0 s1 s2 s3 s4 s5 s6 r0 r1 r2 r3 r4 r5 r6) then (1 : Int32) else (0 : Int32))
def fat0_3 (p4 : Int32) (n1 : Int32) (s0 : Int32) (s1 : Int32) (s2 : Int32) (s3 : Int32) (s4 : Int32) (s5 : Int32) (s6 : Int32) (r0 : Int32) (r1 : Int32) (r2 : Int32) (r3 : Int32) (r4 : Int32) (r5 : Int32) (r6 : Int32) : Int32 := (if s0 = (fat0_0 p4 n1 s0 s1 s2 s3 s4 s5 s6 r0 r1 r2 r3 r4 r5 r6) then (fat0_2 p4 n1 s0 s1 s2 s3 s4 s5 s6 r0 r1 r2 r3 r4 r5 r6) else (0 : Int32))
def fat0 (p4 : Int32) (n1 : Int32) (s0 : Int32) (s1 : Int32) (s2 : Int32) (s3 : Int32) (s4 : Int32) (s5 : Int32) (s6 : Int32) (r0 : Int32) (r1 : Int32) (r2 : Int32) (r3 : Int32) (r4 : Int32) (r5 : Int32) (r6 : Int32) : Int32 := (if (0 : Int32) < n1 then ((fat0_3 p4 n1 s0 s1 s2 s3 s4 s5 s6 r0 r1 r2 r3 r4 r5 r6) &&& 1) else (1 : Int32))
def fat1_0 (p4 : Int32) (n1 : Int32) (s0 : Int32) (s1 : Int32) (s2 : Int32) (s3 : Int32) (s4 : Int32) (s5 : Int32) (s6 : Int32) (r0 : Int32) (r1 : Int32) (r2 : Int32) (r3 : Int32) (r4 : Int32) (r5 : Int32) (r6 : Int32) : Int32 := (if ((XT.ushr p4 (1 : Int32)) &&& (1 : Int32)) = (0 : Int32) then (0 : Int32) else (1 : Int32))
def fat1_1 (p4 : Int32) (n1 : Int32) (s0 : Int32) (s1 : Int32) (s2 : Int32) (s3 : Int32) (s4 : Int32) (s5 : Int32) (s6 : Int32) (r0 : Int32) (r1 : Int32) (r2 : Int32) (r3 : Int32) (r4 : Int32) (r5 : Int32) (r6 : Int32) : Int32 := (if (fat1_0 p4 n1 s0 s1 s2 s3 s4 s5 s6 r0 r1 r2 r3 r4 r5 r6) = (0 : Int32) then (1 : Int32) else (0 : Int32))
def fat1_2 (p4 : Int32) (n1 : Int32) (s0 : Int32) (s1 : Int32) (s2 : Int32) (s3 : Int32) (s4 : Int32) (s5 : Int32) (s6 : Int32) (r0 : Int32) (r1 : Int32) (r2 : Int32) (r3 : Int32) (r4 : Int32) (r5 : Int32) (r6 : Int32) : Int32 := (if r1 = (fat1_1 p4 n1 s0 s1 s2 s3 s4 s5 s6 r0 r1 r2 r3 r4 r5 r6) then (1 : Int32) else (0 : Int32))
def fat1_3 (p4 : Int32) (n1 : Int32) (s0 : Int32) (s1 : Int32) (s2 : Int32) (s3 : Int32) (s4 : Int32) (s5 : Int32) (s6 : Int32) (r0 : Int32) (r1 : Int32) (r2 : Int32) (r3 : Int32) (r4 : Int32) (r5 : Int32) (r6 : Int32) : Int32 := (if s1 = (fat1_0 p4 n1 s0 s1 s2 s3 s4 s5 s6 r0 r1 r2 r3 r4 r5 r6) then (fat1_2 p4 n1 s0 s1 s2 s3 s4 s5 s6 r0 r1 r2 r3 r4 r5 r6) else (0 : Int32))
def fat1 (p4 : Int32) (n1 : Int32) (s0 : Int32) (s1 : Int32) (s2 : Int32) (s3 : Int32) (s4 : Int32) (s5 : Int32) (s6 : Int32) (r0 : Int32) (r1 : Int32) (r2 : Int32) (r3 : Int32) (r4 : Int32) (r5 : Int32) (r6 : Int32) : Int32 := (if (1 : Int32) < n1 then ((fat1_3 p4 n1 s0 s1 s2 s3 s4 s5 s6 r0 r1 r2 r3 r4 r5 r6) &&& 1) else (1 : Int32))
def fat2_0 (p4 : Int32) (n1 : Int32) (s0 : Int32) (s1 : Int32) (s2 : Int32) (s3 : Int32) (s4 : Int32) (s5 : Int32) (s6 : Int32) (r0 : Int32) (r1 : Int32) (r2 : Int32) (r3 : Int32) (r4 : Int32) (r5 : Int32) (r6 : Int32) : Int32 := (if ((XT.ushr p4 (2 : Int32)) &&& (1 : Int32)) = (0 : Int32) then (0 : Int32) else (1 : Int32))
def fat2_1 (p4 : Int32) (n1 : Int32) (s0 : Int32) (s1 : Int32) (s2 : Int32) (s3 : Int32) (s4 : Int32) (s5 : Int32) (s6 : Int32) (r0 : Int32) (r1 : Int32) (r2 : Int32) (r3 : Int32) (r4 : Int32) (r5 : Int32) (r6 : Int32) : Int32 := (if (fat2_0 p4 n1 s0 s1 s2 s3 s4 s5 s6 r0 r1 r2 r3 r4 r5 r6) = (0 : Int32) then (1 : Int32) else (0 : Int32))
def fat2_2 (p4 : Int32) (n1 : Int32) (s0 : Int32) (s1 : Int32) (s2 : Int32) (s3 : Int32) (s4 : Int32) (s5 : Int32) (s6 : Int32) (r0 : Int32) (r1 : Int32) (r2 : Int32) (r3 : Int32) (r4 : Int32) (r5 : Int32) (r6 : Int32) : Int32 := (if r2 = (fat2_1 p4 n1 s0 s1 s2 s3 s4 s5 s6 r0 r1 r2 r3 r4 r5 r6) then (1 : Int32) else (0 : Int32))
def fat2_3 (p4 : Int32) (n1 : Int32) (s0 : Int32) (s1 : Int32) (s2 : Int32) (s3 : Int32) (s4 : Int32) (s5 : Int32) (s6 : Int32) (r0 : Int32) (r1 : Int32) (r2 : Int32) (r3 : Int32) (r4 : Int32) (r5 : Int32) (r6 : Int32) : Int32 := (if s2 = (fat2_0 p4 n1 s0 s1 s2 s3 s4 s5 s6 r0 r1 r2 r3 r4 r5 r6) then (fat2_2 p4 n1 s0 s1 s2 s3 s4 s5 s6 r0 r1 r2 r3 r4 r5 r6) else (0 : Int32))
def fat2 (p4 : Int32) (n1 : Int32) (s0 : Int32) (s1 : Int32) (s2 : Int32) (s3 : Int32) (s4 : Int32) (s5 : Int32) (s6 : Int32) (r0 : Int32) (r1 : Int32) (r2 : Int32) (r3 : Int32) (r4 : Int32) (r5 : Int32) (r6 : Int32) : Int32 := (if (2 : Int32) < n1 then ((fat2_3 p4 n1 s0 s1 s2 s3 s4 s5 s6 r0 r1 r2 r3 r4 r5 r6) &&& 1) else (1 : Int32))
def fat3_0 (p4 : Int32) (n1 : Int32) (s0 : Int32) (s1 : Int32) (s2 : Int32) (s3 : Int32) (s4 : Int32) (s5 : Int32) (s6 : Int32) (r0 : Int32) (r1 : Int32) (r2 : Int32) (r3 : Int32) (r4 : Int32) (r5 : Int32) (r6 : Int32) : Int32 := (if ((XT.ushr p4 (3 : Int32)) &&& (1 : Int32)) = (0 : Int32) then (0 : Int32) else (1 : Int32))
def fat3_1 (p4 : Int32) (n1 : Int32) (s0 : Int32) (s1 : Int32) (s2 : Int32) (s3 : Int32) (s4 : Int32) (s5 : Int32) (s6 : Int32) (r0 : Int32) (r1 : Int32) (r2 : Int32) (r3 : Int32) (r4 : Int32) (r5 : Int32) (r6 : Int32) : Int32 := (if (fat3_0 p4 n1 s0 s1 s2 s3 s4 s5 s6 r0 r1 r2 r3 r4 r5 r6) = (0 : Int32) then (1 : Int32) else (0 : Int32))
def fat3_2 (p4 : Int32) (n1 : Int32) (s0 : Int32) (s1 : Int32) (s2 : Int32) (s3 : Int32) (s4 : Int32) (s5 : Int32) (s6 : Int32) (r0 : Int32) (r1 : Int32) (r2 : Int32) (r3 : Int32) (r4 : Int32) (r5 : Int32) (r6 : Int32) : Int32 := (if r3 = (fat3_1 p4 n1 s0 s1 s2 s3 s4 s5 s6 r0 r1 r2 r3 r4 r5 r6) then (1 : Int32) else (0 : Int32))
def fat3_3 (p4 : Int32) (n1 : Int32) (s0 : Int32) (s1 : Int32) (s2 : Int32) (s3 : Int32) (s4 : Int32) (s5 : Int32) (s6 : Int32) (r0 : Int32) (r1 : Int32) (r2 : Int32) (r3 : Int32) (r4 : Int32) (r5 : Int32) (r6 : Int32) : Int32 := (if s3 = (fat3_0 p4 n1 s0 s1 s2 s3 s4 s5 s6 r0 r1 r2 r3 r4 r5 r6) then (fat3_2 p4 n1 s0 s1 s2 s3 s4 s5 s6 r0 r1 r2 r3 r4 r5 r6) else (0 : Int32))
def fat3 (p4 : Int32) (n1 : Int32) (s0 : Int32) (s1 : Int32) (s2 : Int32) (s3 : Int32) (s4 : Int32) (s5 : Int32) (s6 : Int32) (r0 : Int32) (r1 : Int32) (r2 : Int32) (r3 : Int32) (r4 : Int32) (r5 : Int32) (r6 : Int32) : Int32 := (if (3 : Int32) < n1 then ((fat3_3 p4 n1 s0 s1 s2 s3 s4 s5 s6 r0 r1 r2 r3 r4 r5 r6) &&& 1) else (1 : Int32))
def fat4_0 (p4 : Int32) (n1 : Int32) (s0 : Int32) (s1 : Int32) (s2 : Int32) (s3 : Int32) (s4 : Int32) (s5 : Int32) (s6 : Int32) (r0 : Int32) (r1 : Int32) (r2 : Int32) (r3 : Int32) (r4 : Int32) (r5 : Int32) (r6 : Int32) : Int32 := (if ((XT.ushr p4 (4 : Int32)) &&& (1 : Int32)) = (0 : Int32) then (0 : Int32) else (1 : Int32))
def fat4_1 (p4 : Int32) (n1 : Int32) (s0 : Int32) (s1 : Int32) (s2 : Int32) (s3 : Int32) (s4 : Int32) (s5 : Int32) (s6 : Int32) (r0 : Int32) (r1 : Int32) (r2 : Int32) (r3 : Int32) (r4 : Int32) (r5 : Int32) (r6 : Int32) : Int32 := (if (fat4_0 p4 n1 s0 s1 s2 s3 s4 s5 s6 r0 r1 r2 r3 r4 r5 r6) = (0 : Int32) then (1 : Int32) else (0 : Int32))
def fat4_2 (p4 : Int32) (n1 : Int32) (s0 : Int32) (s1 : Int32) (s2 : Int32) (s3 : Int32) (s4 : Int32) (s5 : Int32) (s6 : Int32) (r0 : Int32) (r1 : Int32) (r2 : Int32) (r3 : Int32) (r4 : Int32) (r5 : Int32) (r6 : Int32) : Int32 := (if r4 = (fat4_1 p4 n1 s0 s1 s2 s3 s4 s5 s6 r0 r1 r2 r3 r4 r5 r6) then (1 : Int32) else (0 : Int32))
def fat4_3 (p4 : Int32) (n1 : Int32) (s0 : Int32) (s1 : Int32) (s2 : Int32) (s3 : Int32) (s4 : Int32) (s5 : Int32) (s6 : Int32) (r0 : Int32) (r1 : Int32) (r2 : Int32) (r3 : Int32) (r4 : Int32) (r5 : Int32) (r6 : Int32) : Int32 := (if s4 = (fat4_0 p4 n1 s0 s1 s2 s3 s4 s5 s6 r0 r1 r2 r3 r4 r5 r6) then (fat4_2 p4 n1 s0 s1 s2 s3 s4 s5 s6 r0 r1 r2 r3 r4 r5 r6) else (0 : Int32))
def fat4 (p4 : Int32) (n1 : Int32) (s0 : Int32) (s1 : Int32) (s2 : Int32) (s3 : Int32) (s4 : Int32) (s5 : Int32) (s6 : Int32) (r0 : Int32) (r1 : Int32) (r2 : Int32) (r3 : Int32) (r4 : Int32) (r5 : Int32) (r6 : Int32) : Int32 := (if (4 : Int32) < n1 then ((fat4_3 p4 n1 s0 s1 s2 s3 s4 s5 s6 r0 r1 r2 r3 r4 r5 r6) &&& 1) else (1 : Int32))
def fat5_0 (p4 : Int32) (n1 : Int32) (s0 : Int32) (s1 : Int32) (s2 : Int32) (s3 : Int32) (s4 : Int32) (s5 : Int32) (s6 : Int32) (r0 : Int32) (r1 : Int32) (r2 : Int32) (r3 : Int32) (r4 : Int32) (r5 : Int32) (r6 : Int32) : Int32 := (if ((XT.ushr p4 (5 : Int32)) &&& (1 : Int32)) = (0 : Int32) then (0 : Int32) else (1 : Int32))
def fat5_1 (p4 : Int32) (n1 : Int32) (s0 : Int32) (s1 : Int32) (s2 : Int32) (s3 : Int32) (s4 : Int32) (s5 : Int32) (s6 : Int32) (r0 : Int32) (r1 : Int32) (r2 : Int32) (r3 : Int32) (r4 : Int32) (r5 : Int32) (r6 : Int32) : Int32 := (if (fat5_0 p4 n1 s0 s1 s2 s3 s4 s5 s6 r0 r1 r2 r3 r4 r5 r6) = (0 : Int32) then (1 : Int32) else (0 : Int32))
def fat5_2 (p4 : Int32) (n1 : Int32) (s0 : Int32) (s1 : Int32) (s2 : Int32) (s3 : Int32) (s4 : Int32) (s5 : Int32) (s6 : Int32) (r0 : Int32) (r1 : Int32) (r2 : Int32) (r3 : Int32) (r4 : Int32) (r5 : Int32) (r6 : Int32) : Int32 := (if r5 = (fat5_1 p4 n1 s0 s1 s2 s3 s4 s5 s6 r0 r1 r2 r3 r4 r5 r6) then (1 : Int32) else (0 : Int32))
def fat5_3 (p4 : Int32) (n1 : Int32) (s0 : Int32) (s1 : Int32) (s2 : Int32) (s3 : Int32) (s4 : Int32) (s5 : Int32) (s6 : Int32) (r0 : Int32) (r1 : Int32) (r2 : Int32) (r3 : Int32) (r4 : Int32) (r5 : Int32) (r6 : Int32) : Int32 := (if s5 = (fat5_0 p4 n1 s0 s1 s2 s3 s4 s5 s6 r0 r1 r2 r3 r4 r5 r6) then (fat5_2 p4 n1 s0 s1 s2 s3 s4 s5 s6 r0 r1 r2 r3 r4 r5 r6) else (0 : Int32))
def fat5 (p4 : Int32) (n1 : Int32) (s0 : Int32) (s1 : Int32) (s2 : Int32) (s3 : Int32) (s4 : Int32) (s5 : Int32) (s6 : Int32) (r0 : Int32) (r1 : Int32) (r2 : Int32) (r3 : Int32) (r4 : Int32) (r5 : Int32) (r6 : Int32) : Int32 := (if (5 : Int32) < n1 then ((fat5_3 p4 n1 s0 s1 s2 s3 s4 s5 s6 r0 r1 r2 r3 r4 r5 r6) &&& 1) else (1 : Int32))
def fat6_0 (p4 : Int32) (n1 : Int32) (s0 : Int32) (s1 : Int32) (s2 : Int32) (s3 : Int32) (s4 : Int32) (s5 : Int32) (s6 : Int32) (r0 : Int32) (r1 : Int32) (r2 : Int32) (r3 : Int32) (r4 : Int32) (r5 : Int32) (r6 : Int32) : Int32 := (if ((XT.ushr p4 (6 : Int32)) &&& (1 : Int32)) = (0 : Int32) then (0 : Int32) else (1 : Int32))
def fat6_1 (p4 : Int32) (n1 : Int32) (s0 : Int32) (s1 : Int32) (s2 : Int32) (s3 : Int32) (s4 : Int32) (s5 : Int32) (s6 : Int32) (r0 : Int32) (r1 : Int32) (r2 : Int32) (r3 : Int32) (r4 : Int32) (r5 : Int32) (r6 : Int32) : Int32 := (if (fat6_0 p4 n1 s0 s1 s2 s3 s4 s5 s6 r0 r1 r2 r3 r4 r5 r6) = (0 : Int32) then (1 : Int32) else (0 : Int32))
def fat6_2 (p4 : Int32) (n1 : Int32) (s0 : Int32) (s1 : Int32) (s2 : Int32) (s3 : Int32) (s4 : Int32) (s5 : Int32) (s6 : Int32) (r0 : Int32) (r1 : Int32) (r2 : Int32) (r3 : Int32) (r4 : Int32) (r5 : Int32) (r6 : Int32) : Int32 := (if r6 = (fat6_1 p4 n1 s0 s1 s2 s3 s4 s5 s6 r0 r1 r2 r3 r4 r5 r6) then (1 : Int32) else (0 : Int32))
def fat6_3 (p4 : Int32) (n1 : Int32) (s0 : Int32) (s1 : Int32) (s2 : Int32) (s3 : Int32) (s4 : Int32) (s5 : Int32) (s6 : Int32) (r0 : Int32) (r1 : Int32) (r2 : Int32) (r3 : Int32) (r4 : Int32) (r5 : Int32) (r6 : Int32) : Int32 := (if s6 = (fat6_0 p4 n1 s0 s1 s2 s3 s4 s5 s6 r0 r1 r2 r3 r4 r5 r6) then (fat6_2 p4 n1 s0 s1 s2 s3 s4 s5 s6 r0 r1 r2 r3 r4 r5 r6) else (0 : Int32))
def fat6 (p4 : Int32) (n1 : Int32) (s0 : Int32) (s1 : Int32) (s2 : Int32) (s3 : Int32) (s4 : Int32) (s5 : Int32) (s6 : Int32) (r0 : Int32) (r1 : Int32) (r2 : Int32) (r3 : Int32) (r4 : Int32) (r5 : Int32) (r6 : Int32) : Int32 := (if (6 : Int32) < n1 then ((fat6_3 p4 n1 s0 s1 s2 s3 s4 s5 s6 r0 r1 r2 r3 r4 r5 r6) &&& 1) else (1 : Int32))
def f0_0 (p1 : Int32) (p2 : Int32) : Int32 := (if (p1 &&& (1 : Int32)) = (0 : Int32) then (0 : Int32) else (1 : Int32))
def f0_1 (p1 : Int32) (p2 : Int32) : Int32 := (if (0 : Int32) < (p2 &&& (7 : Int32)) then ((f0_0 p1 p2) &&& 1) else (0 : Int32))
def f0_2 (p1 : Int32) (p2 : Int32) : Int32 := (if (p1 &&& (2 : Int32)) = (0 : Int32) then (0 : Int32) else (1 : Int32))
def f0_3 (p1 : Int32) (p2 : Int32) : Int32 := (if (1 : Int32) < (p2 &&& (7 : Int32)) then ((f0_2 p1 p2) &&& 1) else (0 : Int32))
def f0_4 (p1 : Int32) (p2 : Int32) : Int32 := (if (p1 &&& (4 : Int32)) = (0 : Int32) then (0 : Int32) else (1 : Int32))
def f0_5 (p1 : Int32) (p2 : Int32) : Int32 := (if (2 : Int32) < (p2 &&& (7 : Int32)) then ((f0_4 p1 p2) &&& 1) else (0 : Int32))
def f0_6 (p1 : Int32) (p2 : Int32) : Int32 := (if (p1 &&& (8 : Int32)) = (0 : Int32) then (0 : Int32) else (1 : Int32))
def f0_7 (p1 : Int32) (p2 : Int32) : Int32 := (if (3 : Int32) < (p2 &&& (7 : Int32)) then ((f0_6 p1 p2) &&& 1) else (0 : Int32))
def f0_8 (p1 : Int32) (p2 : Int32) : Int32 := (if (p1 &&& (16 : Int32)) = (0 : Int32) then (0 : Int32) else (1 : Int32))
def f0_9 (p1 : Int32) (p2 : Int32) : Int32 := (if (4 : Int32) < (p2 &&& (7 : Int32)) then ((f0_8 p1 p2) &&& 1) else (0 : Int32))
def f0_10 (p1 : Int32) (p2 : Int32) : Int32 := (if (p1 &&& (32 : Int32)) = (0 : Int32) then (0 : Int32) else (1 : Int32))
def f0_11 (p1 : Int32) (p2 : Int32) : Int32 := (if (5 : Int32) < (p2 &&& (7 : Int32)) then ((f0_10 p1 p2) &&& 1) else (0 : Int32))
def f0_12 (p1 : Int32) (p2 : Int32) : Int32 := (if (p1 &&& (64 : Int32)) = (0 : Int32) then (0 : Int32) else (1 : Int32))
def f0_13 (p1 : Int32) (p2 : Int32) : Int32 := (if (6 : Int32) < (p2 &&& (7 : Int32)) then ((f0_12 p1 p2) &&& 1) else (0 : Int32))
def f0_14 (p1 : Int32) (p2 : Int32) : Int32 := (f1_x0 (p2 &&& (7 : Int32)) (f0_1 p1 p2) (f0_3 p1 p2) (f0_5 p1 p2) (f0_7 p1 p2) (f0_9 p1 p2) (f0_11 p1 p2) (f0_13 p1 p2))
def f0_15 (p1 : Int32) (p2 : Int32) : Int32 := (f1_x1 (p2 &&& (7 : Int32)) (f0_1 p1 p2) (f0_3 p1 p2) (f0_5 p1 p2) (f0_7 p1 p2) (f0_9 p1 p2) (f0_11 p1 p2) (f0_13 p1 p2))
def f0_16 (p1 : Int32) (p2 : Int32) : Int32 := (f1_x2 (p2 &&& (7 : Int32)) (f0_1 p1 p2) (f0_3 p1 p2) (f0_5 p1 p2) (f0_7 p1 p2) (f0_9 p1 p2) (f0_11 p1 p2) (f0_13 p1 p2))
def f0_17 (p1 : Int32) (p2 : Int32) : Int32 := (f1_x3 (p2 &&& (7 : Int32)) (f0_1 p1 p2) (f0_3 p1 p2) (f0_5 p1 p2) (f0_7 p1 p2) (f0_9 p1 p2) (f0_11 p1 p2) (f0_13 p1 p2))
def f0_18 (p1 : Int32) (p2 : Int32) : Int32 := (f1_x4 (p2 &&& (7 : Int32)) (f0_1 p1 p2) (f0_3 p1 p2) (f0_5 p1 p2) (f0_7 p1 p2) (f0_9 p1 p2) (f0_11 p1 p2) (f0_13 p1 p2))
def f0_19 (p1 : Int32) (p2 : Int32) : Int32 := (f1_x5 (p2 &&& (7 : Int32)) (f0_1 p1 p2) (f0_3 p1 p2) (f0_5 p1 p2) (f0_7 p1 p2) (f0_9 p1 p2) (f0_11 p1 p2) (f0_13 p1 p2))
def f0_20 (p1 : Int32) (p2 : Int32) : Int32 := (f1_x6 (p2 &&& (7 : Int32)) (f0_1 p1 p2) (f0_3 p1 p2) (f0_5 p1 p2) (f0_7 p1 p2) (f0_9 p1 p2) (f0_11 p1 p2) (f0_13 p1 p2))
def f0_21 (p1 : Int32) (p2 : Int32) : Int32 := (fat0 p1 (p2 &&& (7 : Int32)) (f0_1 p1 p2) (f0_3 p1 p2) (f0_5 p1 p2) (f0_7 p1 p2) (f0_9 p1 p2) (f0_11 p1 p2) (f0_13 p1 p2) (f0_14 p1 p2) (f0_15 p1 p2) (f0_16 p1 p2) (f0_17 p1 p2) (f0_18 p1 p2) (f0_19 p1 p2) (f0_20 p1 p2))
def f0_22 (p1 : Int32) (p2 : Int32) : Int32 := (fat1 p1 (p2 &&& (7 : Int32)) (f0_1 p1 p2) (f0_3 p1 p2) (f0_5 p1 p2) (f0_7 p1 p2) (f0_9 p1 p2) (f0_11 p1 p2) (f0_13 p1 p2) (f0_14 p1 p2) (f0_15 p1 p2) (f0_16 p1 p2) (f0_17 p1 p2) (f0_18 p1 p2) (f0_19 p1 p2) (f0_20 p1 p2))
def f0_23 (p1 : Int32) (p2 : Int32) : Int32 := (fat2 p1 (p2 &&& (7 : Int32)) (f0_1 p1 p2) (f0_3 p1 p2) (f0_5 p1 p2) (f0_7 p1 p2) (f0_9 p1 p2) (f0_11 p1 p2) (f0_13 p1 p2) (f0_14 p1 p2) (f0_15 p1 p2) (f0_16 p1 p2) (f0_17 p1 p2) (f0_18 p1 p2) (f0_19 p1 p2) (f0_20 p1 p2))
def f0_24 (p1 : Int32) (p2 : Int32) : Int32 := (fat3 p1 (p2 &&& (7 : Int32)) (f0_1 p1 p2) (f0_3 p1 p2) (f0_5 p1 p2) (f0_7 p1 p2) (f0_9 p1 p2) (f0_11 p1 p2) (f0_13 p1 p2) (f0_14 p1 p2) (f0_15 p1 p2) (f0_16 p1 p2) (f0_17 p1 p2) (f0_18 p1 p2) (f0_19 p1 p2) (f0_20 p1 p2))
def f0_25 (p1 : Int32) (p2 : Int32) : Int32 := (fat4 p1 (p2 &&& (7 : Int32)) (f0_1 p1 p2) (f0_3 p1 p2) (f0_5 p1 p2) (f0_7 p1 p2) (f0_9 p1 p2) (f0_11 p1 p2) (f0_13 p1 p2) (f0_14 p1 p2) (f0_15 p1 p2) (f0_16 p1 p2) (f0_17 p1 p2) (f0_18 p1 p2) (f0_19 p1 p2) (f0_20 p1 p2))
def f0_26 (p1 : Int32) (p2 : Int32) : Int32 := (fat5 p1 (p2 &&& (7 : Int32)) (f0_1 p1 p2) (f0_3 p1 p2) (f0_5 p1 p2) (f0_7 p1 p2) (f0_9 p1 p2) (f0_11 p1 p2) (f0_13 p1 p2) (f0_14 p1 p2) (f0_15 p1 p2) (f0_16 p1 p2) (f0_17 p1 p2) (f0_18 p1 p2) (f0_19 p1 p2) (f0_20 p1 p2))
def f0_27 (p1 : Int32) (p2 : Int32) : Int32 := (fat6 p1 (p2 &&& (7 : Int32)) (f0_1 p1 p2) (f0_3 p1 p2) (f0_5 p1 p2) (f0_7 p1 p2) (f0_9 p1 p2) (f0_11 p1 p2) (f0_13 p1 p2) (f0_14 p1 p2) (f0_15 p1 p2) (f0_16 p1 p2) (f0_17 p1 p2) (f0_18 p1 p2) (f0_19 p1 p2) (f0_20 p1 p2))
def f0_28 (p1 : Int32) (p2 : Int32) : Int32 := (if (f0_27 p1 p2) = (0 : Int32) then (0 : Int32) else (1 : Int32))
def f0_29 (p1 : Int32) (p2 : Int32) : Int32 := (if (f0_26 p1 p2) = (0 : Int32) then (0 : Int32) else (f0_28 p1 p2))
def f0_30 (p1 : Int32) (p2 : Int32) : Int32 := (if (f0_25 p1 p2) = (0 : Int32) then (0 : Int32) else (f0_29 p1 p2))
def f0_31 (p1 : Int32) (p2 : Int32) : Int32 := (if (f0_24 p1 p2) = (0 : Int32) then (0 : Int32) else (f0_30 p1 p2))
def f0_32 (p1 : Int32) (p2 : Int32) : Int32 := (if (f0_23 p1 p2) = (0 : Int32) then (0 : Int32) else (f0_31 p1 p2))
def f0_33 (p1 : Int32) (p2 : Int32) : Int32 := (if (f0_22 p1 p2) = (0 : Int32) then (0 : Int32) else (f0_32 p1 p2))
def f0_34 (p1 : Int32) (p2 : Int32) : Int32 := (if (f0_21 p1 p2) = (0 : Int32) then (0 : Int32) else (f0_33 p1 p2))
def f0 (p1 : Int32) (p2 : Int32) : Int32 := ((f0_34 p1 p2) &&& 1)
def own_len (n : Int32) : Prop := n = 0 ∨ n = 1 ∨ n = 2 ∨ n = 3 ∨ n = 4 ∨ n = 5 ∨ n = 6 ∨ n = 7
theorem own_nn {n : Int32} (h : own_len n) : ¬ n < 0 := by
  rcases h with rfl | rfl | rfl | rfl | rfl | rfl | rfl | rfl <;> decide
theorem own_cap {n : Int32} (h : own_len n) : n.toNatClampNeg ≤ 7 := by
  rcases h with rfl | rfl | rfl | rfl | rfl | rfl | rfl | rfl <;> decide
theorem own_l7 {n : Int32} (h : own_len n) : ¬ ((7 : Int32) < n) := by
  rcases h with rfl | rfl | rfl | rfl | rfl | rfl | rfl | rfl <;> decide
theorem own_m7 (p : Int32) : own_len (p &&& (7 : Int32)) := by
  have h1 : (p &&& (7 : Int32)).toBitVec.toNat = p.toBitVec.toNat % 8 := by
    show (p.toBitVec &&& (7 : Int32).toBitVec).toNat = _
    rw [BitVec.toNat_and, show (7 : Int32).toBitVec.toNat = 2 ^ 3 - 1 from by decide, Nat.and_two_pow_sub_one_eq_mod]
  have h2 : (p &&& (7 : Int32)).toInt = (p.toBitVec.toNat % 8 : Nat) := by
    show (p &&& (7 : Int32)).toBitVec.toInt = _
    rw [BitVec.toInt_eq_toNat_cond, h1, if_pos (by omega)]
  have h3 : p.toBitVec.toNat % 8 < 8 := Nat.mod_lt _ (by decide)
  unfold own_len
  simp only [← Int32.toInt_inj, h2, show (0 : Int32).toInt = 0 from by decide, show (1 : Int32).toInt = 1 from by decide, show (2 : Int32).toInt = 2 from by decide, show (3 : Int32).toInt = 3 from by decide, show (4 : Int32).toInt = 4 from by decide, show (5 : Int32).toInt = 5 from by decide, show (6 : Int32).toInt = 6 from by decide, show (7 : Int32).toInt = 7 from by decide]
  omega
theorem own_ub (p q m : Int32) (k : Nat) (hk : k < 32) (hq : ((q &&& 31).toUInt32.toBitVec % 32).toNat = k) (hm : m.toBitVec = BitVec.twoPow 32 k) : ((XT.ushr p q) &&& (1 : Int32)) = 0 ↔ (p &&& m) = 0 := by
  have e1 : ((XT.ushr p q) &&& (1 : Int32)).toBitVec = (p.toBitVec >>> k) &&& 1#32 := by
    show (p.toBitVec >>> ((q &&& 31).toUInt32.toBitVec % 32)) &&& (1 : Int32).toBitVec = _
    rw [BitVec.ushiftRight_eq', hq]; rfl
  have e2 : (p &&& m).toBitVec = p.toBitVec &&& BitVec.twoPow 32 k := by rw [Int32.toBitVec_and, hm]
  rw [← Int32.toBitVec_inj, ← Int32.toBitVec_inj, e1, e2]
  have f1 : (p.toBitVec >>> k) &&& 1#32 = if p.toBitVec.getLsbD k then 1#32 else 0#32 := by
    rw [BitVec.and_one_eq_setWidth_ofBool_getLsbD, BitVec.getLsbD_ushiftRight, Nat.add_zero]
    cases p.toBitVec.getLsbD k <;> rfl
  rw [f1, BitVec.and_twoPow]
  show (if p.toBitVec.getLsbD k then 1#32 else 0#32) = 0#32 ↔ (if p.toBitVec.getLsbD k then BitVec.twoPow 32 k else 0#32) = 0#32
  cases p.toBitVec.getLsbD k
  · simp
  · simp only [if_true]
    constructor
    · intro h; exact absurd h (by decide)
    · intro h
      have := congrArg (fun z => z.getLsbD k) h
      simp [hk] at this

theorem own_at0 (p1 p2 : Int32) : f0_21 p1 p2 = 1 := by
  have hb := own_ub p1 0 1 0 (by decide) (by decide) (by decide)
  rw [f0_21, fat0, fat0_3, fat0_2, fat0_1, fat0_0, f0_14, f1_x0, f1_0, f0_1, f0_0]
  by_cases c : (p1 &&& (1 : Int32)) = 0
  · simp only [if_pos c, if_pos (hb.mpr c)]
    rcases own_m7 p2 with h | h | h | h | h | h | h | h <;> rw [h] <;> decide
  · simp only [if_neg c, if_neg (fun z => c (hb.mp z))]
    rcases own_m7 p2 with h | h | h | h | h | h | h | h <;> rw [h] <;> decide
theorem own_at1 (p1 p2 : Int32) : f0_22 p1 p2 = 1 := by
  have hb := own_ub p1 1 2 1 (by decide) (by decide) (by decide)
  rw [f0_22, fat1, fat1_3, fat1_2, fat1_1, fat1_0, f0_15, f1_x1, f1_1, f0_3, f0_2]
  by_cases c : (p1 &&& (2 : Int32)) = 0
  · simp only [if_pos c, if_pos (hb.mpr c)]
    rcases own_m7 p2 with h | h | h | h | h | h | h | h <;> rw [h] <;> decide
  · simp only [if_neg c, if_neg (fun z => c (hb.mp z))]
    rcases own_m7 p2 with h | h | h | h | h | h | h | h <;> rw [h] <;> decide
theorem own_at2 (p1 p2 : Int32) : f0_23 p1 p2 = 1 := by
  have hb := own_ub p1 2 4 2 (by decide) (by decide) (by decide)
  rw [f0_23, fat2, fat2_3, fat2_2, fat2_1, fat2_0, f0_16, f1_x2, f1_2, f0_5, f0_4]
  by_cases c : (p1 &&& (4 : Int32)) = 0
  · simp only [if_pos c, if_pos (hb.mpr c)]
    rcases own_m7 p2 with h | h | h | h | h | h | h | h <;> rw [h] <;> decide
  · simp only [if_neg c, if_neg (fun z => c (hb.mp z))]
    rcases own_m7 p2 with h | h | h | h | h | h | h | h <;> rw [h] <;> decide
theorem own_at3 (p1 p2 : Int32) : f0_24 p1 p2 = 1 := by
  have hb := own_ub p1 3 8 3 (by decide) (by decide) (by decide)
  rw [f0_24, fat3, fat3_3, fat3_2, fat3_1, fat3_0, f0_17, f1_x3, f1_3, f0_7, f0_6]
  by_cases c : (p1 &&& (8 : Int32)) = 0
  · simp only [if_pos c, if_pos (hb.mpr c)]
    rcases own_m7 p2 with h | h | h | h | h | h | h | h <;> rw [h] <;> decide
  · simp only [if_neg c, if_neg (fun z => c (hb.mp z))]
    rcases own_m7 p2 with h | h | h | h | h | h | h | h <;> rw [h] <;> decide
theorem own_at4 (p1 p2 : Int32) : f0_25 p1 p2 = 1 := by
  have hb := own_ub p1 4 16 4 (by decide) (by decide) (by decide)
  rw [f0_25, fat4, fat4_3, fat4_2, fat4_1, fat4_0, f0_18, f1_x4, f1_4, f0_9, f0_8]
  by_cases c : (p1 &&& (16 : Int32)) = 0
  · simp only [if_pos c, if_pos (hb.mpr c)]
    rcases own_m7 p2 with h | h | h | h | h | h | h | h <;> rw [h] <;> decide
  · simp only [if_neg c, if_neg (fun z => c (hb.mp z))]
    rcases own_m7 p2 with h | h | h | h | h | h | h | h <;> rw [h] <;> decide
theorem own_at5 (p1 p2 : Int32) : f0_26 p1 p2 = 1 := by
  have hb := own_ub p1 5 32 5 (by decide) (by decide) (by decide)
  rw [f0_26, fat5, fat5_3, fat5_2, fat5_1, fat5_0, f0_19, f1_x5, f1_5, f0_11, f0_10]
  by_cases c : (p1 &&& (32 : Int32)) = 0
  · simp only [if_pos c, if_pos (hb.mpr c)]
    rcases own_m7 p2 with h | h | h | h | h | h | h | h <;> rw [h] <;> decide
  · simp only [if_neg c, if_neg (fun z => c (hb.mp z))]
    rcases own_m7 p2 with h | h | h | h | h | h | h | h <;> rw [h] <;> decide
theorem own_at6 (p1 p2 : Int32) : f0_27 p1 p2 = 1 := by
  have hb := own_ub p1 6 64 6 (by decide) (by decide) (by decide)
  rw [f0_27, fat6, fat6_3, fat6_2, fat6_1, fat6_0, f0_20, f1_x6, f1_6, f0_13, f0_12]
  by_cases c : (p1 &&& (64 : Int32)) = 0
  · simp only [if_pos c, if_pos (hb.mpr c)]
    rcases own_m7 p2 with h | h | h | h | h | h | h | h <;> rw [h] <;> decide
  · simp only [if_neg c, if_neg (fun z => c (hb.mp z))]
    rcases own_m7 p2 with h | h | h | h | h | h | h | h <;> rw [h] <;> decide
theorem own_law (p1 p2 : Int32) : f0 p1 p2 = 1 := by
  rw [f0, f0_34, f0_33, f0_32, f0_31, f0_30, f0_29, f0_28, own_at0, own_at1, own_at2, own_at3, own_at4, own_at5, own_at6]
  decide

abbrev own_G (tb : Tables) (e : Env) (below : List Frame) (Q : Outcome → State → Prop) (A : State) : Prop := ∃ s₂ o, Steps tb e below A s₂ ∧ s₂.status = .running ∧ Ended s₂ below o ∧ Q o s₂
theorem own_step {tb : Tables} {e : Env} {below : List Frame} {Q : Outcome → State → Prop} {A B : State} (h : ∀ t, Steps tb e below B t → Steps tb e below A t) (g : own_G tb e below Q B) : own_G tb e below Q A := by
  obtain ⟨s2, o, h1, h2⟩ := g
  exact ⟨s2, o, h _ h1, h2⟩
theorem own_aT {x y : Addr} (h : x = y) : XT.acmp .eq (.ref x) (.ref y) = true ∧ XT.acmp .ne (.ref x) (.ref y) = false := by subst h; exact ⟨by simp [XT.acmp], by simp [XT.acmp]⟩
theorem own_aF {x y : Addr} (h : ¬ x = y) : XT.acmp .eq (.ref x) (.ref y) = false ∧ XT.acmp .ne (.ref x) (.ref y) = true := by simp [XT.acmp, h]
theorem own_cl (x y : Int64) : XT.cmpL x y < 0 ↔ x < y := lw_lt x y
theorem own_cg (x y : Int64) : 0 < XT.cmpL x y ↔ y < x := lw_gt x y
theorem own_ce (x y : Int64) : XT.cmpL x y = 0 ↔ x = y := lw_eq x y
theorem pd_0 : parseMethodDescriptor "([Z)[Z" = some ⟨[(.array .boolean)], some (.array .boolean)⟩ := by decide +kernel
theorem pd_1 : parseMethodDescriptor "([Z[ZII)Z" = some ⟨[(.array .boolean), (.array .boolean), .int, .int], some .boolean⟩ := by decide +kernel
theorem d1_0 : decode prog_18_method_19_code 0 = .ok (.aload_n 0, 1) := by decide +kernel
theorem d1_1 : decode prog_18_method_19_code 1 = .ok (.arraylength, 1) := by decide +kernel
theorem d1_2 : decode prog_18_method_19_code 2 = .ok (.newarray .boolean, 2) := by decide +kernel
theorem d1_4 : decode prog_18_method_19_code 4 = .ok (.astore_n 1, 1) := by decide +kernel
theorem d1_5 : decode prog_18_method_19_code 5 = .ok (.iconst 0, 1) := by decide +kernel
theorem d1_6 : decode prog_18_method_19_code 6 = .ok (.istore_n 2, 1) := by decide +kernel
theorem d1_7 : decode prog_18_method_19_code 7 = .ok (.iload_n 2, 1) := by decide +kernel
theorem d1_8 : decode prog_18_method_19_code 8 = .ok (.aload_n 0, 1) := by decide +kernel
theorem d1_9 : decode prog_18_method_19_code 9 = .ok (.arraylength, 1) := by decide +kernel
theorem d1_10 : decode prog_18_method_19_code 10 = .ok (.if_icmp .ge 23, 3) := by decide +kernel
theorem d1_13 : decode prog_18_method_19_code 13 = .ok (.aload_n 1, 1) := by decide +kernel
theorem d1_14 : decode prog_18_method_19_code 14 = .ok (.iload_n 2, 1) := by decide +kernel
theorem d1_15 : decode prog_18_method_19_code 15 = .ok (.aload_n 0, 1) := by decide +kernel
theorem d1_16 : decode prog_18_method_19_code 16 = .ok (.iload_n 2, 1) := by decide +kernel
theorem d1_17 : decode prog_18_method_19_code 17 = .ok (.baload, 1) := by decide +kernel
theorem d1_18 : decode prog_18_method_19_code 18 = .ok (.ifCond .ne 7, 3) := by decide +kernel
theorem d1_21 : decode prog_18_method_19_code 21 = .ok (.iconst 1, 1) := by decide +kernel
theorem d1_22 : decode prog_18_method_19_code 22 = .ok (.goto 4, 3) := by decide +kernel
theorem d1_25 : decode prog_18_method_19_code 25 = .ok (.iconst 0, 1) := by decide +kernel
theorem d1_26 : decode prog_18_method_19_code 26 = .ok (.bastore, 1) := by decide +kernel
theorem d1_27 : decode prog_18_method_19_code 27 = .ok (.iinc 2 1, 3) := by decide +kernel
theorem d1_30 : decode prog_18_method_19_code 30 = .ok (.goto (-23), 3) := by decide +kernel
theorem d1_33 : decode prog_18_method_19_code 33 = .ok (.aload_n 1, 1) := by decide +kernel
theorem d1_34 : decode prog_18_method_19_code 34 = .ok (.areturn, 1) := by decide +kernel
theorem pn_1 : plainName "com/example/bonn/bonn/Formula" = true := by first | (simp [plainName, overriddenIn]; done) | decide +kernel
theorem ef_1 (m : MethodId) (a1 : Addr) : entryFrame m #[(.ref a1)] 3 = mkF m 0 #[.val (.ref a1), .unset, .unset] [] := by first | (simp [entryFrame, mkF, argsToLocals, Value.category]; done) | rfl
def Q1 (Z : State) (a1 : Addr) (k1 : ClassId) (n1 : Int32) (s0 : Int32) (s1 : Int32) (s2 : Int32) (s3 : Int32) (s4 : Int32) (s5 : Int32) (s6 : Int32) (h0 : Heap) (n0 : Nat) (v : Option Value) (h : Heap) (L : List Loc) : Prop := ∃ (r : Addr), ∃ (k_r : ClassId), v = some (.ref r) ∧ Fr n0 L ∧ Keep h0 h [] ∧ h0.size ≤ r ∧ (Arv Z h r k_r .boolean n1 [(.int (f1_x0 n1 s0 s1 s2 s3 s4 s5 s6)), (.int (f1_x1 n1 s0 s1 s2 s3 s4 s5 s6)), (.int (f1_x2 n1 s0 s1 s2 s3 s4 s5 s6)), (.int (f1_x3 n1 s0 s1 s2 s3 s4 s5 s6)), (.int (f1_x4 n1 s0 s1 s2 s3 s4 s5 s6)), (.int (f1_x5 n1 s0 s1 s2 s3 s4 s5 s6)), (.int (f1_x6 n1 s0 s1 s2 s3 s4 s5 s6))] (.int (0 : Int32)))
set_option maxRecDepth 65536 in
set_option maxHeartbeats 40000000 in
theorem rm1 (l : Launch) (Z : State) (a0 : Array Value) (hw : ∀ d ∈ tables_1, d.before a0 Z = true) (ws : List Jvm.Cond) (a1 : Addr) (k1 : ClassId) (n1 : Int32) (s0 : Int32) (s1 : Int32) (s2 : Int32) (s3 : Int32) (s4 : Int32) (s5 : Int32) (s6 : Int32) (h0 : Heap) (n0 : Nat) (Z0 : n0 ≤ h0.size) (A_a1 : Arv Z h0 a1 k1 .boolean n1 [(.int s0), (.int s1), (.int s2), (.int s3), (.int s4), (.int s5), (.int s6)] (.int (0 : Int32))) (hlen : own_len n1) :
    MetFree l (⟨"com/example/bonn/bonn/Formula", "complement", "([Z)[Z"⟩ : MethodName) (head1 (Jvm.Cond.code (⟨"com/example/bonn/bonn/Formula", "complement", "([Z)[Z"⟩ : MethodName) prog_18_method_19_code 3 (some (.array .boolean)) :: ws) ({ frames := 0, cells := 1, slots := 7, locals := 0 } : Room)) (fun a U => a = #[(.ref a1)] ∧ Z.Warmed39 U.vm ∧ U.heap = h0) (fun _ _ _ _ _ => True) (fun _ U o U' => ∃ v L, o = .returned v ∧ Q1 Z a1 k1 n1 s0 s1 s2 s3 s4 s5 s6 h0 n0 v U'.heap L ∧ FrameEnd U o U' L ({ frames := 0, cells := 1, slots := 7, locals := 0 } : Room).cells ({ frames := 0, cells := 1, slots := 7, locals := 0 } : Room).slots) := by
  refine MetFree.of_bodySF (plainFor_of_name pn_1) hisR ?_
  intro p e s m args below meth c s₁ Bd hml0 hP hK
  obtain ⟨rfl, hZ, hh⟩ := hP
  have hx := Bd.exec
  have hby := Bd.bytes
  have hml : c.maxLocals = 3 := hml0
  have hown : s.vm.findClass "com/example/bonn/bonn/Formula" = some m.cls := findClass_of_methodNamed Bd.named
  have hnm := (name_of_methodNamed Bd.named Bd.method).1
  have X0 : Stand p l e ({ frames := 0, cells := 1, slots := 7, locals := 0 } : Room) s m #[(.ref a1)] below meth c s₁ [] 0 0 := Stand.of_body Bd
  have e0 : s₁.heap = h0 := by rw [← hh, Bd.state]; rfl
  have N0 := Fr.nil n0
  have pre0 : ∀ t, Steps p.tables e below (s₁.setTop (mkF m 0 #[.val (.ref a1), .unset, .unset] [])) t → Steps p.tables e below (s₁.setTop (entryFrame m #[(.ref a1)] 3)) t := fun t k => castTop (ef_1 m a1) k
  refine own_step (Q := fun o U' => ∃ v L, o = .returned v ∧ Q1 Z a1 k1 n1 s0 s1 s2 s3 s4 s5 s6 h0 n0 v U'.heap L ∧ FrameEnd s o U' L ({ frames := 0, cells := 1, slots := 7, locals := 0 } : Room).cells ({ frames := 0, cells := 1, slots := 7, locals := 0 } : Room).slots) pre0 ?_
  have K0 : Keep h0 h0 [] := Keep.refl h0 []
  obtain ⟨cl1, Ar1, -, S1, M1, -, -⟩ := id A_a1
  obtain ⟨T2, h2, kc2, X2, e2, E2, A2, st2⟩ := newP X0 hx hZ (hw _ (List.mem_of_getElem? (i := 0) rfl)) e0 (g := (mkF m 2 #[.val (.ref a1), .unset, .unset] [(.int n1)])) rfl (hb hby d1_2) (n := n1) (rest := []) rfl (own_nn hlen) (cap := 7) (own_cap hlen) (by decide) (by decide) (by decide)
  obtain ⟨o2, g2⟩ : ∃ z, z = h0.size := ⟨_, rfl⟩
  rw [← g2] at A2 st2
  have ne2_1 : a1 ≠ o2 := Nat.ne_of_lt (Nat.lt_of_lt_of_le A_a1.lt (Nat.le_of_eq g2.symm))
  have u2_0 := A_a1.ext E2
  have ge2 : n0 ≤ o2 := Nat.le_trans Z0 (Nat.le_of_eq g2.symm)
  have Z2 : n0 ≤ h2.size := Nat.le_trans Z0 E2.1
  have sz2 : h0.size ≤ o2 := Nat.le_trans K0.1 (Nat.le_of_eq g2.symm)
  have K2 := K0.ext E2
  have V2 : Arv Z h2 o2 kc2 .boolean n1 [(.int (0 : Int32)), (.int (0 : Int32)), (.int (0 : Int32)), (.int (0 : Int32)), (.int (0 : Int32)), (.int (0 : Int32)), (.int (0 : Int32))] (.int (0 : Int32)) := (Arv.new A2 (own_nn hlen)).pad (pad_rep [] (.int (0 : Int32)) 7)
  obtain ⟨cl3, Ar3, -, S3, M3, -, -⟩ := id u2_0
  refine own_step (B := T2.setTop (mkF m 10 #[.val (.ref a1), .val (.ref o2), .val (.int (0 : Int32))] [(.int n1), (.int (0 : Int32))])) (fun t k => ?_) ?_
  · show Steps p.tables e below (s₁.setTop (mkF m 0 #[.val (.ref a1), .unset, .unset] [])) _
    refine XS.aloadN X0.here hx rfl (hb hby d1_0) rfl rfl ?_
    show Steps p.tables e below (s₁.setTop (mkF m 1 #[.val (.ref a1), .unset, .unset] [(.ref a1)])) _
    refine X0.arraylength hx (by rw [e0]; exact Ar1.1) (State.isArrayOf_alike hZ.alike Ar1.2.1) (g := (mkF m 1 #[.val (.ref a1), .unset, .unset] [(.ref a1)])) rfl rfl (hb hby d1_1) _ ?_
    rw [len_of S1 M1]
    show Steps p.tables e below (s₁.setTop (mkF m 2 #[.val (.ref a1), .unset, .unset] [(.int n1)])) _
    refine st2 _ ?_
    show Steps p.tables e below (T2.setTop (mkF m 4 #[.val (.ref a1), .unset, .unset] [(.ref o2)])) _
    refine XS.astoreN X2.here hx rfl (hb hby d1_4) rfl rfl (l' := #[.val (.ref a1), .val (.ref o2), .unset]) rfl ?_
    show Steps p.tables e below (T2.setTop (mkF m 5 #[.val (.ref a1), .val (.ref o2), .unset] [])) _
    refine XS.iconst X2.here hx rfl (hb hby d1_5) ?_
    show Steps p.tables e below (T2.setTop (mkF m 6 #[.val (.ref a1), .val (.ref o2), .unset] [(.int (0 : Int32))])) _
    refine XS.istoreN X2.here hx rfl (hb hby d1_6) rfl (l' := #[.val (.ref a1), .val (.ref o2), .val (.int (0 : Int32))]) rfl ?_
    show Steps p.tables e below (T2.setTop (mkF m 7 #[.val (.ref a1), .val (.ref o2), .val (.int (0 : Int32))] [])) _
    refine XS.iloadN X2.here hx rfl (hb hby d1_7) rfl ?_
    show Steps p.tables e below (T2.setTop (mkF m 8 #[.val (.ref a1), .val (.ref o2), .val (.int (0 : Int32))] [(.int (0 : Int32))])) _
    refine XS.aloadN X2.here hx rfl (hb hby d1_8) rfl rfl ?_
    show Steps p.tables e below (T2.setTop (mkF m 9 #[.val (.ref a1), .val (.ref o2), .val (.int (0 : Int32))] [(.ref a1), (.int (0 : Int32))])) _
    refine X2.arraylength hx (by rw [e2]; exact Ar3.1) (State.isArrayOf_alike hZ.alike Ar3.2.1) (g := (mkF m 9 #[.val (.ref a1), .val (.ref o2), .val (.int (0 : Int32))] [(.ref a1), (.int (0 : Int32))])) rfl rfl (hb hby d1_9) _ ?_
    rw [len_of S3 M3]
    exact k
  by_cases h4 : (0 : Int32) < n1
  · obtain ⟨cl5, Ar5, -, S5, M5, H5, -⟩ := id u2_0
    have hin5 := inb_of (j := (0 : Int32)) S5 ⟨by decide, h4⟩
    have hat5 := H5.at hin5 (v := (.int s0)) (rfl)
    have st7 : ∀ t, Steps p.tables e below (T2.setTop (mkF m 26 #[.val (.ref a1), .val (.ref o2), .val (.int (0 : Int32))] [(.int (if s0 = (0 : Int32) then (1 : Int32) else (0 : Int32))), (.int (0 : Int32)), (.ref o2)])) t → Steps p.tables e below (T2.setTop (mkF m 18 #[.val (.ref a1), .val (.ref o2), .val (.int (0 : Int32))] [(.int s0), (.int (0 : Int32)), (.ref o2)])) t := by
      intro t k
      by_cases h6 : s0 = (0 : Int32)
      · rw [show (if s0 = (0 : Int32) then (1 : Int32) else (0 : Int32)) = (1 : Int32) from if_pos h6] at k
        show Steps p.tables e below (T2.setTop (mkF m 18 #[.val (.ref a1), .val (.ref o2), .val (.int (0 : Int32))] [(.int s0), (.int (0 : Int32)), (.ref o2)])) _
        refine XS.ifNo X2.here hx rfl (hb hby d1_18) rfl ((if0 _ _).trans (teq h6).2) ?_
        show Steps p.tables e below (T2.setTop (mkF m 21 #[.val (.ref a1), .val (.ref o2), .val (.int (0 : Int32))] [(.int (0 : Int32)), (.ref o2)])) _
        refine XS.iconst X2.here hx rfl (hb hby d1_21) ?_
        show Steps p.tables e below (T2.setTop (mkF m 22 #[.val (.ref a1), .val (.ref o2), .val (.int (0 : Int32))] [(.int (1 : Int32)), (.int (0 : Int32)), (.ref o2)])) _
        refine XS.goto X2.here hx rfl (pc0 := 22) (pc' := 26) rfl (hb hby d1_22) (by decide) (by decide) ?_
        exact k
      · rw [show (if s0 = (0 : Int32) then (1 : Int32) else (0 : Int32)) = (0 : Int32) from if_neg h6] at k
        show Steps p.tables e below (T2.setTop (mkF m 18 #[.val (.ref a1), .val (.ref o2), .val (.int (0 : Int32))] [(.int s0), (.int (0 : Int32)), (.ref o2)])) _
        refine XS.ifYes X2.here hx rfl (pc0 := 18) (pc' := 25) rfl (hb hby d1_18) rfl ((if0 _ _).trans (feq h6).2) (by decide) (by decide) ?_
        show Steps p.tables e below (T2.setTop (mkF m 25 #[.val (.ref a1), .val (.ref o2), .val (.int (0 : Int32))] [(.int (0 : Int32)), (.ref o2)])) _
        refine XS.iconst X2.here hx rfl (hb hby d1_25) ?_
        exact k
    obtain ⟨cl8, Ar8, q8, S8, M8, H8, G8⟩ := id V2
    obtain ⟨T8, h8, X8, e8, W8, st8⟩ := stZ X2 hx hZ e2 Ar8 (j := (0 : Int32)) (inb_of S8 ⟨by decide, h4⟩) (g := (mkF m 26 #[.val (.ref a1), .val (.ref o2), .val (.int (0 : Int32))] [(.int (if s0 = (0 : Int32) then (1 : Int32) else (0 : Int32))), (.int (0 : Int32)), (.ref o2)])) rfl rfl (hb hby d1_26)
    have u8_0 := u2_0.other W8 ne2_1
    have K8 := K2.wr W8 (Or.inr sz2)
    have Z8 : n0 ≤ h8.size := Nat.le_trans Z2 (Keep.of_wr W8).1
    have N8 := Fr.snoc X8 N0 ge2
    have V8 : Arv Z h8 o2 kc2 .boolean n1 [(.int (f1_0 n1 s0 s1 s2 s3 s4 s5 s6)), (.int (0 : Int32)), (.int (0 : Int32)), (.int (0 : Int32)), (.int (0 : Int32)), (.int (0 : Int32)), (.int (0 : Int32))] (.int (0 : Int32)) := Arv.set Ar8 q8 S8 M8 H8 G8 (fits_nar_bool _) W8 0 (by decide) (by show 0 < 7; decide)
    obtain ⟨cl9, Ar9, -, S9, M9, -, -⟩ := id u8_0
    refine own_step (B := T8.setTop (mkF m 10 #[.val (.ref a1), .val (.ref o2), .val (.int (1 : Int32))] [(.int n1), (.int (1 : Int32))])) (fun t k => ?_) ?_
    · show Steps p.tables e below (T2.setTop (mkF m 10 #[.val (.ref a1), .val (.ref o2), .val (.int (0 : Int32))] [(.int n1), (.int (0 : Int32))])) _
      refine XS.icmpNo X2.here hx rfl (hb hby d1_10) rfl (tlt h4).2.1 ?_
      show Steps p.tables e below (T2.setTop (mkF m 13 #[.val (.ref a1), .val (.ref o2), .val (.int (0 : Int32))] [])) _
      refine XS.aloadN X2.here hx rfl (hb hby d1_13) rfl rfl ?_
      show Steps p.tables e below (T2.setTop (mkF m 14 #[.val (.ref a1), .val (.ref o2), .val (.int (0 : Int32))] [(.ref o2)])) _
      refine XS.iloadN X2.here hx rfl (hb hby d1_14) rfl ?_
      show Steps p.tables e below (T2.setTop (mkF m 15 #[.val (.ref a1), .val (.ref o2), .val (.int (0 : Int32))] [(.int (0 : Int32)), (.ref o2)])) _
      refine XS.aloadN X2.here hx rfl (hb hby d1_15) rfl rfl ?_
      show Steps p.tables e below (T2.setTop (mkF m 16 #[.val (.ref a1), .val (.ref o2), .val (.int (0 : Int32))] [(.ref a1), (.int (0 : Int32)), (.ref o2)])) _
      refine XS.iloadN X2.here hx rfl (hb hby d1_16) rfl ?_
      show Steps p.tables e below (T2.setTop (mkF m 17 #[.val (.ref a1), .val (.ref o2), .val (.int (0 : Int32))] [(.int (0 : Int32)), (.ref a1), (.int (0 : Int32)), (.ref o2)])) _
      refine X2.baloadBooleans hx (j := (0 : Int32)) (v := (.int s0)) (by rw [e2]; exact Ar5.1) (State.isArrayOf_alike hZ.alike Ar5.2.1) Ar5.2.2 hin5 hat5 (g := (mkF m 17 #[.val (.ref a1), .val (.ref o2), .val (.int (0 : Int32))] [(.int (0 : Int32)), (.ref a1), (.int (0 : Int32)), (.ref o2)])) rfl rfl (hb hby d1_17) _ ?_
      show Steps p.tables e below (T2.setTop (mkF m 18 #[.val (.ref a1), .val (.ref o2), .val (.int (0 : Int32))] [(.int s0), (.int (0 : Int32)), (.ref o2)])) _
      refine st7 _ ?_
      show Steps p.tables e below (T2.setTop (mkF m 26 #[.val (.ref a1), .val (.ref o2), .val (.int (0 : Int32))] [(.int (if s0 = (0 : Int32) then (1 : Int32) else (0 : Int32))), (.int (0 : Int32)), (.ref o2)])) _
      refine st8 _ ?_
      show Steps p.tables e below (T8.setTop (mkF m 27 #[.val (.ref a1), .val (.ref o2), .val (.int (0 : Int32))] [])) _
      refine XS.iinc X8.here hx rfl (hb hby d1_27) rfl (l' := #[.val (.ref a1), .val (.ref o2), .val (.int (1 : Int32))]) rfl ?_
      show Steps p.tables e below (T8.setTop (mkF m 30 #[.val (.ref a1), .val (.ref o2), .val (.int (1 : Int32))] [])) _
      refine XS.goto X8.here hx rfl (pc0 := 30) (pc' := 7) rfl (hb hby d1_30) (by decide) (by decide) ?_
      show Steps p.tables e below (T8.setTop (mkF m 7 #[.val (.ref a1), .val (.ref o2), .val (.int (1 : Int32))] [])) _
      refine XS.iloadN X8.here hx rfl (hb hby d1_7) rfl ?_
      show Steps p.tables e below (T8.setTop (mkF m 8 #[.val (.ref a1), .val (.ref o2), .val (.int (1 : Int32))] [(.int (1 : Int32))])) _
      refine XS.aloadN X8.here hx rfl (hb hby d1_8) rfl rfl ?_
      show Steps p.tables e below (T8.setTop (mkF m 9 #[.val (.ref a1), .val (.ref o2), .val (.int (1 : Int32))] [(.ref a1), (.int (1 : Int32))])) _
      refine X8.arraylength hx (by rw [e8]; exact Ar9.1) (State.isArrayOf_alike hZ.alike Ar9.2.1) (g := (mkF m 9 #[.val (.ref a1), .val (.ref o2), .val (.int (1 : Int32))] [(.ref a1), (.int (1 : Int32))])) rfl rfl (hb hby d1_9) _ ?_
      rw [len_of S9 M9]
      exact k
    by_cases h10 : (1 : Int32) < n1
    · obtain ⟨cl11, Ar11, -, S11, M11, H11, -⟩ := id u8_0
      have hin11 := inb_of (j := (1 : Int32)) S11 ⟨by decide, h10⟩
      have hat11 := H11.at hin11 (v := (.int s1)) (rfl)
      have st13 : ∀ t, Steps p.tables e below (T8.setTop (mkF m 26 #[.val (.ref a1), .val (.ref o2), .val (.int (1 : Int32))] [(.int (if s1 = (0 : Int32) then (1 : Int32) else (0 : Int32))), (.int (1 : Int32)), (.ref o2)])) t → Steps p.tables e below (T8.setTop (mkF m 18 #[.val (.ref a1), .val (.ref o2), .val (.int (1 : Int32))] [(.int s1), (.int (1 : Int32)), (.ref o2)])) t := by
        intro t k
        by_cases h12 : s1 = (0 : Int32)
        · rw [show (if s1 = (0 : Int32) then (1 : Int32) else (0 : Int32)) = (1 : Int32) from if_pos h12] at k
          show Steps p.tables e below (T8.setTop (mkF m 18 #[.val (.ref a1), .val (.ref o2), .val (.int (1 : Int32))] [(.int s1), (.int (1 : Int32)), (.ref o2)])) _
          refine XS.ifNo X8.here hx rfl (hb hby d1_18) rfl ((if0 _ _).trans (teq h12).2) ?_
          show Steps p.tables e below (T8.setTop (mkF m 21 #[.val (.ref a1), .val (.ref o2), .val (.int (1 : Int32))] [(.int (1 : Int32)), (.ref o2)])) _
          refine XS.iconst X8.here hx rfl (hb hby d1_21) ?_
          show Steps p.tables e below (T8.setTop (mkF m 22 #[.val (.ref a1), .val (.ref o2), .val (.int (1 : Int32))] [(.int (1 : Int32)), (.int (1 : Int32)), (.ref o2)])) _
          refine XS.goto X8.here hx rfl (pc0 := 22) (pc' := 26) rfl (hb hby d1_22) (by decide) (by decide) ?_
          exact k
        · rw [show (if s1 = (0 : Int32) then (1 : Int32) else (0 : Int32)) = (0 : Int32) from if_neg h12] at k
          show Steps p.tables e below (T8.setTop (mkF m 18 #[.val (.ref a1), .val (.ref o2), .val (.int (1 : Int32))] [(.int s1), (.int (1 : Int32)), (.ref o2)])) _
          refine XS.ifYes X8.here hx rfl (pc0 := 18) (pc' := 25) rfl (hb hby d1_18) rfl ((if0 _ _).trans (feq h12).2) (by decide) (by decide) ?_
          show Steps p.tables e below (T8.setTop (mkF m 25 #[.val (.ref a1), .val (.ref o2), .val (.int (1 : Int32))] [(.int (1 : Int32)), (.ref o2)])) _
          refine XS.iconst X8.here hx rfl (hb hby d1_25) ?_
          exact k
      obtain ⟨cl14, Ar14, q14, S14, M14, H14, G14⟩ := id V8
      obtain ⟨T14, h14, X14, e14, W14, st14⟩ := stZ X8 hx hZ e8 Ar14 (j := (1 : Int32)) (inb_of S14 ⟨by decide, h10⟩) (g := (mkF m 26 #[.val (.ref a1), .val (.ref o2), .val (.int (1 : Int32))] [(.int (if s1 = (0 : Int32) then (1 : Int32) else (0 : Int32))), (.int (1 : Int32)), (.ref o2)])) rfl rfl (hb hby d1_26)
      have u14_0 := u8_0.other W14 ne2_1
      have K14 := K8.wr W14 (Or.inr sz2)
      have Z14 : n0 ≤ h14.size := Nat.le_trans Z8 (Keep.of_wr W14).1
      have N14 := Fr.snoc X14 N8 ge2
      have V14 : Arv Z h14 o2 kc2 .boolean n1 [(.int (f1_0 n1 s0 s1 s2 s3 s4 s5 s6)), (.int (f1_1 n1 s0 s1 s2 s3 s4 s5 s6)), (.int (0 : Int32)), (.int (0 : Int32)), (.int (0 : Int32)), (.int (0 : Int32)), (.int (0 : Int32))] (.int (0 : Int32)) := Arv.set Ar14 q14 S14 M14 H14 G14 (fits_nar_bool _) W14 1 (by decide) (by show 1 < 7; decide)
      obtain ⟨cl15, Ar15, -, S15, M15, -, -⟩ := id u14_0
      refine own_step (B := T14.setTop (mkF m 10 #[.val (.ref a1), .val (.ref o2), .val (.int (2 : Int32))] [(.int n1), (.int (2 : Int32))])) (fun t k => ?_) ?_
      · show Steps p.tables e below (T8.setTop (mkF m 10 #[.val (.ref a1), .val (.ref o2), .val (.int (1 : Int32))] [(.int n1), (.int (1 : Int32))])) _
        refine XS.icmpNo X8.here hx rfl (hb hby d1_10) rfl (tlt h10).2.1 ?_
        show Steps p.tables e below (T8.setTop (mkF m 13 #[.val (.ref a1), .val (.ref o2), .val (.int (1 : Int32))] [])) _
        refine XS.aloadN X8.here hx rfl (hb hby d1_13) rfl rfl ?_
        show Steps p.tables e below (T8.setTop (mkF m 14 #[.val (.ref a1), .val (.ref o2), .val (.int (1 : Int32))] [(.ref o2)])) _
        refine XS.iloadN X8.here hx rfl (hb hby d1_14) rfl ?_
        show Steps p.tables e below (T8.setTop (mkF m 15 #[.val (.ref a1), .val (.ref o2), .val (.int (1 : Int32))] [(.int (1 : Int32)), (.ref o2)])) _
        refine XS.aloadN X8.here hx rfl (hb hby d1_15) rfl rfl ?_
        show Steps p.tables e below (T8.setTop (mkF m 16 #[.val (.ref a1), .val (.ref o2), .val (.int (1 : Int32))] [(.ref a1), (.int (1 : Int32)), (.ref o2)])) _
        refine XS.iloadN X8.here hx rfl (hb hby d1_16) rfl ?_
        show Steps p.tables e below (T8.setTop (mkF m 17 #[.val (.ref a1), .val (.ref o2), .val (.int (1 : Int32))] [(.int (1 : Int32)), (.ref a1), (.int (1 : Int32)), (.ref o2)])) _
        refine X8.baloadBooleans hx (j := (1 : Int32)) (v := (.int s1)) (by rw [e8]; exact Ar11.1) (State.isArrayOf_alike hZ.alike Ar11.2.1) Ar11.2.2 hin11 hat11 (g := (mkF m 17 #[.val (.ref a1), .val (.ref o2), .val (.int (1 : Int32))] [(.int (1 : Int32)), (.ref a1), (.int (1 : Int32)), (.ref o2)])) rfl rfl (hb hby d1_17) _ ?_
        show Steps p.tables e below (T8.setTop (mkF m 18 #[.val (.ref a1), .val (.ref o2), .val (.int (1 : Int32))] [(.int s1), (.int (1 : Int32)), (.ref o2)])) _
        refine st13 _ ?_
        show Steps p.tables e below (T8.setTop (mkF m 26 #[.val (.ref a1), .val (.ref o2), .val (.int (1 : Int32))] [(.int (if s1 = (0 : Int32) then (1 : Int32) else (0 : Int32))), (.int (1 : Int32)), (.ref o2)])) _
        refine st14 _ ?_
        show Steps p.tables e below (T14.setTop (mkF m 27 #[.val (.ref a1), .val (.ref o2), .val (.int (1 : Int32))] [])) _
        refine XS.iinc X14.here hx rfl (hb hby d1_27) rfl (l' := #[.val (.ref a1), .val (.ref o2), .val (.int (2 : Int32))]) rfl ?_
        show Steps p.tables e below (T14.setTop (mkF m 30 #[.val (.ref a1), .val (.ref o2), .val (.int (2 : Int32))] [])) _
        refine XS.goto X14.here hx rfl (pc0 := 30) (pc' := 7) rfl (hb hby d1_30) (by decide) (by decide) ?_
        show Steps p.tables e below (T14.setTop (mkF m 7 #[.val (.ref a1), .val (.ref o2), .val (.int (2 : Int32))] [])) _
        refine XS.iloadN X14.here hx rfl (hb hby d1_7) rfl ?_
        show Steps p.tables e below (T14.setTop (mkF m 8 #[.val (.ref a1), .val (.ref o2), .val (.int (2 : Int32))] [(.int (2 : Int32))])) _
        refine XS.aloadN X14.here hx rfl (hb hby d1_8) rfl rfl ?_
        show Steps p.tables e below (T14.setTop (mkF m 9 #[.val (.ref a1), .val (.ref o2), .val (.int (2 : Int32))] [(.ref a1), (.int (2 : Int32))])) _
        refine X14.arraylength hx (by rw [e14]; exact Ar15.1) (State.isArrayOf_alike hZ.alike Ar15.2.1) (g := (mkF m 9 #[.val (.ref a1), .val (.ref o2), .val (.int (2 : Int32))] [(.ref a1), (.int (2 : Int32))])) rfl rfl (hb hby d1_9) _ ?_
        rw [len_of S15 M15]
        exact k
      by_cases h16 : (2 : Int32) < n1
      · obtain ⟨cl17, Ar17, -, S17, M17, H17, -⟩ := id u14_0
        have hin17 := inb_of (j := (2 : Int32)) S17 ⟨by decide, h16⟩
        have hat17 := H17.at hin17 (v := (.int s2)) (rfl)
        have st19 : ∀ t, Steps p.tables e below (T14.setTop (mkF m 26 #[.val (.ref a1), .val (.ref o2), .val (.int (2 : Int32))] [(.int (if s2 = (0 : Int32) then (1 : Int32) else (0 : Int32))), (.int (2 : Int32)), (.ref o2)])) t → Steps p.tables e below (T14.setTop (mkF m 18 #[.val (.ref a1), .val (.ref o2), .val (.int (2 : Int32))] [(.int s2), (.int (2 : Int32)), (.ref o2)])) t := by
          intro t k
          by_cases h18 : s2 = (0 : Int32)
          · rw [show (if s2 = (0 : Int32) then (1 : Int32) else (0 : Int32)) = (1 : Int32) from if_pos h18] at k
            show Steps p.tables e below (T14.setTop (mkF m 18 #[.val (.ref a1), .val (.ref o2), .val (.int (2 : Int32))] [(.int s2), (.int (2 : Int32)), (.ref o2)])) _
            refine XS.ifNo X14.here hx rfl (hb hby d1_18) rfl ((if0 _ _).trans (teq h18).2) ?_
            show Steps p.tables e below (T14.setTop (mkF m 21 #[.val (.ref a1), .val (.ref o2), .val (.int (2 : Int32))] [(.int (2 : Int32)), (.ref o2)])) _
            refine XS.iconst X14.here hx rfl (hb hby d1_21) ?_
            show Steps p.tables e below (T14.setTop (mkF m 22 #[.val (.ref a1), .val (.ref o2), .val (.int (2 : Int32))] [(.int (1 : Int32)), (.int (2 : Int32)), (.ref o2)])) _
            refine XS.goto X14.here hx rfl (pc0 := 22) (pc' := 26) rfl (hb hby d1_22) (by decide) (by decide) ?_
            exact k
          · rw [show (if s2 = (0 : Int32) then (1 : Int32) else (0 : Int32)) = (0 : Int32) from if_neg h18] at k
            show Steps p.tables e below (T14.setTop (mkF m 18 #[.val (.ref a1), .val (.ref o2), .val (.int (2 : Int32))] [(.int s2), (.int (2 : Int32)), (.ref o2)])) _
            refine XS.ifYes X14.here hx rfl (pc0 := 18) (pc' := 25) rfl (hb hby d1_18) rfl ((if0 _ _).trans (feq h18).2) (by decide) (by decide) ?_
            show Steps p.tables e below (T14.setTop (mkF m 25 #[.val (.ref a1), .val (.ref o2), .val (.int (2 : Int32))] [(.int (2 : Int32)), (.ref o2)])) _
            refine XS.iconst X14.here hx rfl (hb hby d1_25) ?_
            exact k
        obtain ⟨cl20, Ar20, q20, S20, M20, H20, G20⟩ := id V14
        obtain ⟨T20, h20, X20, e20, W20, st20⟩ := stZ X14 hx hZ e14 Ar20 (j := (2 : Int32)) (inb_of S20 ⟨by decide, h16⟩) (g := (mkF m 26 #[.val (.ref a1), .val (.ref o2), .val (.int (2 : Int32))] [(.int (if s2 = (0 : Int32) then (1 : Int32) else (0 : Int32))), (.int (2 : Int32)), (.ref o2)])) rfl rfl (hb hby d1_26)
        have u20_0 := u14_0.other W20 ne2_1
        have K20 := K14.wr W20 (Or.inr sz2)
        have Z20 : n0 ≤ h20.size := Nat.le_trans Z14 (Keep.of_wr W20).1
        have N20 := Fr.snoc X20 N14 ge2
        have V20 : Arv Z h20 o2 kc2 .boolean n1 [(.int (f1_0 n1 s0 s1 s2 s3 s4 s5 s6)), (.int (f1_1 n1 s0 s1 s2 s3 s4 s5 s6)), (.int (f1_2 n1 s0 s1 s2 s3 s4 s5 s6)), (.int (0 : Int32)), (.int (0 : Int32)), (.int (0 : Int32)), (.int (0 : Int32))] (.int (0 : Int32)) := Arv.set Ar20 q20 S20 M20 H20 G20 (fits_nar_bool _) W20 2 (by decide) (by show 2 < 7; decide)
        obtain ⟨cl21, Ar21, -, S21, M21, -, -⟩ := id u20_0
        refine own_step (B := T20.setTop (mkF m 10 #[.val (.ref a1), .val (.ref o2), .val (.int (3 : Int32))] [(.int n1), (.int (3 : Int32))])) (fun t k => ?_) ?_
        · show Steps p.tables e below (T14.setTop (mkF m 10 #[.val (.ref a1), .val (.ref o2), .val (.int (2 : Int32))] [(.int n1), (.int (2 : Int32))])) _
          refine XS.icmpNo X14.here hx rfl (hb hby d1_10) rfl (tlt h16).2.1 ?_
          show Steps p.tables e below (T14.setTop (mkF m 13 #[.val (.ref a1), .val (.ref o2), .val (.int (2 : Int32))] [])) _
          refine XS.aloadN X14.here hx rfl (hb hby d1_13) rfl rfl ?_
          show Steps p.tables e below (T14.setTop (mkF m 14 #[.val (.ref a1), .val (.ref o2), .val (.int (2 : Int32))] [(.ref o2)])) _
          refine XS.iloadN X14.here hx rfl (hb hby d1_14) rfl ?_
          show Steps p.tables e below (T14.setTop (mkF m 15 #[.val (.ref a1), .val (.ref o2), .val (.int (2 : Int32))] [(.int (2 : Int32)), (.ref o2)])) _
          refine XS.aloadN X14.here hx rfl (hb hby d1_15) rfl rfl ?_
          show Steps p.tables e below (T14.setTop (mkF m 16 #[.val (.ref a1), .val (.ref o2), .val (.int (2 : Int32))] [(.ref a1), (.int (2 : Int32)), (.ref o2)])) _
          refine XS.iloadN X14.here hx rfl (hb hby d1_16) rfl ?_
          show Steps p.tables e below (T14.setTop (mkF m 17 #[.val (.ref a1), .val (.ref o2), .val (.int (2 : Int32))] [(.int (2 : Int32)), (.ref a1), (.int (2 : Int32)), (.ref o2)])) _
          refine X14.baloadBooleans hx (j := (2 : Int32)) (v := (.int s2)) (by rw [e14]; exact Ar17.1) (State.isArrayOf_alike hZ.alike Ar17.2.1) Ar17.2.2 hin17 hat17 (g := (mkF m 17 #[.val (.ref a1), .val (.ref o2), .val (.int (2 : Int32))] [(.int (2 : Int32)), (.ref a1), (.int (2 : Int32)), (.ref o2)])) rfl rfl (hb hby d1_17) _ ?_
          show Steps p.tables e below (T14.setTop (mkF m 18 #[.val (.ref a1), .val (.ref o2), .val (.int (2 : Int32))] [(.int s2), (.int (2 : Int32)), (.ref o2)])) _
          refine st19 _ ?_
          show Steps p.tables e below (T14.setTop (mkF m 26 #[.val (.ref a1), .val (.ref o2), .val (.int (2 : Int32))] [(.int (if s2 = (0 : Int32) then (1 : Int32) else (0 : Int32))), (.int (2 : Int32)), (.ref o2)])) _
          refine st20 _ ?_
          show Steps p.tables e below (T20.setTop (mkF m 27 #[.val (.ref a1), .val (.ref o2), .val (.int (2 : Int32))] [])) _
          refine XS.iinc X20.here hx rfl (hb hby d1_27) rfl (l' := #[.val (.ref a1), .val (.ref o2), .val (.int (3 : Int32))]) rfl ?_
          show Steps p.tables e below (T20.setTop (mkF m 30 #[.val (.ref a1), .val (.ref o2), .val (.int (3 : Int32))] [])) _
          refine XS.goto X20.here hx rfl (pc0 := 30) (pc' := 7) rfl (hb hby d1_30) (by decide) (by decide) ?_
          show Steps p.tables e below (T20.setTop (mkF m 7 #[.val (.ref a1), .val (.ref o2), .val (.int (3 : Int32))] [])) _
          refine XS.iloadN X20.here hx rfl (hb hby d1_7) rfl ?_
          show Steps p.tables e below (T20.setTop (mkF m 8 #[.val (.ref a1), .val (.ref o2), .val (.int (3 : Int32))] [(.int (3 : Int32))])) _
          refine XS.aloadN X20.here hx rfl (hb hby d1_8) rfl rfl ?_
          show Steps p.tables e below (T20.setTop (mkF m 9 #[.val (.ref a1), .val (.ref o2), .val (.int (3 : Int32))] [(.ref a1), (.int (3 : Int32))])) _
          refine X20.arraylength hx (by rw [e20]; exact Ar21.1) (State.isArrayOf_alike hZ.alike Ar21.2.1) (g := (mkF m 9 #[.val (.ref a1), .val (.ref o2), .val (.int (3 : Int32))] [(.ref a1), (.int (3 : Int32))])) rfl rfl (hb hby d1_9) _ ?_
          rw [len_of S21 M21]
          exact k
        by_cases h22 : (3 : Int32) < n1
        · obtain ⟨cl23, Ar23, -, S23, M23, H23, -⟩ := id u20_0
          have hin23 := inb_of (j := (3 : Int32)) S23 ⟨by decide, h22⟩
          have hat23 := H23.at hin23 (v := (.int s3)) (rfl)
          have st25 : ∀ t, Steps p.tables e below (T20.setTop (mkF m 26 #[.val (.ref a1), .val (.ref o2), .val (.int (3 : Int32))] [(.int (if s3 = (0 : Int32) then (1 : Int32) else (0 : Int32))), (.int (3 : Int32)), (.ref o2)])) t → Steps p.tables e below (T20.setTop (mkF m 18 #[.val (.ref a1), .val (.ref o2), .val (.int (3 : Int32))] [(.int s3), (.int (3 : Int32)), (.ref o2)])) t := by
            intro t k
            by_cases h24 : s3 = (0 : Int32)
            · rw [show (if s3 = (0 : Int32) then (1 : Int32) else (0 : Int32)) = (1 : Int32) from if_pos h24] at k
              show Steps p.tables e below (T20.setTop (mkF m 18 #[.val (.ref a1), .val (.ref o2), .val (.int (3 : Int32))] [(.int s3), (.int (3 : Int32)), (.ref o2)])) _
              refine XS.ifNo X20.here hx rfl (hb hby d1_18) rfl ((if0 _ _).trans (teq h24).2) ?_
              show Steps p.tables e below (T20.setTop (mkF m 21 #[.val (.ref a1), .val (.ref o2), .val (.int (3 : Int32))] [(.int (3 : Int32)), (.ref o2)])) _
              refine XS.iconst X20.here hx rfl (hb hby d1_21) ?_
              show Steps p.tables e below (T20.setTop (mkF m 22 #[.val (.ref a1), .val (.ref o2), .val (.int (3 : Int32))] [(.int (1 : Int32)), (.int (3 : Int32)), (.ref o2)])) _
              refine XS.goto X20.here hx rfl (pc0 := 22) (pc' := 26) rfl (hb hby d1_22) (by decide) (by decide) ?_
              exact k
            · rw [show (if s3 = (0 : Int32) then (1 : Int32) else (0 : Int32)) = (0 : Int32) from if_neg h24] at k
              show Steps p.tables e below (T20.setTop (mkF m 18 #[.val (.ref a1), .val (.ref o2), .val (.int (3 : Int32))] [(.int s3), (.int (3 : Int32)), (.ref o2)])) _
              refine XS.ifYes X20.here hx rfl (pc0 := 18) (pc' := 25) rfl (hb hby d1_18) rfl ((if0 _ _).trans (feq h24).2) (by decide) (by decide) ?_
              show Steps p.tables e below (T20.setTop (mkF m 25 #[.val (.ref a1), .val (.ref o2), .val (.int (3 : Int32))] [(.int (3 : Int32)), (.ref o2)])) _
              refine XS.iconst X20.here hx rfl (hb hby d1_25) ?_
              exact k
          obtain ⟨cl26, Ar26, q26, S26, M26, H26, G26⟩ := id V20
          obtain ⟨T26, h26, X26, e26, W26, st26⟩ := stZ X20 hx hZ e20 Ar26 (j := (3 : Int32)) (inb_of S26 ⟨by decide, h22⟩) (g := (mkF m 26 #[.val (.ref a1), .val (.ref o2), .val (.int (3 : Int32))] [(.int (if s3 = (0 : Int32) then (1 : Int32) else (0 : Int32))), (.int (3 : Int32)), (.ref o2)])) rfl rfl (hb hby d1_26)
          have u26_0 := u20_0.other W26 ne2_1
          have K26 := K20.wr W26 (Or.inr sz2)
          have Z26 : n0 ≤ h26.size := Nat.le_trans Z20 (Keep.of_wr W26).1
          have N26 := Fr.snoc X26 N20 ge2
          have V26 : Arv Z h26 o2 kc2 .boolean n1 [(.int (f1_0 n1 s0 s1 s2 s3 s4 s5 s6)), (.int (f1_1 n1 s0 s1 s2 s3 s4 s5 s6)), (.int (f1_2 n1 s0 s1 s2 s3 s4 s5 s6)), (.int (f1_3 n1 s0 s1 s2 s3 s4 s5 s6)), (.int (0 : Int32)), (.int (0 : Int32)), (.int (0 : Int32))] (.int (0 : Int32)) := Arv.set Ar26 q26 S26 M26 H26 G26 (fits_nar_bool _) W26 3 (by decide) (by show 3 < 7; decide)
          obtain ⟨cl27, Ar27, -, S27, M27, -, -⟩ := id u26_0
          refine own_step (B := T26.setTop (mkF m 10 #[.val (.ref a1), .val (.ref o2), .val (.int (4 : Int32))] [(.int n1), (.int (4 : Int32))])) (fun t k => ?_) ?_
          · show Steps p.tables e below (T20.setTop (mkF m 10 #[.val (.ref a1), .val (.ref o2), .val (.int (3 : Int32))] [(.int n1), (.int (3 : Int32))])) _
            refine XS.icmpNo X20.here hx rfl (hb hby d1_10) rfl (tlt h22).2.1 ?_
            show Steps p.tables e below (T20.setTop (mkF m 13 #[.val (.ref a1), .val (.ref o2), .val (.int (3 : Int32))] [])) _
            refine XS.aloadN X20.here hx rfl (hb hby d1_13) rfl rfl ?_
            show Steps p.tables e below (T20.setTop (mkF m 14 #[.val (.ref a1), .val (.ref o2), .val (.int (3 : Int32))] [(.ref o2)])) _
            refine XS.iloadN X20.here hx rfl (hb hby d1_14) rfl ?_
            show Steps p.tables e below (T20.setTop (mkF m 15 #[.val (.ref a1), .val (.ref o2), .val (.int (3 : Int32))] [(.int (3 : Int32)), (.ref o2)])) _
            refine XS.aloadN X20.here hx rfl (hb hby d1_15) rfl rfl ?_
            show Steps p.tables e below (T20.setTop (mkF m 16 #[.val (.ref a1), .val (.ref o2), .val (.int (3 : Int32))] [(.ref a1), (.int (3 : Int32)), (.ref o2)])) _
            refine XS.iloadN X20.here hx rfl (hb hby d1_16) rfl ?_
            show Steps p.tables e below (T20.setTop (mkF m 17 #[.val (.ref a1), .val (.ref o2), .val (.int (3 : Int32))] [(.int (3 : Int32)), (.ref a1), (.int (3 : Int32)), (.ref o2)])) _
            refine X20.baloadBooleans hx (j := (3 : Int32)) (v := (.int s3)) (by rw [e20]; exact Ar23.1) (State.isArrayOf_alike hZ.alike Ar23.2.1) Ar23.2.2 hin23 hat23 (g := (mkF m 17 #[.val (.ref a1), .val (.ref o2), .val (.int (3 : Int32))] [(.int (3 : Int32)), (.ref a1), (.int (3 : Int32)), (.ref o2)])) rfl rfl (hb hby d1_17) _ ?_
            show Steps p.tables e below (T20.setTop (mkF m 18 #[.val (.ref a1), .val (.ref o2), .val (.int (3 : Int32))] [(.int s3), (.int (3 : Int32)), (.ref o2)])) _
            refine st25 _ ?_
            show Steps p.tables e below (T20.setTop (mkF m 26 #[.val (.ref a1), .val (.ref o2), .val (.int (3 : Int32))] [(.int (if s3 = (0 : Int32) then (1 : Int32) else (0 : Int32))), (.int (3 : Int32)), (.ref o2)])) _
            refine st26 _ ?_
            show Steps p.tables e below (T26.setTop (mkF m 27 #[.val (.ref a1), .val (.ref o2), .val (.int (3 : Int32))] [])) _
            refine XS.iinc X26.here hx rfl (hb hby d1_27) rfl (l' := #[.val (.ref a1), .val (.ref o2), .val (.int (4 : Int32))]) rfl ?_
            show Steps p.tables e below (T26.setTop (mkF m 30 #[.val (.ref a1), .val (.ref o2), .val (.int (4 : Int32))] [])) _
            refine XS.goto X26.here hx rfl (pc0 := 30) (pc' := 7) rfl (hb hby d1_30) (by decide) (by decide) ?_
            show Steps p.tables e below (T26.setTop (mkF m 7 #[.val (.ref a1), .val (.ref o2), .val (.int (4 : Int32))] [])) _
            refine XS.iloadN X26.here hx rfl (hb hby d1_7) rfl ?_
            show Steps p.tables e below (T26.setTop (mkF m 8 #[.val (.ref a1), .val (.ref o2), .val (.int (4 : Int32))] [(.int (4 : Int32))])) _
            refine XS.aloadN X26.here hx rfl (hb hby d1_8) rfl rfl ?_
            show Steps p.tables e below (T26.setTop (mkF m 9 #[.val (.ref a1), .val (.ref o2), .val (.int (4 : Int32))] [(.ref a1), (.int (4 : Int32))])) _
            refine X26.arraylength hx (by rw [e26]; exact Ar27.1) (State.isArrayOf_alike hZ.alike Ar27.2.1) (g := (mkF m 9 #[.val (.ref a1), .val (.ref o2), .val (.int (4 : Int32))] [(.ref a1), (.int (4 : Int32))])) rfl rfl (hb hby d1_9) _ ?_
            rw [len_of S27 M27]
            exact k
          by_cases h28 : (4 : Int32) < n1
          · obtain ⟨cl29, Ar29, -, S29, M29, H29, -⟩ := id u26_0
            have hin29 := inb_of (j := (4 : Int32)) S29 ⟨by decide, h28⟩
            have hat29 := H29.at hin29 (v := (.int s4)) (rfl)
            have st31 : ∀ t, Steps p.tables e below (T26.setTop (mkF m 26 #[.val (.ref a1), .val (.ref o2), .val (.int (4 : Int32))] [(.int (if s4 = (0 : Int32) then (1 : Int32) else (0 : Int32))), (.int (4 : Int32)), (.ref o2)])) t → Steps p.tables e below (T26.setTop (mkF m 18 #[.val (.ref a1), .val (.ref o2), .val (.int (4 : Int32))] [(.int s4), (.int (4 : Int32)), (.ref o2)])) t := by
              intro t k
              by_cases h30 : s4 = (0 : Int32)
              · rw [show (if s4 = (0 : Int32) then (1 : Int32) else (0 : Int32)) = (1 : Int32) from if_pos h30] at k
                show Steps p.tables e below (T26.setTop (mkF m 18 #[.val (.ref a1), .val (.ref o2), .val (.int (4 : Int32))] [(.int s4), (.int (4 : Int32)), (.ref o2)])) _
                refine XS.ifNo X26.here hx rfl (hb hby d1_18) rfl ((if0 _ _).trans (teq h30).2) ?_
                show Steps p.tables e below (T26.setTop (mkF m 21 #[.val (.ref a1), .val (.ref o2), .val (.int (4 : Int32))] [(.int (4 : Int32)), (.ref o2)])) _
                refine XS.iconst X26.here hx rfl (hb hby d1_21) ?_
                show Steps p.tables e below (T26.setTop (mkF m 22 #[.val (.ref a1), .val (.ref o2), .val (.int (4 : Int32))] [(.int (1 : Int32)), (.int (4 : Int32)), (.ref o2)])) _
                refine XS.goto X26.here hx rfl (pc0 := 22) (pc' := 26) rfl (hb hby d1_22) (by decide) (by decide) ?_
                exact k
              · rw [show (if s4 = (0 : Int32) then (1 : Int32) else (0 : Int32)) = (0 : Int32) from if_neg h30] at k
                show Steps p.tables e below (T26.setTop (mkF m 18 #[.val (.ref a1), .val (.ref o2), .val (.int (4 : Int32))] [(.int s4), (.int (4 : Int32)), (.ref o2)])) _
                refine XS.ifYes X26.here hx rfl (pc0 := 18) (pc' := 25) rfl (hb hby d1_18) rfl ((if0 _ _).trans (feq h30).2) (by decide) (by decide) ?_
                show Steps p.tables e below (T26.setTop (mkF m 25 #[.val (.ref a1), .val (.ref o2), .val (.int (4 : Int32))] [(.int (4 : Int32)), (.ref o2)])) _
                refine XS.iconst X26.here hx rfl (hb hby d1_25) ?_
                exact k
            obtain ⟨cl32, Ar32, q32, S32, M32, H32, G32⟩ := id V26
            obtain ⟨T32, h32, X32, e32, W32, st32⟩ := stZ X26 hx hZ e26 Ar32 (j := (4 : Int32)) (inb_of S32 ⟨by decide, h28⟩) (g := (mkF m 26 #[.val (.ref a1), .val (.ref o2), .val (.int (4 : Int32))] [(.int (if s4 = (0 : Int32) then (1 : Int32) else (0 : Int32))), (.int (4 : Int32)), (.ref o2)])) rfl rfl (hb hby d1_26)
            have u32_0 := u26_0.other W32 ne2_1
            have K32 := K26.wr W32 (Or.inr sz2)
            have Z32 : n0 ≤ h32.size := Nat.le_trans Z26 (Keep.of_wr W32).1
            have N32 := Fr.snoc X32 N26 ge2
            have V32 : Arv Z h32 o2 kc2 .boolean n1 [(.int (f1_0 n1 s0 s1 s2 s3 s4 s5 s6)), (.int (f1_1 n1 s0 s1 s2 s3 s4 s5 s6)), (.int (f1_2 n1 s0 s1 s2 s3 s4 s5 s6)), (.int (f1_3 n1 s0 s1 s2 s3 s4 s5 s6)), (.int (f1_4 n1 s0 s1 s2 s3 s4 s5 s6)), (.int (0 : Int32)), (.int (0 : Int32))] (.int (0 : Int32)) := Arv.set Ar32 q32 S32 M32 H32 G32 (fits_nar_bool _) W32 4 (by decide) (by show 4 < 7; decide)
            obtain ⟨cl33, Ar33, -, S33, M33, -, -⟩ := id u32_0
            refine own_step (B := T32.setTop (mkF m 10 #[.val (.ref a1), .val (.ref o2), .val (.int (5 : Int32))] [(.int n1), (.int (5 : Int32))])) (fun t k => ?_) ?_
            · show Steps p.tables e below (T26.setTop (mkF m 10 #[.val (.ref a1), .val (.ref o2), .val (.int (4 : Int32))] [(.int n1), (.int (4 : Int32))])) _
              refine XS.icmpNo X26.here hx rfl (hb hby d1_10) rfl (tlt h28).2.1 ?_
              show Steps p.tables e below (T26.setTop (mkF m 13 #[.val (.ref a1), .val (.ref o2), .val (.int (4 : Int32))] [])) _
              refine XS.aloadN X26.here hx rfl (hb hby d1_13) rfl rfl ?_
              show Steps p.tables e below (T26.setTop (mkF m 14 #[.val (.ref a1), .val (.ref o2), .val (.int (4 : Int32))] [(.ref o2)])) _
              refine XS.iloadN X26.here hx rfl (hb hby d1_14) rfl ?_
              show Steps p.tables e below (T26.setTop (mkF m 15 #[.val (.ref a1), .val (.ref o2), .val (.int (4 : Int32))] [(.int (4 : Int32)), (.ref o2)])) _
              refine XS.aloadN X26.here hx rfl (hb hby d1_15) rfl rfl ?_
              show Steps p.tables e below (T26.setTop (mkF m 16 #[.val (.ref a1), .val (.ref o2), .val (.int (4 : Int32))] [(.ref a1), (.int (4 : Int32)), (.ref o2)])) _
              refine XS.iloadN X26.here hx rfl (hb hby d1_16) rfl ?_
              show Steps p.tables e below (T26.setTop (mkF m 17 #[.val (.ref a1), .val (.ref o2), .val (.int (4 : Int32))] [(.int (4 : Int32)), (.ref a1), (.int (4 : Int32)), (.ref o2)])) _
              refine X26.baloadBooleans hx (j := (4 : Int32)) (v := (.int s4)) (by rw [e26]; exact Ar29.1) (State.isArrayOf_alike hZ.alike Ar29.2.1) Ar29.2.2 hin29 hat29 (g := (mkF m 17 #[.val (.ref a1), .val (.ref o2), .val (.int (4 : Int32))] [(.int (4 : Int32)), (.ref a1), (.int (4 : Int32)), (.ref o2)])) rfl rfl (hb hby d1_17) _ ?_
              show Steps p.tables e below (T26.setTop (mkF m 18 #[.val (.ref a1), .val (.ref o2), .val (.int (4 : Int32))] [(.int s4), (.int (4 : Int32)), (.ref o2)])) _
              refine st31 _ ?_
              show Steps p.tables e below (T26.setTop (mkF m 26 #[.val (.ref a1), .val (.ref o2), .val (.int (4 : Int32))] [(.int (if s4 = (0 : Int32) then (1 : Int32) else (0 : Int32))), (.int (4 : Int32)), (.ref o2)])) _
              refine st32 _ ?_
              show Steps p.tables e below (T32.setTop (mkF m 27 #[.val (.ref a1), .val (.ref o2), .val (.int (4 : Int32))] [])) _
              refine XS.iinc X32.here hx rfl (hb hby d1_27) rfl (l' := #[.val (.ref a1), .val (.ref o2), .val (.int (5 : Int32))]) rfl ?_
              show Steps p.tables e below (T32.setTop (mkF m 30 #[.val (.ref a1), .val (.ref o2), .val (.int (5 : Int32))] [])) _
              refine XS.goto X32.here hx rfl (pc0 := 30) (pc' := 7) rfl (hb hby d1_30) (by decide) (by decide) ?_
              show Steps p.tables e below (T32.setTop (mkF m 7 #[.val (.ref a1), .val (.ref o2), .val (.int (5 : Int32))] [])) _
              refine XS.iloadN X32.here hx rfl (hb hby d1_7) rfl ?_
              show Steps p.tables e below (T32.setTop (mkF m 8 #[.val (.ref a1), .val (.ref o2), .val (.int (5 : Int32))] [(.int (5 : Int32))])) _
              refine XS.aloadN X32.here hx rfl (hb hby d1_8) rfl rfl ?_
              show Steps p.tables e below (T32.setTop (mkF m 9 #[.val (.ref a1), .val (.ref o2), .val (.int (5 : Int32))] [(.ref a1), (.int (5 : Int32))])) _
              refine X32.arraylength hx (by rw [e32]; exact Ar33.1) (State.isArrayOf_alike hZ.alike Ar33.2.1) (g := (mkF m 9 #[.val (.ref a1), .val (.ref o2), .val (.int (5 : Int32))] [(.ref a1), (.int (5 : Int32))])) rfl rfl (hb hby d1_9) _ ?_
              rw [len_of S33 M33]
              exact k
            by_cases h34 : (5 : Int32) < n1
            · obtain ⟨cl35, Ar35, -, S35, M35, H35, -⟩ := id u32_0
              have hin35 := inb_of (j := (5 : Int32)) S35 ⟨by decide, h34⟩
              have hat35 := H35.at hin35 (v := (.int s5)) (rfl)
              have st37 : ∀ t, Steps p.tables e below (T32.setTop (mkF m 26 #[.val (.ref a1), .val (.ref o2), .val (.int (5 : Int32))] [(.int (if s5 = (0 : Int32) then (1 : Int32) else (0 : Int32))), (.int (5 : Int32)), (.ref o2)])) t → Steps p.tables e below (T32.setTop (mkF m 18 #[.val (.ref a1), .val (.ref o2), .val (.int (5 : Int32))] [(.int s5), (.int (5 : Int32)), (.ref o2)])) t := by
                intro t k
                by_cases h36 : s5 = (0 : Int32)
                · rw [show (if s5 = (0 : Int32) then (1 : Int32) else (0 : Int32)) = (1 : Int32) from if_pos h36] at k
                  show Steps p.tables e below (T32.setTop (mkF m 18 #[.val (.ref a1), .val (.ref o2), .val (.int (5 : Int32))] [(.int s5), (.int (5 : Int32)), (.ref o2)])) _
                  refine XS.ifNo X32.here hx rfl (hb hby d1_18) rfl ((if0 _ _).trans (teq h36).2) ?_
                  show Steps p.tables e below (T32.setTop (mkF m 21 #[.val (.ref a1), .val (.ref o2), .val (.int (5 : Int32))] [(.int (5 : Int32)), (.ref o2)])) _
                  refine XS.iconst X32.here hx rfl (hb hby d1_21) ?_
                  show Steps p.tables e below (T32.setTop (mkF m 22 #[.val (.ref a1), .val (.ref o2), .val (.int (5 : Int32))] [(.int (1 : Int32)), (.int (5 : Int32)), (.ref o2)])) _
                  refine XS.goto X32.here hx rfl (pc0 := 22) (pc' := 26) rfl (hb hby d1_22) (by decide) (by decide) ?_
                  exact k
                · rw [show (if s5 = (0 : Int32) then (1 : Int32) else (0 : Int32)) = (0 : Int32) from if_neg h36] at k
                  show Steps p.tables e below (T32.setTop (mkF m 18 #[.val (.ref a1), .val (.ref o2), .val (.int (5 : Int32))] [(.int s5), (.int (5 : Int32)), (.ref o2)])) _
                  refine XS.ifYes X32.here hx rfl (pc0 := 18) (pc' := 25) rfl (hb hby d1_18) rfl ((if0 _ _).trans (feq h36).2) (by decide) (by decide) ?_
                  show Steps p.tables e below (T32.setTop (mkF m 25 #[.val (.ref a1), .val (.ref o2), .val (.int (5 : Int32))] [(.int (5 : Int32)), (.ref o2)])) _
                  refine XS.iconst X32.here hx rfl (hb hby d1_25) ?_
                  exact k
              obtain ⟨cl38, Ar38, q38, S38, M38, H38, G38⟩ := id V32
              obtain ⟨T38, h38, X38, e38, W38, st38⟩ := stZ X32 hx hZ e32 Ar38 (j := (5 : Int32)) (inb_of S38 ⟨by decide, h34⟩) (g := (mkF m 26 #[.val (.ref a1), .val (.ref o2), .val (.int (5 : Int32))] [(.int (if s5 = (0 : Int32) then (1 : Int32) else (0 : Int32))), (.int (5 : Int32)), (.ref o2)])) rfl rfl (hb hby d1_26)
              have u38_0 := u32_0.other W38 ne2_1
              have K38 := K32.wr W38 (Or.inr sz2)
              have Z38 : n0 ≤ h38.size := Nat.le_trans Z32 (Keep.of_wr W38).1
              have N38 := Fr.snoc X38 N32 ge2
              have V38 : Arv Z h38 o2 kc2 .boolean n1 [(.int (f1_0 n1 s0 s1 s2 s3 s4 s5 s6)), (.int (f1_1 n1 s0 s1 s2 s3 s4 s5 s6)), (.int (f1_2 n1 s0 s1 s2 s3 s4 s5 s6)), (.int (f1_3 n1 s0 s1 s2 s3 s4 s5 s6)), (.int (f1_4 n1 s0 s1 s2 s3 s4 s5 s6)), (.int (f1_5 n1 s0 s1 s2 s3 s4 s5 s6)), (.int (0 : Int32))] (.int (0 : Int32)) := Arv.set Ar38 q38 S38 M38 H38 G38 (fits_nar_bool _) W38 5 (by decide) (by show 5 < 7; decide)
              obtain ⟨cl39, Ar39, -, S39, M39, -, -⟩ := id u38_0
              refine own_step (B := T38.setTop (mkF m 10 #[.val (.ref a1), .val (.ref o2), .val (.int (6 : Int32))] [(.int n1), (.int (6 : Int32))])) (fun t k => ?_) ?_
              · show Steps p.tables e below (T32.setTop (mkF m 10 #[.val (.ref a1), .val (.ref o2), .val (.int (5 : Int32))] [(.int n1), (.int (5 : Int32))])) _
                refine XS.icmpNo X32.here hx rfl (hb hby d1_10) rfl (tlt h34).2.1 ?_
                show Steps p.tables e below (T32.setTop (mkF m 13 #[.val (.ref a1), .val (.ref o2), .val (.int (5 : Int32))] [])) _
                refine XS.aloadN X32.here hx rfl (hb hby d1_13) rfl rfl ?_
                show Steps p.tables e below (T32.setTop (mkF m 14 #[.val (.ref a1), .val (.ref o2), .val (.int (5 : Int32))] [(.ref o2)])) _
                refine XS.iloadN X32.here hx rfl (hb hby d1_14) rfl ?_
                show Steps p.tables e below (T32.setTop (mkF m 15 #[.val (.ref a1), .val (.ref o2), .val (.int (5 : Int32))] [(.int (5 : Int32)), (.ref o2)])) _
                refine XS.aloadN X32.here hx rfl (hb hby d1_15) rfl rfl ?_
                show Steps p.tables e below (T32.setTop (mkF m 16 #[.val (.ref a1), .val (.ref o2), .val (.int (5 : Int32))] [(.ref a1), (.int (5 : Int32)), (.ref o2)])) _
                refine XS.iloadN X32.here hx rfl (hb hby d1_16) rfl ?_
                show Steps p.tables e below (T32.setTop (mkF m 17 #[.val (.ref a1), .val (.ref o2), .val (.int (5 : Int32))] [(.int (5 : Int32)), (.ref a1), (.int (5 : Int32)), (.ref o2)])) _
                refine X32.baloadBooleans hx (j := (5 : Int32)) (v := (.int s5)) (by rw [e32]; exact Ar35.1) (State.isArrayOf_alike hZ.alike Ar35.2.1) Ar35.2.2 hin35 hat35 (g := (mkF m 17 #[.val (.ref a1), .val (.ref o2), .val (.int (5 : Int32))] [(.int (5 : Int32)), (.ref a1), (.int (5 : Int32)), (.ref o2)])) rfl rfl (hb hby d1_17) _ ?_
                show Steps p.tables e below (T32.setTop (mkF m 18 #[.val (.ref a1), .val (.ref o2), .val (.int (5 : Int32))] [(.int s5), (.int (5 : Int32)), (.ref o2)])) _
                refine st37 _ ?_
                show Steps p.tables e below (T32.setTop (mkF m 26 #[.val (.ref a1), .val (.ref o2), .val (.int (5 : Int32))] [(.int (if s5 = (0 : Int32) then (1 : Int32) else (0 : Int32))), (.int (5 : Int32)), (.ref o2)])) _
                refine st38 _ ?_
                show Steps p.tables e below (T38.setTop (mkF m 27 #[.val (.ref a1), .val (.ref o2), .val (.int (5 : Int32))] [])) _
                refine XS.iinc X38.here hx rfl (hb hby d1_27) rfl (l' := #[.val (.ref a1), .val (.ref o2), .val (.int (6 : Int32))]) rfl ?_
                show Steps p.tables e below (T38.setTop (mkF m 30 #[.val (.ref a1), .val (.ref o2), .val (.int (6 : Int32))] [])) _
                refine XS.goto X38.here hx rfl (pc0 := 30) (pc' := 7) rfl (hb hby d1_30) (by decide) (by decide) ?_
                show Steps p.tables e below (T38.setTop (mkF m 7 #[.val (.ref a1), .val (.ref o2), .val (.int (6 : Int32))] [])) _
                refine XS.iloadN X38.here hx rfl (hb hby d1_7) rfl ?_
                show Steps p.tables e below (T38.setTop (mkF m 8 #[.val (.ref a1), .val (.ref o2), .val (.int (6 : Int32))] [(.int (6 : Int32))])) _
                refine XS.aloadN X38.here hx rfl (hb hby d1_8) rfl rfl ?_
                show Steps p.tables e below (T38.setTop (mkF m 9 #[.val (.ref a1), .val (.ref o2), .val (.int (6 : Int32))] [(.ref a1), (.int (6 : Int32))])) _
                refine X38.arraylength hx (by rw [e38]; exact Ar39.1) (State.isArrayOf_alike hZ.alike Ar39.2.1) (g := (mkF m 9 #[.val (.ref a1), .val (.ref o2), .val (.int (6 : Int32))] [(.ref a1), (.int (6 : Int32))])) rfl rfl (hb hby d1_9) _ ?_
                rw [len_of S39 M39]
                exact k
              by_cases h40 : (6 : Int32) < n1
              · obtain ⟨cl41, Ar41, -, S41, M41, H41, -⟩ := id u38_0
                have hin41 := inb_of (j := (6 : Int32)) S41 ⟨by decide, h40⟩
                have hat41 := H41.at hin41 (v := (.int s6)) (rfl)
                have st43 : ∀ t, Steps p.tables e below (T38.setTop (mkF m 26 #[.val (.ref a1), .val (.ref o2), .val (.int (6 : Int32))] [(.int (if s6 = (0 : Int32) then (1 : Int32) else (0 : Int32))), (.int (6 : Int32)), (.ref o2)])) t → Steps p.tables e below (T38.setTop (mkF m 18 #[.val (.ref a1), .val (.ref o2), .val (.int (6 : Int32))] [(.int s6), (.int (6 : Int32)), (.ref o2)])) t := by
                  intro t k
                  by_cases h42 : s6 = (0 : Int32)
                  · rw [show (if s6 = (0 : Int32) then (1 : Int32) else (0 : Int32)) = (1 : Int32) from if_pos h42] at k
                    show Steps p.tables e below (T38.setTop (mkF m 18 #[.val (.ref a1), .val (.ref o2), .val (.int (6 : Int32))] [(.int s6), (.int (6 : Int32)), (.ref o2)])) _
                    refine XS.ifNo X38.here hx rfl (hb hby d1_18) rfl ((if0 _ _).trans (teq h42).2) ?_
                    show Steps p.tables e below (T38.setTop (mkF m 21 #[.val (.ref a1), .val (.ref o2), .val (.int (6 : Int32))] [(.int (6 : Int32)), (.ref o2)])) _
                    refine XS.iconst X38.here hx rfl (hb hby d1_21) ?_
                    show Steps p.tables e below (T38.setTop (mkF m 22 #[.val (.ref a1), .val (.ref o2), .val (.int (6 : Int32))] [(.int (1 : Int32)), (.int (6 : Int32)), (.ref o2)])) _
                    refine XS.goto X38.here hx rfl (pc0 := 22) (pc' := 26) rfl (hb hby d1_22) (by decide) (by decide) ?_
                    exact k
                  · rw [show (if s6 = (0 : Int32) then (1 : Int32) else (0 : Int32)) = (0 : Int32) from if_neg h42] at k
                    show Steps p.tables e below (T38.setTop (mkF m 18 #[.val (.ref a1), .val (.ref o2), .val (.int (6 : Int32))] [(.int s6), (.int (6 : Int32)), (.ref o2)])) _
                    refine XS.ifYes X38.here hx rfl (pc0 := 18) (pc' := 25) rfl (hb hby d1_18) rfl ((if0 _ _).trans (feq h42).2) (by decide) (by decide) ?_
                    show Steps p.tables e below (T38.setTop (mkF m 25 #[.val (.ref a1), .val (.ref o2), .val (.int (6 : Int32))] [(.int (6 : Int32)), (.ref o2)])) _
                    refine XS.iconst X38.here hx rfl (hb hby d1_25) ?_
                    exact k
                obtain ⟨cl44, Ar44, q44, S44, M44, H44, G44⟩ := id V38
                obtain ⟨T44, h44, X44, e44, W44, st44⟩ := stZ X38 hx hZ e38 Ar44 (j := (6 : Int32)) (inb_of S44 ⟨by decide, h40⟩) (g := (mkF m 26 #[.val (.ref a1), .val (.ref o2), .val (.int (6 : Int32))] [(.int (if s6 = (0 : Int32) then (1 : Int32) else (0 : Int32))), (.int (6 : Int32)), (.ref o2)])) rfl rfl (hb hby d1_26)
                have u44_0 := u38_0.other W44 ne2_1
                have K44 := K38.wr W44 (Or.inr sz2)
                have Z44 : n0 ≤ h44.size := Nat.le_trans Z38 (Keep.of_wr W44).1
                have N44 := Fr.snoc X44 N38 ge2
                have V44 : Arv Z h44 o2 kc2 .boolean n1 [(.int (f1_0 n1 s0 s1 s2 s3 s4 s5 s6)), (.int (f1_1 n1 s0 s1 s2 s3 s4 s5 s6)), (.int (f1_2 n1 s0 s1 s2 s3 s4 s5 s6)), (.int (f1_3 n1 s0 s1 s2 s3 s4 s5 s6)), (.int (f1_4 n1 s0 s1 s2 s3 s4 s5 s6)), (.int (f1_5 n1 s0 s1 s2 s3 s4 s5 s6)), (.int (f1_6 n1 s0 s1 s2 s3 s4 s5 s6))] (.int (0 : Int32)) := Arv.set Ar44 q44 S44 M44 H44 G44 (fits_nar_bool _) W44 6 (by decide) (by show 6 < 7; decide)
                obtain ⟨cl45, Ar45, -, S45, M45, -, -⟩ := id u44_0
                have h46 : ¬ ((7 : Int32) < n1) := own_l7 hlen
                obtain ⟨fs, hr, hrun, hended, hW, hsame⟩ := X44.leave (v := some (.ref o2)) (fun h => by rw [Bd.returns] at h; cases h)
                refine ⟨_, _, ?_, hrun, hended, _, _, rfl, ?_, ⟨_, rfl⟩, hW, hsame.mono (by decide) (by decide)⟩
                · show Steps p.tables e below (T38.setTop (mkF m 10 #[.val (.ref a1), .val (.ref o2), .val (.int (6 : Int32))] [(.int n1), (.int (6 : Int32))])) _
                  refine XS.icmpNo X38.here hx rfl (hb hby d1_10) rfl (tlt h40).2.1 ?_
                  show Steps p.tables e below (T38.setTop (mkF m 13 #[.val (.ref a1), .val (.ref o2), .val (.int (6 : Int32))] [])) _
                  refine XS.aloadN X38.here hx rfl (hb hby d1_13) rfl rfl ?_
                  show Steps p.tables e below (T38.setTop (mkF m 14 #[.val (.ref a1), .val (.ref o2), .val (.int (6 : Int32))] [(.ref o2)])) _
                  refine XS.iloadN X38.here hx rfl (hb hby d1_14) rfl ?_
                  show Steps p.tables e below (T38.setTop (mkF m 15 #[.val (.ref a1), .val (.ref o2), .val (.int (6 : Int32))] [(.int (6 : Int32)), (.ref o2)])) _
                  refine XS.aloadN X38.here hx rfl (hb hby d1_15) rfl rfl ?_
                  show Steps p.tables e below (T38.setTop (mkF m 16 #[.val (.ref a1), .val (.ref o2), .val (.int (6 : Int32))] [(.ref a1), (.int (6 : Int32)), (.ref o2)])) _
                  refine XS.iloadN X38.here hx rfl (hb hby d1_16) rfl ?_
                  show Steps p.tables e below (T38.setTop (mkF m 17 #[.val (.ref a1), .val (.ref o2), .val (.int (6 : Int32))] [(.int (6 : Int32)), (.ref a1), (.int (6 : Int32)), (.ref o2)])) _
                  refine X38.baloadBooleans hx (j := (6 : Int32)) (v := (.int s6)) (by rw [e38]; exact Ar41.1) (State.isArrayOf_alike hZ.alike Ar41.2.1) Ar41.2.2 hin41 hat41 (g := (mkF m 17 #[.val (.ref a1), .val (.ref o2), .val (.int (6 : Int32))] [(.int (6 : Int32)), (.ref a1), (.int (6 : Int32)), (.ref o2)])) rfl rfl (hb hby d1_17) _ ?_
                  show Steps p.tables e below (T38.setTop (mkF m 18 #[.val (.ref a1), .val (.ref o2), .val (.int (6 : Int32))] [(.int s6), (.int (6 : Int32)), (.ref o2)])) _
                  refine st43 _ ?_
                  show Steps p.tables e below (T38.setTop (mkF m 26 #[.val (.ref a1), .val (.ref o2), .val (.int (6 : Int32))] [(.int (if s6 = (0 : Int32) then (1 : Int32) else (0 : Int32))), (.int (6 : Int32)), (.ref o2)])) _
                  refine st44 _ ?_
                  show Steps p.tables e below (T44.setTop (mkF m 27 #[.val (.ref a1), .val (.ref o2), .val (.int (6 : Int32))] [])) _
                  refine XS.iinc X44.here hx rfl (hb hby d1_27) rfl (l' := #[.val (.ref a1), .val (.ref o2), .val (.int (7 : Int32))]) rfl ?_
                  show Steps p.tables e below (T44.setTop (mkF m 30 #[.val (.ref a1), .val (.ref o2), .val (.int (7 : Int32))] [])) _
                  refine XS.goto X44.here hx rfl (pc0 := 30) (pc' := 7) rfl (hb hby d1_30) (by decide) (by decide) ?_
                  show Steps p.tables e below (T44.setTop (mkF m 7 #[.val (.ref a1), .val (.ref o2), .val (.int (7 : Int32))] [])) _
                  refine XS.iloadN X44.here hx rfl (hb hby d1_7) rfl ?_
                  show Steps p.tables e below (T44.setTop (mkF m 8 #[.val (.ref a1), .val (.ref o2), .val (.int (7 : Int32))] [(.int (7 : Int32))])) _
                  refine XS.aloadN X44.here hx rfl (hb hby d1_8) rfl rfl ?_
                  show Steps p.tables e below (T44.setTop (mkF m 9 #[.val (.ref a1), .val (.ref o2), .val (.int (7 : Int32))] [(.ref a1), (.int (7 : Int32))])) _
                  refine X44.arraylength hx (by rw [e44]; exact Ar45.1) (State.isArrayOf_alike hZ.alike Ar45.2.1) (g := (mkF m 9 #[.val (.ref a1), .val (.ref o2), .val (.int (7 : Int32))] [(.ref a1), (.int (7 : Int32))])) rfl rfl (hb hby d1_9) _ ?_
                  rw [len_of S45 M45]
                  show Steps p.tables e below (T44.setTop (mkF m 10 #[.val (.ref a1), .val (.ref o2), .val (.int (7 : Int32))] [(.int n1), (.int (7 : Int32))])) _
                  refine XS.icmpYes X44.here hx rfl (pc0 := 10) (pc' := 33) rfl (hb hby d1_10) rfl (flt h46).2.1 (by decide) (by decide) ?_
                  show Steps p.tables e below (T44.setTop (mkF m 33 #[.val (.ref a1), .val (.ref o2), .val (.int (7 : Int32))] [])) _
                  refine XS.aloadN X44.here hx rfl (hb hby d1_33) rfl rfl ?_
                  show Steps p.tables e below (T44.setTop (mkF m 34 #[.val (.ref a1), .val (.ref o2), .val (.int (7 : Int32))] [(.ref o2)])) _
                  jvm_step X44.here [X44.here.top, hx, (hb hby d1_34), X44.method', Bd.returns, Value.isRef, FieldType.isReference]
                  first | (intro acts; rw [hr _ acts rfl rfl rfl]) | rw [hr _ _ rfl rfl rfl]
                  exact Steps.refl _
                · show Q1 Z a1 k1 n1 s0 s1 s2 s3 s4 s5 s6 h0 n0 _ T44.heap _
                  rw [e44]
                  have hx1 : f1_x0 n1 s0 s1 s2 s3 s4 s5 s6 = (f1_0 n1 s0 s1 s2 s3 s4 s5 s6) := by simp only [f1_x0, if_pos h4, if_pos h10, if_pos h16, if_pos h22, if_pos h28, if_pos h34, if_pos h40]
                  have hx2 : f1_x1 n1 s0 s1 s2 s3 s4 s5 s6 = (f1_1 n1 s0 s1 s2 s3 s4 s5 s6) := by simp only [f1_x1, if_pos h4, if_pos h10, if_pos h16, if_pos h22, if_pos h28, if_pos h34, if_pos h40]
                  have hx3 : f1_x2 n1 s0 s1 s2 s3 s4 s5 s6 = (f1_2 n1 s0 s1 s2 s3 s4 s5 s6) := by simp only [f1_x2, if_pos h4, if_pos h10, if_pos h16, if_pos h22, if_pos h28, if_pos h34, if_pos h40]
                  have hx4 : f1_x3 n1 s0 s1 s2 s3 s4 s5 s6 = (f1_3 n1 s0 s1 s2 s3 s4 s5 s6) := by simp only [f1_x3, if_pos h4, if_pos h10, if_pos h16, if_pos h22, if_pos h28, if_pos h34, if_pos h40]
                  have hx5 : f1_x4 n1 s0 s1 s2 s3 s4 s5 s6 = (f1_4 n1 s0 s1 s2 s3 s4 s5 s6) := by simp only [f1_x4, if_pos h4, if_pos h10, if_pos h16, if_pos h22, if_pos h28, if_pos h34, if_pos h40]
                  have hx6 : f1_x5 n1 s0 s1 s2 s3 s4 s5 s6 = (f1_5 n1 s0 s1 s2 s3 s4 s5 s6) := by simp only [f1_x5, if_pos h4, if_pos h10, if_pos h16, if_pos h22, if_pos h28, if_pos h34, if_pos h40]
                  have hx7 : f1_x6 n1 s0 s1 s2 s3 s4 s5 s6 = (f1_6 n1 s0 s1 s2 s3 s4 s5 s6) := by simp only [f1_x6, if_pos h4, if_pos h10, if_pos h16, if_pos h22, if_pos h28, if_pos h34, if_pos h40]
                  exact ⟨o2, kc2, rfl, N44, K44, sz2, (by rw [hx1, hx2, hx3, hx4, hx5, hx6, hx7]; exact V44)⟩
              · obtain ⟨fs, hr, hrun, hended, hW, hsame⟩ := X38.leave (v := some (.ref o2)) (fun h => by rw [Bd.returns] at h; cases h)
                refine ⟨_, _, ?_, hrun, hended, _, _, rfl, ?_, ⟨_, rfl⟩, hW, hsame.mono (by decide) (by decide)⟩
                · show Steps p.tables e below (T38.setTop (mkF m 10 #[.val (.ref a1), .val (.ref o2), .val (.int (6 : Int32))] [(.int n1), (.int (6 : Int32))])) _
                  refine XS.icmpYes X38.here hx rfl (pc0 := 10) (pc' := 33) rfl (hb hby d1_10) rfl (flt h40).2.1 (by decide) (by decide) ?_
                  show Steps p.tables e below (T38.setTop (mkF m 33 #[.val (.ref a1), .val (.ref o2), .val (.int (6 : Int32))] [])) _
                  refine XS.aloadN X38.here hx rfl (hb hby d1_33) rfl rfl ?_
                  show Steps p.tables e below (T38.setTop (mkF m 34 #[.val (.ref a1), .val (.ref o2), .val (.int (6 : Int32))] [(.ref o2)])) _
                  jvm_step X38.here [X38.here.top, hx, (hb hby d1_34), X38.method', Bd.returns, Value.isRef, FieldType.isReference]
                  first | (intro acts; rw [hr _ acts rfl rfl rfl]) | rw [hr _ _ rfl rfl rfl]
                  exact Steps.refl _
                · show Q1 Z a1 k1 n1 s0 s1 s2 s3 s4 s5 s6 h0 n0 _ T38.heap _
                  rw [e38]
                  have hx1 : f1_x0 n1 s0 s1 s2 s3 s4 s5 s6 = (f1_0 n1 s0 s1 s2 s3 s4 s5 s6) := by simp only [f1_x0, if_pos h4, if_pos h10, if_pos h16, if_pos h22, if_pos h28, if_pos h34, if_neg h40]
                  have hx2 : f1_x1 n1 s0 s1 s2 s3 s4 s5 s6 = (f1_1 n1 s0 s1 s2 s3 s4 s5 s6) := by simp only [f1_x1, if_pos h4, if_pos h10, if_pos h16, if_pos h22, if_pos h28, if_pos h34, if_neg h40]
                  have hx3 : f1_x2 n1 s0 s1 s2 s3 s4 s5 s6 = (f1_2 n1 s0 s1 s2 s3 s4 s5 s6) := by simp only [f1_x2, if_pos h4, if_pos h10, if_pos h16, if_pos h22, if_pos h28, if_pos h34, if_neg h40]
                  have hx4 : f1_x3 n1 s0 s1 s2 s3 s4 s5 s6 = (f1_3 n1 s0 s1 s2 s3 s4 s5 s6) := by simp only [f1_x3, if_pos h4, if_pos h10, if_pos h16, if_pos h22, if_pos h28, if_pos h34, if_neg h40]
                  have hx5 : f1_x4 n1 s0 s1 s2 s3 s4 s5 s6 = (f1_4 n1 s0 s1 s2 s3 s4 s5 s6) := by simp only [f1_x4, if_pos h4, if_pos h10, if_pos h16, if_pos h22, if_pos h28, if_pos h34, if_neg h40]
                  have hx6 : f1_x5 n1 s0 s1 s2 s3 s4 s5 s6 = (f1_5 n1 s0 s1 s2 s3 s4 s5 s6) := by simp only [f1_x5, if_pos h4, if_pos h10, if_pos h16, if_pos h22, if_pos h28, if_pos h34, if_neg h40]
                  have hx7 : f1_x6 n1 s0 s1 s2 s3 s4 s5 s6 = (0 : Int32) := by simp only [f1_x6, if_pos h4, if_pos h10, if_pos h16, if_pos h22, if_pos h28, if_pos h34, if_neg h40]
                  exact ⟨o2, kc2, rfl, N38, K38, sz2, (by rw [hx1, hx2, hx3, hx4, hx5, hx6, hx7]; exact V38)⟩
            · obtain ⟨fs, hr, hrun, hended, hW, hsame⟩ := X32.leave (v := some (.ref o2)) (fun h => by rw [Bd.returns] at h; cases h)
              refine ⟨_, _, ?_, hrun, hended, _, _, rfl, ?_, ⟨_, rfl⟩, hW, hsame.mono (by decide) (by decide)⟩
              · show Steps p.tables e below (T32.setTop (mkF m 10 #[.val (.ref a1), .val (.ref o2), .val (.int (5 : Int32))] [(.int n1), (.int (5 : Int32))])) _
                refine XS.icmpYes X32.here hx rfl (pc0 := 10) (pc' := 33) rfl (hb hby d1_10) rfl (flt h34).2.1 (by decide) (by decide) ?_
                show Steps p.tables e below (T32.setTop (mkF m 33 #[.val (.ref a1), .val (.ref o2), .val (.int (5 : Int32))] [])) _
                refine XS.aloadN X32.here hx rfl (hb hby d1_33) rfl rfl ?_
                show Steps p.tables e below (T32.setTop (mkF m 34 #[.val (.ref a1), .val (.ref o2), .val (.int (5 : Int32))] [(.ref o2)])) _
                jvm_step X32.here [X32.here.top, hx, (hb hby d1_34), X32.method', Bd.returns, Value.isRef, FieldType.isReference]
                first | (intro acts; rw [hr _ acts rfl rfl rfl]) | rw [hr _ _ rfl rfl rfl]
                exact Steps.refl _
              · show Q1 Z a1 k1 n1 s0 s1 s2 s3 s4 s5 s6 h0 n0 _ T32.heap _
                rw [e32]
                have hx1 : f1_x0 n1 s0 s1 s2 s3 s4 s5 s6 = (f1_0 n1 s0 s1 s2 s3 s4 s5 s6) := by simp only [f1_x0, if_pos h4, if_pos h10, if_pos h16, if_pos h22, if_pos h28, if_neg h34]
                have hx2 : f1_x1 n1 s0 s1 s2 s3 s4 s5 s6 = (f1_1 n1 s0 s1 s2 s3 s4 s5 s6) := by simp only [f1_x1, if_pos h4, if_pos h10, if_pos h16, if_pos h22, if_pos h28, if_neg h34]
                have hx3 : f1_x2 n1 s0 s1 s2 s3 s4 s5 s6 = (f1_2 n1 s0 s1 s2 s3 s4 s5 s6) := by simp only [f1_x2, if_pos h4, if_pos h10, if_pos h16, if_pos h22, if_pos h28, if_neg h34]
                have hx4 : f1_x3 n1 s0 s1 s2 s3 s4 s5 s6 = (f1_3 n1 s0 s1 s2 s3 s4 s5 s6) := by simp only [f1_x3, if_pos h4, if_pos h10, if_pos h16, if_pos h22, if_pos h28, if_neg h34]
                have hx5 : f1_x4 n1 s0 s1 s2 s3 s4 s5 s6 = (f1_4 n1 s0 s1 s2 s3 s4 s5 s6) := by simp only [f1_x4, if_pos h4, if_pos h10, if_pos h16, if_pos h22, if_pos h28, if_neg h34]
                have hx6 : f1_x5 n1 s0 s1 s2 s3 s4 s5 s6 = (0 : Int32) := by simp only [f1_x5, if_pos h4, if_pos h10, if_pos h16, if_pos h22, if_pos h28, if_neg h34]
                have hx7 : f1_x6 n1 s0 s1 s2 s3 s4 s5 s6 = (0 : Int32) := by simp only [f1_x6, if_pos h4, if_pos h10, if_pos h16, if_pos h22, if_pos h28, if_neg h34]
                exact ⟨o2, kc2, rfl, N32, K32, sz2, (by rw [hx1, hx2, hx3, hx4, hx5, hx6, hx7]; exact V32)⟩
          · obtain ⟨fs, hr, hrun, hended, hW, hsame⟩ := X26.leave (v := some (.ref o2)) (fun h => by rw [Bd.returns] at h; cases h)
            refine ⟨_, _, ?_, hrun, hended, _, _, rfl, ?_, ⟨_, rfl⟩, hW, hsame.mono (by decide) (by decide)⟩
            · show Steps p.tables e below (T26.setTop (mkF m 10 #[.val (.ref a1), .val (.ref o2), .val (.int (4 : Int32))] [(.int n1), (.int (4 : Int32))])) _
              refine XS.icmpYes X26.here hx rfl (pc0 := 10) (pc' := 33) rfl (hb hby d1_10) rfl (flt h28).2.1 (by decide) (by decide) ?_
              show Steps p.tables e below (T26.setTop (mkF m 33 #[.val (.ref a1), .val (.ref o2), .val (.int (4 : Int32))] [])) _
              refine XS.aloadN X26.here hx rfl (hb hby d1_33) rfl rfl ?_
              show Steps p.tables e below (T26.setTop (mkF m 34 #[.val (.ref a1), .val (.ref o2), .val (.int (4 : Int32))] [(.ref o2)])) _
              jvm_step X26.here [X26.here.top, hx, (hb hby d1_34), X26.method', Bd.returns, Value.isRef, FieldType.isReference]
              first | (intro acts; rw [hr _ acts rfl rfl rfl]) | rw [hr _ _ rfl rfl rfl]
              exact Steps.refl _
            · show Q1 Z a1 k1 n1 s0 s1 s2 s3 s4 s5 s6 h0 n0 _ T26.heap _
              rw [e26]
              have hx1 : f1_x0 n1 s0 s1 s2 s3 s4 s5 s6 = (f1_0 n1 s0 s1 s2 s3 s4 s5 s6) := by simp only [f1_x0, if_pos h4, if_pos h10, if_pos h16, if_pos h22, if_neg h28]
              have hx2 : f1_x1 n1 s0 s1 s2 s3 s4 s5 s6 = (f1_1 n1 s0 s1 s2 s3 s4 s5 s6) := by simp only [f1_x1, if_pos h4, if_pos h10, if_pos h16, if_pos h22, if_neg h28]
              have hx3 : f1_x2 n1 s0 s1 s2 s3 s4 s5 s6 = (f1_2 n1 s0 s1 s2 s3 s4 s5 s6) := by simp only [f1_x2, if_pos h4, if_pos h10, if_pos h16, if_pos h22, if_neg h28]
              have hx4 : f1_x3 n1 s0 s1 s2 s3 s4 s5 s6 = (f1_3 n1 s0 s1 s2 s3 s4 s5 s6) := by simp only [f1_x3, if_pos h4, if_pos h10, if_pos h16, if_pos h22, if_neg h28]
              have hx5 : f1_x4 n1 s0 s1 s2 s3 s4 s5 s6 = (0 : Int32) := by simp only [f1_x4, if_pos h4, if_pos h10, if_pos h16, if_pos h22, if_neg h28]
              have hx6 : f1_x5 n1 s0 s1 s2 s3 s4 s5 s6 = (0 : Int32) := by simp only [f1_x5, if_pos h4, if_pos h10, if_pos h16, if_pos h22, if_neg h28]
              have hx7 : f1_x6 n1 s0 s1 s2 s3 s4 s5 s6 = (0 : Int32) := by simp only [f1_x6, if_pos h4, if_pos h10, if_pos h16, if_pos h22, if_neg h28]
              exact ⟨o2, kc2, rfl, N26, K26, sz2, (by rw [hx1, hx2, hx3, hx4, hx5, hx6, hx7]; exact V26)⟩
        · obtain ⟨fs, hr, hrun, hended, hW, hsame⟩ := X20.leave (v := some (.ref o2)) (fun h => by rw [Bd.returns] at h; cases h)
          refine ⟨_, _, ?_, hrun, hended, _, _, rfl, ?_, ⟨_, rfl⟩, hW, hsame.mono (by decide) (by decide)⟩
          · show Steps p.tables e below (T20.setTop (mkF m 10 #[.val (.ref a1), .val (.ref o2), .val (.int (3 : Int32))] [(.int n1), (.int (3 : Int32))])) _
            refine XS.icmpYes X20.here hx rfl (pc0 := 10) (pc' := 33) rfl (hb hby d1_10) rfl (flt h22).2.1 (by decide) (by decide) ?_
            show Steps p.tables e below (T20.setTop (mkF m 33 #[.val (.ref a1), .val (.ref o2), .val (.int (3 : Int32))] [])) _
            refine XS.aloadN X20.here hx rfl (hb hby d1_33) rfl rfl ?_
            show Steps p.tables e below (T20.setTop (mkF m 34 #[.val (.ref a1), .val (.ref o2), .val (.int (3 : Int32))] [(.ref o2)])) _
            jvm_step X20.here [X20.here.top, hx, (hb hby d1_34), X20.method', Bd.returns, Value.isRef, FieldType.isReference]
            first | (intro acts; rw [hr _ acts rfl rfl rfl]) | rw [hr _ _ rfl rfl rfl]
            exact Steps.refl _
          · show Q1 Z a1 k1 n1 s0 s1 s2 s3 s4 s5 s6 h0 n0 _ T20.heap _
            rw [e20]
            have hx1 : f1_x0 n1 s0 s1 s2 s3 s4 s5 s6 = (f1_0 n1 s0 s1 s2 s3 s4 s5 s6) := by simp only [f1_x0, if_pos h4, if_pos h10, if_pos h16, if_neg h22]
            have hx2 : f1_x1 n1 s0 s1 s2 s3 s4 s5 s6 = (f1_1 n1 s0 s1 s2 s3 s4 s5 s6) := by simp only [f1_x1, if_pos h4, if_pos h10, if_pos h16, if_neg h22]
            have hx3 : f1_x2 n1 s0 s1 s2 s3 s4 s5 s6 = (f1_2 n1 s0 s1 s2 s3 s4 s5 s6) := by simp only [f1_x2, if_pos h4, if_pos h10, if_pos h16, if_neg h22]
            have hx4 : f1_x3 n1 s0 s1 s2 s3 s4 s5 s6 = (0 : Int32) := by simp only [f1_x3, if_pos h4, if_pos h10, if_pos h16, if_neg h22]
            have hx5 : f1_x4 n1 s0 s1 s2 s3 s4 s5 s6 = (0 : Int32) := by simp only [f1_x4, if_pos h4, if_pos h10, if_pos h16, if_neg h22]
            have hx6 : f1_x5 n1 s0 s1 s2 s3 s4 s5 s6 = (0 : Int32) := by simp only [f1_x5, if_pos h4, if_pos h10, if_pos h16, if_neg h22]
            have hx7 : f1_x6 n1 s0 s1 s2 s3 s4 s5 s6 = (0 : Int32) := by simp only [f1_x6, if_pos h4, if_pos h10, if_pos h16, if_neg h22]
            exact ⟨o2, kc2, rfl, N20, K20, sz2, (by rw [hx1, hx2, hx3, hx4, hx5, hx6, hx7]; exact V20)⟩
      · obtain ⟨fs, hr, hrun, hended, hW, hsame⟩ := X14.leave (v := some (.ref o2)) (fun h => by rw [Bd.returns] at h; cases h)
        refine ⟨_, _, ?_, hrun, hended, _, _, rfl, ?_, ⟨_, rfl⟩, hW, hsame.mono (by decide) (by decide)⟩
        · show Steps p.tables e below (T14.setTop (mkF m 10 #[.val (.ref a1), .val (.ref o2), .val (.int (2 : Int32))] [(.int n1), (.int (2 : Int32))])) _
          refine XS.icmpYes X14.here hx rfl (pc0 := 10) (pc' := 33) rfl (hb hby d1_10) rfl (flt h16).2.1 (by decide) (by decide) ?_
          show Steps p.tables e below (T14.setTop (mkF m 33 #[.val (.ref a1), .val (.ref o2), .val (.int (2 : Int32))] [])) _
          refine XS.aloadN X14.here hx rfl (hb hby d1_33) rfl rfl ?_
          show Steps p.tables e below (T14.setTop (mkF m 34 #[.val (.ref a1), .val (.ref o2), .val (.int (2 : Int32))] [(.ref o2)])) _
          jvm_step X14.here [X14.here.top, hx, (hb hby d1_34), X14.method', Bd.returns, Value.isRef, FieldType.isReference]
          first | (intro acts; rw [hr _ acts rfl rfl rfl]) | rw [hr _ _ rfl rfl rfl]
          exact Steps.refl _
        · show Q1 Z a1 k1 n1 s0 s1 s2 s3 s4 s5 s6 h0 n0 _ T14.heap _
          rw [e14]
          have hx1 : f1_x0 n1 s0 s1 s2 s3 s4 s5 s6 = (f1_0 n1 s0 s1 s2 s3 s4 s5 s6) := by simp only [f1_x0, if_pos h4, if_pos h10, if_neg h16]
          have hx2 : f1_x1 n1 s0 s1 s2 s3 s4 s5 s6 = (f1_1 n1 s0 s1 s2 s3 s4 s5 s6) := by simp only [f1_x1, if_pos h4, if_pos h10, if_neg h16]
          have hx3 : f1_x2 n1 s0 s1 s2 s3 s4 s5 s6 = (0 : Int32) := by simp only [f1_x2, if_pos h4, if_pos h10, if_neg h16]
          have hx4 : f1_x3 n1 s0 s1 s2 s3 s4 s5 s6 = (0 : Int32) := by simp only [f1_x3, if_pos h4, if_pos h10, if_neg h16]
          have hx5 : f1_x4 n1 s0 s1 s2 s3 s4 s5 s6 = (0 : Int32) := by simp only [f1_x4, if_pos h4, if_pos h10, if_neg h16]
          have hx6 : f1_x5 n1 s0 s1 s2 s3 s4 s5 s6 = (0 : Int32) := by simp only [f1_x5, if_pos h4, if_pos h10, if_neg h16]
          have hx7 : f1_x6 n1 s0 s1 s2 s3 s4 s5 s6 = (0 : Int32) := by simp only [f1_x6, if_pos h4, if_pos h10, if_neg h16]
          exact ⟨o2, kc2, rfl, N14, K14, sz2, (by rw [hx1, hx2, hx3, hx4, hx5, hx6, hx7]; exact V14)⟩
    · obtain ⟨fs, hr, hrun, hended, hW, hsame⟩ := X8.leave (v := some (.ref o2)) (fun h => by rw [Bd.returns] at h; cases h)
      refine ⟨_, _, ?_, hrun, hended, _, _, rfl, ?_, ⟨_, rfl⟩, hW, hsame.mono (by decide) (by decide)⟩
      · show Steps p.tables e below (T8.setTop (mkF m 10 #[.val (.ref a1), .val (.ref o2), .val (.int (1 : Int32))] [(.int n1), (.int (1 : Int32))])) _
        refine XS.icmpYes X8.here hx rfl (pc0 := 10) (pc' := 33) rfl (hb hby d1_10) rfl (flt h10).2.1 (by decide) (by decide) ?_
        show Steps p.tables e below (T8.setTop (mkF m 33 #[.val (.ref a1), .val (.ref o2), .val (.int (1 : Int32))] [])) _
        refine XS.aloadN X8.here hx rfl (hb hby d1_33) rfl rfl ?_
        show Steps p.tables e below (T8.setTop (mkF m 34 #[.val (.ref a1), .val (.ref o2), .val (.int (1 : Int32))] [(.ref o2)])) _
        jvm_step X8.here [X8.here.top, hx, (hb hby d1_34), X8.method', Bd.returns, Value.isRef, FieldType.isReference]
        first | (intro acts; rw [hr _ acts rfl rfl rfl]) | rw [hr _ _ rfl rfl rfl]
        exact Steps.refl _
      · show Q1 Z a1 k1 n1 s0 s1 s2 s3 s4 s5 s6 h0 n0 _ T8.heap _
        rw [e8]
        have hx1 : f1_x0 n1 s0 s1 s2 s3 s4 s5 s6 = (f1_0 n1 s0 s1 s2 s3 s4 s5 s6) := by simp only [f1_x0, if_pos h4, if_neg h10]
        have hx2 : f1_x1 n1 s0 s1 s2 s3 s4 s5 s6 = (0 : Int32) := by simp only [f1_x1, if_pos h4, if_neg h10]
        have hx3 : f1_x2 n1 s0 s1 s2 s3 s4 s5 s6 = (0 : Int32) := by simp only [f1_x2, if_pos h4, if_neg h10]
        have hx4 : f1_x3 n1 s0 s1 s2 s3 s4 s5 s6 = (0 : Int32) := by simp only [f1_x3, if_pos h4, if_neg h10]
        have hx5 : f1_x4 n1 s0 s1 s2 s3 s4 s5 s6 = (0 : Int32) := by simp only [f1_x4, if_pos h4, if_neg h10]
        have hx6 : f1_x5 n1 s0 s1 s2 s3 s4 s5 s6 = (0 : Int32) := by simp only [f1_x5, if_pos h4, if_neg h10]
        have hx7 : f1_x6 n1 s0 s1 s2 s3 s4 s5 s6 = (0 : Int32) := by simp only [f1_x6, if_pos h4, if_neg h10]
        exact ⟨o2, kc2, rfl, N8, K8, sz2, (by rw [hx1, hx2, hx3, hx4, hx5, hx6, hx7]; exact V8)⟩
  · obtain ⟨fs, hr, hrun, hended, hW, hsame⟩ := X2.leave (v := some (.ref o2)) (fun h => by rw [Bd.returns] at h; cases h)
    refine ⟨_, _, ?_, hrun, hended, _, _, rfl, ?_, ⟨_, rfl⟩, hW, hsame.mono (by decide) (by decide)⟩
    · show Steps p.tables e below (T2.setTop (mkF m 10 #[.val (.ref a1), .val (.ref o2), .val (.int (0 : Int32))] [(.int n1), (.int (0 : Int32))])) _
      refine XS.icmpYes X2.here hx rfl (pc0 := 10) (pc' := 33) rfl (hb hby d1_10) rfl (flt h4).2.1 (by decide) (by decide) ?_
      show Steps p.tables e below (T2.setTop (mkF m 33 #[.val (.ref a1), .val (.ref o2), .val (.int (0 : Int32))] [])) _
      refine XS.aloadN X2.here hx rfl (hb hby d1_33) rfl rfl ?_
      show Steps p.tables e below (T2.setTop (mkF m 34 #[.val (.ref a1), .val (.ref o2), .val (.int (0 : Int32))] [(.ref o2)])) _
      jvm_step X2.here [X2.here.top, hx, (hb hby d1_34), X2.method', Bd.returns, Value.isRef, FieldType.isReference]
      first | (intro acts; rw [hr _ acts rfl rfl rfl]) | rw [hr _ _ rfl rfl rfl]
      exact Steps.refl _
    · show Q1 Z a1 k1 n1 s0 s1 s2 s3 s4 s5 s6 h0 n0 _ T2.heap _
      rw [e2]
      have hx1 : f1_x0 n1 s0 s1 s2 s3 s4 s5 s6 = (0 : Int32) := by simp only [f1_x0, if_neg h4]
      have hx2 : f1_x1 n1 s0 s1 s2 s3 s4 s5 s6 = (0 : Int32) := by simp only [f1_x1, if_neg h4]
      have hx3 : f1_x2 n1 s0 s1 s2 s3 s4 s5 s6 = (0 : Int32) := by simp only [f1_x2, if_neg h4]
      have hx4 : f1_x3 n1 s0 s1 s2 s3 s4 s5 s6 = (0 : Int32) := by simp only [f1_x3, if_neg h4]
      have hx5 : f1_x4 n1 s0 s1 s2 s3 s4 s5 s6 = (0 : Int32) := by simp only [f1_x4, if_neg h4]
      have hx6 : f1_x5 n1 s0 s1 s2 s3 s4 s5 s6 = (0 : Int32) := by simp only [f1_x5, if_neg h4]
      have hx7 : f1_x6 n1 s0 s1 s2 s3 s4 s5 s6 = (0 : Int32) := by simp only [f1_x6, if_neg h4]
      exact ⟨o2, kc2, rfl, N0, K2, sz2, (by rw [hx1, hx2, hx3, hx4, hx5, hx6, hx7]; exact V2)⟩
theorem d2_0 : decode method_3_code 0 = .ok (.iload_n 2, 1) := by decide +kernel
theorem d2_1 : decode method_3_code 1 = .ok (.aload_n 0, 1) := by decide +kernel
theorem d2_2 : decode method_3_code 2 = .ok (.arraylength, 1) := by decide +kernel
theorem d2_3 : decode method_3_code 3 = .ok (.if_icmp .lt 5, 3) := by decide +kernel
theorem d2_6 : decode method_3_code 6 = .ok (.iconst 1, 1) := by decide +kernel
theorem d2_7 : decode method_3_code 7 = .ok (.ireturn, 1) := by decide +kernel
theorem d2_8 : decode method_3_code 8 = .ok (.iload_n 3, 1) := by decide +kernel
theorem d2_9 : decode method_3_code 9 = .ok (.iload_n 2, 1) := by decide +kernel
theorem d2_10 : decode method_3_code 10 = .ok (.iushr, 1) := by decide +kernel
theorem d2_11 : decode method_3_code 11 = .ok (.iconst 1, 1) := by decide +kernel
theorem d2_12 : decode method_3_code 12 = .ok (.iand, 1) := by decide +kernel
theorem d2_13 : decode method_3_code 13 = .ok (.ifCond .eq 7, 3) := by decide +kernel
theorem d2_16 : decode method_3_code 16 = .ok (.iconst 1, 1) := by decide +kernel
theorem d2_17 : decode method_3_code 17 = .ok (.goto 4, 3) := by decide +kernel
theorem d2_20 : decode method_3_code 20 = .ok (.iconst 0, 1) := by decide +kernel
theorem d2_21 : decode method_3_code 21 = .ok (.istore 4, 2) := by decide +kernel
theorem d2_23 : decode method_3_code 23 = .ok (.aload_n 0, 1) := by decide +kernel
theorem d2_24 : decode method_3_code 24 = .ok (.iload_n 2, 1) := by decide +kernel
theorem d2_25 : decode method_3_code 25 = .ok (.baload, 1) := by decide +kernel
theorem d2_26 : decode method_3_code 26 = .ok (.iload 4, 2) := by decide +kernel
theorem d2_28 : decode method_3_code 28 = .ok (.if_icmp .ne 23, 3) := by decide +kernel
theorem d2_31 : decode method_3_code 31 = .ok (.aload_n 1, 1) := by decide +kernel
theorem d2_32 : decode method_3_code 32 = .ok (.iload_n 2, 1) := by decide +kernel
theorem d2_33 : decode method_3_code 33 = .ok (.baload, 1) := by decide +kernel
theorem d2_34 : decode method_3_code 34 = .ok (.iload 4, 2) := by decide +kernel
theorem d2_36 : decode method_3_code 36 = .ok (.ifCond .ne 7, 3) := by decide +kernel
theorem d2_39 : decode method_3_code 39 = .ok (.iconst 1, 1) := by decide +kernel
theorem d2_40 : decode method_3_code 40 = .ok (.goto 4, 3) := by decide +kernel
theorem d2_43 : decode method_3_code 43 = .ok (.iconst 0, 1) := by decide +kernel
theorem d2_44 : decode method_3_code 44 = .ok (.if_icmp .ne 7, 3) := by decide +kernel
theorem d2_47 : decode method_3_code 47 = .ok (.iconst 1, 1) := by decide +kernel
theorem d2_48 : decode method_3_code 48 = .ok (.goto 4, 3) := by decide +kernel
theorem d2_51 : decode method_3_code 51 = .ok (.iconst 0, 1) := by decide +kernel
theorem d2_52 : decode method_3_code 52 = .ok (.ireturn, 1) := by decide +kernel
theorem pn_at0 : plainName "com/example/bonn/bonn/FormulaComplementPinLaw" = true := by first | (simp [plainName, overriddenIn]; done) | decide +kernel
theorem ef_at0 (m : MethodId) (a1 : Addr) (a2 : Addr) (p4 : Int32) : entryFrame m #[(.ref a1), (.ref a2), (.int (0 : Int32)), (.int p4)] 5 = mkF m 0 #[.val (.ref a1), .val (.ref a2), .val (.int (0 : Int32)), .val (.int p4), .unset] [] := by first | (simp [entryFrame, mkF, argsToLocals, Value.category]; done) | rfl
def Qat0 (Z : State) (a1 : Addr) (a2 : Addr) (p4 : Int32) (k1 : ClassId) (n1 : Int32) (s0 : Int32) (s1 : Int32) (s2 : Int32) (s3 : Int32) (s4 : Int32) (s5 : Int32) (s6 : Int32) (k2 : ClassId) (r0 : Int32) (r1 : Int32) (r2 : Int32) (r3 : Int32) (r4 : Int32) (r5 : Int32) (r6 : Int32) (h0 : Heap) (n0 : Nat) (v : Option Value) (h : Heap) (L : List Loc) : Prop := v = some (.int (fat0 p4 n1 s0 s1 s2 s3 s4 s5 s6 r0 r1 r2 r3 r4 r5 r6)) ∧ Fr n0 L ∧ h = h0
set_option maxRecDepth 65536 in
set_option maxHeartbeats 40000000 in
theorem rmat0 (l : Launch) (Z : State) (a0 : Array Value) (hw : ∀ d ∈ tables_1, d.before a0 Z = true) (ws : List Jvm.Cond) (a1 : Addr) (a2 : Addr) (p4 : Int32) (k1 : ClassId) (n1 : Int32) (s0 : Int32) (s1 : Int32) (s2 : Int32) (s3 : Int32) (s4 : Int32) (s5 : Int32) (s6 : Int32) (k2 : ClassId) (r0 : Int32) (r1 : Int32) (r2 : Int32) (r3 : Int32) (r4 : Int32) (r5 : Int32) (r6 : Int32) (h0 : Heap) (n0 : Nat) (Z0 : n0 ≤ h0.size) (A_a1 : Arv Z h0 a1 k1 .boolean n1 [(.int s0), (.int s1), (.int s2), (.int s3), (.int s4), (.int s5), (.int s6)] (.int (0 : Int32))) (A_a2 : Arv Z h0 a2 k2 .boolean n1 [(.int r0), (.int r1), (.int r2), (.int r3), (.int r4), (.int r5), (.int r6)] (.int (0 : Int32))) :
    MetFree l (⟨"com/example/bonn/bonn/FormulaComplementPinLaw", "at", "([Z[ZII)Z"⟩ : MethodName) (head1 (Jvm.Cond.code (⟨"com/example/bonn/bonn/FormulaComplementPinLaw", "at", "([Z[ZII)Z"⟩ : MethodName) method_3_code 5 (some .boolean) :: ws) ({ frames := 0, cells := 0, slots := 0, locals := 0 } : Room)) (fun a U => a = #[(.ref a1), (.ref a2), (.int (0 : Int32)), (.int p4)] ∧ Z.Warmed39 U.vm ∧ U.heap = h0) (fun _ _ _ _ _ => True) (fun _ U o U' => ∃ v L, o = .returned v ∧ Qat0 Z a1 a2 p4 k1 n1 s0 s1 s2 s3 s4 s5 s6 k2 r0 r1 r2 r3 r4 r5 r6 h0 n0 v U'.heap L ∧ FrameEnd U o U' L ({ frames := 0, cells := 0, slots := 0, locals := 0 } : Room).cells ({ frames := 0, cells := 0, slots := 0, locals := 0 } : Room).slots) := by
  refine MetFree.of_bodySF (plainFor_of_name pn_at0) hisR ?_
  intro p e s m args below meth c s₁ Bd hml0 hP hK
  obtain ⟨rfl, hZ, hh⟩ := hP
  have hx := Bd.exec
  have hby := Bd.bytes
  have hml : c.maxLocals = 5 := hml0
  have hown : s.vm.findClass "com/example/bonn/bonn/FormulaComplementPinLaw" = some m.cls := findClass_of_methodNamed Bd.named
  have hnm := (name_of_methodNamed Bd.named Bd.method).1
  have X0 : Stand p l e ({ frames := 0, cells := 0, slots := 0, locals := 0 } : Room) s m #[(.ref a1), (.ref a2), (.int (0 : Int32)), (.int p4)] below meth c s₁ [] 0 0 := Stand.of_body Bd
  have e0 : s₁.heap = h0 := by rw [← hh, Bd.state]; rfl
  have N0 := Fr.nil n0
  have pre0 : ∀ t, Steps p.tables e below (s₁.setTop (mkF m 0 #[.val (.ref a1), .val (.ref a2), .val (.int (0 : Int32)), .val (.int p4), .unset] [])) t → Steps p.tables e below (s₁.setTop (entryFrame m #[(.ref a1), (.ref a2), (.int (0 : Int32)), (.int p4)] 5)) t := fun t k => castTop (ef_at0 m a1 a2 p4) k
  refine own_step (Q := fun o U' => ∃ v L, o = .returned v ∧ Qat0 Z a1 a2 p4 k1 n1 s0 s1 s2 s3 s4 s5 s6 k2 r0 r1 r2 r3 r4 r5 r6 h0 n0 v U'.heap L ∧ FrameEnd s o U' L ({ frames := 0, cells := 0, slots := 0, locals := 0 } : Room).cells ({ frames := 0, cells := 0, slots := 0, locals := 0 } : Room).slots) pre0 ?_
  obtain ⟨cl1, Ar1, -, S1, M1, -, -⟩ := id A_a1
  refine own_step (B := s₁.setTop (mkF m 3 #[.val (.ref a1), .val (.ref a2), .val (.int (0 : Int32)), .val (.int p4), .unset] [(.int n1), (.int (0 : Int32))])) (fun t k => ?_) ?_
  · show Steps p.tables e below (s₁.setTop (mkF m 0 #[.val (.ref a1), .val (.ref a2), .val (.int (0 : Int32)), .val (.int p4), .unset] [])) _
    refine XS.iloadN X0.here hx rfl (hb hby d2_0) rfl ?_
    show Steps p.tables e below (s₁.setTop (mkF m 1 #[.val (.ref a1), .val (.ref a2), .val (.int (0 : Int32)), .val (.int p4), .unset] [(.int (0 : Int32))])) _
    refine XS.aloadN X0.here hx rfl (hb hby d2_1) rfl rfl ?_
    show Steps p.tables e below (s₁.setTop (mkF m 2 #[.val (.ref a1), .val (.ref a2), .val (.int (0 : Int32)), .val (.int p4), .unset] [(.ref a1), (.int (0 : Int32))])) _
    refine X0.arraylength hx (by rw [e0]; exact Ar1.1) (State.isArrayOf_alike hZ.alike Ar1.2.1) (g := (mkF m 2 #[.val (.ref a1), .val (.ref a2), .val (.int (0 : Int32)), .val (.int p4), .unset] [(.ref a1), (.int (0 : Int32))])) rfl rfl (hb hby d2_2) _ ?_
    rw [len_of S1 M1]
    exact k
  by_cases h2 : (0 : Int32) < n1
  · have st4 : ∀ t, Steps p.tables e below (s₁.setTop (mkF m 21 #[.val (.ref a1), .val (.ref a2), .val (.int (0 : Int32)), .val (.int p4), .unset] [(.int (fat0_0 p4 n1 s0 s1 s2 s3 s4 s5 s6 r0 r1 r2 r3 r4 r5 r6))])) t → Steps p.tables e below (s₁.setTop (mkF m 13 #[.val (.ref a1), .val (.ref a2), .val (.int (0 : Int32)), .val (.int p4), .unset] [(.int ((XT.ushr p4 (0 : Int32)) &&& (1 : Int32)))])) t := by
      intro t k
      by_cases h3 : ((XT.ushr p4 (0 : Int32)) &&& (1 : Int32)) = (0 : Int32)
      · rw [show (fat0_0 p4 n1 s0 s1 s2 s3 s4 s5 s6 r0 r1 r2 r3 r4 r5 r6) = (0 : Int32) from if_pos h3] at k
        show Steps p.tables e below (s₁.setTop (mkF m 13 #[.val (.ref a1), .val (.ref a2), .val (.int (0 : Int32)), .val (.int p4), .unset] [(.int ((XT.ushr p4 (0 : Int32)) &&& (1 : Int32)))])) _
        refine XS.ifYes X0.here hx rfl (pc0 := 13) (pc' := 20) rfl (hb hby d2_13) rfl ((if0 _ _).trans (teq h3).1) (by decide) (by decide) ?_
        show Steps p.tables e below (s₁.setTop (mkF m 20 #[.val (.ref a1), .val (.ref a2), .val (.int (0 : Int32)), .val (.int p4), .unset] [])) _
        refine XS.iconst X0.here hx rfl (hb hby d2_20) ?_
        exact k
      · rw [show (fat0_0 p4 n1 s0 s1 s2 s3 s4 s5 s6 r0 r1 r2 r3 r4 r5 r6) = (1 : Int32) from if_neg h3] at k
        show Steps p.tables e below (s₁.setTop (mkF m 13 #[.val (.ref a1), .val (.ref a2), .val (.int (0 : Int32)), .val (.int p4), .unset] [(.int ((XT.ushr p4 (0 : Int32)) &&& (1 : Int32)))])) _
        refine XS.ifNo X0.here hx rfl (hb hby d2_13) rfl ((if0 _ _).trans (feq h3).1) ?_
        show Steps p.tables e below (s₁.setTop (mkF m 16 #[.val (.ref a1), .val (.ref a2), .val (.int (0 : Int32)), .val (.int p4), .unset] [])) _
        refine XS.iconst X0.here hx rfl (hb hby d2_16) ?_
        show Steps p.tables e below (s₁.setTop (mkF m 17 #[.val (.ref a1), .val (.ref a2), .val (.int (0 : Int32)), .val (.int p4), .unset] [(.int (1 : Int32))])) _
        refine XS.goto X0.here hx rfl (pc0 := 17) (pc' := 21) rfl (hb hby d2_17) (by decide) (by decide) ?_
        exact k
    obtain ⟨cl5, Ar5, -, S5, M5, H5, -⟩ := id A_a1
    have hin5 := inb_of (j := (0 : Int32)) S5 ⟨by decide, h2⟩
    have hat5 := H5.at hin5 (v := (.int s0)) (rfl)
    have st12 : ∀ t, Steps p.tables e below (s₁.setTop (mkF m 52 #[.val (.ref a1), .val (.ref a2), .val (.int (0 : Int32)), .val (.int p4), .val (.int (fat0_0 p4 n1 s0 s1 s2 s3 s4 s5 s6 r0 r1 r2 r3 r4 r5 r6))] [(.int (fat0_3 p4 n1 s0 s1 s2 s3 s4 s5 s6 r0 r1 r2 r3 r4 r5 r6))])) t → Steps p.tables e below (s₁.setTop (mkF m 28 #[.val (.ref a1), .val (.ref a2), .val (.int (0 : Int32)), .val (.int p4), .val (.int (fat0_0 p4 n1 s0 s1 s2 s3 s4 s5 s6 r0 r1 r2 r3 r4 r5 r6))] [(.int (fat0_0 p4 n1 s0 s1 s2 s3 s4 s5 s6 r0 r1 r2 r3 r4 r5 r6)), (.int s0)])) t := by
      intro t k
      by_cases h6 : s0 = (fat0_0 p4 n1 s0 s1 s2 s3 s4 s5 s6 r0 r1 r2 r3 r4 r5 r6)
      · obtain ⟨cl7, Ar7, -, S7, M7, H7, -⟩ := id A_a2
        have hin7 := inb_of (j := (0 : Int32)) S7 ⟨by decide, h2⟩
        have hat7 := H7.at hin7 (v := (.int r0)) (rfl)
        have st9 : ∀ t, Steps p.tables e below (s₁.setTop (mkF m 44 #[.val (.ref a1), .val (.ref a2), .val (.int (0 : Int32)), .val (.int p4), .val (.int (fat0_0 p4 n1 s0 s1 s2 s3 s4 s5 s6 r0 r1 r2 r3 r4 r5 r6))] [(.int (fat0_1 p4 n1 s0 s1 s2 s3 s4 s5 s6 r0 r1 r2 r3 r4 r5 r6)), (.int r0)])) t → Steps p.tables e below (s₁.setTop (mkF m 36 #[.val (.ref a1), .val (.ref a2), .val (.int (0 : Int32)), .val (.int p4), .val (.int (fat0_0 p4 n1 s0 s1 s2 s3 s4 s5 s6 r0 r1 r2 r3 r4 r5 r6))] [(.int (fat0_0 p4 n1 s0 s1 s2 s3 s4 s5 s6 r0 r1 r2 r3 r4 r5 r6)), (.int r0)])) t := by
          intro t k
          by_cases h8 : (fat0_0 p4 n1 s0 s1 s2 s3 s4 s5 s6 r0 r1 r2 r3 r4 r5 r6) = (0 : Int32)
          · rw [show (fat0_1 p4 n1 s0 s1 s2 s3 s4 s5 s6 r0 r1 r2 r3 r4 r5 r6) = (1 : Int32) from if_pos h8] at k
            show Steps p.tables e below (s₁.setTop (mkF m 36 #[.val (.ref a1), .val (.ref a2), .val (.int (0 : Int32)), .val (.int p4), .val (.int (fat0_0 p4 n1 s0 s1 s2 s3 s4 s5 s6 r0 r1 r2 r3 r4 r5 r6))] [(.int (fat0_0 p4 n1 s0 s1 s2 s3 s4 s5 s6 r0 r1 r2 r3 r4 r5 r6)), (.int r0)])) _
            refine XS.ifNo X0.here hx rfl (hb hby d2_36) rfl ((if0 _ _).trans (teq h8).2) ?_
            show Steps p.tables e below (s₁.setTop (mkF m 39 #[.val (.ref a1), .val (.ref a2), .val (.int (0 : Int32)), .val (.int p4), .val (.int (fat0_0 p4 n1 s0 s1 s2 s3 s4 s5 s6 r0 r1 r2 r3 r4 r5 r6))] [(.int r0)])) _
            refine XS.iconst X0.here hx rfl (hb hby d2_39) ?_
            show Steps p.tables e below (s₁.setTop (mkF m 40 #[.val (.ref a1), .val (.ref a2), .val (.int (0 : Int32)), .val (.int p4), .val (.int (fat0_0 p4 n1 s0 s1 s2 s3 s4 s5 s6 r0 r1 r2 r3 r4 r5 r6))] [(.int (1 : Int32)), (.int r0)])) _
            refine XS.goto X0.here hx rfl (pc0 := 40) (pc' := 44) rfl (hb hby d2_40) (by decide) (by decide) ?_
            exact k
          · rw [show (fat0_1 p4 n1 s0 s1 s2 s3 s4 s5 s6 r0 r1 r2 r3 r4 r5 r6) = (0 : Int32) from if_neg h8] at k
            show Steps p.tables e below (s₁.setTop (mkF m 36 #[.val (.ref a1), .val (.ref a2), .val (.int (0 : Int32)), .val (.int p4), .val (.int (fat0_0 p4 n1 s0 s1 s2 s3 s4 s5 s6 r0 r1 r2 r3 r4 r5 r6))] [(.int (fat0_0 p4 n1 s0 s1 s2 s3 s4 s5 s6 r0 r1 r2 r3 r4 r5 r6)), (.int r0)])) _
            refine XS.ifYes X0.here hx rfl (pc0 := 36) (pc' := 43) rfl (hb hby d2_36) rfl ((if0 _ _).trans (feq h8).2) (by decide) (by decide) ?_
            show Steps p.tables e below (s₁.setTop (mkF m 43 #[.val (.ref a1), .val (.ref a2), .val (.int (0 : Int32)), .val (.int p4), .val (.int (fat0_0 p4 n1 s0 s1 s2 s3 s4 s5 s6 r0 r1 r2 r3 r4 r5 r6))] [(.int r0)])) _
            refine XS.iconst X0.here hx rfl (hb hby d2_43) ?_
            exact k
        have st11 : ∀ t, Steps p.tables e below (s₁.setTop (mkF m 52 #[.val (.ref a1), .val (.ref a2), .val (.int (0 : Int32)), .val (.int p4), .val (.int (fat0_0 p4 n1 s0 s1 s2 s3 s4 s5 s6 r0 r1 r2 r3 r4 r5 r6))] [(.int (fat0_2 p4 n1 s0 s1 s2 s3 s4 s5 s6 r0 r1 r2 r3 r4 r5 r6))])) t → Steps p.tables e below (s₁.setTop (mkF m 44 #[.val (.ref a1), .val (.ref a2), .val (.int (0 : Int32)), .val (.int p4), .val (.int (fat0_0 p4 n1 s0 s1 s2 s3 s4 s5 s6 r0 r1 r2 r3 r4 r5 r6))] [(.int (fat0_1 p4 n1 s0 s1 s2 s3 s4 s5 s6 r0 r1 r2 r3 r4 r5 r6)), (.int r0)])) t := by
          intro t k
          by_cases h10 : r0 = (fat0_1 p4 n1 s0 s1 s2 s3 s4 s5 s6 r0 r1 r2 r3 r4 r5 r6)
          · rw [show (fat0_2 p4 n1 s0 s1 s2 s3 s4 s5 s6 r0 r1 r2 r3 r4 r5 r6) = (1 : Int32) from if_pos h10] at k
            show Steps p.tables e below (s₁.setTop (mkF m 44 #[.val (.ref a1), .val (.ref a2), .val (.int (0 : Int32)), .val (.int p4), .val (.int (fat0_0 p4 n1 s0 s1 s2 s3 s4 s5 s6 r0 r1 r2 r3 r4 r5 r6))] [(.int (fat0_1 p4 n1 s0 s1 s2 s3 s4 s5 s6 r0 r1 r2 r3 r4 r5 r6)), (.int r0)])) _
            refine XS.icmpNo X0.here hx rfl (hb hby d2_44) rfl (teq h10).2 ?_
            show Steps p.tables e below (s₁.setTop (mkF m 47 #[.val (.ref a1), .val (.ref a2), .val (.int (0 : Int32)), .val (.int p4), .val (.int (fat0_0 p4 n1 s0 s1 s2 s3 s4 s5 s6 r0 r1 r2 r3 r4 r5 r6))] [])) _
            refine XS.iconst X0.here hx rfl (hb hby d2_47) ?_
            show Steps p.tables e below (s₁.setTop (mkF m 48 #[.val (.ref a1), .val (.ref a2), .val (.int (0 : Int32)), .val (.int p4), .val (.int (fat0_0 p4 n1 s0 s1 s2 s3 s4 s5 s6 r0 r1 r2 r3 r4 r5 r6))] [(.int (1 : Int32))])) _
            refine XS.goto X0.here hx rfl (pc0 := 48) (pc' := 52) rfl (hb hby d2_48) (by decide) (by decide) ?_
            exact k
          · rw [show (fat0_2 p4 n1 s0 s1 s2 s3 s4 s5 s6 r0 r1 r2 r3 r4 r5 r6) = (0 : Int32) from if_neg h10] at k
            show Steps p.tables e below (s₁.setTop (mkF m 44 #[.val (.ref a1), .val (.ref a2), .val (.int (0 : Int32)), .val (.int p4), .val (.int (fat0_0 p4 n1 s0 s1 s2 s3 s4 s5 s6 r0 r1 r2 r3 r4 r5 r6))] [(.int (fat0_1 p4 n1 s0 s1 s2 s3 s4 s5 s6 r0 r1 r2 r3 r4 r5 r6)), (.int r0)])) _
            refine XS.icmpYes X0.here hx rfl (pc0 := 44) (pc' := 51) rfl (hb hby d2_44) rfl (feq h10).2 (by decide) (by decide) ?_
            show Steps p.tables e below (s₁.setTop (mkF m 51 #[.val (.ref a1), .val (.ref a2), .val (.int (0 : Int32)), .val (.int p4), .val (.int (fat0_0 p4 n1 s0 s1 s2 s3 s4 s5 s6 r0 r1 r2 r3 r4 r5 r6))] [])) _
            refine XS.iconst X0.here hx rfl (hb hby d2_51) ?_
            exact k
        rw [show (fat0_3 p4 n1 s0 s1 s2 s3 s4 s5 s6 r0 r1 r2 r3 r4 r5 r6) = (fat0_2 p4 n1 s0 s1 s2 s3 s4 s5 s6 r0 r1 r2 r3 r4 r5 r6) from if_pos h6] at k
        show Steps p.tables e below (s₁.setTop (mkF m 28 #[.val (.ref a1), .val (.ref a2), .val (.int (0 : Int32)), .val (.int p4), .val (.int (fat0_0 p4 n1 s0 s1 s2 s3 s4 s5 s6 r0 r1 r2 r3 r4 r5 r6))] [(.int (fat0_0 p4 n1 s0 s1 s2 s3 s4 s5 s6 r0 r1 r2 r3 r4 r5 r6)), (.int s0)])) _
        refine XS.icmpNo X0.here hx rfl (hb hby d2_28) rfl (teq h6).2 ?_
        show Steps p.tables e below (s₁.setTop (mkF m 31 #[.val (.ref a1), .val (.ref a2), .val (.int (0 : Int32)), .val (.int p4), .val (.int (fat0_0 p4 n1 s0 s1 s2 s3 s4 s5 s6 r0 r1 r2 r3 r4 r5 r6))] [])) _
        refine XS.aloadN X0.here hx rfl (hb hby d2_31) rfl rfl ?_
        show Steps p.tables e below (s₁.setTop (mkF m 32 #[.val (.ref a1), .val (.ref a2), .val (.int (0 : Int32)), .val (.int p4), .val (.int (fat0_0 p4 n1 s0 s1 s2 s3 s4 s5 s6 r0 r1 r2 r3 r4 r5 r6))] [(.ref a2)])) _
        refine XS.iloadN X0.here hx rfl (hb hby d2_32) rfl ?_
        show Steps p.tables e below (s₁.setTop (mkF m 33 #[.val (.ref a1), .val (.ref a2), .val (.int (0 : Int32)), .val (.int p4), .val (.int (fat0_0 p4 n1 s0 s1 s2 s3 s4 s5 s6 r0 r1 r2 r3 r4 r5 r6))] [(.int (0 : Int32)), (.ref a2)])) _
        refine X0.baloadBooleans hx (j := (0 : Int32)) (v := (.int r0)) (by rw [e0]; exact Ar7.1) (State.isArrayOf_alike hZ.alike Ar7.2.1) Ar7.2.2 hin7 hat7 (g := (mkF m 33 #[.val (.ref a1), .val (.ref a2), .val (.int (0 : Int32)), .val (.int p4), .val (.int (fat0_0 p4 n1 s0 s1 s2 s3 s4 s5 s6 r0 r1 r2 r3 r4 r5 r6))] [(.int (0 : Int32)), (.ref a2)])) rfl rfl (hb hby d2_33) _ ?_
        show Steps p.tables e below (s₁.setTop (mkF m 34 #[.val (.ref a1), .val (.ref a2), .val (.int (0 : Int32)), .val (.int p4), .val (.int (fat0_0 p4 n1 s0 s1 s2 s3 s4 s5 s6 r0 r1 r2 r3 r4 r5 r6))] [(.int r0)])) _
        refine XS.iload X0.here hx rfl (hb hby d2_34) rfl ?_
        show Steps p.tables e below (s₁.setTop (mkF m 36 #[.val (.ref a1), .val (.ref a2), .val (.int (0 : Int32)), .val (.int p4), .val (.int (fat0_0 p4 n1 s0 s1 s2 s3 s4 s5 s6 r0 r1 r2 r3 r4 r5 r6))] [(.int (fat0_0 p4 n1 s0 s1 s2 s3 s4 s5 s6 r0 r1 r2 r3 r4 r5 r6)), (.int r0)])) _
        refine st9 _ ?_
        show Steps p.tables e below (s₁.setTop (mkF m 44 #[.val (.ref a1), .val (.ref a2), .val (.int (0 : Int32)), .val (.int p4), .val (.int (fat0_0 p4 n1 s0 s1 s2 s3 s4 s5 s6 r0 r1 r2 r3 r4 r5 r6))] [(.int (fat0_1 p4 n1 s0 s1 s2 s3 s4 s5 s6 r0 r1 r2 r3 r4 r5 r6)), (.int r0)])) _
        refine st11 _ ?_
        exact k
      · rw [show (fat0_3 p4 n1 s0 s1 s2 s3 s4 s5 s6 r0 r1 r2 r3 r4 r5 r6) = (0 : Int32) from if_neg h6] at k
        show Steps p.tables e below (s₁.setTop (mkF m 28 #[.val (.ref a1), .val (.ref a2), .val (.int (0 : Int32)), .val (.int p4), .val (.int (fat0_0 p4 n1 s0 s1 s2 s3 s4 s5 s6 r0 r1 r2 r3 r4 r5 r6))] [(.int (fat0_0 p4 n1 s0 s1 s2 s3 s4 s5 s6 r0 r1 r2 r3 r4 r5 r6)), (.int s0)])) _
        refine XS.icmpYes X0.here hx rfl (pc0 := 28) (pc' := 51) rfl (hb hby d2_28) rfl (feq h6).2 (by decide) (by decide) ?_
        show Steps p.tables e below (s₁.setTop (mkF m 51 #[.val (.ref a1), .val (.ref a2), .val (.int (0 : Int32)), .val (.int p4), .val (.int (fat0_0 p4 n1 s0 s1 s2 s3 s4 s5 s6 r0 r1 r2 r3 r4 r5 r6))] [])) _
        refine XS.iconst X0.here hx rfl (hb hby d2_51) ?_
        exact k
    obtain ⟨fs, hr, hrun, hended, hW, hsame⟩ := X0.leave (v := some (.int ((fat0_3 p4 n1 s0 s1 s2 s3 s4 s5 s6 r0 r1 r2 r3 r4 r5 r6) &&& 1))) (fun h => by rw [Bd.returns] at h; cases h)
    refine ⟨_, _, ?_, hrun, hended, _, _, rfl, ?_, ⟨_, rfl⟩, hW, hsame.mono (by decide) (by decide)⟩
    · show Steps p.tables e below (s₁.setTop (mkF m 3 #[.val (.ref a1), .val (.ref a2), .val (.int (0 : Int32)), .val (.int p4), .unset] [(.int n1), (.int (0 : Int32))])) _
      refine XS.icmpYes X0.here hx rfl (pc0 := 3) (pc' := 8) rfl (hb hby d2_3) rfl (tlt h2).1 (by decide) (by decide) ?_
      show Steps p.tables e below (s₁.setTop (mkF m 8 #[.val (.ref a1), .val (.ref a2), .val (.int (0 : Int32)), .val (.int p4), .unset] [])) _
      refine XS.iloadN X0.here hx rfl (hb hby d2_8) rfl ?_
      show Steps p.tables e below (s₁.setTop (mkF m 9 #[.val (.ref a1), .val (.ref a2), .val (.int (0 : Int32)), .val (.int p4), .unset] [(.int p4)])) _
      refine XS.iloadN X0.here hx rfl (hb hby d2_9) rfl ?_
      show Steps p.tables e below (s₁.setTop (mkF m 10 #[.val (.ref a1), .val (.ref a2), .val (.int (0 : Int32)), .val (.int p4), .unset] [(.int (0 : Int32)), (.int p4)])) _
      refine XT.iushr X0.here hx rfl (hb hby d2_10) rfl ?_
      show Steps p.tables e below (s₁.setTop (mkF m 11 #[.val (.ref a1), .val (.ref a2), .val (.int (0 : Int32)), .val (.int p4), .unset] [(.int (XT.ushr p4 (0 : Int32)))])) _
      refine XS.iconst X0.here hx rfl (hb hby d2_11) ?_
      show Steps p.tables e below (s₁.setTop (mkF m 12 #[.val (.ref a1), .val (.ref a2), .val (.int (0 : Int32)), .val (.int p4), .unset] [(.int (1 : Int32)), (.int (XT.ushr p4 (0 : Int32)))])) _
      refine XS.iand X0.here hx rfl (hb hby d2_12) rfl ?_
      show Steps p.tables e below (s₁.setTop (mkF m 13 #[.val (.ref a1), .val (.ref a2), .val (.int (0 : Int32)), .val (.int p4), .unset] [(.int ((XT.ushr p4 (0 : Int32)) &&& (1 : Int32)))])) _
      refine st4 _ ?_
      show Steps p.tables e below (s₁.setTop (mkF m 21 #[.val (.ref a1), .val (.ref a2), .val (.int (0 : Int32)), .val (.int p4), .unset] [(.int (fat0_0 p4 n1 s0 s1 s2 s3 s4 s5 s6 r0 r1 r2 r3 r4 r5 r6))])) _
      refine XS.istore X0.here hx rfl (hb hby d2_21) rfl (l' := #[.val (.ref a1), .val (.ref a2), .val (.int (0 : Int32)), .val (.int p4), .val (.int (fat0_0 p4 n1 s0 s1 s2 s3 s4 s5 s6 r0 r1 r2 r3 r4 r5 r6))]) rfl ?_
      show Steps p.tables e below (s₁.setTop (mkF m 23 #[.val (.ref a1), .val (.ref a2), .val (.int (0 : Int32)), .val (.int p4), .val (.int (fat0_0 p4 n1 s0 s1 s2 s3 s4 s5 s6 r0 r1 r2 r3 r4 r5 r6))] [])) _
      refine XS.aloadN X0.here hx rfl (hb hby d2_23) rfl rfl ?_
      show Steps p.tables e below (s₁.setTop (mkF m 24 #[.val (.ref a1), .val (.ref a2), .val (.int (0 : Int32)), .val (.int p4), .val (.int (fat0_0 p4 n1 s0 s1 s2 s3 s4 s5 s6 r0 r1 r2 r3 r4 r5 r6))] [(.ref a1)])) _
      refine XS.iloadN X0.here hx rfl (hb hby d2_24) rfl ?_
      show Steps p.tables e below (s₁.setTop (mkF m 25 #[.val (.ref a1), .val (.ref a2), .val (.int (0 : Int32)), .val (.int p4), .val (.int (fat0_0 p4 n1 s0 s1 s2 s3 s4 s5 s6 r0 r1 r2 r3 r4 r5 r6))] [(.int (0 : Int32)), (.ref a1)])) _
      refine X0.baloadBooleans hx (j := (0 : Int32)) (v := (.int s0)) (by rw [e0]; exact Ar5.1) (State.isArrayOf_alike hZ.alike Ar5.2.1) Ar5.2.2 hin5 hat5 (g := (mkF m 25 #[.val (.ref a1), .val (.ref a2), .val (.int (0 : Int32)), .val (.int p4), .val (.int (fat0_0 p4 n1 s0 s1 s2 s3 s4 s5 s6 r0 r1 r2 r3 r4 r5 r6))] [(.int (0 : Int32)), (.ref a1)])) rfl rfl (hb hby d2_25) _ ?_
      show Steps p.tables e below (s₁.setTop (mkF m 26 #[.val (.ref a1), .val (.ref a2), .val (.int (0 : Int32)), .val (.int p4), .val (.int (fat0_0 p4 n1 s0 s1 s2 s3 s4 s5 s6 r0 r1 r2 r3 r4 r5 r6))] [(.int s0)])) _
      refine XS.iload X0.here hx rfl (hb hby d2_26) rfl ?_
      show Steps p.tables e below (s₁.setTop (mkF m 28 #[.val (.ref a1), .val (.ref a2), .val (.int (0 : Int32)), .val (.int p4), .val (.int (fat0_0 p4 n1 s0 s1 s2 s3 s4 s5 s6 r0 r1 r2 r3 r4 r5 r6))] [(.int (fat0_0 p4 n1 s0 s1 s2 s3 s4 s5 s6 r0 r1 r2 r3 r4 r5 r6)), (.int s0)])) _
      refine st12 _ ?_
      show Steps p.tables e below (s₁.setTop (mkF m 52 #[.val (.ref a1), .val (.ref a2), .val (.int (0 : Int32)), .val (.int p4), .val (.int (fat0_0 p4 n1 s0 s1 s2 s3 s4 s5 s6 r0 r1 r2 r3 r4 r5 r6))] [(.int (fat0_3 p4 n1 s0 s1 s2 s3 s4 s5 s6 r0 r1 r2 r3 r4 r5 r6))])) _
      exact retN X0 hx (t := .boolean) Bd.returns (by simp) (hb hby d2_52) hr
    · show Qat0 Z a1 a2 p4 k1 n1 s0 s1 s2 s3 s4 s5 s6 k2 r0 r1 r2 r3 r4 r5 r6 h0 n0 _ s₁.heap _
      rw [e0]
      have hf : fat0 p4 n1 s0 s1 s2 s3 s4 s5 s6 r0 r1 r2 r3 r4 r5 r6 = ((fat0_3 p4 n1 s0 s1 s2 s3 s4 s5 s6 r0 r1 r2 r3 r4 r5 r6) &&& 1) := by simp only [fat0, if_pos h2]
      exact ⟨by rw [hf], N0, rfl⟩
  · obtain ⟨fs, hr, hrun, hended, hW, hsame⟩ := X0.leave (v := some (.int (1 : Int32))) (fun h => by rw [Bd.returns] at h; cases h)
    refine ⟨_, _, ?_, hrun, hended, _, _, rfl, ?_, ⟨_, rfl⟩, hW, hsame.mono (by decide) (by decide)⟩
    · show Steps p.tables e below (s₁.setTop (mkF m 3 #[.val (.ref a1), .val (.ref a2), .val (.int (0 : Int32)), .val (.int p4), .unset] [(.int n1), (.int (0 : Int32))])) _
      refine XS.icmpNo X0.here hx rfl (hb hby d2_3) rfl (flt h2).1 ?_
      show Steps p.tables e below (s₁.setTop (mkF m 6 #[.val (.ref a1), .val (.ref a2), .val (.int (0 : Int32)), .val (.int p4), .unset] [])) _
      refine XS.iconst X0.here hx rfl (hb hby d2_6) ?_
      show Steps p.tables e below (s₁.setTop (mkF m 7 #[.val (.ref a1), .val (.ref a2), .val (.int (0 : Int32)), .val (.int p4), .unset] [(.int (1 : Int32))])) _
      exact retN X0 hx (t := .boolean) Bd.returns (by simp) (hb hby d2_7) hr
    · show Qat0 Z a1 a2 p4 k1 n1 s0 s1 s2 s3 s4 s5 s6 k2 r0 r1 r2 r3 r4 r5 r6 h0 n0 _ s₁.heap _
      rw [e0]
      have hf : fat0 p4 n1 s0 s1 s2 s3 s4 s5 s6 r0 r1 r2 r3 r4 r5 r6 = (1 : Int32) := by simp only [fat0, if_neg h2]
      exact ⟨by rw [hf], N0, rfl⟩
theorem pn_at1 : plainName "com/example/bonn/bonn/FormulaComplementPinLaw" = true := by first | (simp [plainName, overriddenIn]; done) | decide +kernel
theorem ef_at1 (m : MethodId) (a1 : Addr) (a2 : Addr) (p4 : Int32) : entryFrame m #[(.ref a1), (.ref a2), (.int (1 : Int32)), (.int p4)] 5 = mkF m 0 #[.val (.ref a1), .val (.ref a2), .val (.int (1 : Int32)), .val (.int p4), .unset] [] := by first | (simp [entryFrame, mkF, argsToLocals, Value.category]; done) | rfl
def Qat1 (Z : State) (a1 : Addr) (a2 : Addr) (p4 : Int32) (k1 : ClassId) (n1 : Int32) (s0 : Int32) (s1 : Int32) (s2 : Int32) (s3 : Int32) (s4 : Int32) (s5 : Int32) (s6 : Int32) (k2 : ClassId) (r0 : Int32) (r1 : Int32) (r2 : Int32) (r3 : Int32) (r4 : Int32) (r5 : Int32) (r6 : Int32) (h0 : Heap) (n0 : Nat) (v : Option Value) (h : Heap) (L : List Loc) : Prop := v = some (.int (fat1 p4 n1 s0 s1 s2 s3 s4 s5 s6 r0 r1 r2 r3 r4 r5 r6)) ∧ Fr n0 L ∧ h = h0
set_option maxRecDepth 65536 in
set_option maxHeartbeats 40000000 in
theorem rmat1 (l : Launch) (Z : State) (a0 : Array Value) (hw : ∀ d ∈ tables_1, d.before a0 Z = true) (ws : List Jvm.Cond) (a1 : Addr) (a2 : Addr) (p4 : Int32) (k1 : ClassId) (n1 : Int32) (s0 : Int32) (s1 : Int32) (s2 : Int32) (s3 : Int32) (s4 : Int32) (s5 : Int32) (s6 : Int32) (k2 : ClassId) (r0 : Int32) (r1 : Int32) (r2 : Int32) (r3 : Int32) (r4 : Int32) (r5 : Int32) (r6 : Int32) (h0 : Heap) (n0 : Nat) (Z0 : n0 ≤ h0.size) (A_a1 : Arv Z h0 a1 k1 .boolean n1 [(.int s0), (.int s1), (.int s2), (.int s3), (.int s4), (.int s5), (.int s6)] (.int (0 : Int32))) (A_a2 : Arv Z h0 a2 k2 .boolean n1 [(.int r0), (.int r1), (.int r2), (.int r3), (.int r4), (.int r5), (.int r6)] (.int (0 : Int32))) :
    MetFree l (⟨"com/example/bonn/bonn/FormulaComplementPinLaw", "at", "([Z[ZII)Z"⟩ : MethodName) (head1 (Jvm.Cond.code (⟨"com/example/bonn/bonn/FormulaComplementPinLaw", "at", "([Z[ZII)Z"⟩ : MethodName) method_3_code 5 (some .boolean) :: ws) ({ frames := 0, cells := 0, slots := 0, locals := 0 } : Room)) (fun a U => a = #[(.ref a1), (.ref a2), (.int (1 : Int32)), (.int p4)] ∧ Z.Warmed39 U.vm ∧ U.heap = h0) (fun _ _ _ _ _ => True) (fun _ U o U' => ∃ v L, o = .returned v ∧ Qat1 Z a1 a2 p4 k1 n1 s0 s1 s2 s3 s4 s5 s6 k2 r0 r1 r2 r3 r4 r5 r6 h0 n0 v U'.heap L ∧ FrameEnd U o U' L ({ frames := 0, cells := 0, slots := 0, locals := 0 } : Room).cells ({ frames := 0, cells := 0, slots := 0, locals := 0 } : Room).slots) := by
  refine MetFree.of_bodySF (plainFor_of_name pn_at1) hisR ?_
  intro p e s m args below meth c s₁ Bd hml0 hP hK
  obtain ⟨rfl, hZ, hh⟩ := hP
  have hx := Bd.exec
  have hby := Bd.bytes
  have hml : c.maxLocals = 5 := hml0
  have hown : s.vm.findClass "com/example/bonn/bonn/FormulaComplementPinLaw" = some m.cls := findClass_of_methodNamed Bd.named
  have hnm := (name_of_methodNamed Bd.named Bd.method).1
  have X0 : Stand p l e ({ frames := 0, cells := 0, slots := 0, locals := 0 } : Room) s m #[(.ref a1), (.ref a2), (.int (1 : Int32)), (.int p4)] below meth c s₁ [] 0 0 := Stand.of_body Bd
  have e0 : s₁.heap = h0 := by rw [← hh, Bd.state]; rfl
  have N0 := Fr.nil n0
  have pre0 : ∀ t, Steps p.tables e below (s₁.setTop (mkF m 0 #[.val (.ref a1), .val (.ref a2), .val (.int (1 : Int32)), .val (.int p4), .unset] [])) t → Steps p.tables e below (s₁.setTop (entryFrame m #[(.ref a1), (.ref a2), (.int (1 : Int32)), (.int p4)] 5)) t := fun t k => castTop (ef_at1 m a1 a2 p4) k
  refine own_step (Q := fun o U' => ∃ v L, o = .returned v ∧ Qat1 Z a1 a2 p4 k1 n1 s0 s1 s2 s3 s4 s5 s6 k2 r0 r1 r2 r3 r4 r5 r6 h0 n0 v U'.heap L ∧ FrameEnd s o U' L ({ frames := 0, cells := 0, slots := 0, locals := 0 } : Room).cells ({ frames := 0, cells := 0, slots := 0, locals := 0 } : Room).slots) pre0 ?_
  obtain ⟨cl1, Ar1, -, S1, M1, -, -⟩ := id A_a1
  refine own_step (B := s₁.setTop (mkF m 3 #[.val (.ref a1), .val (.ref a2), .val (.int (1 : Int32)), .val (.int p4), .unset] [(.int n1), (.int (1 : Int32))])) (fun t k => ?_) ?_
  · show Steps p.tables e below (s₁.setTop (mkF m 0 #[.val (.ref a1), .val (.ref a2), .val (.int (1 : Int32)), .val (.int p4), .unset] [])) _
    refine XS.iloadN X0.here hx rfl (hb hby d2_0) rfl ?_
    show Steps p.tables e below (s₁.setTop (mkF m 1 #[.val (.ref a1), .val (.ref a2), .val (.int (1 : Int32)), .val (.int p4), .unset] [(.int (1 : Int32))])) _
    refine XS.aloadN X0.here hx rfl (hb hby d2_1) rfl rfl ?_
    show Steps p.tables e below (s₁.setTop (mkF m 2 #[.val (.ref a1), .val (.ref a2), .val (.int (1 : Int32)), .val (.int p4), .unset] [(.ref a1), (.int (1 : Int32))])) _
    refine X0.arraylength hx (by rw [e0]; exact Ar1.1) (State.isArrayOf_alike hZ.alike Ar1.2.1) (g := (mkF m 2 #[.val (.ref a1), .val (.ref a2), .val (.int (1 : Int32)), .val (.int p4), .unset] [(.ref a1), (.int (1 : Int32))])) rfl rfl (hb hby d2_2) _ ?_
    rw [len_of S1 M1]
    exact k
  by_cases h2 : (1 : Int32) < n1
  · have st4 : ∀ t, Steps p.tables e below (s₁.setTop (mkF m 21 #[.val (.ref a1), .val (.ref a2), .val (.int (1 : Int32)), .val (.int p4), .unset] [(.int (fat1_0 p4 n1 s0 s1 s2 s3 s4 s5 s6 r0 r1 r2 r3 r4 r5 r6))])) t → Steps p.tables e below (s₁.setTop (mkF m 13 #[.val (.ref a1), .val (.ref a2), .val (.int (1 : Int32)), .val (.int p4), .unset] [(.int ((XT.ushr p4 (1 : Int32)) &&& (1 : Int32)))])) t := by
      intro t k
      by_cases h3 : ((XT.ushr p4 (1 : Int32)) &&& (1 : Int32)) = (0 : Int32)
      · rw [show (fat1_0 p4 n1 s0 s1 s2 s3 s4 s5 s6 r0 r1 r2 r3 r4 r5 r6) = (0 : Int32) from if_pos h3] at k
        show Steps p.tables e below (s₁.setTop (mkF m 13 #[.val (.ref a1), .val (.ref a2), .val (.int (1 : Int32)), .val (.int p4), .unset] [(.int ((XT.ushr p4 (1 : Int32)) &&& (1 : Int32)))])) _
        refine XS.ifYes X0.here hx rfl (pc0 := 13) (pc' := 20) rfl (hb hby d2_13) rfl ((if0 _ _).trans (teq h3).1) (by decide) (by decide) ?_
        show Steps p.tables e below (s₁.setTop (mkF m 20 #[.val (.ref a1), .val (.ref a2), .val (.int (1 : Int32)), .val (.int p4), .unset] [])) _
        refine XS.iconst X0.here hx rfl (hb hby d2_20) ?_
        exact k
      · rw [show (fat1_0 p4 n1 s0 s1 s2 s3 s4 s5 s6 r0 r1 r2 r3 r4 r5 r6) = (1 : Int32) from if_neg h3] at k
        show Steps p.tables e below (s₁.setTop (mkF m 13 #[.val (.ref a1), .val (.ref a2), .val (.int (1 : Int32)), .val (.int p4), .unset] [(.int ((XT.ushr p4 (1 : Int32)) &&& (1 : Int32)))])) _
        refine XS.ifNo X0.here hx rfl (hb hby d2_13) rfl ((if0 _ _).trans (feq h3).1) ?_
        show Steps p.tables e below (s₁.setTop (mkF m 16 #[.val (.ref a1), .val (.ref a2), .val (.int (1 : Int32)), .val (.int p4), .unset] [])) _
        refine XS.iconst X0.here hx rfl (hb hby d2_16) ?_
        show Steps p.tables e below (s₁.setTop (mkF m 17 #[.val (.ref a1), .val (.ref a2), .val (.int (1 : Int32)), .val (.int p4), .unset] [(.int (1 : Int32))])) _
        refine XS.goto X0.here hx rfl (pc0 := 17) (pc' := 21) rfl (hb hby d2_17) (by decide) (by decide) ?_
        exact k
    obtain ⟨cl5, Ar5, -, S5, M5, H5, -⟩ := id A_a1
    have hin5 := inb_of (j := (1 : Int32)) S5 ⟨by decide, h2⟩
    have hat5 := H5.at hin5 (v := (.int s1)) (rfl)
    have st12 : ∀ t, Steps p.tables e below (s₁.setTop (mkF m 52 #[.val (.ref a1), .val (.ref a2), .val (.int (1 : Int32)), .val (.int p4), .val (.int (fat1_0 p4 n1 s0 s1 s2 s3 s4 s5 s6 r0 r1 r2 r3 r4 r5 r6))] [(.int (fat1_3 p4 n1 s0 s1 s2 s3 s4 s5 s6 r0 r1 r2 r3 r4 r5 r6))])) t → Steps p.tables e below (s₁.setTop (mkF m 28 #[.val (.ref a1), .val (.ref a2), .val (.int (1 : Int32)), .val (.int p4), .val (.int (fat1_0 p4 n1 s0 s1 s2 s3 s4 s5 s6 r0 r1 r2 r3 r4 r5 r6))] [(.int (fat1_0 p4 n1 s0 s1 s2 s3 s4 s5 s6 r0 r1 r2 r3 r4 r5 r6)), (.int s1)])) t := by
      intro t k
      by_cases h6 : s1 = (fat1_0 p4 n1 s0 s1 s2 s3 s4 s5 s6 r0 r1 r2 r3 r4 r5 r6)
      · obtain ⟨cl7, Ar7, -, S7, M7, H7, -⟩ := id A_a2
        have hin7 := inb_of (j := (1 : Int32)) S7 ⟨by decide, h2⟩
        have hat7 := H7.at hin7 (v := (.int r1)) (rfl)
        have st9 : ∀ t, Steps p.tables e below (s₁.setTop (mkF m 44 #[.val (.ref a1), .val (.ref a2), .val (.int (1 : Int32)), .val (.int p4), .val (.int (fat1_0 p4 n1 s0 s1 s2 s3 s4 s5 s6 r0 r1 r2 r3 r4 r5 r6))] [(.int (fat1_1 p4 n1 s0 s1 s2 s3 s4 s5 s6 r0 r1 r2 r3 r4 r5 r6)), (.int r1)])) t → Steps p.tables e below (s₁.setTop (mkF m 36 #[.val (.ref a1), .val (.ref a2), .val (.int (1 : Int32)), .val (.int p4), .val (.int (fat1_0 p4 n1 s0 s1 s2 s3 s4 s5 s6 r0 r1 r2 r3 r4 r5 r6))] [(.int (fat1_0 p4 n1 s0 s1 s2 s3 s4 s5 s6 r0 r1 r2 r3 r4 r5 r6)), (.int r1)])) t := by
          intro t k
          by_cases h8 : (fat1_0 p4 n1 s0 s1 s2 s3 s4 s5 s6 r0 r1 r2 r3 r4 r5 r6) = (0 : Int32)
          · rw [show (fat1_1 p4 n1 s0 s1 s2 s3 s4 s5 s6 r0 r1 r2 r3 r4 r5 r6) = (1 : Int32) from if_pos h8] at k
            show Steps p.tables e below (s₁.setTop (mkF m 36 #[.val (.ref a1), .val (.ref a2), .val (.int (1 : Int32)), .val (.int p4), .val (.int (fat1_0 p4 n1 s0 s1 s2 s3 s4 s5 s6 r0 r1 r2 r3 r4 r5 r6))] [(.int (fat1_0 p4 n1 s0 s1 s2 s3 s4 s5 s6 r0 r1 r2 r3 r4 r5 r6)), (.int r1)])) _
            refine XS.ifNo X0.here hx rfl (hb hby d2_36) rfl ((if0 _ _).trans (teq h8).2) ?_
            show Steps p.tables e below (s₁.setTop (mkF m 39 #[.val (.ref a1), .val (.ref a2), .val (.int (1 : Int32)), .val (.int p4), .val (.int (fat1_0 p4 n1 s0 s1 s2 s3 s4 s5 s6 r0 r1 r2 r3 r4 r5 r6))] [(.int r1)])) _
            refine XS.iconst X0.here hx rfl (hb hby d2_39) ?_
            show Steps p.tables e below (s₁.setTop (mkF m 40 #[.val (.ref a1), .val (.ref a2), .val (.int (1 : Int32)), .val (.int p4), .val (.int (fat1_0 p4 n1 s0 s1 s2 s3 s4 s5 s6 r0 r1 r2 r3 r4 r5 r6))] [(.int (1 : Int32)), (.int r1)])) _
            refine XS.goto X0.here hx rfl (pc0 := 40) (pc' := 44) rfl (hb hby d2_40) (by decide) (by decide) ?_
            exact k
          · rw [show (fat1_1 p4 n1 s0 s1 s2 s3 s4 s5 s6 r0 r1 r2 r3 r4 r5 r6) = (0 : Int32) from if_neg h8] at k
            show Steps p.tables e below (s₁.setTop (mkF m 36 #[.val (.ref a1), .val (.ref a2), .val (.int (1 : Int32)), .val (.int p4), .val (.int (fat1_0 p4 n1 s0 s1 s2 s3 s4 s5 s6 r0 r1 r2 r3 r4 r5 r6))] [(.int (fat1_0 p4 n1 s0 s1 s2 s3 s4 s5 s6 r0 r1 r2 r3 r4 r5 r6)), (.int r1)])) _
            refine XS.ifYes X0.here hx rfl (pc0 := 36) (pc' := 43) rfl (hb hby d2_36) rfl ((if0 _ _).trans (feq h8).2) (by decide) (by decide) ?_
            show Steps p.tables e below (s₁.setTop (mkF m 43 #[.val (.ref a1), .val (.ref a2), .val (.int (1 : Int32)), .val (.int p4), .val (.int (fat1_0 p4 n1 s0 s1 s2 s3 s4 s5 s6 r0 r1 r2 r3 r4 r5 r6))] [(.int r1)])) _
            refine XS.iconst X0.here hx rfl (hb hby d2_43) ?_
            exact k
        have st11 : ∀ t, Steps p.tables e below (s₁.setTop (mkF m 52 #[.val (.ref a1), .val (.ref a2), .val (.int (1 : Int32)), .val (.int p4), .val (.int (fat1_0 p4 n1 s0 s1 s2 s3 s4 s5 s6 r0 r1 r2 r3 r4 r5 r6))] [(.int (fat1_2 p4 n1 s0 s1 s2 s3 s4 s5 s6 r0 r1 r2 r3 r4 r5 r6))])) t → Steps p.tables e below (s₁.setTop (mkF m 44 #[.val (.ref a1), .val (.ref a2), .val (.int (1 : Int32)), .val (.int p4), .val (.int (fat1_0 p4 n1 s0 s1 s2 s3 s4 s5 s6 r0 r1 r2 r3 r4 r5 r6))] [(.int (fat1_1 p4 n1 s0 s1 s2 s3 s4 s5 s6 r0 r1 r2 r3 r4 r5 r6)), (.int r1)])) t := by
          intro t k
          by_cases h10 : r1 = (fat1_1 p4 n1 s0 s1 s2 s3 s4 s5 s6 r0 r1 r2 r3 r4 r5 r6)
          · rw [show (fat1_2 p4 n1 s0 s1 s2 s3 s4 s5 s6 r0 r1 r2 r3 r4 r5 r6) = (1 : Int32) from if_pos h10] at k
            show Steps p.tables e below (s₁.setTop (mkF m 44 #[.val (.ref a1), .val (.ref a2), .val (.int (1 : Int32)), .val (.int p4), .val (.int (fat1_0 p4 n1 s0 s1 s2 s3 s4 s5 s6 r0 r1 r2 r3 r4 r5 r6))] [(.int (fat1_1 p4 n1 s0 s1 s2 s3 s4 s5 s6 r0 r1 r2 r3 r4 r5 r6)), (.int r1)])) _
            refine XS.icmpNo X0.here hx rfl (hb hby d2_44) rfl (teq h10).2 ?_
            show Steps p.tables e below (s₁.setTop (mkF m 47 #[.val (.ref a1), .val (.ref a2), .val (.int (1 : Int32)), .val (.int p4), .val (.int (fat1_0 p4 n1 s0 s1 s2 s3 s4 s5 s6 r0 r1 r2 r3 r4 r5 r6))] [])) _
            refine XS.iconst X0.here hx rfl (hb hby d2_47) ?_
            show Steps p.tables e below (s₁.setTop (mkF m 48 #[.val (.ref a1), .val (.ref a2), .val (.int (1 : Int32)), .val (.int p4), .val (.int (fat1_0 p4 n1 s0 s1 s2 s3 s4 s5 s6 r0 r1 r2 r3 r4 r5 r6))] [(.int (1 : Int32))])) _
            refine XS.goto X0.here hx rfl (pc0 := 48) (pc' := 52) rfl (hb hby d2_48) (by decide) (by decide) ?_
            exact k
          · rw [show (fat1_2 p4 n1 s0 s1 s2 s3 s4 s5 s6 r0 r1 r2 r3 r4 r5 r6) = (0 : Int32) from if_neg h10] at k
            show Steps p.tables e below (s₁.setTop (mkF m 44 #[.val (.ref a1), .val (.ref a2), .val (.int (1 : Int32)), .val (.int p4), .val (.int (fat1_0 p4 n1 s0 s1 s2 s3 s4 s5 s6 r0 r1 r2 r3 r4 r5 r6))] [(.int (fat1_1 p4 n1 s0 s1 s2 s3 s4 s5 s6 r0 r1 r2 r3 r4 r5 r6)), (.int r1)])) _
            refine XS.icmpYes X0.here hx rfl (pc0 := 44) (pc' := 51) rfl (hb hby d2_44) rfl (feq h10).2 (by decide) (by decide) ?_
            show Steps p.tables e below (s₁.setTop (mkF m 51 #[.val (.ref a1), .val (.ref a2), .val (.int (1 : Int32)), .val (.int p4), .val (.int (fat1_0 p4 n1 s0 s1 s2 s3 s4 s5 s6 r0 r1 r2 r3 r4 r5 r6))] [])) _
            refine XS.iconst X0.here hx rfl (hb hby d2_51) ?_
            exact k
        rw [show (fat1_3 p4 n1 s0 s1 s2 s3 s4 s5 s6 r0 r1 r2 r3 r4 r5 r6) = (fat1_2 p4 n1 s0 s1 s2 s3 s4 s5 s6 r0 r1 r2 r3 r4 r5 r6) from if_pos h6] at k
        show Steps p.tables e below (s₁.setTop (mkF m 28 #[.val (.ref a1), .val (.ref a2), .val (.int (1 : Int32)), .val (.int p4), .val (.int (fat1_0 p4 n1 s0 s1 s2 s3 s4 s5 s6 r0 r1 r2 r3 r4 r5 r6))] [(.int (fat1_0 p4 n1 s0 s1 s2 s3 s4 s5 s6 r0 r1 r2 r3 r4 r5 r6)), (.int s1)])) _
        refine XS.icmpNo X0.here hx rfl (hb hby d2_28) rfl (teq h6).2 ?_
        show Steps p.tables e below (s₁.setTop (mkF m 31 #[.val (.ref a1), .val (.ref a2), .val (.int (1 : Int32)), .val (.int p4), .val (.int (fat1_0 p4 n1 s0 s1 s2 s3 s4 s5 s6 r0 r1 r2 r3 r4 r5 r6))] [])) _
        refine XS.aloadN X0.here hx rfl (hb hby d2_31) rfl rfl ?_
        show Steps p.tables e below (s₁.setTop (mkF m 32 #[.val (.ref a1), .val (.ref a2), .val (.int (1 : Int32)), .val (.int p4), .val (.int (fat1_0 p4 n1 s0 s1 s2 s3 s4 s5 s6 r0 r1 r2 r3 r4 r5 r6))] [(.ref a2)])) _
        refine XS.iloadN X0.here hx rfl (hb hby d2_32) rfl ?_
        show Steps p.tables e below (s₁.setTop (mkF m 33 #[.val (.ref a1), .val (.ref a2), .val (.int (1 : Int32)), .val (.int p4), .val (.int (fat1_0 p4 n1 s0 s1 s2 s3 s4 s5 s6 r0 r1 r2 r3 r4 r5 r6))] [(.int (1 : Int32)), (.ref a2)])) _
        refine X0.baloadBooleans hx (j := (1 : Int32)) (v := (.int r1)) (by rw [e0]; exact Ar7.1) (State.isArrayOf_alike hZ.alike Ar7.2.1) Ar7.2.2 hin7 hat7 (g := (mkF m 33 #[.val (.ref a1), .val (.ref a2), .val (.int (1 : Int32)), .val (.int p4), .val (.int (fat1_0 p4 n1 s0 s1 s2 s3 s4 s5 s6 r0 r1 r2 r3 r4 r5 r6))] [(.int (1 : Int32)), (.ref a2)])) rfl rfl (hb hby d2_33) _ ?_
        show Steps p.tables e below (s₁.setTop (mkF m 34 #[.val (.ref a1), .val (.ref a2), .val (.int (1 : Int32)), .val (.int p4), .val (.int (fat1_0 p4 n1 s0 s1 s2 s3 s4 s5 s6 r0 r1 r2 r3 r4 r5 r6))] [(.int r1)])) _
        refine XS.iload X0.here hx rfl (hb hby d2_34) rfl ?_
        show Steps p.tables e below (s₁.setTop (mkF m 36 #[.val (.ref a1), .val (.ref a2), .val (.int (1 : Int32)), .val (.int p4), .val (.int (fat1_0 p4 n1 s0 s1 s2 s3 s4 s5 s6 r0 r1 r2 r3 r4 r5 r6))] [(.int (fat1_0 p4 n1 s0 s1 s2 s3 s4 s5 s6 r0 r1 r2 r3 r4 r5 r6)), (.int r1)])) _
        refine st9 _ ?_
        show Steps p.tables e below (s₁.setTop (mkF m 44 #[.val (.ref a1), .val (.ref a2), .val (.int (1 : Int32)), .val (.int p4), .val (.int (fat1_0 p4 n1 s0 s1 s2 s3 s4 s5 s6 r0 r1 r2 r3 r4 r5 r6))] [(.int (fat1_1 p4 n1 s0 s1 s2 s3 s4 s5 s6 r0 r1 r2 r3 r4 r5 r6)), (.int r1)])) _
        refine st11 _ ?_
        exact k
      · rw [show (fat1_3 p4 n1 s0 s1 s2 s3 s4 s5 s6 r0 r1 r2 r3 r4 r5 r6) = (0 : Int32) from if_neg h6] at k
        show Steps p.tables e below (s₁.setTop (mkF m 28 #[.val (.ref a1), .val (.ref a2), .val (.int (1 : Int32)), .val (.int p4), .val (.int (fat1_0 p4 n1 s0 s1 s2 s3 s4 s5 s6 r0 r1 r2 r3 r4 r5 r6))] [(.int (fat1_0 p4 n1 s0 s1 s2 s3 s4 s5 s6 r0 r1 r2 r3 r4 r5 r6)), (.int s1)])) _
        refine XS.icmpYes X0.here hx rfl (pc0 := 28) (pc' := 51) rfl (hb hby d2_28) rfl (feq h6).2 (by decide) (by decide) ?_
        show Steps p.tables e below (s₁.setTop (mkF m 51 #[.val (.ref a1), .val (.ref a2), .val (.int (1 : Int32)), .val (.int p4), .val (.int (fat1_0 p4 n1 s0 s1 s2 s3 s4 s5 s6 r0 r1 r2 r3 r4 r5 r6))] [])) _
        refine XS.iconst X0.here hx rfl (hb hby d2_51) ?_
        exact k
    obtain ⟨fs, hr, hrun, hended, hW, hsame⟩ := X0.leave (v := some (.int ((fat1_3 p4 n1 s0 s1 s2 s3 s4 s5 s6 r0 r1 r2 r3 r4 r5 r6) &&& 1))) (fun h => by rw [Bd.returns] at h; cases h)
    refine ⟨_, _, ?_, hrun, hended, _, _, rfl, ?_, ⟨_, rfl⟩, hW, hsame.mono (by decide) (by decide)⟩
    · show Steps p.tables e below (s₁.setTop (mkF m 3 #[.val (.ref a1), .val (.ref a2), .val (.int (1 : Int32)), .val (.int p4), .unset] [(.int n1), (.int (1 : Int32))])) _
      refine XS.icmpYes X0.here hx rfl (pc0 := 3) (pc' := 8) rfl (hb hby d2_3) rfl (tlt h2).1 (by decide) (by decide) ?_
      show Steps p.tables e below (s₁.setTop (mkF m 8 #[.val (.ref a1), .val (.ref a2), .val (.int (1 : Int32)), .val (.int p4), .unset] [])) _
      refine XS.iloadN X0.here hx rfl (hb hby d2_8) rfl ?_
      show Steps p.tables e below (s₁.setTop (mkF m 9 #[.val (.ref a1), .val (.ref a2), .val (.int (1 : Int32)), .val (.int p4), .unset] [(.int p4)])) _
      refine XS.iloadN X0.here hx rfl (hb hby d2_9) rfl ?_
      show Steps p.tables e below (s₁.setTop (mkF m 10 #[.val (.ref a1), .val (.ref a2), .val (.int (1 : Int32)), .val (.int p4), .unset] [(.int (1 : Int32)), (.int p4)])) _
      refine XT.iushr X0.here hx rfl (hb hby d2_10) rfl ?_
      show Steps p.tables e below (s₁.setTop (mkF m 11 #[.val (.ref a1), .val (.ref a2), .val (.int (1 : Int32)), .val (.int p4), .unset] [(.int (XT.ushr p4 (1 : Int32)))])) _
      refine XS.iconst X0.here hx rfl (hb hby d2_11) ?_
      show Steps p.tables e below (s₁.setTop (mkF m 12 #[.val (.ref a1), .val (.ref a2), .val (.int (1 : Int32)), .val (.int p4), .unset] [(.int (1 : Int32)), (.int (XT.ushr p4 (1 : Int32)))])) _
      refine XS.iand X0.here hx rfl (hb hby d2_12) rfl ?_
      show Steps p.tables e below (s₁.setTop (mkF m 13 #[.val (.ref a1), .val (.ref a2), .val (.int (1 : Int32)), .val (.int p4), .unset] [(.int ((XT.ushr p4 (1 : Int32)) &&& (1 : Int32)))])) _
      refine st4 _ ?_
      show Steps p.tables e below (s₁.setTop (mkF m 21 #[.val (.ref a1), .val (.ref a2), .val (.int (1 : Int32)), .val (.int p4), .unset] [(.int (fat1_0 p4 n1 s0 s1 s2 s3 s4 s5 s6 r0 r1 r2 r3 r4 r5 r6))])) _
      refine XS.istore X0.here hx rfl (hb hby d2_21) rfl (l' := #[.val (.ref a1), .val (.ref a2), .val (.int (1 : Int32)), .val (.int p4), .val (.int (fat1_0 p4 n1 s0 s1 s2 s3 s4 s5 s6 r0 r1 r2 r3 r4 r5 r6))]) rfl ?_
      show Steps p.tables e below (s₁.setTop (mkF m 23 #[.val (.ref a1), .val (.ref a2), .val (.int (1 : Int32)), .val (.int p4), .val (.int (fat1_0 p4 n1 s0 s1 s2 s3 s4 s5 s6 r0 r1 r2 r3 r4 r5 r6))] [])) _
      refine XS.aloadN X0.here hx rfl (hb hby d2_23) rfl rfl ?_
      show Steps p.tables e below (s₁.setTop (mkF m 24 #[.val (.ref a1), .val (.ref a2), .val (.int (1 : Int32)), .val (.int p4), .val (.int (fat1_0 p4 n1 s0 s1 s2 s3 s4 s5 s6 r0 r1 r2 r3 r4 r5 r6))] [(.ref a1)])) _
      refine XS.iloadN X0.here hx rfl (hb hby d2_24) rfl ?_
      show Steps p.tables e below (s₁.setTop (mkF m 25 #[.val (.ref a1), .val (.ref a2), .val (.int (1 : Int32)), .val (.int p4), .val (.int (fat1_0 p4 n1 s0 s1 s2 s3 s4 s5 s6 r0 r1 r2 r3 r4 r5 r6))] [(.int (1 : Int32)), (.ref a1)])) _
      refine X0.baloadBooleans hx (j := (1 : Int32)) (v := (.int s1)) (by rw [e0]; exact Ar5.1) (State.isArrayOf_alike hZ.alike Ar5.2.1) Ar5.2.2 hin5 hat5 (g := (mkF m 25 #[.val (.ref a1), .val (.ref a2), .val (.int (1 : Int32)), .val (.int p4), .val (.int (fat1_0 p4 n1 s0 s1 s2 s3 s4 s5 s6 r0 r1 r2 r3 r4 r5 r6))] [(.int (1 : Int32)), (.ref a1)])) rfl rfl (hb hby d2_25) _ ?_
      show Steps p.tables e below (s₁.setTop (mkF m 26 #[.val (.ref a1), .val (.ref a2), .val (.int (1 : Int32)), .val (.int p4), .val (.int (fat1_0 p4 n1 s0 s1 s2 s3 s4 s5 s6 r0 r1 r2 r3 r4 r5 r6))] [(.int s1)])) _
      refine XS.iload X0.here hx rfl (hb hby d2_26) rfl ?_
      show Steps p.tables e below (s₁.setTop (mkF m 28 #[.val (.ref a1), .val (.ref a2), .val (.int (1 : Int32)), .val (.int p4), .val (.int (fat1_0 p4 n1 s0 s1 s2 s3 s4 s5 s6 r0 r1 r2 r3 r4 r5 r6))] [(.int (fat1_0 p4 n1 s0 s1 s2 s3 s4 s5 s6 r0 r1 r2 r3 r4 r5 r6)), (.int s1)])) _
      refine st12 _ ?_
      show Steps p.tables e below (s₁.setTop (mkF m 52 #[.val (.ref a1), .val (.ref a2), .val (.int (1 : Int32)), .val (.int p4), .val (.int (fat1_0 p4 n1 s0 s1 s2 s3 s4 s5 s6 r0 r1 r2 r3 r4 r5 r6))] [(.int (fat1_3 p4 n1 s0 s1 s2 s3 s4 s5 s6 r0 r1 r2 r3 r4 r5 r6))])) _
      exact retN X0 hx (t := .boolean) Bd.returns (by simp) (hb hby d2_52) hr
    · show Qat1 Z a1 a2 p4 k1 n1 s0 s1 s2 s3 s4 s5 s6 k2 r0 r1 r2 r3 r4 r5 r6 h0 n0 _ s₁.heap _
      rw [e0]
      have hf : fat1 p4 n1 s0 s1 s2 s3 s4 s5 s6 r0 r1 r2 r3 r4 r5 r6 = ((fat1_3 p4 n1 s0 s1 s2 s3 s4 s5 s6 r0 r1 r2 r3 r4 r5 r6) &&& 1) := by simp only [fat1, if_pos h2]
      exact ⟨by rw [hf], N0, rfl⟩
  · obtain ⟨fs, hr, hrun, hended, hW, hsame⟩ := X0.leave (v := some (.int (1 : Int32))) (fun h => by rw [Bd.returns] at h; cases h)
    refine ⟨_, _, ?_, hrun, hended, _, _, rfl, ?_, ⟨_, rfl⟩, hW, hsame.mono (by decide) (by decide)⟩
    · show Steps p.tables e below (s₁.setTop (mkF m 3 #[.val (.ref a1), .val (.ref a2), .val (.int (1 : Int32)), .val (.int p4), .unset] [(.int n1), (.int (1 : Int32))])) _
      refine XS.icmpNo X0.here hx rfl (hb hby d2_3) rfl (flt h2).1 ?_
      show Steps p.tables e below (s₁.setTop (mkF m 6 #[.val (.ref a1), .val (.ref a2), .val (.int (1 : Int32)), .val (.int p4), .unset] [])) _
      refine XS.iconst X0.here hx rfl (hb hby d2_6) ?_
      show Steps p.tables e below (s₁.setTop (mkF m 7 #[.val (.ref a1), .val (.ref a2), .val (.int (1 : Int32)), .val (.int p4), .unset] [(.int (1 : Int32))])) _
      exact retN X0 hx (t := .boolean) Bd.returns (by simp) (hb hby d2_7) hr
    · show Qat1 Z a1 a2 p4 k1 n1 s0 s1 s2 s3 s4 s5 s6 k2 r0 r1 r2 r3 r4 r5 r6 h0 n0 _ s₁.heap _
      rw [e0]
      have hf : fat1 p4 n1 s0 s1 s2 s3 s4 s5 s6 r0 r1 r2 r3 r4 r5 r6 = (1 : Int32) := by simp only [fat1, if_neg h2]
      exact ⟨by rw [hf], N0, rfl⟩
theorem pn_at2 : plainName "com/example/bonn/bonn/FormulaComplementPinLaw" = true := by first | (simp [plainName, overriddenIn]; done) | decide +kernel
theorem ef_at2 (m : MethodId) (a1 : Addr) (a2 : Addr) (p4 : Int32) : entryFrame m #[(.ref a1), (.ref a2), (.int (2 : Int32)), (.int p4)] 5 = mkF m 0 #[.val (.ref a1), .val (.ref a2), .val (.int (2 : Int32)), .val (.int p4), .unset] [] := by first | (simp [entryFrame, mkF, argsToLocals, Value.category]; done) | rfl
def Qat2 (Z : State) (a1 : Addr) (a2 : Addr) (p4 : Int32) (k1 : ClassId) (n1 : Int32) (s0 : Int32) (s1 : Int32) (s2 : Int32) (s3 : Int32) (s4 : Int32) (s5 : Int32) (s6 : Int32) (k2 : ClassId) (r0 : Int32) (r1 : Int32) (r2 : Int32) (r3 : Int32) (r4 : Int32) (r5 : Int32) (r6 : Int32) (h0 : Heap) (n0 : Nat) (v : Option Value) (h : Heap) (L : List Loc) : Prop := v = some (.int (fat2 p4 n1 s0 s1 s2 s3 s4 s5 s6 r0 r1 r2 r3 r4 r5 r6)) ∧ Fr n0 L ∧ h = h0
set_option maxRecDepth 65536 in
set_option maxHeartbeats 40000000 in
theorem rmat2 (l : Launch) (Z : State) (a0 : Array Value) (hw : ∀ d ∈ tables_1, d.before a0 Z = true) (ws : List Jvm.Cond) (a1 : Addr) (a2 : Addr) (p4 : Int32) (k1 : ClassId) (n1 : Int32) (s0 : Int32) (s1 : Int32) (s2 : Int32) (s3 : Int32) (s4 : Int32) (s5 : Int32) (s6 : Int32) (k2 : ClassId) (r0 : Int32) (r1 : Int32) (r2 : Int32) (r3 : Int32) (r4 : Int32) (r5 : Int32) (r6 : Int32) (h0 : Heap) (n0 : Nat) (Z0 : n0 ≤ h0.size) (A_a1 : Arv Z h0 a1 k1 .boolean n1 [(.int s0), (.int s1), (.int s2), (.int s3), (.int s4), (.int s5), (.int s6)] (.int (0 : Int32))) (A_a2 : Arv Z h0 a2 k2 .boolean n1 [(.int r0), (.int r1), (.int r2), (.int r3), (.int r4), (.int r5), (.int r6)] (.int (0 : Int32))) :
    MetFree l (⟨"com/example/bonn/bonn/FormulaComplementPinLaw", "at", "([Z[ZII)Z"⟩ : MethodName) (head1 (Jvm.Cond.code (⟨"com/example/bonn/bonn/FormulaComplementPinLaw", "at", "([Z[ZII)Z"⟩ : MethodName) method_3_code 5 (some .boolean) :: ws) ({ frames := 0, cells := 0, slots := 0, locals := 0 } : Room)) (fun a U => a = #[(.ref a1), (.ref a2), (.int (2 : Int32)), (.int p4)] ∧ Z.Warmed39 U.vm ∧ U.heap = h0) (fun _ _ _ _ _ => True) (fun _ U o U' => ∃ v L, o = .returned v ∧ Qat2 Z a1 a2 p4 k1 n1 s0 s1 s2 s3 s4 s5 s6 k2 r0 r1 r2 r3 r4 r5 r6 h0 n0 v U'.heap L ∧ FrameEnd U o U' L ({ frames := 0, cells := 0, slots := 0, locals := 0 } : Room).cells ({ frames := 0, cells := 0, slots := 0, locals := 0 } : Room).slots) := by
  refine MetFree.of_bodySF (plainFor_of_name pn_at2) hisR ?_
  intro p e s m args below meth c s₁ Bd hml0 hP hK
  obtain ⟨rfl, hZ, hh⟩ := hP
  have hx := Bd.exec
  have hby := Bd.bytes
  have hml : c.maxLocals = 5 := hml0
  have hown : s.vm.findClass "com/example/bonn/bonn/FormulaComplementPinLaw" = some m.cls := findClass_of_methodNamed Bd.named
  have hnm := (name_of_methodNamed Bd.named Bd.method).1
  have X0 : Stand p l e ({ frames := 0, cells := 0, slots := 0, locals := 0 } : Room) s m #[(.ref a1), (.ref a2), (.int (2 : Int32)), (.int p4)] below meth c s₁ [] 0 0 := Stand.of_body Bd
  have e0 : s₁.heap = h0 := by rw [← hh, Bd.state]; rfl
  have N0 := Fr.nil n0
  have pre0 : ∀ t, Steps p.tables e below (s₁.setTop (mkF m 0 #[.val (.ref a1), .val (.ref a2), .val (.int (2 : Int32)), .val (.int p4), .unset] [])) t → Steps p.tables e below (s₁.setTop (entryFrame m #[(.ref a1), (.ref a2), (.int (2 : Int32)), (.int p4)] 5)) t := fun t k => castTop (ef_at2 m a1 a2 p4) k
  refine own_step (Q := fun o U' => ∃ v L, o = .returned v ∧ Qat2 Z a1 a2 p4 k1 n1 s0 s1 s2 s3 s4 s5 s6 k2 r0 r1 r2 r3 r4 r5 r6 h0 n0 v U'.heap L ∧ FrameEnd s o U' L ({ frames := 0, cells := 0, slots := 0, locals := 0 } : Room).cells ({ frames := 0, cells := 0, slots := 0, locals := 0 } : Room).slots) pre0 ?_
  obtain ⟨cl1, Ar1, -, S1, M1, -, -⟩ := id A_a1
  refine own_step (B := s₁.setTop (mkF m 3 #[.val (.ref a1), .val (.ref a2), .val (.int (2 : Int32)), .val (.int p4), .unset] [(.int n1), (.int (2 : Int32))])) (fun t k => ?_) ?_
  · show Steps p.tables e below (s₁.setTop (mkF m 0 #[.val (.ref a1), .val (.ref a2), .val (.int (2 : Int32)), .val (.int p4), .unset] [])) _
    refine XS.iloadN X0.here hx rfl (hb hby d2_0) rfl ?_
    show Steps p.tables e below (s₁.setTop (mkF m 1 #[.val (.ref a1), .val (.ref a2), .val (.int (2 : Int32)), .val (.int p4), .unset] [(.int (2 : Int32))])) _
    refine XS.aloadN X0.here hx rfl (hb hby d2_1) rfl rfl ?_
    show Steps p.tables e below (s₁.setTop (mkF m 2 #[.val (.ref a1), .val (.ref a2), .val (.int (2 : Int32)), .val (.int p4), .unset] [(.ref a1), (.int (2 : Int32))])) _
    refine X0.arraylength hx (by rw [e0]; exact Ar1.1) (State.isArrayOf_alike hZ.alike Ar1.2.1) (g := (mkF m 2 #[.val (.ref a1), .val (.ref a2), .val (.int (2 : Int32)), .val (.int p4), .unset] [(.ref a1), (.int (2 : Int32))])) rfl rfl (hb hby d2_2) _ ?_
    rw [len_of S1 M1]
    exact k
  by_cases h2 : (2 : Int32) < n1
  · have st4 : ∀ t, Steps p.tables e below (s₁.setTop (mkF m 21 #[.val (.ref a1), .val (.ref a2), .val (.int (2 : Int32)), .val (.int p4), .unset] [(.int (fat2_0 p4 n1 s0 s1 s2 s3 s4 s5 s6 r0 r1 r2 r3 r4 r5 r6))])) t → Steps p.tables e below (s₁.setTop (mkF m 13 #[.val (.ref a1), .val (.ref a2), .val (.int (2 : Int32)), .val (.int p4), .unset] [(.int ((XT.ushr p4 (2 : Int32)) &&& (1 : Int32)))])) t := by
      intro t k
      by_cases h3 : ((XT.ushr p4 (2 : Int32)) &&& (1 : Int32)) = (0 : Int32)
      · rw [show (fat2_0 p4 n1 s0 s1 s2 s3 s4 s5 s6 r0 r1 r2 r3 r4 r5 r6) = (0 : Int32) from if_pos h3] at k
        show Steps p.tables e below (s₁.setTop (mkF m 13 #[.val (.ref a1), .val (.ref a2), .val (.int (2 : Int32)), .val (.int p4), .unset] [(.int ((XT.ushr p4 (2 : Int32)) &&& (1 : Int32)))])) _
        refine XS.ifYes X0.here hx rfl (pc0 := 13) (pc' := 20) rfl (hb hby d2_13) rfl ((if0 _ _).trans (teq h3).1) (by decide) (by decide) ?_
        show Steps p.tables e below (s₁.setTop (mkF m 20 #[.val (.ref a1), .val (.ref a2), .val (.int (2 : Int32)), .val (.int p4), .unset] [])) _
        refine XS.iconst X0.here hx rfl (hb hby d2_20) ?_
        exact k
      · rw [show (fat2_0 p4 n1 s0 s1 s2 s3 s4 s5 s6 r0 r1 r2 r3 r4 r5 r6) = (1 : Int32) from if_neg h3] at k
        show Steps p.tables e below (s₁.setTop (mkF m 13 #[.val (.ref a1), .val (.ref a2), .val (.int (2 : Int32)), .val (.int p4), .unset] [(.int ((XT.ushr p4 (2 : Int32)) &&& (1 : Int32)))])) _
        refine XS.ifNo X0.here hx rfl (hb hby d2_13) rfl ((if0 _ _).trans (feq h3).1) ?_
        show Steps p.tables e below (s₁.setTop (mkF m 16 #[.val (.ref a1), .val (.ref a2), .val (.int (2 : Int32)), .val (.int p4), .unset] [])) _
        refine XS.iconst X0.here hx rfl (hb hby d2_16) ?_
        show Steps p.tables e below (s₁.setTop (mkF m 17 #[.val (.ref a1), .val (.ref a2), .val (.int (2 : Int32)), .val (.int p4), .unset] [(.int (1 : Int32))])) _
        refine XS.goto X0.here hx rfl (pc0 := 17) (pc' := 21) rfl (hb hby d2_17) (by decide) (by decide) ?_
        exact k
    obtain ⟨cl5, Ar5, -, S5, M5, H5, -⟩ := id A_a1
    have hin5 := inb_of (j := (2 : Int32)) S5 ⟨by decide, h2⟩
    have hat5 := H5.at hin5 (v := (.int s2)) (rfl)
    have st12 : ∀ t, Steps p.tables e below (s₁.setTop (mkF m 52 #[.val (.ref a1), .val (.ref a2), .val (.int (2 : Int32)), .val (.int p4), .val (.int (fat2_0 p4 n1 s0 s1 s2 s3 s4 s5 s6 r0 r1 r2 r3 r4 r5 r6))] [(.int (fat2_3 p4 n1 s0 s1 s2 s3 s4 s5 s6 r0 r1 r2 r3 r4 r5 r6))])) t → Steps p.tables e below (s₁.setTop (mkF m 28 #[.val (.ref a1), .val (.ref a2), .val (.int (2 : Int32)), .val (.int p4), .val (.int (fat2_0 p4 n1 s0 s1 s2 s3 s4 s5 s6 r0 r1 r2 r3 r4 r5 r6))] [(.int (fat2_0 p4 n1 s0 s1 s2 s3 s4 s5 s6 r0 r1 r2 r3 r4 r5 r6)), (.int s2)])) t := by
      intro t k
      by_cases h6 : s2 = (fat2_0 p4 n1 s0 s1 s2 s3 s4 s5 s6 r0 r1 r2 r3 r4 r5 r6)
      · obtain ⟨cl7, Ar7, -, S7, M7, H7, -⟩ := id A_a2
        have hin7 := inb_of (j := (2 : Int32)) S7 ⟨by decide, h2⟩
        have hat7 := H7.at hin7 (v := (.int r2)) (rfl)
        have st9 : ∀ t, Steps p.tables e below (s₁.setTop (mkF m 44 #[.val (.ref a1), .val (.ref a2), .val (.int (2 : Int32)), .val (.int p4), .val (.int (fat2_0 p4 n1 s0 s1 s2 s3 s4 s5 s6 r0 r1 r2 r3 r4 r5 r6))] [(.int (fat2_1 p4 n1 s0 s1 s2 s3 s4 s5 s6 r0 r1 r2 r3 r4 r5 r6)), (.int r2)])) t → Steps p.tables e below (s₁.setTop (mkF m 36 #[.val (.ref a1), .val (.ref a2), .val (.int (2 : Int32)), .val (.int p4), .val (.int (fat2_0 p4 n1 s0 s1 s2 s3 s4 s5 s6 r0 r1 r2 r3 r4 r5 r6))] [(.int (fat2_0 p4 n1 s0 s1 s2 s3 s4 s5 s6 r0 r1 r2 r3 r4 r5 r6)), (.int r2)])) t := by
          intro t k
          by_cases h8 : (fat2_0 p4 n1 s0 s1 s2 s3 s4 s5 s6 r0 r1 r2 r3 r4 r5 r6) = (0 : Int32)
          · rw [show (fat2_1 p4 n1 s0 s1 s2 s3 s4 s5 s6 r0 r1 r2 r3 r4 r5 r6) = (1 : Int32) from if_pos h8] at k
            show Steps p.tables e below (s₁.setTop (mkF m 36 #[.val (.ref a1), .val (.ref a2), .val (.int (2 : Int32)), .val (.int p4), .val (.int (fat2_0 p4 n1 s0 s1 s2 s3 s4 s5 s6 r0 r1 r2 r3 r4 r5 r6))] [(.int (fat2_0 p4 n1 s0 s1 s2 s3 s4 s5 s6 r0 r1 r2 r3 r4 r5 r6)), (.int r2)])) _
            refine XS.ifNo X0.here hx rfl (hb hby d2_36) rfl ((if0 _ _).trans (teq h8).2) ?_
            show Steps p.tables e below (s₁.setTop (mkF m 39 #[.val (.ref a1), .val (.ref a2), .val (.int (2 : Int32)), .val (.int p4), .val (.int (fat2_0 p4 n1 s0 s1 s2 s3 s4 s5 s6 r0 r1 r2 r3 r4 r5 r6))] [(.int r2)])) _
            refine XS.iconst X0.here hx rfl (hb hby d2_39) ?_
            show Steps p.tables e below (s₁.setTop (mkF m 40 #[.val (.ref a1), .val (.ref a2), .val (.int (2 : Int32)), .val (.int p4), .val (.int (fat2_0 p4 n1 s0 s1 s2 s3 s4 s5 s6 r0 r1 r2 r3 r4 r5 r6))] [(.int (1 : Int32)), (.int r2)])) _
            refine XS.goto X0.here hx rfl (pc0 := 40) (pc' := 44) rfl (hb hby d2_40) (by decide) (by decide) ?_
            exact k
          · rw [show (fat2_1 p4 n1 s0 s1 s2 s3 s4 s5 s6 r0 r1 r2 r3 r4 r5 r6) = (0 : Int32) from if_neg h8] at k
            show Steps p.tables e below (s₁.setTop (mkF m 36 #[.val (.ref a1), .val (.ref a2), .val (.int (2 : Int32)), .val (.int p4), .val (.int (fat2_0 p4 n1 s0 s1 s2 s3 s4 s5 s6 r0 r1 r2 r3 r4 r5 r6))] [(.int (fat2_0 p4 n1 s0 s1 s2 s3 s4 s5 s6 r0 r1 r2 r3 r4 r5 r6)), (.int r2)])) _
            refine XS.ifYes X0.here hx rfl (pc0 := 36) (pc' := 43) rfl (hb hby d2_36) rfl ((if0 _ _).trans (feq h8).2) (by decide) (by decide) ?_
            show Steps p.tables e below (s₁.setTop (mkF m 43 #[.val (.ref a1), .val (.ref a2), .val (.int (2 : Int32)), .val (.int p4), .val (.int (fat2_0 p4 n1 s0 s1 s2 s3 s4 s5 s6 r0 r1 r2 r3 r4 r5 r6))] [(.int r2)])) _
            refine XS.iconst X0.here hx rfl (hb hby d2_43) ?_
            exact k
        have st11 : ∀ t, Steps p.tables e below (s₁.setTop (mkF m 52 #[.val (.ref a1), .val (.ref a2), .val (.int (2 : Int32)), .val (.int p4), .val (.int (fat2_0 p4 n1 s0 s1 s2 s3 s4 s5 s6 r0 r1 r2 r3 r4 r5 r6))] [(.int (fat2_2 p4 n1 s0 s1 s2 s3 s4 s5 s6 r0 r1 r2 r3 r4 r5 r6))])) t → Steps p.tables e below (s₁.setTop (mkF m 44 #[.val (.ref a1), .val (.ref a2), .val (.int (2 : Int32)), .val (.int p4), .val (.int (fat2_0 p4 n1 s0 s1 s2 s3 s4 s5 s6 r0 r1 r2 r3 r4 r5 r6))] [(.int (fat2_1 p4 n1 s0 s1 s2 s3 s4 s5 s6 r0 r1 r2 r3 r4 r5 r6)), (.int r2)])) t := by
          intro t k
          by_cases h10 : r2 = (fat2_1 p4 n1 s0 s1 s2 s3 s4 s5 s6 r0 r1 r2 r3 r4 r5 r6)
          · rw [show (fat2_2 p4 n1 s0 s1 s2 s3 s4 s5 s6 r0 r1 r2 r3 r4 r5 r6) = (1 : Int32) from if_pos h10] at k
            show Steps p.tables e below (s₁.setTop (mkF m 44 #[.val (.ref a1), .val (.ref a2), .val (.int (2 : Int32)), .val (.int p4), .val (.int (fat2_0 p4 n1 s0 s1 s2 s3 s4 s5 s6 r0 r1 r2 r3 r4 r5 r6))] [(.int (fat2_1 p4 n1 s0 s1 s2 s3 s4 s5 s6 r0 r1 r2 r3 r4 r5 r6)), (.int r2)])) _
            refine XS.icmpNo X0.here hx rfl (hb hby d2_44) rfl (teq h10).2 ?_
            show Steps p.tables e below (s₁.setTop (mkF m 47 #[.val (.ref a1), .val (.ref a2), .val (.int (2 : Int32)), .val (.int p4), .val (.int (fat2_0 p4 n1 s0 s1 s2 s3 s4 s5 s6 r0 r1 r2 r3 r4 r5 r6))] [])) _
            refine XS.iconst X0.here hx rfl (hb hby d2_47) ?_
            show Steps p.tables e below (s₁.setTop (mkF m 48 #[.val (.ref a1), .val (.ref a2), .val (.int (2 : Int32)), .val (.int p4), .val (.int (fat2_0 p4 n1 s0 s1 s2 s3 s4 s5 s6 r0 r1 r2 r3 r4 r5 r6))] [(.int (1 : Int32))])) _
            refine XS.goto X0.here hx rfl (pc0 := 48) (pc' := 52) rfl (hb hby d2_48) (by decide) (by decide) ?_
            exact k
          · rw [show (fat2_2 p4 n1 s0 s1 s2 s3 s4 s5 s6 r0 r1 r2 r3 r4 r5 r6) = (0 : Int32) from if_neg h10] at k
            show Steps p.tables e below (s₁.setTop (mkF m 44 #[.val (.ref a1), .val (.ref a2), .val (.int (2 : Int32)), .val (.int p4), .val (.int (fat2_0 p4 n1 s0 s1 s2 s3 s4 s5 s6 r0 r1 r2 r3 r4 r5 r6))] [(.int (fat2_1 p4 n1 s0 s1 s2 s3 s4 s5 s6 r0 r1 r2 r3 r4 r5 r6)), (.int r2)])) _
            refine XS.icmpYes X0.here hx rfl (pc0 := 44) (pc' := 51) rfl (hb hby d2_44) rfl (feq h10).2 (by decide) (by decide) ?_
            show Steps p.tables e below (s₁.setTop (mkF m 51 #[.val (.ref a1), .val (.ref a2), .val (.int (2 : Int32)), .val (.int p4), .val (.int (fat2_0 p4 n1 s0 s1 s2 s3 s4 s5 s6 r0 r1 r2 r3 r4 r5 r6))] [])) _
            refine XS.iconst X0.here hx rfl (hb hby d2_51) ?_
            exact k
        rw [show (fat2_3 p4 n1 s0 s1 s2 s3 s4 s5 s6 r0 r1 r2 r3 r4 r5 r6) = (fat2_2 p4 n1 s0 s1 s2 s3 s4 s5 s6 r0 r1 r2 r3 r4 r5 r6) from if_pos h6] at k
        show Steps p.tables e below (s₁.setTop (mkF m 28 #[.val (.ref a1), .val (.ref a2), .val (.int (2 : Int32)), .val (.int p4), .val (.int (fat2_0 p4 n1 s0 s1 s2 s3 s4 s5 s6 r0 r1 r2 r3 r4 r5 r6))] [(.int (fat2_0 p4 n1 s0 s1 s2 s3 s4 s5 s6 r0 r1 r2 r3 r4 r5 r6)), (.int s2)])) _
        refine XS.icmpNo X0.here hx rfl (hb hby d2_28) rfl (teq h6).2 ?_
        show Steps p.tables e below (s₁.setTop (mkF m 31 #[.val (.ref a1), .val (.ref a2), .val (.int (2 : Int32)), .val (.int p4), .val (.int (fat2_0 p4 n1 s0 s1 s2 s3 s4 s5 s6 r0 r1 r2 r3 r4 r5 r6))] [])) _
        refine XS.aloadN X0.here hx rfl (hb hby d2_31) rfl rfl ?_
        show Steps p.tables e below (s₁.setTop (mkF m 32 #[.val (.ref a1), .val (.ref a2), .val (.int (2 : Int32)), .val (.int p4), .val (.int (fat2_0 p4 n1 s0 s1 s2 s3 s4 s5 s6 r0 r1 r2 r3 r4 r5 r6))] [(.ref a2)])) _
        refine XS.iloadN X0.here hx rfl (hb hby d2_32) rfl ?_
        show Steps p.tables e below (s₁.setTop (mkF m 33 #[.val (.ref a1), .val (.ref a2), .val (.int (2 : Int32)), .val (.int p4), .val (.int (fat2_0 p4 n1 s0 s1 s2 s3 s4 s5 s6 r0 r1 r2 r3 r4 r5 r6))] [(.int (2 : Int32)), (.ref a2)])) _
        refine X0.baloadBooleans hx (j := (2 : Int32)) (v := (.int r2)) (by rw [e0]; exact Ar7.1) (State.isArrayOf_alike hZ.alike Ar7.2.1) Ar7.2.2 hin7 hat7 (g := (mkF m 33 #[.val (.ref a1), .val (.ref a2), .val (.int (2 : Int32)), .val (.int p4), .val (.int (fat2_0 p4 n1 s0 s1 s2 s3 s4 s5 s6 r0 r1 r2 r3 r4 r5 r6))] [(.int (2 : Int32)), (.ref a2)])) rfl rfl (hb hby d2_33) _ ?_
        show Steps p.tables e below (s₁.setTop (mkF m 34 #[.val (.ref a1), .val (.ref a2), .val (.int (2 : Int32)), .val (.int p4), .val (.int (fat2_0 p4 n1 s0 s1 s2 s3 s4 s5 s6 r0 r1 r2 r3 r4 r5 r6))] [(.int r2)])) _
        refine XS.iload X0.here hx rfl (hb hby d2_34) rfl ?_
        show Steps p.tables e below (s₁.setTop (mkF m 36 #[.val (.ref a1), .val (.ref a2), .val (.int (2 : Int32)), .val (.int p4), .val (.int (fat2_0 p4 n1 s0 s1 s2 s3 s4 s5 s6 r0 r1 r2 r3 r4 r5 r6))] [(.int (fat2_0 p4 n1 s0 s1 s2 s3 s4 s5 s6 r0 r1 r2 r3 r4 r5 r6)), (.int r2)])) _
        refine st9 _ ?_
        show Steps p.tables e below (s₁.setTop (mkF m 44 #[.val (.ref a1), .val (.ref a2), .val (.int (2 : Int32)), .val (.int p4), .val (.int (fat2_0 p4 n1 s0 s1 s2 s3 s4 s5 s6 r0 r1 r2 r3 r4 r5 r6))] [(.int (fat2_1 p4 n1 s0 s1 s2 s3 s4 s5 s6 r0 r1 r2 r3 r4 r5 r6)), (.int r2)])) _
        refine st11 _ ?_
        exact k
      · rw [show (fat2_3 p4 n1 s0 s1 s2 s3 s4 s5 s6 r0 r1 r2 r3 r4 r5 r6) = (0 : Int32) from if_neg h6] at k
        show Steps p.tables e below (s₁.setTop (mkF m 28 #[.val (.ref a1), .val (.ref a2), .val (.int (2 : Int32)), .val (.int p4), .val (.int (fat2_0 p4 n1 s0 s1 s2 s3 s4 s5 s6 r0 r1 r2 r3 r4 r5 r6))] [(.int (fat2_0 p4 n1 s0 s1 s2 s3 s4 s5 s6 r0 r1 r2 r3 r4 r5 r6)), (.int s2)])) _
        refine XS.icmpYes X0.here hx rfl (pc0 := 28) (pc' := 51) rfl (hb hby d2_28) rfl (feq h6).2 (by decide) (by decide) ?_
        show Steps p.tables e below (s₁.setTop (mkF m 51 #[.val (.ref a1), .val (.ref a2), .val (.int (2 : Int32)), .val (.int p4), .val (.int (fat2_0 p4 n1 s0 s1 s2 s3 s4 s5 s6 r0 r1 r2 r3 r4 r5 r6))] [])) _
        refine XS.iconst X0.here hx rfl (hb hby d2_51) ?_
        exact k
    obtain ⟨fs, hr, hrun, hended, hW, hsame⟩ := X0.leave (v := some (.int ((fat2_3 p4 n1 s0 s1 s2 s3 s4 s5 s6 r0 r1 r2 r3 r4 r5 r6) &&& 1))) (fun h => by rw [Bd.returns] at h; cases h)
    refine ⟨_, _, ?_, hrun, hended, _, _, rfl, ?_, ⟨_, rfl⟩, hW, hsame.mono (by decide) (by decide)⟩
    · show Steps p.tables e below (s₁.setTop (mkF m 3 #[.val (.ref a1), .val (.ref a2), .val (.int (2 : Int32)), .val (.int p4), .unset] [(.int n1), (.int (2 : Int32))])) _
      refine XS.icmpYes X0.here hx rfl (pc0 := 3) (pc' := 8) rfl (hb hby d2_3) rfl (tlt h2).1 (by decide) (by decide) ?_
      show Steps p.tables e below (s₁.setTop (mkF m 8 #[.val (.ref a1), .val (.ref a2), .val (.int (2 : Int32)), .val (.int p4), .unset] [])) _
      refine XS.iloadN X0.here hx rfl (hb hby d2_8) rfl ?_
      show Steps p.tables e below (s₁.setTop (mkF m 9 #[.val (.ref a1), .val (.ref a2), .val (.int (2 : Int32)), .val (.int p4), .unset] [(.int p4)])) _
      refine XS.iloadN X0.here hx rfl (hb hby d2_9) rfl ?_
      show Steps p.tables e below (s₁.setTop (mkF m 10 #[.val (.ref a1), .val (.ref a2), .val (.int (2 : Int32)), .val (.int p4), .unset] [(.int (2 : Int32)), (.int p4)])) _
      refine XT.iushr X0.here hx rfl (hb hby d2_10) rfl ?_
      show Steps p.tables e below (s₁.setTop (mkF m 11 #[.val (.ref a1), .val (.ref a2), .val (.int (2 : Int32)), .val (.int p4), .unset] [(.int (XT.ushr p4 (2 : Int32)))])) _
      refine XS.iconst X0.here hx rfl (hb hby d2_11) ?_
      show Steps p.tables e below (s₁.setTop (mkF m 12 #[.val (.ref a1), .val (.ref a2), .val (.int (2 : Int32)), .val (.int p4), .unset] [(.int (1 : Int32)), (.int (XT.ushr p4 (2 : Int32)))])) _
      refine XS.iand X0.here hx rfl (hb hby d2_12) rfl ?_
      show Steps p.tables e below (s₁.setTop (mkF m 13 #[.val (.ref a1), .val (.ref a2), .val (.int (2 : Int32)), .val (.int p4), .unset] [(.int ((XT.ushr p4 (2 : Int32)) &&& (1 : Int32)))])) _
      refine st4 _ ?_
      show Steps p.tables e below (s₁.setTop (mkF m 21 #[.val (.ref a1), .val (.ref a2), .val (.int (2 : Int32)), .val (.int p4), .unset] [(.int (fat2_0 p4 n1 s0 s1 s2 s3 s4 s5 s6 r0 r1 r2 r3 r4 r5 r6))])) _
      refine XS.istore X0.here hx rfl (hb hby d2_21) rfl (l' := #[.val (.ref a1), .val (.ref a2), .val (.int (2 : Int32)), .val (.int p4), .val (.int (fat2_0 p4 n1 s0 s1 s2 s3 s4 s5 s6 r0 r1 r2 r3 r4 r5 r6))]) rfl ?_
      show Steps p.tables e below (s₁.setTop (mkF m 23 #[.val (.ref a1), .val (.ref a2), .val (.int (2 : Int32)), .val (.int p4), .val (.int (fat2_0 p4 n1 s0 s1 s2 s3 s4 s5 s6 r0 r1 r2 r3 r4 r5 r6))] [])) _
      refine XS.aloadN X0.here hx rfl (hb hby d2_23) rfl rfl ?_
      show Steps p.tables e below (s₁.setTop (mkF m 24 #[.val (.ref a1), .val (.ref a2), .val (.int (2 : Int32)), .val (.int p4), .val (.int (fat2_0 p4 n1 s0 s1 s2 s3 s4 s5 s6 r0 r1 r2 r3 r4 r5 r6))] [(.ref a1)])) _
      refine XS.iloadN X0.here hx rfl (hb hby d2_24) rfl ?_
      show Steps p.tables e below (s₁.setTop (mkF m 25 #[.val (.ref a1), .val (.ref a2), .val (.int (2 : Int32)), .val (.int p4), .val (.int (fat2_0 p4 n1 s0 s1 s2 s3 s4 s5 s6 r0 r1 r2 r3 r4 r5 r6))] [(.int (2 : Int32)), (.ref a1)])) _
      refine X0.baloadBooleans hx (j := (2 : Int32)) (v := (.int s2)) (by rw [e0]; exact Ar5.1) (State.isArrayOf_alike hZ.alike Ar5.2.1) Ar5.2.2 hin5 hat5 (g := (mkF m 25 #[.val (.ref a1), .val (.ref a2), .val (.int (2 : Int32)), .val (.int p4), .val (.int (fat2_0 p4 n1 s0 s1 s2 s3 s4 s5 s6 r0 r1 r2 r3 r4 r5 r6))] [(.int (2 : Int32)), (.ref a1)])) rfl rfl (hb hby d2_25) _ ?_
      show Steps p.tables e below (s₁.setTop (mkF m 26 #[.val (.ref a1), .val (.ref a2), .val (.int (2 : Int32)), .val (.int p4), .val (.int (fat2_0 p4 n1 s0 s1 s2 s3 s4 s5 s6 r0 r1 r2 r3 r4 r5 r6))] [(.int s2)])) _
      refine XS.iload X0.here hx rfl (hb hby d2_26) rfl ?_
      show Steps p.tables e below (s₁.setTop (mkF m 28 #[.val (.ref a1), .val (.ref a2), .val (.int (2 : Int32)), .val (.int p4), .val (.int (fat2_0 p4 n1 s0 s1 s2 s3 s4 s5 s6 r0 r1 r2 r3 r4 r5 r6))] [(.int (fat2_0 p4 n1 s0 s1 s2 s3 s4 s5 s6 r0 r1 r2 r3 r4 r5 r6)), (.int s2)])) _
      refine st12 _ ?_
      show Steps p.tables e below (s₁.setTop (mkF m 52 #[.val (.ref a1), .val (.ref a2), .val (.int (2 : Int32)), .val (.int p4), .val (.int (fat2_0 p4 n1 s0 s1 s2 s3 s4 s5 s6 r0 r1 r2 r3 r4 r5 r6))] [(.int (fat2_3 p4 n1 s0 s1 s2 s3 s4 s5 s6 r0 r1 r2 r3 r4 r5 r6))])) _
      exact retN X0 hx (t := .boolean) Bd.returns (by simp) (hb hby d2_52) hr
    · show Qat2 Z a1 a2 p4 k1 n1 s0 s1 s2 s3 s4 s5 s6 k2 r0 r1 r2 r3 r4 r5 r6 h0 n0 _ s₁.heap _
      rw [e0]
      have hf : fat2 p4 n1 s0 s1 s2 s3 s4 s5 s6 r0 r1 r2 r3 r4 r5 r6 = ((fat2_3 p4 n1 s0 s1 s2 s3 s4 s5 s6 r0 r1 r2 r3 r4 r5 r6) &&& 1) := by simp only [fat2, if_pos h2]
      exact ⟨by rw [hf], N0, rfl⟩
  · obtain ⟨fs, hr, hrun, hended, hW, hsame⟩ := X0.leave (v := some (.int (1 : Int32))) (fun h => by rw [Bd.returns] at h; cases h)
    refine ⟨_, _, ?_, hrun, hended, _, _, rfl, ?_, ⟨_, rfl⟩, hW, hsame.mono (by decide) (by decide)⟩
    · show Steps p.tables e below (s₁.setTop (mkF m 3 #[.val (.ref a1), .val (.ref a2), .val (.int (2 : Int32)), .val (.int p4), .unset] [(.int n1), (.int (2 : Int32))])) _
      refine XS.icmpNo X0.here hx rfl (hb hby d2_3) rfl (flt h2).1 ?_
      show Steps p.tables e below (s₁.setTop (mkF m 6 #[.val (.ref a1), .val (.ref a2), .val (.int (2 : Int32)), .val (.int p4), .unset] [])) _
      refine XS.iconst X0.here hx rfl (hb hby d2_6) ?_
      show Steps p.tables e below (s₁.setTop (mkF m 7 #[.val (.ref a1), .val (.ref a2), .val (.int (2 : Int32)), .val (.int p4), .unset] [(.int (1 : Int32))])) _
      exact retN X0 hx (t := .boolean) Bd.returns (by simp) (hb hby d2_7) hr
    · show Qat2 Z a1 a2 p4 k1 n1 s0 s1 s2 s3 s4 s5 s6 k2 r0 r1 r2 r3 r4 r5 r6 h0 n0 _ s₁.heap _
      rw [e0]
      have hf : fat2 p4 n1 s0 s1 s2 s3 s4 s5 s6 r0 r1 r2 r3 r4 r5 r6 = (1 : Int32) := by simp only [fat2, if_neg h2]
      exact ⟨by rw [hf], N0, rfl⟩
theorem pn_at3 : plainName "com/example/bonn/bonn/FormulaComplementPinLaw" = true := by first | (simp [plainName, overriddenIn]; done) | decide +kernel
theorem ef_at3 (m : MethodId) (a1 : Addr) (a2 : Addr) (p4 : Int32) : entryFrame m #[(.ref a1), (.ref a2), (.int (3 : Int32)), (.int p4)] 5 = mkF m 0 #[.val (.ref a1), .val (.ref a2), .val (.int (3 : Int32)), .val (.int p4), .unset] [] := by first | (simp [entryFrame, mkF, argsToLocals, Value.category]; done) | rfl
def Qat3 (Z : State) (a1 : Addr) (a2 : Addr) (p4 : Int32) (k1 : ClassId) (n1 : Int32) (s0 : Int32) (s1 : Int32) (s2 : Int32) (s3 : Int32) (s4 : Int32) (s5 : Int32) (s6 : Int32) (k2 : ClassId) (r0 : Int32) (r1 : Int32) (r2 : Int32) (r3 : Int32) (r4 : Int32) (r5 : Int32) (r6 : Int32) (h0 : Heap) (n0 : Nat) (v : Option Value) (h : Heap) (L : List Loc) : Prop := v = some (.int (fat3 p4 n1 s0 s1 s2 s3 s4 s5 s6 r0 r1 r2 r3 r4 r5 r6)) ∧ Fr n0 L ∧ h = h0
set_option maxRecDepth 65536 in
set_option maxHeartbeats 40000000 in
theorem rmat3 (l : Launch) (Z : State) (a0 : Array Value) (hw : ∀ d ∈ tables_1, d.before a0 Z = true) (ws : List Jvm.Cond) (a1 : Addr) (a2 : Addr) (p4 : Int32) (k1 : ClassId) (n1 : Int32) (s0 : Int32) (s1 : Int32) (s2 : Int32) (s3 : Int32) (s4 : Int32) (s5 : Int32) (s6 : Int32) (k2 : ClassId) (r0 : Int32) (r1 : Int32) (r2 : Int32) (r3 : Int32) (r4 : Int32) (r5 : Int32) (r6 : Int32) (h0 : Heap) (n0 : Nat) (Z0 : n0 ≤ h0.size) (A_a1 : Arv Z h0 a1 k1 .boolean n1 [(.int s0), (.int s1), (.int s2), (.int s3), (.int s4), (.int s5), (.int s6)] (.int (0 : Int32))) (A_a2 : Arv Z h0 a2 k2 .boolean n1 [(.int r0), (.int r1), (.int r2), (.int r3), (.int r4), (.int r5), (.int r6)] (.int (0 : Int32))) :
    MetFree l (⟨"com/example/bonn/bonn/FormulaComplementPinLaw", "at", "([Z[ZII)Z"⟩ : MethodName) (head1 (Jvm.Cond.code (⟨"com/example/bonn/bonn/FormulaComplementPinLaw", "at", "([Z[ZII)Z"⟩ : MethodName) method_3_code 5 (some .boolean) :: ws) ({ frames := 0, cells := 0, slots := 0, locals := 0 } : Room)) (fun a U => a = #[(.ref a1), (.ref a2), (.int (3 : Int32)), (.int p4)] ∧ Z.Warmed39 U.vm ∧ U.heap = h0) (fun _ _ _ _ _ => True) (fun _ U o U' => ∃ v L, o = .returned v ∧ Qat3 Z a1 a2 p4 k1 n1 s0 s1 s2 s3 s4 s5 s6 k2 r0 r1 r2 r3 r4 r5 r6 h0 n0 v U'.heap L ∧ FrameEnd U o U' L ({ frames := 0, cells := 0, slots := 0, locals := 0 } : Room).cells ({ frames := 0, cells := 0, slots := 0, locals := 0 } : Room).slots) := by
  refine MetFree.of_bodySF (plainFor_of_name pn_at3) hisR ?_
  intro p e s m args below meth c s₁ Bd hml0 hP hK
  obtain ⟨rfl, hZ, hh⟩ := hP
  have hx := Bd.exec
  have hby := Bd.bytes
  have hml : c.maxLocals = 5 := hml0
  have hown : s.vm.findClass "com/example/bonn/bonn/FormulaComplementPinLaw" = some m.cls := findClass_of_methodNamed Bd.named
  have hnm := (name_of_methodNamed Bd.named Bd.method).1
  have X0 : Stand p l e ({ frames := 0, cells := 0, slots := 0, locals := 0 } : Room) s m #[(.ref a1), (.ref a2), (.int (3 : Int32)), (.int p4)] below meth c s₁ [] 0 0 := Stand.of_body Bd
  have e0 : s₁.heap = h0 := by rw [← hh, Bd.state]; rfl
  have N0 := Fr.nil n0
  have pre0 : ∀ t, Steps p.tables e below (s₁.setTop (mkF m 0 #[.val (.ref a1), .val (.ref a2), .val (.int (3 : Int32)), .val (.int p4), .unset] [])) t → Steps p.tables e below (s₁.setTop (entryFrame m #[(.ref a1), (.ref a2), (.int (3 : Int32)), (.int p4)] 5)) t := fun t k => castTop (ef_at3 m a1 a2 p4) k
  refine own_step (Q := fun o U' => ∃ v L, o = .returned v ∧ Qat3 Z a1 a2 p4 k1 n1 s0 s1 s2 s3 s4 s5 s6 k2 r0 r1 r2 r3 r4 r5 r6 h0 n0 v U'.heap L ∧ FrameEnd s o U' L ({ frames := 0, cells := 0, slots := 0, locals := 0 } : Room).cells ({ frames := 0, cells := 0, slots := 0, locals := 0 } : Room).slots) pre0 ?_
  obtain ⟨cl1, Ar1, -, S1, M1, -, -⟩ := id A_a1
  refine own_step (B := s₁.setTop (mkF m 3 #[.val (.ref a1), .val (.ref a2), .val (.int (3 : Int32)), .val (.int p4), .unset] [(.int n1), (.int (3 : Int32))])) (fun t k => ?_) ?_
  · show Steps p.tables e below (s₁.setTop (mkF m 0 #[.val (.ref a1), .val (.ref a2), .val (.int (3 : Int32)), .val (.int p4), .unset] [])) _
    refine XS.iloadN X0.here hx rfl (hb hby d2_0) rfl ?_
    show Steps p.tables e below (s₁.setTop (mkF m 1 #[.val (.ref a1), .val (.ref a2), .val (.int (3 : Int32)), .val (.int p4), .unset] [(.int (3 : Int32))])) _
    refine XS.aloadN X0.here hx rfl (hb hby d2_1) rfl rfl ?_
    show Steps p.tables e below (s₁.setTop (mkF m 2 #[.val (.ref a1), .val (.ref a2), .val (.int (3 : Int32)), .val (.int p4), .unset] [(.ref a1), (.int (3 : Int32))])) _
    refine X0.arraylength hx (by rw [e0]; exact Ar1.1) (State.isArrayOf_alike hZ.alike Ar1.2.1) (g := (mkF m 2 #[.val (.ref a1), .val (.ref a2), .val (.int (3 : Int32)), .val (.int p4), .unset] [(.ref a1), (.int (3 : Int32))])) rfl rfl (hb hby d2_2) _ ?_
    rw [len_of S1 M1]
    exact k
  by_cases h2 : (3 : Int32) < n1
  · have st4 : ∀ t, Steps p.tables e below (s₁.setTop (mkF m 21 #[.val (.ref a1), .val (.ref a2), .val (.int (3 : Int32)), .val (.int p4), .unset] [(.int (fat3_0 p4 n1 s0 s1 s2 s3 s4 s5 s6 r0 r1 r2 r3 r4 r5 r6))])) t → Steps p.tables e below (s₁.setTop (mkF m 13 #[.val (.ref a1), .val (.ref a2), .val (.int (3 : Int32)), .val (.int p4), .unset] [(.int ((XT.ushr p4 (3 : Int32)) &&& (1 : Int32)))])) t := by
      intro t k
      by_cases h3 : ((XT.ushr p4 (3 : Int32)) &&& (1 : Int32)) = (0 : Int32)
      · rw [show (fat3_0 p4 n1 s0 s1 s2 s3 s4 s5 s6 r0 r1 r2 r3 r4 r5 r6) = (0 : Int32) from if_pos h3] at k
        show Steps p.tables e below (s₁.setTop (mkF m 13 #[.val (.ref a1), .val (.ref a2), .val (.int (3 : Int32)), .val (.int p4), .unset] [(.int ((XT.ushr p4 (3 : Int32)) &&& (1 : Int32)))])) _
        refine XS.ifYes X0.here hx rfl (pc0 := 13) (pc' := 20) rfl (hb hby d2_13) rfl ((if0 _ _).trans (teq h3).1) (by decide) (by decide) ?_
        show Steps p.tables e below (s₁.setTop (mkF m 20 #[.val (.ref a1), .val (.ref a2), .val (.int (3 : Int32)), .val (.int p4), .unset] [])) _
        refine XS.iconst X0.here hx rfl (hb hby d2_20) ?_
        exact k
      · rw [show (fat3_0 p4 n1 s0 s1 s2 s3 s4 s5 s6 r0 r1 r2 r3 r4 r5 r6) = (1 : Int32) from if_neg h3] at k
        show Steps p.tables e below (s₁.setTop (mkF m 13 #[.val (.ref a1), .val (.ref a2), .val (.int (3 : Int32)), .val (.int p4), .unset] [(.int ((XT.ushr p4 (3 : Int32)) &&& (1 : Int32)))])) _
        refine XS.ifNo X0.here hx rfl (hb hby d2_13) rfl ((if0 _ _).trans (feq h3).1) ?_
        show Steps p.tables e below (s₁.setTop (mkF m 16 #[.val (.ref a1), .val (.ref a2), .val (.int (3 : Int32)), .val (.int p4), .unset] [])) _
        refine XS.iconst X0.here hx rfl (hb hby d2_16) ?_
        show Steps p.tables e below (s₁.setTop (mkF m 17 #[.val (.ref a1), .val (.ref a2), .val (.int (3 : Int32)), .val (.int p4), .unset] [(.int (1 : Int32))])) _
        refine XS.goto X0.here hx rfl (pc0 := 17) (pc' := 21) rfl (hb hby d2_17) (by decide) (by decide) ?_
        exact k
    obtain ⟨cl5, Ar5, -, S5, M5, H5, -⟩ := id A_a1
    have hin5 := inb_of (j := (3 : Int32)) S5 ⟨by decide, h2⟩
    have hat5 := H5.at hin5 (v := (.int s3)) (rfl)
    have st12 : ∀ t, Steps p.tables e below (s₁.setTop (mkF m 52 #[.val (.ref a1), .val (.ref a2), .val (.int (3 : Int32)), .val (.int p4), .val (.int (fat3_0 p4 n1 s0 s1 s2 s3 s4 s5 s6 r0 r1 r2 r3 r4 r5 r6))] [(.int (fat3_3 p4 n1 s0 s1 s2 s3 s4 s5 s6 r0 r1 r2 r3 r4 r5 r6))])) t → Steps p.tables e below (s₁.setTop (mkF m 28 #[.val (.ref a1), .val (.ref a2), .val (.int (3 : Int32)), .val (.int p4), .val (.int (fat3_0 p4 n1 s0 s1 s2 s3 s4 s5 s6 r0 r1 r2 r3 r4 r5 r6))] [(.int (fat3_0 p4 n1 s0 s1 s2 s3 s4 s5 s6 r0 r1 r2 r3 r4 r5 r6)), (.int s3)])) t := by
      intro t k
      by_cases h6 : s3 = (fat3_0 p4 n1 s0 s1 s2 s3 s4 s5 s6 r0 r1 r2 r3 r4 r5 r6)
      · obtain ⟨cl7, Ar7, -, S7, M7, H7, -⟩ := id A_a2
        have hin7 := inb_of (j := (3 : Int32)) S7 ⟨by decide, h2⟩
        have hat7 := H7.at hin7 (v := (.int r3)) (rfl)
        have st9 : ∀ t, Steps p.tables e below (s₁.setTop (mkF m 44 #[.val (.ref a1), .val (.ref a2), .val (.int (3 : Int32)), .val (.int p4), .val (.int (fat3_0 p4 n1 s0 s1 s2 s3 s4 s5 s6 r0 r1 r2 r3 r4 r5 r6))] [(.int (fat3_1 p4 n1 s0 s1 s2 s3 s4 s5 s6 r0 r1 r2 r3 r4 r5 r6)), (.int r3)])) t → Steps p.tables e below (s₁.setTop (mkF m 36 #[.val (.ref a1), .val (.ref a2), .val (.int (3 : Int32)), .val (.int p4), .val (.int (fat3_0 p4 n1 s0 s1 s2 s3 s4 s5 s6 r0 r1 r2 r3 r4 r5 r6))] [(.int (fat3_0 p4 n1 s0 s1 s2 s3 s4 s5 s6 r0 r1 r2 r3 r4 r5 r6)), (.int r3)])) t := by
          intro t k
          by_cases h8 : (fat3_0 p4 n1 s0 s1 s2 s3 s4 s5 s6 r0 r1 r2 r3 r4 r5 r6) = (0 : Int32)
          · rw [show (fat3_1 p4 n1 s0 s1 s2 s3 s4 s5 s6 r0 r1 r2 r3 r4 r5 r6) = (1 : Int32) from if_pos h8] at k
            show Steps p.tables e below (s₁.setTop (mkF m 36 #[.val (.ref a1), .val (.ref a2), .val (.int (3 : Int32)), .val (.int p4), .val (.int (fat3_0 p4 n1 s0 s1 s2 s3 s4 s5 s6 r0 r1 r2 r3 r4 r5 r6))] [(.int (fat3_0 p4 n1 s0 s1 s2 s3 s4 s5 s6 r0 r1 r2 r3 r4 r5 r6)), (.int r3)])) _
            refine XS.ifNo X0.here hx rfl (hb hby d2_36) rfl ((if0 _ _).trans (teq h8).2) ?_
            show Steps p.tables e below (s₁.setTop (mkF m 39 #[.val (.ref a1), .val (.ref a2), .val (.int (3 : Int32)), .val (.int p4), .val (.int (fat3_0 p4 n1 s0 s1 s2 s3 s4 s5 s6 r0 r1 r2 r3 r4 r5 r6))] [(.int r3)])) _
            refine XS.iconst X0.here hx rfl (hb hby d2_39) ?_
            show Steps p.tables e below (s₁.setTop (mkF m 40 #[.val (.ref a1), .val (.ref a2), .val (.int (3 : Int32)), .val (.int p4), .val (.int (fat3_0 p4 n1 s0 s1 s2 s3 s4 s5 s6 r0 r1 r2 r3 r4 r5 r6))] [(.int (1 : Int32)), (.int r3)])) _
            refine XS.goto X0.here hx rfl (pc0 := 40) (pc' := 44) rfl (hb hby d2_40) (by decide) (by decide) ?_
            exact k
          · rw [show (fat3_1 p4 n1 s0 s1 s2 s3 s4 s5 s6 r0 r1 r2 r3 r4 r5 r6) = (0 : Int32) from if_neg h8] at k
            show Steps p.tables e below (s₁.setTop (mkF m 36 #[.val (.ref a1), .val (.ref a2), .val (.int (3 : Int32)), .val (.int p4), .val (.int (fat3_0 p4 n1 s0 s1 s2 s3 s4 s5 s6 r0 r1 r2 r3 r4 r5 r6))] [(.int (fat3_0 p4 n1 s0 s1 s2 s3 s4 s5 s6 r0 r1 r2 r3 r4 r5 r6)), (.int r3)])) _
            refine XS.ifYes X0.here hx rfl (pc0 := 36) (pc' := 43) rfl (hb hby d2_36) rfl ((if0 _ _).trans (feq h8).2) (by decide) (by decide) ?_
            show Steps p.tables e below (s₁.setTop (mkF m 43 #[.val (.ref a1), .val (.ref a2), .val (.int (3 : Int32)), .val (.int p4), .val (.int (fat3_0 p4 n1 s0 s1 s2 s3 s4 s5 s6 r0 r1 r2 r3 r4 r5 r6))] [(.int r3)])) _
            refine XS.iconst X0.here hx rfl (hb hby d2_43) ?_
            exact k
        have st11 : ∀ t, Steps p.tables e below (s₁.setTop (mkF m 52 #[.val (.ref a1), .val (.ref a2), .val (.int (3 : Int32)), .val (.int p4), .val (.int (fat3_0 p4 n1 s0 s1 s2 s3 s4 s5 s6 r0 r1 r2 r3 r4 r5 r6))] [(.int (fat3_2 p4 n1 s0 s1 s2 s3 s4 s5 s6 r0 r1 r2 r3 r4 r5 r6))])) t → Steps p.tables e below (s₁.setTop (mkF m 44 #[.val (.ref a1), .val (.ref a2), .val (.int (3 : Int32)), .val (.int p4), .val (.int (fat3_0 p4 n1 s0 s1 s2 s3 s4 s5 s6 r0 r1 r2 r3 r4 r5 r6))] [(.int (fat3_1 p4 n1 s0 s1 s2 s3 s4 s5 s6 r0 r1 r2 r3 r4 r5 r6)), (.int r3)])) t := by
          intro t k
          by_cases h10 : r3 = (fat3_1 p4 n1 s0 s1 s2 s3 s4 s5 s6 r0 r1 r2 r3 r4 r5 r6)
          · rw [show (fat3_2 p4 n1 s0 s1 s2 s3 s4 s5 s6 r0 r1 r2 r3 r4 r5 r6) = (1 : Int32) from if_pos h10] at k
            show Steps p.tables e below (s₁.setTop (mkF m 44 #[.val (.ref a1), .val (.ref a2), .val (.int (3 : Int32)), .val (.int p4), .val (.int (fat3_0 p4 n1 s0 s1 s2 s3 s4 s5 s6 r0 r1 r2 r3 r4 r5 r6))] [(.int (fat3_1 p4 n1 s0 s1 s2 s3 s4 s5 s6 r0 r1 r2 r3 r4 r5 r6)), (.int r3)])) _
            refine XS.icmpNo X0.here hx rfl (hb hby d2_44) rfl (teq h10).2 ?_
            show Steps p.tables e below (s₁.setTop (mkF m 47 #[.val (.ref a1), .val (.ref a2), .val (.int (3 : Int32)), .val (.int p4), .val (.int (fat3_0 p4 n1 s0 s1 s2 s3 s4 s5 s6 r0 r1 r2 r3 r4 r5 r6))] [])) _
            refine XS.iconst X0.here hx rfl (hb hby d2_47) ?_
            show Steps p.tables e below (s₁.setTop (mkF m 48 #[.val (.ref a1), .val (.ref a2), .val (.int (3 : Int32)), .val (.int p4), .val (.int (fat3_0 p4 n1 s0 s1 s2 s3 s4 s5 s6 r0 r1 r2 r3 r4 r5 r6))] [(.int (1 : Int32))])) _
            refine XS.goto X0.here hx rfl (pc0 := 48) (pc' := 52) rfl (hb hby d2_48) (by decide) (by decide) ?_
            exact k
          · rw [show (fat3_2 p4 n1 s0 s1 s2 s3 s4 s5 s6 r0 r1 r2 r3 r4 r5 r6) = (0 : Int32) from if_neg h10] at k
            show Steps p.tables e below (s₁.setTop (mkF m 44 #[.val (.ref a1), .val (.ref a2), .val (.int (3 : Int32)), .val (.int p4), .val (.int (fat3_0 p4 n1 s0 s1 s2 s3 s4 s5 s6 r0 r1 r2 r3 r4 r5 r6))] [(.int (fat3_1 p4 n1 s0 s1 s2 s3 s4 s5 s6 r0 r1 r2 r3 r4 r5 r6)), (.int r3)])) _
            refine XS.icmpYes X0.here hx rfl (pc0 := 44) (pc' := 51) rfl (hb hby d2_44) rfl (feq h10).2 (by decide) (by decide) ?_
            show Steps p.tables e below (s₁.setTop (mkF m 51 #[.val (.ref a1), .val (.ref a2), .val (.int (3 : Int32)), .val (.int p4), .val (.int (fat3_0 p4 n1 s0 s1 s2 s3 s4 s5 s6 r0 r1 r2 r3 r4 r5 r6))] [])) _
            refine XS.iconst X0.here hx rfl (hb hby d2_51) ?_
            exact k
        rw [show (fat3_3 p4 n1 s0 s1 s2 s3 s4 s5 s6 r0 r1 r2 r3 r4 r5 r6) = (fat3_2 p4 n1 s0 s1 s2 s3 s4 s5 s6 r0 r1 r2 r3 r4 r5 r6) from if_pos h6] at k
        show Steps p.tables e below (s₁.setTop (mkF m 28 #[.val (.ref a1), .val (.ref a2), .val (.int (3 : Int32)), .val (.int p4), .val (.int (fat3_0 p4 n1 s0 s1 s2 s3 s4 s5 s6 r0 r1 r2 r3 r4 r5 r6))] [(.int (fat3_0 p4 n1 s0 s1 s2 s3 s4 s5 s6 r0 r1 r2 r3 r4 r5 r6)), (.int s3)])) _
        refine XS.icmpNo X0.here hx rfl (hb hby d2_28) rfl (teq h6).2 ?_
        show Steps p.tables e below (s₁.setTop (mkF m 31 #[.val (.ref a1), .val (.ref a2), .val (.int (3 : Int32)), .val (.int p4), .val (.int (fat3_0 p4 n1 s0 s1 s2 s3 s4 s5 s6 r0 r1 r2 r3 r4 r5 r6))] [])) _
        refine XS.aloadN X0.here hx rfl (hb hby d2_31) rfl rfl ?_
        show Steps p.tables e below (s₁.setTop (mkF m 32 #[.val (.ref a1), .val (.ref a2), .val (.int (3 : Int32)), .val (.int p4), .val (.int (fat3_0 p4 n1 s0 s1 s2 s3 s4 s5 s6 r0 r1 r2 r3 r4 r5 r6))] [(.ref a2)])) _
        refine XS.iloadN X0.here hx rfl (hb hby d2_32) rfl ?_
        show Steps p.tables e below (s₁.setTop (mkF m 33 #[.val (.ref a1), .val (.ref a2), .val (.int (3 : Int32)), .val (.int p4), .val (.int (fat3_0 p4 n1 s0 s1 s2 s3 s4 s5 s6 r0 r1 r2 r3 r4 r5 r6))] [(.int (3 : Int32)), (.ref a2)])) _
        refine X0.baloadBooleans hx (j := (3 : Int32)) (v := (.int r3)) (by rw [e0]; exact Ar7.1) (State.isArrayOf_alike hZ.alike Ar7.2.1) Ar7.2.2 hin7 hat7 (g := (mkF m 33 #[.val (.ref a1), .val (.ref a2), .val (.int (3 : Int32)), .val (.int p4), .val (.int (fat3_0 p4 n1 s0 s1 s2 s3 s4 s5 s6 r0 r1 r2 r3 r4 r5 r6))] [(.int (3 : Int32)), (.ref a2)])) rfl rfl (hb hby d2_33) _ ?_
        show Steps p.tables e below (s₁.setTop (mkF m 34 #[.val (.ref a1), .val (.ref a2), .val (.int (3 : Int32)), .val (.int p4), .val (.int (fat3_0 p4 n1 s0 s1 s2 s3 s4 s5 s6 r0 r1 r2 r3 r4 r5 r6))] [(.int r3)])) _
        refine XS.iload X0.here hx rfl (hb hby d2_34) rfl ?_
        show Steps p.tables e below (s₁.setTop (mkF m 36 #[.val (.ref a1), .val (.ref a2), .val (.int (3 : Int32)), .val (.int p4), .val (.int (fat3_0 p4 n1 s0 s1 s2 s3 s4 s5 s6 r0 r1 r2 r3 r4 r5 r6))] [(.int (fat3_0 p4 n1 s0 s1 s2 s3 s4 s5 s6 r0 r1 r2 r3 r4 r5 r6)), (.int r3)])) _
        refine st9 _ ?_
        show Steps p.tables e below (s₁.setTop (mkF m 44 #[.val (.ref a1), .val (.ref a2), .val (.int (3 : Int32)), .val (.int p4), .val (.int (fat3_0 p4 n1 s0 s1 s2 s3 s4 s5 s6 r0 r1 r2 r3 r4 r5 r6))] [(.int (fat3_1 p4 n1 s0 s1 s2 s3 s4 s5 s6 r0 r1 r2 r3 r4 r5 r6)), (.int r3)])) _
        refine st11 _ ?_
        exact k
      · rw [show (fat3_3 p4 n1 s0 s1 s2 s3 s4 s5 s6 r0 r1 r2 r3 r4 r5 r6) = (0 : Int32) from if_neg h6] at k
        show Steps p.tables e below (s₁.setTop (mkF m 28 #[.val (.ref a1), .val (.ref a2), .val (.int (3 : Int32)), .val (.int p4), .val (.int (fat3_0 p4 n1 s0 s1 s2 s3 s4 s5 s6 r0 r1 r2 r3 r4 r5 r6))] [(.int (fat3_0 p4 n1 s0 s1 s2 s3 s4 s5 s6 r0 r1 r2 r3 r4 r5 r6)), (.int s3)])) _
        refine XS.icmpYes X0.here hx rfl (pc0 := 28) (pc' := 51) rfl (hb hby d2_28) rfl (feq h6).2 (by decide) (by decide) ?_
        show Steps p.tables e below (s₁.setTop (mkF m 51 #[.val (.ref a1), .val (.ref a2), .val (.int (3 : Int32)), .val (.int p4), .val (.int (fat3_0 p4 n1 s0 s1 s2 s3 s4 s5 s6 r0 r1 r2 r3 r4 r5 r6))] [])) _
        refine XS.iconst X0.here hx rfl (hb hby d2_51) ?_
        exact k
    obtain ⟨fs, hr, hrun, hended, hW, hsame⟩ := X0.leave (v := some (.int ((fat3_3 p4 n1 s0 s1 s2 s3 s4 s5 s6 r0 r1 r2 r3 r4 r5 r6) &&& 1))) (fun h => by rw [Bd.returns] at h; cases h)
    refine ⟨_, _, ?_, hrun, hended, _, _, rfl, ?_, ⟨_, rfl⟩, hW, hsame.mono (by decide) (by decide)⟩
    · show Steps p.tables e below (s₁.setTop (mkF m 3 #[.val (.ref a1), .val (.ref a2), .val (.int (3 : Int32)), .val (.int p4), .unset] [(.int n1), (.int (3 : Int32))])) _
      refine XS.icmpYes X0.here hx rfl (pc0 := 3) (pc' := 8) rfl (hb hby d2_3) rfl (tlt h2).1 (by decide) (by decide) ?_
      show Steps p.tables e below (s₁.setTop (mkF m 8 #[.val (.ref a1), .val (.ref a2), .val (.int (3 : Int32)), .val (.int p4), .unset] [])) _
      refine XS.iloadN X0.here hx rfl (hb hby d2_8) rfl ?_
      show Steps p.tables e below (s₁.setTop (mkF m 9 #[.val (.ref a1), .val (.ref a2), .val (.int (3 : Int32)), .val (.int p4), .unset] [(.int p4)])) _
      refine XS.iloadN X0.here hx rfl (hb hby d2_9) rfl ?_
      show Steps p.tables e below (s₁.setTop (mkF m 10 #[.val (.ref a1), .val (.ref a2), .val (.int (3 : Int32)), .val (.int p4), .unset] [(.int (3 : Int32)), (.int p4)])) _
      refine XT.iushr X0.here hx rfl (hb hby d2_10) rfl ?_
      show Steps p.tables e below (s₁.setTop (mkF m 11 #[.val (.ref a1), .val (.ref a2), .val (.int (3 : Int32)), .val (.int p4), .unset] [(.int (XT.ushr p4 (3 : Int32)))])) _
      refine XS.iconst X0.here hx rfl (hb hby d2_11) ?_
      show Steps p.tables e below (s₁.setTop (mkF m 12 #[.val (.ref a1), .val (.ref a2), .val (.int (3 : Int32)), .val (.int p4), .unset] [(.int (1 : Int32)), (.int (XT.ushr p4 (3 : Int32)))])) _
      refine XS.iand X0.here hx rfl (hb hby d2_12) rfl ?_
      show Steps p.tables e below (s₁.setTop (mkF m 13 #[.val (.ref a1), .val (.ref a2), .val (.int (3 : Int32)), .val (.int p4), .unset] [(.int ((XT.ushr p4 (3 : Int32)) &&& (1 : Int32)))])) _
      refine st4 _ ?_
      show Steps p.tables e below (s₁.setTop (mkF m 21 #[.val (.ref a1), .val (.ref a2), .val (.int (3 : Int32)), .val (.int p4), .unset] [(.int (fat3_0 p4 n1 s0 s1 s2 s3 s4 s5 s6 r0 r1 r2 r3 r4 r5 r6))])) _
      refine XS.istore X0.here hx rfl (hb hby d2_21) rfl (l' := #[.val (.ref a1), .val (.ref a2), .val (.int (3 : Int32)), .val (.int p4), .val (.int (fat3_0 p4 n1 s0 s1 s2 s3 s4 s5 s6 r0 r1 r2 r3 r4 r5 r6))]) rfl ?_
      show Steps p.tables e below (s₁.setTop (mkF m 23 #[.val (.ref a1), .val (.ref a2), .val (.int (3 : Int32)), .val (.int p4), .val (.int (fat3_0 p4 n1 s0 s1 s2 s3 s4 s5 s6 r0 r1 r2 r3 r4 r5 r6))] [])) _
      refine XS.aloadN X0.here hx rfl (hb hby d2_23) rfl rfl ?_
      show Steps p.tables e below (s₁.setTop (mkF m 24 #[.val (.ref a1), .val (.ref a2), .val (.int (3 : Int32)), .val (.int p4), .val (.int (fat3_0 p4 n1 s0 s1 s2 s3 s4 s5 s6 r0 r1 r2 r3 r4 r5 r6))] [(.ref a1)])) _
      refine XS.iloadN X0.here hx rfl (hb hby d2_24) rfl ?_
      show Steps p.tables e below (s₁.setTop (mkF m 25 #[.val (.ref a1), .val (.ref a2), .val (.int (3 : Int32)), .val (.int p4), .val (.int (fat3_0 p4 n1 s0 s1 s2 s3 s4 s5 s6 r0 r1 r2 r3 r4 r5 r6))] [(.int (3 : Int32)), (.ref a1)])) _
      refine X0.baloadBooleans hx (j := (3 : Int32)) (v := (.int s3)) (by rw [e0]; exact Ar5.1) (State.isArrayOf_alike hZ.alike Ar5.2.1) Ar5.2.2 hin5 hat5 (g := (mkF m 25 #[.val (.ref a1), .val (.ref a2), .val (.int (3 : Int32)), .val (.int p4), .val (.int (fat3_0 p4 n1 s0 s1 s2 s3 s4 s5 s6 r0 r1 r2 r3 r4 r5 r6))] [(.int (3 : Int32)), (.ref a1)])) rfl rfl (hb hby d2_25) _ ?_
      show Steps p.tables e below (s₁.setTop (mkF m 26 #[.val (.ref a1), .val (.ref a2), .val (.int (3 : Int32)), .val (.int p4), .val (.int (fat3_0 p4 n1 s0 s1 s2 s3 s4 s5 s6 r0 r1 r2 r3 r4 r5 r6))] [(.int s3)])) _
      refine XS.iload X0.here hx rfl (hb hby d2_26) rfl ?_
      show Steps p.tables e below (s₁.setTop (mkF m 28 #[.val (.ref a1), .val (.ref a2), .val (.int (3 : Int32)), .val (.int p4), .val (.int (fat3_0 p4 n1 s0 s1 s2 s3 s4 s5 s6 r0 r1 r2 r3 r4 r5 r6))] [(.int (fat3_0 p4 n1 s0 s1 s2 s3 s4 s5 s6 r0 r1 r2 r3 r4 r5 r6)), (.int s3)])) _
      refine st12 _ ?_
      show Steps p.tables e below (s₁.setTop (mkF m 52 #[.val (.ref a1), .val (.ref a2), .val (.int (3 : Int32)), .val (.int p4), .val (.int (fat3_0 p4 n1 s0 s1 s2 s3 s4 s5 s6 r0 r1 r2 r3 r4 r5 r6))] [(.int (fat3_3 p4 n1 s0 s1 s2 s3 s4 s5 s6 r0 r1 r2 r3 r4 r5 r6))])) _
      exact retN X0 hx (t := .boolean) Bd.returns (by simp) (hb hby d2_52) hr
    · show Qat3 Z a1 a2 p4 k1 n1 s0 s1 s2 s3 s4 s5 s6 k2 r0 r1 r2 r3 r4 r5 r6 h0 n0 _ s₁.heap _
      rw [e0]
      have hf : fat3 p4 n1 s0 s1 s2 s3 s4 s5 s6 r0 r1 r2 r3 r4 r5 r6 = ((fat3_3 p4 n1 s0 s1 s2 s3 s4 s5 s6 r0 r1 r2 r3 r4 r5 r6) &&& 1) := by simp only [fat3, if_pos h2]
      exact ⟨by rw [hf], N0, rfl⟩
  · obtain ⟨fs, hr, hrun, hended, hW, hsame⟩ := X0.leave (v := some (.int (1 : Int32))) (fun h => by rw [Bd.returns] at h; cases h)
    refine ⟨_, _, ?_, hrun, hended, _, _, rfl, ?_, ⟨_, rfl⟩, hW, hsame.mono (by decide) (by decide)⟩
    · show Steps p.tables e below (s₁.setTop (mkF m 3 #[.val (.ref a1), .val (.ref a2), .val (.int (3 : Int32)), .val (.int p4), .unset] [(.int n1), (.int (3 : Int32))])) _
      refine XS.icmpNo X0.here hx rfl (hb hby d2_3) rfl (flt h2).1 ?_
      show Steps p.tables e below (s₁.setTop (mkF m 6 #[.val (.ref a1), .val (.ref a2), .val (.int (3 : Int32)), .val (.int p4), .unset] [])) _
      refine XS.iconst X0.here hx rfl (hb hby d2_6) ?_
      show Steps p.tables e below (s₁.setTop (mkF m 7 #[.val (.ref a1), .val (.ref a2), .val (.int (3 : Int32)), .val (.int p4), .unset] [(.int (1 : Int32))])) _
      exact retN X0 hx (t := .boolean) Bd.returns (by simp) (hb hby d2_7) hr
    · show Qat3 Z a1 a2 p4 k1 n1 s0 s1 s2 s3 s4 s5 s6 k2 r0 r1 r2 r3 r4 r5 r6 h0 n0 _ s₁.heap _
      rw [e0]
      have hf : fat3 p4 n1 s0 s1 s2 s3 s4 s5 s6 r0 r1 r2 r3 r4 r5 r6 = (1 : Int32) := by simp only [fat3, if_neg h2]
      exact ⟨by rw [hf], N0, rfl⟩
theorem pn_at4 : plainName "com/example/bonn/bonn/FormulaComplementPinLaw" = true := by first | (simp [plainName, overriddenIn]; done) | decide +kernel
theorem ef_at4 (m : MethodId) (a1 : Addr) (a2 : Addr) (p4 : Int32) : entryFrame m #[(.ref a1), (.ref a2), (.int (4 : Int32)), (.int p4)] 5 = mkF m 0 #[.val (.ref a1), .val (.ref a2), .val (.int (4 : Int32)), .val (.int p4), .unset] [] := by first | (simp [entryFrame, mkF, argsToLocals, Value.category]; done) | rfl
def Qat4 (Z : State) (a1 : Addr) (a2 : Addr) (p4 : Int32) (k1 : ClassId) (n1 : Int32) (s0 : Int32) (s1 : Int32) (s2 : Int32) (s3 : Int32) (s4 : Int32) (s5 : Int32) (s6 : Int32) (k2 : ClassId) (r0 : Int32) (r1 : Int32) (r2 : Int32) (r3 : Int32) (r4 : Int32) (r5 : Int32) (r6 : Int32) (h0 : Heap) (n0 : Nat) (v : Option Value) (h : Heap) (L : List Loc) : Prop := v = some (.int (fat4 p4 n1 s0 s1 s2 s3 s4 s5 s6 r0 r1 r2 r3 r4 r5 r6)) ∧ Fr n0 L ∧ h = h0
set_option maxRecDepth 65536 in
set_option maxHeartbeats 40000000 in
theorem rmat4 (l : Launch) (Z : State) (a0 : Array Value) (hw : ∀ d ∈ tables_1, d.before a0 Z = true) (ws : List Jvm.Cond) (a1 : Addr) (a2 : Addr) (p4 : Int32) (k1 : ClassId) (n1 : Int32) (s0 : Int32) (s1 : Int32) (s2 : Int32) (s3 : Int32) (s4 : Int32) (s5 : Int32) (s6 : Int32) (k2 : ClassId) (r0 : Int32) (r1 : Int32) (r2 : Int32) (r3 : Int32) (r4 : Int32) (r5 : Int32) (r6 : Int32) (h0 : Heap) (n0 : Nat) (Z0 : n0 ≤ h0.size) (A_a1 : Arv Z h0 a1 k1 .boolean n1 [(.int s0), (.int s1), (.int s2), (.int s3), (.int s4), (.int s5), (.int s6)] (.int (0 : Int32))) (A_a2 : Arv Z h0 a2 k2 .boolean n1 [(.int r0), (.int r1), (.int r2), (.int r3), (.int r4), (.int r5), (.int r6)] (.int (0 : Int32))) :
    MetFree l (⟨"com/example/bonn/bonn/FormulaComplementPinLaw", "at", "([Z[ZII)Z"⟩ : MethodName) (head1 (Jvm.Cond.code (⟨"com/example/bonn/bonn/FormulaComplementPinLaw", "at", "([Z[ZII)Z"⟩ : MethodName) method_3_code 5 (some .boolean) :: ws) ({ frames := 0, cells := 0, slots := 0, locals := 0 } : Room)) (fun a U => a = #[(.ref a1), (.ref a2), (.int (4 : Int32)), (.int p4)] ∧ Z.Warmed39 U.vm ∧ U.heap = h0) (fun _ _ _ _ _ => True) (fun _ U o U' => ∃ v L, o = .returned v ∧ Qat4 Z a1 a2 p4 k1 n1 s0 s1 s2 s3 s4 s5 s6 k2 r0 r1 r2 r3 r4 r5 r6 h0 n0 v U'.heap L ∧ FrameEnd U o U' L ({ frames := 0, cells := 0, slots := 0, locals := 0 } : Room).cells ({ frames := 0, cells := 0, slots := 0, locals := 0 } : Room).slots) := by
  refine MetFree.of_bodySF (plainFor_of_name pn_at4) hisR ?_
  intro p e s m args below meth c s₁ Bd hml0 hP hK
  obtain ⟨rfl, hZ, hh⟩ := hP
  have hx := Bd.exec
  have hby := Bd.bytes
  have hml : c.maxLocals = 5 := hml0
  have hown : s.vm.findClass "com/example/bonn/bonn/FormulaComplementPinLaw" = some m.cls := findClass_of_methodNamed Bd.named
  have hnm := (name_of_methodNamed Bd.named Bd.method).1
  have X0 : Stand p l e ({ frames := 0, cells := 0, slots := 0, locals := 0 } : Room) s m #[(.ref a1), (.ref a2), (.int (4 : Int32)), (.int p4)] below meth c s₁ [] 0 0 := Stand.of_body Bd
  have e0 : s₁.heap = h0 := by rw [← hh, Bd.state]; rfl
  have N0 := Fr.nil n0
  have pre0 : ∀ t, Steps p.tables e below (s₁.setTop (mkF m 0 #[.val (.ref a1), .val (.ref a2), .val (.int (4 : Int32)), .val (.int p4), .unset] [])) t → Steps p.tables e below (s₁.setTop (entryFrame m #[(.ref a1), (.ref a2), (.int (4 : Int32)), (.int p4)] 5)) t := fun t k => castTop (ef_at4 m a1 a2 p4) k
  refine own_step (Q := fun o U' => ∃ v L, o = .returned v ∧ Qat4 Z a1 a2 p4 k1 n1 s0 s1 s2 s3 s4 s5 s6 k2 r0 r1 r2 r3 r4 r5 r6 h0 n0 v U'.heap L ∧ FrameEnd s o U' L ({ frames := 0, cells := 0, slots := 0, locals := 0 } : Room).cells ({ frames := 0, cells := 0, slots := 0, locals := 0 } : Room).slots) pre0 ?_
  obtain ⟨cl1, Ar1, -, S1, M1, -, -⟩ := id A_a1
  refine own_step (B := s₁.setTop (mkF m 3 #[.val (.ref a1), .val (.ref a2), .val (.int (4 : Int32)), .val (.int p4), .unset] [(.int n1), (.int (4 : Int32))])) (fun t k => ?_) ?_
  · show Steps p.tables e below (s₁.setTop (mkF m 0 #[.val (.ref a1), .val (.ref a2), .val (.int (4 : Int32)), .val (.int p4), .unset] [])) _
    refine XS.iloadN X0.here hx rfl (hb hby d2_0) rfl ?_
    show Steps p.tables e below (s₁.setTop (mkF m 1 #[.val (.ref a1), .val (.ref a2), .val (.int (4 : Int32)), .val (.int p4), .unset] [(.int (4 : Int32))])) _
    refine XS.aloadN X0.here hx rfl (hb hby d2_1) rfl rfl ?_
    show Steps p.tables e below (s₁.setTop (mkF m 2 #[.val (.ref a1), .val (.ref a2), .val (.int (4 : Int32)), .val (.int p4), .unset] [(.ref a1), (.int (4 : Int32))])) _
    refine X0.arraylength hx (by rw [e0]; exact Ar1.1) (State.isArrayOf_alike hZ.alike Ar1.2.1) (g := (mkF m 2 #[.val (.ref a1), .val (.ref a2), .val (.int (4 : Int32)), .val (.int p4), .unset] [(.ref a1), (.int (4 : Int32))])) rfl rfl (hb hby d2_2) _ ?_
    rw [len_of S1 M1]
    exact k
  by_cases h2 : (4 : Int32) < n1
  · have st4 : ∀ t, Steps p.tables e below (s₁.setTop (mkF m 21 #[.val (.ref a1), .val (.ref a2), .val (.int (4 : Int32)), .val (.int p4), .unset] [(.int (fat4_0 p4 n1 s0 s1 s2 s3 s4 s5 s6 r0 r1 r2 r3 r4 r5 r6))])) t → Steps p.tables e below (s₁.setTop (mkF m 13 #[.val (.ref a1), .val (.ref a2), .val (.int (4 : Int32)), .val (.int p4), .unset] [(.int ((XT.ushr p4 (4 : Int32)) &&& (1 : Int32)))])) t := by
      intro t k
      by_cases h3 : ((XT.ushr p4 (4 : Int32)) &&& (1 : Int32)) = (0 : Int32)
      · rw [show (fat4_0 p4 n1 s0 s1 s2 s3 s4 s5 s6 r0 r1 r2 r3 r4 r5 r6) = (0 : Int32) from if_pos h3] at k
        show Steps p.tables e below (s₁.setTop (mkF m 13 #[.val (.ref a1), .val (.ref a2), .val (.int (4 : Int32)), .val (.int p4), .unset] [(.int ((XT.ushr p4 (4 : Int32)) &&& (1 : Int32)))])) _
        refine XS.ifYes X0.here hx rfl (pc0 := 13) (pc' := 20) rfl (hb hby d2_13) rfl ((if0 _ _).trans (teq h3).1) (by decide) (by decide) ?_
        show Steps p.tables e below (s₁.setTop (mkF m 20 #[.val (.ref a1), .val (.ref a2), .val (.int (4 : Int32)), .val (.int p4), .unset] [])) _
        refine XS.iconst X0.here hx rfl (hb hby d2_20) ?_
        exact k
      · rw [show (fat4_0 p4 n1 s0 s1 s2 s3 s4 s5 s6 r0 r1 r2 r3 r4 r5 r6) = (1 : Int32) from if_neg h3] at k
        show Steps p.tables e below (s₁.setTop (mkF m 13 #[.val (.ref a1), .val (.ref a2), .val (.int (4 : Int32)), .val (.int p4), .unset] [(.int ((XT.ushr p4 (4 : Int32)) &&& (1 : Int32)))])) _
        refine XS.ifNo X0.here hx rfl (hb hby d2_13) rfl ((if0 _ _).trans (feq h3).1) ?_
        show Steps p.tables e below (s₁.setTop (mkF m 16 #[.val (.ref a1), .val (.ref a2), .val (.int (4 : Int32)), .val (.int p4), .unset] [])) _
        refine XS.iconst X0.here hx rfl (hb hby d2_16) ?_
        show Steps p.tables e below (s₁.setTop (mkF m 17 #[.val (.ref a1), .val (.ref a2), .val (.int (4 : Int32)), .val (.int p4), .unset] [(.int (1 : Int32))])) _
        refine XS.goto X0.here hx rfl (pc0 := 17) (pc' := 21) rfl (hb hby d2_17) (by decide) (by decide) ?_
        exact k
    obtain ⟨cl5, Ar5, -, S5, M5, H5, -⟩ := id A_a1
    have hin5 := inb_of (j := (4 : Int32)) S5 ⟨by decide, h2⟩
    have hat5 := H5.at hin5 (v := (.int s4)) (rfl)
    have st12 : ∀ t, Steps p.tables e below (s₁.setTop (mkF m 52 #[.val (.ref a1), .val (.ref a2), .val (.int (4 : Int32)), .val (.int p4), .val (.int (fat4_0 p4 n1 s0 s1 s2 s3 s4 s5 s6 r0 r1 r2 r3 r4 r5 r6))] [(.int (fat4_3 p4 n1 s0 s1 s2 s3 s4 s5 s6 r0 r1 r2 r3 r4 r5 r6))])) t → Steps p.tables e below (s₁.setTop (mkF m 28 #[.val (.ref a1), .val (.ref a2), .val (.int (4 : Int32)), .val (.int p4), .val (.int (fat4_0 p4 n1 s0 s1 s2 s3 s4 s5 s6 r0 r1 r2 r3 r4 r5 r6))] [(.int (fat4_0 p4 n1 s0 s1 s2 s3 s4 s5 s6 r0 r1 r2 r3 r4 r5 r6)), (.int s4)])) t := by
      intro t k
      by_cases h6 : s4 = (fat4_0 p4 n1 s0 s1 s2 s3 s4 s5 s6 r0 r1 r2 r3 r4 r5 r6)
      · obtain ⟨cl7, Ar7, -, S7, M7, H7, -⟩ := id A_a2
        have hin7 := inb_of (j := (4 : Int32)) S7 ⟨by decide, h2⟩
        have hat7 := H7.at hin7 (v := (.int r4)) (rfl)
        have st9 : ∀ t, Steps p.tables e below (s₁.setTop (mkF m 44 #[.val (.ref a1), .val (.ref a2), .val (.int (4 : Int32)), .val (.int p4), .val (.int (fat4_0 p4 n1 s0 s1 s2 s3 s4 s5 s6 r0 r1 r2 r3 r4 r5 r6))] [(.int (fat4_1 p4 n1 s0 s1 s2 s3 s4 s5 s6 r0 r1 r2 r3 r4 r5 r6)), (.int r4)])) t → Steps p.tables e below (s₁.setTop (mkF m 36 #[.val (.ref a1), .val (.ref a2), .val (.int (4 : Int32)), .val (.int p4), .val (.int (fat4_0 p4 n1 s0 s1 s2 s3 s4 s5 s6 r0 r1 r2 r3 r4 r5 r6))] [(.int (fat4_0 p4 n1 s0 s1 s2 s3 s4 s5 s6 r0 r1 r2 r3 r4 r5 r6)), (.int r4)])) t := by
          intro t k
          by_cases h8 : (fat4_0 p4 n1 s0 s1 s2 s3 s4 s5 s6 r0 r1 r2 r3 r4 r5 r6) = (0 : Int32)
          · rw [show (fat4_1 p4 n1 s0 s1 s2 s3 s4 s5 s6 r0 r1 r2 r3 r4 r5 r6) = (1 : Int32) from if_pos h8] at k
            show Steps p.tables e below (s₁.setTop (mkF m 36 #[.val (.ref a1), .val (.ref a2), .val (.int (4 : Int32)), .val (.int p4), .val (.int (fat4_0 p4 n1 s0 s1 s2 s3 s4 s5 s6 r0 r1 r2 r3 r4 r5 r6))] [(.int (fat4_0 p4 n1 s0 s1 s2 s3 s4 s5 s6 r0 r1 r2 r3 r4 r5 r6)), (.int r4)])) _
            refine XS.ifNo X0.here hx rfl (hb hby d2_36) rfl ((if0 _ _).trans (teq h8).2) ?_
            show Steps p.tables e below (s₁.setTop (mkF m 39 #[.val (.ref a1), .val (.ref a2), .val (.int (4 : Int32)), .val (.int p4), .val (.int (fat4_0 p4 n1 s0 s1 s2 s3 s4 s5 s6 r0 r1 r2 r3 r4 r5 r6))] [(.int r4)])) _
            refine XS.iconst X0.here hx rfl (hb hby d2_39) ?_
            show Steps p.tables e below (s₁.setTop (mkF m 40 #[.val (.ref a1), .val (.ref a2), .val (.int (4 : Int32)), .val (.int p4), .val (.int (fat4_0 p4 n1 s0 s1 s2 s3 s4 s5 s6 r0 r1 r2 r3 r4 r5 r6))] [(.int (1 : Int32)), (.int r4)])) _
            refine XS.goto X0.here hx rfl (pc0 := 40) (pc' := 44) rfl (hb hby d2_40) (by decide) (by decide) ?_
            exact k
          · rw [show (fat4_1 p4 n1 s0 s1 s2 s3 s4 s5 s6 r0 r1 r2 r3 r4 r5 r6) = (0 : Int32) from if_neg h8] at k
            show Steps p.tables e below (s₁.setTop (mkF m 36 #[.val (.ref a1), .val (.ref a2), .val (.int (4 : Int32)), .val (.int p4), .val (.int (fat4_0 p4 n1 s0 s1 s2 s3 s4 s5 s6 r0 r1 r2 r3 r4 r5 r6))] [(.int (fat4_0 p4 n1 s0 s1 s2 s3 s4 s5 s6 r0 r1 r2 r3 r4 r5 r6)), (.int r4)])) _
            refine XS.ifYes X0.here hx rfl (pc0 := 36) (pc' := 43) rfl (hb hby d2_36) rfl ((if0 _ _).trans (feq h8).2) (by decide) (by decide) ?_
            show Steps p.tables e below (s₁.setTop (mkF m 43 #[.val (.ref a1), .val (.ref a2), .val (.int (4 : Int32)), .val (.int p4), .val (.int (fat4_0 p4 n1 s0 s1 s2 s3 s4 s5 s6 r0 r1 r2 r3 r4 r5 r6))] [(.int r4)])) _
            refine XS.iconst X0.here hx rfl (hb hby d2_43) ?_
            exact k
        have st11 : ∀ t, Steps p.tables e below (s₁.setTop (mkF m 52 #[.val (.ref a1), .val (.ref a2), .val (.int (4 : Int32)), .val (.int p4), .val (.int (fat4_0 p4 n1 s0 s1 s2 s3 s4 s5 s6 r0 r1 r2 r3 r4 r5 r6))] [(.int (fat4_2 p4 n1 s0 s1 s2 s3 s4 s5 s6 r0 r1 r2 r3 r4 r5 r6))])) t → Steps p.tables e below (s₁.setTop (mkF m 44 #[.val (.ref a1), .val (.ref a2), .val (.int (4 : Int32)), .val (.int p4), .val (.int (fat4_0 p4 n1 s0 s1 s2 s3 s4 s5 s6 r0 r1 r2 r3 r4 r5 r6))] [(.int (fat4_1 p4 n1 s0 s1 s2 s3 s4 s5 s6 r0 r1 r2 r3 r4 r5 r6)), (.int r4)])) t := by
          intro t k
          by_cases h10 : r4 = (fat4_1 p4 n1 s0 s1 s2 s3 s4 s5 s6 r0 r1 r2 r3 r4 r5 r6)
          · rw [show (fat4_2 p4 n1 s0 s1 s2 s3 s4 s5 s6 r0 r1 r2 r3 r4 r5 r6) = (1 : Int32) from if_pos h10] at k
            show Steps p.tables e below (s₁.setTop (mkF m 44 #[.val (.ref a1), .val (.ref a2), .val (.int (4 : Int32)), .val (.int p4), .val (.int (fat4_0 p4 n1 s0 s1 s2 s3 s4 s5 s6 r0 r1 r2 r3 r4 r5 r6))] [(.int (fat4_1 p4 n1 s0 s1 s2 s3 s4 s5 s6 r0 r1 r2 r3 r4 r5 r6)), (.int r4)])) _
            refine XS.icmpNo X0.here hx rfl (hb hby d2_44) rfl (teq h10).2 ?_
            show Steps p.tables e below (s₁.setTop (mkF m 47 #[.val (.ref a1), .val (.ref a2), .val (.int (4 : Int32)), .val (.int p4), .val (.int (fat4_0 p4 n1 s0 s1 s2 s3 s4 s5 s6 r0 r1 r2 r3 r4 r5 r6))] [])) _
            refine XS.iconst X0.here hx rfl (hb hby d2_47) ?_
            show Steps p.tables e below (s₁.setTop (mkF m 48 #[.val (.ref a1), .val (.ref a2), .val (.int (4 : Int32)), .val (.int p4), .val (.int (fat4_0 p4 n1 s0 s1 s2 s3 s4 s5 s6 r0 r1 r2 r3 r4 r5 r6))] [(.int (1 : Int32))])) _
            refine XS.goto X0.here hx rfl (pc0 := 48) (pc' := 52) rfl (hb hby d2_48) (by decide) (by decide) ?_
            exact k
          · rw [show (fat4_2 p4 n1 s0 s1 s2 s3 s4 s5 s6 r0 r1 r2 r3 r4 r5 r6) = (0 : Int32) from if_neg h10] at k
            show Steps p.tables e below (s₁.setTop (mkF m 44 #[.val (.ref a1), .val (.ref a2), .val (.int (4 : Int32)), .val (.int p4), .val (.int (fat4_0 p4 n1 s0 s1 s2 s3 s4 s5 s6 r0 r1 r2 r3 r4 r5 r6))] [(.int (fat4_1 p4 n1 s0 s1 s2 s3 s4 s5 s6 r0 r1 r2 r3 r4 r5 r6)), (.int r4)])) _
            refine XS.icmpYes X0.here hx rfl (pc0 := 44) (pc' := 51) rfl (hb hby d2_44) rfl (feq h10).2 (by decide) (by decide) ?_
            show Steps p.tables e below (s₁.setTop (mkF m 51 #[.val (.ref a1), .val (.ref a2), .val (.int (4 : Int32)), .val (.int p4), .val (.int (fat4_0 p4 n1 s0 s1 s2 s3 s4 s5 s6 r0 r1 r2 r3 r4 r5 r6))] [])) _
            refine XS.iconst X0.here hx rfl (hb hby d2_51) ?_
            exact k
        rw [show (fat4_3 p4 n1 s0 s1 s2 s3 s4 s5 s6 r0 r1 r2 r3 r4 r5 r6) = (fat4_2 p4 n1 s0 s1 s2 s3 s4 s5 s6 r0 r1 r2 r3 r4 r5 r6) from if_pos h6] at k
        show Steps p.tables e below (s₁.setTop (mkF m 28 #[.val (.ref a1), .val (.ref a2), .val (.int (4 : Int32)), .val (.int p4), .val (.int (fat4_0 p4 n1 s0 s1 s2 s3 s4 s5 s6 r0 r1 r2 r3 r4 r5 r6))] [(.int (fat4_0 p4 n1 s0 s1 s2 s3 s4 s5 s6 r0 r1 r2 r3 r4 r5 r6)), (.int s4)])) _
        refine XS.icmpNo X0.here hx rfl (hb hby d2_28) rfl (teq h6).2 ?_
        show Steps p.tables e below (s₁.setTop (mkF m 31 #[.val (.ref a1), .val (.ref a2), .val (.int (4 : Int32)), .val (.int p4), .val (.int (fat4_0 p4 n1 s0 s1 s2 s3 s4 s5 s6 r0 r1 r2 r3 r4 r5 r6))] [])) _
        refine XS.aloadN X0.here hx rfl (hb hby d2_31) rfl rfl ?_
        show Steps p.tables e below (s₁.setTop (mkF m 32 #[.val (.ref a1), .val (.ref a2), .val (.int (4 : Int32)), .val (.int p4), .val (.int (fat4_0 p4 n1 s0 s1 s2 s3 s4 s5 s6 r0 r1 r2 r3 r4 r5 r6))] [(.ref a2)])) _
        refine XS.iloadN X0.here hx rfl (hb hby d2_32) rfl ?_
        show Steps p.tables e below (s₁.setTop (mkF m 33 #[.val (.ref a1), .val (.ref a2), .val (.int (4 : Int32)), .val (.int p4), .val (.int (fat4_0 p4 n1 s0 s1 s2 s3 s4 s5 s6 r0 r1 r2 r3 r4 r5 r6))] [(.int (4 : Int32)), (.ref a2)])) _
        refine X0.baloadBooleans hx (j := (4 : Int32)) (v := (.int r4)) (by rw [e0]; exact Ar7.1) (State.isArrayOf_alike hZ.alike Ar7.2.1) Ar7.2.2 hin7 hat7 (g := (mkF m 33 #[.val (.ref a1), .val (.ref a2), .val (.int (4 : Int32)), .val (.int p4), .val (.int (fat4_0 p4 n1 s0 s1 s2 s3 s4 s5 s6 r0 r1 r2 r3 r4 r5 r6))] [(.int (4 : Int32)), (.ref a2)])) rfl rfl (hb hby d2_33) _ ?_
        show Steps p.tables e below (s₁.setTop (mkF m 34 #[.val (.ref a1), .val (.ref a2), .val (.int (4 : Int32)), .val (.int p4), .val (.int (fat4_0 p4 n1 s0 s1 s2 s3 s4 s5 s6 r0 r1 r2 r3 r4 r5 r6))] [(.int r4)])) _
        refine XS.iload X0.here hx rfl (hb hby d2_34) rfl ?_
        show Steps p.tables e below (s₁.setTop (mkF m 36 #[.val (.ref a1), .val (.ref a2), .val (.int (4 : Int32)), .val (.int p4), .val (.int (fat4_0 p4 n1 s0 s1 s2 s3 s4 s5 s6 r0 r1 r2 r3 r4 r5 r6))] [(.int (fat4_0 p4 n1 s0 s1 s2 s3 s4 s5 s6 r0 r1 r2 r3 r4 r5 r6)), (.int r4)])) _
        refine st9 _ ?_
        show Steps p.tables e below (s₁.setTop (mkF m 44 #[.val (.ref a1), .val (.ref a2), .val (.int (4 : Int32)), .val (.int p4), .val (.int (fat4_0 p4 n1 s0 s1 s2 s3 s4 s5 s6 r0 r1 r2 r3 r4 r5 r6))] [(.int (fat4_1 p4 n1 s0 s1 s2 s3 s4 s5 s6 r0 r1 r2 r3 r4 r5 r6)), (.int r4)])) _
        refine st11 _ ?_
        exact k
      · rw [show (fat4_3 p4 n1 s0 s1 s2 s3 s4 s5 s6 r0 r1 r2 r3 r4 r5 r6) = (0 : Int32) from if_neg h6] at k
        show Steps p.tables e below (s₁.setTop (mkF m 28 #[.val (.ref a1), .val (.ref a2), .val (.int (4 : Int32)), .val (.int p4), .val (.int (fat4_0 p4 n1 s0 s1 s2 s3 s4 s5 s6 r0 r1 r2 r3 r4 r5 r6))] [(.int (fat4_0 p4 n1 s0 s1 s2 s3 s4 s5 s6 r0 r1 r2 r3 r4 r5 r6)), (.int s4)])) _
        refine XS.icmpYes X0.here hx rfl (pc0 := 28) (pc' := 51) rfl (hb hby d2_28) rfl (feq h6).2 (by decide) (by decide) ?_
        show Steps p.tables e below (s₁.setTop (mkF m 51 #[.val (.ref a1), .val (.ref a2), .val (.int (4 : Int32)), .val (.int p4), .val (.int (fat4_0 p4 n1 s0 s1 s2 s3 s4 s5 s6 r0 r1 r2 r3 r4 r5 r6))] [])) _
        refine XS.iconst X0.here hx rfl (hb hby d2_51) ?_
        exact k
    obtain ⟨fs, hr, hrun, hended, hW, hsame⟩ := X0.leave (v := some (.int ((fat4_3 p4 n1 s0 s1 s2 s3 s4 s5 s6 r0 r1 r2 r3 r4 r5 r6) &&& 1))) (fun h => by rw [Bd.returns] at h; cases h)
    refine ⟨_, _, ?_, hrun, hended, _, _, rfl, ?_, ⟨_, rfl⟩, hW, hsame.mono (by decide) (by decide)⟩
    · show Steps p.tables e below (s₁.setTop (mkF m 3 #[.val (.ref a1), .val (.ref a2), .val (.int (4 : Int32)), .val (.int p4), .unset] [(.int n1), (.int (4 : Int32))])) _
      refine XS.icmpYes X0.here hx rfl (pc0 := 3) (pc' := 8) rfl (hb hby d2_3) rfl (tlt h2).1 (by decide) (by decide) ?_
      show Steps p.tables e below (s₁.setTop (mkF m 8 #[.val (.ref a1), .val (.ref a2), .val (.int (4 : Int32)), .val (.int p4), .unset] [])) _
      refine XS.iloadN X0.here hx rfl (hb hby d2_8) rfl ?_
      show Steps p.tables e below (s₁.setTop (mkF m 9 #[.val (.ref a1), .val (.ref a2), .val (.int (4 : Int32)), .val (.int p4), .unset] [(.int p4)])) _
      refine XS.iloadN X0.here hx rfl (hb hby d2_9) rfl ?_
      show Steps p.tables e below (s₁.setTop (mkF m 10 #[.val (.ref a1), .val (.ref a2), .val (.int (4 : Int32)), .val (.int p4), .unset] [(.int (4 : Int32)), (.int p4)])) _
      refine XT.iushr X0.here hx rfl (hb hby d2_10) rfl ?_
      show Steps p.tables e below (s₁.setTop (mkF m 11 #[.val (.ref a1), .val (.ref a2), .val (.int (4 : Int32)), .val (.int p4), .unset] [(.int (XT.ushr p4 (4 : Int32)))])) _
      refine XS.iconst X0.here hx rfl (hb hby d2_11) ?_
      show Steps p.tables e below (s₁.setTop (mkF m 12 #[.val (.ref a1), .val (.ref a2), .val (.int (4 : Int32)), .val (.int p4), .unset] [(.int (1 : Int32)), (.int (XT.ushr p4 (4 : Int32)))])) _
      refine XS.iand X0.here hx rfl (hb hby d2_12) rfl ?_
      show Steps p.tables e below (s₁.setTop (mkF m 13 #[.val (.ref a1), .val (.ref a2), .val (.int (4 : Int32)), .val (.int p4), .unset] [(.int ((XT.ushr p4 (4 : Int32)) &&& (1 : Int32)))])) _
      refine st4 _ ?_
      show Steps p.tables e below (s₁.setTop (mkF m 21 #[.val (.ref a1), .val (.ref a2), .val (.int (4 : Int32)), .val (.int p4), .unset] [(.int (fat4_0 p4 n1 s0 s1 s2 s3 s4 s5 s6 r0 r1 r2 r3 r4 r5 r6))])) _
      refine XS.istore X0.here hx rfl (hb hby d2_21) rfl (l' := #[.val (.ref a1), .val (.ref a2), .val (.int (4 : Int32)), .val (.int p4), .val (.int (fat4_0 p4 n1 s0 s1 s2 s3 s4 s5 s6 r0 r1 r2 r3 r4 r5 r6))]) rfl ?_
      show Steps p.tables e below (s₁.setTop (mkF m 23 #[.val (.ref a1), .val (.ref a2), .val (.int (4 : Int32)), .val (.int p4), .val (.int (fat4_0 p4 n1 s0 s1 s2 s3 s4 s5 s6 r0 r1 r2 r3 r4 r5 r6))] [])) _
      refine XS.aloadN X0.here hx rfl (hb hby d2_23) rfl rfl ?_
      show Steps p.tables e below (s₁.setTop (mkF m 24 #[.val (.ref a1), .val (.ref a2), .val (.int (4 : Int32)), .val (.int p4), .val (.int (fat4_0 p4 n1 s0 s1 s2 s3 s4 s5 s6 r0 r1 r2 r3 r4 r5 r6))] [(.ref a1)])) _
      refine XS.iloadN X0.here hx rfl (hb hby d2_24) rfl ?_
      show Steps p.tables e below (s₁.setTop (mkF m 25 #[.val (.ref a1), .val (.ref a2), .val (.int (4 : Int32)), .val (.int p4), .val (.int (fat4_0 p4 n1 s0 s1 s2 s3 s4 s5 s6 r0 r1 r2 r3 r4 r5 r6))] [(.int (4 : Int32)), (.ref a1)])) _
      refine X0.baloadBooleans hx (j := (4 : Int32)) (v := (.int s4)) (by rw [e0]; exact Ar5.1) (State.isArrayOf_alike hZ.alike Ar5.2.1) Ar5.2.2 hin5 hat5 (g := (mkF m 25 #[.val (.ref a1), .val (.ref a2), .val (.int (4 : Int32)), .val (.int p4), .val (.int (fat4_0 p4 n1 s0 s1 s2 s3 s4 s5 s6 r0 r1 r2 r3 r4 r5 r6))] [(.int (4 : Int32)), (.ref a1)])) rfl rfl (hb hby d2_25) _ ?_
      show Steps p.tables e below (s₁.setTop (mkF m 26 #[.val (.ref a1), .val (.ref a2), .val (.int (4 : Int32)), .val (.int p4), .val (.int (fat4_0 p4 n1 s0 s1 s2 s3 s4 s5 s6 r0 r1 r2 r3 r4 r5 r6))] [(.int s4)])) _
      refine XS.iload X0.here hx rfl (hb hby d2_26) rfl ?_
      show Steps p.tables e below (s₁.setTop (mkF m 28 #[.val (.ref a1), .val (.ref a2), .val (.int (4 : Int32)), .val (.int p4), .val (.int (fat4_0 p4 n1 s0 s1 s2 s3 s4 s5 s6 r0 r1 r2 r3 r4 r5 r6))] [(.int (fat4_0 p4 n1 s0 s1 s2 s3 s4 s5 s6 r0 r1 r2 r3 r4 r5 r6)), (.int s4)])) _
      refine st12 _ ?_
      show Steps p.tables e below (s₁.setTop (mkF m 52 #[.val (.ref a1), .val (.ref a2), .val (.int (4 : Int32)), .val (.int p4), .val (.int (fat4_0 p4 n1 s0 s1 s2 s3 s4 s5 s6 r0 r1 r2 r3 r4 r5 r6))] [(.int (fat4_3 p4 n1 s0 s1 s2 s3 s4 s5 s6 r0 r1 r2 r3 r4 r5 r6))])) _
      exact retN X0 hx (t := .boolean) Bd.returns (by simp) (hb hby d2_52) hr
    · show Qat4 Z a1 a2 p4 k1 n1 s0 s1 s2 s3 s4 s5 s6 k2 r0 r1 r2 r3 r4 r5 r6 h0 n0 _ s₁.heap _
      rw [e0]
      have hf : fat4 p4 n1 s0 s1 s2 s3 s4 s5 s6 r0 r1 r2 r3 r4 r5 r6 = ((fat4_3 p4 n1 s0 s1 s2 s3 s4 s5 s6 r0 r1 r2 r3 r4 r5 r6) &&& 1) := by simp only [fat4, if_pos h2]
      exact ⟨by rw [hf], N0, rfl⟩
  · obtain ⟨fs, hr, hrun, hended, hW, hsame⟩ := X0.leave (v := some (.int (1 : Int32))) (fun h => by rw [Bd.returns] at h; cases h)
    refine ⟨_, _, ?_, hrun, hended, _, _, rfl, ?_, ⟨_, rfl⟩, hW, hsame.mono (by decide) (by decide)⟩
    · show Steps p.tables e below (s₁.setTop (mkF m 3 #[.val (.ref a1), .val (.ref a2), .val (.int (4 : Int32)), .val (.int p4), .unset] [(.int n1), (.int (4 : Int32))])) _
      refine XS.icmpNo X0.here hx rfl (hb hby d2_3) rfl (flt h2).1 ?_
      show Steps p.tables e below (s₁.setTop (mkF m 6 #[.val (.ref a1), .val (.ref a2), .val (.int (4 : Int32)), .val (.int p4), .unset] [])) _
      refine XS.iconst X0.here hx rfl (hb hby d2_6) ?_
      show Steps p.tables e below (s₁.setTop (mkF m 7 #[.val (.ref a1), .val (.ref a2), .val (.int (4 : Int32)), .val (.int p4), .unset] [(.int (1 : Int32))])) _
      exact retN X0 hx (t := .boolean) Bd.returns (by simp) (hb hby d2_7) hr
    · show Qat4 Z a1 a2 p4 k1 n1 s0 s1 s2 s3 s4 s5 s6 k2 r0 r1 r2 r3 r4 r5 r6 h0 n0 _ s₁.heap _
      rw [e0]
      have hf : fat4 p4 n1 s0 s1 s2 s3 s4 s5 s6 r0 r1 r2 r3 r4 r5 r6 = (1 : Int32) := by simp only [fat4, if_neg h2]
      exact ⟨by rw [hf], N0, rfl⟩
theorem pn_at5 : plainName "com/example/bonn/bonn/FormulaComplementPinLaw" = true := by first | (simp [plainName, overriddenIn]; done) | decide +kernel
theorem ef_at5 (m : MethodId) (a1 : Addr) (a2 : Addr) (p4 : Int32) : entryFrame m #[(.ref a1), (.ref a2), (.int (5 : Int32)), (.int p4)] 5 = mkF m 0 #[.val (.ref a1), .val (.ref a2), .val (.int (5 : Int32)), .val (.int p4), .unset] [] := by first | (simp [entryFrame, mkF, argsToLocals, Value.category]; done) | rfl
def Qat5 (Z : State) (a1 : Addr) (a2 : Addr) (p4 : Int32) (k1 : ClassId) (n1 : Int32) (s0 : Int32) (s1 : Int32) (s2 : Int32) (s3 : Int32) (s4 : Int32) (s5 : Int32) (s6 : Int32) (k2 : ClassId) (r0 : Int32) (r1 : Int32) (r2 : Int32) (r3 : Int32) (r4 : Int32) (r5 : Int32) (r6 : Int32) (h0 : Heap) (n0 : Nat) (v : Option Value) (h : Heap) (L : List Loc) : Prop := v = some (.int (fat5 p4 n1 s0 s1 s2 s3 s4 s5 s6 r0 r1 r2 r3 r4 r5 r6)) ∧ Fr n0 L ∧ h = h0
set_option maxRecDepth 65536 in
set_option maxHeartbeats 40000000 in
theorem rmat5 (l : Launch) (Z : State) (a0 : Array Value) (hw : ∀ d ∈ tables_1, d.before a0 Z = true) (ws : List Jvm.Cond) (a1 : Addr) (a2 : Addr) (p4 : Int32) (k1 : ClassId) (n1 : Int32) (s0 : Int32) (s1 : Int32) (s2 : Int32) (s3 : Int32) (s4 : Int32) (s5 : Int32) (s6 : Int32) (k2 : ClassId) (r0 : Int32) (r1 : Int32) (r2 : Int32) (r3 : Int32) (r4 : Int32) (r5 : Int32) (r6 : Int32) (h0 : Heap) (n0 : Nat) (Z0 : n0 ≤ h0.size) (A_a1 : Arv Z h0 a1 k1 .boolean n1 [(.int s0), (.int s1), (.int s2), (.int s3), (.int s4), (.int s5), (.int s6)] (.int (0 : Int32))) (A_a2 : Arv Z h0 a2 k2 .boolean n1 [(.int r0), (.int r1), (.int r2), (.int r3), (.int r4), (.int r5), (.int r6)] (.int (0 : Int32))) :
    MetFree l (⟨"com/example/bonn/bonn/FormulaComplementPinLaw", "at", "([Z[ZII)Z"⟩ : MethodName) (head1 (Jvm.Cond.code (⟨"com/example/bonn/bonn/FormulaComplementPinLaw", "at", "([Z[ZII)Z"⟩ : MethodName) method_3_code 5 (some .boolean) :: ws) ({ frames := 0, cells := 0, slots := 0, locals := 0 } : Room)) (fun a U => a = #[(.ref a1), (.ref a2), (.int (5 : Int32)), (.int p4)] ∧ Z.Warmed39 U.vm ∧ U.heap = h0) (fun _ _ _ _ _ => True) (fun _ U o U' => ∃ v L, o = .returned v ∧ Qat5 Z a1 a2 p4 k1 n1 s0 s1 s2 s3 s4 s5 s6 k2 r0 r1 r2 r3 r4 r5 r6 h0 n0 v U'.heap L ∧ FrameEnd U o U' L ({ frames := 0, cells := 0, slots := 0, locals := 0 } : Room).cells ({ frames := 0, cells := 0, slots := 0, locals := 0 } : Room).slots) := by
  refine MetFree.of_bodySF (plainFor_of_name pn_at5) hisR ?_
  intro p e s m args below meth c s₁ Bd hml0 hP hK
  obtain ⟨rfl, hZ, hh⟩ := hP
  have hx := Bd.exec
  have hby := Bd.bytes
  have hml : c.maxLocals = 5 := hml0
  have hown : s.vm.findClass "com/example/bonn/bonn/FormulaComplementPinLaw" = some m.cls := findClass_of_methodNamed Bd.named
  have hnm := (name_of_methodNamed Bd.named Bd.method).1
  have X0 : Stand p l e ({ frames := 0, cells := 0, slots := 0, locals := 0 } : Room) s m #[(.ref a1), (.ref a2), (.int (5 : Int32)), (.int p4)] below meth c s₁ [] 0 0 := Stand.of_body Bd
  have e0 : s₁.heap = h0 := by rw [← hh, Bd.state]; rfl
  have N0 := Fr.nil n0
  have pre0 : ∀ t, Steps p.tables e below (s₁.setTop (mkF m 0 #[.val (.ref a1), .val (.ref a2), .val (.int (5 : Int32)), .val (.int p4), .unset] [])) t → Steps p.tables e below (s₁.setTop (entryFrame m #[(.ref a1), (.ref a2), (.int (5 : Int32)), (.int p4)] 5)) t := fun t k => castTop (ef_at5 m a1 a2 p4) k
  refine own_step (Q := fun o U' => ∃ v L, o = .returned v ∧ Qat5 Z a1 a2 p4 k1 n1 s0 s1 s2 s3 s4 s5 s6 k2 r0 r1 r2 r3 r4 r5 r6 h0 n0 v U'.heap L ∧ FrameEnd s o U' L ({ frames := 0, cells := 0, slots := 0, locals := 0 } : Room).cells ({ frames := 0, cells := 0, slots := 0, locals := 0 } : Room).slots) pre0 ?_
  obtain ⟨cl1, Ar1, -, S1, M1, -, -⟩ := id A_a1
  refine own_step (B := s₁.setTop (mkF m 3 #[.val (.ref a1), .val (.ref a2), .val (.int (5 : Int32)), .val (.int p4), .unset] [(.int n1), (.int (5 : Int32))])) (fun t k => ?_) ?_
  · show Steps p.tables e below (s₁.setTop (mkF m 0 #[.val (.ref a1), .val (.ref a2), .val (.int (5 : Int32)), .val (.int p4), .unset] [])) _
    refine XS.iloadN X0.here hx rfl (hb hby d2_0) rfl ?_
    show Steps p.tables e below (s₁.setTop (mkF m 1 #[.val (.ref a1), .val (.ref a2), .val (.int (5 : Int32)), .val (.int p4), .unset] [(.int (5 : Int32))])) _
    refine XS.aloadN X0.here hx rfl (hb hby d2_1) rfl rfl ?_
    show Steps p.tables e below (s₁.setTop (mkF m 2 #[.val (.ref a1), .val (.ref a2), .val (.int (5 : Int32)), .val (.int p4), .unset] [(.ref a1), (.int (5 : Int32))])) _
    refine X0.arraylength hx (by rw [e0]; exact Ar1.1) (State.isArrayOf_alike hZ.alike Ar1.2.1) (g := (mkF m 2 #[.val (.ref a1), .val (.ref a2), .val (.int (5 : Int32)), .val (.int p4), .unset] [(.ref a1), (.int (5 : Int32))])) rfl rfl (hb hby d2_2) _ ?_
    rw [len_of S1 M1]
    exact k
  by_cases h2 : (5 : Int32) < n1
  · have st4 : ∀ t, Steps p.tables e below (s₁.setTop (mkF m 21 #[.val (.ref a1), .val (.ref a2), .val (.int (5 : Int32)), .val (.int p4), .unset] [(.int (fat5_0 p4 n1 s0 s1 s2 s3 s4 s5 s6 r0 r1 r2 r3 r4 r5 r6))])) t → Steps p.tables e below (s₁.setTop (mkF m 13 #[.val (.ref a1), .val (.ref a2), .val (.int (5 : Int32)), .val (.int p4), .unset] [(.int ((XT.ushr p4 (5 : Int32)) &&& (1 : Int32)))])) t := by
      intro t k
      by_cases h3 : ((XT.ushr p4 (5 : Int32)) &&& (1 : Int32)) = (0 : Int32)
      · rw [show (fat5_0 p4 n1 s0 s1 s2 s3 s4 s5 s6 r0 r1 r2 r3 r4 r5 r6) = (0 : Int32) from if_pos h3] at k
        show Steps p.tables e below (s₁.setTop (mkF m 13 #[.val (.ref a1), .val (.ref a2), .val (.int (5 : Int32)), .val (.int p4), .unset] [(.int ((XT.ushr p4 (5 : Int32)) &&& (1 : Int32)))])) _
        refine XS.ifYes X0.here hx rfl (pc0 := 13) (pc' := 20) rfl (hb hby d2_13) rfl ((if0 _ _).trans (teq h3).1) (by decide) (by decide) ?_
        show Steps p.tables e below (s₁.setTop (mkF m 20 #[.val (.ref a1), .val (.ref a2), .val (.int (5 : Int32)), .val (.int p4), .unset] [])) _
        refine XS.iconst X0.here hx rfl (hb hby d2_20) ?_
        exact k
      · rw [show (fat5_0 p4 n1 s0 s1 s2 s3 s4 s5 s6 r0 r1 r2 r3 r4 r5 r6) = (1 : Int32) from if_neg h3] at k
        show Steps p.tables e below (s₁.setTop (mkF m 13 #[.val (.ref a1), .val (.ref a2), .val (.int (5 : Int32)), .val (.int p4), .unset] [(.int ((XT.ushr p4 (5 : Int32)) &&& (1 : Int32)))])) _
        refine XS.ifNo X0.here hx rfl (hb hby d2_13) rfl ((if0 _ _).trans (feq h3).1) ?_
        show Steps p.tables e below (s₁.setTop (mkF m 16 #[.val (.ref a1), .val (.ref a2), .val (.int (5 : Int32)), .val (.int p4), .unset] [])) _
        refine XS.iconst X0.here hx rfl (hb hby d2_16) ?_
        show Steps p.tables e below (s₁.setTop (mkF m 17 #[.val (.ref a1), .val (.ref a2), .val (.int (5 : Int32)), .val (.int p4), .unset] [(.int (1 : Int32))])) _
        refine XS.goto X0.here hx rfl (pc0 := 17) (pc' := 21) rfl (hb hby d2_17) (by decide) (by decide) ?_
        exact k
    obtain ⟨cl5, Ar5, -, S5, M5, H5, -⟩ := id A_a1
    have hin5 := inb_of (j := (5 : Int32)) S5 ⟨by decide, h2⟩
    have hat5 := H5.at hin5 (v := (.int s5)) (rfl)
    have st12 : ∀ t, Steps p.tables e below (s₁.setTop (mkF m 52 #[.val (.ref a1), .val (.ref a2), .val (.int (5 : Int32)), .val (.int p4), .val (.int (fat5_0 p4 n1 s0 s1 s2 s3 s4 s5 s6 r0 r1 r2 r3 r4 r5 r6))] [(.int (fat5_3 p4 n1 s0 s1 s2 s3 s4 s5 s6 r0 r1 r2 r3 r4 r5 r6))])) t → Steps p.tables e below (s₁.setTop (mkF m 28 #[.val (.ref a1), .val (.ref a2), .val (.int (5 : Int32)), .val (.int p4), .val (.int (fat5_0 p4 n1 s0 s1 s2 s3 s4 s5 s6 r0 r1 r2 r3 r4 r5 r6))] [(.int (fat5_0 p4 n1 s0 s1 s2 s3 s4 s5 s6 r0 r1 r2 r3 r4 r5 r6)), (.int s5)])) t := by
      intro t k
      by_cases h6 : s5 = (fat5_0 p4 n1 s0 s1 s2 s3 s4 s5 s6 r0 r1 r2 r3 r4 r5 r6)
      · obtain ⟨cl7, Ar7, -, S7, M7, H7, -⟩ := id A_a2
        have hin7 := inb_of (j := (5 : Int32)) S7 ⟨by decide, h2⟩
        have hat7 := H7.at hin7 (v := (.int r5)) (rfl)
        have st9 : ∀ t, Steps p.tables e below (s₁.setTop (mkF m 44 #[.val (.ref a1), .val (.ref a2), .val (.int (5 : Int32)), .val (.int p4), .val (.int (fat5_0 p4 n1 s0 s1 s2 s3 s4 s5 s6 r0 r1 r2 r3 r4 r5 r6))] [(.int (fat5_1 p4 n1 s0 s1 s2 s3 s4 s5 s6 r0 r1 r2 r3 r4 r5 r6)), (.int r5)])) t → Steps p.tables e below (s₁.setTop (mkF m 36 #[.val (.ref a1), .val (.ref a2), .val (.int (5 : Int32)), .val (.int p4), .val (.int (fat5_0 p4 n1 s0 s1 s2 s3 s4 s5 s6 r0 r1 r2 r3 r4 r5 r6))] [(.int (fat5_0 p4 n1 s0 s1 s2 s3 s4 s5 s6 r0 r1 r2 r3 r4 r5 r6)), (.int r5)])) t := by
          intro t k
          by_cases h8 : (fat5_0 p4 n1 s0 s1 s2 s3 s4 s5 s6 r0 r1 r2 r3 r4 r5 r6) = (0 : Int32)
          · rw [show (fat5_1 p4 n1 s0 s1 s2 s3 s4 s5 s6 r0 r1 r2 r3 r4 r5 r6) = (1 : Int32) from if_pos h8] at k
            show Steps p.tables e below (s₁.setTop (mkF m 36 #[.val (.ref a1), .val (.ref a2), .val (.int (5 : Int32)), .val (.int p4), .val (.int (fat5_0 p4 n1 s0 s1 s2 s3 s4 s5 s6 r0 r1 r2 r3 r4 r5 r6))] [(.int (fat5_0 p4 n1 s0 s1 s2 s3 s4 s5 s6 r0 r1 r2 r3 r4 r5 r6)), (.int r5)])) _
            refine XS.ifNo X0.here hx rfl (hb hby d2_36) rfl ((if0 _ _).trans (teq h8).2) ?_
            show Steps p.tables e below (s₁.setTop (mkF m 39 #[.val (.ref a1), .val (.ref a2), .val (.int (5 : Int32)), .val (.int p4), .val (.int (fat5_0 p4 n1 s0 s1 s2 s3 s4 s5 s6 r0 r1 r2 r3 r4 r5 r6))] [(.int r5)])) _
            refine XS.iconst X0.here hx rfl (hb hby d2_39) ?_
            show Steps p.tables e below (s₁.setTop (mkF m 40 #[.val (.ref a1), .val (.ref a2), .val (.int (5 : Int32)), .val (.int p4), .val (.int (fat5_0 p4 n1 s0 s1 s2 s3 s4 s5 s6 r0 r1 r2 r3 r4 r5 r6))] [(.int (1 : Int32)), (.int r5)])) _
            refine XS.goto X0.here hx rfl (pc0 := 40) (pc' := 44) rfl (hb hby d2_40) (by decide) (by decide) ?_
            exact k
          · rw [show (fat5_1 p4 n1 s0 s1 s2 s3 s4 s5 s6 r0 r1 r2 r3 r4 r5 r6) = (0 : Int32) from if_neg h8] at k
            show Steps p.tables e below (s₁.setTop (mkF m 36 #[.val (.ref a1), .val (.ref a2), .val (.int (5 : Int32)), .val (.int p4), .val (.int (fat5_0 p4 n1 s0 s1 s2 s3 s4 s5 s6 r0 r1 r2 r3 r4 r5 r6))] [(.int (fat5_0 p4 n1 s0 s1 s2 s3 s4 s5 s6 r0 r1 r2 r3 r4 r5 r6)), (.int r5)])) _
            refine XS.ifYes X0.here hx rfl (pc0 := 36) (pc' := 43) rfl (hb hby d2_36) rfl ((if0 _ _).trans (feq h8).2) (by decide) (by decide) ?_
            show Steps p.tables e below (s₁.setTop (mkF m 43 #[.val (.ref a1), .val (.ref a2), .val (.int (5 : Int32)), .val (.int p4), .val (.int (fat5_0 p4 n1 s0 s1 s2 s3 s4 s5 s6 r0 r1 r2 r3 r4 r5 r6))] [(.int r5)])) _
            refine XS.iconst X0.here hx rfl (hb hby d2_43) ?_
            exact k
        have st11 : ∀ t, Steps p.tables e below (s₁.setTop (mkF m 52 #[.val (.ref a1), .val (.ref a2), .val (.int (5 : Int32)), .val (.int p4), .val (.int (fat5_0 p4 n1 s0 s1 s2 s3 s4 s5 s6 r0 r1 r2 r3 r4 r5 r6))] [(.int (fat5_2 p4 n1 s0 s1 s2 s3 s4 s5 s6 r0 r1 r2 r3 r4 r5 r6))])) t → Steps p.tables e below (s₁.setTop (mkF m 44 #[.val (.ref a1), .val (.ref a2), .val (.int (5 : Int32)), .val (.int p4), .val (.int (fat5_0 p4 n1 s0 s1 s2 s3 s4 s5 s6 r0 r1 r2 r3 r4 r5 r6))] [(.int (fat5_1 p4 n1 s0 s1 s2 s3 s4 s5 s6 r0 r1 r2 r3 r4 r5 r6)), (.int r5)])) t := by
          intro t k
          by_cases h10 : r5 = (fat5_1 p4 n1 s0 s1 s2 s3 s4 s5 s6 r0 r1 r2 r3 r4 r5 r6)
          · rw [show (fat5_2 p4 n1 s0 s1 s2 s3 s4 s5 s6 r0 r1 r2 r3 r4 r5 r6) = (1 : Int32) from if_pos h10] at k
            show Steps p.tables e below (s₁.setTop (mkF m 44 #[.val (.ref a1), .val (.ref a2), .val (.int (5 : Int32)), .val (.int p4), .val (.int (fat5_0 p4 n1 s0 s1 s2 s3 s4 s5 s6 r0 r1 r2 r3 r4 r5 r6))] [(.int (fat5_1 p4 n1 s0 s1 s2 s3 s4 s5 s6 r0 r1 r2 r3 r4 r5 r6)), (.int r5)])) _
            refine XS.icmpNo X0.here hx rfl (hb hby d2_44) rfl (teq h10).2 ?_
            show Steps p.tables e below (s₁.setTop (mkF m 47 #[.val (.ref a1), .val (.ref a2), .val (.int (5 : Int32)), .val (.int p4), .val (.int (fat5_0 p4 n1 s0 s1 s2 s3 s4 s5 s6 r0 r1 r2 r3 r4 r5 r6))] [])) _
            refine XS.iconst X0.here hx rfl (hb hby d2_47) ?_
            show Steps p.tables e below (s₁.setTop (mkF m 48 #[.val (.ref a1), .val (.ref a2), .val (.int (5 : Int32)), .val (.int p4), .val (.int (fat5_0 p4 n1 s0 s1 s2 s3 s4 s5 s6 r0 r1 r2 r3 r4 r5 r6))] [(.int (1 : Int32))])) _
            refine XS.goto X0.here hx rfl (pc0 := 48) (pc' := 52) rfl (hb hby d2_48) (by decide) (by decide) ?_
            exact k
          · rw [show (fat5_2 p4 n1 s0 s1 s2 s3 s4 s5 s6 r0 r1 r2 r3 r4 r5 r6) = (0 : Int32) from if_neg h10] at k
            show Steps p.tables e below (s₁.setTop (mkF m 44 #[.val (.ref a1), .val (.ref a2), .val (.int (5 : Int32)), .val (.int p4), .val (.int (fat5_0 p4 n1 s0 s1 s2 s3 s4 s5 s6 r0 r1 r2 r3 r4 r5 r6))] [(.int (fat5_1 p4 n1 s0 s1 s2 s3 s4 s5 s6 r0 r1 r2 r3 r4 r5 r6)), (.int r5)])) _
            refine XS.icmpYes X0.here hx rfl (pc0 := 44) (pc' := 51) rfl (hb hby d2_44) rfl (feq h10).2 (by decide) (by decide) ?_
            show Steps p.tables e below (s₁.setTop (mkF m 51 #[.val (.ref a1), .val (.ref a2), .val (.int (5 : Int32)), .val (.int p4), .val (.int (fat5_0 p4 n1 s0 s1 s2 s3 s4 s5 s6 r0 r1 r2 r3 r4 r5 r6))] [])) _
            refine XS.iconst X0.here hx rfl (hb hby d2_51) ?_
            exact k
        rw [show (fat5_3 p4 n1 s0 s1 s2 s3 s4 s5 s6 r0 r1 r2 r3 r4 r5 r6) = (fat5_2 p4 n1 s0 s1 s2 s3 s4 s5 s6 r0 r1 r2 r3 r4 r5 r6) from if_pos h6] at k
        show Steps p.tables e below (s₁.setTop (mkF m 28 #[.val (.ref a1), .val (.ref a2), .val (.int (5 : Int32)), .val (.int p4), .val (.int (fat5_0 p4 n1 s0 s1 s2 s3 s4 s5 s6 r0 r1 r2 r3 r4 r5 r6))] [(.int (fat5_0 p4 n1 s0 s1 s2 s3 s4 s5 s6 r0 r1 r2 r3 r4 r5 r6)), (.int s5)])) _
        refine XS.icmpNo X0.here hx rfl (hb hby d2_28) rfl (teq h6).2 ?_
        show Steps p.tables e below (s₁.setTop (mkF m 31 #[.val (.ref a1), .val (.ref a2), .val (.int (5 : Int32)), .val (.int p4), .val (.int (fat5_0 p4 n1 s0 s1 s2 s3 s4 s5 s6 r0 r1 r2 r3 r4 r5 r6))] [])) _
        refine XS.aloadN X0.here hx rfl (hb hby d2_31) rfl rfl ?_
        show Steps p.tables e below (s₁.setTop (mkF m 32 #[.val (.ref a1), .val (.ref a2), .val (.int (5 : Int32)), .val (.int p4), .val (.int (fat5_0 p4 n1 s0 s1 s2 s3 s4 s5 s6 r0 r1 r2 r3 r4 r5 r6))] [(.ref a2)])) _
        refine XS.iloadN X0.here hx rfl (hb hby d2_32) rfl ?_
        show Steps p.tables e below (s₁.setTop (mkF m 33 #[.val (.ref a1), .val (.ref a2), .val (.int (5 : Int32)), .val (.int p4), .val (.int (fat5_0 p4 n1 s0 s1 s2 s3 s4 s5 s6 r0 r1 r2 r3 r4 r5 r6))] [(.int (5 : Int32)), (.ref a2)])) _
        refine X0.baloadBooleans hx (j := (5 : Int32)) (v := (.int r5)) (by rw [e0]; exact Ar7.1) (State.isArrayOf_alike hZ.alike Ar7.2.1) Ar7.2.2 hin7 hat7 (g := (mkF m 33 #[.val (.ref a1), .val (.ref a2), .val (.int (5 : Int32)), .val (.int p4), .val (.int (fat5_0 p4 n1 s0 s1 s2 s3 s4 s5 s6 r0 r1 r2 r3 r4 r5 r6))] [(.int (5 : Int32)), (.ref a2)])) rfl rfl (hb hby d2_33) _ ?_
        show Steps p.tables e below (s₁.setTop (mkF m 34 #[.val (.ref a1), .val (.ref a2), .val (.int (5 : Int32)), .val (.int p4), .val (.int (fat5_0 p4 n1 s0 s1 s2 s3 s4 s5 s6 r0 r1 r2 r3 r4 r5 r6))] [(.int r5)])) _
        refine XS.iload X0.here hx rfl (hb hby d2_34) rfl ?_
        show Steps p.tables e below (s₁.setTop (mkF m 36 #[.val (.ref a1), .val (.ref a2), .val (.int (5 : Int32)), .val (.int p4), .val (.int (fat5_0 p4 n1 s0 s1 s2 s3 s4 s5 s6 r0 r1 r2 r3 r4 r5 r6))] [(.int (fat5_0 p4 n1 s0 s1 s2 s3 s4 s5 s6 r0 r1 r2 r3 r4 r5 r6)), (.int r5)])) _
        refine st9 _ ?_
        show Steps p.tables e below (s₁.setTop (mkF m 44 #[.val (.ref a1), .val (.ref a2), .val (.int (5 : Int32)), .val (.int p4), .val (.int (fat5_0 p4 n1 s0 s1 s2 s3 s4 s5 s6 r0 r1 r2 r3 r4 r5 r6))] [(.int (fat5_1 p4 n1 s0 s1 s2 s3 s4 s5 s6 r0 r1 r2 r3 r4 r5 r6)), (.int r5)])) _
        refine st11 _ ?_
        exact k
      · rw [show (fat5_3 p4 n1 s0 s1 s2 s3 s4 s5 s6 r0 r1 r2 r3 r4 r5 r6) = (0 : Int32) from if_neg h6] at k
        show Steps p.tables e below (s₁.setTop (mkF m 28 #[.val (.ref a1), .val (.ref a2), .val (.int (5 : Int32)), .val (.int p4), .val (.int (fat5_0 p4 n1 s0 s1 s2 s3 s4 s5 s6 r0 r1 r2 r3 r4 r5 r6))] [(.int (fat5_0 p4 n1 s0 s1 s2 s3 s4 s5 s6 r0 r1 r2 r3 r4 r5 r6)), (.int s5)])) _
        refine XS.icmpYes X0.here hx rfl (pc0 := 28) (pc' := 51) rfl (hb hby d2_28) rfl (feq h6).2 (by decide) (by decide) ?_
        show Steps p.tables e below (s₁.setTop (mkF m 51 #[.val (.ref a1), .val (.ref a2), .val (.int (5 : Int32)), .val (.int p4), .val (.int (fat5_0 p4 n1 s0 s1 s2 s3 s4 s5 s6 r0 r1 r2 r3 r4 r5 r6))] [])) _
        refine XS.iconst X0.here hx rfl (hb hby d2_51) ?_
        exact k
    obtain ⟨fs, hr, hrun, hended, hW, hsame⟩ := X0.leave (v := some (.int ((fat5_3 p4 n1 s0 s1 s2 s3 s4 s5 s6 r0 r1 r2 r3 r4 r5 r6) &&& 1))) (fun h => by rw [Bd.returns] at h; cases h)
    refine ⟨_, _, ?_, hrun, hended, _, _, rfl, ?_, ⟨_, rfl⟩, hW, hsame.mono (by decide) (by decide)⟩
    · show Steps p.tables e below (s₁.setTop (mkF m 3 #[.val (.ref a1), .val (.ref a2), .val (.int (5 : Int32)), .val (.int p4), .unset] [(.int n1), (.int (5 : Int32))])) _
      refine XS.icmpYes X0.here hx rfl (pc0 := 3) (pc' := 8) rfl (hb hby d2_3) rfl (tlt h2).1 (by decide) (by decide) ?_
      show Steps p.tables e below (s₁.setTop (mkF m 8 #[.val (.ref a1), .val (.ref a2), .val (.int (5 : Int32)), .val (.int p4), .unset] [])) _
      refine XS.iloadN X0.here hx rfl (hb hby d2_8) rfl ?_
      show Steps p.tables e below (s₁.setTop (mkF m 9 #[.val (.ref a1), .val (.ref a2), .val (.int (5 : Int32)), .val (.int p4), .unset] [(.int p4)])) _
      refine XS.iloadN X0.here hx rfl (hb hby d2_9) rfl ?_
      show Steps p.tables e below (s₁.setTop (mkF m 10 #[.val (.ref a1), .val (.ref a2), .val (.int (5 : Int32)), .val (.int p4), .unset] [(.int (5 : Int32)), (.int p4)])) _
      refine XT.iushr X0.here hx rfl (hb hby d2_10) rfl ?_
      show Steps p.tables e below (s₁.setTop (mkF m 11 #[.val (.ref a1), .val (.ref a2), .val (.int (5 : Int32)), .val (.int p4), .unset] [(.int (XT.ushr p4 (5 : Int32)))])) _
      refine XS.iconst X0.here hx rfl (hb hby d2_11) ?_
      show Steps p.tables e below (s₁.setTop (mkF m 12 #[.val (.ref a1), .val (.ref a2), .val (.int (5 : Int32)), .val (.int p4), .unset] [(.int (1 : Int32)), (.int (XT.ushr p4 (5 : Int32)))])) _
      refine XS.iand X0.here hx rfl (hb hby d2_12) rfl ?_
      show Steps p.tables e below (s₁.setTop (mkF m 13 #[.val (.ref a1), .val (.ref a2), .val (.int (5 : Int32)), .val (.int p4), .unset] [(.int ((XT.ushr p4 (5 : Int32)) &&& (1 : Int32)))])) _
      refine st4 _ ?_
      show Steps p.tables e below (s₁.setTop (mkF m 21 #[.val (.ref a1), .val (.ref a2), .val (.int (5 : Int32)), .val (.int p4), .unset] [(.int (fat5_0 p4 n1 s0 s1 s2 s3 s4 s5 s6 r0 r1 r2 r3 r4 r5 r6))])) _
      refine XS.istore X0.here hx rfl (hb hby d2_21) rfl (l' := #[.val (.ref a1), .val (.ref a2), .val (.int (5 : Int32)), .val (.int p4), .val (.int (fat5_0 p4 n1 s0 s1 s2 s3 s4 s5 s6 r0 r1 r2 r3 r4 r5 r6))]) rfl ?_
      show Steps p.tables e below (s₁.setTop (mkF m 23 #[.val (.ref a1), .val (.ref a2), .val (.int (5 : Int32)), .val (.int p4), .val (.int (fat5_0 p4 n1 s0 s1 s2 s3 s4 s5 s6 r0 r1 r2 r3 r4 r5 r6))] [])) _
      refine XS.aloadN X0.here hx rfl (hb hby d2_23) rfl rfl ?_
      show Steps p.tables e below (s₁.setTop (mkF m 24 #[.val (.ref a1), .val (.ref a2), .val (.int (5 : Int32)), .val (.int p4), .val (.int (fat5_0 p4 n1 s0 s1 s2 s3 s4 s5 s6 r0 r1 r2 r3 r4 r5 r6))] [(.ref a1)])) _
      refine XS.iloadN X0.here hx rfl (hb hby d2_24) rfl ?_
      show Steps p.tables e below (s₁.setTop (mkF m 25 #[.val (.ref a1), .val (.ref a2), .val (.int (5 : Int32)), .val (.int p4), .val (.int (fat5_0 p4 n1 s0 s1 s2 s3 s4 s5 s6 r0 r1 r2 r3 r4 r5 r6))] [(.int (5 : Int32)), (.ref a1)])) _
      refine X0.baloadBooleans hx (j := (5 : Int32)) (v := (.int s5)) (by rw [e0]; exact Ar5.1) (State.isArrayOf_alike hZ.alike Ar5.2.1) Ar5.2.2 hin5 hat5 (g := (mkF m 25 #[.val (.ref a1), .val (.ref a2), .val (.int (5 : Int32)), .val (.int p4), .val (.int (fat5_0 p4 n1 s0 s1 s2 s3 s4 s5 s6 r0 r1 r2 r3 r4 r5 r6))] [(.int (5 : Int32)), (.ref a1)])) rfl rfl (hb hby d2_25) _ ?_
      show Steps p.tables e below (s₁.setTop (mkF m 26 #[.val (.ref a1), .val (.ref a2), .val (.int (5 : Int32)), .val (.int p4), .val (.int (fat5_0 p4 n1 s0 s1 s2 s3 s4 s5 s6 r0 r1 r2 r3 r4 r5 r6))] [(.int s5)])) _
      refine XS.iload X0.here hx rfl (hb hby d2_26) rfl ?_
      show Steps p.tables e below (s₁.setTop (mkF m 28 #[.val (.ref a1), .val (.ref a2), .val (.int (5 : Int32)), .val (.int p4), .val (.int (fat5_0 p4 n1 s0 s1 s2 s3 s4 s5 s6 r0 r1 r2 r3 r4 r5 r6))] [(.int (fat5_0 p4 n1 s0 s1 s2 s3 s4 s5 s6 r0 r1 r2 r3 r4 r5 r6)), (.int s5)])) _
      refine st12 _ ?_
      show Steps p.tables e below (s₁.setTop (mkF m 52 #[.val (.ref a1), .val (.ref a2), .val (.int (5 : Int32)), .val (.int p4), .val (.int (fat5_0 p4 n1 s0 s1 s2 s3 s4 s5 s6 r0 r1 r2 r3 r4 r5 r6))] [(.int (fat5_3 p4 n1 s0 s1 s2 s3 s4 s5 s6 r0 r1 r2 r3 r4 r5 r6))])) _
      exact retN X0 hx (t := .boolean) Bd.returns (by simp) (hb hby d2_52) hr
    · show Qat5 Z a1 a2 p4 k1 n1 s0 s1 s2 s3 s4 s5 s6 k2 r0 r1 r2 r3 r4 r5 r6 h0 n0 _ s₁.heap _
      rw [e0]
      have hf : fat5 p4 n1 s0 s1 s2 s3 s4 s5 s6 r0 r1 r2 r3 r4 r5 r6 = ((fat5_3 p4 n1 s0 s1 s2 s3 s4 s5 s6 r0 r1 r2 r3 r4 r5 r6) &&& 1) := by simp only [fat5, if_pos h2]
      exact ⟨by rw [hf], N0, rfl⟩
  · obtain ⟨fs, hr, hrun, hended, hW, hsame⟩ := X0.leave (v := some (.int (1 : Int32))) (fun h => by rw [Bd.returns] at h; cases h)
    refine ⟨_, _, ?_, hrun, hended, _, _, rfl, ?_, ⟨_, rfl⟩, hW, hsame.mono (by decide) (by decide)⟩
    · show Steps p.tables e below (s₁.setTop (mkF m 3 #[.val (.ref a1), .val (.ref a2), .val (.int (5 : Int32)), .val (.int p4), .unset] [(.int n1), (.int (5 : Int32))])) _
      refine XS.icmpNo X0.here hx rfl (hb hby d2_3) rfl (flt h2).1 ?_
      show Steps p.tables e below (s₁.setTop (mkF m 6 #[.val (.ref a1), .val (.ref a2), .val (.int (5 : Int32)), .val (.int p4), .unset] [])) _
      refine XS.iconst X0.here hx rfl (hb hby d2_6) ?_
      show Steps p.tables e below (s₁.setTop (mkF m 7 #[.val (.ref a1), .val (.ref a2), .val (.int (5 : Int32)), .val (.int p4), .unset] [(.int (1 : Int32))])) _
      exact retN X0 hx (t := .boolean) Bd.returns (by simp) (hb hby d2_7) hr
    · show Qat5 Z a1 a2 p4 k1 n1 s0 s1 s2 s3 s4 s5 s6 k2 r0 r1 r2 r3 r4 r5 r6 h0 n0 _ s₁.heap _
      rw [e0]
      have hf : fat5 p4 n1 s0 s1 s2 s3 s4 s5 s6 r0 r1 r2 r3 r4 r5 r6 = (1 : Int32) := by simp only [fat5, if_neg h2]
      exact ⟨by rw [hf], N0, rfl⟩
theorem pn_at6 : plainName "com/example/bonn/bonn/FormulaComplementPinLaw" = true := by first | (simp [plainName, overriddenIn]; done) | decide +kernel
theorem ef_at6 (m : MethodId) (a1 : Addr) (a2 : Addr) (p4 : Int32) : entryFrame m #[(.ref a1), (.ref a2), (.int (6 : Int32)), (.int p4)] 5 = mkF m 0 #[.val (.ref a1), .val (.ref a2), .val (.int (6 : Int32)), .val (.int p4), .unset] [] := by first | (simp [entryFrame, mkF, argsToLocals, Value.category]; done) | rfl
def Qat6 (Z : State) (a1 : Addr) (a2 : Addr) (p4 : Int32) (k1 : ClassId) (n1 : Int32) (s0 : Int32) (s1 : Int32) (s2 : Int32) (s3 : Int32) (s4 : Int32) (s5 : Int32) (s6 : Int32) (k2 : ClassId) (r0 : Int32) (r1 : Int32) (r2 : Int32) (r3 : Int32) (r4 : Int32) (r5 : Int32) (r6 : Int32) (h0 : Heap) (n0 : Nat) (v : Option Value) (h : Heap) (L : List Loc) : Prop := v = some (.int (fat6 p4 n1 s0 s1 s2 s3 s4 s5 s6 r0 r1 r2 r3 r4 r5 r6)) ∧ Fr n0 L ∧ h = h0
set_option maxRecDepth 65536 in
set_option maxHeartbeats 40000000 in
theorem rmat6 (l : Launch) (Z : State) (a0 : Array Value) (hw : ∀ d ∈ tables_1, d.before a0 Z = true) (ws : List Jvm.Cond) (a1 : Addr) (a2 : Addr) (p4 : Int32) (k1 : ClassId) (n1 : Int32) (s0 : Int32) (s1 : Int32) (s2 : Int32) (s3 : Int32) (s4 : Int32) (s5 : Int32) (s6 : Int32) (k2 : ClassId) (r0 : Int32) (r1 : Int32) (r2 : Int32) (r3 : Int32) (r4 : Int32) (r5 : Int32) (r6 : Int32) (h0 : Heap) (n0 : Nat) (Z0 : n0 ≤ h0.size) (A_a1 : Arv Z h0 a1 k1 .boolean n1 [(.int s0), (.int s1), (.int s2), (.int s3), (.int s4), (.int s5), (.int s6)] (.int (0 : Int32))) (A_a2 : Arv Z h0 a2 k2 .boolean n1 [(.int r0), (.int r1), (.int r2), (.int r3), (.int r4), (.int r5), (.int r6)] (.int (0 : Int32))) :
    MetFree l (⟨"com/example/bonn/bonn/FormulaComplementPinLaw", "at", "([Z[ZII)Z"⟩ : MethodName) (head1 (Jvm.Cond.code (⟨"com/example/bonn/bonn/FormulaComplementPinLaw", "at", "([Z[ZII)Z"⟩ : MethodName) method_3_code 5 (some .boolean) :: ws) ({ frames := 0, cells := 0, slots := 0, locals := 0 } : Room)) (fun a U => a = #[(.ref a1), (.ref a2), (.int (6 : Int32)), (.int p4)] ∧ Z.Warmed39 U.vm ∧ U.heap = h0) (fun _ _ _ _ _ => True) (fun _ U o U' => ∃ v L, o = .returned v ∧ Qat6 Z a1 a2 p4 k1 n1 s0 s1 s2 s3 s4 s5 s6 k2 r0 r1 r2 r3 r4 r5 r6 h0 n0 v U'.heap L ∧ FrameEnd U o U' L ({ frames := 0, cells := 0, slots := 0, locals := 0 } : Room).cells ({ frames := 0, cells := 0, slots := 0, locals := 0 } : Room).slots) := by
  refine MetFree.of_bodySF (plainFor_of_name pn_at6) hisR ?_
  intro p e s m args below meth c s₁ Bd hml0 hP hK
  obtain ⟨rfl, hZ, hh⟩ := hP
  have hx := Bd.exec
  have hby := Bd.bytes
  have hml : c.maxLocals = 5 := hml0
  have hown : s.vm.findClass "com/example/bonn/bonn/FormulaComplementPinLaw" = some m.cls := findClass_of_methodNamed Bd.named
  have hnm := (name_of_methodNamed Bd.named Bd.method).1
  have X0 : Stand p l e ({ frames := 0, cells := 0, slots := 0, locals := 0 } : Room) s m #[(.ref a1), (.ref a2), (.int (6 : Int32)), (.int p4)] below meth c s₁ [] 0 0 := Stand.of_body Bd
  have e0 : s₁.heap = h0 := by rw [← hh, Bd.state]; rfl
  have N0 := Fr.nil n0
  have pre0 : ∀ t, Steps p.tables e below (s₁.setTop (mkF m 0 #[.val (.ref a1), .val (.ref a2), .val (.int (6 : Int32)), .val (.int p4), .unset] [])) t → Steps p.tables e below (s₁.setTop (entryFrame m #[(.ref a1), (.ref a2), (.int (6 : Int32)), (.int p4)] 5)) t := fun t k => castTop (ef_at6 m a1 a2 p4) k
  refine own_step (Q := fun o U' => ∃ v L, o = .returned v ∧ Qat6 Z a1 a2 p4 k1 n1 s0 s1 s2 s3 s4 s5 s6 k2 r0 r1 r2 r3 r4 r5 r6 h0 n0 v U'.heap L ∧ FrameEnd s o U' L ({ frames := 0, cells := 0, slots := 0, locals := 0 } : Room).cells ({ frames := 0, cells := 0, slots := 0, locals := 0 } : Room).slots) pre0 ?_
  obtain ⟨cl1, Ar1, -, S1, M1, -, -⟩ := id A_a1
  refine own_step (B := s₁.setTop (mkF m 3 #[.val (.ref a1), .val (.ref a2), .val (.int (6 : Int32)), .val (.int p4), .unset] [(.int n1), (.int (6 : Int32))])) (fun t k => ?_) ?_
  · show Steps p.tables e below (s₁.setTop (mkF m 0 #[.val (.ref a1), .val (.ref a2), .val (.int (6 : Int32)), .val (.int p4), .unset] [])) _
    refine XS.iloadN X0.here hx rfl (hb hby d2_0) rfl ?_
    show Steps p.tables e below (s₁.setTop (mkF m 1 #[.val (.ref a1), .val (.ref a2), .val (.int (6 : Int32)), .val (.int p4), .unset] [(.int (6 : Int32))])) _
    refine XS.aloadN X0.here hx rfl (hb hby d2_1) rfl rfl ?_
    show Steps p.tables e below (s₁.setTop (mkF m 2 #[.val (.ref a1), .val (.ref a2), .val (.int (6 : Int32)), .val (.int p4), .unset] [(.ref a1), (.int (6 : Int32))])) _
    refine X0.arraylength hx (by rw [e0]; exact Ar1.1) (State.isArrayOf_alike hZ.alike Ar1.2.1) (g := (mkF m 2 #[.val (.ref a1), .val (.ref a2), .val (.int (6 : Int32)), .val (.int p4), .unset] [(.ref a1), (.int (6 : Int32))])) rfl rfl (hb hby d2_2) _ ?_
    rw [len_of S1 M1]
    exact k
  by_cases h2 : (6 : Int32) < n1
  · have st4 : ∀ t, Steps p.tables e below (s₁.setTop (mkF m 21 #[.val (.ref a1), .val (.ref a2), .val (.int (6 : Int32)), .val (.int p4), .unset] [(.int (fat6_0 p4 n1 s0 s1 s2 s3 s4 s5 s6 r0 r1 r2 r3 r4 r5 r6))])) t → Steps p.tables e below (s₁.setTop (mkF m 13 #[.val (.ref a1), .val (.ref a2), .val (.int (6 : Int32)), .val (.int p4), .unset] [(.int ((XT.ushr p4 (6 : Int32)) &&& (1 : Int32)))])) t := by
      intro t k
      by_cases h3 : ((XT.ushr p4 (6 : Int32)) &&& (1 : Int32)) = (0 : Int32)
      · rw [show (fat6_0 p4 n1 s0 s1 s2 s3 s4 s5 s6 r0 r1 r2 r3 r4 r5 r6) = (0 : Int32) from if_pos h3] at k
        show Steps p.tables e below (s₁.setTop (mkF m 13 #[.val (.ref a1), .val (.ref a2), .val (.int (6 : Int32)), .val (.int p4), .unset] [(.int ((XT.ushr p4 (6 : Int32)) &&& (1 : Int32)))])) _
        refine XS.ifYes X0.here hx rfl (pc0 := 13) (pc' := 20) rfl (hb hby d2_13) rfl ((if0 _ _).trans (teq h3).1) (by decide) (by decide) ?_
        show Steps p.tables e below (s₁.setTop (mkF m 20 #[.val (.ref a1), .val (.ref a2), .val (.int (6 : Int32)), .val (.int p4), .unset] [])) _
        refine XS.iconst X0.here hx rfl (hb hby d2_20) ?_
        exact k
      · rw [show (fat6_0 p4 n1 s0 s1 s2 s3 s4 s5 s6 r0 r1 r2 r3 r4 r5 r6) = (1 : Int32) from if_neg h3] at k
        show Steps p.tables e below (s₁.setTop (mkF m 13 #[.val (.ref a1), .val (.ref a2), .val (.int (6 : Int32)), .val (.int p4), .unset] [(.int ((XT.ushr p4 (6 : Int32)) &&& (1 : Int32)))])) _
        refine XS.ifNo X0.here hx rfl (hb hby d2_13) rfl ((if0 _ _).trans (feq h3).1) ?_
        show Steps p.tables e below (s₁.setTop (mkF m 16 #[.val (.ref a1), .val (.ref a2), .val (.int (6 : Int32)), .val (.int p4), .unset] [])) _
        refine XS.iconst X0.here hx rfl (hb hby d2_16) ?_
        show Steps p.tables e below (s₁.setTop (mkF m 17 #[.val (.ref a1), .val (.ref a2), .val (.int (6 : Int32)), .val (.int p4), .unset] [(.int (1 : Int32))])) _
        refine XS.goto X0.here hx rfl (pc0 := 17) (pc' := 21) rfl (hb hby d2_17) (by decide) (by decide) ?_
        exact k
    obtain ⟨cl5, Ar5, -, S5, M5, H5, -⟩ := id A_a1
    have hin5 := inb_of (j := (6 : Int32)) S5 ⟨by decide, h2⟩
    have hat5 := H5.at hin5 (v := (.int s6)) (rfl)
    have st12 : ∀ t, Steps p.tables e below (s₁.setTop (mkF m 52 #[.val (.ref a1), .val (.ref a2), .val (.int (6 : Int32)), .val (.int p4), .val (.int (fat6_0 p4 n1 s0 s1 s2 s3 s4 s5 s6 r0 r1 r2 r3 r4 r5 r6))] [(.int (fat6_3 p4 n1 s0 s1 s2 s3 s4 s5 s6 r0 r1 r2 r3 r4 r5 r6))])) t → Steps p.tables e below (s₁.setTop (mkF m 28 #[.val (.ref a1), .val (.ref a2), .val (.int (6 : Int32)), .val (.int p4), .val (.int (fat6_0 p4 n1 s0 s1 s2 s3 s4 s5 s6 r0 r1 r2 r3 r4 r5 r6))] [(.int (fat6_0 p4 n1 s0 s1 s2 s3 s4 s5 s6 r0 r1 r2 r3 r4 r5 r6)), (.int s6)])) t := by
      intro t k
      by_cases h6 : s6 = (fat6_0 p4 n1 s0 s1 s2 s3 s4 s5 s6 r0 r1 r2 r3 r4 r5 r6)
      · obtain ⟨cl7, Ar7, -, S7, M7, H7, -⟩ := id A_a2
        have hin7 := inb_of (j := (6 : Int32)) S7 ⟨by decide, h2⟩
        have hat7 := H7.at hin7 (v := (.int r6)) (rfl)
        have st9 : ∀ t, Steps p.tables e below (s₁.setTop (mkF m 44 #[.val (.ref a1), .val (.ref a2), .val (.int (6 : Int32)), .val (.int p4), .val (.int (fat6_0 p4 n1 s0 s1 s2 s3 s4 s5 s6 r0 r1 r2 r3 r4 r5 r6))] [(.int (fat6_1 p4 n1 s0 s1 s2 s3 s4 s5 s6 r0 r1 r2 r3 r4 r5 r6)), (.int r6)])) t → Steps p.tables e below (s₁.setTop (mkF m 36 #[.val (.ref a1), .val (.ref a2), .val (.int (6 : Int32)), .val (.int p4), .val (.int (fat6_0 p4 n1 s0 s1 s2 s3 s4 s5 s6 r0 r1 r2 r3 r4 r5 r6))] [(.int (fat6_0 p4 n1 s0 s1 s2 s3 s4 s5 s6 r0 r1 r2 r3 r4 r5 r6)), (.int r6)])) t := by
          intro t k
          by_cases h8 : (fat6_0 p4 n1 s0 s1 s2 s3 s4 s5 s6 r0 r1 r2 r3 r4 r5 r6) = (0 : Int32)
          · rw [show (fat6_1 p4 n1 s0 s1 s2 s3 s4 s5 s6 r0 r1 r2 r3 r4 r5 r6) = (1 : Int32) from if_pos h8] at k
            show Steps p.tables e below (s₁.setTop (mkF m 36 #[.val (.ref a1), .val (.ref a2), .val (.int (6 : Int32)), .val (.int p4), .val (.int (fat6_0 p4 n1 s0 s1 s2 s3 s4 s5 s6 r0 r1 r2 r3 r4 r5 r6))] [(.int (fat6_0 p4 n1 s0 s1 s2 s3 s4 s5 s6 r0 r1 r2 r3 r4 r5 r6)), (.int r6)])) _
            refine XS.ifNo X0.here hx rfl (hb hby d2_36) rfl ((if0 _ _).trans (teq h8).2) ?_
            show Steps p.tables e below (s₁.setTop (mkF m 39 #[.val (.ref a1), .val (.ref a2), .val (.int (6 : Int32)), .val (.int p4), .val (.int (fat6_0 p4 n1 s0 s1 s2 s3 s4 s5 s6 r0 r1 r2 r3 r4 r5 r6))] [(.int r6)])) _
            refine XS.iconst X0.here hx rfl (hb hby d2_39) ?_
            show Steps p.tables e below (s₁.setTop (mkF m 40 #[.val (.ref a1), .val (.ref a2), .val (.int (6 : Int32)), .val (.int p4), .val (.int (fat6_0 p4 n1 s0 s1 s2 s3 s4 s5 s6 r0 r1 r2 r3 r4 r5 r6))] [(.int (1 : Int32)), (.int r6)])) _
            refine XS.goto X0.here hx rfl (pc0 := 40) (pc' := 44) rfl (hb hby d2_40) (by decide) (by decide) ?_
            exact k
          · rw [show (fat6_1 p4 n1 s0 s1 s2 s3 s4 s5 s6 r0 r1 r2 r3 r4 r5 r6) = (0 : Int32) from if_neg h8] at k
            show Steps p.tables e below (s₁.setTop (mkF m 36 #[.val (.ref a1), .val (.ref a2), .val (.int (6 : Int32)), .val (.int p4), .val (.int (fat6_0 p4 n1 s0 s1 s2 s3 s4 s5 s6 r0 r1 r2 r3 r4 r5 r6))] [(.int (fat6_0 p4 n1 s0 s1 s2 s3 s4 s5 s6 r0 r1 r2 r3 r4 r5 r6)), (.int r6)])) _
            refine XS.ifYes X0.here hx rfl (pc0 := 36) (pc' := 43) rfl (hb hby d2_36) rfl ((if0 _ _).trans (feq h8).2) (by decide) (by decide) ?_
            show Steps p.tables e below (s₁.setTop (mkF m 43 #[.val (.ref a1), .val (.ref a2), .val (.int (6 : Int32)), .val (.int p4), .val (.int (fat6_0 p4 n1 s0 s1 s2 s3 s4 s5 s6 r0 r1 r2 r3 r4 r5 r6))] [(.int r6)])) _
            refine XS.iconst X0.here hx rfl (hb hby d2_43) ?_
            exact k
        have st11 : ∀ t, Steps p.tables e below (s₁.setTop (mkF m 52 #[.val (.ref a1), .val (.ref a2), .val (.int (6 : Int32)), .val (.int p4), .val (.int (fat6_0 p4 n1 s0 s1 s2 s3 s4 s5 s6 r0 r1 r2 r3 r4 r5 r6))] [(.int (fat6_2 p4 n1 s0 s1 s2 s3 s4 s5 s6 r0 r1 r2 r3 r4 r5 r6))])) t → Steps p.tables e below (s₁.setTop (mkF m 44 #[.val (.ref a1), .val (.ref a2), .val (.int (6 : Int32)), .val (.int p4), .val (.int (fat6_0 p4 n1 s0 s1 s2 s3 s4 s5 s6 r0 r1 r2 r3 r4 r5 r6))] [(.int (fat6_1 p4 n1 s0 s1 s2 s3 s4 s5 s6 r0 r1 r2 r3 r4 r5 r6)), (.int r6)])) t := by
          intro t k
          by_cases h10 : r6 = (fat6_1 p4 n1 s0 s1 s2 s3 s4 s5 s6 r0 r1 r2 r3 r4 r5 r6)
          · rw [show (fat6_2 p4 n1 s0 s1 s2 s3 s4 s5 s6 r0 r1 r2 r3 r4 r5 r6) = (1 : Int32) from if_pos h10] at k
            show Steps p.tables e below (s₁.setTop (mkF m 44 #[.val (.ref a1), .val (.ref a2), .val (.int (6 : Int32)), .val (.int p4), .val (.int (fat6_0 p4 n1 s0 s1 s2 s3 s4 s5 s6 r0 r1 r2 r3 r4 r5 r6))] [(.int (fat6_1 p4 n1 s0 s1 s2 s3 s4 s5 s6 r0 r1 r2 r3 r4 r5 r6)), (.int r6)])) _
            refine XS.icmpNo X0.here hx rfl (hb hby d2_44) rfl (teq h10).2 ?_
            show Steps p.tables e below (s₁.setTop (mkF m 47 #[.val (.ref a1), .val (.ref a2), .val (.int (6 : Int32)), .val (.int p4), .val (.int (fat6_0 p4 n1 s0 s1 s2 s3 s4 s5 s6 r0 r1 r2 r3 r4 r5 r6))] [])) _
            refine XS.iconst X0.here hx rfl (hb hby d2_47) ?_
            show Steps p.tables e below (s₁.setTop (mkF m 48 #[.val (.ref a1), .val (.ref a2), .val (.int (6 : Int32)), .val (.int p4), .val (.int (fat6_0 p4 n1 s0 s1 s2 s3 s4 s5 s6 r0 r1 r2 r3 r4 r5 r6))] [(.int (1 : Int32))])) _
            refine XS.goto X0.here hx rfl (pc0 := 48) (pc' := 52) rfl (hb hby d2_48) (by decide) (by decide) ?_
            exact k
          · rw [show (fat6_2 p4 n1 s0 s1 s2 s3 s4 s5 s6 r0 r1 r2 r3 r4 r5 r6) = (0 : Int32) from if_neg h10] at k
            show Steps p.tables e below (s₁.setTop (mkF m 44 #[.val (.ref a1), .val (.ref a2), .val (.int (6 : Int32)), .val (.int p4), .val (.int (fat6_0 p4 n1 s0 s1 s2 s3 s4 s5 s6 r0 r1 r2 r3 r4 r5 r6))] [(.int (fat6_1 p4 n1 s0 s1 s2 s3 s4 s5 s6 r0 r1 r2 r3 r4 r5 r6)), (.int r6)])) _
            refine XS.icmpYes X0.here hx rfl (pc0 := 44) (pc' := 51) rfl (hb hby d2_44) rfl (feq h10).2 (by decide) (by decide) ?_
            show Steps p.tables e below (s₁.setTop (mkF m 51 #[.val (.ref a1), .val (.ref a2), .val (.int (6 : Int32)), .val (.int p4), .val (.int (fat6_0 p4 n1 s0 s1 s2 s3 s4 s5 s6 r0 r1 r2 r3 r4 r5 r6))] [])) _
            refine XS.iconst X0.here hx rfl (hb hby d2_51) ?_
            exact k
        rw [show (fat6_3 p4 n1 s0 s1 s2 s3 s4 s5 s6 r0 r1 r2 r3 r4 r5 r6) = (fat6_2 p4 n1 s0 s1 s2 s3 s4 s5 s6 r0 r1 r2 r3 r4 r5 r6) from if_pos h6] at k
        show Steps p.tables e below (s₁.setTop (mkF m 28 #[.val (.ref a1), .val (.ref a2), .val (.int (6 : Int32)), .val (.int p4), .val (.int (fat6_0 p4 n1 s0 s1 s2 s3 s4 s5 s6 r0 r1 r2 r3 r4 r5 r6))] [(.int (fat6_0 p4 n1 s0 s1 s2 s3 s4 s5 s6 r0 r1 r2 r3 r4 r5 r6)), (.int s6)])) _
        refine XS.icmpNo X0.here hx rfl (hb hby d2_28) rfl (teq h6).2 ?_
        show Steps p.tables e below (s₁.setTop (mkF m 31 #[.val (.ref a1), .val (.ref a2), .val (.int (6 : Int32)), .val (.int p4), .val (.int (fat6_0 p4 n1 s0 s1 s2 s3 s4 s5 s6 r0 r1 r2 r3 r4 r5 r6))] [])) _
        refine XS.aloadN X0.here hx rfl (hb hby d2_31) rfl rfl ?_
        show Steps p.tables e below (s₁.setTop (mkF m 32 #[.val (.ref a1), .val (.ref a2), .val (.int (6 : Int32)), .val (.int p4), .val (.int (fat6_0 p4 n1 s0 s1 s2 s3 s4 s5 s6 r0 r1 r2 r3 r4 r5 r6))] [(.ref a2)])) _
        refine XS.iloadN X0.here hx rfl (hb hby d2_32) rfl ?_
        show Steps p.tables e below (s₁.setTop (mkF m 33 #[.val (.ref a1), .val (.ref a2), .val (.int (6 : Int32)), .val (.int p4), .val (.int (fat6_0 p4 n1 s0 s1 s2 s3 s4 s5 s6 r0 r1 r2 r3 r4 r5 r6))] [(.int (6 : Int32)), (.ref a2)])) _
        refine X0.baloadBooleans hx (j := (6 : Int32)) (v := (.int r6)) (by rw [e0]; exact Ar7.1) (State.isArrayOf_alike hZ.alike Ar7.2.1) Ar7.2.2 hin7 hat7 (g := (mkF m 33 #[.val (.ref a1), .val (.ref a2), .val (.int (6 : Int32)), .val (.int p4), .val (.int (fat6_0 p4 n1 s0 s1 s2 s3 s4 s5 s6 r0 r1 r2 r3 r4 r5 r6))] [(.int (6 : Int32)), (.ref a2)])) rfl rfl (hb hby d2_33) _ ?_
        show Steps p.tables e below (s₁.setTop (mkF m 34 #[.val (.ref a1), .val (.ref a2), .val (.int (6 : Int32)), .val (.int p4), .val (.int (fat6_0 p4 n1 s0 s1 s2 s3 s4 s5 s6 r0 r1 r2 r3 r4 r5 r6))] [(.int r6)])) _
        refine XS.iload X0.here hx rfl (hb hby d2_34) rfl ?_
        show Steps p.tables e below (s₁.setTop (mkF m 36 #[.val (.ref a1), .val (.ref a2), .val (.int (6 : Int32)), .val (.int p4), .val (.int (fat6_0 p4 n1 s0 s1 s2 s3 s4 s5 s6 r0 r1 r2 r3 r4 r5 r6))] [(.int (fat6_0 p4 n1 s0 s1 s2 s3 s4 s5 s6 r0 r1 r2 r3 r4 r5 r6)), (.int r6)])) _
        refine st9 _ ?_
        show Steps p.tables e below (s₁.setTop (mkF m 44 #[.val (.ref a1), .val (.ref a2), .val (.int (6 : Int32)), .val (.int p4), .val (.int (fat6_0 p4 n1 s0 s1 s2 s3 s4 s5 s6 r0 r1 r2 r3 r4 r5 r6))] [(.int (fat6_1 p4 n1 s0 s1 s2 s3 s4 s5 s6 r0 r1 r2 r3 r4 r5 r6)), (.int r6)])) _
        refine st11 _ ?_
        exact k
      · rw [show (fat6_3 p4 n1 s0 s1 s2 s3 s4 s5 s6 r0 r1 r2 r3 r4 r5 r6) = (0 : Int32) from if_neg h6] at k
        show Steps p.tables e below (s₁.setTop (mkF m 28 #[.val (.ref a1), .val (.ref a2), .val (.int (6 : Int32)), .val (.int p4), .val (.int (fat6_0 p4 n1 s0 s1 s2 s3 s4 s5 s6 r0 r1 r2 r3 r4 r5 r6))] [(.int (fat6_0 p4 n1 s0 s1 s2 s3 s4 s5 s6 r0 r1 r2 r3 r4 r5 r6)), (.int s6)])) _
        refine XS.icmpYes X0.here hx rfl (pc0 := 28) (pc' := 51) rfl (hb hby d2_28) rfl (feq h6).2 (by decide) (by decide) ?_
        show Steps p.tables e below (s₁.setTop (mkF m 51 #[.val (.ref a1), .val (.ref a2), .val (.int (6 : Int32)), .val (.int p4), .val (.int (fat6_0 p4 n1 s0 s1 s2 s3 s4 s5 s6 r0 r1 r2 r3 r4 r5 r6))] [])) _
        refine XS.iconst X0.here hx rfl (hb hby d2_51) ?_
        exact k
    obtain ⟨fs, hr, hrun, hended, hW, hsame⟩ := X0.leave (v := some (.int ((fat6_3 p4 n1 s0 s1 s2 s3 s4 s5 s6 r0 r1 r2 r3 r4 r5 r6) &&& 1))) (fun h => by rw [Bd.returns] at h; cases h)
    refine ⟨_, _, ?_, hrun, hended, _, _, rfl, ?_, ⟨_, rfl⟩, hW, hsame.mono (by decide) (by decide)⟩
    · show Steps p.tables e below (s₁.setTop (mkF m 3 #[.val (.ref a1), .val (.ref a2), .val (.int (6 : Int32)), .val (.int p4), .unset] [(.int n1), (.int (6 : Int32))])) _
      refine XS.icmpYes X0.here hx rfl (pc0 := 3) (pc' := 8) rfl (hb hby d2_3) rfl (tlt h2).1 (by decide) (by decide) ?_
      show Steps p.tables e below (s₁.setTop (mkF m 8 #[.val (.ref a1), .val (.ref a2), .val (.int (6 : Int32)), .val (.int p4), .unset] [])) _
      refine XS.iloadN X0.here hx rfl (hb hby d2_8) rfl ?_
      show Steps p.tables e below (s₁.setTop (mkF m 9 #[.val (.ref a1), .val (.ref a2), .val (.int (6 : Int32)), .val (.int p4), .unset] [(.int p4)])) _
      refine XS.iloadN X0.here hx rfl (hb hby d2_9) rfl ?_
      show Steps p.tables e below (s₁.setTop (mkF m 10 #[.val (.ref a1), .val (.ref a2), .val (.int (6 : Int32)), .val (.int p4), .unset] [(.int (6 : Int32)), (.int p4)])) _
      refine XT.iushr X0.here hx rfl (hb hby d2_10) rfl ?_
      show Steps p.tables e below (s₁.setTop (mkF m 11 #[.val (.ref a1), .val (.ref a2), .val (.int (6 : Int32)), .val (.int p4), .unset] [(.int (XT.ushr p4 (6 : Int32)))])) _
      refine XS.iconst X0.here hx rfl (hb hby d2_11) ?_
      show Steps p.tables e below (s₁.setTop (mkF m 12 #[.val (.ref a1), .val (.ref a2), .val (.int (6 : Int32)), .val (.int p4), .unset] [(.int (1 : Int32)), (.int (XT.ushr p4 (6 : Int32)))])) _
      refine XS.iand X0.here hx rfl (hb hby d2_12) rfl ?_
      show Steps p.tables e below (s₁.setTop (mkF m 13 #[.val (.ref a1), .val (.ref a2), .val (.int (6 : Int32)), .val (.int p4), .unset] [(.int ((XT.ushr p4 (6 : Int32)) &&& (1 : Int32)))])) _
      refine st4 _ ?_
      show Steps p.tables e below (s₁.setTop (mkF m 21 #[.val (.ref a1), .val (.ref a2), .val (.int (6 : Int32)), .val (.int p4), .unset] [(.int (fat6_0 p4 n1 s0 s1 s2 s3 s4 s5 s6 r0 r1 r2 r3 r4 r5 r6))])) _
      refine XS.istore X0.here hx rfl (hb hby d2_21) rfl (l' := #[.val (.ref a1), .val (.ref a2), .val (.int (6 : Int32)), .val (.int p4), .val (.int (fat6_0 p4 n1 s0 s1 s2 s3 s4 s5 s6 r0 r1 r2 r3 r4 r5 r6))]) rfl ?_
      show Steps p.tables e below (s₁.setTop (mkF m 23 #[.val (.ref a1), .val (.ref a2), .val (.int (6 : Int32)), .val (.int p4), .val (.int (fat6_0 p4 n1 s0 s1 s2 s3 s4 s5 s6 r0 r1 r2 r3 r4 r5 r6))] [])) _
      refine XS.aloadN X0.here hx rfl (hb hby d2_23) rfl rfl ?_
      show Steps p.tables e below (s₁.setTop (mkF m 24 #[.val (.ref a1), .val (.ref a2), .val (.int (6 : Int32)), .val (.int p4), .val (.int (fat6_0 p4 n1 s0 s1 s2 s3 s4 s5 s6 r0 r1 r2 r3 r4 r5 r6))] [(.ref a1)])) _
      refine XS.iloadN X0.here hx rfl (hb hby d2_24) rfl ?_
      show Steps p.tables e below (s₁.setTop (mkF m 25 #[.val (.ref a1), .val (.ref a2), .val (.int (6 : Int32)), .val (.int p4), .val (.int (fat6_0 p4 n1 s0 s1 s2 s3 s4 s5 s6 r0 r1 r2 r3 r4 r5 r6))] [(.int (6 : Int32)), (.ref a1)])) _
      refine X0.baloadBooleans hx (j := (6 : Int32)) (v := (.int s6)) (by rw [e0]; exact Ar5.1) (State.isArrayOf_alike hZ.alike Ar5.2.1) Ar5.2.2 hin5 hat5 (g := (mkF m 25 #[.val (.ref a1), .val (.ref a2), .val (.int (6 : Int32)), .val (.int p4), .val (.int (fat6_0 p4 n1 s0 s1 s2 s3 s4 s5 s6 r0 r1 r2 r3 r4 r5 r6))] [(.int (6 : Int32)), (.ref a1)])) rfl rfl (hb hby d2_25) _ ?_
      show Steps p.tables e below (s₁.setTop (mkF m 26 #[.val (.ref a1), .val (.ref a2), .val (.int (6 : Int32)), .val (.int p4), .val (.int (fat6_0 p4 n1 s0 s1 s2 s3 s4 s5 s6 r0 r1 r2 r3 r4 r5 r6))] [(.int s6)])) _
      refine XS.iload X0.here hx rfl (hb hby d2_26) rfl ?_
      show Steps p.tables e below (s₁.setTop (mkF m 28 #[.val (.ref a1), .val (.ref a2), .val (.int (6 : Int32)), .val (.int p4), .val (.int (fat6_0 p4 n1 s0 s1 s2 s3 s4 s5 s6 r0 r1 r2 r3 r4 r5 r6))] [(.int (fat6_0 p4 n1 s0 s1 s2 s3 s4 s5 s6 r0 r1 r2 r3 r4 r5 r6)), (.int s6)])) _
      refine st12 _ ?_
      show Steps p.tables e below (s₁.setTop (mkF m 52 #[.val (.ref a1), .val (.ref a2), .val (.int (6 : Int32)), .val (.int p4), .val (.int (fat6_0 p4 n1 s0 s1 s2 s3 s4 s5 s6 r0 r1 r2 r3 r4 r5 r6))] [(.int (fat6_3 p4 n1 s0 s1 s2 s3 s4 s5 s6 r0 r1 r2 r3 r4 r5 r6))])) _
      exact retN X0 hx (t := .boolean) Bd.returns (by simp) (hb hby d2_52) hr
    · show Qat6 Z a1 a2 p4 k1 n1 s0 s1 s2 s3 s4 s5 s6 k2 r0 r1 r2 r3 r4 r5 r6 h0 n0 _ s₁.heap _
      rw [e0]
      have hf : fat6 p4 n1 s0 s1 s2 s3 s4 s5 s6 r0 r1 r2 r3 r4 r5 r6 = ((fat6_3 p4 n1 s0 s1 s2 s3 s4 s5 s6 r0 r1 r2 r3 r4 r5 r6) &&& 1) := by simp only [fat6, if_pos h2]
      exact ⟨by rw [hf], N0, rfl⟩
  · obtain ⟨fs, hr, hrun, hended, hW, hsame⟩ := X0.leave (v := some (.int (1 : Int32))) (fun h => by rw [Bd.returns] at h; cases h)
    refine ⟨_, _, ?_, hrun, hended, _, _, rfl, ?_, ⟨_, rfl⟩, hW, hsame.mono (by decide) (by decide)⟩
    · show Steps p.tables e below (s₁.setTop (mkF m 3 #[.val (.ref a1), .val (.ref a2), .val (.int (6 : Int32)), .val (.int p4), .unset] [(.int n1), (.int (6 : Int32))])) _
      refine XS.icmpNo X0.here hx rfl (hb hby d2_3) rfl (flt h2).1 ?_
      show Steps p.tables e below (s₁.setTop (mkF m 6 #[.val (.ref a1), .val (.ref a2), .val (.int (6 : Int32)), .val (.int p4), .unset] [])) _
      refine XS.iconst X0.here hx rfl (hb hby d2_6) ?_
      show Steps p.tables e below (s₁.setTop (mkF m 7 #[.val (.ref a1), .val (.ref a2), .val (.int (6 : Int32)), .val (.int p4), .unset] [(.int (1 : Int32))])) _
      exact retN X0 hx (t := .boolean) Bd.returns (by simp) (hb hby d2_7) hr
    · show Qat6 Z a1 a2 p4 k1 n1 s0 s1 s2 s3 s4 s5 s6 k2 r0 r1 r2 r3 r4 r5 r6 h0 n0 _ s₁.heap _
      rw [e0]
      have hf : fat6 p4 n1 s0 s1 s2 s3 s4 s5 s6 r0 r1 r2 r3 r4 r5 r6 = (1 : Int32) := by simp only [fat6, if_neg h2]
      exact ⟨by rw [hf], N0, rfl⟩
theorem pn_0 : plainName "com/example/bonn/bonn/FormulaComplementPinLaw" = true := by first | (simp [plainName, overriddenIn]; done) | decide +kernel
theorem ef_0 (m : MethodId) (p1 : Int32) (p2 : Int32) : entryFrame m #[(.int p1), (.int p2)] maxLocals = mkF m 0 #[.val (.int p1), .val (.int p2), .unset, .unset, .unset] [] := by first | (simp [entryFrame, mkF, argsToLocals, Value.category, maxLocals]; done) | rfl
def Q0 (Z : State) (p1 : Int32) (p2 : Int32) (h0 : Heap) (n0 : Nat) (v : Option Value) (h : Heap) (L : List Loc) : Prop := v = some (.int (1 : Int32)) ∧ Fr n0 L
set_option maxRecDepth 65536 in
set_option maxHeartbeats 40000000 in
theorem rm0 (l : Launch) (Z : State) (a0 : Array Value) (hw : ∀ d ∈ tables_1, d.before a0 Z = true) (ws : List Jvm.Cond) (p1 : Int32) (p2 : Int32) (h0 : Heap) (n0 : Nat) (Z0 : n0 ≤ h0.size) :
    MetFree l x (head1 (Jvm.Cond.code x code maxLocals ret :: ws) room_1) (fun a U => a = #[(.int p1), (.int p2)] ∧ Z.Warmed39 U.vm ∧ U.heap = h0) (fun _ _ _ _ _ => True) (fun _ U o U' => ∃ v L, o = .returned v ∧ Q0 Z p1 p2 h0 n0 v U'.heap L ∧ FrameEnd U o U' L room_1.cells room_1.slots) := by
  refine MetFree.of_bodySF (plainFor_of_name pn_0) hisR ?_
  intro p e s m args below meth c s₁ Bd hml0 hP hK
  obtain ⟨rfl, hZ, hh⟩ := hP
  have hx := Bd.exec
  have hby := Bd.bytes
  have hml : c.maxLocals = 5 := hml0
  have hown : s.vm.findClass "com/example/bonn/bonn/FormulaComplementPinLaw" = some m.cls := findClass_of_methodNamed Bd.named
  have hnm := (name_of_methodNamed Bd.named Bd.method).1
  have X0 : Stand p l e room_1 s m #[(.int p1), (.int p2)] below meth c s₁ [] 0 0 := Stand.of_body Bd
  have e0 : s₁.heap = h0 := by rw [← hh, Bd.state]; rfl
  have N0 := Fr.nil n0
  have pre0 : ∀ t, Steps p.tables e below (s₁.setTop (mkF m 0 #[.val (.int p1), .val (.int p2), .unset, .unset, .unset] [])) t → Steps p.tables e below (s₁.setTop (entryFrame m #[(.int p1), (.int p2)] maxLocals)) t := fun t k => castTop (ef_0 m p1 p2) k
  refine own_step (Q := fun o U' => ∃ v L, o = .returned v ∧ Q0 Z p1 p2 h0 n0 v U'.heap L ∧ FrameEnd s o U' L room_1.cells room_1.slots) pre0 ?_
  have K0 : Keep h0 h0 [] := Keep.refl h0 []
  obtain ⟨T1, h1, kc1, X1, e1, E1, A1, st1⟩ := newP X0 hx hZ (hw _ (List.mem_of_getElem? (i := 0) rfl)) e0 (g := (mkF m 6 #[.val (.int p1), .val (.int p2), .val (.int (p2 &&& (7 : Int32))), .unset, .unset] [(.int (p2 &&& (7 : Int32)))])) rfl (hb hby at_6) (n := (p2 &&& (7 : Int32))) (rest := []) rfl (own_nn (own_m7 p2)) (cap := 7) (own_cap (own_m7 p2)) (by decide) (by decide) (by decide)
  obtain ⟨o1, g1⟩ : ∃ z, z = h0.size := ⟨_, rfl⟩
  rw [← g1] at A1 st1
  have ge1 : n0 ≤ o1 := Nat.le_trans Z0 (Nat.le_of_eq g1.symm)
  have Z1 : n0 ≤ h1.size := Nat.le_trans Z0 E1.1
  have sz1 : h0.size ≤ o1 := Nat.le_trans K0.1 (Nat.le_of_eq g1.symm)
  have K1 := K0.ext E1
  have V1 : Arv Z h1 o1 kc1 .boolean (p2 &&& (7 : Int32)) [(.int (0 : Int32)), (.int (0 : Int32)), (.int (0 : Int32)), (.int (0 : Int32)), (.int (0 : Int32)), (.int (0 : Int32)), (.int (0 : Int32))] (.int (0 : Int32)) := (Arv.new A1 (own_nn (own_m7 p2))).pad (pad_rep [] (.int (0 : Int32)) 7)
  obtain ⟨T6, lo6, h6, X6, e6, N6, Z6, K6, m6_0, st6⟩ : ∃ (T' : State) (lo : List Loc) (h' : Heap) (_ : Stand p l e room_1 s m #[(.int p1), (.int p2)] below meth c T' lo 1 7), T'.heap = h' ∧ Fr n0 lo ∧ n0 ≤ h'.size ∧ Keep h0 h' [] ∧ Arv Z h' o1 kc1 .boolean (p2 &&& (7 : Int32)) [(.int (f0_1 p1 p2)), (.int (0 : Int32)), (.int (0 : Int32)), (.int (0 : Int32)), (.int (0 : Int32)), (.int (0 : Int32)), (.int (0 : Int32))] (.int (0 : Int32)) ∧ ∀ t, Steps p.tables e below (T'.setTop (mkF m 27 #[.val (.int p1), .val (.int p2), .val (.int (p2 &&& (7 : Int32))), .val (.ref o1), .unset] [])) t → Steps p.tables e below (T1.setTop (mkF m 10 #[.val (.int p1), .val (.int p2), .val (.int (p2 &&& (7 : Int32))), .val (.ref o1), .unset] [(.int (p2 &&& (7 : Int32)))])) t := by
    by_cases h2 : (0 : Int32) < (p2 &&& (7 : Int32))
    · have st4 : ∀ t, Steps p.tables e below (T1.setTop (mkF m 26 #[.val (.int p1), .val (.int p2), .val (.int (p2 &&& (7 : Int32))), .val (.ref o1), .unset] [(.int (f0_0 p1 p2)), (.int (0 : Int32)), (.ref o1)])) t → Steps p.tables e below (T1.setTop (mkF m 18 #[.val (.int p1), .val (.int p2), .val (.int (p2 &&& (7 : Int32))), .val (.ref o1), .unset] [(.int (p1 &&& (1 : Int32))), (.int (0 : Int32)), (.ref o1)])) t := by
        intro t k
        by_cases h3 : (p1 &&& (1 : Int32)) = (0 : Int32)
        · rw [show (f0_0 p1 p2) = (0 : Int32) from if_pos h3] at k
          show Steps p.tables e below (T1.setTop (mkF m 18 #[.val (.int p1), .val (.int p2), .val (.int (p2 &&& (7 : Int32))), .val (.ref o1), .unset] [(.int (p1 &&& (1 : Int32))), (.int (0 : Int32)), (.ref o1)])) _
          refine XS.ifYes X1.here hx rfl (pc0 := 18) (pc' := 25) rfl (hb hby at_18) rfl ((if0 _ _).trans (teq h3).1) (by decide) (by decide) ?_
          show Steps p.tables e below (T1.setTop (mkF m 25 #[.val (.int p1), .val (.int p2), .val (.int (p2 &&& (7 : Int32))), .val (.ref o1), .unset] [(.int (0 : Int32)), (.ref o1)])) _
          refine XS.iconst X1.here hx rfl (hb hby at_25) ?_
          exact k
        · rw [show (f0_0 p1 p2) = (1 : Int32) from if_neg h3] at k
          show Steps p.tables e below (T1.setTop (mkF m 18 #[.val (.int p1), .val (.int p2), .val (.int (p2 &&& (7 : Int32))), .val (.ref o1), .unset] [(.int (p1 &&& (1 : Int32))), (.int (0 : Int32)), (.ref o1)])) _
          refine XS.ifNo X1.here hx rfl (hb hby at_18) rfl ((if0 _ _).trans (feq h3).1) ?_
          show Steps p.tables e below (T1.setTop (mkF m 21 #[.val (.int p1), .val (.int p2), .val (.int (p2 &&& (7 : Int32))), .val (.ref o1), .unset] [(.int (0 : Int32)), (.ref o1)])) _
          refine XS.iconst X1.here hx rfl (hb hby at_21) ?_
          show Steps p.tables e below (T1.setTop (mkF m 22 #[.val (.int p1), .val (.int p2), .val (.int (p2 &&& (7 : Int32))), .val (.ref o1), .unset] [(.int (1 : Int32)), (.int (0 : Int32)), (.ref o1)])) _
          refine XS.goto X1.here hx rfl (pc0 := 22) (pc' := 26) rfl (hb hby at_22) (by decide) (by decide) ?_
          exact k
      obtain ⟨cl5, Ar5, q5, S5, M5, H5, G5⟩ := id V1
      obtain ⟨T5, h5, X5, e5, W5, st5⟩ := stZ X1 hx hZ e1 Ar5 (j := (0 : Int32)) (inb_of S5 ⟨by decide, h2⟩) (g := (mkF m 26 #[.val (.int p1), .val (.int p2), .val (.int (p2 &&& (7 : Int32))), .val (.ref o1), .unset] [(.int (f0_0 p1 p2)), (.int (0 : Int32)), (.ref o1)])) rfl rfl (hb hby at_26)
      have K5 := K1.wr W5 (Or.inr sz1)
      have Z5 : n0 ≤ h5.size := Nat.le_trans Z1 (Keep.of_wr W5).1
      have N5 := Fr.snoc X5 N0 ge1
      have V5 : Arv Z h5 o1 kc1 .boolean (p2 &&& (7 : Int32)) [(.int ((f0_0 p1 p2) &&& 1)), (.int (0 : Int32)), (.int (0 : Int32)), (.int (0 : Int32)), (.int (0 : Int32)), (.int (0 : Int32)), (.int (0 : Int32))] (.int (0 : Int32)) := Arv.set Ar5 q5 S5 M5 H5 G5 (fits_nar_bool _) W5 0 (by decide) (by show 0 < 7; decide)
      rw [show (f0_1 p1 p2) = ((f0_0 p1 p2) &&& 1) from if_pos h2]
      refine ⟨T5, _, h5, X5, e5, N5, Z5, K5, V5, fun t k => ?_⟩
      show Steps p.tables e below (T1.setTop (mkF m 10 #[.val (.int p1), .val (.int p2), .val (.int (p2 &&& (7 : Int32))), .val (.ref o1), .unset] [(.int (p2 &&& (7 : Int32)))])) _
      refine XS.ifNo X1.here hx rfl (hb hby at_10) rfl ((if0 _ _).trans (tlt h2).2.2.2) ?_
      show Steps p.tables e below (T1.setTop (mkF m 13 #[.val (.int p1), .val (.int p2), .val (.int (p2 &&& (7 : Int32))), .val (.ref o1), .unset] [])) _
      refine XS.aloadN X1.here hx rfl (hb hby at_13) rfl rfl ?_
      show Steps p.tables e below (T1.setTop (mkF m 14 #[.val (.int p1), .val (.int p2), .val (.int (p2 &&& (7 : Int32))), .val (.ref o1), .unset] [(.ref o1)])) _
      refine XS.iconst X1.here hx rfl (hb hby at_14) ?_
      show Steps p.tables e below (T1.setTop (mkF m 15 #[.val (.int p1), .val (.int p2), .val (.int (p2 &&& (7 : Int32))), .val (.ref o1), .unset] [(.int (0 : Int32)), (.ref o1)])) _
      refine XS.iloadN X1.here hx rfl (hb hby at_15) rfl ?_
      show Steps p.tables e below (T1.setTop (mkF m 16 #[.val (.int p1), .val (.int p2), .val (.int (p2 &&& (7 : Int32))), .val (.ref o1), .unset] [(.int p1), (.int (0 : Int32)), (.ref o1)])) _
      refine XS.iconst X1.here hx rfl (hb hby at_16) ?_
      show Steps p.tables e below (T1.setTop (mkF m 17 #[.val (.int p1), .val (.int p2), .val (.int (p2 &&& (7 : Int32))), .val (.ref o1), .unset] [(.int (1 : Int32)), (.int p1), (.int (0 : Int32)), (.ref o1)])) _
      refine XS.iand X1.here hx rfl (hb hby at_17) rfl ?_
      show Steps p.tables e below (T1.setTop (mkF m 18 #[.val (.int p1), .val (.int p2), .val (.int (p2 &&& (7 : Int32))), .val (.ref o1), .unset] [(.int (p1 &&& (1 : Int32))), (.int (0 : Int32)), (.ref o1)])) _
      refine st4 _ ?_
      show Steps p.tables e below (T1.setTop (mkF m 26 #[.val (.int p1), .val (.int p2), .val (.int (p2 &&& (7 : Int32))), .val (.ref o1), .unset] [(.int (f0_0 p1 p2)), (.int (0 : Int32)), (.ref o1)])) _
      refine st5 _ ?_
      exact k
    · rw [show (f0_1 p1 p2) = (0 : Int32) from if_neg h2]
      refine ⟨T1, _, h1, X1, e1, N0, Z1, K1, V1, fun t k => ?_⟩
      show Steps p.tables e below (T1.setTop (mkF m 10 #[.val (.int p1), .val (.int p2), .val (.int (p2 &&& (7 : Int32))), .val (.ref o1), .unset] [(.int (p2 &&& (7 : Int32)))])) _
      refine XS.ifYes X1.here hx rfl (pc0 := 10) (pc' := 27) rfl (hb hby at_10) rfl ((if0 _ _).trans (flt h2).2.2.2) (by decide) (by decide) ?_
      exact k
  obtain ⟨T11, lo11, h11, X11, e11, N11, Z11, K11, m11_0, st11⟩ : ∃ (T' : State) (lo : List Loc) (h' : Heap) (_ : Stand p l e room_1 s m #[(.int p1), (.int p2)] below meth c T' lo 1 7), T'.heap = h' ∧ Fr n0 lo ∧ n0 ≤ h'.size ∧ Keep h0 h' [] ∧ Arv Z h' o1 kc1 .boolean (p2 &&& (7 : Int32)) [(.int (f0_1 p1 p2)), (.int (f0_3 p1 p2)), (.int (0 : Int32)), (.int (0 : Int32)), (.int (0 : Int32)), (.int (0 : Int32)), (.int (0 : Int32))] (.int (0 : Int32)) ∧ ∀ t, Steps p.tables e below (T'.setTop (mkF m 46 #[.val (.int p1), .val (.int p2), .val (.int (p2 &&& (7 : Int32))), .val (.ref o1), .unset] [])) t → Steps p.tables e below (T6.setTop (mkF m 29 #[.val (.int p1), .val (.int p2), .val (.int (p2 &&& (7 : Int32))), .val (.ref o1), .unset] [(.int (1 : Int32)), (.int (p2 &&& (7 : Int32)))])) t := by
    by_cases h7 : (1 : Int32) < (p2 &&& (7 : Int32))
    · have st9 : ∀ t, Steps p.tables e below (T6.setTop (mkF m 45 #[.val (.int p1), .val (.int p2), .val (.int (p2 &&& (7 : Int32))), .val (.ref o1), .unset] [(.int (f0_2 p1 p2)), (.int (1 : Int32)), (.ref o1)])) t → Steps p.tables e below (T6.setTop (mkF m 37 #[.val (.int p1), .val (.int p2), .val (.int (p2 &&& (7 : Int32))), .val (.ref o1), .unset] [(.int (p1 &&& (2 : Int32))), (.int (1 : Int32)), (.ref o1)])) t := by
        intro t k
        by_cases h8 : (p1 &&& (2 : Int32)) = (0 : Int32)
        · rw [show (f0_2 p1 p2) = (0 : Int32) from if_pos h8] at k
          show Steps p.tables e below (T6.setTop (mkF m 37 #[.val (.int p1), .val (.int p2), .val (.int (p2 &&& (7 : Int32))), .val (.ref o1), .unset] [(.int (p1 &&& (2 : Int32))), (.int (1 : Int32)), (.ref o1)])) _
          refine XS.ifYes X6.here hx rfl (pc0 := 37) (pc' := 44) rfl (hb hby at_37) rfl ((if0 _ _).trans (teq h8).1) (by decide) (by decide) ?_
          show Steps p.tables e below (T6.setTop (mkF m 44 #[.val (.int p1), .val (.int p2), .val (.int (p2 &&& (7 : Int32))), .val (.ref o1), .unset] [(.int (1 : Int32)), (.ref o1)])) _
          refine XS.iconst X6.here hx rfl (hb hby at_44) ?_
          exact k
        · rw [show (f0_2 p1 p2) = (1 : Int32) from if_neg h8] at k
          show Steps p.tables e below (T6.setTop (mkF m 37 #[.val (.int p1), .val (.int p2), .val (.int (p2 &&& (7 : Int32))), .val (.ref o1), .unset] [(.int (p1 &&& (2 : Int32))), (.int (1 : Int32)), (.ref o1)])) _
          refine XS.ifNo X6.here hx rfl (hb hby at_37) rfl ((if0 _ _).trans (feq h8).1) ?_
          show Steps p.tables e below (T6.setTop (mkF m 40 #[.val (.int p1), .val (.int p2), .val (.int (p2 &&& (7 : Int32))), .val (.ref o1), .unset] [(.int (1 : Int32)), (.ref o1)])) _
          refine XS.iconst X6.here hx rfl (hb hby at_40) ?_
          show Steps p.tables e below (T6.setTop (mkF m 41 #[.val (.int p1), .val (.int p2), .val (.int (p2 &&& (7 : Int32))), .val (.ref o1), .unset] [(.int (1 : Int32)), (.int (1 : Int32)), (.ref o1)])) _
          refine XS.goto X6.here hx rfl (pc0 := 41) (pc' := 45) rfl (hb hby at_41) (by decide) (by decide) ?_
          exact k
      obtain ⟨cl10, Ar10, q10, S10, M10, H10, G10⟩ := id m6_0
      obtain ⟨T10, h10, X10, e10, W10, st10⟩ := stZ X6 hx hZ e6 Ar10 (j := (1 : Int32)) (inb_of S10 ⟨by decide, h7⟩) (g := (mkF m 45 #[.val (.int p1), .val (.int p2), .val (.int (p2 &&& (7 : Int32))), .val (.ref o1), .unset] [(.int (f0_2 p1 p2)), (.int (1 : Int32)), (.ref o1)])) rfl rfl (hb hby at_45)
      have K10 := K6.wr W10 (Or.inr sz1)
      have Z10 : n0 ≤ h10.size := Nat.le_trans Z6 (Keep.of_wr W10).1
      have N10 := Fr.snoc X10 N6 ge1
      have V10 : Arv Z h10 o1 kc1 .boolean (p2 &&& (7 : Int32)) [(.int (f0_1 p1 p2)), (.int ((f0_2 p1 p2) &&& 1)), (.int (0 : Int32)), (.int (0 : Int32)), (.int (0 : Int32)), (.int (0 : Int32)), (.int (0 : Int32))] (.int (0 : Int32)) := Arv.set Ar10 q10 S10 M10 H10 G10 (fits_nar_bool _) W10 1 (by decide) (by show 1 < 7; decide)
      rw [show (f0_3 p1 p2) = ((f0_2 p1 p2) &&& 1) from if_pos h7]
      refine ⟨T10, _, h10, X10, e10, N10, Z10, K10, V10, fun t k => ?_⟩
      show Steps p.tables e below (T6.setTop (mkF m 29 #[.val (.int p1), .val (.int p2), .val (.int (p2 &&& (7 : Int32))), .val (.ref o1), .unset] [(.int (1 : Int32)), (.int (p2 &&& (7 : Int32)))])) _
      refine XS.icmpNo X6.here hx rfl (hb hby at_29) rfl (tlt h7).2.2.2 ?_
      show Steps p.tables e below (T6.setTop (mkF m 32 #[.val (.int p1), .val (.int p2), .val (.int (p2 &&& (7 : Int32))), .val (.ref o1), .unset] [])) _
      refine XS.aloadN X6.here hx rfl (hb hby at_32) rfl rfl ?_
      show Steps p.tables e below (T6.setTop (mkF m 33 #[.val (.int p1), .val (.int p2), .val (.int (p2 &&& (7 : Int32))), .val (.ref o1), .unset] [(.ref o1)])) _
      refine XS.iconst X6.here hx rfl (hb hby at_33) ?_
      show Steps p.tables e below (T6.setTop (mkF m 34 #[.val (.int p1), .val (.int p2), .val (.int (p2 &&& (7 : Int32))), .val (.ref o1), .unset] [(.int (1 : Int32)), (.ref o1)])) _
      refine XS.iloadN X6.here hx rfl (hb hby at_34) rfl ?_
      show Steps p.tables e below (T6.setTop (mkF m 35 #[.val (.int p1), .val (.int p2), .val (.int (p2 &&& (7 : Int32))), .val (.ref o1), .unset] [(.int p1), (.int (1 : Int32)), (.ref o1)])) _
      refine XS.iconst X6.here hx rfl (hb hby at_35) ?_
      show Steps p.tables e below (T6.setTop (mkF m 36 #[.val (.int p1), .val (.int p2), .val (.int (p2 &&& (7 : Int32))), .val (.ref o1), .unset] [(.int (2 : Int32)), (.int p1), (.int (1 : Int32)), (.ref o1)])) _
      refine XS.iand X6.here hx rfl (hb hby at_36) rfl ?_
      show Steps p.tables e below (T6.setTop (mkF m 37 #[.val (.int p1), .val (.int p2), .val (.int (p2 &&& (7 : Int32))), .val (.ref o1), .unset] [(.int (p1 &&& (2 : Int32))), (.int (1 : Int32)), (.ref o1)])) _
      refine st9 _ ?_
      show Steps p.tables e below (T6.setTop (mkF m 45 #[.val (.int p1), .val (.int p2), .val (.int (p2 &&& (7 : Int32))), .val (.ref o1), .unset] [(.int (f0_2 p1 p2)), (.int (1 : Int32)), (.ref o1)])) _
      refine st10 _ ?_
      exact k
    · rw [show (f0_3 p1 p2) = (0 : Int32) from if_neg h7]
      refine ⟨T6, _, h6, X6, e6, N6, Z6, K6, m6_0, fun t k => ?_⟩
      show Steps p.tables e below (T6.setTop (mkF m 29 #[.val (.int p1), .val (.int p2), .val (.int (p2 &&& (7 : Int32))), .val (.ref o1), .unset] [(.int (1 : Int32)), (.int (p2 &&& (7 : Int32)))])) _
      refine XS.icmpYes X6.here hx rfl (pc0 := 29) (pc' := 46) rfl (hb hby at_29) rfl (flt h7).2.2.2 (by decide) (by decide) ?_
      exact k
  obtain ⟨T16, lo16, h16, X16, e16, N16, Z16, K16, m16_0, st16⟩ : ∃ (T' : State) (lo : List Loc) (h' : Heap) (_ : Stand p l e room_1 s m #[(.int p1), (.int p2)] below meth c T' lo 1 7), T'.heap = h' ∧ Fr n0 lo ∧ n0 ≤ h'.size ∧ Keep h0 h' [] ∧ Arv Z h' o1 kc1 .boolean (p2 &&& (7 : Int32)) [(.int (f0_1 p1 p2)), (.int (f0_3 p1 p2)), (.int (f0_5 p1 p2)), (.int (0 : Int32)), (.int (0 : Int32)), (.int (0 : Int32)), (.int (0 : Int32))] (.int (0 : Int32)) ∧ ∀ t, Steps p.tables e below (T'.setTop (mkF m 65 #[.val (.int p1), .val (.int p2), .val (.int (p2 &&& (7 : Int32))), .val (.ref o1), .unset] [])) t → Steps p.tables e below (T11.setTop (mkF m 48 #[.val (.int p1), .val (.int p2), .val (.int (p2 &&& (7 : Int32))), .val (.ref o1), .unset] [(.int (2 : Int32)), (.int (p2 &&& (7 : Int32)))])) t := by
    by_cases h12 : (2 : Int32) < (p2 &&& (7 : Int32))
    · have st14 : ∀ t, Steps p.tables e below (T11.setTop (mkF m 64 #[.val (.int p1), .val (.int p2), .val (.int (p2 &&& (7 : Int32))), .val (.ref o1), .unset] [(.int (f0_4 p1 p2)), (.int (2 : Int32)), (.ref o1)])) t → Steps p.tables e below (T11.setTop (mkF m 56 #[.val (.int p1), .val (.int p2), .val (.int (p2 &&& (7 : Int32))), .val (.ref o1), .unset] [(.int (p1 &&& (4 : Int32))), (.int (2 : Int32)), (.ref o1)])) t := by
        intro t k
        by_cases h13 : (p1 &&& (4 : Int32)) = (0 : Int32)
        · rw [show (f0_4 p1 p2) = (0 : Int32) from if_pos h13] at k
          show Steps p.tables e below (T11.setTop (mkF m 56 #[.val (.int p1), .val (.int p2), .val (.int (p2 &&& (7 : Int32))), .val (.ref o1), .unset] [(.int (p1 &&& (4 : Int32))), (.int (2 : Int32)), (.ref o1)])) _
          refine XS.ifYes X11.here hx rfl (pc0 := 56) (pc' := 63) rfl (hb hby at_56) rfl ((if0 _ _).trans (teq h13).1) (by decide) (by decide) ?_
          show Steps p.tables e below (T11.setTop (mkF m 63 #[.val (.int p1), .val (.int p2), .val (.int (p2 &&& (7 : Int32))), .val (.ref o1), .unset] [(.int (2 : Int32)), (.ref o1)])) _
          refine XS.iconst X11.here hx rfl (hb hby at_63) ?_
          exact k
        · rw [show (f0_4 p1 p2) = (1 : Int32) from if_neg h13] at k
          show Steps p.tables e below (T11.setTop (mkF m 56 #[.val (.int p1), .val (.int p2), .val (.int (p2 &&& (7 : Int32))), .val (.ref o1), .unset] [(.int (p1 &&& (4 : Int32))), (.int (2 : Int32)), (.ref o1)])) _
          refine XS.ifNo X11.here hx rfl (hb hby at_56) rfl ((if0 _ _).trans (feq h13).1) ?_
          show Steps p.tables e below (T11.setTop (mkF m 59 #[.val (.int p1), .val (.int p2), .val (.int (p2 &&& (7 : Int32))), .val (.ref o1), .unset] [(.int (2 : Int32)), (.ref o1)])) _
          refine XS.iconst X11.here hx rfl (hb hby at_59) ?_
          show Steps p.tables e below (T11.setTop (mkF m 60 #[.val (.int p1), .val (.int p2), .val (.int (p2 &&& (7 : Int32))), .val (.ref o1), .unset] [(.int (1 : Int32)), (.int (2 : Int32)), (.ref o1)])) _
          refine XS.goto X11.here hx rfl (pc0 := 60) (pc' := 64) rfl (hb hby at_60) (by decide) (by decide) ?_
          exact k
      obtain ⟨cl15, Ar15, q15, S15, M15, H15, G15⟩ := id m11_0
      obtain ⟨T15, h15, X15, e15, W15, st15⟩ := stZ X11 hx hZ e11 Ar15 (j := (2 : Int32)) (inb_of S15 ⟨by decide, h12⟩) (g := (mkF m 64 #[.val (.int p1), .val (.int p2), .val (.int (p2 &&& (7 : Int32))), .val (.ref o1), .unset] [(.int (f0_4 p1 p2)), (.int (2 : Int32)), (.ref o1)])) rfl rfl (hb hby at_64)
      have K15 := K11.wr W15 (Or.inr sz1)
      have Z15 : n0 ≤ h15.size := Nat.le_trans Z11 (Keep.of_wr W15).1
      have N15 := Fr.snoc X15 N11 ge1
      have V15 : Arv Z h15 o1 kc1 .boolean (p2 &&& (7 : Int32)) [(.int (f0_1 p1 p2)), (.int (f0_3 p1 p2)), (.int ((f0_4 p1 p2) &&& 1)), (.int (0 : Int32)), (.int (0 : Int32)), (.int (0 : Int32)), (.int (0 : Int32))] (.int (0 : Int32)) := Arv.set Ar15 q15 S15 M15 H15 G15 (fits_nar_bool _) W15 2 (by decide) (by show 2 < 7; decide)
      rw [show (f0_5 p1 p2) = ((f0_4 p1 p2) &&& 1) from if_pos h12]
      refine ⟨T15, _, h15, X15, e15, N15, Z15, K15, V15, fun t k => ?_⟩
      show Steps p.tables e below (T11.setTop (mkF m 48 #[.val (.int p1), .val (.int p2), .val (.int (p2 &&& (7 : Int32))), .val (.ref o1), .unset] [(.int (2 : Int32)), (.int (p2 &&& (7 : Int32)))])) _
      refine XS.icmpNo X11.here hx rfl (hb hby at_48) rfl (tlt h12).2.2.2 ?_
      show Steps p.tables e below (T11.setTop (mkF m 51 #[.val (.int p1), .val (.int p2), .val (.int (p2 &&& (7 : Int32))), .val (.ref o1), .unset] [])) _
      refine XS.aloadN X11.here hx rfl (hb hby at_51) rfl rfl ?_
      show Steps p.tables e below (T11.setTop (mkF m 52 #[.val (.int p1), .val (.int p2), .val (.int (p2 &&& (7 : Int32))), .val (.ref o1), .unset] [(.ref o1)])) _
      refine XS.iconst X11.here hx rfl (hb hby at_52) ?_
      show Steps p.tables e below (T11.setTop (mkF m 53 #[.val (.int p1), .val (.int p2), .val (.int (p2 &&& (7 : Int32))), .val (.ref o1), .unset] [(.int (2 : Int32)), (.ref o1)])) _
      refine XS.iloadN X11.here hx rfl (hb hby at_53) rfl ?_
      show Steps p.tables e below (T11.setTop (mkF m 54 #[.val (.int p1), .val (.int p2), .val (.int (p2 &&& (7 : Int32))), .val (.ref o1), .unset] [(.int p1), (.int (2 : Int32)), (.ref o1)])) _
      refine XS.iconst X11.here hx rfl (hb hby at_54) ?_
      show Steps p.tables e below (T11.setTop (mkF m 55 #[.val (.int p1), .val (.int p2), .val (.int (p2 &&& (7 : Int32))), .val (.ref o1), .unset] [(.int (4 : Int32)), (.int p1), (.int (2 : Int32)), (.ref o1)])) _
      refine XS.iand X11.here hx rfl (hb hby at_55) rfl ?_
      show Steps p.tables e below (T11.setTop (mkF m 56 #[.val (.int p1), .val (.int p2), .val (.int (p2 &&& (7 : Int32))), .val (.ref o1), .unset] [(.int (p1 &&& (4 : Int32))), (.int (2 : Int32)), (.ref o1)])) _
      refine st14 _ ?_
      show Steps p.tables e below (T11.setTop (mkF m 64 #[.val (.int p1), .val (.int p2), .val (.int (p2 &&& (7 : Int32))), .val (.ref o1), .unset] [(.int (f0_4 p1 p2)), (.int (2 : Int32)), (.ref o1)])) _
      refine st15 _ ?_
      exact k
    · rw [show (f0_5 p1 p2) = (0 : Int32) from if_neg h12]
      refine ⟨T11, _, h11, X11, e11, N11, Z11, K11, m11_0, fun t k => ?_⟩
      show Steps p.tables e below (T11.setTop (mkF m 48 #[.val (.int p1), .val (.int p2), .val (.int (p2 &&& (7 : Int32))), .val (.ref o1), .unset] [(.int (2 : Int32)), (.int (p2 &&& (7 : Int32)))])) _
      refine XS.icmpYes X11.here hx rfl (pc0 := 48) (pc' := 65) rfl (hb hby at_48) rfl (flt h12).2.2.2 (by decide) (by decide) ?_
      exact k
  obtain ⟨T21, lo21, h21, X21, e21, N21, Z21, K21, m21_0, st21⟩ : ∃ (T' : State) (lo : List Loc) (h' : Heap) (_ : Stand p l e room_1 s m #[(.int p1), (.int p2)] below meth c T' lo 1 7), T'.heap = h' ∧ Fr n0 lo ∧ n0 ≤ h'.size ∧ Keep h0 h' [] ∧ Arv Z h' o1 kc1 .boolean (p2 &&& (7 : Int32)) [(.int (f0_1 p1 p2)), (.int (f0_3 p1 p2)), (.int (f0_5 p1 p2)), (.int (f0_7 p1 p2)), (.int (0 : Int32)), (.int (0 : Int32)), (.int (0 : Int32))] (.int (0 : Int32)) ∧ ∀ t, Steps p.tables e below (T'.setTop (mkF m 85 #[.val (.int p1), .val (.int p2), .val (.int (p2 &&& (7 : Int32))), .val (.ref o1), .unset] [])) t → Steps p.tables e below (T16.setTop (mkF m 67 #[.val (.int p1), .val (.int p2), .val (.int (p2 &&& (7 : Int32))), .val (.ref o1), .unset] [(.int (3 : Int32)), (.int (p2 &&& (7 : Int32)))])) t := by
    by_cases h17 : (3 : Int32) < (p2 &&& (7 : Int32))
    · have st19 : ∀ t, Steps p.tables e below (T16.setTop (mkF m 84 #[.val (.int p1), .val (.int p2), .val (.int (p2 &&& (7 : Int32))), .val (.ref o1), .unset] [(.int (f0_6 p1 p2)), (.int (3 : Int32)), (.ref o1)])) t → Steps p.tables e below (T16.setTop (mkF m 76 #[.val (.int p1), .val (.int p2), .val (.int (p2 &&& (7 : Int32))), .val (.ref o1), .unset] [(.int (p1 &&& (8 : Int32))), (.int (3 : Int32)), (.ref o1)])) t := by
        intro t k
        by_cases h18 : (p1 &&& (8 : Int32)) = (0 : Int32)
        · rw [show (f0_6 p1 p2) = (0 : Int32) from if_pos h18] at k
          show Steps p.tables e below (T16.setTop (mkF m 76 #[.val (.int p1), .val (.int p2), .val (.int (p2 &&& (7 : Int32))), .val (.ref o1), .unset] [(.int (p1 &&& (8 : Int32))), (.int (3 : Int32)), (.ref o1)])) _
          refine XS.ifYes X16.here hx rfl (pc0 := 76) (pc' := 83) rfl (hb hby at_76) rfl ((if0 _ _).trans (teq h18).1) (by decide) (by decide) ?_
          show Steps p.tables e below (T16.setTop (mkF m 83 #[.val (.int p1), .val (.int p2), .val (.int (p2 &&& (7 : Int32))), .val (.ref o1), .unset] [(.int (3 : Int32)), (.ref o1)])) _
          refine XS.iconst X16.here hx rfl (hb hby at_83) ?_
          exact k
        · rw [show (f0_6 p1 p2) = (1 : Int32) from if_neg h18] at k
          show Steps p.tables e below (T16.setTop (mkF m 76 #[.val (.int p1), .val (.int p2), .val (.int (p2 &&& (7 : Int32))), .val (.ref o1), .unset] [(.int (p1 &&& (8 : Int32))), (.int (3 : Int32)), (.ref o1)])) _
          refine XS.ifNo X16.here hx rfl (hb hby at_76) rfl ((if0 _ _).trans (feq h18).1) ?_
          show Steps p.tables e below (T16.setTop (mkF m 79 #[.val (.int p1), .val (.int p2), .val (.int (p2 &&& (7 : Int32))), .val (.ref o1), .unset] [(.int (3 : Int32)), (.ref o1)])) _
          refine XS.iconst X16.here hx rfl (hb hby at_79) ?_
          show Steps p.tables e below (T16.setTop (mkF m 80 #[.val (.int p1), .val (.int p2), .val (.int (p2 &&& (7 : Int32))), .val (.ref o1), .unset] [(.int (1 : Int32)), (.int (3 : Int32)), (.ref o1)])) _
          refine XS.goto X16.here hx rfl (pc0 := 80) (pc' := 84) rfl (hb hby at_80) (by decide) (by decide) ?_
          exact k
      obtain ⟨cl20, Ar20, q20, S20, M20, H20, G20⟩ := id m16_0
      obtain ⟨T20, h20, X20, e20, W20, st20⟩ := stZ X16 hx hZ e16 Ar20 (j := (3 : Int32)) (inb_of S20 ⟨by decide, h17⟩) (g := (mkF m 84 #[.val (.int p1), .val (.int p2), .val (.int (p2 &&& (7 : Int32))), .val (.ref o1), .unset] [(.int (f0_6 p1 p2)), (.int (3 : Int32)), (.ref o1)])) rfl rfl (hb hby at_84)
      have K20 := K16.wr W20 (Or.inr sz1)
      have Z20 : n0 ≤ h20.size := Nat.le_trans Z16 (Keep.of_wr W20).1
      have N20 := Fr.snoc X20 N16 ge1
      have V20 : Arv Z h20 o1 kc1 .boolean (p2 &&& (7 : Int32)) [(.int (f0_1 p1 p2)), (.int (f0_3 p1 p2)), (.int (f0_5 p1 p2)), (.int ((f0_6 p1 p2) &&& 1)), (.int (0 : Int32)), (.int (0 : Int32)), (.int (0 : Int32))] (.int (0 : Int32)) := Arv.set Ar20 q20 S20 M20 H20 G20 (fits_nar_bool _) W20 3 (by decide) (by show 3 < 7; decide)
      rw [show (f0_7 p1 p2) = ((f0_6 p1 p2) &&& 1) from if_pos h17]
      refine ⟨T20, _, h20, X20, e20, N20, Z20, K20, V20, fun t k => ?_⟩
      show Steps p.tables e below (T16.setTop (mkF m 67 #[.val (.int p1), .val (.int p2), .val (.int (p2 &&& (7 : Int32))), .val (.ref o1), .unset] [(.int (3 : Int32)), (.int (p2 &&& (7 : Int32)))])) _
      refine XS.icmpNo X16.here hx rfl (hb hby at_67) rfl (tlt h17).2.2.2 ?_
      show Steps p.tables e below (T16.setTop (mkF m 70 #[.val (.int p1), .val (.int p2), .val (.int (p2 &&& (7 : Int32))), .val (.ref o1), .unset] [])) _
      refine XS.aloadN X16.here hx rfl (hb hby at_70) rfl rfl ?_
      show Steps p.tables e below (T16.setTop (mkF m 71 #[.val (.int p1), .val (.int p2), .val (.int (p2 &&& (7 : Int32))), .val (.ref o1), .unset] [(.ref o1)])) _
      refine XS.iconst X16.here hx rfl (hb hby at_71) ?_
      show Steps p.tables e below (T16.setTop (mkF m 72 #[.val (.int p1), .val (.int p2), .val (.int (p2 &&& (7 : Int32))), .val (.ref o1), .unset] [(.int (3 : Int32)), (.ref o1)])) _
      refine XS.iloadN X16.here hx rfl (hb hby at_72) rfl ?_
      show Steps p.tables e below (T16.setTop (mkF m 73 #[.val (.int p1), .val (.int p2), .val (.int (p2 &&& (7 : Int32))), .val (.ref o1), .unset] [(.int p1), (.int (3 : Int32)), (.ref o1)])) _
      refine XS.bipush X16.here hx rfl (hb hby at_73) ?_
      show Steps p.tables e below (T16.setTop (mkF m 75 #[.val (.int p1), .val (.int p2), .val (.int (p2 &&& (7 : Int32))), .val (.ref o1), .unset] [(.int (8 : Int32)), (.int p1), (.int (3 : Int32)), (.ref o1)])) _
      refine XS.iand X16.here hx rfl (hb hby at_75) rfl ?_
      show Steps p.tables e below (T16.setTop (mkF m 76 #[.val (.int p1), .val (.int p2), .val (.int (p2 &&& (7 : Int32))), .val (.ref o1), .unset] [(.int (p1 &&& (8 : Int32))), (.int (3 : Int32)), (.ref o1)])) _
      refine st19 _ ?_
      show Steps p.tables e below (T16.setTop (mkF m 84 #[.val (.int p1), .val (.int p2), .val (.int (p2 &&& (7 : Int32))), .val (.ref o1), .unset] [(.int (f0_6 p1 p2)), (.int (3 : Int32)), (.ref o1)])) _
      refine st20 _ ?_
      exact k
    · rw [show (f0_7 p1 p2) = (0 : Int32) from if_neg h17]
      refine ⟨T16, _, h16, X16, e16, N16, Z16, K16, m16_0, fun t k => ?_⟩
      show Steps p.tables e below (T16.setTop (mkF m 67 #[.val (.int p1), .val (.int p2), .val (.int (p2 &&& (7 : Int32))), .val (.ref o1), .unset] [(.int (3 : Int32)), (.int (p2 &&& (7 : Int32)))])) _
      refine XS.icmpYes X16.here hx rfl (pc0 := 67) (pc' := 85) rfl (hb hby at_67) rfl (flt h17).2.2.2 (by decide) (by decide) ?_
      exact k
  obtain ⟨T26, lo26, h26, X26, e26, N26, Z26, K26, m26_0, st26⟩ : ∃ (T' : State) (lo : List Loc) (h' : Heap) (_ : Stand p l e room_1 s m #[(.int p1), (.int p2)] below meth c T' lo 1 7), T'.heap = h' ∧ Fr n0 lo ∧ n0 ≤ h'.size ∧ Keep h0 h' [] ∧ Arv Z h' o1 kc1 .boolean (p2 &&& (7 : Int32)) [(.int (f0_1 p1 p2)), (.int (f0_3 p1 p2)), (.int (f0_5 p1 p2)), (.int (f0_7 p1 p2)), (.int (f0_9 p1 p2)), (.int (0 : Int32)), (.int (0 : Int32))] (.int (0 : Int32)) ∧ ∀ t, Steps p.tables e below (T'.setTop (mkF m 105 #[.val (.int p1), .val (.int p2), .val (.int (p2 &&& (7 : Int32))), .val (.ref o1), .unset] [])) t → Steps p.tables e below (T21.setTop (mkF m 87 #[.val (.int p1), .val (.int p2), .val (.int (p2 &&& (7 : Int32))), .val (.ref o1), .unset] [(.int (4 : Int32)), (.int (p2 &&& (7 : Int32)))])) t := by
    by_cases h22 : (4 : Int32) < (p2 &&& (7 : Int32))
    · have st24 : ∀ t, Steps p.tables e below (T21.setTop (mkF m 104 #[.val (.int p1), .val (.int p2), .val (.int (p2 &&& (7 : Int32))), .val (.ref o1), .unset] [(.int (f0_8 p1 p2)), (.int (4 : Int32)), (.ref o1)])) t → Steps p.tables e below (T21.setTop (mkF m 96 #[.val (.int p1), .val (.int p2), .val (.int (p2 &&& (7 : Int32))), .val (.ref o1), .unset] [(.int (p1 &&& (16 : Int32))), (.int (4 : Int32)), (.ref o1)])) t := by
        intro t k
        by_cases h23 : (p1 &&& (16 : Int32)) = (0 : Int32)
        · rw [show (f0_8 p1 p2) = (0 : Int32) from if_pos h23] at k
          show Steps p.tables e below (T21.setTop (mkF m 96 #[.val (.int p1), .val (.int p2), .val (.int (p2 &&& (7 : Int32))), .val (.ref o1), .unset] [(.int (p1 &&& (16 : Int32))), (.int (4 : Int32)), (.ref o1)])) _
          refine XS.ifYes X21.here hx rfl (pc0 := 96) (pc' := 103) rfl (hb hby at_96) rfl ((if0 _ _).trans (teq h23).1) (by decide) (by decide) ?_
          show Steps p.tables e below (T21.setTop (mkF m 103 #[.val (.int p1), .val (.int p2), .val (.int (p2 &&& (7 : Int32))), .val (.ref o1), .unset] [(.int (4 : Int32)), (.ref o1)])) _
          refine XS.iconst X21.here hx rfl (hb hby at_103) ?_
          exact k
        · rw [show (f0_8 p1 p2) = (1 : Int32) from if_neg h23] at k
          show Steps p.tables e below (T21.setTop (mkF m 96 #[.val (.int p1), .val (.int p2), .val (.int (p2 &&& (7 : Int32))), .val (.ref o1), .unset] [(.int (p1 &&& (16 : Int32))), (.int (4 : Int32)), (.ref o1)])) _
          refine XS.ifNo X21.here hx rfl (hb hby at_96) rfl ((if0 _ _).trans (feq h23).1) ?_
          show Steps p.tables e below (T21.setTop (mkF m 99 #[.val (.int p1), .val (.int p2), .val (.int (p2 &&& (7 : Int32))), .val (.ref o1), .unset] [(.int (4 : Int32)), (.ref o1)])) _
          refine XS.iconst X21.here hx rfl (hb hby at_99) ?_
          show Steps p.tables e below (T21.setTop (mkF m 100 #[.val (.int p1), .val (.int p2), .val (.int (p2 &&& (7 : Int32))), .val (.ref o1), .unset] [(.int (1 : Int32)), (.int (4 : Int32)), (.ref o1)])) _
          refine XS.goto X21.here hx rfl (pc0 := 100) (pc' := 104) rfl (hb hby at_100) (by decide) (by decide) ?_
          exact k
      obtain ⟨cl25, Ar25, q25, S25, M25, H25, G25⟩ := id m21_0
      obtain ⟨T25, h25, X25, e25, W25, st25⟩ := stZ X21 hx hZ e21 Ar25 (j := (4 : Int32)) (inb_of S25 ⟨by decide, h22⟩) (g := (mkF m 104 #[.val (.int p1), .val (.int p2), .val (.int (p2 &&& (7 : Int32))), .val (.ref o1), .unset] [(.int (f0_8 p1 p2)), (.int (4 : Int32)), (.ref o1)])) rfl rfl (hb hby at_104)
      have K25 := K21.wr W25 (Or.inr sz1)
      have Z25 : n0 ≤ h25.size := Nat.le_trans Z21 (Keep.of_wr W25).1
      have N25 := Fr.snoc X25 N21 ge1
      have V25 : Arv Z h25 o1 kc1 .boolean (p2 &&& (7 : Int32)) [(.int (f0_1 p1 p2)), (.int (f0_3 p1 p2)), (.int (f0_5 p1 p2)), (.int (f0_7 p1 p2)), (.int ((f0_8 p1 p2) &&& 1)), (.int (0 : Int32)), (.int (0 : Int32))] (.int (0 : Int32)) := Arv.set Ar25 q25 S25 M25 H25 G25 (fits_nar_bool _) W25 4 (by decide) (by show 4 < 7; decide)
      rw [show (f0_9 p1 p2) = ((f0_8 p1 p2) &&& 1) from if_pos h22]
      refine ⟨T25, _, h25, X25, e25, N25, Z25, K25, V25, fun t k => ?_⟩
      show Steps p.tables e below (T21.setTop (mkF m 87 #[.val (.int p1), .val (.int p2), .val (.int (p2 &&& (7 : Int32))), .val (.ref o1), .unset] [(.int (4 : Int32)), (.int (p2 &&& (7 : Int32)))])) _
      refine XS.icmpNo X21.here hx rfl (hb hby at_87) rfl (tlt h22).2.2.2 ?_
      show Steps p.tables e below (T21.setTop (mkF m 90 #[.val (.int p1), .val (.int p2), .val (.int (p2 &&& (7 : Int32))), .val (.ref o1), .unset] [])) _
      refine XS.aloadN X21.here hx rfl (hb hby at_90) rfl rfl ?_
      show Steps p.tables e below (T21.setTop (mkF m 91 #[.val (.int p1), .val (.int p2), .val (.int (p2 &&& (7 : Int32))), .val (.ref o1), .unset] [(.ref o1)])) _
      refine XS.iconst X21.here hx rfl (hb hby at_91) ?_
      show Steps p.tables e below (T21.setTop (mkF m 92 #[.val (.int p1), .val (.int p2), .val (.int (p2 &&& (7 : Int32))), .val (.ref o1), .unset] [(.int (4 : Int32)), (.ref o1)])) _
      refine XS.iloadN X21.here hx rfl (hb hby at_92) rfl ?_
      show Steps p.tables e below (T21.setTop (mkF m 93 #[.val (.int p1), .val (.int p2), .val (.int (p2 &&& (7 : Int32))), .val (.ref o1), .unset] [(.int p1), (.int (4 : Int32)), (.ref o1)])) _
      refine XS.bipush X21.here hx rfl (hb hby at_93) ?_
      show Steps p.tables e below (T21.setTop (mkF m 95 #[.val (.int p1), .val (.int p2), .val (.int (p2 &&& (7 : Int32))), .val (.ref o1), .unset] [(.int (16 : Int32)), (.int p1), (.int (4 : Int32)), (.ref o1)])) _
      refine XS.iand X21.here hx rfl (hb hby at_95) rfl ?_
      show Steps p.tables e below (T21.setTop (mkF m 96 #[.val (.int p1), .val (.int p2), .val (.int (p2 &&& (7 : Int32))), .val (.ref o1), .unset] [(.int (p1 &&& (16 : Int32))), (.int (4 : Int32)), (.ref o1)])) _
      refine st24 _ ?_
      show Steps p.tables e below (T21.setTop (mkF m 104 #[.val (.int p1), .val (.int p2), .val (.int (p2 &&& (7 : Int32))), .val (.ref o1), .unset] [(.int (f0_8 p1 p2)), (.int (4 : Int32)), (.ref o1)])) _
      refine st25 _ ?_
      exact k
    · rw [show (f0_9 p1 p2) = (0 : Int32) from if_neg h22]
      refine ⟨T21, _, h21, X21, e21, N21, Z21, K21, m21_0, fun t k => ?_⟩
      show Steps p.tables e below (T21.setTop (mkF m 87 #[.val (.int p1), .val (.int p2), .val (.int (p2 &&& (7 : Int32))), .val (.ref o1), .unset] [(.int (4 : Int32)), (.int (p2 &&& (7 : Int32)))])) _
      refine XS.icmpYes X21.here hx rfl (pc0 := 87) (pc' := 105) rfl (hb hby at_87) rfl (flt h22).2.2.2 (by decide) (by decide) ?_
      exact k
  obtain ⟨T31, lo31, h31, X31, e31, N31, Z31, K31, m31_0, st31⟩ : ∃ (T' : State) (lo : List Loc) (h' : Heap) (_ : Stand p l e room_1 s m #[(.int p1), (.int p2)] below meth c T' lo 1 7), T'.heap = h' ∧ Fr n0 lo ∧ n0 ≤ h'.size ∧ Keep h0 h' [] ∧ Arv Z h' o1 kc1 .boolean (p2 &&& (7 : Int32)) [(.int (f0_1 p1 p2)), (.int (f0_3 p1 p2)), (.int (f0_5 p1 p2)), (.int (f0_7 p1 p2)), (.int (f0_9 p1 p2)), (.int (f0_11 p1 p2)), (.int (0 : Int32))] (.int (0 : Int32)) ∧ ∀ t, Steps p.tables e below (T'.setTop (mkF m 125 #[.val (.int p1), .val (.int p2), .val (.int (p2 &&& (7 : Int32))), .val (.ref o1), .unset] [])) t → Steps p.tables e below (T26.setTop (mkF m 107 #[.val (.int p1), .val (.int p2), .val (.int (p2 &&& (7 : Int32))), .val (.ref o1), .unset] [(.int (5 : Int32)), (.int (p2 &&& (7 : Int32)))])) t := by
    by_cases h27 : (5 : Int32) < (p2 &&& (7 : Int32))
    · have st29 : ∀ t, Steps p.tables e below (T26.setTop (mkF m 124 #[.val (.int p1), .val (.int p2), .val (.int (p2 &&& (7 : Int32))), .val (.ref o1), .unset] [(.int (f0_10 p1 p2)), (.int (5 : Int32)), (.ref o1)])) t → Steps p.tables e below (T26.setTop (mkF m 116 #[.val (.int p1), .val (.int p2), .val (.int (p2 &&& (7 : Int32))), .val (.ref o1), .unset] [(.int (p1 &&& (32 : Int32))), (.int (5 : Int32)), (.ref o1)])) t := by
        intro t k
        by_cases h28 : (p1 &&& (32 : Int32)) = (0 : Int32)
        · rw [show (f0_10 p1 p2) = (0 : Int32) from if_pos h28] at k
          show Steps p.tables e below (T26.setTop (mkF m 116 #[.val (.int p1), .val (.int p2), .val (.int (p2 &&& (7 : Int32))), .val (.ref o1), .unset] [(.int (p1 &&& (32 : Int32))), (.int (5 : Int32)), (.ref o1)])) _
          refine XS.ifYes X26.here hx rfl (pc0 := 116) (pc' := 123) rfl (hb hby at_116) rfl ((if0 _ _).trans (teq h28).1) (by decide) (by decide) ?_
          show Steps p.tables e below (T26.setTop (mkF m 123 #[.val (.int p1), .val (.int p2), .val (.int (p2 &&& (7 : Int32))), .val (.ref o1), .unset] [(.int (5 : Int32)), (.ref o1)])) _
          refine XS.iconst X26.here hx rfl (hb hby at_123) ?_
          exact k
        · rw [show (f0_10 p1 p2) = (1 : Int32) from if_neg h28] at k
          show Steps p.tables e below (T26.setTop (mkF m 116 #[.val (.int p1), .val (.int p2), .val (.int (p2 &&& (7 : Int32))), .val (.ref o1), .unset] [(.int (p1 &&& (32 : Int32))), (.int (5 : Int32)), (.ref o1)])) _
          refine XS.ifNo X26.here hx rfl (hb hby at_116) rfl ((if0 _ _).trans (feq h28).1) ?_
          show Steps p.tables e below (T26.setTop (mkF m 119 #[.val (.int p1), .val (.int p2), .val (.int (p2 &&& (7 : Int32))), .val (.ref o1), .unset] [(.int (5 : Int32)), (.ref o1)])) _
          refine XS.iconst X26.here hx rfl (hb hby at_119) ?_
          show Steps p.tables e below (T26.setTop (mkF m 120 #[.val (.int p1), .val (.int p2), .val (.int (p2 &&& (7 : Int32))), .val (.ref o1), .unset] [(.int (1 : Int32)), (.int (5 : Int32)), (.ref o1)])) _
          refine XS.goto X26.here hx rfl (pc0 := 120) (pc' := 124) rfl (hb hby at_120) (by decide) (by decide) ?_
          exact k
      obtain ⟨cl30, Ar30, q30, S30, M30, H30, G30⟩ := id m26_0
      obtain ⟨T30, h30, X30, e30, W30, st30⟩ := stZ X26 hx hZ e26 Ar30 (j := (5 : Int32)) (inb_of S30 ⟨by decide, h27⟩) (g := (mkF m 124 #[.val (.int p1), .val (.int p2), .val (.int (p2 &&& (7 : Int32))), .val (.ref o1), .unset] [(.int (f0_10 p1 p2)), (.int (5 : Int32)), (.ref o1)])) rfl rfl (hb hby at_124)
      have K30 := K26.wr W30 (Or.inr sz1)
      have Z30 : n0 ≤ h30.size := Nat.le_trans Z26 (Keep.of_wr W30).1
      have N30 := Fr.snoc X30 N26 ge1
      have V30 : Arv Z h30 o1 kc1 .boolean (p2 &&& (7 : Int32)) [(.int (f0_1 p1 p2)), (.int (f0_3 p1 p2)), (.int (f0_5 p1 p2)), (.int (f0_7 p1 p2)), (.int (f0_9 p1 p2)), (.int ((f0_10 p1 p2) &&& 1)), (.int (0 : Int32))] (.int (0 : Int32)) := Arv.set Ar30 q30 S30 M30 H30 G30 (fits_nar_bool _) W30 5 (by decide) (by show 5 < 7; decide)
      rw [show (f0_11 p1 p2) = ((f0_10 p1 p2) &&& 1) from if_pos h27]
      refine ⟨T30, _, h30, X30, e30, N30, Z30, K30, V30, fun t k => ?_⟩
      show Steps p.tables e below (T26.setTop (mkF m 107 #[.val (.int p1), .val (.int p2), .val (.int (p2 &&& (7 : Int32))), .val (.ref o1), .unset] [(.int (5 : Int32)), (.int (p2 &&& (7 : Int32)))])) _
      refine XS.icmpNo X26.here hx rfl (hb hby at_107) rfl (tlt h27).2.2.2 ?_
      show Steps p.tables e below (T26.setTop (mkF m 110 #[.val (.int p1), .val (.int p2), .val (.int (p2 &&& (7 : Int32))), .val (.ref o1), .unset] [])) _
      refine XS.aloadN X26.here hx rfl (hb hby at_110) rfl rfl ?_
      show Steps p.tables e below (T26.setTop (mkF m 111 #[.val (.int p1), .val (.int p2), .val (.int (p2 &&& (7 : Int32))), .val (.ref o1), .unset] [(.ref o1)])) _
      refine XS.iconst X26.here hx rfl (hb hby at_111) ?_
      show Steps p.tables e below (T26.setTop (mkF m 112 #[.val (.int p1), .val (.int p2), .val (.int (p2 &&& (7 : Int32))), .val (.ref o1), .unset] [(.int (5 : Int32)), (.ref o1)])) _
      refine XS.iloadN X26.here hx rfl (hb hby at_112) rfl ?_
      show Steps p.tables e below (T26.setTop (mkF m 113 #[.val (.int p1), .val (.int p2), .val (.int (p2 &&& (7 : Int32))), .val (.ref o1), .unset] [(.int p1), (.int (5 : Int32)), (.ref o1)])) _
      refine XS.bipush X26.here hx rfl (hb hby at_113) ?_
      show Steps p.tables e below (T26.setTop (mkF m 115 #[.val (.int p1), .val (.int p2), .val (.int (p2 &&& (7 : Int32))), .val (.ref o1), .unset] [(.int (32 : Int32)), (.int p1), (.int (5 : Int32)), (.ref o1)])) _
      refine XS.iand X26.here hx rfl (hb hby at_115) rfl ?_
      show Steps p.tables e below (T26.setTop (mkF m 116 #[.val (.int p1), .val (.int p2), .val (.int (p2 &&& (7 : Int32))), .val (.ref o1), .unset] [(.int (p1 &&& (32 : Int32))), (.int (5 : Int32)), (.ref o1)])) _
      refine st29 _ ?_
      show Steps p.tables e below (T26.setTop (mkF m 124 #[.val (.int p1), .val (.int p2), .val (.int (p2 &&& (7 : Int32))), .val (.ref o1), .unset] [(.int (f0_10 p1 p2)), (.int (5 : Int32)), (.ref o1)])) _
      refine st30 _ ?_
      exact k
    · rw [show (f0_11 p1 p2) = (0 : Int32) from if_neg h27]
      refine ⟨T26, _, h26, X26, e26, N26, Z26, K26, m26_0, fun t k => ?_⟩
      show Steps p.tables e below (T26.setTop (mkF m 107 #[.val (.int p1), .val (.int p2), .val (.int (p2 &&& (7 : Int32))), .val (.ref o1), .unset] [(.int (5 : Int32)), (.int (p2 &&& (7 : Int32)))])) _
      refine XS.icmpYes X26.here hx rfl (pc0 := 107) (pc' := 125) rfl (hb hby at_107) rfl (flt h27).2.2.2 (by decide) (by decide) ?_
      exact k
  obtain ⟨T36, lo36, h36, X36, e36, N36, Z36, K36, m36_0, st36⟩ : ∃ (T' : State) (lo : List Loc) (h' : Heap) (_ : Stand p l e room_1 s m #[(.int p1), (.int p2)] below meth c T' lo 1 7), T'.heap = h' ∧ Fr n0 lo ∧ n0 ≤ h'.size ∧ Keep h0 h' [] ∧ Arv Z h' o1 kc1 .boolean (p2 &&& (7 : Int32)) [(.int (f0_1 p1 p2)), (.int (f0_3 p1 p2)), (.int (f0_5 p1 p2)), (.int (f0_7 p1 p2)), (.int (f0_9 p1 p2)), (.int (f0_11 p1 p2)), (.int (f0_13 p1 p2))] (.int (0 : Int32)) ∧ ∀ t, Steps p.tables e below (T'.setTop (mkF m 147 #[.val (.int p1), .val (.int p2), .val (.int (p2 &&& (7 : Int32))), .val (.ref o1), .unset] [])) t → Steps p.tables e below (T31.setTop (mkF m 128 #[.val (.int p1), .val (.int p2), .val (.int (p2 &&& (7 : Int32))), .val (.ref o1), .unset] [(.int (6 : Int32)), (.int (p2 &&& (7 : Int32)))])) t := by
    by_cases h32 : (6 : Int32) < (p2 &&& (7 : Int32))
    · have st34 : ∀ t, Steps p.tables e below (T31.setTop (mkF m 146 #[.val (.int p1), .val (.int p2), .val (.int (p2 &&& (7 : Int32))), .val (.ref o1), .unset] [(.int (f0_12 p1 p2)), (.int (6 : Int32)), (.ref o1)])) t → Steps p.tables e below (T31.setTop (mkF m 138 #[.val (.int p1), .val (.int p2), .val (.int (p2 &&& (7 : Int32))), .val (.ref o1), .unset] [(.int (p1 &&& (64 : Int32))), (.int (6 : Int32)), (.ref o1)])) t := by
        intro t k
        by_cases h33 : (p1 &&& (64 : Int32)) = (0 : Int32)
        · rw [show (f0_12 p1 p2) = (0 : Int32) from if_pos h33] at k
          show Steps p.tables e below (T31.setTop (mkF m 138 #[.val (.int p1), .val (.int p2), .val (.int (p2 &&& (7 : Int32))), .val (.ref o1), .unset] [(.int (p1 &&& (64 : Int32))), (.int (6 : Int32)), (.ref o1)])) _
          refine XS.ifYes X31.here hx rfl (pc0 := 138) (pc' := 145) rfl (hb hby at_138) rfl ((if0 _ _).trans (teq h33).1) (by decide) (by decide) ?_
          show Steps p.tables e below (T31.setTop (mkF m 145 #[.val (.int p1), .val (.int p2), .val (.int (p2 &&& (7 : Int32))), .val (.ref o1), .unset] [(.int (6 : Int32)), (.ref o1)])) _
          refine XS.iconst X31.here hx rfl (hb hby at_145) ?_
          exact k
        · rw [show (f0_12 p1 p2) = (1 : Int32) from if_neg h33] at k
          show Steps p.tables e below (T31.setTop (mkF m 138 #[.val (.int p1), .val (.int p2), .val (.int (p2 &&& (7 : Int32))), .val (.ref o1), .unset] [(.int (p1 &&& (64 : Int32))), (.int (6 : Int32)), (.ref o1)])) _
          refine XS.ifNo X31.here hx rfl (hb hby at_138) rfl ((if0 _ _).trans (feq h33).1) ?_
          show Steps p.tables e below (T31.setTop (mkF m 141 #[.val (.int p1), .val (.int p2), .val (.int (p2 &&& (7 : Int32))), .val (.ref o1), .unset] [(.int (6 : Int32)), (.ref o1)])) _
          refine XS.iconst X31.here hx rfl (hb hby at_141) ?_
          show Steps p.tables e below (T31.setTop (mkF m 142 #[.val (.int p1), .val (.int p2), .val (.int (p2 &&& (7 : Int32))), .val (.ref o1), .unset] [(.int (1 : Int32)), (.int (6 : Int32)), (.ref o1)])) _
          refine XS.goto X31.here hx rfl (pc0 := 142) (pc' := 146) rfl (hb hby at_142) (by decide) (by decide) ?_
          exact k
      obtain ⟨cl35, Ar35, q35, S35, M35, H35, G35⟩ := id m31_0
      obtain ⟨T35, h35, X35, e35, W35, st35⟩ := stZ X31 hx hZ e31 Ar35 (j := (6 : Int32)) (inb_of S35 ⟨by decide, h32⟩) (g := (mkF m 146 #[.val (.int p1), .val (.int p2), .val (.int (p2 &&& (7 : Int32))), .val (.ref o1), .unset] [(.int (f0_12 p1 p2)), (.int (6 : Int32)), (.ref o1)])) rfl rfl (hb hby at_146)
      have K35 := K31.wr W35 (Or.inr sz1)
      have Z35 : n0 ≤ h35.size := Nat.le_trans Z31 (Keep.of_wr W35).1
      have N35 := Fr.snoc X35 N31 ge1
      have V35 : Arv Z h35 o1 kc1 .boolean (p2 &&& (7 : Int32)) [(.int (f0_1 p1 p2)), (.int (f0_3 p1 p2)), (.int (f0_5 p1 p2)), (.int (f0_7 p1 p2)), (.int (f0_9 p1 p2)), (.int (f0_11 p1 p2)), (.int ((f0_12 p1 p2) &&& 1))] (.int (0 : Int32)) := Arv.set Ar35 q35 S35 M35 H35 G35 (fits_nar_bool _) W35 6 (by decide) (by show 6 < 7; decide)
      rw [show (f0_13 p1 p2) = ((f0_12 p1 p2) &&& 1) from if_pos h32]
      refine ⟨T35, _, h35, X35, e35, N35, Z35, K35, V35, fun t k => ?_⟩
      show Steps p.tables e below (T31.setTop (mkF m 128 #[.val (.int p1), .val (.int p2), .val (.int (p2 &&& (7 : Int32))), .val (.ref o1), .unset] [(.int (6 : Int32)), (.int (p2 &&& (7 : Int32)))])) _
      refine XS.icmpNo X31.here hx rfl (hb hby at_128) rfl (tlt h32).2.2.2 ?_
      show Steps p.tables e below (T31.setTop (mkF m 131 #[.val (.int p1), .val (.int p2), .val (.int (p2 &&& (7 : Int32))), .val (.ref o1), .unset] [])) _
      refine XS.aloadN X31.here hx rfl (hb hby at_131) rfl rfl ?_
      show Steps p.tables e below (T31.setTop (mkF m 132 #[.val (.int p1), .val (.int p2), .val (.int (p2 &&& (7 : Int32))), .val (.ref o1), .unset] [(.ref o1)])) _
      refine XS.bipush X31.here hx rfl (hb hby at_132) ?_
      show Steps p.tables e below (T31.setTop (mkF m 134 #[.val (.int p1), .val (.int p2), .val (.int (p2 &&& (7 : Int32))), .val (.ref o1), .unset] [(.int (6 : Int32)), (.ref o1)])) _
      refine XS.iloadN X31.here hx rfl (hb hby at_134) rfl ?_
      show Steps p.tables e below (T31.setTop (mkF m 135 #[.val (.int p1), .val (.int p2), .val (.int (p2 &&& (7 : Int32))), .val (.ref o1), .unset] [(.int p1), (.int (6 : Int32)), (.ref o1)])) _
      refine XS.bipush X31.here hx rfl (hb hby at_135) ?_
      show Steps p.tables e below (T31.setTop (mkF m 137 #[.val (.int p1), .val (.int p2), .val (.int (p2 &&& (7 : Int32))), .val (.ref o1), .unset] [(.int (64 : Int32)), (.int p1), (.int (6 : Int32)), (.ref o1)])) _
      refine XS.iand X31.here hx rfl (hb hby at_137) rfl ?_
      show Steps p.tables e below (T31.setTop (mkF m 138 #[.val (.int p1), .val (.int p2), .val (.int (p2 &&& (7 : Int32))), .val (.ref o1), .unset] [(.int (p1 &&& (64 : Int32))), (.int (6 : Int32)), (.ref o1)])) _
      refine st34 _ ?_
      show Steps p.tables e below (T31.setTop (mkF m 146 #[.val (.int p1), .val (.int p2), .val (.int (p2 &&& (7 : Int32))), .val (.ref o1), .unset] [(.int (f0_12 p1 p2)), (.int (6 : Int32)), (.ref o1)])) _
      refine st35 _ ?_
      exact k
    · rw [show (f0_13 p1 p2) = (0 : Int32) from if_neg h32]
      refine ⟨T31, _, h31, X31, e31, N31, Z31, K31, m31_0, fun t k => ?_⟩
      show Steps p.tables e below (T31.setTop (mkF m 128 #[.val (.int p1), .val (.int p2), .val (.int (p2 &&& (7 : Int32))), .val (.ref o1), .unset] [(.int (6 : Int32)), (.int (p2 &&& (7 : Int32)))])) _
      refine XS.icmpYes X31.here hx rfl (pc0 := 128) (pc' := 147) rfl (hb hby at_128) rfl (flt h32).2.2.2 (by decide) (by decide) ?_
      exact k
  obtain ⟨_, _, ⟨T37, L37, k37, n37⟩, -, X37, ⟨Lc37, hQ37, l37, y37, z37⟩, st37⟩ := Jvm.LawKit.callS X36 hx (y := (⟨"com/example/bonn/bonn/Formula", "complement", "([Z)[Z"⟩ : MethodName)) hown (mvT hZ (hw _ (List.mem_of_getElem? (i := 1) rfl))) (mvT hZ (hw _ (List.mem_of_getElem? (i := 2) rfl))) (mvT hZ (hw _ (List.mem_of_getElem? (i := 3) rfl))) (mvT hZ (hw _ (List.mem_of_getElem? (i := 4) rfl))) (by decide) (backOf (W := 0) (rm1 l Z a0 hw [] o1 kc1 (p2 &&& (7 : Int32)) (f0_1 p1 p2) (f0_3 p1 p2) (f0_5 p1 p2) (f0_7 p1 p2) (f0_9 p1 p2) (f0_11 p1 p2) (f0_13 p1 p2) h36 n0 Z36 m36_0 (own_m7 p2)) hZ (hw _ (List.mem_of_getElem? (i := 4) rfl)) (hw _ (List.mem_of_getElem? (i := 3) rfl)) (by decide) (by decide)) (g := (mkF m 148 #[.val (.int p1), .val (.int p2), .val (.int (p2 &&& (7 : Int32))), .val (.ref o1), .unset] [(.ref o1)])) rfl (by rw [hml]; rfl) (argsL := [(.ref o1)]) (rest := []) (lenOf pd_0 rfl) rfl (by show 2 * 0 + _ ≤ _; exact Nat.le_of_eq rfl) (hb hby at_148) (fun _ _ => ⟨rfl, e36, (by decide : 1 + 1 ≤ _), (by decide : 7 + 7 ≤ _)⟩)
  dsimp only [Pt.U, Pt.locs, Pt.cells, Pt.slots] at X37 l37 y37 z37 st37 hQ37
  subst l37 y37 z37
  obtain ⟨r37, k_r37, rfl, N37q, Kc37, fr37_r, c37_0⟩ := hQ37
  have N37 := Fr.app N36 N37q
  have ne37_r_1 : o1 ≠ r37 := Nat.ne_of_lt (Nat.lt_of_lt_of_le m36_0.lt fr37_r)
  have ge37_r : n0 ≤ r37 := Nat.le_trans Z36 fr37_r
  have sz37_r : h0.size ≤ r37 := Nat.le_trans K36.1 fr37_r
  have u37_0 := m36_0.keep Kc37 (List.not_mem_nil)
  have K37 := K36.trans Kc37 (fun x hx => absurd hx List.not_mem_nil)
  have Z37 : n0 ≤ T37.heap.size := Nat.le_trans Z36 Kc37.1
  have c37_0' : Arv Z T37.heap r37 k_r37 .boolean (p2 &&& (7 : Int32)) [(.int (f0_14 p1 p2)), (.int (f0_15 p1 p2)), (.int (f0_16 p1 p2)), (.int (f0_17 p1 p2)), (.int (f0_18 p1 p2)), (.int (f0_19 p1 p2)), (.int (f0_20 p1 p2))] (.int (0 : Int32)) := c37_0
  obtain ⟨cl38, Ar38, -, S38, M38, -, -⟩ := id c37_0'
  have h39 : (p2 &&& (7 : Int32)) = (p2 &&& (7 : Int32)) := rfl
  obtain ⟨_, _, ⟨T40, L40, k40, n40⟩, -, X40, ⟨Lc40, hQ40, l40, y40, z40⟩, st40⟩ := Jvm.LawKit.callS X37 hx (y := (⟨"com/example/bonn/bonn/FormulaComplementPinLaw", "at", "([Z[ZII)Z"⟩ : MethodName)) hown (mvT hZ (hw _ (List.mem_of_getElem? (i := 5) rfl))) (mvT hZ (hw _ (List.mem_of_getElem? (i := 6) rfl))) (mvT hZ (hw _ (List.mem_of_getElem? (i := 7) rfl))) (mvT hZ (hw _ (List.mem_of_getElem? (i := 8) rfl))) (by decide) (backOf (W := 0) (rmat0 l Z a0 hw [] o1 r37 p1 kc1 (p2 &&& (7 : Int32)) (f0_1 p1 p2) (f0_3 p1 p2) (f0_5 p1 p2) (f0_7 p1 p2) (f0_9 p1 p2) (f0_11 p1 p2) (f0_13 p1 p2) k_r37 (f0_14 p1 p2) (f0_15 p1 p2) (f0_16 p1 p2) (f0_17 p1 p2) (f0_18 p1 p2) (f0_19 p1 p2) (f0_20 p1 p2) T37.heap n0 Z37 u37_0 c37_0') hZ (hw _ (List.mem_of_getElem? (i := 8) rfl)) (hw _ (List.mem_of_getElem? (i := 7) rfl)) (by decide) (by decide)) (g := (mkF m 178 #[.val (.int p1), .val (.int p2), .val (.int (p2 &&& (7 : Int32))), .val (.ref o1), .val (.ref r37)] [(.int p1), (.int (0 : Int32)), (.ref r37), (.ref o1)])) rfl (by rw [hml]; rfl) (argsL := [(.ref o1), (.ref r37), (.int (0 : Int32)), (.int p1)]) (rest := []) (lenOf pd_1 rfl) rfl (by show 2 * 0 + _ ≤ _; exact Nat.le_of_eq rfl) (hb hby at_178) (fun _ _ => ⟨rfl, rfl, (by decide : 2 + 0 ≤ _), (by decide : 14 + 0 ≤ _)⟩)
  dsimp only [Pt.U, Pt.locs, Pt.cells, Pt.slots] at X40 l40 y40 z40 st40 hQ40
  subst l40 y40 z40
  obtain ⟨rfl, N40q, e40⟩ := hQ40
  have N40 := Fr.app N37 N40q
  obtain ⟨T60, lo60, X60, e60, N60, st60⟩ : ∃ (T' : State) (lo : List Loc) (_ : Stand p l e room_1 s m #[(.int p1), (.int p2)] below meth c T' lo 2 14), T'.heap = T37.heap ∧ Fr n0 lo ∧ ∀ t, Steps p.tables e below (T'.setTop (mkF m 256 #[.val (.int p1), .val (.int p2), .val (.int (p2 &&& (7 : Int32))), .val (.ref o1), .val (.ref r37)] [(.int (f0_34 p1 p2))])) t → Steps p.tables e below (T40.setTop (mkF m 181 #[.val (.int p1), .val (.int p2), .val (.int (p2 &&& (7 : Int32))), .val (.ref o1), .val (.ref r37)] [(.int (f0_21 p1 p2))])) t := by
    by_cases h41 : (f0_21 p1 p2) = (0 : Int32)
    · refine ⟨T40, _, X40, e40, N40, fun t k => ?_⟩
      rw [show (f0_34 p1 p2) = (0 : Int32) from if_pos h41] at k
      show Steps p.tables e below (T40.setTop (mkF m 181 #[.val (.int p1), .val (.int p2), .val (.int (p2 &&& (7 : Int32))), .val (.ref o1), .val (.ref r37)] [(.int (f0_21 p1 p2))])) _
      refine XS.ifYes X40.here hx rfl (pc0 := 181) (pc' := 255) rfl (hb hby at_181) rfl ((if0 _ _).trans (teq h41).1) (by decide) (by decide) ?_
      show Steps p.tables e below (T40.setTop (mkF m 255 #[.val (.int p1), .val (.int p2), .val (.int (p2 &&& (7 : Int32))), .val (.ref o1), .val (.ref r37)] [])) _
      refine XS.iconst X40.here hx rfl (hb hby at_255) ?_
      exact k
    · obtain ⟨_, _, ⟨T42, L42, k42, n42⟩, -, X42, ⟨Lc42, hQ42, l42, y42, z42⟩, st42⟩ := Jvm.LawKit.callS X40 hx (y := (⟨"com/example/bonn/bonn/FormulaComplementPinLaw", "at", "([Z[ZII)Z"⟩ : MethodName)) hown (mvT hZ (hw _ (List.mem_of_getElem? (i := 5) rfl))) (mvT hZ (hw _ (List.mem_of_getElem? (i := 6) rfl))) (mvT hZ (hw _ (List.mem_of_getElem? (i := 7) rfl))) (mvT hZ (hw _ (List.mem_of_getElem? (i := 8) rfl))) (by decide) (backOf (W := 0) (rmat1 l Z a0 hw [] o1 r37 p1 kc1 (p2 &&& (7 : Int32)) (f0_1 p1 p2) (f0_3 p1 p2) (f0_5 p1 p2) (f0_7 p1 p2) (f0_9 p1 p2) (f0_11 p1 p2) (f0_13 p1 p2) k_r37 (f0_14 p1 p2) (f0_15 p1 p2) (f0_16 p1 p2) (f0_17 p1 p2) (f0_18 p1 p2) (f0_19 p1 p2) (f0_20 p1 p2) T37.heap n0 Z37 u37_0 c37_0') hZ (hw _ (List.mem_of_getElem? (i := 8) rfl)) (hw _ (List.mem_of_getElem? (i := 7) rfl)) (by decide) (by decide)) (g := (mkF m 189 #[.val (.int p1), .val (.int p2), .val (.int (p2 &&& (7 : Int32))), .val (.ref o1), .val (.ref r37)] [(.int p1), (.int (1 : Int32)), (.ref r37), (.ref o1)])) rfl (by rw [hml]; rfl) (argsL := [(.ref o1), (.ref r37), (.int (1 : Int32)), (.int p1)]) (rest := []) (lenOf pd_1 rfl) rfl (by show 2 * 0 + _ ≤ _; exact Nat.le_of_eq rfl) (hb hby at_189) (fun _ _ => ⟨rfl, e40, (by decide : 2 + 0 ≤ _), (by decide : 14 + 0 ≤ _)⟩)
      dsimp only [Pt.U, Pt.locs, Pt.cells, Pt.slots] at X42 l42 y42 z42 st42 hQ42
      subst l42 y42 z42
      obtain ⟨rfl, N42q, e42⟩ := hQ42
      have N42 := Fr.app N40 N42q
      obtain ⟨T59, lo59, X59, e59, N59, st59⟩ : ∃ (T' : State) (lo : List Loc) (_ : Stand p l e room_1 s m #[(.int p1), (.int p2)] below meth c T' lo 2 14), T'.heap = T37.heap ∧ Fr n0 lo ∧ ∀ t, Steps p.tables e below (T'.setTop (mkF m 256 #[.val (.int p1), .val (.int p2), .val (.int (p2 &&& (7 : Int32))), .val (.ref o1), .val (.ref r37)] [(.int (f0_33 p1 p2))])) t → Steps p.tables e below (T42.setTop (mkF m 192 #[.val (.int p1), .val (.int p2), .val (.int (p2 &&& (7 : Int32))), .val (.ref o1), .val (.ref r37)] [(.int (f0_22 p1 p2))])) t := by
        by_cases h43 : (f0_22 p1 p2) = (0 : Int32)
        · refine ⟨T42, _, X42, e42, N42, fun t k => ?_⟩
          rw [show (f0_33 p1 p2) = (0 : Int32) from if_pos h43] at k
          show Steps p.tables e below (T42.setTop (mkF m 192 #[.val (.int p1), .val (.int p2), .val (.int (p2 &&& (7 : Int32))), .val (.ref o1), .val (.ref r37)] [(.int (f0_22 p1 p2))])) _
          refine XS.ifYes X42.here hx rfl (pc0 := 192) (pc' := 255) rfl (hb hby at_192) rfl ((if0 _ _).trans (teq h43).1) (by decide) (by decide) ?_
          show Steps p.tables e below (T42.setTop (mkF m 255 #[.val (.int p1), .val (.int p2), .val (.int (p2 &&& (7 : Int32))), .val (.ref o1), .val (.ref r37)] [])) _
          refine XS.iconst X42.here hx rfl (hb hby at_255) ?_
          exact k
        · obtain ⟨_, _, ⟨T44, L44, k44, n44⟩, -, X44, ⟨Lc44, hQ44, l44, y44, z44⟩, st44⟩ := Jvm.LawKit.callS X42 hx (y := (⟨"com/example/bonn/bonn/FormulaComplementPinLaw", "at", "([Z[ZII)Z"⟩ : MethodName)) hown (mvT hZ (hw _ (List.mem_of_getElem? (i := 5) rfl))) (mvT hZ (hw _ (List.mem_of_getElem? (i := 6) rfl))) (mvT hZ (hw _ (List.mem_of_getElem? (i := 7) rfl))) (mvT hZ (hw _ (List.mem_of_getElem? (i := 8) rfl))) (by decide) (backOf (W := 0) (rmat2 l Z a0 hw [] o1 r37 p1 kc1 (p2 &&& (7 : Int32)) (f0_1 p1 p2) (f0_3 p1 p2) (f0_5 p1 p2) (f0_7 p1 p2) (f0_9 p1 p2) (f0_11 p1 p2) (f0_13 p1 p2) k_r37 (f0_14 p1 p2) (f0_15 p1 p2) (f0_16 p1 p2) (f0_17 p1 p2) (f0_18 p1 p2) (f0_19 p1 p2) (f0_20 p1 p2) T37.heap n0 Z37 u37_0 c37_0') hZ (hw _ (List.mem_of_getElem? (i := 8) rfl)) (hw _ (List.mem_of_getElem? (i := 7) rfl)) (by decide) (by decide)) (g := (mkF m 200 #[.val (.int p1), .val (.int p2), .val (.int (p2 &&& (7 : Int32))), .val (.ref o1), .val (.ref r37)] [(.int p1), (.int (2 : Int32)), (.ref r37), (.ref o1)])) rfl (by rw [hml]; rfl) (argsL := [(.ref o1), (.ref r37), (.int (2 : Int32)), (.int p1)]) (rest := []) (lenOf pd_1 rfl) rfl (by show 2 * 0 + _ ≤ _; exact Nat.le_of_eq rfl) (hb hby at_200) (fun _ _ => ⟨rfl, e42, (by decide : 2 + 0 ≤ _), (by decide : 14 + 0 ≤ _)⟩)
          dsimp only [Pt.U, Pt.locs, Pt.cells, Pt.slots] at X44 l44 y44 z44 st44 hQ44
          subst l44 y44 z44
          obtain ⟨rfl, N44q, e44⟩ := hQ44
          have N44 := Fr.app N42 N44q
          obtain ⟨T58, lo58, X58, e58, N58, st58⟩ : ∃ (T' : State) (lo : List Loc) (_ : Stand p l e room_1 s m #[(.int p1), (.int p2)] below meth c T' lo 2 14), T'.heap = T37.heap ∧ Fr n0 lo ∧ ∀ t, Steps p.tables e below (T'.setTop (mkF m 256 #[.val (.int p1), .val (.int p2), .val (.int (p2 &&& (7 : Int32))), .val (.ref o1), .val (.ref r37)] [(.int (f0_32 p1 p2))])) t → Steps p.tables e below (T44.setTop (mkF m 203 #[.val (.int p1), .val (.int p2), .val (.int (p2 &&& (7 : Int32))), .val (.ref o1), .val (.ref r37)] [(.int (f0_23 p1 p2))])) t := by
            by_cases h45 : (f0_23 p1 p2) = (0 : Int32)
            · refine ⟨T44, _, X44, e44, N44, fun t k => ?_⟩
              rw [show (f0_32 p1 p2) = (0 : Int32) from if_pos h45] at k
              show Steps p.tables e below (T44.setTop (mkF m 203 #[.val (.int p1), .val (.int p2), .val (.int (p2 &&& (7 : Int32))), .val (.ref o1), .val (.ref r37)] [(.int (f0_23 p1 p2))])) _
              refine XS.ifYes X44.here hx rfl (pc0 := 203) (pc' := 255) rfl (hb hby at_203) rfl ((if0 _ _).trans (teq h45).1) (by decide) (by decide) ?_
              show Steps p.tables e below (T44.setTop (mkF m 255 #[.val (.int p1), .val (.int p2), .val (.int (p2 &&& (7 : Int32))), .val (.ref o1), .val (.ref r37)] [])) _
              refine XS.iconst X44.here hx rfl (hb hby at_255) ?_
              exact k
            · obtain ⟨_, _, ⟨T46, L46, k46, n46⟩, -, X46, ⟨Lc46, hQ46, l46, y46, z46⟩, st46⟩ := Jvm.LawKit.callS X44 hx (y := (⟨"com/example/bonn/bonn/FormulaComplementPinLaw", "at", "([Z[ZII)Z"⟩ : MethodName)) hown (mvT hZ (hw _ (List.mem_of_getElem? (i := 5) rfl))) (mvT hZ (hw _ (List.mem_of_getElem? (i := 6) rfl))) (mvT hZ (hw _ (List.mem_of_getElem? (i := 7) rfl))) (mvT hZ (hw _ (List.mem_of_getElem? (i := 8) rfl))) (by decide) (backOf (W := 0) (rmat3 l Z a0 hw [] o1 r37 p1 kc1 (p2 &&& (7 : Int32)) (f0_1 p1 p2) (f0_3 p1 p2) (f0_5 p1 p2) (f0_7 p1 p2) (f0_9 p1 p2) (f0_11 p1 p2) (f0_13 p1 p2) k_r37 (f0_14 p1 p2) (f0_15 p1 p2) (f0_16 p1 p2) (f0_17 p1 p2) (f0_18 p1 p2) (f0_19 p1 p2) (f0_20 p1 p2) T37.heap n0 Z37 u37_0 c37_0') hZ (hw _ (List.mem_of_getElem? (i := 8) rfl)) (hw _ (List.mem_of_getElem? (i := 7) rfl)) (by decide) (by decide)) (g := (mkF m 211 #[.val (.int p1), .val (.int p2), .val (.int (p2 &&& (7 : Int32))), .val (.ref o1), .val (.ref r37)] [(.int p1), (.int (3 : Int32)), (.ref r37), (.ref o1)])) rfl (by rw [hml]; rfl) (argsL := [(.ref o1), (.ref r37), (.int (3 : Int32)), (.int p1)]) (rest := []) (lenOf pd_1 rfl) rfl (by show 2 * 0 + _ ≤ _; exact Nat.le_of_eq rfl) (hb hby at_211) (fun _ _ => ⟨rfl, e44, (by decide : 2 + 0 ≤ _), (by decide : 14 + 0 ≤ _)⟩)
              dsimp only [Pt.U, Pt.locs, Pt.cells, Pt.slots] at X46 l46 y46 z46 st46 hQ46
              subst l46 y46 z46
              obtain ⟨rfl, N46q, e46⟩ := hQ46
              have N46 := Fr.app N44 N46q
              obtain ⟨T57, lo57, X57, e57, N57, st57⟩ : ∃ (T' : State) (lo : List Loc) (_ : Stand p l e room_1 s m #[(.int p1), (.int p2)] below meth c T' lo 2 14), T'.heap = T37.heap ∧ Fr n0 lo ∧ ∀ t, Steps p.tables e below (T'.setTop (mkF m 256 #[.val (.int p1), .val (.int p2), .val (.int (p2 &&& (7 : Int32))), .val (.ref o1), .val (.ref r37)] [(.int (f0_31 p1 p2))])) t → Steps p.tables e below (T46.setTop (mkF m 214 #[.val (.int p1), .val (.int p2), .val (.int (p2 &&& (7 : Int32))), .val (.ref o1), .val (.ref r37)] [(.int (f0_24 p1 p2))])) t := by
                by_cases h47 : (f0_24 p1 p2) = (0 : Int32)
                · refine ⟨T46, _, X46, e46, N46, fun t k => ?_⟩
                  rw [show (f0_31 p1 p2) = (0 : Int32) from if_pos h47] at k
                  show Steps p.tables e below (T46.setTop (mkF m 214 #[.val (.int p1), .val (.int p2), .val (.int (p2 &&& (7 : Int32))), .val (.ref o1), .val (.ref r37)] [(.int (f0_24 p1 p2))])) _
                  refine XS.ifYes X46.here hx rfl (pc0 := 214) (pc' := 255) rfl (hb hby at_214) rfl ((if0 _ _).trans (teq h47).1) (by decide) (by decide) ?_
                  show Steps p.tables e below (T46.setTop (mkF m 255 #[.val (.int p1), .val (.int p2), .val (.int (p2 &&& (7 : Int32))), .val (.ref o1), .val (.ref r37)] [])) _
                  refine XS.iconst X46.here hx rfl (hb hby at_255) ?_
                  exact k
                · obtain ⟨_, _, ⟨T48, L48, k48, n48⟩, -, X48, ⟨Lc48, hQ48, l48, y48, z48⟩, st48⟩ := Jvm.LawKit.callS X46 hx (y := (⟨"com/example/bonn/bonn/FormulaComplementPinLaw", "at", "([Z[ZII)Z"⟩ : MethodName)) hown (mvT hZ (hw _ (List.mem_of_getElem? (i := 5) rfl))) (mvT hZ (hw _ (List.mem_of_getElem? (i := 6) rfl))) (mvT hZ (hw _ (List.mem_of_getElem? (i := 7) rfl))) (mvT hZ (hw _ (List.mem_of_getElem? (i := 8) rfl))) (by decide) (backOf (W := 0) (rmat4 l Z a0 hw [] o1 r37 p1 kc1 (p2 &&& (7 : Int32)) (f0_1 p1 p2) (f0_3 p1 p2) (f0_5 p1 p2) (f0_7 p1 p2) (f0_9 p1 p2) (f0_11 p1 p2) (f0_13 p1 p2) k_r37 (f0_14 p1 p2) (f0_15 p1 p2) (f0_16 p1 p2) (f0_17 p1 p2) (f0_18 p1 p2) (f0_19 p1 p2) (f0_20 p1 p2) T37.heap n0 Z37 u37_0 c37_0') hZ (hw _ (List.mem_of_getElem? (i := 8) rfl)) (hw _ (List.mem_of_getElem? (i := 7) rfl)) (by decide) (by decide)) (g := (mkF m 222 #[.val (.int p1), .val (.int p2), .val (.int (p2 &&& (7 : Int32))), .val (.ref o1), .val (.ref r37)] [(.int p1), (.int (4 : Int32)), (.ref r37), (.ref o1)])) rfl (by rw [hml]; rfl) (argsL := [(.ref o1), (.ref r37), (.int (4 : Int32)), (.int p1)]) (rest := []) (lenOf pd_1 rfl) rfl (by show 2 * 0 + _ ≤ _; exact Nat.le_of_eq rfl) (hb hby at_222) (fun _ _ => ⟨rfl, e46, (by decide : 2 + 0 ≤ _), (by decide : 14 + 0 ≤ _)⟩)
                  dsimp only [Pt.U, Pt.locs, Pt.cells, Pt.slots] at X48 l48 y48 z48 st48 hQ48
                  subst l48 y48 z48
                  obtain ⟨rfl, N48q, e48⟩ := hQ48
                  have N48 := Fr.app N46 N48q
                  obtain ⟨T56, lo56, X56, e56, N56, st56⟩ : ∃ (T' : State) (lo : List Loc) (_ : Stand p l e room_1 s m #[(.int p1), (.int p2)] below meth c T' lo 2 14), T'.heap = T37.heap ∧ Fr n0 lo ∧ ∀ t, Steps p.tables e below (T'.setTop (mkF m 256 #[.val (.int p1), .val (.int p2), .val (.int (p2 &&& (7 : Int32))), .val (.ref o1), .val (.ref r37)] [(.int (f0_30 p1 p2))])) t → Steps p.tables e below (T48.setTop (mkF m 225 #[.val (.int p1), .val (.int p2), .val (.int (p2 &&& (7 : Int32))), .val (.ref o1), .val (.ref r37)] [(.int (f0_25 p1 p2))])) t := by
                    by_cases h49 : (f0_25 p1 p2) = (0 : Int32)
                    · refine ⟨T48, _, X48, e48, N48, fun t k => ?_⟩
                      rw [show (f0_30 p1 p2) = (0 : Int32) from if_pos h49] at k
                      show Steps p.tables e below (T48.setTop (mkF m 225 #[.val (.int p1), .val (.int p2), .val (.int (p2 &&& (7 : Int32))), .val (.ref o1), .val (.ref r37)] [(.int (f0_25 p1 p2))])) _
                      refine XS.ifYes X48.here hx rfl (pc0 := 225) (pc' := 255) rfl (hb hby at_225) rfl ((if0 _ _).trans (teq h49).1) (by decide) (by decide) ?_
                      show Steps p.tables e below (T48.setTop (mkF m 255 #[.val (.int p1), .val (.int p2), .val (.int (p2 &&& (7 : Int32))), .val (.ref o1), .val (.ref r37)] [])) _
                      refine XS.iconst X48.here hx rfl (hb hby at_255) ?_
                      exact k
                    · obtain ⟨_, _, ⟨T50, L50, k50, n50⟩, -, X50, ⟨Lc50, hQ50, l50, y50, z50⟩, st50⟩ := Jvm.LawKit.callS X48 hx (y := (⟨"com/example/bonn/bonn/FormulaComplementPinLaw", "at", "([Z[ZII)Z"⟩ : MethodName)) hown (mvT hZ (hw _ (List.mem_of_getElem? (i := 5) rfl))) (mvT hZ (hw _ (List.mem_of_getElem? (i := 6) rfl))) (mvT hZ (hw _ (List.mem_of_getElem? (i := 7) rfl))) (mvT hZ (hw _ (List.mem_of_getElem? (i := 8) rfl))) (by decide) (backOf (W := 0) (rmat5 l Z a0 hw [] o1 r37 p1 kc1 (p2 &&& (7 : Int32)) (f0_1 p1 p2) (f0_3 p1 p2) (f0_5 p1 p2) (f0_7 p1 p2) (f0_9 p1 p2) (f0_11 p1 p2) (f0_13 p1 p2) k_r37 (f0_14 p1 p2) (f0_15 p1 p2) (f0_16 p1 p2) (f0_17 p1 p2) (f0_18 p1 p2) (f0_19 p1 p2) (f0_20 p1 p2) T37.heap n0 Z37 u37_0 c37_0') hZ (hw _ (List.mem_of_getElem? (i := 8) rfl)) (hw _ (List.mem_of_getElem? (i := 7) rfl)) (by decide) (by decide)) (g := (mkF m 233 #[.val (.int p1), .val (.int p2), .val (.int (p2 &&& (7 : Int32))), .val (.ref o1), .val (.ref r37)] [(.int p1), (.int (5 : Int32)), (.ref r37), (.ref o1)])) rfl (by rw [hml]; rfl) (argsL := [(.ref o1), (.ref r37), (.int (5 : Int32)), (.int p1)]) (rest := []) (lenOf pd_1 rfl) rfl (by show 2 * 0 + _ ≤ _; exact Nat.le_of_eq rfl) (hb hby at_233) (fun _ _ => ⟨rfl, e48, (by decide : 2 + 0 ≤ _), (by decide : 14 + 0 ≤ _)⟩)
                      dsimp only [Pt.U, Pt.locs, Pt.cells, Pt.slots] at X50 l50 y50 z50 st50 hQ50
                      subst l50 y50 z50
                      obtain ⟨rfl, N50q, e50⟩ := hQ50
                      have N50 := Fr.app N48 N50q
                      obtain ⟨T55, lo55, X55, e55, N55, st55⟩ : ∃ (T' : State) (lo : List Loc) (_ : Stand p l e room_1 s m #[(.int p1), (.int p2)] below meth c T' lo 2 14), T'.heap = T37.heap ∧ Fr n0 lo ∧ ∀ t, Steps p.tables e below (T'.setTop (mkF m 256 #[.val (.int p1), .val (.int p2), .val (.int (p2 &&& (7 : Int32))), .val (.ref o1), .val (.ref r37)] [(.int (f0_29 p1 p2))])) t → Steps p.tables e below (T50.setTop (mkF m 236 #[.val (.int p1), .val (.int p2), .val (.int (p2 &&& (7 : Int32))), .val (.ref o1), .val (.ref r37)] [(.int (f0_26 p1 p2))])) t := by
                        by_cases h51 : (f0_26 p1 p2) = (0 : Int32)
                        · refine ⟨T50, _, X50, e50, N50, fun t k => ?_⟩
                          rw [show (f0_29 p1 p2) = (0 : Int32) from if_pos h51] at k
                          show Steps p.tables e below (T50.setTop (mkF m 236 #[.val (.int p1), .val (.int p2), .val (.int (p2 &&& (7 : Int32))), .val (.ref o1), .val (.ref r37)] [(.int (f0_26 p1 p2))])) _
                          refine XS.ifYes X50.here hx rfl (pc0 := 236) (pc' := 255) rfl (hb hby at_236) rfl ((if0 _ _).trans (teq h51).1) (by decide) (by decide) ?_
                          show Steps p.tables e below (T50.setTop (mkF m 255 #[.val (.int p1), .val (.int p2), .val (.int (p2 &&& (7 : Int32))), .val (.ref o1), .val (.ref r37)] [])) _
                          refine XS.iconst X50.here hx rfl (hb hby at_255) ?_
                          exact k
                        · obtain ⟨_, _, ⟨T52, L52, k52, n52⟩, -, X52, ⟨Lc52, hQ52, l52, y52, z52⟩, st52⟩ := Jvm.LawKit.callS X50 hx (y := (⟨"com/example/bonn/bonn/FormulaComplementPinLaw", "at", "([Z[ZII)Z"⟩ : MethodName)) hown (mvT hZ (hw _ (List.mem_of_getElem? (i := 5) rfl))) (mvT hZ (hw _ (List.mem_of_getElem? (i := 6) rfl))) (mvT hZ (hw _ (List.mem_of_getElem? (i := 7) rfl))) (mvT hZ (hw _ (List.mem_of_getElem? (i := 8) rfl))) (by decide) (backOf (W := 0) (rmat6 l Z a0 hw [] o1 r37 p1 kc1 (p2 &&& (7 : Int32)) (f0_1 p1 p2) (f0_3 p1 p2) (f0_5 p1 p2) (f0_7 p1 p2) (f0_9 p1 p2) (f0_11 p1 p2) (f0_13 p1 p2) k_r37 (f0_14 p1 p2) (f0_15 p1 p2) (f0_16 p1 p2) (f0_17 p1 p2) (f0_18 p1 p2) (f0_19 p1 p2) (f0_20 p1 p2) T37.heap n0 Z37 u37_0 c37_0') hZ (hw _ (List.mem_of_getElem? (i := 8) rfl)) (hw _ (List.mem_of_getElem? (i := 7) rfl)) (by decide) (by decide)) (g := (mkF m 245 #[.val (.int p1), .val (.int p2), .val (.int (p2 &&& (7 : Int32))), .val (.ref o1), .val (.ref r37)] [(.int p1), (.int (6 : Int32)), (.ref r37), (.ref o1)])) rfl (by rw [hml]; rfl) (argsL := [(.ref o1), (.ref r37), (.int (6 : Int32)), (.int p1)]) (rest := []) (lenOf pd_1 rfl) rfl (by show 2 * 0 + _ ≤ _; exact Nat.le_of_eq rfl) (hb hby at_245) (fun _ _ => ⟨rfl, e50, (by decide : 2 + 0 ≤ _), (by decide : 14 + 0 ≤ _)⟩)
                          dsimp only [Pt.U, Pt.locs, Pt.cells, Pt.slots] at X52 l52 y52 z52 st52 hQ52
                          subst l52 y52 z52
                          obtain ⟨rfl, N52q, e52⟩ := hQ52
                          have N52 := Fr.app N50 N52q
                          have st54 : ∀ t, Steps p.tables e below (T52.setTop (mkF m 256 #[.val (.int p1), .val (.int p2), .val (.int (p2 &&& (7 : Int32))), .val (.ref o1), .val (.ref r37)] [(.int (f0_28 p1 p2))])) t → Steps p.tables e below (T52.setTop (mkF m 248 #[.val (.int p1), .val (.int p2), .val (.int (p2 &&& (7 : Int32))), .val (.ref o1), .val (.ref r37)] [(.int (f0_27 p1 p2))])) t := by
                            intro t k
                            by_cases h53 : (f0_27 p1 p2) = (0 : Int32)
                            · rw [show (f0_28 p1 p2) = (0 : Int32) from if_pos h53] at k
                              show Steps p.tables e below (T52.setTop (mkF m 248 #[.val (.int p1), .val (.int p2), .val (.int (p2 &&& (7 : Int32))), .val (.ref o1), .val (.ref r37)] [(.int (f0_27 p1 p2))])) _
                              refine XS.ifYes X52.here hx rfl (pc0 := 248) (pc' := 255) rfl (hb hby at_248) rfl ((if0 _ _).trans (teq h53).1) (by decide) (by decide) ?_
                              show Steps p.tables e below (T52.setTop (mkF m 255 #[.val (.int p1), .val (.int p2), .val (.int (p2 &&& (7 : Int32))), .val (.ref o1), .val (.ref r37)] [])) _
                              refine XS.iconst X52.here hx rfl (hb hby at_255) ?_
                              exact k
                            · rw [show (f0_28 p1 p2) = (1 : Int32) from if_neg h53] at k
                              show Steps p.tables e below (T52.setTop (mkF m 248 #[.val (.int p1), .val (.int p2), .val (.int (p2 &&& (7 : Int32))), .val (.ref o1), .val (.ref r37)] [(.int (f0_27 p1 p2))])) _
                              refine XS.ifNo X52.here hx rfl (hb hby at_248) rfl ((if0 _ _).trans (feq h53).1) ?_
                              show Steps p.tables e below (T52.setTop (mkF m 251 #[.val (.int p1), .val (.int p2), .val (.int (p2 &&& (7 : Int32))), .val (.ref o1), .val (.ref r37)] [])) _
                              refine XS.iconst X52.here hx rfl (hb hby at_251) ?_
                              show Steps p.tables e below (T52.setTop (mkF m 252 #[.val (.int p1), .val (.int p2), .val (.int (p2 &&& (7 : Int32))), .val (.ref o1), .val (.ref r37)] [(.int (1 : Int32))])) _
                              refine XS.goto X52.here hx rfl (pc0 := 252) (pc' := 256) rfl (hb hby at_252) (by decide) (by decide) ?_
                              exact k
                          refine ⟨T52, _, X52, e52, N52, fun t k => ?_⟩
                          rw [show (f0_29 p1 p2) = (f0_28 p1 p2) from if_neg h51] at k
                          show Steps p.tables e below (T50.setTop (mkF m 236 #[.val (.int p1), .val (.int p2), .val (.int (p2 &&& (7 : Int32))), .val (.ref o1), .val (.ref r37)] [(.int (f0_26 p1 p2))])) _
                          refine XS.ifNo X50.here hx rfl (hb hby at_236) rfl ((if0 _ _).trans (feq h51).1) ?_
                          show Steps p.tables e below (T50.setTop (mkF m 239 #[.val (.int p1), .val (.int p2), .val (.int (p2 &&& (7 : Int32))), .val (.ref o1), .val (.ref r37)] [])) _
                          refine XS.aloadN X50.here hx rfl (hb hby at_239) rfl rfl ?_
                          show Steps p.tables e below (T50.setTop (mkF m 240 #[.val (.int p1), .val (.int p2), .val (.int (p2 &&& (7 : Int32))), .val (.ref o1), .val (.ref r37)] [(.ref o1)])) _
                          refine XS.aload X50.here hx rfl (hb hby at_240) rfl rfl ?_
                          show Steps p.tables e below (T50.setTop (mkF m 242 #[.val (.int p1), .val (.int p2), .val (.int (p2 &&& (7 : Int32))), .val (.ref o1), .val (.ref r37)] [(.ref r37), (.ref o1)])) _
                          refine XS.bipush X50.here hx rfl (hb hby at_242) ?_
                          show Steps p.tables e below (T50.setTop (mkF m 244 #[.val (.int p1), .val (.int p2), .val (.int (p2 &&& (7 : Int32))), .val (.ref o1), .val (.ref r37)] [(.int (6 : Int32)), (.ref r37), (.ref o1)])) _
                          refine XS.iloadN X50.here hx rfl (hb hby at_244) rfl ?_
                          show Steps p.tables e below (T50.setTop (mkF m 245 #[.val (.int p1), .val (.int p2), .val (.int (p2 &&& (7 : Int32))), .val (.ref o1), .val (.ref r37)] [(.int p1), (.int (6 : Int32)), (.ref r37), (.ref o1)])) _
                          refine st52 _ ?_
                          show Steps p.tables e below (T52.setTop (mkF m 248 #[.val (.int p1), .val (.int p2), .val (.int (p2 &&& (7 : Int32))), .val (.ref o1), .val (.ref r37)] [(.int (f0_27 p1 p2))])) _
                          refine st54 _ ?_
                          exact k
                      refine ⟨T55, _, X55, e55, N55, fun t k => ?_⟩
                      rw [show (f0_30 p1 p2) = (f0_29 p1 p2) from if_neg h49] at k
                      show Steps p.tables e below (T48.setTop (mkF m 225 #[.val (.int p1), .val (.int p2), .val (.int (p2 &&& (7 : Int32))), .val (.ref o1), .val (.ref r37)] [(.int (f0_25 p1 p2))])) _
                      refine XS.ifNo X48.here hx rfl (hb hby at_225) rfl ((if0 _ _).trans (feq h49).1) ?_
                      show Steps p.tables e below (T48.setTop (mkF m 228 #[.val (.int p1), .val (.int p2), .val (.int (p2 &&& (7 : Int32))), .val (.ref o1), .val (.ref r37)] [])) _
                      refine XS.aloadN X48.here hx rfl (hb hby at_228) rfl rfl ?_
                      show Steps p.tables e below (T48.setTop (mkF m 229 #[.val (.int p1), .val (.int p2), .val (.int (p2 &&& (7 : Int32))), .val (.ref o1), .val (.ref r37)] [(.ref o1)])) _
                      refine XS.aload X48.here hx rfl (hb hby at_229) rfl rfl ?_
                      show Steps p.tables e below (T48.setTop (mkF m 231 #[.val (.int p1), .val (.int p2), .val (.int (p2 &&& (7 : Int32))), .val (.ref o1), .val (.ref r37)] [(.ref r37), (.ref o1)])) _
                      refine XS.iconst X48.here hx rfl (hb hby at_231) ?_
                      show Steps p.tables e below (T48.setTop (mkF m 232 #[.val (.int p1), .val (.int p2), .val (.int (p2 &&& (7 : Int32))), .val (.ref o1), .val (.ref r37)] [(.int (5 : Int32)), (.ref r37), (.ref o1)])) _
                      refine XS.iloadN X48.here hx rfl (hb hby at_232) rfl ?_
                      show Steps p.tables e below (T48.setTop (mkF m 233 #[.val (.int p1), .val (.int p2), .val (.int (p2 &&& (7 : Int32))), .val (.ref o1), .val (.ref r37)] [(.int p1), (.int (5 : Int32)), (.ref r37), (.ref o1)])) _
                      refine st50 _ ?_
                      show Steps p.tables e below (T50.setTop (mkF m 236 #[.val (.int p1), .val (.int p2), .val (.int (p2 &&& (7 : Int32))), .val (.ref o1), .val (.ref r37)] [(.int (f0_26 p1 p2))])) _
                      refine st55 _ ?_
                      exact k
                  refine ⟨T56, _, X56, e56, N56, fun t k => ?_⟩
                  rw [show (f0_31 p1 p2) = (f0_30 p1 p2) from if_neg h47] at k
                  show Steps p.tables e below (T46.setTop (mkF m 214 #[.val (.int p1), .val (.int p2), .val (.int (p2 &&& (7 : Int32))), .val (.ref o1), .val (.ref r37)] [(.int (f0_24 p1 p2))])) _
                  refine XS.ifNo X46.here hx rfl (hb hby at_214) rfl ((if0 _ _).trans (feq h47).1) ?_
                  show Steps p.tables e below (T46.setTop (mkF m 217 #[.val (.int p1), .val (.int p2), .val (.int (p2 &&& (7 : Int32))), .val (.ref o1), .val (.ref r37)] [])) _
                  refine XS.aloadN X46.here hx rfl (hb hby at_217) rfl rfl ?_
                  show Steps p.tables e below (T46.setTop (mkF m 218 #[.val (.int p1), .val (.int p2), .val (.int (p2 &&& (7 : Int32))), .val (.ref o1), .val (.ref r37)] [(.ref o1)])) _
                  refine XS.aload X46.here hx rfl (hb hby at_218) rfl rfl ?_
                  show Steps p.tables e below (T46.setTop (mkF m 220 #[.val (.int p1), .val (.int p2), .val (.int (p2 &&& (7 : Int32))), .val (.ref o1), .val (.ref r37)] [(.ref r37), (.ref o1)])) _
                  refine XS.iconst X46.here hx rfl (hb hby at_220) ?_
                  show Steps p.tables e below (T46.setTop (mkF m 221 #[.val (.int p1), .val (.int p2), .val (.int (p2 &&& (7 : Int32))), .val (.ref o1), .val (.ref r37)] [(.int (4 : Int32)), (.ref r37), (.ref o1)])) _
                  refine XS.iloadN X46.here hx rfl (hb hby at_221) rfl ?_
                  show Steps p.tables e below (T46.setTop (mkF m 222 #[.val (.int p1), .val (.int p2), .val (.int (p2 &&& (7 : Int32))), .val (.ref o1), .val (.ref r37)] [(.int p1), (.int (4 : Int32)), (.ref r37), (.ref o1)])) _
                  refine st48 _ ?_
                  show Steps p.tables e below (T48.setTop (mkF m 225 #[.val (.int p1), .val (.int p2), .val (.int (p2 &&& (7 : Int32))), .val (.ref o1), .val (.ref r37)] [(.int (f0_25 p1 p2))])) _
                  refine st56 _ ?_
                  exact k
              refine ⟨T57, _, X57, e57, N57, fun t k => ?_⟩
              rw [show (f0_32 p1 p2) = (f0_31 p1 p2) from if_neg h45] at k
              show Steps p.tables e below (T44.setTop (mkF m 203 #[.val (.int p1), .val (.int p2), .val (.int (p2 &&& (7 : Int32))), .val (.ref o1), .val (.ref r37)] [(.int (f0_23 p1 p2))])) _
              refine XS.ifNo X44.here hx rfl (hb hby at_203) rfl ((if0 _ _).trans (feq h45).1) ?_
              show Steps p.tables e below (T44.setTop (mkF m 206 #[.val (.int p1), .val (.int p2), .val (.int (p2 &&& (7 : Int32))), .val (.ref o1), .val (.ref r37)] [])) _
              refine XS.aloadN X44.here hx rfl (hb hby at_206) rfl rfl ?_
              show Steps p.tables e below (T44.setTop (mkF m 207 #[.val (.int p1), .val (.int p2), .val (.int (p2 &&& (7 : Int32))), .val (.ref o1), .val (.ref r37)] [(.ref o1)])) _
              refine XS.aload X44.here hx rfl (hb hby at_207) rfl rfl ?_
              show Steps p.tables e below (T44.setTop (mkF m 209 #[.val (.int p1), .val (.int p2), .val (.int (p2 &&& (7 : Int32))), .val (.ref o1), .val (.ref r37)] [(.ref r37), (.ref o1)])) _
              refine XS.iconst X44.here hx rfl (hb hby at_209) ?_
              show Steps p.tables e below (T44.setTop (mkF m 210 #[.val (.int p1), .val (.int p2), .val (.int (p2 &&& (7 : Int32))), .val (.ref o1), .val (.ref r37)] [(.int (3 : Int32)), (.ref r37), (.ref o1)])) _
              refine XS.iloadN X44.here hx rfl (hb hby at_210) rfl ?_
              show Steps p.tables e below (T44.setTop (mkF m 211 #[.val (.int p1), .val (.int p2), .val (.int (p2 &&& (7 : Int32))), .val (.ref o1), .val (.ref r37)] [(.int p1), (.int (3 : Int32)), (.ref r37), (.ref o1)])) _
              refine st46 _ ?_
              show Steps p.tables e below (T46.setTop (mkF m 214 #[.val (.int p1), .val (.int p2), .val (.int (p2 &&& (7 : Int32))), .val (.ref o1), .val (.ref r37)] [(.int (f0_24 p1 p2))])) _
              refine st57 _ ?_
              exact k
          refine ⟨T58, _, X58, e58, N58, fun t k => ?_⟩
          rw [show (f0_33 p1 p2) = (f0_32 p1 p2) from if_neg h43] at k
          show Steps p.tables e below (T42.setTop (mkF m 192 #[.val (.int p1), .val (.int p2), .val (.int (p2 &&& (7 : Int32))), .val (.ref o1), .val (.ref r37)] [(.int (f0_22 p1 p2))])) _
          refine XS.ifNo X42.here hx rfl (hb hby at_192) rfl ((if0 _ _).trans (feq h43).1) ?_
          show Steps p.tables e below (T42.setTop (mkF m 195 #[.val (.int p1), .val (.int p2), .val (.int (p2 &&& (7 : Int32))), .val (.ref o1), .val (.ref r37)] [])) _
          refine XS.aloadN X42.here hx rfl (hb hby at_195) rfl rfl ?_
          show Steps p.tables e below (T42.setTop (mkF m 196 #[.val (.int p1), .val (.int p2), .val (.int (p2 &&& (7 : Int32))), .val (.ref o1), .val (.ref r37)] [(.ref o1)])) _
          refine XS.aload X42.here hx rfl (hb hby at_196) rfl rfl ?_
          show Steps p.tables e below (T42.setTop (mkF m 198 #[.val (.int p1), .val (.int p2), .val (.int (p2 &&& (7 : Int32))), .val (.ref o1), .val (.ref r37)] [(.ref r37), (.ref o1)])) _
          refine XS.iconst X42.here hx rfl (hb hby at_198) ?_
          show Steps p.tables e below (T42.setTop (mkF m 199 #[.val (.int p1), .val (.int p2), .val (.int (p2 &&& (7 : Int32))), .val (.ref o1), .val (.ref r37)] [(.int (2 : Int32)), (.ref r37), (.ref o1)])) _
          refine XS.iloadN X42.here hx rfl (hb hby at_199) rfl ?_
          show Steps p.tables e below (T42.setTop (mkF m 200 #[.val (.int p1), .val (.int p2), .val (.int (p2 &&& (7 : Int32))), .val (.ref o1), .val (.ref r37)] [(.int p1), (.int (2 : Int32)), (.ref r37), (.ref o1)])) _
          refine st44 _ ?_
          show Steps p.tables e below (T44.setTop (mkF m 203 #[.val (.int p1), .val (.int p2), .val (.int (p2 &&& (7 : Int32))), .val (.ref o1), .val (.ref r37)] [(.int (f0_23 p1 p2))])) _
          refine st58 _ ?_
          exact k
      refine ⟨T59, _, X59, e59, N59, fun t k => ?_⟩
      rw [show (f0_34 p1 p2) = (f0_33 p1 p2) from if_neg h41] at k
      show Steps p.tables e below (T40.setTop (mkF m 181 #[.val (.int p1), .val (.int p2), .val (.int (p2 &&& (7 : Int32))), .val (.ref o1), .val (.ref r37)] [(.int (f0_21 p1 p2))])) _
      refine XS.ifNo X40.here hx rfl (hb hby at_181) rfl ((if0 _ _).trans (feq h41).1) ?_
      show Steps p.tables e below (T40.setTop (mkF m 184 #[.val (.int p1), .val (.int p2), .val (.int (p2 &&& (7 : Int32))), .val (.ref o1), .val (.ref r37)] [])) _
      refine XS.aloadN X40.here hx rfl (hb hby at_184) rfl rfl ?_
      show Steps p.tables e below (T40.setTop (mkF m 185 #[.val (.int p1), .val (.int p2), .val (.int (p2 &&& (7 : Int32))), .val (.ref o1), .val (.ref r37)] [(.ref o1)])) _
      refine XS.aload X40.here hx rfl (hb hby at_185) rfl rfl ?_
      show Steps p.tables e below (T40.setTop (mkF m 187 #[.val (.int p1), .val (.int p2), .val (.int (p2 &&& (7 : Int32))), .val (.ref o1), .val (.ref r37)] [(.ref r37), (.ref o1)])) _
      refine XS.iconst X40.here hx rfl (hb hby at_187) ?_
      show Steps p.tables e below (T40.setTop (mkF m 188 #[.val (.int p1), .val (.int p2), .val (.int (p2 &&& (7 : Int32))), .val (.ref o1), .val (.ref r37)] [(.int (1 : Int32)), (.ref r37), (.ref o1)])) _
      refine XS.iloadN X40.here hx rfl (hb hby at_188) rfl ?_
      show Steps p.tables e below (T40.setTop (mkF m 189 #[.val (.int p1), .val (.int p2), .val (.int (p2 &&& (7 : Int32))), .val (.ref o1), .val (.ref r37)] [(.int p1), (.int (1 : Int32)), (.ref r37), (.ref o1)])) _
      refine st42 _ ?_
      show Steps p.tables e below (T42.setTop (mkF m 192 #[.val (.int p1), .val (.int p2), .val (.int (p2 &&& (7 : Int32))), .val (.ref o1), .val (.ref r37)] [(.int (f0_22 p1 p2))])) _
      refine st59 _ ?_
      exact k
  obtain ⟨fs, hr, hrun, hended, hW, hsame⟩ := X60.leave (v := some (.int ((f0_34 p1 p2) &&& 1))) (fun h => by rw [Bd.returns] at h; cases h)
  refine ⟨_, _, ?_, hrun, hended, _, _, rfl, ?_, ⟨_, rfl⟩, hW, hsame.mono (by decide) (by decide)⟩
  · show Steps p.tables e below (s₁.setTop (mkF m 0 #[.val (.int p1), .val (.int p2), .unset, .unset, .unset] [])) _
    refine XS.iloadN X0.here hx rfl (hb hby at_0) rfl ?_
    show Steps p.tables e below (s₁.setTop (mkF m 1 #[.val (.int p1), .val (.int p2), .unset, .unset, .unset] [(.int p2)])) _
    refine XS.bipush X0.here hx rfl (hb hby at_1) ?_
    show Steps p.tables e below (s₁.setTop (mkF m 3 #[.val (.int p1), .val (.int p2), .unset, .unset, .unset] [(.int (7 : Int32)), (.int p2)])) _
    refine XS.iand X0.here hx rfl (hb hby at_3) rfl ?_
    show Steps p.tables e below (s₁.setTop (mkF m 4 #[.val (.int p1), .val (.int p2), .unset, .unset, .unset] [(.int (p2 &&& (7 : Int32)))])) _
    refine XS.istoreN X0.here hx rfl (hb hby at_4) rfl (l' := #[.val (.int p1), .val (.int p2), .val (.int (p2 &&& (7 : Int32))), .unset, .unset]) rfl ?_
    show Steps p.tables e below (s₁.setTop (mkF m 5 #[.val (.int p1), .val (.int p2), .val (.int (p2 &&& (7 : Int32))), .unset, .unset] [])) _
    refine XS.iloadN X0.here hx rfl (hb hby at_5) rfl ?_
    show Steps p.tables e below (s₁.setTop (mkF m 6 #[.val (.int p1), .val (.int p2), .val (.int (p2 &&& (7 : Int32))), .unset, .unset] [(.int (p2 &&& (7 : Int32)))])) _
    refine st1 _ ?_
    show Steps p.tables e below (T1.setTop (mkF m 8 #[.val (.int p1), .val (.int p2), .val (.int (p2 &&& (7 : Int32))), .unset, .unset] [(.ref o1)])) _
    refine XS.astoreN X1.here hx rfl (hb hby at_8) rfl rfl (l' := #[.val (.int p1), .val (.int p2), .val (.int (p2 &&& (7 : Int32))), .val (.ref o1), .unset]) rfl ?_
    show Steps p.tables e below (T1.setTop (mkF m 9 #[.val (.int p1), .val (.int p2), .val (.int (p2 &&& (7 : Int32))), .val (.ref o1), .unset] [])) _
    refine XS.iloadN X1.here hx rfl (hb hby at_9) rfl ?_
    show Steps p.tables e below (T1.setTop (mkF m 10 #[.val (.int p1), .val (.int p2), .val (.int (p2 &&& (7 : Int32))), .val (.ref o1), .unset] [(.int (p2 &&& (7 : Int32)))])) _
    refine st6 _ ?_
    show Steps p.tables e below (T6.setTop (mkF m 27 #[.val (.int p1), .val (.int p2), .val (.int (p2 &&& (7 : Int32))), .val (.ref o1), .unset] [])) _
    refine XS.iloadN X6.here hx rfl (hb hby at_27) rfl ?_
    show Steps p.tables e below (T6.setTop (mkF m 28 #[.val (.int p1), .val (.int p2), .val (.int (p2 &&& (7 : Int32))), .val (.ref o1), .unset] [(.int (p2 &&& (7 : Int32)))])) _
    refine XS.iconst X6.here hx rfl (hb hby at_28) ?_
    show Steps p.tables e below (T6.setTop (mkF m 29 #[.val (.int p1), .val (.int p2), .val (.int (p2 &&& (7 : Int32))), .val (.ref o1), .unset] [(.int (1 : Int32)), (.int (p2 &&& (7 : Int32)))])) _
    refine st11 _ ?_
    show Steps p.tables e below (T11.setTop (mkF m 46 #[.val (.int p1), .val (.int p2), .val (.int (p2 &&& (7 : Int32))), .val (.ref o1), .unset] [])) _
    refine XS.iloadN X11.here hx rfl (hb hby at_46) rfl ?_
    show Steps p.tables e below (T11.setTop (mkF m 47 #[.val (.int p1), .val (.int p2), .val (.int (p2 &&& (7 : Int32))), .val (.ref o1), .unset] [(.int (p2 &&& (7 : Int32)))])) _
    refine XS.iconst X11.here hx rfl (hb hby at_47) ?_
    show Steps p.tables e below (T11.setTop (mkF m 48 #[.val (.int p1), .val (.int p2), .val (.int (p2 &&& (7 : Int32))), .val (.ref o1), .unset] [(.int (2 : Int32)), (.int (p2 &&& (7 : Int32)))])) _
    refine st16 _ ?_
    show Steps p.tables e below (T16.setTop (mkF m 65 #[.val (.int p1), .val (.int p2), .val (.int (p2 &&& (7 : Int32))), .val (.ref o1), .unset] [])) _
    refine XS.iloadN X16.here hx rfl (hb hby at_65) rfl ?_
    show Steps p.tables e below (T16.setTop (mkF m 66 #[.val (.int p1), .val (.int p2), .val (.int (p2 &&& (7 : Int32))), .val (.ref o1), .unset] [(.int (p2 &&& (7 : Int32)))])) _
    refine XS.iconst X16.here hx rfl (hb hby at_66) ?_
    show Steps p.tables e below (T16.setTop (mkF m 67 #[.val (.int p1), .val (.int p2), .val (.int (p2 &&& (7 : Int32))), .val (.ref o1), .unset] [(.int (3 : Int32)), (.int (p2 &&& (7 : Int32)))])) _
    refine st21 _ ?_
    show Steps p.tables e below (T21.setTop (mkF m 85 #[.val (.int p1), .val (.int p2), .val (.int (p2 &&& (7 : Int32))), .val (.ref o1), .unset] [])) _
    refine XS.iloadN X21.here hx rfl (hb hby at_85) rfl ?_
    show Steps p.tables e below (T21.setTop (mkF m 86 #[.val (.int p1), .val (.int p2), .val (.int (p2 &&& (7 : Int32))), .val (.ref o1), .unset] [(.int (p2 &&& (7 : Int32)))])) _
    refine XS.iconst X21.here hx rfl (hb hby at_86) ?_
    show Steps p.tables e below (T21.setTop (mkF m 87 #[.val (.int p1), .val (.int p2), .val (.int (p2 &&& (7 : Int32))), .val (.ref o1), .unset] [(.int (4 : Int32)), (.int (p2 &&& (7 : Int32)))])) _
    refine st26 _ ?_
    show Steps p.tables e below (T26.setTop (mkF m 105 #[.val (.int p1), .val (.int p2), .val (.int (p2 &&& (7 : Int32))), .val (.ref o1), .unset] [])) _
    refine XS.iloadN X26.here hx rfl (hb hby at_105) rfl ?_
    show Steps p.tables e below (T26.setTop (mkF m 106 #[.val (.int p1), .val (.int p2), .val (.int (p2 &&& (7 : Int32))), .val (.ref o1), .unset] [(.int (p2 &&& (7 : Int32)))])) _
    refine XS.iconst X26.here hx rfl (hb hby at_106) ?_
    show Steps p.tables e below (T26.setTop (mkF m 107 #[.val (.int p1), .val (.int p2), .val (.int (p2 &&& (7 : Int32))), .val (.ref o1), .unset] [(.int (5 : Int32)), (.int (p2 &&& (7 : Int32)))])) _
    refine st31 _ ?_
    show Steps p.tables e below (T31.setTop (mkF m 125 #[.val (.int p1), .val (.int p2), .val (.int (p2 &&& (7 : Int32))), .val (.ref o1), .unset] [])) _
    refine XS.iloadN X31.here hx rfl (hb hby at_125) rfl ?_
    show Steps p.tables e below (T31.setTop (mkF m 126 #[.val (.int p1), .val (.int p2), .val (.int (p2 &&& (7 : Int32))), .val (.ref o1), .unset] [(.int (p2 &&& (7 : Int32)))])) _
    refine XS.bipush X31.here hx rfl (hb hby at_126) ?_
    show Steps p.tables e below (T31.setTop (mkF m 128 #[.val (.int p1), .val (.int p2), .val (.int (p2 &&& (7 : Int32))), .val (.ref o1), .unset] [(.int (6 : Int32)), (.int (p2 &&& (7 : Int32)))])) _
    refine st36 _ ?_
    show Steps p.tables e below (T36.setTop (mkF m 147 #[.val (.int p1), .val (.int p2), .val (.int (p2 &&& (7 : Int32))), .val (.ref o1), .unset] [])) _
    refine XS.aloadN X36.here hx rfl (hb hby at_147) rfl rfl ?_
    show Steps p.tables e below (T36.setTop (mkF m 148 #[.val (.int p1), .val (.int p2), .val (.int (p2 &&& (7 : Int32))), .val (.ref o1), .unset] [(.ref o1)])) _
    refine st37 _ ?_
    show Steps p.tables e below (T37.setTop (mkF m 151 #[.val (.int p1), .val (.int p2), .val (.int (p2 &&& (7 : Int32))), .val (.ref o1), .unset] [(.ref r37)])) _
    refine XS.astore X37.here hx rfl (hb hby at_151) rfl rfl (l' := #[.val (.int p1), .val (.int p2), .val (.int (p2 &&& (7 : Int32))), .val (.ref o1), .val (.ref r37)]) rfl ?_
    show Steps p.tables e below (T37.setTop (mkF m 153 #[.val (.int p1), .val (.int p2), .val (.int (p2 &&& (7 : Int32))), .val (.ref o1), .val (.ref r37)] [])) _
    refine XS.aload X37.here hx rfl (hb hby at_153) rfl rfl ?_
    show Steps p.tables e below (T37.setTop (mkF m 155 #[.val (.int p1), .val (.int p2), .val (.int (p2 &&& (7 : Int32))), .val (.ref o1), .val (.ref r37)] [(.ref r37)])) _
    refine XS.ifnullNo X37.here hx rfl (hb hby at_155) rfl ?_
    show Steps p.tables e below (T37.setTop (mkF m 158 #[.val (.int p1), .val (.int p2), .val (.int (p2 &&& (7 : Int32))), .val (.ref o1), .val (.ref r37)] [])) _
    refine XS.aload X37.here hx rfl (hb hby at_158) rfl rfl ?_
    show Steps p.tables e below (T37.setTop (mkF m 160 #[.val (.int p1), .val (.int p2), .val (.int (p2 &&& (7 : Int32))), .val (.ref o1), .val (.ref r37)] [(.ref r37)])) _
    refine XS.aloadN X37.here hx rfl (hb hby at_160) rfl rfl ?_
    show Steps p.tables e below (T37.setTop (mkF m 161 #[.val (.int p1), .val (.int p2), .val (.int (p2 &&& (7 : Int32))), .val (.ref o1), .val (.ref r37)] [(.ref o1), (.ref r37)])) _
    refine XT.acmpNo X37.here hx rfl (hb hby at_161) rfl rfl rfl (own_aF (Ne.symm ne37_r_1)).1 ?_
    show Steps p.tables e below (T37.setTop (mkF m 164 #[.val (.int p1), .val (.int p2), .val (.int (p2 &&& (7 : Int32))), .val (.ref o1), .val (.ref r37)] [])) _
    refine XS.aload X37.here hx rfl (hb hby at_164) rfl rfl ?_
    show Steps p.tables e below (T37.setTop (mkF m 166 #[.val (.int p1), .val (.int p2), .val (.int (p2 &&& (7 : Int32))), .val (.ref o1), .val (.ref r37)] [(.ref r37)])) _
    refine X37.arraylength hx Ar38.1 (State.isArrayOf_alike hZ.alike Ar38.2.1) (g := (mkF m 166 #[.val (.int p1), .val (.int p2), .val (.int (p2 &&& (7 : Int32))), .val (.ref o1), .val (.ref r37)] [(.ref r37)])) rfl rfl (hb hby at_166) _ ?_
    rw [len_of S38 M38]
    show Steps p.tables e below (T37.setTop (mkF m 167 #[.val (.int p1), .val (.int p2), .val (.int (p2 &&& (7 : Int32))), .val (.ref o1), .val (.ref r37)] [(.int (p2 &&& (7 : Int32)))])) _
    refine XS.iloadN X37.here hx rfl (hb hby at_167) rfl ?_
    show Steps p.tables e below (T37.setTop (mkF m 168 #[.val (.int p1), .val (.int p2), .val (.int (p2 &&& (7 : Int32))), .val (.ref o1), .val (.ref r37)] [(.int (p2 &&& (7 : Int32))), (.int (p2 &&& (7 : Int32)))])) _
    refine XS.icmpYes X37.here hx rfl (pc0 := 168) (pc' := 173) rfl (hb hby at_168) rfl (teq h39).1 (by decide) (by decide) ?_
    show Steps p.tables e below (T37.setTop (mkF m 173 #[.val (.int p1), .val (.int p2), .val (.int (p2 &&& (7 : Int32))), .val (.ref o1), .val (.ref r37)] [])) _
    refine XS.aloadN X37.here hx rfl (hb hby at_173) rfl rfl ?_
    show Steps p.tables e below (T37.setTop (mkF m 174 #[.val (.int p1), .val (.int p2), .val (.int (p2 &&& (7 : Int32))), .val (.ref o1), .val (.ref r37)] [(.ref o1)])) _
    refine XS.aload X37.here hx rfl (hb hby at_174) rfl rfl ?_
    show Steps p.tables e below (T37.setTop (mkF m 176 #[.val (.int p1), .val (.int p2), .val (.int (p2 &&& (7 : Int32))), .val (.ref o1), .val (.ref r37)] [(.ref r37), (.ref o1)])) _
    refine XS.iconst X37.here hx rfl (hb hby at_176) ?_
    show Steps p.tables e below (T37.setTop (mkF m 177 #[.val (.int p1), .val (.int p2), .val (.int (p2 &&& (7 : Int32))), .val (.ref o1), .val (.ref r37)] [(.int (0 : Int32)), (.ref r37), (.ref o1)])) _
    refine XS.iloadN X37.here hx rfl (hb hby at_177) rfl ?_
    show Steps p.tables e below (T37.setTop (mkF m 178 #[.val (.int p1), .val (.int p2), .val (.int (p2 &&& (7 : Int32))), .val (.ref o1), .val (.ref r37)] [(.int p1), (.int (0 : Int32)), (.ref r37), (.ref o1)])) _
    refine st40 _ ?_
    show Steps p.tables e below (T40.setTop (mkF m 181 #[.val (.int p1), .val (.int p2), .val (.int (p2 &&& (7 : Int32))), .val (.ref o1), .val (.ref r37)] [(.int (f0_21 p1 p2))])) _
    refine st60 _ ?_
    show Steps p.tables e below (T60.setTop (mkF m 256 #[.val (.int p1), .val (.int p2), .val (.int (p2 &&& (7 : Int32))), .val (.ref o1), .val (.ref r37)] [(.int (f0_34 p1 p2))])) _
    exact retN X60 hx (t := .boolean) Bd.returns (by simp) (hb hby at_256) hr
  · show Q0 Z p1 p2 h0 n0 _ T60.heap _
    rw [e60]
    exact ⟨congrArg (fun z => some (Value.int z)) ((show f0 p1 p2 = ((f0_34 p1 p2) &&& 1) from by rfl).symm.trans (own_law p1 p2)), N60⟩
set_option maxRecDepth 65536 in
set_option maxHeartbeats 40000000 in
theorem comes_1 {Post : Tables → Env → Array Value → State → Outcome → State → Prop} (hpost : ∀ tb e args s v u, (limb_1_1.after args s (.returned v) u = true ∧ limb_1_2.after args s (.returned v) u = true ∧ True) → FrameEnd s (.returned v) u (Jvm.fieldLocs frame_1_writes args s ++ Jvm.arrayLocs frame_1_arrays args s ++ Jvm.staticLocs frame_1_statics s) 16 128 → Post tb e args s (.returned v) u) :
    ArmFor flags0 classFile x code maxLocals ret World_1 tables_1 room_1 Calls_1 rest_1 Pre_1 Post := by
  intro l hfl _ _ p e ha hc hk s m args below hf hA hF happ hP
  obtain ⟨hcalls, hrest, hpre⟩ := hP
  obtain ⟨-, -, -, hnamed, -, -, -, hat⟩ := (Spec.applies_iff hf).mp happ
  obtain ⟨hg, hn⟩ := and_e (Cond.before_iff.mp (show (Jvm.Cond.and given_1 narrow_1).before args s = true from hpre))
  obtain ⟨hcnt, hg0⟩ := and_e hg
  obtain ⟨hi0, hg1⟩ := and_e hg0
  obtain ⟨w0, w1, rfl⟩ : ∃ w0 w1 : Value, args = #[w0, w1] := by
    have hs : args.size = 2 := by simpa [Cond.value, given_1] using hcnt
    obtain ⟨L⟩ := args
    match L, hs with
    | [w0, w1], _ => exact ⟨w0, w1, rfl⟩
  have hw := fun d (hd : d ∈ tables_1) => atoms_spec (ws := Jvm.Cond.code x code maxLocals ret :: tables_1) hat d (List.mem_cons_of_mem _ hd)
  have hfit : Fit s := fun {y c} hc i hi => by
    obtain ⟨ha, rfl⟩ := Array.getElem?_eq_some_iff.mp hc
    have q := List.all_eq_true.mp ((Array.all_eq_true_iff_forall_mem.mp hF) _ (Array.getElem_mem ha)) i (List.mem_range.mpr hi)
    simpa [Array.getElem?_eq_getElem hi] using q
  obtain ⟨i0, ei0⟩ := is_v hi0
  obtain rfl : w0 = (.int i0) := Option.some.inj ei0
  obtain ⟨i1, ei1⟩ := is_v hg1
  obtain rfl : w1 = (.int i1) := Option.some.inj ei1
  obtain ⟨n, o, h1, h2, h3, _, L, rfl, ⟨rfl, N⟩, hq⟩ := rm0 l s _ hw tables_1 i0 i1 s.heap s.heap.size (Nat.le_refl _) p e ha hc hk s m _ below hf ((Spec.applies_iff_loose hf).mp happ).1 ⟨rfl, State.Warmed39.refl s, rfl⟩ trivial
  refine ⟨n, _, h1, h2, h3, hpost _ _ _ _ _ _ ⟨Cond.after_iff.mpr rfl, Cond.after_iff.mpr (eq_i res_at (Term.int_eval (1)) rfl), trivial⟩ ⟨hq.1, hq.2.1, (hq.2.2.sift fun y hy => Or.inr (N y hy)).mono (by decide) (by decide)⟩⟩
theorem main_1_1 : Claimed_1_1 := comes_1 fun _ _ _ _ _ _ h hF => ⟨h.1, hF⟩
theorem main_1_2 : Claimed_1_2 := comes_1 fun _ _ _ _ _ _ h hF => ⟨h.2.1, hF⟩
end Jvm.Pilot.@@N@@
namespace Jvm.Pilot.@@N@@
open Jvm Jvm.ClassFile Sem Op Lib Jvm.Free Jvm.Stand Jvm.Pilot.@@N@@.Jvm.D
/-! MADE BY PROGRAM (witnessworld.py) out of the Statement's table words and the real class files: 11 classes; the members and pool entries that the words name. The judged class is class 1, her method 1. -/
namespace start1
open Jvm.ClassFile
def u (s : String) : CpInfo := .utf8 (stringToUtf16 s)
/-- a pool by its gaps: so many unusable entries, then the entry; so many at the end -/
def gap : Nat → List CpInfo → List CpInfo
  | 0, r => r
  | n + 1, r => .unusable :: gap n r
def poolList (es : List (Nat × CpInfo)) (last : Nat) : List CpInfo := es.foldr (fun e r => gap e.1 (e.2 :: r)) (gap last [])
def pool (es : List (Nat × CpInfo)) (last : Nat) : Array CpInfo := ⟨poolList es last⟩
def fileOf (pool : Array CpInfo) (this : Nat) (attrs : Array Attribute := #[]) (ms : Array MethodInfo := #[]) (fl : Nat := 33) (sup : Nat := 0) (ifs : Array Nat := #[]) (fds : Array FieldInfo := #[]) : ClassFile where
  minorVersion := 0
  majorVersion := 65
  constantPool := pool
  accessFlags := fl
  thisClass := this
  superClass := sup
  interfaces := ifs
  fields := fds
  methods := ms
  attributes := attrs
def plain (name : String) (sup : Option ClassId) : Class where
  name := name
  kind := .ordinary
  loader := none
  accessFlags := 33
  super := sup
  interfaces := #[]
  cf := none
  fields := #[]
  methods := #[]
  instanceTypes := #[]
  staticTypes := #[]
  resolved := #[]
  callSites := []
  init := .initialized
  statics := none
  mirror := none

def pool0 : Array CpInfo := pool [(5, u "<init>"), (0, u "()V"), (1, .class_ 10), (1, u "java/lang/Object")] 113

def k0m0 : Method := { name := "<init>", desc := "()V", sig := { parameters := [], returnType := none }, accessFlags := 1, code := none }
/-- java/lang/Object -/
def k0 : Class := { plain "java/lang/Object" none with
  accessFlags := 33
  interfaces := #[]
  cf := some (fileOf pool0 8 #[] #[{ accessFlags := 1, nameIndex := 5, descriptorIndex := 6, attributes := #[] }] 33 0 #[] #[])
  fields := #[]
  methods := #[k0m0]
  instanceTypes := #[]
  staticTypes := #[]
  resolved := Array.replicate 124 none
  statics := none }

def pool1 : Array CpInfo := pool [(2, .class_ 4), (1, u "java/lang/Object"), (0, u "<init>"), (0, u "()V"), (0, .methodref 8 9), (0, .class_ 10), (0, .nameAndType 11 12), (0, u "com/example/bonn/bonn/Formula"), (0, u "complement"), (0, u "([Z)[Z"), (0, .methodref 14 15), (0, .class_ 16), (0, .nameAndType 17 18), (0, u "com/example/bonn/bonn/FormulaComplementPinLaw"), (0, u "at"), (0, u "([Z[ZII)Z"), (2, u "law"), (0, u "(II)Z")] 5

def k1m0 : Method := { name := "<init>", desc := "()V", sig := { parameters := [], returnType := none }, accessFlags := 1, code := none }
def k1c1 : Code := { maxStack := 4, maxLocals := 5, code := code, exceptionTable := #[], attributes := #[] }
def k1m1 : Method := { name := "law", desc := "(II)Z", sig := { parameters := [.int, .int], returnType := some .boolean }, accessFlags := 9, code := some k1c1 }
def k1c2 : Code := { maxStack := 2, maxLocals := 5, code := method_3_code, exceptionTable := #[], attributes := #[] }
def k1m2 : Method := { name := "at", desc := "([Z[ZII)Z", sig := { parameters := [(.array .boolean), (.array .boolean), .int, .int], returnType := some .boolean }, accessFlags := 10, code := some k1c2 }
/-- com/example/bonn/bonn/FormulaComplementPinLaw -/
def k1 : Class := { plain "com/example/bonn/bonn/FormulaComplementPinLaw" (some 0) with
  accessFlags := 49
  interfaces := #[]
  cf := some (fileOf pool1 14 #[] #[{ accessFlags := 1, nameIndex := 5, descriptorIndex := 6, attributes := #[] }, { accessFlags := 9, nameIndex := 21, descriptorIndex := 22, attributes := #[] }, { accessFlags := 10, nameIndex := 17, descriptorIndex := 18, attributes := #[] }] 49 2 #[] #[])
  fields := #[]
  methods := #[k1m0, k1m1, k1m2]
  instanceTypes := #[]
  staticTypes := #[]
  resolved := Array.replicate 28 none
  statics := none }

def pool2 : Array CpInfo := pool [(2, .class_ 4), (1, u "java/lang/Object"), (0, u "<init>"), (0, u "()V"), (21, .class_ 30), (1, u "com/example/bonn/bonn/Formula"), (7, .class_ 40), (1, u "com/example/bonn/bonn/Formula$Context"), (13, .class_ 56), (1, u "com/example/bonn/bonn/Formula$Test"), (2, .class_ 60), (0, u "com/example/bonn/bonn/Formula$Condition"), (3, .class_ 65), (0, u "com/example/bonn/bonn/Formula$Quantifier"), (3, .class_ 70), (0, u "com/example/bonn/bonn/Formula$Atom"), (11, .class_ 83), (0, u "com/example/bonn/bonn/Formula$Not"), (3, .class_ 88), (0, u "com/example/bonn/bonn/Formula$Junction"), (3, .class_ 93), (0, u "com/example/bonn/bonn/Formula$Implication"), (3, .class_ 99), (1, u "com/example/bonn/bonn/Formula$Operator"), (15, .class_ 116), (0, u "com/example/bonn/bonn/Formula$Temporal"), (69, u "NO_CELLS"), (0, u "[I"), (33, u "complement"), (0, u "([Z)[Z"), (17, .class_ 241), (0, u "com/example/bonn/bonn/Formula$Codes"), (0, .class_ 243), (0, u "com/example/bonn/bonn/Formula$Temporal$Around"), (0, .class_ 245), (0, u "com/example/bonn/bonn/Formula$StateTest"), (0, .class_ 247), (0, u "com/example/bonn/bonn/Formula$Undecided")] 57

def k2m0 : Method := { name := "<init>", desc := "()V", sig := { parameters := [], returnType := none }, accessFlags := 0, code := none }
def k2c1 : Code := { maxStack := 4, maxLocals := 3, code := prog_18_method_19_code, exceptionTable := #[], attributes := #[] }
def k2m1 : Method := { name := "complement", desc := "([Z)[Z", sig := { parameters := [(.array .boolean)], returnType := some (.array .boolean) }, accessFlags := 8, code := some k2c1 }
/-- com/example/bonn/bonn/Formula -/
def k2 : Class := { plain "com/example/bonn/bonn/Formula" (some 0) with
  accessFlags := 1057
  interfaces := #[]
  cf := some (fileOf pool2 28 #[.nestMembers #[240, 115, 242, 92, 87, 82, 64, 59, 69, 244, 54, 246, 38, 97]] #[{ accessFlags := 0, nameIndex := 5, descriptorIndex := 6, attributes := #[] }, { accessFlags := 8, nameIndex := 221, descriptorIndex := 222, attributes := #[] }] 1057 2 #[] #[{ accessFlags := 26, nameIndex := 186, descriptorIndex := 187, attributes := #[] }])
  fields := #[{ name := "NO_CELLS", type := (.array .int), accessFlags := 26, slot := 0, constantValue := 0 }]
  methods := #[k2m0, k2m1]
  instanceTypes := #[]
  staticTypes := #[(.array .int)]
  resolved := Array.replicate 305 none
  statics := none }

def pool3 : Array CpInfo := pool [(1, u "java/lang/Cloneable"), (0, .class_ 1), (0, u "java/lang/Object"), (0, .class_ 3)] 3

/-- java/lang/Cloneable -/
def k3 : Class := { plain "java/lang/Cloneable" (some 0) with
  accessFlags := 1537
  interfaces := #[]
  cf := some (fileOf pool3 2 #[] #[] 1537 4 #[] #[])
  fields := #[]
  methods := #[]
  instanceTypes := #[]
  staticTypes := #[]
  resolved := Array.replicate 8 none
  statics := none }

def pool4 : Array CpInfo := pool [(1, u "java/io/Serializable"), (0, .class_ 1), (0, u "java/lang/Object"), (0, .class_ 3)] 3

/-- java/io/Serializable -/
def k4 : Class := { plain "java/io/Serializable" (some 0) with
  accessFlags := 1537
  interfaces := #[]
  cf := some (fileOf pool4 2 #[] #[] 1537 4 #[] #[])
  fields := #[]
  methods := #[]
  instanceTypes := #[]
  staticTypes := #[]
  resolved := Array.replicate 8 none
  statics := none }

/-- the primitive boolean -/
def k5 : Class := { plain "boolean" none with kind := .primitive 'Z', accessFlags := 0x411 }
/-- [Z -/
def k6 : Class := { plain "[Z" (some 0) with kind := .array 5 .boolean, interfaces := #[3, 4], accessFlags := 1041 }

/-- the primitive byte -/
def k7 : Class := { plain "byte" none with kind := .primitive 'B', accessFlags := 0x411 }
/-- [B -/
def k8 : Class := { plain "[B" (some 0) with kind := .array 7 .byte, interfaces := #[3, 4], accessFlags := 1041 }

/-- the primitive int -/
def k9 : Class := { plain "int" none with kind := .primitive 'I', accessFlags := 0x411 }
/-- [I -/
def k10 : Class := { plain "[I" (some 0) with kind := .array 9 .int, interfaces := #[3, 4], accessFlags := 1041 }

def heap : Heap := #[]
def classes : Array Class := #[k0, k1, k2, k3, k4, k5, k6, k7, k8, k9, k10]
def interned : List (Array UInt16 × Addr) := []
def slotsUsed : Nat := 0
def theMethod : MethodId := ⟨1, 1⟩
def args0 : Array Value := #[.int 5, .int 6]
def aboutOver (below : List Frame) : State where
  vm := { classes := classes, interned := interned.toArray }
  heap := heap
  slotsUsed := slotsUsed
  threads := #[{ frames := .invoking theMethod args0 :: below }]
def below0 : List Frame := [.native { method := ⟨0, 0⟩, args := #[] }]
def about1 : State := aboutOver below0
def p0 : Program := .bare "" "" ""
def e0 : Env := launch0.env 0 0 0
theorem w_frames : about1.frames = Frame.invoking theMethod args0 :: below0 := rfl
set_option maxRecDepth 65536 in
theorem w_args : argsFit about1.vm theMethod args0 = true := by decide +kernel
set_option maxRecDepth 65536 in
theorem w_heap : heapFits about1 = true := by decide +kernel
set_option maxRecDepth 65536 in
theorem w_runnable : about1.curStatus? = some .runnable := by decide +kernel
set_option maxRecDepth 65536 in
theorem w_alone : about1.alone = true := by decide +kernel
set_option maxRecDepth 65536 in
theorem w_named : about1.methodNamed? x = some theMethod := by decide +kernel
set_option maxRecDepth 65536 in
theorem w_hears : about1.hears theMethod below0 = true := by decide +kernel
set_option maxRecDepth 65536 in
theorem w_ripe : about1.ripe theMethod args0 below0 = true := by decide +kernel
theorem w_running : about1.status = .running := rfl
set_option maxRecDepth 65536 in
theorem w_room : about1.hasRoom e0.platform room_1 = true :=
  launch0.hasRoom_least _ room_1 (by decide +kernel) (by decide +kernel) (by decide +kernel) (by decide +kernel) (by decide +kernel) (by decide +kernel)
theorem allAtoms_all (ts : List Jvm.Cond) (a : Array Jvm.Value) (st : Jvm.State) : (allAtoms ts).before a st = ts.all (fun c => c.before a st) := by
  induction ts with
  | nil => rfl
  | cons c t ih =>
    show (Jvm.Cond.and c (allAtoms t)).before a st = _
    rw [Jvm.Cond.before_and, ih, List.all_cons]
def words1 : List Jvm.Cond := Jvm.Cond.code x code maxLocals ret :: tables_1
/-- a 'code' word, met by the world's own term for the bytes: nothing is compared byte by byte -/
theorem code_word {y : MethodName} {bytes : ByteArray} {mx : Nat} {rt : Option FieldType} {a : Array Value} {s : State} {m : MethodId} {meth : Method} {c : Code} (h1 : s.methodNamed? y = some m) (h2 : s.vm.method? m = some meth) (h3 : meth.code = some c) (h4 : c.code = bytes)
    (h5 : (c.maxLocals == mx && c.exceptionTable.isEmpty && decide (c.maxStack ≤ mostOperands) && decide (meth.sig.returnType = rt) && !meth.locks && decide (parseMethodDescriptor y.desc = some meth.sig)) = true) : (Jvm.Cond.code y bytes mx rt).before a s = true := by
  simp only [Bool.and_eq_true, beq_iff_eq, Bool.not_eq_true', decide_eq_true_eq] at h5
  obtain ⟨⟨⟨⟨⟨g1, g2⟩, g3⟩, g4⟩, g5⟩, g6⟩ := h5
  simp [Cond.before, Cond.holds, Cond.value, h1, h2, h3, h4, g1, g2, g3, g4, g5, g6]
def isCode : Jvm.Cond → Bool
  | .code _ _ _ _ => true
  | _ => false
theorem all_split {L : List Jvm.Cond} {P : Jvm.Cond → Bool} (h1 : L.all (fun c => isCode c || P c) = true) (h2 : ∀ c ∈ L.filter isCode, P c = true) : L.all P = true := by
  refine List.all_eq_true.mpr fun c hc => ?_
  have h := List.all_eq_true.mp h1 c hc
  rcases Bool.eq_false_or_eq_true (isCode c) with hi | hi
  · exact h2 c (List.mem_filter.mpr ⟨hc, hi⟩)
  · simpa [hi] using h
set_option maxRecDepth 65536 in
theorem w_c0 : (Jvm.Cond.code x code maxLocals ret).before args0 about1 = true := code_word (m := ⟨1, 1⟩) (meth := k1m1) (c := k1c1) (by decide +kernel) rfl rfl rfl (by decide +kernel)
set_option maxRecDepth 65536 in
theorem w_c1 : (Jvm.Cond.code ({ cls := "com/example/bonn/bonn/Formula", name := "complement", desc := "([Z)[Z" } : Jvm.MethodName) prog_18_method_19_code (3 : Nat) (Option.some (Jvm.ClassFile.FieldType.array Jvm.ClassFile.FieldType.boolean))).before args0 about1 = true := code_word (m := ⟨2, 1⟩) (meth := k2m1) (c := k2c1) (by decide +kernel) rfl rfl rfl (by decide +kernel)
set_option maxRecDepth 65536 in
theorem w_c2 : (Jvm.Cond.code ({ cls := "com/example/bonn/bonn/FormulaComplementPinLaw", name := "at", desc := "([Z[ZII)Z" } : Jvm.MethodName) method_3_code (5 : Nat) (Option.some Jvm.ClassFile.FieldType.boolean)).before args0 about1 = true := code_word (m := ⟨1, 2⟩) (meth := k1m2) (c := k1c2) (by decide +kernel) rfl rfl rfl (by decide +kernel)
def codes1 : List Jvm.Cond := [Jvm.Cond.code x code maxLocals ret, Jvm.Cond.code ({ cls := "com/example/bonn/bonn/Formula", name := "complement", desc := "([Z)[Z" } : Jvm.MethodName) prog_18_method_19_code (3 : Nat) (Option.some (Jvm.ClassFile.FieldType.array Jvm.ClassFile.FieldType.boolean)), Jvm.Cond.code ({ cls := "com/example/bonn/bonn/FormulaComplementPinLaw", name := "at", desc := "([Z[ZII)Z" } : Jvm.MethodName) method_3_code (5 : Nat) (Option.some Jvm.ClassFile.FieldType.boolean)]
set_option maxRecDepth 65536 in
theorem codes_eq : words1.filter isCode = codes1 := rfl
theorem w_codes : ∀ c ∈ words1.filter isCode, c.before args0 about1 = true := by
  rw [codes_eq]
  intro c hc
  simp only [codes1, List.mem_cons, List.not_mem_nil, or_false] at hc
  rcases hc with rfl | rfl | rfl
  · exact w_c0
  · exact w_c1
  · exact w_c2
set_option maxRecDepth 65536 in
theorem w_t1 : words1.all (fun c => isCode c || c.before args0 about1) = true := by decide +kernel
theorem w_tables : (allAtoms (Jvm.Cond.code x code maxLocals ret :: tables_1)).before args0 about1 = true := by
  rw [allAtoms_all]
  show words1.all (fun c => c.before args0 about1) = true
  refine all_split ?_ w_codes
  rw [w_t1]
set_option maxRecDepth 65536 in
theorem w_case : (Jvm.Cond.and given_1 narrow_1).before args0 about1 = true := by decide +kernel
theorem w_applies : (headSpec (Jvm.Cond.code x code maxLocals ret :: tables_1) room_1).applies x e0.platform about1 = true :=
  (Spec.applies_iff w_frames).mpr ⟨w_running, w_runnable, w_alone, w_named, w_hears, w_ripe, w_room, w_tables⟩
theorem atStart : AtStart classFile x code maxLocals ret World_1 tables_1 room_1 Calls_1 rest_1 Pre_1 launch0 p0 e0 about1 theMethod args0 below0 :=
  ⟨lists_1, trivial, launch0.admits_env _ _ _, launch0.least_env, fairChoices_fair.cas, fairChoices_fair.clock, w_frames, w_args, w_heap, w_applies, trivial, trivial, w_case⟩
end start1
theorem witness_1 : WitnessClaimed_1 := ⟨start1.p0, start1.e0, start1.about1, start1.theMethod, start1.args0, start1.below0, start1.atStart⟩
end Jvm.Pilot.@@N@@
