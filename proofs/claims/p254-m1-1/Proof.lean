import JvmDerived
import JvmDerived.Pilot.@@N@@Statement
import JvmDerived.Pilot.@@N@@Code
set_option linter.unusedVariables false
set_option linter.unusedSimpArgs false
namespace Jvm.RoadKit
open Sem ClassFile Op Lib Jvm.Stand Jvm.Free Jvm.LawKit
section New
variable {p : Program} {l : Launch} {e : Env} {R : Room} {s : State} {m : MethodId} {args : Array Value} {below : List Frame} {meth : Method} {c : Code} {T : State} {locs : List Loc} {cells slots : Nat}
theorem retI (X : Stand p l e R s m args below meth c T locs cells slots) (hx : p.tables.exec = Jvm.exec) {pc : Nat} {Ls : Array Slot} {z : Int32} {rest : List Value} (hret : meth.sig.returnType = some .int) (hd : decode c.code pc = .ok (.ireturn, 1)) {fs : List Frame}
    (hl : ∀ (f : JFrame) (acts : List Action), f.method = m → f.locked = none → f.entered = [] → (doReturn e (T.setTop f) acts (some (.int z))).1 = T.setFrames fs) : Steps p.tables e below (T.setTop (mkF m pc Ls (.int z :: rest))) (T.setFrames fs) := by
  have hm' : T.vm.method? m = some meth := X.method'
  have hn : narrow .int (.int z) = .int z := rfl
  show Steps p.tables e below (T.setTop { method := m, pc := pc, locals := Ls, stack := _ :: rest, locked := none }) _
  jvm_step X.here [X.here.top, hx, hd, hm', hret, hn]
  first | (intro acts; rw [hl _ acts rfl rfl rfl]) | rw [hl _ _ rfl rfl rfl]
  exact Steps.refl _
end New
end Jvm.RoadKit
namespace Jvm.Pilot.@@N@@
open Jvm Jvm.ClassFile Sem Op Lib Jvm.Free Jvm.Stand Jvm.LawKit Jvm.RoadKit Bundle Jvm.Pilot.@@N@@.Jvm.D

section Kit
variable {p : Program} {l : Launch} {e : Env} {R : Room} {s : State} {m : MethodId} {args : Array Value} {below : List Frame} {meth : Method} {c : Code} {T T' : State} {locs : List Loc} {cells slots : Nat} {Z : State} {a0 : Array Value} {h h' : Heap}
/-- from T at the frame g the run comes to a state of which Q holds -/
def WP (p : Program) (e : Env) (below : List Frame) (Q : State → Prop) (T : State) (g : JFrame) : Prop :=
  ∃ t, Steps p.tables e below (T.setTop g) t ∧ Q t
theorem wp {Q : State → Prop} {g g' : JFrame} (h : ∀ t, Steps p.tables e below (T'.setTop g') t → Steps p.tables e below (T.setTop g) t) (k : WP p e below Q T' g') : WP p e below Q T g := by
  obtain ⟨t, a, b⟩ := k
  exact ⟨t, h t a, b⟩
/-- the end that a contract asks -/
def Ends (s : State) (below : List Frame) (q : Option Value → Heap → List Loc → Prop) (Cn Sn : Nat) (t : State) : Prop :=
  ∃ o, t.status = .running ∧ Ended t below o ∧ ∃ v L, o = .returned v ∧ q v t.heap L ∧ FrameEnd s o t L Cn Sn
/-- what a walk knows of its method -/
def Cx (p : Program) (s : State) (m : MethodId) (meth : Method) (c : Code) (Z : State) (a0 : Array Value) (bytes : ByteArray) (ml : Nat) (own nm : String) (ret : Option FieldType) : Prop :=
  p.tables.exec = Jvm.exec ∧ Z.Warmed39 s.vm ∧ (∀ d ∈ tables_1, d.before a0 Z = true) ∧ c.code = bytes ∧ c.maxLocals = ml ∧ s.vm.findClass own = some m.cls ∧ meth.name = nm ∧ meth.sig.returnType = ret ∧ meth.locks = false
/-- a contract: from the heap h, with the arguments as, it returns and q holds -/
def MetQ (l : Launch) (Z : State) (y : MethodName) (bytes : ByteArray) (ml : Nat) (ret : Option FieldType) (ws : List Jvm.Cond) (rm : Room) (as : Array Value) (h : Heap) (q : Option Value → Heap → List Loc → Prop) : Prop :=
  MetFree l y (head1 (Jvm.Cond.code y bytes ml ret :: ws) rm) (fun a U => a = as ∧ Z.Warmed39 U.vm ∧ U.heap = h) (fun _ _ _ _ _ => True) (fun _ U o U' => ∃ v L, o = .returned v ∧ q v U'.heap L ∧ FrameEnd U o U' L rm.cells rm.slots)
theorem metQ {y : MethodName} {bytes : ByteArray} {ml : Nat} {ret : Option FieldType} {ws : List Jvm.Cond} {rm : Room} {as : Array Value} {q : Option Value → Heap → List Loc → Prop} {Ls : Array Slot} (hpl : plainFor y = true) (hw : ∀ d ∈ tables_1, d.before a0 Z = true)
    (hef : ∀ m, entryFrame m as ml = mkF m 0 Ls [])
    (body : ∀ p e s m below meth c s₁, Cx p s m meth c Z a0 bytes ml y.cls y.name ret → Stand p l e rm s m as below meth c s₁ [] 0 0 → s₁.heap = h → WP p e below (Ends s below q rm.cells rm.slots) s₁ (mkF m 0 Ls [])) :
    MetQ l Z y bytes ml ret ws rm as h q := by
  refine MetFree.of_bodySF hpl hisR ?_
  intro p e s m args below meth c s₁ Bd hml0 hP hK
  obtain ⟨rfl, hZ, hh⟩ := hP
  obtain ⟨t, st, o, a, b, d⟩ := body p e s m below meth c s₁ ⟨Bd.exec, hZ, hw, Bd.bytes, hml0, findClass_of_methodNamed Bd.named, (name_of_methodNamed Bd.named Bd.method).1, Bd.returns, Bd.notSynchronized⟩ (Stand.of_body Bd) (by rw [← hh, Bd.state]; rfl)
  exact ⟨t, o, castTop (hef m) st, a, b, d⟩
theorem wp_ret {q : Option Value → Heap → List Loc → Prop} {Cn Sn : Nat} {v : Option Value} {g : JFrame} (X : Stand p l e R s m args below meth c T locs cells slots) (hlk : meth.locks = false) (hv : meth.sig.returnType = none → v = none)
    (hst : ∀ fs, (∀ (f : JFrame) (acts : List Action), f.method = m → f.locked = none → f.entered = [] → (doReturn e (T.setTop f) acts v).1 = T.setFrames fs) → Steps p.tables e below (T.setTop g) (T.setFrames fs)) (hq : q v T.heap locs) (hc : cells ≤ Cn) (hs : slots ≤ Sn) :
    WP p e below (Ends s below q Cn Sn) T g := by
  obtain ⟨fs, hr, hrun, hended, hW, hsame⟩ := X.leave (v := v) hv hlk
  exact ⟨_, hst fs hr, _, hrun, hended, _, _, rfl, hq, ⟨_, rfl⟩, hW, hsame.mono hc hs⟩
theorem wp_ireturn {q : Option Value → Heap → List Loc → Prop} {Cn Sn : Nat} {bytes : ByteArray} {ml pc : Nat} {own nm : String} {Ls : Array Slot} {z : Int32} {rest : List Value} (C : Cx p s m meth c Z a0 bytes ml own nm (some .int)) (X : Stand p l e R s m args below meth c T locs cells slots)
    (hd : decode bytes pc = .ok (.ireturn, 1)) (hq : q (some (.int z)) T.heap locs) (hc : cells ≤ Cn) (hs : slots ≤ Sn) : WP p e below (Ends s below q Cn Sn) T (mkF m pc Ls (.int z :: rest)) := by
  obtain ⟨hx, hZ, hw, hby, hml, hown, hnm, hret, hlk⟩ := C
  exact wp_ret X hlk (fun h => by rw [hret] at h; cases h) (fun fs hr => retI X hx hret (hb hby hd) hr) hq hc hs
theorem wp_zreturn {q : Option Value → Heap → List Loc → Prop} {Cn Sn : Nat} {bytes : ByteArray} {ml pc : Nat} {own nm : String} {t : FieldType} {Ls : Array Slot} {z : Int32} {rest : List Value} (C : Cx p s m meth c Z a0 bytes ml own nm (some t)) (X : Stand p l e R s m args below meth c T locs cells slots)
    (ht : t = .boolean ∨ t = .byte ∨ t = .char ∨ t = .short) (hd : decode bytes pc = .ok (.ireturn, 1)) (hq : q (some (.int (nar t z))) T.heap locs) (hc : cells ≤ Cn) (hs : slots ≤ Sn) : WP p e below (Ends s below q Cn Sn) T (mkF m pc Ls (.int z :: rest)) := by
  obtain ⟨hx, hZ, hw, hby, hml, hown, hnm, hret, hlk⟩ := C
  exact wp_ret X hlk (fun h => by rw [hret] at h; cases h) (fun fs hr => retN X hx hret ht (hb hby hd) hr) hq hc hs
theorem wp_lreturn {q : Option Value → Heap → List Loc → Prop} {Cn Sn : Nat} {bytes : ByteArray} {ml pc : Nat} {own nm : String} {Ls : Array Slot} {z : Int64} {rest : List Value} (C : Cx p s m meth c Z a0 bytes ml own nm (some .long)) (X : Stand p l e R s m args below meth c T locs cells slots)
    (hd : decode bytes pc = .ok (.lreturn, 1)) (hq : q (some (.long z)) T.heap locs) (hc : cells ≤ Cn) (hs : slots ≤ Sn) : WP p e below (Ends s below q Cn Sn) T (mkF m pc Ls (.long z :: rest)) := by
  obtain ⟨hx, hZ, hw, hby, hml, hown, hnm, hret, hlk⟩ := C
  exact wp_ret X hlk (fun h => by rw [hret] at h; cases h) (fun fs hr => retOut X hx hret rfl (Or.inr (Or.inl ⟨rfl, rfl, z, rfl⟩)) (hb hby hd) hr) hq hc hs
theorem wp_dreturn {q : Option Value → Heap → List Loc → Prop} {Cn Sn : Nat} {bytes : ByteArray} {ml pc : Nat} {own nm : String} {Ls : Array Slot} {z : UInt64} {rest : List Value} (C : Cx p s m meth c Z a0 bytes ml own nm (some .double)) (X : Stand p l e R s m args below meth c T locs cells slots)
    (hd : decode bytes pc = .ok (.dreturn, 1)) (hq : q (some (.double z)) T.heap locs) (hc : cells ≤ Cn) (hs : slots ≤ Sn) : WP p e below (Ends s below q Cn Sn) T (mkF m pc Ls (.double z :: rest)) := by
  obtain ⟨hx, hZ, hw, hby, hml, hown, hnm, hret, hlk⟩ := C
  exact wp_ret X hlk (fun h => by rw [hret] at h; cases h) (fun fs hr => retOut X hx hret rfl (Or.inr (Or.inr (Or.inl ⟨rfl, rfl, z, rfl⟩))) (hb hby hd) hr) hq hc hs
theorem wp_vreturn {q : Option Value → Heap → List Loc → Prop} {Cn Sn : Nat} {bytes : ByteArray} {ml pc : Nat} {own nm : String} {Ls : Array Slot} (C : Cx p s m meth c Z a0 bytes ml own nm none) (X : Stand p l e R s m args below meth c T locs cells slots)
    (hd : decode bytes pc = .ok (.return_, 1)) (hq : q none T.heap locs) (hc : cells ≤ Cn) (hs : slots ≤ Sn) : WP p e below (Ends s below q Cn Sn) T (mkF m pc Ls []) := by
  obtain ⟨hx, hZ, hw, hby, hml, hown, hnm, hret, hlk⟩ := C
  exact wp_ret X hlk (fun _ => rfl) (fun fs hr => X.returnOut hx hret (hb hby hd) hr) hq hc hs
/-! calls -/
theorem wp_static {Q : State → Prop} {bytes : ByteArray} {ml : Nat} {own nm : String} {ret : Option FieldType} {y : MethodName} {bytes' : ByteArray} {ml' : Nat} {ret' : Option FieldType} {rm : Room} {index pc : Nat} {Ls : Array Slot} {argsL rest st : List Value} {q : Option Value → Heap → List Loc → Prop}
    (C : Cx p s m meth c Z a0 bytes ml own nm ret) (X : Stand p l e R s m args below meth c T locs cells slots) (e0 : T.heap = h)
    (met : MetQ l Z y bytes' ml' ret' [] rm argsL.toArray h q)
    (w1 : (Jvm.Cond.methodLink own index y).before a0 Z = true) (w2 : (Jvm.Cond.static y).before a0 Z = true) (w3 : (Jvm.Cond.initialized y.cls).before a0 Z = true) (w4 : (Jvm.Cond.code y bytes' ml' ret').before a0 Z = true)
    (hy : y.cls ≠ "java/lang/invoke/MethodHandle" ∧ y.cls ≠ "java/lang/invoke/VarHandle") (hsz : Ls.size = ml) (hlen : ∀ sig, parseMethodDescriptor y.desc = some sig → argsL.length = sig.parameters.length)
    (hd : decode bytes pc = .ok (.invokestatic index, 3)) (hst : st = argsL.reverse ++ rest) (hf : rm.frames + 1 ≤ R.frames) (hl : (rest.map fun v => v.category).sum + (ml' + 11) + rm.locals ≤ R.locals) (hc : cells + rm.cells ≤ R.cells) (hs : slots + rm.slots ≤ R.slots)
    (k : ∀ T' v L, Stand p l e R s m args below meth c T' (locs ++ L) (cells + rm.cells) (slots + rm.slots) → q v T'.heap L → WP p e below Q T' (mkF m (pc + 3) Ls (v.toList ++ rest))) :
    WP p e below Q T (mkF m pc Ls st) := by
  obtain ⟨hx, hZ, hw, hby, hml, hown, hnm, hret, hlk⟩ := C
  obtain ⟨v, _, ⟨T1, L1, k1, n1⟩, -, X1, ⟨Lc1, hQ1, l1, y1, z1⟩, st1⟩ := Jvm.LawKit.callS X hx (y := y) hown (mvT hZ w1) (mvT hZ w2) (mvT hZ w3) (mvT hZ w4) hy (backOf (W := (rest.map fun v => v.category).sum) met hZ w4 w3 hf hl) (g := mkF m pc Ls st) rfl (hsz.trans hml.symm) (argsL := argsL) (rest := rest) hlen hst (Nat.le_of_eq (Nat.zero_add _)) (hb hby hd) (fun _ _ => ⟨rfl, e0, hc, hs⟩)
  dsimp only [Pt.U, Pt.locs, Pt.cells, Pt.slots] at X1 l1 y1 z1 st1 hQ1
  subst l1 y1 z1
  exact wp st1 (k T1 v Lc1 X1 hQ1)
/-- what a callee that writes nothing leaves -/
def PureQ (r : Option Value) (h : Heap) : Option Value → Heap → List Loc → Prop := fun v h' L => v = r ∧ h' = h ∧ L = []
theorem wp_staticP {Q : State → Prop} {bytes : ByteArray} {ml : Nat} {own nm : String} {ret : Option FieldType} {y : MethodName} {bytes' : ByteArray} {ml' : Nat} {ret' : Option FieldType} {rm : Room} {index pc : Nat} {Ls : Array Slot} {argsL rest st : List Value} {r : Option Value}
    (C : Cx p s m meth c Z a0 bytes ml own nm ret) (X : Stand p l e R s m args below meth c T locs cells slots) (e0 : T.heap = h)
    (met : MetQ l Z y bytes' ml' ret' [] rm argsL.toArray h (PureQ r h))
    (w1 : (Jvm.Cond.methodLink own index y).before a0 Z = true) (w2 : (Jvm.Cond.static y).before a0 Z = true) (w3 : (Jvm.Cond.initialized y.cls).before a0 Z = true) (w4 : (Jvm.Cond.code y bytes' ml' ret').before a0 Z = true)
    (hy : y.cls ≠ "java/lang/invoke/MethodHandle" ∧ y.cls ≠ "java/lang/invoke/VarHandle") (hsz : Ls.size = ml) (hlen : ∀ sig, parseMethodDescriptor y.desc = some sig → argsL.length = sig.parameters.length)
    (hd : decode bytes pc = .ok (.invokestatic index, 3)) (hst : st = argsL.reverse ++ rest) (hrc : rm.cells = 0) (hrs : rm.slots = 0) (hf : rm.frames + 1 ≤ R.frames) (hl : (rest.map fun v => v.category).sum + (ml' + 11) + rm.locals ≤ R.locals) (hc : cells ≤ R.cells) (hs : slots ≤ R.slots)
    (k : ∀ T', Stand p l e R s m args below meth c T' locs cells slots → T'.heap = h → WP p e below Q T' (mkF m (pc + 3) Ls (r.toList ++ rest))) :
    WP p e below Q T (mkF m pc Ls st) := by
  refine wp_static C X e0 met w1 w2 w3 w4 hy hsz hlen hd hst hf hl (by rw [hrc]; exact hc) (by rw [hrs]; exact hs) ?_
  rintro T1 v L X1 ⟨rfl, e1, rfl⟩
  rw [hrc, hrs, List.append_nil] at X1
  exact k T1 X1 e1
theorem wp_virtual {Q : State → Prop} {bytes : ByteArray} {ml : Nat} {own nm : String} {ret : Option FieldType} {y : MethodName} {bytes' : ByteArray} {ml' : Nat} {ret' : Option FieldType} {rm : Room} {index pc : Nat} {Ls : Array Slot} {b : Addr} {argsL rest st : List Value} {q : Option Value → Heap → List Loc → Prop}
    (C : Cx p s m meth c Z a0 bytes ml own nm ret) (X : Stand p l e R s m args below meth c T locs cells slots) (e0 : T.heap = h) (E : Exa Z h b y.cls)
    (met : MetQ l Z y bytes' ml' ret' [] rm (.ref b :: argsL).toArray h q)
    (w1 : (Jvm.Cond.methodLink own index y).before a0 Z = true) (w2 : (Jvm.Cond.declares y).before a0 Z = true) (w3 : (Jvm.Cond.selects y.cls y y).before a0 Z = true) (w5 : (Jvm.Cond.instanceMethod y).before a0 Z = true) (w4 : (Jvm.Cond.code y bytes' ml' ret').before a0 Z = true) (w6 : (Jvm.Cond.initialized y.cls).before a0 Z = true)
    (hy : y.cls ≠ "java/lang/invoke/MethodHandle" ∧ y.cls ≠ "java/lang/invoke/VarHandle") (hsz : Ls.size = ml) (hlen : ∀ sig, parseMethodDescriptor y.desc = some sig → argsL.length = sig.parameters.length)
    (hd : decode bytes pc = .ok (.invokevirtual index, 3)) (hst : st = argsL.reverse ++ .ref b :: rest) (hf : rm.frames + 1 ≤ R.frames) (hl : (rest.map fun v => v.category).sum + (ml' + 11) + rm.locals ≤ R.locals) (hc : cells + rm.cells ≤ R.cells) (hs : slots + rm.slots ≤ R.slots)
    (k : ∀ T' v L, Stand p l e R s m args below meth c T' (locs ++ L) (cells + rm.cells) (slots + rm.slots) → q v T'.heap L → WP p e below Q T' (mkF m (pc + 3) Ls (v.toList ++ rest))) :
    WP p e below Q T (mkF m pc Ls st) := by
  obtain ⟨hx, hZ, hw, hby, hml, hown, hnm, hret, hlk⟩ := C
  obtain ⟨cq, kq, qa, qb, qc⟩ := isOf hZ e0 E
  obtain ⟨v, _, ⟨T1, L1, k1, n1⟩, -, X1, ⟨Lc1, hQ1, l1, y1, z1⟩, st1⟩ := X.virtualBack hx (y := y) (z := y) hown (mvT hZ w1) (mvT hZ w2) (notFace_of_selects (args := #[]) (mvT hZ w3)) (mvT hZ w3) (mvT hZ w5) hy (backOf (W := (rest.map fun v => v.category).sum) met hZ w4 w6 hf hl) qa qc (g := mkF m pc Ls st) rfl (hsz.trans hml.symm) (Steps.refl _) (argsL := argsL) (rest := rest) hlen hst (Nat.le_of_eq (Nat.zero_add _)) (hb hby hd) (fun _ _ => ⟨rfl, e0, hc, hs⟩)
  dsimp only [Pt.U, Pt.locs, Pt.cells, Pt.slots] at X1 l1 y1 z1 st1 hQ1
  subst l1 y1 z1
  exact wp (fun _ k => st1.trans k) (k T1 v Lc1 X1 hQ1)
theorem wp_special {Q : State → Prop} {bytes : ByteArray} {ml : Nat} {own nm : String} {ret : Option FieldType} {y : MethodName} {bytes' : ByteArray} {ml' : Nat} {rm : Room} {index pc : Nat} {Ls : Array Slot} {b : Addr} {argsL rest st : List Value} {q : Option Value → Heap → List Loc → Prop}
    (C : Cx p s m meth c Z a0 bytes ml own nm ret) (X : Stand p l e R s m args below meth c T locs cells slots) (e0 : T.heap = h)
    (met : MetQ l Z y bytes' ml' none [] rm (.ref b :: argsL).toArray h q) (hy1 : y.name = "<init>")
    (w1 : (Jvm.Cond.methodLink own index y).before a0 Z = true) (w5 : (Jvm.Cond.instanceMethod y).before a0 Z = true) (w4 : (Jvm.Cond.code y bytes' ml' none).before a0 Z = true) (w6 : (Jvm.Cond.initialized y.cls).before a0 Z = true)
    (hy : y.cls ≠ "java/lang/invoke/MethodHandle" ∧ y.cls ≠ "java/lang/invoke/VarHandle") (hsz : Ls.size = ml) (hlen : ∀ sig, parseMethodDescriptor y.desc = some sig → argsL.length = sig.parameters.length)
    (hd : decode bytes pc = .ok (.invokespecial index, 3)) (hst : st = argsL.reverse ++ .ref b :: rest) (hf : rm.frames + 1 ≤ R.frames) (hl : (rest.map fun v => v.category).sum + (ml' + 11) + rm.locals ≤ R.locals) (hc : cells + rm.cells ≤ R.cells) (hs : slots + rm.slots ≤ R.slots)
    (k : ∀ T' v L, Stand p l e R s m args below meth c T' (locs ++ L) (cells + rm.cells) (slots + rm.slots) → q v T'.heap L → WP p e below Q T' (mkF m (pc + 3) Ls (v.toList ++ rest))) :
    WP p e below Q T (mkF m pc Ls st) := by
  obtain ⟨hx, hZ, hw, hby, hml, hown, hnm, hret, hlk⟩ := C
  obtain ⟨v, _, ⟨T1, L1, k1, n1⟩, -, X1, ⟨Lc1, hQ1, l1, y1, z1⟩, st1⟩ := X.specialBack hx (y := y) hy1 hown (mvT hZ w1) (mvT hZ w5) (mvT hZ w4) hy (backOf (W := (rest.map fun v => v.category).sum) met hZ w4 w6 hf hl) (g := mkF m pc Ls st) rfl (hsz.trans hml.symm) (Steps.refl _) (a := b) (argsL := argsL) (rest := rest) hlen hst (Nat.le_of_eq (Nat.zero_add _)) (hb hby hd) (fun _ _ => ⟨rfl, e0, hc, hs⟩)
  dsimp only [Pt.U, Pt.locs, Pt.cells, Pt.slots] at X1 l1 y1 z1 st1 hQ1
  subst l1 y1 z1
  exact wp (fun _ k => st1.trans k) (k T1 v Lc1 X1 hQ1)
/-! arrays by their places: place j holds f j -/
def Af (Z : State) (h : Heap) (a : Addr) (ty : FieldType) (n : Nat) (f : Nat → Value) : Prop := ∃ cl : Cell, Arr Z h a cl ty ∧ cl.slots.size = n ∧ ∀ j, j < n → cl.slots[j]? = some (f j)
theorem Af.lt {a : Addr} {ty : FieldType} {n : Nat} {f : Nat → Value} (A : Af Z h a ty n f) : a < h.size := by obtain ⟨c, A, -⟩ := A; exact A.lt
theorem Af.ext {a : Addr} {ty : FieldType} {n : Nat} {f : Nat → Value} (A : Af Z h a ty n f) (E : Ext h h') : Af Z h' a ty n f := by obtain ⟨c, A, r⟩ := A; exact ⟨c, A.ext E, r⟩
theorem Af.other {a b : Addr} {ty : FieldType} {n sl : Nat} {v : Value} {f : Nat → Value} (A : Af Z h b ty n f) (W : Wr h h' a sl v) (q : b ≠ a) : Af Z h' b ty n f := by obtain ⟨c, A, r⟩ := A; exact ⟨c, A.other W q, r⟩
theorem Af.keep {a : Addr} {ty : FieldType} {n : Nat} {f : Nat → Value} {ws : List Addr} (A : Af Z h a ty n f) (K : Keep h h' ws) (q : a ∉ ws) : Af Z h' a ty n f := by obtain ⟨c, A, r⟩ := A; exact ⟨c, ⟨K.2.1 a c A.1 q, A.2⟩, r⟩
theorem Af.conv {a : Addr} {ty : FieldType} {n : Nat} {f g : Nat → Value} (A : Af Z h a ty n f) (q : ∀ j, j < n → f j = g j) : Af Z h a ty n g := by obtain ⟨c, A, r1, r2⟩ := A; exact ⟨c, A, r1, fun j hj => by rw [← q j hj]; exact r2 j hj⟩
theorem Af.set {a : Addr} {ty : FieldType} {n i : Nat} {v : Value} {f : Nat → Value} (A : Af Z h a ty n f) (W : Wr h h' a i v) (hi : i < n) : Af Z h' a ty n (fun j => if j = i then v else f j) := by
  obtain ⟨c, A, r1, r2⟩ := A
  refine ⟨_, A.same W, by rw [sz_set]; exact r1, fun j hj => ?_⟩
  show (c.slots.setIfInBounds i v)[j]? = _
  by_cases q : j = i
  · subst q; simp [r1, hi]
  · rw [Array.getElem?_setIfInBounds_ne (Ne.symm q), r2 j hj]; simp [q]
theorem clampNeg {z : Int32} {j : Nat} (hz : z.toInt = (j : Int)) : z.toNatClampNeg = j := by
  rw [Int32.toNatClampNeg, hz]; rfl
theorem idxIn {z : Int32} {j n : Nat} (hz : z.toInt = (j : Int)) (hj : j < n) : ¬ (z < 0 ∨ n ≤ z.toNatClampNeg) := by
  rw [clampNeg hz, Int32.lt_iff_toInt_lt, hz, show (0 : Int32).toInt = 0 from rfl]
  omega
theorem wp_newarray {Q : State → Prop} {bytes : ByteArray} {ml : Nat} {own nm : String} {ret : Option FieldType} {aty : ArrayType} {pc n : Nat} {z : Int32} {Ls : Array Slot} {rest : List Value}
    (C : Cx p s m meth c Z a0 bytes ml own nm ret) (X : Stand p l e R s m args below meth c T locs cells slots) (e0 : T.heap = h) (w : (Jvm.Cond.arrayClass (newarray.typeOf aty)).before a0 Z = true) (hd : decode bytes pc = .ok (.newarray aty, 2)) (hz : z.toInt = (n : Int)) {cap : Nat} (hn : n ≤ cap) (hcap : cap * 8 ≤ 536870912)
    (hc : cells + 1 ≤ R.cells) (hs : slots + cap ≤ R.slots)
    (k : ∀ T' h', Stand p l e R s m args below meth c T' locs (cells + 1) (slots + cap) → T'.heap = h' → Ext h h' → Af Z h' h.size (newarray.typeOf aty) n (fun _ => defaultValue (newarray.typeOf aty)) → WP p e below Q T' (mkF m (pc + 2) Ls (.ref h.size :: rest))) :
    WP p e below Q T (mkF m pc Ls (.int z :: rest)) := by
  obtain ⟨hx, hZ, hw, hby, hml, hown, hnm, hret, hlk⟩ := C
  obtain ⟨T1, h1, k1, X1, e1, E1, A1, st1⟩ := newP X hx hZ w e0 (g := mkF m pc Ls (.int z :: rest)) rfl (hb hby hd) rfl (by rw [Int32.lt_iff_toInt_lt, hz, show (0 : Int32).toInt = 0 from rfl]; omega) (cap := cap) (by rw [clampNeg hz]; exact hn) hcap hc hs
  refine wp st1 (k T1 h1 X1 e1 E1 ⟨_, A1, by rw [sz_new, clampNeg hz], fun j hj => ?_⟩)
  simp [newA, clampNeg hz, hj]
theorem wp_bastore {Q : State → Prop} {bytes : ByteArray} {ml : Nat} {own nm : String} {ret : Option FieldType} {pc n j : Nat} {zj x : Int32} {a : Addr} {f : Nat → Value} {Ls : Array Slot} {rest : List Value}
    (C : Cx p s m meth c Z a0 bytes ml own nm ret) (X : Stand p l e R s m args below meth c T locs cells slots) (e0 : T.heap = h) (A : Af Z h a .byte n f) (hz : zj.toInt = (j : Int)) (hj : j < n) (hd : decode bytes pc = .ok (.bastore, 1))
    (k : ∀ T' h', Stand p l e R s m args below meth c T' (locs ++ [⟨a, zj.toNatClampNeg⟩]) cells slots → T'.heap = h' → Wr h h' a j (.int (nar .byte x)) → Af Z h' a .byte n (fun i => if i = j then .int (nar .byte x) else f i) → WP p e below Q T' (mkF m (pc + 1) Ls rest)) :
    WP p e below Q T (mkF m pc Ls (.int x :: .int zj :: .ref a :: rest)) := by
  obtain ⟨hx, hZ, hw, hby, hml, hown, hnm, hret, hlk⟩ := C
  obtain ⟨cl, Ar, Sz, H⟩ := id A
  obtain ⟨T1, h1, X1, e1, W1, st1⟩ := stB X hx hZ e0 Ar (j := zj) (by rw [Sz]; exact idxIn hz hj) (g := mkF m pc Ls (.int x :: .int zj :: .ref a :: rest)) rfl rfl (hb hby hd)
  rw [clampNeg hz] at W1
  exact wp st1 (k T1 h1 X1 e1 W1 (A.set W1 hj))
theorem wp_iastore {Q : State → Prop} {bytes : ByteArray} {ml : Nat} {own nm : String} {ret : Option FieldType} {pc n j : Nat} {zj x : Int32} {a : Addr} {f : Nat → Value} {Ls : Array Slot} {rest : List Value}
    (C : Cx p s m meth c Z a0 bytes ml own nm ret) (X : Stand p l e R s m args below meth c T locs cells slots) (e0 : T.heap = h) (A : Af Z h a .int n f) (hz : zj.toInt = (j : Int)) (hj : j < n) (hd : decode bytes pc = .ok (.iastore, 1))
    (k : ∀ T' h', Stand p l e R s m args below meth c T' (locs ++ [⟨a, zj.toNatClampNeg⟩]) cells slots → T'.heap = h' → Wr h h' a j (.int x) → Af Z h' a .int n (fun i => if i = j then .int x else f i) → WP p e below Q T' (mkF m (pc + 1) Ls rest)) :
    WP p e below Q T (mkF m pc Ls (.int x :: .int zj :: .ref a :: rest)) := by
  obtain ⟨hx, hZ, hw, hby, hml, hown, hnm, hret, hlk⟩ := C
  obtain ⟨cl, Ar, Sz, H⟩ := id A
  obtain ⟨T1, h1, X1, e1, W1, st1⟩ := stI X hx hZ e0 Ar (j := zj) (by rw [Sz]; exact idxIn hz hj) (g := mkF m pc Ls (.int x :: .int zj :: .ref a :: rest)) rfl rfl (hb hby hd)
  rw [clampNeg hz] at W1
  exact wp st1 (k T1 h1 X1 e1 W1 (A.set W1 hj))
theorem wp_lastore {Q : State → Prop} {bytes : ByteArray} {ml : Nat} {own nm : String} {ret : Option FieldType} {pc n j : Nat} {zj : Int32} {x : Int64} {a : Addr} {f : Nat → Value} {Ls : Array Slot} {rest : List Value}
    (C : Cx p s m meth c Z a0 bytes ml own nm ret) (X : Stand p l e R s m args below meth c T locs cells slots) (e0 : T.heap = h) (A : Af Z h a .long n f) (hz : zj.toInt = (j : Int)) (hj : j < n) (hd : decode bytes pc = .ok (.lastore, 1))
    (k : ∀ T' h', Stand p l e R s m args below meth c T' (locs ++ [⟨a, zj.toNatClampNeg⟩]) cells slots → T'.heap = h' → Wr h h' a j (.long x) → Af Z h' a .long n (fun i => if i = j then .long x else f i) → WP p e below Q T' (mkF m (pc + 1) Ls rest)) :
    WP p e below Q T (mkF m pc Ls (.long x :: .int zj :: .ref a :: rest)) := by
  obtain ⟨hx, hZ, hw, hby, hml, hown, hnm, hret, hlk⟩ := C
  obtain ⟨cl, Ar, Sz, H⟩ := id A
  obtain ⟨T1, h1, X1, e1, W1, st1⟩ := stJ X hx hZ e0 Ar (j := zj) (by rw [Sz]; exact idxIn hz hj) (g := mkF m pc Ls (.long x :: .int zj :: .ref a :: rest)) rfl rfl (hb hby hd)
  rw [clampNeg hz] at W1
  exact wp st1 (k T1 h1 X1 e1 W1 (A.set W1 hj))
theorem wp_baload {Q : State → Prop} {bytes : ByteArray} {ml : Nat} {own nm : String} {ret : Option FieldType} {pc n j : Nat} {zj : Int32} {v : Value} {a : Addr} {f : Nat → Value} {Ls : Array Slot} {rest : List Value}
    (C : Cx p s m meth c Z a0 bytes ml own nm ret) (X : Stand p l e R s m args below meth c T locs cells slots) (e0 : T.heap = h) (A : Af Z h a .byte n f) (hz : zj.toInt = (j : Int)) (hj : j < n) (hv : f j = v) (hd : decode bytes pc = .ok (.baload, 1))
    (k : WP p e below Q T (mkF m (pc + 1) Ls (v :: rest))) : WP p e below Q T (mkF m pc Ls (.int zj :: .ref a :: rest)) := by
  obtain ⟨hx, hZ, hw, hby, hml, hown, hnm, hret, hlk⟩ := C
  obtain ⟨cl, Ar, Sz, H⟩ := A
  exact wp (fun t kt => X.baloadBytes hx (j := zj) (v := v) (by rw [e0]; exact Ar.1) (State.isArrayOf_alike hZ.alike Ar.2.1) Ar.2.2 (by rw [Sz]; exact idxIn hz hj) (by rw [clampNeg hz, H j hj, hv]) (g := mkF m pc Ls (.int zj :: .ref a :: rest)) rfl rfl (hb hby hd) t kt) k
theorem wp_iaload {Q : State → Prop} {bytes : ByteArray} {ml : Nat} {own nm : String} {ret : Option FieldType} {pc n j : Nat} {zj : Int32} {v : Value} {a : Addr} {f : Nat → Value} {Ls : Array Slot} {rest : List Value}
    (C : Cx p s m meth c Z a0 bytes ml own nm ret) (X : Stand p l e R s m args below meth c T locs cells slots) (e0 : T.heap = h) (A : Af Z h a .int n f) (hz : zj.toInt = (j : Int)) (hj : j < n) (hv : f j = v) (hd : decode bytes pc = .ok (.iaload, 1))
    (k : WP p e below Q T (mkF m (pc + 1) Ls (v :: rest))) : WP p e below Q T (mkF m pc Ls (.int zj :: .ref a :: rest)) := by
  obtain ⟨hx, hZ, hw, hby, hml, hown, hnm, hret, hlk⟩ := C
  obtain ⟨cl, Ar, Sz, H⟩ := A
  exact wp (fun t kt => X.iaload hx (j := zj) (v := v) (by rw [e0]; exact Ar.1) (State.isArrayOf_alike hZ.alike Ar.2.1) Ar.2.2 (by rw [Sz]; exact idxIn hz hj) (by rw [clampNeg hz, H j hj, hv]) (g := mkF m pc Ls (.int zj :: .ref a :: rest)) rfl rfl (hb hby hd) t kt) k
theorem wp_laload {Q : State → Prop} {bytes : ByteArray} {ml : Nat} {own nm : String} {ret : Option FieldType} {pc n j : Nat} {zj : Int32} {v : Value} {a : Addr} {f : Nat → Value} {Ls : Array Slot} {rest : List Value}
    (C : Cx p s m meth c Z a0 bytes ml own nm ret) (X : Stand p l e R s m args below meth c T locs cells slots) (e0 : T.heap = h) (A : Af Z h a .long n f) (hz : zj.toInt = (j : Int)) (hj : j < n) (hv : f j = v) (hd : decode bytes pc = .ok (.laload, 1))
    (k : WP p e below Q T (mkF m (pc + 1) Ls (v :: rest))) : WP p e below Q T (mkF m pc Ls (.int zj :: .ref a :: rest)) := by
  obtain ⟨hx, hZ, hw, hby, hml, hown, hnm, hret, hlk⟩ := C
  obtain ⟨cl, Ar, Sz, H⟩ := A
  exact wp (fun t kt => X.laload hx (j := zj) (v := v) (by rw [e0]; exact Ar.1) (State.isArrayOf_alike hZ.alike Ar.2.1) Ar.2.2 (by rw [Sz]; exact idxIn hz hj) (by rw [clampNeg hz, H j hj, hv]) (g := mkF m pc Ls (.int zj :: .ref a :: rest)) rfl rfl (hb hby hd) t kt) k
theorem wp_arraylength {Q : State → Prop} {bytes : ByteArray} {ml : Nat} {own nm : String} {ret : Option FieldType} {pc n : Nat} {a : Addr} {ty : FieldType} {f : Nat → Value} {Ls : Array Slot} {rest : List Value}
    (C : Cx p s m meth c Z a0 bytes ml own nm ret) (X : Stand p l e R s m args below meth c T locs cells slots) (e0 : T.heap = h) (A : Af Z h a ty n f) (hd : decode bytes pc = .ok (.arraylength, 1))
    (k : WP p e below Q T (mkF m (pc + 1) Ls (.int (Int32.ofNat n) :: rest))) : WP p e below Q T (mkF m pc Ls (.ref a :: rest)) := by
  obtain ⟨hx, hZ, hw, hby, hml, hown, hnm, hret, hlk⟩ := C
  obtain ⟨cl, Ar, Sz, H⟩ := A
  refine wp (fun t kt => X.arraylength hx (by rw [e0]; exact Ar.1) (State.isArrayOf_alike hZ.alike Ar.2.1) (g := mkF m pc Ls (.ref a :: rest)) rfl rfl (hb hby hd) t ?_) k
  rw [Sz]
  exact kt
theorem wp_ldc {Q : State → Prop} {bytes : ByteArray} {ml : Nat} {own nm : String} {ret : Option FieldType} {pc index : Nat} {v : Int32} {Ls : Array Slot} {st : List Value}
    (C : Cx p s m meth c Z a0 bytes ml own nm ret) (X : Stand p l e R s m args below meth c T locs cells slots) (w : (Jvm.Cond.constant own index v).before a0 Z = true) (hd : decode bytes pc = .ok (.ldc index, 2))
    (k : WP p e below Q T (mkF m (pc + 2) Ls (.int v :: st))) : WP p e below Q T (mkF m pc Ls st) := by
  obtain ⟨hx, hZ, hw, hby, hml, hown, hnm, hret, hlk⟩ := C
  exact wp (X.ldcInt hx hown (mvT hZ w) (g := mkF m pc Ls st) rfl (hb hby hd)) k
theorem wp_ldc2 {Q : State → Prop} {bytes : ByteArray} {ml : Nat} {own nm : String} {ret : Option FieldType} {pc index : Nat} {v : Int64} {Ls : Array Slot} {st : List Value}
    (C : Cx p s m meth c Z a0 bytes ml own nm ret) (X : Stand p l e R s m args below meth c T locs cells slots) (w : (Jvm.Cond.constantLong own index v).before a0 Z = true) (hd : decode bytes pc = .ok (.ldc2_w index, 3))
    (k : WP p e below Q T (mkF m (pc + 3) Ls (.long v :: st))) : WP p e below Q T (mkF m pc Ls st) := by
  obtain ⟨hx, hZ, hw, hby, hml, hown, hnm, hret, hlk⟩ := C
  exact wp (X.ldc2Long hx hown (mvT hZ w) (g := mkF m pc Ls st) rfl (hb hby hd)) k
theorem Frs {k : Nat} {a : Addr} {sl : Nat} {L : List Loc} (N : Fr k L) (q : k ≤ a) : Fr k (L ++ [⟨a, sl⟩]) := N.app fun y hy => by cases List.mem_singleton.mp hy; exact q
end Kit

section Kit3
variable {p : Program} {l : Launch} {e : Env} {R : Room} {s : State} {m : MethodId} {args : Array Value} {below : List Frame} {meth : Method} {c : Code} {T T' : State} {locs : List Loc} {cells slots : Nat} {Z : State} {a0 : Array Value} {h h' : Heap}
theorem own_b53 (x : Int32) : B53 x.toInt64 := by
  have h1 := rng32 x
  unfold B53
  rw [Int32.toInt_toInt64]
  omega
theorem own_dcmp (x y : Int32) (o : CmpOp) : cmpValue (FP.dcmp (FP.i2d x) (FP.i2d y)) o = XT.cmpL x.toInt64 y.toInt64 := by
  rw [i2d_w, i2d_w, dcmpV_w (own_b53 x) (own_b53 y)]
  rfl
theorem own_l64 {x y : Int32} : x.toInt64 < y.toInt64 ↔ x.toInt < y.toInt := by
  rw [Int64.lt_iff_toInt_lt, Int32.toInt_toInt64, Int32.toInt_toInt64]
theorem own_e64 {x y : Int32} : x.toInt64 = y.toInt64 ↔ x.toInt = y.toInt := by
  rw [← Int64.toInt_inj, Int32.toInt_toInt64, Int32.toInt_toInt64]
theorem wp_dcmp {Q : State → Prop} {bytes : ByteArray} {ml : Nat} {own nm : String} {ret : Option FieldType} {pc : Nat} {o : CmpOp} {x y : Int32} {Ls : Array Slot} {rest : List Value}
    (C : Cx p s m meth c Z a0 bytes ml own nm ret) (X : Stand p l e R s m args below meth c T locs cells slots) (hd : decode bytes pc = .ok (.dcmp o, 1))
    (k : WP p e below Q T (mkF m (pc + 1) Ls (.int (XT.cmpL x.toInt64 y.toInt64) :: rest))) : WP p e below Q T (mkF m pc Ls (.double (FP.i2d y) :: .double (FP.i2d x) :: rest)) := by
  obtain ⟨hx, hZ, hw, hby, hml, hown, hnm, hret, hlk⟩ := C
  exact wp (fun _ => XS.dcmpS X.here hx rfl (hb hby hd) rfl (own_dcmp x y o)) k
theorem wp_daload {Q : State → Prop} {bytes : ByteArray} {ml : Nat} {own nm : String} {ret : Option FieldType} {pc n j : Nat} {zj : Int32} {v : Value} {a : Addr} {f : Nat → Value} {Ls : Array Slot} {rest : List Value}
    (C : Cx p s m meth c Z a0 bytes ml own nm ret) (X : Stand p l e R s m args below meth c T locs cells slots) (e0 : T.heap = h) (A : Af Z h a .double n f) (hz : zj.toInt = (j : Int)) (hj : j < n) (hv : f j = v) (hd : decode bytes pc = .ok (.daload, 1))
    (k : WP p e below Q T (mkF m (pc + 1) Ls (v :: rest))) : WP p e below Q T (mkF m pc Ls (.int zj :: .ref a :: rest)) := by
  obtain ⟨hx, hZ, hw, hby, hml, hown, hnm, hret, hlk⟩ := C
  obtain ⟨cl, Ar, Sz, H⟩ := A
  exact wp (fun t kt => X.daload hx (j := zj) (v := v) (by rw [e0]; exact Ar.1) (State.isArrayOf_alike hZ.alike Ar.2.1) Ar.2.2 (by rw [Sz]; exact idxIn hz hj) (by rw [clampNeg hz, H j hj, hv]) (g := mkF m pc Ls (.int zj :: .ref a :: rest)) rfl rfl (hb hby hd) t kt) k
theorem wp_dastore {Q : State → Prop} {bytes : ByteArray} {ml : Nat} {own nm : String} {ret : Option FieldType} {pc n j : Nat} {zj : Int32} {x : UInt64} {a : Addr} {f : Nat → Value} {Ls : Array Slot} {rest : List Value}
    (C : Cx p s m meth c Z a0 bytes ml own nm ret) (X : Stand p l e R s m args below meth c T locs cells slots) (e0 : T.heap = h) (A : Af Z h a .double n f) (hz : zj.toInt = (j : Int)) (hj : j < n) (hd : decode bytes pc = .ok (.dastore, 1))
    (k : ∀ T' h', Stand p l e R s m args below meth c T' (locs ++ [⟨a, zj.toNatClampNeg⟩]) cells slots → T'.heap = h' → Wr h h' a j (.double x) → Af Z h' a .double n (fun i => if i = j then .double x else f i) → WP p e below Q T' (mkF m (pc + 1) Ls rest)) :
    WP p e below Q T (mkF m pc Ls (.double x :: .int zj :: .ref a :: rest)) := by
  obtain ⟨hx, hZ, hw, hby, hml, hown, hnm, hret, hlk⟩ := C
  obtain ⟨cl, Ar, Sz, H⟩ := id A
  obtain ⟨X1, st1⟩ := X.dastore hx (by rw [e0]; exact Ar.1) (State.isArrayOf_alike hZ.alike Ar.2.1) Ar.2.2 (j := zj) (by rw [Sz]; exact idxIn hz hj) (g := mkF m pc Ls (.double x :: .int zj :: .ref a :: rest)) rfl rfl (hb hby hd)
  have W1 : Wr h (T.setCell a (cl.setSlot zj.toNatClampNeg (.double x))).heap a zj.toNatClampNeg (.double x) := ⟨cl, Ar.1, Ar.plain, by rw [Sz, clampNeg hz]; exact hj, by rw [← e0]; rfl⟩
  rw [clampNeg hz] at W1
  exact wp st1 (k _ _ X1 rfl (by rw [clampNeg hz]; exact W1) (by rw [clampNeg hz]; exact A.set W1 hj))
end Kit3

def own_up (x : Nat → Int32) (i : Nat) (v : Int32) (j : Nat) : Int32 := if j = i then v else x j
def own_cnt (P : Int32 → Bool) (x : Nat → Int32) : Nat → Nat
  | 0 => 0
  | k + 1 => own_cnt P x k + (if P (x k) = true then 1 else 0)
theorem own_cnt_out (P : Int32 → Bool) (x : Nat → Int32) (i : Nat) (v : Int32) : ∀ n, n ≤ i → own_cnt P (own_up x i v) n = own_cnt P x n := by
  intro n
  induction n with
  | zero => intro _; rfl
  | succ n ih =>
    intro h
    simp only [own_cnt]
    have e : own_up x i v n = x n := by rw [own_up, if_neg (by omega)]
    rw [ih (by omega), e]
theorem own_cnt_up (P : Int32 → Bool) (x : Nat → Int32) (i : Nat) (v : Int32) : ∀ n, i < n → own_cnt P (own_up x i v) n + (if P (x i) = true then 1 else 0) = own_cnt P x n + (if P v = true then 1 else 0) := by
  intro n
  induction n with
  | zero => intro h; omega
  | succ n ih =>
    intro h
    simp only [own_cnt]
    by_cases q : i = n
    · subst q
      rw [own_cnt_out P x i v i (by omega), own_up, if_pos rfl]
      omega
    · have := ih (by omega)
      have e : own_up x i v n = x n := by rw [own_up, if_neg (by omega)]
      rw [e]
      omega
def own_sw (x : Nat → Int32) (i j : Nat) : Nat → Int32 := own_up (own_up x i (x j)) j (x i)
theorem own_sw_cnt (P : Int32 → Bool) (x : Nat → Int32) (i j n : Nat) (hi : i < n) (hj : j < n) : own_cnt P (own_sw x i j) n = own_cnt P x n := by
  have h1 := own_cnt_up P (own_up x i (x j)) j (x i) n hj
  have h2 := own_cnt_up P x i (x j) n hi
  have e : own_up x i (x j) j = x j := by unfold own_up; split <;> rfl
  rw [e] at h1
  unfold own_sw
  omega
theorem own_sw_i (x : Nat → Int32) (i j : Nat) : own_sw x i j i = x j := by
  unfold own_sw own_up
  split
  · rename_i h; rw [h]
  · simp
theorem own_sw_j (x : Nat → Int32) (i j : Nat) : own_sw x i j j = x i := by
  unfold own_sw own_up
  simp
theorem own_sw_o (x : Nat → Int32) (i j k : Nat) (h1 : k ≠ i) (h2 : k ≠ j) : own_sw x i j k = x k := by
  unfold own_sw own_up
  rw [if_neg h2, if_neg h1]
/-- the swapped function's value at k is one of the old ones, from within the same stretch -/
theorem own_sw_in (x : Nat → Int32) (i j k : Nat) : ∃ k', own_sw x i j k = x k' ∧ (k' = k ∨ ((k = i ∨ k = j) ∧ (k' = i ∨ k' = j))) := by
  by_cases h2 : k = j
  · exact ⟨i, by rw [h2, own_sw_j], Or.inr ⟨Or.inr h2, Or.inl rfl⟩⟩
  · by_cases h1 : k = i
    · exact ⟨j, by rw [h1, own_sw_i], Or.inr ⟨Or.inl h1, Or.inr rfl⟩⟩
    · exact ⟨k, own_sw_o x i j k h1 h2, Or.inl rfl⟩
/-- what holds between the stretch low..high and the rest -/
def Outer (x : Nat → Int32) (n low high : Nat) : Prop := (∀ a b, a < low → low ≤ b → b < n → (x b).toInt ≤ (x a).toInt) ∧ (∀ a b, a ≤ high → high < b → b < n → (x b).toInt ≤ (x a).toInt)
theorem Outer.sw {x : Nat → Int32} {n low high i j : Nat} (O : Outer x n low high) (hn : high < n) (i1 : low ≤ i) (i2 : i ≤ high) (j1 : low ≤ j) (j2 : j ≤ high) : Outer (own_sw x i j) n low high := by
  refine ⟨fun a b ha hb hbn => ?_, fun a b ha hb hbn => ?_⟩
  · obtain ⟨k, hk, hk'⟩ := own_sw_in x i j b
    rw [own_sw_o x i j a (by omega) (by omega), hk]
    exact O.1 a k ha (by omega) (by omega)
  · obtain ⟨k, hk, hk'⟩ := own_sw_in x i j a
    rw [own_sw_o x i j b (by omega) (by omega), hk]
    exact O.2 k b (by omega) hb hbn
/-- the middle loop's invariant: i from below, jn (one above j) from above, p the parting -/
def Pinv (x : Nat → Int32) (p : Int32) (low high i jn : Nat) : Prop :=
  low ≤ i ∧ i ≤ high + 1 ∧ low ≤ jn ∧ jn ≤ high + 1 ∧ (∀ k, low ≤ k → k < i → p.toInt ≤ (x k).toInt) ∧ (∀ k, jn ≤ k → k ≤ high → (x k).toInt ≤ p.toInt) ∧
  (i < jn → ∃ ki kj, i ≤ ki ∧ ki ≤ high ∧ (x ki).toInt ≤ p.toInt ∧ low ≤ kj ∧ kj < jn ∧ p.toInt ≤ (x kj).toInt ∧ (ki ≤ kj ∨ (low < i ∧ jn ≤ high))) ∧ (jn ≤ i → low < i ∧ jn ≤ high)
theorem Pinv.start {x : Nat → Int32} {p : Int32} {low high mid : Nat} (h1 : low ≤ mid) (h2 : mid ≤ high) (hp : x mid = p) : Pinv x p low high low (high + 1) :=
  ⟨by omega, by omega, by omega, by omega, fun k _ _ => by omega, fun k _ _ => by omega, fun _ => ⟨mid, mid, h1, h2, by rw [hp]; omega, h1, by omega, by rw [hp]; omega, Or.inl (by omega)⟩, fun _ => by omega⟩
/-- behind the two scans, where they have crossed -/
theorem Pinv.cross {x : Nat → Int32} {p : Int32} {low high i jn i' jn' : Nat} (I : Pinv x p low high i jn) (hlt : i < jn) (a1 : i ≤ i') (a2 : ∀ k, i ≤ k → k < i' → p.toInt ≤ (x k).toInt) (a3 : i' ≤ high) (b1 : jn' ≤ jn) (b2 : ∀ k, jn' ≤ k → k < jn → (x k).toInt ≤ p.toInt) (b3 : low < jn') (a4 : ∀ ki, i ≤ ki → ki ≤ high → (x ki).toInt ≤ p.toInt → i' ≤ ki) (b4 : ∀ kj, low ≤ kj → kj < jn → p.toInt ≤ (x kj).toInt → kj < jn') (hc : jn' ≤ i') : Pinv x p low high i' jn' := by
  obtain ⟨c1, c2, c3, c4, c5, c6, c7, c8⟩ := I
  obtain ⟨ki, kj, d1, d2, d3, d4, d5, d6, d7⟩ := c7 hlt
  have e1 := a4 ki d1 d2 d3
  have e2 := b4 kj d4 d5 d6
  refine ⟨by omega, by omega, by omega, by omega, fun k q1 q2 => ?_, fun k q1 q2 => ?_, fun q => by omega, fun q => ?_⟩
  · by_cases r : k < i
    · exact c5 k q1 r
    · exact a2 k (by omega) q2
  · by_cases r : jn ≤ k
    · exact c6 k r q2
    · exact b2 k q1 (by omega)
  · rcases d7 with d7 | d7
    · omega
    · omega
/-- behind the two scans and the swap -/
theorem Pinv.swap {x : Nat → Int32} {p : Int32} {low high i jn i' j' : Nat} (I : Pinv x p low high i jn) (hlt : i < jn) (a1 : i ≤ i') (a2 : ∀ k, i ≤ k → k < i' → p.toInt ≤ (x k).toInt) (a5 : (x i').toInt ≤ p.toInt) (b1 : j' < jn) (b2 : ∀ k, j' < k → k < jn → (x k).toInt ≤ p.toInt) (b5 : p.toInt ≤ (x j').toInt) (hc : i' ≤ j') : Pinv (own_sw x i' j') p low high (i' + 1) j' := by
  obtain ⟨c1, c2, c3, c4, c5, c6, c7, c8⟩ := I
  refine ⟨by omega, by omega, by omega, by omega, fun k q1 q2 => ?_, fun k q1 q2 => ?_, fun q => ?_, fun q => by omega⟩
  · by_cases r : k = i'
    · rw [r, own_sw_i]; exact b5
    · rw [own_sw_o x i' j' k r (by omega)]
      by_cases r2 : k < i
      · exact c5 k q1 r2
      · exact a2 k (by omega) (by omega)
  · by_cases r : k = j'
    · rw [r, own_sw_j]; exact a5
    · rw [own_sw_o x i' j' k (by omega) r]
      by_cases r2 : jn ≤ k
      · exact c6 k r2 q2
      · exact b2 k (by omega) (by omega)
  · exact ⟨j', i', by omega, by omega, by rw [own_sw_j]; exact a5, by omega, by omega, by rw [own_sw_i]; exact b5, Or.inr (by omega)⟩
theorem Outer.left {x : Nat → Int32} {p : Int32} {n low high i jn : Nat} (O : Outer x n low high) (I : Pinv x p low high i jn) (hc : jn ≤ i) (h0 : 0 < jn) : Outer x n low (jn - 1) := by
  obtain ⟨c1, c2, c3, c4, c5, c6, c7, c8⟩ := I
  refine ⟨O.1, fun a b ha hb hbn => ?_⟩
  by_cases hb2 : high < b
  · exact O.2 a b (by omega) hb2 hbn
  · by_cases ha2 : a < low
    · exact O.1 a b ha2 (by omega) hbn
    · have := c5 a (by omega) (by omega)
      have := c6 b (by omega) (by omega)
      omega
theorem Outer.right {x : Nat → Int32} {p : Int32} {n low high i jn : Nat} (O : Outer x n low high) (I : Pinv x p low high i jn) (hc : jn ≤ i) : Outer x n i high := by
  obtain ⟨c1, c2, c3, c4, c5, c6, c7, c8⟩ := I
  refine ⟨fun a b ha hb hbn => ?_, O.2⟩
  by_cases hb2 : high < b
  · by_cases ha3 : a ≤ high
    · exact O.2 a b ha3 hb2 hbn
    · omega
  · by_cases ha2 : a < low
    · exact O.1 a b ha2 (by omega) hbn
    · have := c5 a (by omega) (by omega)
      have := c6 b (by omega) (by omega)
      omega
/-- place w is where it belongs -/
def Sel (x : Nat → Int32) (n w : Nat) : Prop := w < n ∧ (∀ a, a < w → (x w).toInt ≤ (x a).toInt) ∧ (∀ b, w < b → b < n → (x b).toInt ≤ (x w).toInt)
theorem Sel.one {x : Nat → Int32} {n low high w : Nat} (O : Outer x n low high) (h1 : low ≤ w) (h2 : w ≤ high) (h3 : high ≤ low) (hn : high < n) : Sel x n w :=
  ⟨by omega, fun a ha => O.1 a w (by omega) (by omega) (by omega), fun b hb hbn => O.2 w b (by omega) (by omega) hbn⟩
theorem Sel.mid {x : Nat → Int32} {p : Int32} {n low high i jn w : Nat} (O : Outer x n low high) (I : Pinv x p low high i jn) (hn : high < n) (h1 : jn ≤ w) (h2 : w < i) (h3 : low ≤ w) (h4 : w ≤ high) : Sel x n w := by
  obtain ⟨c1, c2, c3, c4, c5, c6, c7, c8⟩ := I
  have w1 := c5 w h3 h2
  have w2 := c6 w h1 h4
  refine ⟨by omega, fun a ha => ?_, fun b hb hbn => ?_⟩
  · by_cases q : a < low
    · exact O.1 a w q h3 (by omega)
    · have := c5 a (by omega) (by omega)
      omega
  · by_cases q : high < b
    · exact O.2 w b h4 q hbn
    · have := c6 b (by omega) (by omega)
      omega
theorem Sel.above {x : Nat → Int32} {n w : Nat} (S : Sel x n w) : own_cnt (fun y => decide ((x w).toInt < y.toInt)) x n ≤ w := by
  have h : ∀ k, k ≤ n → own_cnt (fun y => decide ((x w).toInt < y.toInt)) x k ≤ w ∧ own_cnt (fun y => decide ((x w).toInt < y.toInt)) x k ≤ k := by
    intro k
    induction k with
    | zero => intro _; simp [own_cnt]
    | succ k ih =>
      intro hk
      obtain ⟨i1, i2⟩ := ih (by omega)
      simp only [own_cnt]
      by_cases q : k < w
      · split <;> omega
      · have hh : ¬ (x w).toInt < (x k).toInt := by
          by_cases q2 : k = w
          · rw [q2]; omega
          · have := S.2.2 k (by omega) (by omega)
            omega
        rw [if_neg (by simpa using hh)]
        omega
  exact (h n (Nat.le_refl _)).1
theorem Sel.atleast {x : Nat → Int32} {n w : Nat} (S : Sel x n w) : w + 1 ≤ own_cnt (fun y => decide ((x w).toInt ≤ y.toInt)) x n := by
  have h : ∀ k, k ≤ n → min k (w + 1) ≤ own_cnt (fun y => decide ((x w).toInt ≤ y.toInt)) x k := by
    intro k
    induction k with
    | zero => intro _; omega
    | succ k ih =>
      intro hk
      have i1 := ih (by omega)
      simp only [own_cnt]
      by_cases q : k ≤ w
      · have hh : (x w).toInt ≤ (x k).toInt := by
          by_cases q2 : k = w
          · rw [q2]; omega
          · exact S.2.1 k (by omega)
        rw [if_pos (by simpa using hh)]
        omega
      · omega
  have := h n (Nat.le_refl _)
  have := S.1
  omega

/-! numbers -/
theorem own_z {z : Int32} {k : Nat} (hz : z.toInt = (k : Int)) (hk : k < 2147483648) : z = Int32.ofNat k := by
  rw [← Int32.toInt_inj, hz, Int32.toInt_ofNat_of_lt hk]
theorem own_inc {z : Int32} {j : Nat} (hz : z.toInt = (j : Int)) (hj : j < 1000) : (z + (1 : Int32)).toInt = ((j + 1 : Nat) : Int) := by
  have h1 := c_iadd z 1
  have h2 := rng32 (z + 1)
  have h3 : (1 : Int32).toInt = 1 := rfl
  omega
theorem own_dec {z : Int32} {j : Nat} (hz : z.toInt = (j : Int)) (hj : j < 1000) : (z + (Int32.ofInt (-1))).toInt = (j : Int) - 1 := by
  have h1 := c_iadd z (Int32.ofInt (-1))
  have h2 := rng32 (z + (Int32.ofInt (-1)))
  have h3 : (Int32.ofInt (-1)).toInt = -1 := rfl
  omega
theorem own_sub1 {z : Int32} {j : Nat} (hz : z.toInt = ((j + 1 : Nat) : Int)) (hj : j < 1000) : (z - (1 : Int32)).toInt = (j : Int) := by
  have h1 := c_isub z 1
  have h2 := rng32 (z - 1)
  have h3 : (1 : Int32).toInt = 1 := rfl
  omega
theorem own_mid {zl zh : Int32} {lo hi : Nat} (hl : zl.toInt = (lo : Int)) (hh : zh.toInt = (hi : Int)) (h1 : lo < 1000) (h2 : hi < 1000) : (((zl + zh).toUInt32 >>> ((1 : Int32) &&& 31).toUInt32).toInt32).toInt = (((lo + hi) / 2 : Nat) : Int) := by
  have q1 := c_iadd zl zh
  have q2 := rng32 (zl + zh)
  rw [c_iushr (zl + zh) 1 1 rfl (by decide)]
  omega
/-- two slots that hold nothing, or a double -/
def Two (s t : Slot) : Prop := (s = .unset ∧ t = .unset) ∨ ∃ u, s = .val (.double u) ∧ t = .second
def own_gt (r : Int32) : Int32 → Bool := fun y => decide (r.toInt < y.toInt)
def own_ge (r : Int32) : Int32 → Bool := fun y => decide (r.toInt ≤ y.toInt)
def own_bit (b : Bool) : Int32 := if b = true then 1 else 0
theorem own_bit_add (k : Nat) (b : Bool) : Int32.ofNat k + own_bit b = Int32.ofNat (k + (if b = true then 1 else 0)) := by
  cases b
  · exact Int32.add_zero _
  · exact (Int32.ofNat_add k 1).symm
theorem own_cnt_le (P : Int32 → Bool) (x : Nat → Int32) : ∀ n, own_cnt P x n ≤ n := by
  intro n
  induction n with
  | zero => exact Nat.le_refl 0
  | succ n ih => simp only [own_cnt]; split <;> omega
def own_xs (a b c d e : Int32) (j : Nat) : Int32 := if j = 0 then a else if j = 1 then b else if j = 2 then c else if j = 3 then d else e

theorem dnth_0 : decode prog_257_method_8_code 0 = .ok (.iconst 0, 1) := by decide +kernel
theorem dnth_1 : decode prog_257_method_8_code 1 = .ok (.istore_n 2, 1) := by decide +kernel
theorem dnth_2 : decode prog_257_method_8_code 2 = .ok (.aload_n 0, 1) := by decide +kernel
theorem dnth_3 : decode prog_257_method_8_code 3 = .ok (.arraylength, 1) := by decide +kernel
theorem dnth_4 : decode prog_257_method_8_code 4 = .ok (.iconst 1, 1) := by decide +kernel
theorem dnth_5 : decode prog_257_method_8_code 5 = .ok (.isub, 1) := by decide +kernel
theorem dnth_6 : decode prog_257_method_8_code 6 = .ok (.istore_n 3, 1) := by decide +kernel
theorem dnth_7 : decode prog_257_method_8_code 7 = .ok (.iload_n 1, 1) := by decide +kernel
theorem dnth_8 : decode prog_257_method_8_code 8 = .ok (.iconst 1, 1) := by decide +kernel
theorem dnth_9 : decode prog_257_method_8_code 9 = .ok (.isub, 1) := by decide +kernel
theorem dnth_10 : decode prog_257_method_8_code 10 = .ok (.istore 4, 2) := by decide +kernel
theorem dnth_12 : decode prog_257_method_8_code 12 = .ok (.iload_n 2, 1) := by decide +kernel
theorem dnth_13 : decode prog_257_method_8_code 13 = .ok (.iload_n 3, 1) := by decide +kernel
theorem dnth_14 : decode prog_257_method_8_code 14 = .ok (.if_icmp .ge 127, 3) := by decide +kernel
theorem dnth_17 : decode prog_257_method_8_code 17 = .ok (.aload_n 0, 1) := by decide +kernel
theorem dnth_18 : decode prog_257_method_8_code 18 = .ok (.iload_n 2, 1) := by decide +kernel
theorem dnth_19 : decode prog_257_method_8_code 19 = .ok (.iload_n 3, 1) := by decide +kernel
theorem dnth_20 : decode prog_257_method_8_code 20 = .ok (.iadd, 1) := by decide +kernel
theorem dnth_21 : decode prog_257_method_8_code 21 = .ok (.iconst 1, 1) := by decide +kernel
theorem dnth_22 : decode prog_257_method_8_code 22 = .ok (.iushr, 1) := by decide +kernel
theorem dnth_23 : decode prog_257_method_8_code 23 = .ok (.daload, 1) := by decide +kernel
theorem dnth_24 : decode prog_257_method_8_code 24 = .ok (.dstore 5, 2) := by decide +kernel
theorem dnth_26 : decode prog_257_method_8_code 26 = .ok (.iload_n 2, 1) := by decide +kernel
theorem dnth_27 : decode prog_257_method_8_code 27 = .ok (.istore 7, 2) := by decide +kernel
theorem dnth_29 : decode prog_257_method_8_code 29 = .ok (.iload_n 3, 1) := by decide +kernel
theorem dnth_30 : decode prog_257_method_8_code 30 = .ok (.istore 8, 2) := by decide +kernel
theorem dnth_32 : decode prog_257_method_8_code 32 = .ok (.iload 7, 2) := by decide +kernel
theorem dnth_34 : decode prog_257_method_8_code 34 = .ok (.iload 8, 2) := by decide +kernel
theorem dnth_36 : decode prog_257_method_8_code 36 = .ok (.if_icmp .gt 71, 3) := by decide +kernel
theorem dnth_39 : decode prog_257_method_8_code 39 = .ok (.aload_n 0, 1) := by decide +kernel
theorem dnth_40 : decode prog_257_method_8_code 40 = .ok (.iload 7, 2) := by decide +kernel
theorem dnth_42 : decode prog_257_method_8_code 42 = .ok (.daload, 1) := by decide +kernel
theorem dnth_43 : decode prog_257_method_8_code 43 = .ok (.dload 5, 2) := by decide +kernel
theorem dnth_45 : decode prog_257_method_8_code 45 = .ok (.dcmp .l, 1) := by decide +kernel
theorem dnth_46 : decode prog_257_method_8_code 46 = .ok (.ifCond .le 9, 3) := by decide +kernel
theorem dnth_49 : decode prog_257_method_8_code 49 = .ok (.iinc 7 1, 3) := by decide +kernel
theorem dnth_52 : decode prog_257_method_8_code 52 = .ok (.goto (-13), 3) := by decide +kernel
theorem dnth_55 : decode prog_257_method_8_code 55 = .ok (.aload_n 0, 1) := by decide +kernel
theorem dnth_56 : decode prog_257_method_8_code 56 = .ok (.iload 8, 2) := by decide +kernel
theorem dnth_58 : decode prog_257_method_8_code 58 = .ok (.daload, 1) := by decide +kernel
theorem dnth_59 : decode prog_257_method_8_code 59 = .ok (.dload 5, 2) := by decide +kernel
theorem dnth_61 : decode prog_257_method_8_code 61 = .ok (.dcmp .g, 1) := by decide +kernel
theorem dnth_62 : decode prog_257_method_8_code 62 = .ok (.ifCond .ge 9, 3) := by decide +kernel
theorem dnth_65 : decode prog_257_method_8_code 65 = .ok (.iinc 8 (-1), 3) := by decide +kernel
theorem dnth_68 : decode prog_257_method_8_code 68 = .ok (.goto (-13), 3) := by decide +kernel
theorem dnth_71 : decode prog_257_method_8_code 71 = .ok (.iload 7, 2) := by decide +kernel
theorem dnth_73 : decode prog_257_method_8_code 73 = .ok (.iload 8, 2) := by decide +kernel
theorem dnth_75 : decode prog_257_method_8_code 75 = .ok (.if_icmp .gt (-43), 3) := by decide +kernel
theorem dnth_78 : decode prog_257_method_8_code 78 = .ok (.aload_n 0, 1) := by decide +kernel
theorem dnth_79 : decode prog_257_method_8_code 79 = .ok (.iload 7, 2) := by decide +kernel
theorem dnth_81 : decode prog_257_method_8_code 81 = .ok (.daload, 1) := by decide +kernel
theorem dnth_82 : decode prog_257_method_8_code 82 = .ok (.dstore 9, 2) := by decide +kernel
theorem dnth_84 : decode prog_257_method_8_code 84 = .ok (.aload_n 0, 1) := by decide +kernel
theorem dnth_85 : decode prog_257_method_8_code 85 = .ok (.iload 7, 2) := by decide +kernel
theorem dnth_87 : decode prog_257_method_8_code 87 = .ok (.iinc 7 1, 3) := by decide +kernel
theorem dnth_90 : decode prog_257_method_8_code 90 = .ok (.aload_n 0, 1) := by decide +kernel
theorem dnth_91 : decode prog_257_method_8_code 91 = .ok (.iload 8, 2) := by decide +kernel
theorem dnth_93 : decode prog_257_method_8_code 93 = .ok (.daload, 1) := by decide +kernel
theorem dnth_94 : decode prog_257_method_8_code 94 = .ok (.dastore, 1) := by decide +kernel
theorem dnth_95 : decode prog_257_method_8_code 95 = .ok (.aload_n 0, 1) := by decide +kernel
theorem dnth_96 : decode prog_257_method_8_code 96 = .ok (.iload 8, 2) := by decide +kernel
theorem dnth_98 : decode prog_257_method_8_code 98 = .ok (.iinc 8 (-1), 3) := by decide +kernel
theorem dnth_101 : decode prog_257_method_8_code 101 = .ok (.dload 9, 2) := by decide +kernel
theorem dnth_103 : decode prog_257_method_8_code 103 = .ok (.dastore, 1) := by decide +kernel
theorem dnth_104 : decode prog_257_method_8_code 104 = .ok (.goto (-72), 3) := by decide +kernel
theorem dnth_107 : decode prog_257_method_8_code 107 = .ok (.iload 4, 2) := by decide +kernel
theorem dnth_109 : decode prog_257_method_8_code 109 = .ok (.iload 8, 2) := by decide +kernel
theorem dnth_111 : decode prog_257_method_8_code 111 = .ok (.if_icmp .gt 9, 3) := by decide +kernel
theorem dnth_114 : decode prog_257_method_8_code 114 = .ok (.iload 8, 2) := by decide +kernel
theorem dnth_116 : decode prog_257_method_8_code 116 = .ok (.istore_n 3, 1) := by decide +kernel
theorem dnth_117 : decode prog_257_method_8_code 117 = .ok (.goto 21, 3) := by decide +kernel
theorem dnth_120 : decode prog_257_method_8_code 120 = .ok (.iload 4, 2) := by decide +kernel
theorem dnth_122 : decode prog_257_method_8_code 122 = .ok (.iload 7, 2) := by decide +kernel
theorem dnth_124 : decode prog_257_method_8_code 124 = .ok (.if_icmp .lt 9, 3) := by decide +kernel
theorem dnth_127 : decode prog_257_method_8_code 127 = .ok (.iload 7, 2) := by decide +kernel
theorem dnth_129 : decode prog_257_method_8_code 129 = .ok (.istore_n 2, 1) := by decide +kernel
theorem dnth_130 : decode prog_257_method_8_code 130 = .ok (.goto 8, 3) := by decide +kernel
theorem dnth_133 : decode prog_257_method_8_code 133 = .ok (.aload_n 0, 1) := by decide +kernel
theorem dnth_134 : decode prog_257_method_8_code 134 = .ok (.iload 4, 2) := by decide +kernel
theorem dnth_136 : decode prog_257_method_8_code 136 = .ok (.daload, 1) := by decide +kernel
theorem dnth_137 : decode prog_257_method_8_code 137 = .ok (.dreturn, 1) := by decide +kernel
theorem dnth_138 : decode prog_257_method_8_code 138 = .ok (.goto (-126), 3) := by decide +kernel
theorem dnth_141 : decode prog_257_method_8_code 141 = .ok (.aload_n 0, 1) := by decide +kernel
theorem dnth_142 : decode prog_257_method_8_code 142 = .ok (.iload 4, 2) := by decide +kernel
theorem dnth_144 : decode prog_257_method_8_code 144 = .ok (.daload, 1) := by decide +kernel
theorem dnth_145 : decode prog_257_method_8_code 145 = .ok (.dreturn, 1) := by decide +kernel

theorem pn_nth : plainName "com/example/placewright/placewright/plan/Simplex" = true := by first | (simp [plainName, overriddenIn]; done) | decide +kernel

theorem pd_nth : parseMethodDescriptor "([DI)D" = some ⟨[(.array .double), .int], some .double⟩ := by decide +kernel

theorem dab_0 : decode method_2_code 0 = .ok (.dload_n 0, 1) := by decide +kernel
theorem dab_1 : decode method_2_code 1 = .ok (.dload_n 2, 1) := by decide +kernel
theorem dab_2 : decode method_2_code 2 = .ok (.dcmp .l, 1) := by decide +kernel
theorem dab_3 : decode method_2_code 3 = .ok (.ifCond .le 7, 3) := by decide +kernel
theorem dab_6 : decode method_2_code 6 = .ok (.iconst 1, 1) := by decide +kernel
theorem dab_7 : decode method_2_code 7 = .ok (.goto 4, 3) := by decide +kernel
theorem dab_10 : decode method_2_code 10 = .ok (.iconst 0, 1) := by decide +kernel
theorem dab_11 : decode method_2_code 11 = .ok (.ireturn, 1) := by decide +kernel

theorem pn_ab : plainName "com/example/placewright/placewright/plan/SimplexNthLargestPinLaw" = true := by first | (simp [plainName, overriddenIn]; done) | decide +kernel

theorem pd_ab : parseMethodDescriptor "(DD)I" = some ⟨[.double, .double], some .int⟩ := by decide +kernel

theorem dal_0 : decode method_3_code 0 = .ok (.dload_n 0, 1) := by decide +kernel
theorem dal_1 : decode method_3_code 1 = .ok (.dload_n 2, 1) := by decide +kernel
theorem dal_2 : decode method_3_code 2 = .ok (.dcmp .l, 1) := by decide +kernel
theorem dal_3 : decode method_3_code 3 = .ok (.ifCond .lt 7, 3) := by decide +kernel
theorem dal_6 : decode method_3_code 6 = .ok (.iconst 1, 1) := by decide +kernel
theorem dal_7 : decode method_3_code 7 = .ok (.goto 4, 3) := by decide +kernel
theorem dal_10 : decode method_3_code 10 = .ok (.iconst 0, 1) := by decide +kernel
theorem dal_11 : decode method_3_code 11 = .ok (.ireturn, 1) := by decide +kernel

theorem pn_al : plainName "com/example/placewright/placewright/plan/SimplexNthLargestPinLaw" = true := by first | (simp [plainName, overriddenIn]; done) | decide +kernel

theorem pd_al : parseMethodDescriptor "(DD)I" = some ⟨[.double, .double], some .int⟩ := by decide +kernel

theorem pn_law : plainName "com/example/placewright/placewright/plan/SimplexNthLargestPinLaw" = true := by first | (simp [plainName, overriddenIn]; done) | decide +kernel

theorem ef_nth (x0 : Addr) (x1 : Int32) (m : MethodId) : entryFrame m #[(.ref x0), (.int x1)] 11 = mkF m 0 #[.val (.ref x0), .val (.int x1), .unset, .unset, .unset, .unset, .unset, .unset, .unset, .unset, .unset] [] := by first | (simp [entryFrame, mkF, argsToLocals, Value.category]; done) | rfl

theorem ef_ab (x0 : UInt64) (x1 : UInt64) (m : MethodId) : entryFrame m #[(.double x0), (.double x1)] 4 = mkF m 0 #[.val (.double x0), .second, .val (.double x1), .second] [] := by first | (simp [entryFrame, mkF, argsToLocals, Value.category]; done) | rfl

theorem ef_al (x0 : UInt64) (x1 : UInt64) (m : MethodId) : entryFrame m #[(.double x0), (.double x1)] 4 = mkF m 0 #[.val (.double x0), .second, .val (.double x1), .second] [] := by first | (simp [entryFrame, mkF, argsToLocals, Value.category]; done) | rfl

theorem ef_law (x0 : Int32) (x1 : Int32) (x2 : Int32) (x3 : Int32) (x4 : Int32) (x5 : Int32) (m : MethodId) : entryFrame m #[(.int x0), (.int x1), (.int x2), (.int x3), (.int x4), (.int x5)] maxLocals = mkF m 0 #[.val (.int x0), .val (.int x1), .val (.int x2), .val (.int x3), .val (.int x4), .val (.int x5), .unset, .unset, .unset, .unset, .unset, .unset, .unset, .unset, .unset, .unset, .unset, .unset, .unset, .unset, .unset, .unset, .unset] [] := by first | (simp [entryFrame, mkF, argsToLocals, Value.category, maxLocals]; done) | rfl

set_option maxRecDepth 65536 in
set_option maxHeartbeats 4000000 in
theorem rm_ab (l : Launch) (Z : State) (a0 : Array Value) (hw : ∀ d ∈ tables_1, d.before a0 Z = true) (ws : List Jvm.Cond) (y r : Int32) (h0 : Heap) :
    MetQ l Z (⟨"com/example/placewright/placewright/plan/SimplexNthLargestPinLaw", "above", "(DD)I"⟩ : MethodName) method_2_code 4 (some .int) ws ({ frames := 0, cells := 0, slots := 0, locals := 0 } : Room) #[(.double (FP.i2d y)), (.double (FP.i2d r))] h0 (PureQ (some (.int (own_bit (own_gt r y)))) h0) := by
  refine metQ (a0 := a0) (plainFor_of_name pn_ab) hw (ef_ab (FP.i2d y) (FP.i2d r)) ?_
  intro p e s m below meth c T0 C X0 e0
  obtain ⟨hx, hZ, hw, hby, hml, hown, hnm, hret, hlk⟩ := id C
  show WP p e below _ T0 (mkF m 0 #[.val (.double (FP.i2d y)), .second, .val (.double (FP.i2d r)), .second] [])
  refine wp (fun _ => XS.dloadN X0.here hx rfl (hb hby dab_0) rfl) ?_
  show WP p e below _ T0 (mkF m 1 #[.val (.double (FP.i2d y)), .second, .val (.double (FP.i2d r)), .second] [(.double (FP.i2d y))])
  refine wp (fun _ => XS.dloadN X0.here hx rfl (hb hby dab_1) rfl) ?_
  show WP p e below _ T0 (mkF m 2 #[.val (.double (FP.i2d y)), .second, .val (.double (FP.i2d r)), .second] [(.double (FP.i2d r)), (.double (FP.i2d y))])
  refine wp_dcmp C X0 dab_2 ?_
  show WP p e below _ T0 (mkF m 3 #[.val (.double (FP.i2d y)), .second, .val (.double (FP.i2d r)), .second] [(.int (XT.cmpL y.toInt64 r.toInt64))])
  by_cases hc : r.toInt64 < y.toInt64
  ·
    have hc' := own_l64.mp hc
    refine wp (fun _ => XS.ifNo X0.here hx rfl (hb hby dab_3) rfl (XT.ll_le_f hc)) ?_
    show WP p e below _ T0 (mkF m 6 #[.val (.double (FP.i2d y)), .second, .val (.double (FP.i2d r)), .second] [])
    refine wp (fun _ => XS.iconst X0.here hx rfl (hb hby dab_6)) ?_
    show WP p e below _ T0 (mkF m 7 #[.val (.double (FP.i2d y)), .second, .val (.double (FP.i2d r)), .second] [(.int (1 : Int32))])
    refine wp (fun _ => XS.goto X0.here hx rfl (pc0 := 7) (pc' := 11) rfl (hb hby dab_7) (by decide) (by decide)) ?_
    show WP p e below _ T0 (mkF m 11 #[.val (.double (FP.i2d y)), .second, .val (.double (FP.i2d r)), .second] [(.int (1 : Int32))])
    refine wp_ireturn C X0 dab_11 ⟨?_, e0, rfl⟩ (by decide) (by decide)
    have q : own_gt r y = true := by unfold own_gt; simp; omega
    rw [q]
    rfl
  ·
    have hc' := (not_congr own_l64).mp hc
    refine wp (fun _ => XS.ifYes X0.here hx rfl (pc0 := 3) (pc' := 10) rfl (hb hby dab_3) rfl (XT.ll_le_t hc) (by decide) (by decide)) ?_
    show WP p e below _ T0 (mkF m 10 #[.val (.double (FP.i2d y)), .second, .val (.double (FP.i2d r)), .second] [])
    refine wp (fun _ => XS.iconst X0.here hx rfl (hb hby dab_10)) ?_
    show WP p e below _ T0 (mkF m 11 #[.val (.double (FP.i2d y)), .second, .val (.double (FP.i2d r)), .second] [(.int (0 : Int32))])
    refine wp_ireturn C X0 dab_11 ⟨?_, e0, rfl⟩ (by decide) (by decide)
    have q : own_gt r y = false := by unfold own_gt; simp; omega
    rw [q]
    rfl
set_option maxRecDepth 65536 in
set_option maxHeartbeats 4000000 in
theorem rm_al (l : Launch) (Z : State) (a0 : Array Value) (hw : ∀ d ∈ tables_1, d.before a0 Z = true) (ws : List Jvm.Cond) (y r : Int32) (h0 : Heap) :
    MetQ l Z (⟨"com/example/placewright/placewright/plan/SimplexNthLargestPinLaw", "atLeast", "(DD)I"⟩ : MethodName) method_3_code 4 (some .int) ws ({ frames := 0, cells := 0, slots := 0, locals := 0 } : Room) #[(.double (FP.i2d y)), (.double (FP.i2d r))] h0 (PureQ (some (.int (own_bit (own_ge r y)))) h0) := by
  refine metQ (a0 := a0) (plainFor_of_name pn_al) hw (ef_al (FP.i2d y) (FP.i2d r)) ?_
  intro p e s m below meth c T0 C X0 e0
  obtain ⟨hx, hZ, hw, hby, hml, hown, hnm, hret, hlk⟩ := id C
  show WP p e below _ T0 (mkF m 0 #[.val (.double (FP.i2d y)), .second, .val (.double (FP.i2d r)), .second] [])
  refine wp (fun _ => XS.dloadN X0.here hx rfl (hb hby dal_0) rfl) ?_
  show WP p e below _ T0 (mkF m 1 #[.val (.double (FP.i2d y)), .second, .val (.double (FP.i2d r)), .second] [(.double (FP.i2d y))])
  refine wp (fun _ => XS.dloadN X0.here hx rfl (hb hby dal_1) rfl) ?_
  show WP p e below _ T0 (mkF m 2 #[.val (.double (FP.i2d y)), .second, .val (.double (FP.i2d r)), .second] [(.double (FP.i2d r)), (.double (FP.i2d y))])
  refine wp_dcmp C X0 dal_2 ?_
  show WP p e below _ T0 (mkF m 3 #[.val (.double (FP.i2d y)), .second, .val (.double (FP.i2d r)), .second] [(.int (XT.cmpL y.toInt64 r.toInt64))])
  by_cases hc : y.toInt64 < r.toInt64
  ·
    have hc' := own_l64.mp hc
    refine wp (fun _ => XS.ifYes X0.here hx rfl (pc0 := 3) (pc' := 10) rfl (hb hby dal_3) rfl (XT.ll_lt_t hc) (by decide) (by decide)) ?_
    show WP p e below _ T0 (mkF m 10 #[.val (.double (FP.i2d y)), .second, .val (.double (FP.i2d r)), .second] [])
    refine wp (fun _ => XS.iconst X0.here hx rfl (hb hby dal_10)) ?_
    show WP p e below _ T0 (mkF m 11 #[.val (.double (FP.i2d y)), .second, .val (.double (FP.i2d r)), .second] [(.int (0 : Int32))])
    refine wp_ireturn C X0 dal_11 ⟨?_, e0, rfl⟩ (by decide) (by decide)
    have q : own_ge r y = false := by unfold own_ge; simp; omega
    rw [q]
    rfl
  ·
    have hc' := (not_congr own_l64).mp hc
    refine wp (fun _ => XS.ifNo X0.here hx rfl (hb hby dal_3) rfl (XT.ll_lt_f hc)) ?_
    show WP p e below _ T0 (mkF m 6 #[.val (.double (FP.i2d y)), .second, .val (.double (FP.i2d r)), .second] [])
    refine wp (fun _ => XS.iconst X0.here hx rfl (hb hby dal_6)) ?_
    show WP p e below _ T0 (mkF m 7 #[.val (.double (FP.i2d y)), .second, .val (.double (FP.i2d r)), .second] [(.int (1 : Int32))])
    refine wp (fun _ => XS.goto X0.here hx rfl (pc0 := 7) (pc' := 11) rfl (hb hby dal_7) (by decide) (by decide)) ?_
    show WP p e below _ T0 (mkF m 11 #[.val (.double (FP.i2d y)), .second, .val (.double (FP.i2d r)), .second] [(.int (1 : Int32))])
    refine wp_ireturn C X0 dal_11 ⟨?_, e0, rfl⟩ (by decide) (by decide)
    have q : own_ge r y = true := by unfold own_ge; simp; omega
    rw [q]
    rfl
section Own
variable {p : Program} {l : Launch} {e : Env} {R : Room} {s : State} {m : MethodId} {args : Array Value} {below : List Frame} {meth : Method} {c : Code} {T0 : State} {locs : List Loc} {cells slots : Nat} {Z : State} {a0 : Array Value} {h0 : Heap} {Q : State → Prop}

set_option maxRecDepth 65536 in
set_option maxHeartbeats 4000000 in
theorem scan1 (a : Addr) (zn zl zh zw pv : Int32) (n : Nat) (x : Nat → Int32) (s9 s10 : Slot) (hn : n ≤ 5) (zj : Int32) (ki : Nat) (hk : ki < n) (hk2 : (x ki).toInt ≤ pv.toInt) (A : Af Z h0 a .double n (fun k => .double (FP.i2d (x k)))) (C : Cx p s m meth c Z a0 prog_257_method_8_code 11 "com/example/placewright/placewright/plan/Simplex" "nthLargest" (some .double)) (X0 : Stand p l e R s m args below meth c T0 locs cells slots) (e0 : T0.heap = h0) :
    ∀ (r i : Nat) (zi : Int32), ki - i ≤ r → i ≤ ki → zi.toInt = (i : Int) → (∀ (i' : Nat) (zi' : Int32), zi'.toInt = (i' : Int) → i ≤ i' → i' ≤ ki → (∀ q, i ≤ q → q < i' → pv.toInt < (x q).toInt) → (x i').toInt ≤ pv.toInt → WP p e below Q T0 (mkF m 55 #[.val (.ref a), .val (.int zn), .val (.int zl), .val (.int zh), .val (.int zw), .val (.double (FP.i2d pv)), .second, .val (.int zi'), .val (.int zj), s9, s10] [])) → WP p e below Q T0 (mkF m 39 #[.val (.ref a), .val (.int zn), .val (.int zl), .val (.int zh), .val (.int zw), .val (.double (FP.i2d pv)), .second, .val (.int zi), .val (.int zj), s9, s10] []) := by
  obtain ⟨hx, hZ, hw, hby, hml, hown, hnm, hret, hlk⟩ := id C
  intro r
  induction r with
  | zero =>
    intro i zi hr h1 hz k
    have hik : ki = i := by omega
    rw [hik] at hk hk2
    show WP p e below _ T0 (mkF m 39 #[.val (.ref a), .val (.int zn), .val (.int zl), .val (.int zh), .val (.int zw), .val (.double (FP.i2d pv)), .second, .val (.int zi), .val (.int zj), s9, s10] [])
    refine wp (fun _ => XS.aloadN X0.here hx rfl (hb hby dnth_39) rfl rfl) ?_
    show WP p e below _ T0 (mkF m 40 #[.val (.ref a), .val (.int zn), .val (.int zl), .val (.int zh), .val (.int zw), .val (.double (FP.i2d pv)), .second, .val (.int zi), .val (.int zj), s9, s10] [(.ref a)])
    refine wp (fun _ => XS.iload X0.here hx rfl (hb hby dnth_40) rfl) ?_
    show WP p e below _ T0 (mkF m 42 #[.val (.ref a), .val (.int zn), .val (.int zl), .val (.int zh), .val (.int zw), .val (.double (FP.i2d pv)), .second, .val (.int zi), .val (.int zj), s9, s10] [(.int zi), (.ref a)])
    refine wp_daload C X0 e0 A hz hk rfl dnth_42 ?_
    show WP p e below _ T0 (mkF m 43 #[.val (.ref a), .val (.int zn), .val (.int zl), .val (.int zh), .val (.int zw), .val (.double (FP.i2d pv)), .second, .val (.int zi), .val (.int zj), s9, s10] [(.double (FP.i2d (x i)))])
    refine wp (fun _ => XS.dload X0.here hx rfl (hb hby dnth_43) rfl) ?_
    show WP p e below _ T0 (mkF m 45 #[.val (.ref a), .val (.int zn), .val (.int zl), .val (.int zh), .val (.int zw), .val (.double (FP.i2d pv)), .second, .val (.int zi), .val (.int zj), s9, s10] [(.double (FP.i2d pv)), (.double (FP.i2d (x i)))])
    refine wp_dcmp C X0 dnth_45 ?_
    show WP p e below _ T0 (mkF m 46 #[.val (.ref a), .val (.int zn), .val (.int zl), .val (.int zh), .val (.int zw), .val (.double (FP.i2d pv)), .second, .val (.int zi), .val (.int zj), s9, s10] [(.int (XT.cmpL (x i).toInt64 pv.toInt64))])
    have hc : ¬ (pv.toInt64 < (x i).toInt64) := fun q => by have := own_l64.mp q; omega
    refine wp (fun _ => XS.ifYes X0.here hx rfl (pc0 := 46) (pc' := 55) rfl (hb hby dnth_46) rfl (XT.ll_le_t hc) (by decide) (by decide)) ?_
    show WP p e below _ T0 (mkF m 55 #[.val (.ref a), .val (.int zn), .val (.int zl), .val (.int zh), .val (.int zw), .val (.double (FP.i2d pv)), .second, .val (.int zi), .val (.int zj), s9, s10] [])
    exact k i zi hz (by omega) (by omega) (fun q q1 q2 => by omega) hk2
  | succ r ih =>
    intro i zi hr h1 hz k
    show WP p e below _ T0 (mkF m 39 #[.val (.ref a), .val (.int zn), .val (.int zl), .val (.int zh), .val (.int zw), .val (.double (FP.i2d pv)), .second, .val (.int zi), .val (.int zj), s9, s10] [])
    refine wp (fun _ => XS.aloadN X0.here hx rfl (hb hby dnth_39) rfl rfl) ?_
    show WP p e below _ T0 (mkF m 40 #[.val (.ref a), .val (.int zn), .val (.int zl), .val (.int zh), .val (.int zw), .val (.double (FP.i2d pv)), .second, .val (.int zi), .val (.int zj), s9, s10] [(.ref a)])
    refine wp (fun _ => XS.iload X0.here hx rfl (hb hby dnth_40) rfl) ?_
    show WP p e below _ T0 (mkF m 42 #[.val (.ref a), .val (.int zn), .val (.int zl), .val (.int zh), .val (.int zw), .val (.double (FP.i2d pv)), .second, .val (.int zi), .val (.int zj), s9, s10] [(.int zi), (.ref a)])
    refine wp_daload C X0 e0 A hz (by omega) rfl dnth_42 ?_
    show WP p e below _ T0 (mkF m 43 #[.val (.ref a), .val (.int zn), .val (.int zl), .val (.int zh), .val (.int zw), .val (.double (FP.i2d pv)), .second, .val (.int zi), .val (.int zj), s9, s10] [(.double (FP.i2d (x i)))])
    refine wp (fun _ => XS.dload X0.here hx rfl (hb hby dnth_43) rfl) ?_
    show WP p e below _ T0 (mkF m 45 #[.val (.ref a), .val (.int zn), .val (.int zl), .val (.int zh), .val (.int zw), .val (.double (FP.i2d pv)), .second, .val (.int zi), .val (.int zj), s9, s10] [(.double (FP.i2d pv)), (.double (FP.i2d (x i)))])
    refine wp_dcmp C X0 dnth_45 ?_
    show WP p e below _ T0 (mkF m 46 #[.val (.ref a), .val (.int zn), .val (.int zl), .val (.int zh), .val (.int zw), .val (.double (FP.i2d pv)), .second, .val (.int zi), .val (.int zj), s9, s10] [(.int (XT.cmpL (x i).toInt64 pv.toInt64))])
    by_cases hc : pv.toInt64 < (x i).toInt64
    · have hc' := own_l64.mp hc
      refine wp (fun _ => XS.ifNo X0.here hx rfl (hb hby dnth_46) rfl (XT.ll_le_f hc)) ?_
      show WP p e below _ T0 (mkF m 49 #[.val (.ref a), .val (.int zn), .val (.int zl), .val (.int zh), .val (.int zw), .val (.double (FP.i2d pv)), .second, .val (.int zi), .val (.int zj), s9, s10] [])
      refine wp (fun _ => XS.iinc X0.here hx rfl (hb hby dnth_49) rfl (l' := #[.val (.ref a), .val (.int zn), .val (.int zl), .val (.int zh), .val (.int zw), .val (.double (FP.i2d pv)), .second, .val (.int (zi + (1 : Int32))), .val (.int zj), s9, s10]) rfl) ?_
      show WP p e below _ T0 (mkF m 52 #[.val (.ref a), .val (.int zn), .val (.int zl), .val (.int zh), .val (.int zw), .val (.double (FP.i2d pv)), .second, .val (.int (zi + (1 : Int32))), .val (.int zj), s9, s10] [])
      refine wp (fun _ => XS.goto X0.here hx rfl (pc0 := 52) (pc' := 39) rfl (hb hby dnth_52) (by decide) (by decide)) ?_
      show WP p e below _ T0 (mkF m 39 #[.val (.ref a), .val (.int zn), .val (.int zl), .val (.int zh), .val (.int zw), .val (.double (FP.i2d pv)), .second, .val (.int (zi + (1 : Int32))), .val (.int zj), s9, s10] [])
      have hne : i ≠ ki := fun q => by rw [q] at hc'; omega
      refine ih (i + 1) _ (by omega) (by omega) (own_inc hz (by omega)) ?_
      intro i' zi' z1 z2 z3 z4 z5
      refine k i' zi' z1 (by omega) z3 (fun q q1 q2 => ?_) z5
      by_cases q3 : q = i
      · rw [q3]; exact hc'
      · exact z4 q (by omega) q2
    · have hc' := (not_congr own_l64).mp hc
      refine wp (fun _ => XS.ifYes X0.here hx rfl (pc0 := 46) (pc' := 55) rfl (hb hby dnth_46) rfl (XT.ll_le_t hc) (by decide) (by decide)) ?_
      show WP p e below _ T0 (mkF m 55 #[.val (.ref a), .val (.int zn), .val (.int zl), .val (.int zh), .val (.int zw), .val (.double (FP.i2d pv)), .second, .val (.int zi), .val (.int zj), s9, s10] [])
      exact k i zi hz (by omega) h1 (fun q q1 q2 => by omega) (by omega)
set_option maxRecDepth 65536 in
set_option maxHeartbeats 4000000 in
theorem scan2 (a : Addr) (zn zl zh zw pv : Int32) (n : Nat) (x : Nat → Int32) (s9 s10 : Slot) (hn : n ≤ 5) (zi : Int32) (kj : Nat) (hk2 : pv.toInt ≤ (x kj).toInt) (A : Af Z h0 a .double n (fun k => .double (FP.i2d (x k)))) (C : Cx p s m meth c Z a0 prog_257_method_8_code 11 "com/example/placewright/placewright/plan/Simplex" "nthLargest" (some .double)) (X0 : Stand p l e R s m args below meth c T0 locs cells slots) (e0 : T0.heap = h0) :
    ∀ (r j : Nat) (zj : Int32), j - kj ≤ r → kj ≤ j → j < n → zj.toInt = (j : Int) → (∀ (j' : Nat) (zj' : Int32), zj'.toInt = (j' : Int) → kj ≤ j' → j' ≤ j → (∀ q, j' < q → q ≤ j → (x q).toInt < pv.toInt) → pv.toInt ≤ (x j').toInt → WP p e below Q T0 (mkF m 71 #[.val (.ref a), .val (.int zn), .val (.int zl), .val (.int zh), .val (.int zw), .val (.double (FP.i2d pv)), .second, .val (.int zi), .val (.int zj'), s9, s10] [])) → WP p e below Q T0 (mkF m 55 #[.val (.ref a), .val (.int zn), .val (.int zl), .val (.int zh), .val (.int zw), .val (.double (FP.i2d pv)), .second, .val (.int zi), .val (.int zj), s9, s10] []) := by
  obtain ⟨hx, hZ, hw, hby, hml, hown, hnm, hret, hlk⟩ := id C
  intro r
  induction r with
  | zero =>
    intro j zj hr h1 h2 hz k
    have hjk : kj = j := by omega
    rw [hjk] at hk2
    show WP p e below _ T0 (mkF m 55 #[.val (.ref a), .val (.int zn), .val (.int zl), .val (.int zh), .val (.int zw), .val (.double (FP.i2d pv)), .second, .val (.int zi), .val (.int zj), s9, s10] [])
    refine wp (fun _ => XS.aloadN X0.here hx rfl (hb hby dnth_55) rfl rfl) ?_
    show WP p e below _ T0 (mkF m 56 #[.val (.ref a), .val (.int zn), .val (.int zl), .val (.int zh), .val (.int zw), .val (.double (FP.i2d pv)), .second, .val (.int zi), .val (.int zj), s9, s10] [(.ref a)])
    refine wp (fun _ => XS.iload X0.here hx rfl (hb hby dnth_56) rfl) ?_
    show WP p e below _ T0 (mkF m 58 #[.val (.ref a), .val (.int zn), .val (.int zl), .val (.int zh), .val (.int zw), .val (.double (FP.i2d pv)), .second, .val (.int zi), .val (.int zj), s9, s10] [(.int zj), (.ref a)])
    refine wp_daload C X0 e0 A hz h2 rfl dnth_58 ?_
    show WP p e below _ T0 (mkF m 59 #[.val (.ref a), .val (.int zn), .val (.int zl), .val (.int zh), .val (.int zw), .val (.double (FP.i2d pv)), .second, .val (.int zi), .val (.int zj), s9, s10] [(.double (FP.i2d (x j)))])
    refine wp (fun _ => XS.dload X0.here hx rfl (hb hby dnth_59) rfl) ?_
    show WP p e below _ T0 (mkF m 61 #[.val (.ref a), .val (.int zn), .val (.int zl), .val (.int zh), .val (.int zw), .val (.double (FP.i2d pv)), .second, .val (.int zi), .val (.int zj), s9, s10] [(.double (FP.i2d pv)), (.double (FP.i2d (x j)))])
    refine wp_dcmp C X0 dnth_61 ?_
    show WP p e below _ T0 (mkF m 62 #[.val (.ref a), .val (.int zn), .val (.int zl), .val (.int zh), .val (.int zw), .val (.double (FP.i2d pv)), .second, .val (.int zi), .val (.int zj), s9, s10] [(.int (XT.cmpL (x j).toInt64 pv.toInt64))])
    have hc : ¬ ((x j).toInt64 < pv.toInt64) := fun q => by have := own_l64.mp q; omega
    refine wp (fun _ => XS.ifYes X0.here hx rfl (pc0 := 62) (pc' := 71) rfl (hb hby dnth_62) rfl (XT.ll_ge_t hc) (by decide) (by decide)) ?_
    show WP p e below _ T0 (mkF m 71 #[.val (.ref a), .val (.int zn), .val (.int zl), .val (.int zh), .val (.int zw), .val (.double (FP.i2d pv)), .second, .val (.int zi), .val (.int zj), s9, s10] [])
    exact k j zj hz (by omega) (by omega) (fun q q1 q2 => by omega) hk2
  | succ r ih =>
    intro j zj hr h1 h2 hz k
    show WP p e below _ T0 (mkF m 55 #[.val (.ref a), .val (.int zn), .val (.int zl), .val (.int zh), .val (.int zw), .val (.double (FP.i2d pv)), .second, .val (.int zi), .val (.int zj), s9, s10] [])
    refine wp (fun _ => XS.aloadN X0.here hx rfl (hb hby dnth_55) rfl rfl) ?_
    show WP p e below _ T0 (mkF m 56 #[.val (.ref a), .val (.int zn), .val (.int zl), .val (.int zh), .val (.int zw), .val (.double (FP.i2d pv)), .second, .val (.int zi), .val (.int zj), s9, s10] [(.ref a)])
    refine wp (fun _ => XS.iload X0.here hx rfl (hb hby dnth_56) rfl) ?_
    show WP p e below _ T0 (mkF m 58 #[.val (.ref a), .val (.int zn), .val (.int zl), .val (.int zh), .val (.int zw), .val (.double (FP.i2d pv)), .second, .val (.int zi), .val (.int zj), s9, s10] [(.int zj), (.ref a)])
    refine wp_daload C X0 e0 A hz h2 rfl dnth_58 ?_
    show WP p e below _ T0 (mkF m 59 #[.val (.ref a), .val (.int zn), .val (.int zl), .val (.int zh), .val (.int zw), .val (.double (FP.i2d pv)), .second, .val (.int zi), .val (.int zj), s9, s10] [(.double (FP.i2d (x j)))])
    refine wp (fun _ => XS.dload X0.here hx rfl (hb hby dnth_59) rfl) ?_
    show WP p e below _ T0 (mkF m 61 #[.val (.ref a), .val (.int zn), .val (.int zl), .val (.int zh), .val (.int zw), .val (.double (FP.i2d pv)), .second, .val (.int zi), .val (.int zj), s9, s10] [(.double (FP.i2d pv)), (.double (FP.i2d (x j)))])
    refine wp_dcmp C X0 dnth_61 ?_
    show WP p e below _ T0 (mkF m 62 #[.val (.ref a), .val (.int zn), .val (.int zl), .val (.int zh), .val (.int zw), .val (.double (FP.i2d pv)), .second, .val (.int zi), .val (.int zj), s9, s10] [(.int (XT.cmpL (x j).toInt64 pv.toInt64))])
    by_cases hc : (x j).toInt64 < pv.toInt64
    · have hc' := own_l64.mp hc
      refine wp (fun _ => XS.ifNo X0.here hx rfl (hb hby dnth_62) rfl (XT.ll_ge_f hc)) ?_
      show WP p e below _ T0 (mkF m 65 #[.val (.ref a), .val (.int zn), .val (.int zl), .val (.int zh), .val (.int zw), .val (.double (FP.i2d pv)), .second, .val (.int zi), .val (.int zj), s9, s10] [])
      refine wp (fun _ => XS.iinc X0.here hx rfl (hb hby dnth_65) rfl (l' := #[.val (.ref a), .val (.int zn), .val (.int zl), .val (.int zh), .val (.int zw), .val (.double (FP.i2d pv)), .second, .val (.int zi), .val (.int (zj + (Int32.ofInt (-1)))), s9, s10]) rfl) ?_
      show WP p e below _ T0 (mkF m 68 #[.val (.ref a), .val (.int zn), .val (.int zl), .val (.int zh), .val (.int zw), .val (.double (FP.i2d pv)), .second, .val (.int zi), .val (.int (zj + (Int32.ofInt (-1)))), s9, s10] [])
      refine wp (fun _ => XS.goto X0.here hx rfl (pc0 := 68) (pc' := 55) rfl (hb hby dnth_68) (by decide) (by decide)) ?_
      show WP p e below _ T0 (mkF m 55 #[.val (.ref a), .val (.int zn), .val (.int zl), .val (.int zh), .val (.int zw), .val (.double (FP.i2d pv)), .second, .val (.int zi), .val (.int (zj + (Int32.ofInt (-1)))), s9, s10] [])
      have hne : j ≠ kj := fun q => by rw [q] at hc'; omega
      have hz' := own_dec hz (by omega)
      generalize zj + (Int32.ofInt (-1)) = z9 at hz' ⊢
      refine ih (j - 1) z9 (by omega) (by omega) (by omega) (by omega) ?_
      intro j' zj' z1 z2 z3 z4 z5
      refine k j' zj' z1 z2 (by omega) (fun q q1 q2 => ?_) z5
      by_cases q3 : q = j
      · rw [q3]; exact hc'
      · exact z4 q q1 (by omega)
    · have hc' := (not_congr own_l64).mp hc
      refine wp (fun _ => XS.ifYes X0.here hx rfl (pc0 := 62) (pc' := 71) rfl (hb hby dnth_62) rfl (XT.ll_ge_t hc) (by decide) (by decide)) ?_
      show WP p e below _ T0 (mkF m 71 #[.val (.ref a), .val (.int zn), .val (.int zl), .val (.int zh), .val (.int zw), .val (.double (FP.i2d pv)), .second, .val (.int zi), .val (.int zj), s9, s10] [])
      exact k j zj hz h1 (by omega) (fun q q1 q2 => by omega) (by omega)
theorem own_st9 {a : Addr} {zn zl zh zw zi zj : Int32} {u w : UInt64} {s9 s10 : Slot} (h : Two s9 s10) : storeLocals #[.val (.ref a), .val (.int zn), .val (.int zl), .val (.int zh), .val (.int zw), .val (.double u), .second, .val (.int zi), .val (.int zj), s9, s10] 9 (.double w) = some #[.val (.ref a), .val (.int zn), .val (.int zl), .val (.int zh), .val (.int zw), .val (.double u), .second, .val (.int zi), .val (.int zj), .val (.double w), .second] := by
  rcases h with ⟨rfl, rfl⟩ | ⟨u, rfl, rfl⟩ <;> rfl
set_option maxRecDepth 65536 in
set_option maxHeartbeats 4000000 in
theorem mloop (a : Addr) (zn zl zh zw pv : Int32) (n low high n0 : Nat) (x0 : Nat → Int32) (hn : n ≤ 5) (hh : high < n) (ga : n0 ≤ a) (C : Cx p s m meth c Z a0 prog_257_method_8_code 11 "com/example/placewright/placewright/plan/Simplex" "nthLargest" (some .double))
    (k : ∀ (x' : Nat → Int32) (i' jn' : Nat) (zi' zj' : Int32) (s9 s10 : Slot) (T' : State) (h' : Heap) (locs' : List Loc), jn' ≤ i' → Pinv x' pv low high i' jn' → Outer x' n low high → (∀ P, own_cnt P x' n = own_cnt P x0 n) → zi'.toInt = (i' : Int) → zj'.toInt = (jn' : Int) - 1 → Two s9 s10 → Stand p l e R s m args below meth c T' locs' cells slots → T'.heap = h' → Fr n0 locs' → Keep h0 h' [a] → Af Z h' a .double n (fun k => .double (FP.i2d (x' k))) → WP p e below Q T' (mkF m 107 #[.val (.ref a), .val (.int zn), .val (.int zl), .val (.int zh), .val (.int zw), .val (.double (FP.i2d pv)), .second, .val (.int zi'), .val (.int zj'), s9, s10] [])) :
    ∀ (r : Nat) (x : Nat → Int32) (i jn : Nat) (zi zj : Int32) (s9 s10 : Slot) (T0 : State) (h : Heap) (locs : List Loc), jn - i ≤ r → Pinv x pv low high i jn → Outer x n low high → (∀ P, own_cnt P x n = own_cnt P x0 n) → zi.toInt = (i : Int) → zj.toInt = (jn : Int) - 1 → Two s9 s10 → Stand p l e R s m args below meth c T0 locs cells slots → T0.heap = h → Fr n0 locs → Keep h0 h [a] → Af Z h a .double n (fun k => .double (FP.i2d (x k))) → WP p e below Q T0 (mkF m 32 #[.val (.ref a), .val (.int zn), .val (.int zl), .val (.int zh), .val (.int zw), .val (.double (FP.i2d pv)), .second, .val (.int zi), .val (.int zj), s9, s10] []) := by
  obtain ⟨hx, hZ, hw, hby, hml, hown, hnm, hret, hlk⟩ := id C
  have L0 := @Int32.lt_iff_toInt_lt
  intro r
  induction r with
  | zero =>
    intro x i jn zi zj s9 s10 T0 h locs hr I O ct hzi hzj h9 X0 e0 N0 K0 A
    show WP p e below _ T0 (mkF m 32 #[.val (.ref a), .val (.int zn), .val (.int zl), .val (.int zh), .val (.int zw), .val (.double (FP.i2d pv)), .second, .val (.int zi), .val (.int zj), s9, s10] [])
    refine wp (fun _ => XS.iload X0.here hx rfl (hb hby dnth_32) rfl) ?_
    show WP p e below _ T0 (mkF m 34 #[.val (.ref a), .val (.int zn), .val (.int zl), .val (.int zh), .val (.int zw), .val (.double (FP.i2d pv)), .second, .val (.int zi), .val (.int zj), s9, s10] [(.int zi)])
    refine wp (fun _ => XS.iload X0.here hx rfl (hb hby dnth_34) rfl) ?_
    show WP p e below _ T0 (mkF m 36 #[.val (.ref a), .val (.int zn), .val (.int zl), .val (.int zh), .val (.int zw), .val (.double (FP.i2d pv)), .second, .val (.int zi), .val (.int zj), s9, s10] [(.int zj), (.int zi)])
    have hc : zj < zi := by rw [L0]; omega
    refine wp (fun _ => XS.icmpYes X0.here hx rfl (pc0 := 36) (pc' := 107) rfl (hb hby dnth_36) rfl (XT.ii_gt_t hc) (by decide) (by decide)) ?_
    show WP p e below _ T0 (mkF m 107 #[.val (.ref a), .val (.int zn), .val (.int zl), .val (.int zh), .val (.int zw), .val (.double (FP.i2d pv)), .second, .val (.int zi), .val (.int zj), s9, s10] [])
    exact k x i jn zi zj s9 s10 T0 h locs (by omega) I O ct hzi hzj h9 X0 e0 N0 K0 A
  | succ r ih =>
    intro x i jn zi zj s9 s10 T0 h locs hr I O ct hzi hzj h9 X0 e0 N0 K0 A
    show WP p e below _ T0 (mkF m 32 #[.val (.ref a), .val (.int zn), .val (.int zl), .val (.int zh), .val (.int zw), .val (.double (FP.i2d pv)), .second, .val (.int zi), .val (.int zj), s9, s10] [])
    refine wp (fun _ => XS.iload X0.here hx rfl (hb hby dnth_32) rfl) ?_
    show WP p e below _ T0 (mkF m 34 #[.val (.ref a), .val (.int zn), .val (.int zl), .val (.int zh), .val (.int zw), .val (.double (FP.i2d pv)), .second, .val (.int zi), .val (.int zj), s9, s10] [(.int zi)])
    refine wp (fun _ => XS.iload X0.here hx rfl (hb hby dnth_34) rfl) ?_
    show WP p e below _ T0 (mkF m 36 #[.val (.ref a), .val (.int zn), .val (.int zl), .val (.int zh), .val (.int zw), .val (.double (FP.i2d pv)), .second, .val (.int zi), .val (.int zj), s9, s10] [(.int zj), (.int zi)])
    by_cases hc : zj < zi
    · rw [L0] at hc
      refine wp (fun _ => XS.icmpYes X0.here hx rfl (pc0 := 36) (pc' := 107) rfl (hb hby dnth_36) rfl (XT.ii_gt_t (L0.mpr hc)) (by decide) (by decide)) ?_
      show WP p e below _ T0 (mkF m 107 #[.val (.ref a), .val (.int zn), .val (.int zl), .val (.int zh), .val (.int zw), .val (.double (FP.i2d pv)), .second, .val (.int zi), .val (.int zj), s9, s10] [])
      exact k x i jn zi zj s9 s10 T0 h locs (by omega) I O ct hzi hzj h9 X0 e0 N0 K0 A
    · rw [L0] at hc
      have hlt : i < jn := by omega
      obtain ⟨c1, c2, c3, c4, c5, c6, c7, c8⟩ := id I
      obtain ⟨ki, kj, d1, d2, d3, d4, d5, d6, d7⟩ := c7 hlt
      clear c7 c8
      refine wp (fun _ => XS.icmpNo X0.here hx rfl (hb hby dnth_36) rfl (XT.ii_gt_f (fun q => hc (L0.mp q)))) ?_
      show WP p e below _ T0 (mkF m 39 #[.val (.ref a), .val (.int zn), .val (.int zl), .val (.int zh), .val (.int zw), .val (.double (FP.i2d pv)), .second, .val (.int zi), .val (.int zj), s9, s10] [])
      refine scan1 a zn zl zh zw pv n x s9 s10 hn zj ki (by omega) d3 A C X0 e0 (ki - i) i zi (by omega) d1 hzi ?_
      intro i' zi' i1 i2 i3 i4 i5
      refine scan2 a zn zl zh zw pv n x s9 s10 hn zi' kj d6 A C X0 e0 (jn - 1 - kj) (jn - 1) zj (by omega) (by omega) (by omega) (by omega) ?_
      intro j' zj' j1 j2 j3 j4 j5
      show WP p e below _ T0 (mkF m 71 #[.val (.ref a), .val (.int zn), .val (.int zl), .val (.int zh), .val (.int zw), .val (.double (FP.i2d pv)), .second, .val (.int zi'), .val (.int zj'), s9, s10] [])
      refine wp (fun _ => XS.iload X0.here hx rfl (hb hby dnth_71) rfl) ?_
      show WP p e below _ T0 (mkF m 73 #[.val (.ref a), .val (.int zn), .val (.int zl), .val (.int zh), .val (.int zw), .val (.double (FP.i2d pv)), .second, .val (.int zi'), .val (.int zj'), s9, s10] [(.int zi')])
      refine wp (fun _ => XS.iload X0.here hx rfl (hb hby dnth_73) rfl) ?_
      show WP p e below _ T0 (mkF m 75 #[.val (.ref a), .val (.int zn), .val (.int zl), .val (.int zh), .val (.int zw), .val (.double (FP.i2d pv)), .second, .val (.int zi'), .val (.int zj'), s9, s10] [(.int zj'), (.int zi')])
      by_cases hd : zj' < zi'
      · rw [L0] at hd
        refine wp (fun _ => XS.icmpYes X0.here hx rfl (pc0 := 75) (pc' := 32) rfl (hb hby dnth_75) rfl (XT.ii_gt_t (L0.mpr hd)) (by decide) (by decide)) ?_
        show WP p e below _ T0 (mkF m 32 #[.val (.ref a), .val (.int zn), .val (.int zl), .val (.int zh), .val (.int zw), .val (.double (FP.i2d pv)), .second, .val (.int zi'), .val (.int zj'), s9, s10] [])
        refine ih x i' (j' + 1) zi' zj' s9 s10 T0 h locs (by omega) ?_ O ct i1 (by omega) h9 X0 e0 N0 K0 A
        refine I.cross hlt i2 (fun q q1 q2 => by have := i4 q q1 q2; omega) (by omega) (by omega) (fun q q1 q2 => by have := j4 q (by omega) (by omega); omega) (by omega) (fun q q1 q2 q3 => Nat.not_lt.mp fun q4 => by have := i4 q q1 q4; omega) (fun q q1 q2 q3 => Nat.lt_succ_of_le (Nat.not_lt.mp fun q4 => by have := j4 q q4 (by omega); omega)) (by omega)
      · rw [L0] at hd
        refine wp (fun _ => XS.icmpNo X0.here hx rfl (hb hby dnth_75) rfl (XT.ii_gt_f (fun q => hd (L0.mp q)))) ?_
        show WP p e below _ T0 (mkF m 78 #[.val (.ref a), .val (.int zn), .val (.int zl), .val (.int zh), .val (.int zw), .val (.double (FP.i2d pv)), .second, .val (.int zi'), .val (.int zj'), s9, s10] [])
        refine wp (fun _ => XS.aloadN X0.here hx rfl (hb hby dnth_78) rfl rfl) ?_
        show WP p e below _ T0 (mkF m 79 #[.val (.ref a), .val (.int zn), .val (.int zl), .val (.int zh), .val (.int zw), .val (.double (FP.i2d pv)), .second, .val (.int zi'), .val (.int zj'), s9, s10] [(.ref a)])
        refine wp (fun _ => XS.iload X0.here hx rfl (hb hby dnth_79) rfl) ?_
        show WP p e below _ T0 (mkF m 81 #[.val (.ref a), .val (.int zn), .val (.int zl), .val (.int zh), .val (.int zw), .val (.double (FP.i2d pv)), .second, .val (.int zi'), .val (.int zj'), s9, s10] [(.int zi'), (.ref a)])
        refine wp_daload C X0 e0 A i1 (by omega) rfl dnth_81 ?_
        show WP p e below _ T0 (mkF m 82 #[.val (.ref a), .val (.int zn), .val (.int zl), .val (.int zh), .val (.int zw), .val (.double (FP.i2d pv)), .second, .val (.int zi'), .val (.int zj'), s9, s10] [(.double (FP.i2d (x i')))])
        refine wp (fun _ => XS.dstore X0.here hx rfl (hb hby dnth_82) rfl (l' := #[.val (.ref a), .val (.int zn), .val (.int zl), .val (.int zh), .val (.int zw), .val (.double (FP.i2d pv)), .second, .val (.int zi'), .val (.int zj'), .val (.double (FP.i2d (x i'))), .second]) (own_st9 h9)) ?_
        show WP p e below _ T0 (mkF m 84 #[.val (.ref a), .val (.int zn), .val (.int zl), .val (.int zh), .val (.int zw), .val (.double (FP.i2d pv)), .second, .val (.int zi'), .val (.int zj'), .val (.double (FP.i2d (x i'))), .second] [])
        refine wp (fun _ => XS.aloadN X0.here hx rfl (hb hby dnth_84) rfl rfl) ?_
        show WP p e below _ T0 (mkF m 85 #[.val (.ref a), .val (.int zn), .val (.int zl), .val (.int zh), .val (.int zw), .val (.double (FP.i2d pv)), .second, .val (.int zi'), .val (.int zj'), .val (.double (FP.i2d (x i'))), .second] [(.ref a)])
        refine wp (fun _ => XS.iload X0.here hx rfl (hb hby dnth_85) rfl) ?_
        show WP p e below _ T0 (mkF m 87 #[.val (.ref a), .val (.int zn), .val (.int zl), .val (.int zh), .val (.int zw), .val (.double (FP.i2d pv)), .second, .val (.int zi'), .val (.int zj'), .val (.double (FP.i2d (x i'))), .second] [(.int zi'), (.ref a)])
        refine wp (fun _ => XS.iinc X0.here hx rfl (hb hby dnth_87) rfl (l' := #[.val (.ref a), .val (.int zn), .val (.int zl), .val (.int zh), .val (.int zw), .val (.double (FP.i2d pv)), .second, .val (.int (zi' + (1 : Int32))), .val (.int zj'), .val (.double (FP.i2d (x i'))), .second]) rfl) ?_
        show WP p e below _ T0 (mkF m 90 #[.val (.ref a), .val (.int zn), .val (.int zl), .val (.int zh), .val (.int zw), .val (.double (FP.i2d pv)), .second, .val (.int (zi' + (1 : Int32))), .val (.int zj'), .val (.double (FP.i2d (x i'))), .second] [(.int zi'), (.ref a)])
        refine wp (fun _ => XS.aloadN X0.here hx rfl (hb hby dnth_90) rfl rfl) ?_
        show WP p e below _ T0 (mkF m 91 #[.val (.ref a), .val (.int zn), .val (.int zl), .val (.int zh), .val (.int zw), .val (.double (FP.i2d pv)), .second, .val (.int (zi' + (1 : Int32))), .val (.int zj'), .val (.double (FP.i2d (x i'))), .second] [(.ref a), (.int zi'), (.ref a)])
        refine wp (fun _ => XS.iload X0.here hx rfl (hb hby dnth_91) rfl) ?_
        show WP p e below _ T0 (mkF m 93 #[.val (.ref a), .val (.int zn), .val (.int zl), .val (.int zh), .val (.int zw), .val (.double (FP.i2d pv)), .second, .val (.int (zi' + (1 : Int32))), .val (.int zj'), .val (.double (FP.i2d (x i'))), .second] [(.int zj'), (.ref a), (.int zi'), (.ref a)])
        refine wp_daload C X0 e0 A j1 (by omega) rfl dnth_93 ?_
        show WP p e below _ T0 (mkF m 94 #[.val (.ref a), .val (.int zn), .val (.int zl), .val (.int zh), .val (.int zw), .val (.double (FP.i2d pv)), .second, .val (.int (zi' + (1 : Int32))), .val (.int zj'), .val (.double (FP.i2d (x i'))), .second] [(.double (FP.i2d (x j'))), (.int zi'), (.ref a)])
        refine wp_dastore C X0 e0 A i1 (by omega) dnth_94 ?_
        intro T1 h1 X1 e1 W1 A1
        have N1 := Frs (sl := zi'.toNatClampNeg) N0 ga
        have K1 : Keep h0 h1 [a] := K0.wr W1 (Or.inl (List.mem_singleton.mpr rfl))
        have A1' : Af Z h1 a .double n (fun k => .double (FP.i2d (own_up x i' (x j') k))) := A1.conv fun q hq => by unfold own_up; split <;> rfl
        show WP p e below _ T1 (mkF m 95 #[.val (.ref a), .val (.int zn), .val (.int zl), .val (.int zh), .val (.int zw), .val (.double (FP.i2d pv)), .second, .val (.int (zi' + (1 : Int32))), .val (.int zj'), .val (.double (FP.i2d (x i'))), .second] [])
        refine wp (fun _ => XS.aloadN X1.here hx rfl (hb hby dnth_95) rfl rfl) ?_
        show WP p e below _ T1 (mkF m 96 #[.val (.ref a), .val (.int zn), .val (.int zl), .val (.int zh), .val (.int zw), .val (.double (FP.i2d pv)), .second, .val (.int (zi' + (1 : Int32))), .val (.int zj'), .val (.double (FP.i2d (x i'))), .second] [(.ref a)])
        refine wp (fun _ => XS.iload X1.here hx rfl (hb hby dnth_96) rfl) ?_
        show WP p e below _ T1 (mkF m 98 #[.val (.ref a), .val (.int zn), .val (.int zl), .val (.int zh), .val (.int zw), .val (.double (FP.i2d pv)), .second, .val (.int (zi' + (1 : Int32))), .val (.int zj'), .val (.double (FP.i2d (x i'))), .second] [(.int zj'), (.ref a)])
        refine wp (fun _ => XS.iinc X1.here hx rfl (hb hby dnth_98) rfl (l' := #[.val (.ref a), .val (.int zn), .val (.int zl), .val (.int zh), .val (.int zw), .val (.double (FP.i2d pv)), .second, .val (.int (zi' + (1 : Int32))), .val (.int (zj' + (Int32.ofInt (-1)))), .val (.double (FP.i2d (x i'))), .second]) rfl) ?_
        show WP p e below _ T1 (mkF m 101 #[.val (.ref a), .val (.int zn), .val (.int zl), .val (.int zh), .val (.int zw), .val (.double (FP.i2d pv)), .second, .val (.int (zi' + (1 : Int32))), .val (.int (zj' + (Int32.ofInt (-1)))), .val (.double (FP.i2d (x i'))), .second] [(.int zj'), (.ref a)])
        refine wp (fun _ => XS.dload X1.here hx rfl (hb hby dnth_101) rfl) ?_
        show WP p e below _ T1 (mkF m 103 #[.val (.ref a), .val (.int zn), .val (.int zl), .val (.int zh), .val (.int zw), .val (.double (FP.i2d pv)), .second, .val (.int (zi' + (1 : Int32))), .val (.int (zj' + (Int32.ofInt (-1)))), .val (.double (FP.i2d (x i'))), .second] [(.double (FP.i2d (x i'))), (.int zj'), (.ref a)])
        refine wp_dastore C X1 e1 A1' j1 (by omega) dnth_103 ?_
        intro T2 h2 X2 e2 W2 A2
        have N2 := Frs (sl := zj'.toNatClampNeg) N1 ga
        have K2 : Keep h0 h2 [a] := K1.wr W2 (Or.inl (List.mem_singleton.mpr rfl))
        have A2' : Af Z h2 a .double n (fun k => .double (FP.i2d (own_sw x i' j' k))) := A2.conv fun q hq => by
          show _ = Value.double (FP.i2d (if q = j' then x i' else own_up x i' (x j') q))
          split <;> rfl
        show WP p e below _ T2 (mkF m 104 #[.val (.ref a), .val (.int zn), .val (.int zl), .val (.int zh), .val (.int zw), .val (.double (FP.i2d pv)), .second, .val (.int (zi' + (1 : Int32))), .val (.int (zj' + (Int32.ofInt (-1)))), .val (.double (FP.i2d (x i'))), .second] [])
        refine wp (fun _ => XS.goto X2.here hx rfl (pc0 := 104) (pc' := 32) rfl (hb hby dnth_104) (by decide) (by decide)) ?_
        show WP p e below _ T2 (mkF m 32 #[.val (.ref a), .val (.int zn), .val (.int zl), .val (.int zh), .val (.int zw), .val (.double (FP.i2d pv)), .second, .val (.int (zi' + (1 : Int32))), .val (.int (zj' + (Int32.ofInt (-1)))), .val (.double (FP.i2d (x i'))), .second] [])
        refine ih (own_sw x i' j') (i' + 1) j' _ _ _ _ T2 h2 _ (by omega) ?_ (O.sw hh (by omega) (by omega) (by omega) (by omega)) (fun P => by rw [own_sw_cnt P x i' j' n (by omega) (by omega)]; exact ct P) (own_inc i1 (by omega)) (own_dec j1 (by omega)) (Or.inr ⟨_, rfl, rfl⟩) X2 e2 N2 K2 A2'
        exact I.swap hlt i2 (fun q q1 q2 => by have := i4 q q1 q2; omega) i5 (by omega) (fun q q1 q2 => by have := j4 q q1 (by omega); omega) j5 (by omega)
theorem own_st5 {a : Addr} {zn zl zh zw : Int32} {u : UInt64} {s5 s6 s7 s8 s9 s10 : Slot} (h : Two s5 s6) : storeLocals #[.val (.ref a), .val (.int zn), .val (.int zl), .val (.int zh), .val (.int zw), s5, s6, s7, s8, s9, s10] 5 (.double u) = some #[.val (.ref a), .val (.int zn), .val (.int zl), .val (.int zh), .val (.int zw), .val (.double u), .second, s7, s8, s9, s10] := by
  rcases h with ⟨rfl, rfl⟩ | ⟨u, rfl, rfl⟩ <;> rfl
theorem own_st7 {a : Addr} {zn zl zh zw v : Int32} {u : UInt64} {s7 s8 s9 s10 : Slot} (h : One s7) : storeLocals #[.val (.ref a), .val (.int zn), .val (.int zl), .val (.int zh), .val (.int zw), .val (.double u), .second, s7, s8, s9, s10] 7 (.int v) = some #[.val (.ref a), .val (.int zn), .val (.int zl), .val (.int zh), .val (.int zw), .val (.double u), .second, .val (.int v), s8, s9, s10] := by
  rcases h with rfl | ⟨w, rfl, hw⟩
  · rfl
  · cases w <;> first | rfl | (simp [Value.category] at hw)
theorem own_st8 {a : Addr} {zn zl zh zw zi v : Int32} {u : UInt64} {s8 s9 s10 : Slot} (h : One s8) : storeLocals #[.val (.ref a), .val (.int zn), .val (.int zl), .val (.int zh), .val (.int zw), .val (.double u), .second, .val (.int zi), s8, s9, s10] 8 (.int v) = some #[.val (.ref a), .val (.int zn), .val (.int zl), .val (.int zh), .val (.int zw), .val (.double u), .second, .val (.int zi), .val (.int v), s9, s10] := by
  rcases h with rfl | ⟨w, rfl, hw⟩
  · rfl
  · cases w <;> first | rfl | (simp [Value.category] at hw)
def QN (a : Addr) (x0 : Nat → Int32) (n w : Nat) (h0 : Heap) (n0 : Nat) : Option Value → Heap → List Loc → Prop := fun v h L => ∃ rv : Int32, v = some (.double (FP.i2d rv)) ∧ Fr n0 L ∧ Keep h0 h [a] ∧ own_cnt (own_gt rv) x0 n ≤ w ∧ w + 1 ≤ own_cnt (own_ge rv) x0 n
set_option maxRecDepth 65536 in
set_option maxHeartbeats 4000000 in
theorem oloop (a : Addr) (zn zw : Int32) (n w n0 : Nat) (x0 : Nat → Int32) (hn : n ≤ 5) (ga : n0 ≤ a) (hzw : zw.toInt = (w : Int)) (C : Cx p s m meth c Z a0 prog_257_method_8_code 11 "com/example/placewright/placewright/plan/Simplex" "nthLargest" (some .double)) :
    ∀ (r : Nat) (x : Nat → Int32) (low high : Nat) (zl zh : Int32) (s5 s6 s7 s8 s9 s10 : Slot) (T0 : State) (h : Heap) (locs : List Loc), high - low ≤ r → low ≤ w → w ≤ high → high < n → Outer x n low high → (∀ P, own_cnt P x n = own_cnt P x0 n) → zl.toInt = (low : Int) → zh.toInt = (high : Int) → Two s5 s6 → One s7 → One s8 → Two s9 s10 → Stand p l e ({ frames := 0, cells := 0, slots := 0, locals := 0 } : Room) s m args below meth c T0 locs 0 0 → T0.heap = h → Fr n0 locs → Keep h0 h [a] → Af Z h a .double n (fun k => .double (FP.i2d (x k))) → WP p e below (Ends s below (QN a x0 n w h0 n0) 0 0) T0 (mkF m 12 #[.val (.ref a), .val (.int zn), .val (.int zl), .val (.int zh), .val (.int zw), s5, s6, s7, s8, s9, s10] []) := by
  obtain ⟨hx, hZ, hw, hby, hml, hown, hnm, hret, hlk⟩ := id C
  have L0 := @Int32.lt_iff_toInt_lt
  intro r
  induction r with
  | zero =>
    intro x low high zl zh s5 s6 s7 s8 s9 s10 T0 h locs hr h1 h2 h3 O ct hzl hzh t5 o7 o8 t9 X0 e0 N0 K0 A
    show WP p e below _ T0 (mkF m 12 #[.val (.ref a), .val (.int zn), .val (.int zl), .val (.int zh), .val (.int zw), s5, s6, s7, s8, s9, s10] [])
    refine wp (fun _ => XS.iloadN X0.here hx rfl (hb hby dnth_12) rfl) ?_
    show WP p e below _ T0 (mkF m 13 #[.val (.ref a), .val (.int zn), .val (.int zl), .val (.int zh), .val (.int zw), s5, s6, s7, s8, s9, s10] [(.int zl)])
    refine wp (fun _ => XS.iloadN X0.here hx rfl (hb hby dnth_13) rfl) ?_
    show WP p e below _ T0 (mkF m 14 #[.val (.ref a), .val (.int zn), .val (.int zl), .val (.int zh), .val (.int zw), s5, s6, s7, s8, s9, s10] [(.int zh), (.int zl)])
    have hc : ¬ (zl < zh) := by rw [L0]; omega
    refine wp (fun _ => XS.icmpYes X0.here hx rfl (pc0 := 14) (pc' := 141) rfl (hb hby dnth_14) rfl (XT.ii_ge_t hc) (by decide) (by decide)) ?_
    show WP p e below _ T0 (mkF m 141 #[.val (.ref a), .val (.int zn), .val (.int zl), .val (.int zh), .val (.int zw), s5, s6, s7, s8, s9, s10] [])
    refine wp (fun _ => XS.aloadN X0.here hx rfl (hb hby dnth_141) rfl rfl) ?_
    show WP p e below _ T0 (mkF m 142 #[.val (.ref a), .val (.int zn), .val (.int zl), .val (.int zh), .val (.int zw), s5, s6, s7, s8, s9, s10] [(.ref a)])
    refine wp (fun _ => XS.iload X0.here hx rfl (hb hby dnth_142) rfl) ?_
    show WP p e below _ T0 (mkF m 144 #[.val (.ref a), .val (.int zn), .val (.int zl), .val (.int zh), .val (.int zw), s5, s6, s7, s8, s9, s10] [(.int zw), (.ref a)])
    refine wp_daload C X0 e0 A hzw (by omega) rfl dnth_144 ?_
    show WP p e below _ T0 (mkF m 145 #[.val (.ref a), .val (.int zn), .val (.int zl), .val (.int zh), .val (.int zw), s5, s6, s7, s8, s9, s10] [(.double (FP.i2d (x w)))])
    have S : Sel x n w := Sel.one O h1 h2 (by omega) h3
    exact wp_dreturn C X0 dnth_145 ⟨x w, rfl, N0, by rw [e0]; exact K0, by rw [← ct]; exact S.above, by rw [← ct]; exact S.atleast⟩ (by decide) (by decide)
  | succ r ih =>
    intro x low high zl zh s5 s6 s7 s8 s9 s10 T0 h locs hr h1 h2 h3 O ct hzl hzh t5 o7 o8 t9 X0 e0 N0 K0 A
    show WP p e below _ T0 (mkF m 12 #[.val (.ref a), .val (.int zn), .val (.int zl), .val (.int zh), .val (.int zw), s5, s6, s7, s8, s9, s10] [])
    refine wp (fun _ => XS.iloadN X0.here hx rfl (hb hby dnth_12) rfl) ?_
    show WP p e below _ T0 (mkF m 13 #[.val (.ref a), .val (.int zn), .val (.int zl), .val (.int zh), .val (.int zw), s5, s6, s7, s8, s9, s10] [(.int zl)])
    refine wp (fun _ => XS.iloadN X0.here hx rfl (hb hby dnth_13) rfl) ?_
    show WP p e below _ T0 (mkF m 14 #[.val (.ref a), .val (.int zn), .val (.int zl), .val (.int zh), .val (.int zw), s5, s6, s7, s8, s9, s10] [(.int zh), (.int zl)])
    by_cases hc : ¬ (zl < zh)
    ·
      refine wp (fun _ => XS.icmpYes X0.here hx rfl (pc0 := 14) (pc' := 141) rfl (hb hby dnth_14) rfl (XT.ii_ge_t hc) (by decide) (by decide)) ?_
      show WP p e below _ T0 (mkF m 141 #[.val (.ref a), .val (.int zn), .val (.int zl), .val (.int zh), .val (.int zw), s5, s6, s7, s8, s9, s10] [])
      rw [L0] at hc
      refine wp (fun _ => XS.aloadN X0.here hx rfl (hb hby dnth_141) rfl rfl) ?_
      show WP p e below _ T0 (mkF m 142 #[.val (.ref a), .val (.int zn), .val (.int zl), .val (.int zh), .val (.int zw), s5, s6, s7, s8, s9, s10] [(.ref a)])
      refine wp (fun _ => XS.iload X0.here hx rfl (hb hby dnth_142) rfl) ?_
      show WP p e below _ T0 (mkF m 144 #[.val (.ref a), .val (.int zn), .val (.int zl), .val (.int zh), .val (.int zw), s5, s6, s7, s8, s9, s10] [(.int zw), (.ref a)])
      refine wp_daload C X0 e0 A hzw (by omega) rfl dnth_144 ?_
      show WP p e below _ T0 (mkF m 145 #[.val (.ref a), .val (.int zn), .val (.int zl), .val (.int zh), .val (.int zw), s5, s6, s7, s8, s9, s10] [(.double (FP.i2d (x w)))])
      have S : Sel x n w := Sel.one O h1 h2 (by omega) h3
      exact wp_dreturn C X0 dnth_145 ⟨x w, rfl, N0, by rw [e0]; exact K0, by rw [← ct]; exact S.above, by rw [← ct]; exact S.atleast⟩ (by decide) (by decide)
    ·
      refine wp (fun _ => XS.icmpNo X0.here hx rfl (hb hby dnth_14) rfl (XT.ii_ge_f (Classical.not_not.mp hc))) ?_
      show WP p e below _ T0 (mkF m 17 #[.val (.ref a), .val (.int zn), .val (.int zl), .val (.int zh), .val (.int zw), s5, s6, s7, s8, s9, s10] [])
      rw [L0] at hc
      refine wp (fun _ => XS.aloadN X0.here hx rfl (hb hby dnth_17) rfl rfl) ?_
      show WP p e below _ T0 (mkF m 18 #[.val (.ref a), .val (.int zn), .val (.int zl), .val (.int zh), .val (.int zw), s5, s6, s7, s8, s9, s10] [(.ref a)])
      refine wp (fun _ => XS.iloadN X0.here hx rfl (hb hby dnth_18) rfl) ?_
      show WP p e below _ T0 (mkF m 19 #[.val (.ref a), .val (.int zn), .val (.int zl), .val (.int zh), .val (.int zw), s5, s6, s7, s8, s9, s10] [(.int zl), (.ref a)])
      refine wp (fun _ => XS.iloadN X0.here hx rfl (hb hby dnth_19) rfl) ?_
      show WP p e below _ T0 (mkF m 20 #[.val (.ref a), .val (.int zn), .val (.int zl), .val (.int zh), .val (.int zw), s5, s6, s7, s8, s9, s10] [(.int zh), (.int zl), (.ref a)])
      refine wp (fun _ => XS.iadd X0.here hx rfl (hb hby dnth_20) rfl) ?_
      show WP p e below _ T0 (mkF m 21 #[.val (.ref a), .val (.int zn), .val (.int zl), .val (.int zh), .val (.int zw), s5, s6, s7, s8, s9, s10] [(.int (zl + zh)), (.ref a)])
      refine wp (fun _ => XS.iconst X0.here hx rfl (hb hby dnth_21)) ?_
      show WP p e below _ T0 (mkF m 22 #[.val (.ref a), .val (.int zn), .val (.int zl), .val (.int zh), .val (.int zw), s5, s6, s7, s8, s9, s10] [(.int (1 : Int32)), (.int (zl + zh)), (.ref a)])
      refine wp (fun _ => XS.iushr X0.here hx rfl (hb hby dnth_22) rfl) ?_
      show WP p e below _ T0 (mkF m 23 #[.val (.ref a), .val (.int zn), .val (.int zl), .val (.int zh), .val (.int zw), s5, s6, s7, s8, s9, s10] [(.int (((zl + zh).toUInt32 >>> ((1 : Int32) &&& 31).toUInt32).toInt32)), (.ref a)])
      have hm := own_mid hzl hzh (by omega) (by omega)
      generalize (((zl + zh).toUInt32 >>> ((1 : Int32) &&& 31).toUInt32).toInt32) = zm at hm ⊢
      show WP p e below _ T0 (mkF m 23 #[.val (.ref a), .val (.int zn), .val (.int zl), .val (.int zh), .val (.int zw), s5, s6, s7, s8, s9, s10] [(.int zm), (.ref a)])
      refine wp_daload C X0 e0 A hm (by omega) rfl dnth_23 ?_
      show WP p e below _ T0 (mkF m 24 #[.val (.ref a), .val (.int zn), .val (.int zl), .val (.int zh), .val (.int zw), s5, s6, s7, s8, s9, s10] [(.double (FP.i2d (x ((low + high) / 2))))])
      refine wp (fun _ => XS.dstore X0.here hx rfl (hb hby dnth_24) rfl (l' := #[.val (.ref a), .val (.int zn), .val (.int zl), .val (.int zh), .val (.int zw), .val (.double (FP.i2d (x ((low + high) / 2)))), .second, s7, s8, s9, s10]) (own_st5 t5)) ?_
      show WP p e below _ T0 (mkF m 26 #[.val (.ref a), .val (.int zn), .val (.int zl), .val (.int zh), .val (.int zw), .val (.double (FP.i2d (x ((low + high) / 2)))), .second, s7, s8, s9, s10] [])
      refine wp (fun _ => XS.iloadN X0.here hx rfl (hb hby dnth_26) rfl) ?_
      show WP p e below _ T0 (mkF m 27 #[.val (.ref a), .val (.int zn), .val (.int zl), .val (.int zh), .val (.int zw), .val (.double (FP.i2d (x ((low + high) / 2)))), .second, s7, s8, s9, s10] [(.int zl)])
      refine wp (fun _ => XS.istore X0.here hx rfl (hb hby dnth_27) rfl (l' := #[.val (.ref a), .val (.int zn), .val (.int zl), .val (.int zh), .val (.int zw), .val (.double (FP.i2d (x ((low + high) / 2)))), .second, .val (.int zl), s8, s9, s10]) (own_st7 o7)) ?_
      show WP p e below _ T0 (mkF m 29 #[.val (.ref a), .val (.int zn), .val (.int zl), .val (.int zh), .val (.int zw), .val (.double (FP.i2d (x ((low + high) / 2)))), .second, .val (.int zl), s8, s9, s10] [])
      refine wp (fun _ => XS.iloadN X0.here hx rfl (hb hby dnth_29) rfl) ?_
      show WP p e below _ T0 (mkF m 30 #[.val (.ref a), .val (.int zn), .val (.int zl), .val (.int zh), .val (.int zw), .val (.double (FP.i2d (x ((low + high) / 2)))), .second, .val (.int zl), s8, s9, s10] [(.int zh)])
      refine wp (fun _ => XS.istore X0.here hx rfl (hb hby dnth_30) rfl (l' := #[.val (.ref a), .val (.int zn), .val (.int zl), .val (.int zh), .val (.int zw), .val (.double (FP.i2d (x ((low + high) / 2)))), .second, .val (.int zl), .val (.int zh), s9, s10]) (own_st8 o8)) ?_
      show WP p e below _ T0 (mkF m 32 #[.val (.ref a), .val (.int zn), .val (.int zl), .val (.int zh), .val (.int zw), .val (.double (FP.i2d (x ((low + high) / 2)))), .second, .val (.int zl), .val (.int zh), s9, s10] [])
      refine mloop a zn zl zh zw (x ((low + high) / 2)) n low high n0 x0 hn h3 ga C ?_ (high + 1 - low) x low (high + 1) zl zh s9 s10 T0 h locs (by omega) (Pinv.start (mid := (low + high) / 2) (by omega) (by omega) rfl) O ct hzl (by omega) t9 X0 e0 N0 K0 A
      intro x' i' jn' zi' zj' s9' s10' T1 h' L1 hcr I' O' ct' hzi hzj t9' X1 e1 N1 K1 A'
      obtain ⟨p1, p2⟩ := I'.2.2.2.2.2.2.2 hcr
      show WP p e below _ T1 (mkF m 107 #[.val (.ref a), .val (.int zn), .val (.int zl), .val (.int zh), .val (.int zw), .val (.double (FP.i2d (x ((low + high) / 2)))), .second, .val (.int zi'), .val (.int zj'), s9', s10'] [])
      refine wp (fun _ => XS.iload X1.here hx rfl (hb hby dnth_107) rfl) ?_
      show WP p e below _ T1 (mkF m 109 #[.val (.ref a), .val (.int zn), .val (.int zl), .val (.int zh), .val (.int zw), .val (.double (FP.i2d (x ((low + high) / 2)))), .second, .val (.int zi'), .val (.int zj'), s9', s10'] [(.int zw)])
      refine wp (fun _ => XS.iload X1.here hx rfl (hb hby dnth_109) rfl) ?_
      show WP p e below _ T1 (mkF m 111 #[.val (.ref a), .val (.int zn), .val (.int zl), .val (.int zh), .val (.int zw), .val (.double (FP.i2d (x ((low + high) / 2)))), .second, .val (.int zi'), .val (.int zj'), s9', s10'] [(.int zj'), (.int zw)])
      by_cases hd : zj' < zw
      · have hd' := L0.mp hd
        refine wp (fun _ => XS.icmpYes X1.here hx rfl (pc0 := 111) (pc' := 120) rfl (hb hby dnth_111) rfl (XT.ii_gt_t hd) (by decide) (by decide)) ?_
        show WP p e below _ T1 (mkF m 120 #[.val (.ref a), .val (.int zn), .val (.int zl), .val (.int zh), .val (.int zw), .val (.double (FP.i2d (x ((low + high) / 2)))), .second, .val (.int zi'), .val (.int zj'), s9', s10'] [])
        refine wp (fun _ => XS.iload X1.here hx rfl (hb hby dnth_120) rfl) ?_
        show WP p e below _ T1 (mkF m 122 #[.val (.ref a), .val (.int zn), .val (.int zl), .val (.int zh), .val (.int zw), .val (.double (FP.i2d (x ((low + high) / 2)))), .second, .val (.int zi'), .val (.int zj'), s9', s10'] [(.int zw)])
        refine wp (fun _ => XS.iload X1.here hx rfl (hb hby dnth_122) rfl) ?_
        show WP p e below _ T1 (mkF m 124 #[.val (.ref a), .val (.int zn), .val (.int zl), .val (.int zh), .val (.int zw), .val (.double (FP.i2d (x ((low + high) / 2)))), .second, .val (.int zi'), .val (.int zj'), s9', s10'] [(.int zi'), (.int zw)])
        by_cases hf : zw < zi'
        · have hf' := L0.mp hf
          refine wp (fun _ => XS.icmpYes X1.here hx rfl (pc0 := 124) (pc' := 133) rfl (hb hby dnth_124) rfl (XT.ii_lt_t hf) (by decide) (by decide)) ?_
          show WP p e below _ T1 (mkF m 133 #[.val (.ref a), .val (.int zn), .val (.int zl), .val (.int zh), .val (.int zw), .val (.double (FP.i2d (x ((low + high) / 2)))), .second, .val (.int zi'), .val (.int zj'), s9', s10'] [])
          refine wp (fun _ => XS.aloadN X1.here hx rfl (hb hby dnth_133) rfl rfl) ?_
          show WP p e below _ T1 (mkF m 134 #[.val (.ref a), .val (.int zn), .val (.int zl), .val (.int zh), .val (.int zw), .val (.double (FP.i2d (x ((low + high) / 2)))), .second, .val (.int zi'), .val (.int zj'), s9', s10'] [(.ref a)])
          refine wp (fun _ => XS.iload X1.here hx rfl (hb hby dnth_134) rfl) ?_
          show WP p e below _ T1 (mkF m 136 #[.val (.ref a), .val (.int zn), .val (.int zl), .val (.int zh), .val (.int zw), .val (.double (FP.i2d (x ((low + high) / 2)))), .second, .val (.int zi'), .val (.int zj'), s9', s10'] [(.int zw), (.ref a)])
          refine wp_daload C X1 e1 A' hzw (by omega) rfl dnth_136 ?_
          show WP p e below _ T1 (mkF m 137 #[.val (.ref a), .val (.int zn), .val (.int zl), .val (.int zh), .val (.int zw), .val (.double (FP.i2d (x ((low + high) / 2)))), .second, .val (.int zi'), .val (.int zj'), s9', s10'] [(.double (FP.i2d (x' w)))])
          have S : Sel x' n w := Sel.mid O' I' h3 (by omega) (by omega) h1 h2
          exact wp_dreturn C X1 dnth_137 ⟨x' w, rfl, N1, by rw [e1]; exact K1, by rw [← ct']; exact S.above, by rw [← ct']; exact S.atleast⟩ (by decide) (by decide)
        · have hf' := (not_congr L0).mp hf
          refine wp (fun _ => XS.icmpNo X1.here hx rfl (hb hby dnth_124) rfl (XT.ii_lt_f hf)) ?_
          show WP p e below _ T1 (mkF m 127 #[.val (.ref a), .val (.int zn), .val (.int zl), .val (.int zh), .val (.int zw), .val (.double (FP.i2d (x ((low + high) / 2)))), .second, .val (.int zi'), .val (.int zj'), s9', s10'] [])
          refine wp (fun _ => XS.iload X1.here hx rfl (hb hby dnth_127) rfl) ?_
          show WP p e below _ T1 (mkF m 129 #[.val (.ref a), .val (.int zn), .val (.int zl), .val (.int zh), .val (.int zw), .val (.double (FP.i2d (x ((low + high) / 2)))), .second, .val (.int zi'), .val (.int zj'), s9', s10'] [(.int zi')])
          refine wp (fun _ => XS.istoreN X1.here hx rfl (hb hby dnth_129) rfl (l' := #[.val (.ref a), .val (.int zn), .val (.int zi'), .val (.int zh), .val (.int zw), .val (.double (FP.i2d (x ((low + high) / 2)))), .second, .val (.int zi'), .val (.int zj'), s9', s10']) rfl) ?_
          show WP p e below _ T1 (mkF m 130 #[.val (.ref a), .val (.int zn), .val (.int zi'), .val (.int zh), .val (.int zw), .val (.double (FP.i2d (x ((low + high) / 2)))), .second, .val (.int zi'), .val (.int zj'), s9', s10'] [])
          refine wp (fun _ => XS.goto X1.here hx rfl (pc0 := 130) (pc' := 138) rfl (hb hby dnth_130) (by decide) (by decide)) ?_
          show WP p e below _ T1 (mkF m 138 #[.val (.ref a), .val (.int zn), .val (.int zi'), .val (.int zh), .val (.int zw), .val (.double (FP.i2d (x ((low + high) / 2)))), .second, .val (.int zi'), .val (.int zj'), s9', s10'] [])
          refine wp (fun _ => XS.goto X1.here hx rfl (pc0 := 138) (pc' := 12) rfl (hb hby dnth_138) (by decide) (by decide)) ?_
          show WP p e below _ T1 (mkF m 12 #[.val (.ref a), .val (.int zn), .val (.int zi'), .val (.int zh), .val (.int zw), .val (.double (FP.i2d (x ((low + high) / 2)))), .second, .val (.int zi'), .val (.int zj'), s9', s10'] [])
          exact ih x' i' high zi' zh _ _ _ _ s9' s10' T1 h' L1 (by omega) (by omega) h2 h3 (O'.right I' hcr) ct' hzi hzh (Or.inr ⟨_, rfl, rfl⟩) (One.val rfl) (One.val rfl) t9' X1 e1 N1 K1 A'
      · have hd' := (not_congr L0).mp hd
        refine wp (fun _ => XS.icmpNo X1.here hx rfl (hb hby dnth_111) rfl (XT.ii_gt_f hd)) ?_
        show WP p e below _ T1 (mkF m 114 #[.val (.ref a), .val (.int zn), .val (.int zl), .val (.int zh), .val (.int zw), .val (.double (FP.i2d (x ((low + high) / 2)))), .second, .val (.int zi'), .val (.int zj'), s9', s10'] [])
        refine wp (fun _ => XS.iload X1.here hx rfl (hb hby dnth_114) rfl) ?_
        show WP p e below _ T1 (mkF m 116 #[.val (.ref a), .val (.int zn), .val (.int zl), .val (.int zh), .val (.int zw), .val (.double (FP.i2d (x ((low + high) / 2)))), .second, .val (.int zi'), .val (.int zj'), s9', s10'] [(.int zj')])
        refine wp (fun _ => XS.istoreN X1.here hx rfl (hb hby dnth_116) rfl (l' := #[.val (.ref a), .val (.int zn), .val (.int zl), .val (.int zj'), .val (.int zw), .val (.double (FP.i2d (x ((low + high) / 2)))), .second, .val (.int zi'), .val (.int zj'), s9', s10']) rfl) ?_
        show WP p e below _ T1 (mkF m 117 #[.val (.ref a), .val (.int zn), .val (.int zl), .val (.int zj'), .val (.int zw), .val (.double (FP.i2d (x ((low + high) / 2)))), .second, .val (.int zi'), .val (.int zj'), s9', s10'] [])
        refine wp (fun _ => XS.goto X1.here hx rfl (pc0 := 117) (pc' := 138) rfl (hb hby dnth_117) (by decide) (by decide)) ?_
        show WP p e below _ T1 (mkF m 138 #[.val (.ref a), .val (.int zn), .val (.int zl), .val (.int zj'), .val (.int zw), .val (.double (FP.i2d (x ((low + high) / 2)))), .second, .val (.int zi'), .val (.int zj'), s9', s10'] [])
        refine wp (fun _ => XS.goto X1.here hx rfl (pc0 := 138) (pc' := 12) rfl (hb hby dnth_138) (by decide) (by decide)) ?_
        show WP p e below _ T1 (mkF m 12 #[.val (.ref a), .val (.int zn), .val (.int zl), .val (.int zj'), .val (.int zw), .val (.double (FP.i2d (x ((low + high) / 2)))), .second, .val (.int zi'), .val (.int zj'), s9', s10'] [])
        exact ih x' low (jn' - 1) zl zj' _ _ _ _ s9' s10' T1 h' L1 (by omega) h1 (by omega) (by omega) (O'.left I' hcr (by omega)) ct' hzl (by omega) (Or.inr ⟨_, rfl, rfl⟩) (One.val rfl) (One.val rfl) t9' X1 e1 N1 K1 A'
end Own
set_option maxRecDepth 65536 in
set_option maxHeartbeats 4000000 in
theorem rm_nth (l : Launch) (Z : State) (a0 : Array Value) (hw : ∀ d ∈ tables_1, d.before a0 Z = true) (ws : List Jvm.Cond) (a : Addr) (zn : Int32) (n w n0 : Nat) (x0 : Nat → Int32) (h0 : Heap) (hn1 : 1 ≤ n) (hn : n ≤ 5) (hw1 : w < n) (hz : zn.toInt = ((w + 1 : Nat) : Int)) (ga : n0 ≤ a) (A : Af Z h0 a .double n (fun k => .double (FP.i2d (x0 k)))) :
    MetQ l Z (⟨"com/example/placewright/placewright/plan/Simplex", "nthLargest", "([DI)D"⟩ : MethodName) prog_257_method_8_code 11 (some .double) ws ({ frames := 0, cells := 0, slots := 0, locals := 0 } : Room) #[(.ref a), (.int zn)] h0 (QN a x0 n w h0 n0) := by
  refine metQ (a0 := a0) (plainFor_of_name pn_nth) hw (ef_nth a zn) ?_
  intro p e s m below meth c T0 C X0 e0
  obtain ⟨hx, hZ, hw, hby, hml, hown, hnm, hret, hlk⟩ := id C
  show WP p e below _ T0 (mkF m 0 #[.val (.ref a), .val (.int zn), .unset, .unset, .unset, .unset, .unset, .unset, .unset, .unset, .unset] [])
  refine wp (fun _ => XS.iconst X0.here hx rfl (hb hby dnth_0)) ?_
  show WP p e below _ T0 (mkF m 1 #[.val (.ref a), .val (.int zn), .unset, .unset, .unset, .unset, .unset, .unset, .unset, .unset, .unset] [(.int (0 : Int32))])
  refine wp (fun _ => XS.istoreN X0.here hx rfl (hb hby dnth_1) rfl (l' := #[.val (.ref a), .val (.int zn), .val (.int (0 : Int32)), .unset, .unset, .unset, .unset, .unset, .unset, .unset, .unset]) rfl) ?_
  show WP p e below _ T0 (mkF m 2 #[.val (.ref a), .val (.int zn), .val (.int (0 : Int32)), .unset, .unset, .unset, .unset, .unset, .unset, .unset, .unset] [])
  refine wp (fun _ => XS.aloadN X0.here hx rfl (hb hby dnth_2) rfl rfl) ?_
  show WP p e below _ T0 (mkF m 3 #[.val (.ref a), .val (.int zn), .val (.int (0 : Int32)), .unset, .unset, .unset, .unset, .unset, .unset, .unset, .unset] [(.ref a)])
  refine wp_arraylength C X0 e0 A dnth_3 ?_
  show WP p e below _ T0 (mkF m 4 #[.val (.ref a), .val (.int zn), .val (.int (0 : Int32)), .unset, .unset, .unset, .unset, .unset, .unset, .unset, .unset] [(.int (Int32.ofNat n))])
  have hzN : (Int32.ofNat n).toInt = ((n - 1 + 1 : Nat) : Int) := by rw [Int32.toInt_ofNat_of_lt (by omega)]; omega
  refine wp (fun _ => XS.iconst X0.here hx rfl (hb hby dnth_4)) ?_
  show WP p e below _ T0 (mkF m 5 #[.val (.ref a), .val (.int zn), .val (.int (0 : Int32)), .unset, .unset, .unset, .unset, .unset, .unset, .unset, .unset] [(.int (1 : Int32)), (.int (Int32.ofNat n))])
  refine wp (fun _ => XS.isub X0.here hx rfl (hb hby dnth_5) rfl) ?_
  show WP p e below _ T0 (mkF m 6 #[.val (.ref a), .val (.int zn), .val (.int (0 : Int32)), .unset, .unset, .unset, .unset, .unset, .unset, .unset, .unset] [(.int ((Int32.ofNat n) - (1 : Int32)))])
  refine wp (fun _ => XS.istoreN X0.here hx rfl (hb hby dnth_6) rfl (l' := #[.val (.ref a), .val (.int zn), .val (.int (0 : Int32)), .val (.int ((Int32.ofNat n) - (1 : Int32))), .unset, .unset, .unset, .unset, .unset, .unset, .unset]) rfl) ?_
  show WP p e below _ T0 (mkF m 7 #[.val (.ref a), .val (.int zn), .val (.int (0 : Int32)), .val (.int ((Int32.ofNat n) - (1 : Int32))), .unset, .unset, .unset, .unset, .unset, .unset, .unset] [])
  refine wp (fun _ => XS.iloadN X0.here hx rfl (hb hby dnth_7) rfl) ?_
  show WP p e below _ T0 (mkF m 8 #[.val (.ref a), .val (.int zn), .val (.int (0 : Int32)), .val (.int ((Int32.ofNat n) - (1 : Int32))), .unset, .unset, .unset, .unset, .unset, .unset, .unset] [(.int zn)])
  refine wp (fun _ => XS.iconst X0.here hx rfl (hb hby dnth_8)) ?_
  show WP p e below _ T0 (mkF m 9 #[.val (.ref a), .val (.int zn), .val (.int (0 : Int32)), .val (.int ((Int32.ofNat n) - (1 : Int32))), .unset, .unset, .unset, .unset, .unset, .unset, .unset] [(.int (1 : Int32)), (.int zn)])
  refine wp (fun _ => XS.isub X0.here hx rfl (hb hby dnth_9) rfl) ?_
  show WP p e below _ T0 (mkF m 10 #[.val (.ref a), .val (.int zn), .val (.int (0 : Int32)), .val (.int ((Int32.ofNat n) - (1 : Int32))), .unset, .unset, .unset, .unset, .unset, .unset, .unset] [(.int (zn - (1 : Int32)))])
  refine wp (fun _ => XS.istore X0.here hx rfl (hb hby dnth_10) rfl (l' := #[.val (.ref a), .val (.int zn), .val (.int (0 : Int32)), .val (.int ((Int32.ofNat n) - (1 : Int32))), .val (.int (zn - (1 : Int32))), .unset, .unset, .unset, .unset, .unset, .unset]) rfl) ?_
  show WP p e below _ T0 (mkF m 12 #[.val (.ref a), .val (.int zn), .val (.int (0 : Int32)), .val (.int ((Int32.ofNat n) - (1 : Int32))), .val (.int (zn - (1 : Int32))), .unset, .unset, .unset, .unset, .unset, .unset] [])
  refine oloop a zn _ n w n0 x0 hn ga (own_sub1 hz (by omega)) C n x0 0 (n - 1) _ _ _ _ _ _ _ _ T0 h0 [] (by omega) (by omega) (by omega) (by omega) ⟨fun a b q => by omega, fun a b q1 q2 q3 => by omega⟩ (fun _ => rfl) rfl (own_sub1 hzN (by omega)) (Or.inl ⟨rfl, rfl⟩) One.u One.u (Or.inl ⟨rfl, rfl⟩) X0 e0 (Fr.nil n0) (Keep.refl h0 [a]) A
section Own2
variable {p : Program} {l : Launch} {e : Env} {R : Room} {s : State} {m : MethodId} {args : Array Value} {below : List Frame} {meth : Method} {c : Code} {T0 : State} {locs : List Loc} {cells slots : Nat} {Z : State} {a0 : Array Value} {h0 : Heap} {Q : State → Prop}

set_option maxRecDepth 65536 in
set_option maxHeartbeats 4000000 in
theorem segS1 (p0 p1 p2 p3 p4 p5 zN zn : Int32) (a : Addr) (N n0 : Nat) (hzN : zN.toInt = (N : Int)) (hN1 : 1 ≤ N) (hN : N ≤ 5) (ga : n0 ≤ a) (A0 : Af Z h0 a .double N (fun j => if j < 1 then .double (FP.i2d ((own_xs p0 p1 p2 p3 p4) j)) else defaultValue .double)) (N0 : Fr n0 locs) (C : Cx p s m meth c Z a0 code 23 "com/example/placewright/placewright/plan/SimplexNthLargestPinLaw" "law" (some .boolean)) (X0 : Stand p l e R s m args below meth c T0 locs cells slots) (e0 : T0.heap = h0)
    (k : ∀ T' h' locs', Stand p l e R s m args below meth c T' locs' cells slots → T'.heap = h' → Fr n0 locs' → Af Z h' a .double N (fun j => if j < 2 then .double (FP.i2d ((own_xs p0 p1 p2 p3 p4) j)) else defaultValue .double) → WP p e below Q T' (mkF m 67 #[.val (.int p0), .val (.int p1), .val (.int p2), .val (.int p3), .val (.int p4), .val (.int p5), .val (.int zN), .val (.int zn), .val (.double (FP.i2d p0)), .second, .val (.double (FP.i2d p1)), .second, .val (.double (FP.i2d p2)), .second, .val (.double (FP.i2d p3)), .second, .val (.double (FP.i2d p4)), .second, .val (.ref a), .unset, .unset, .unset, .unset] [])) : WP p e below Q T0 (mkF m 55 #[.val (.int p0), .val (.int p1), .val (.int p2), .val (.int p3), .val (.int p4), .val (.int p5), .val (.int zN), .val (.int zn), .val (.double (FP.i2d p0)), .second, .val (.double (FP.i2d p1)), .second, .val (.double (FP.i2d p2)), .second, .val (.double (FP.i2d p3)), .second, .val (.double (FP.i2d p4)), .second, .val (.ref a), .unset, .unset, .unset, .unset] []) := by
  obtain ⟨hx, hZ, hw, hby, hml, hown, hnm, hret, hlk⟩ := id C
  have L0 := @Int32.lt_iff_toInt_lt
  have ht : (1 : Int32).toInt = 1 := rfl
  show WP p e below _ T0 (mkF m 55 #[.val (.int p0), .val (.int p1), .val (.int p2), .val (.int p3), .val (.int p4), .val (.int p5), .val (.int zN), .val (.int zn), .val (.double (FP.i2d p0)), .second, .val (.double (FP.i2d p1)), .second, .val (.double (FP.i2d p2)), .second, .val (.double (FP.i2d p3)), .second, .val (.double (FP.i2d p4)), .second, .val (.ref a), .unset, .unset, .unset, .unset] [])
  refine wp (fun _ => XS.iload X0.here hx rfl (hb hby at_55) rfl) ?_
  show WP p e below _ T0 (mkF m 57 #[.val (.int p0), .val (.int p1), .val (.int p2), .val (.int p3), .val (.int p4), .val (.int p5), .val (.int zN), .val (.int zn), .val (.double (FP.i2d p0)), .second, .val (.double (FP.i2d p1)), .second, .val (.double (FP.i2d p2)), .second, .val (.double (FP.i2d p3)), .second, .val (.double (FP.i2d p4)), .second, .val (.ref a), .unset, .unset, .unset, .unset] [(.int zN)])
  refine wp (fun _ => XS.iconst X0.here hx rfl (hb hby at_57)) ?_
  show WP p e below _ T0 (mkF m 58 #[.val (.int p0), .val (.int p1), .val (.int p2), .val (.int p3), .val (.int p4), .val (.int p5), .val (.int zN), .val (.int zn), .val (.double (FP.i2d p0)), .second, .val (.double (FP.i2d p1)), .second, .val (.double (FP.i2d p2)), .second, .val (.double (FP.i2d p3)), .second, .val (.double (FP.i2d p4)), .second, .val (.ref a), .unset, .unset, .unset, .unset] [(.int (1 : Int32)), (.int zN)])
  by_cases hc : (1 : Int32) < zN
  · rw [L0] at hc
    refine wp (fun _ => XS.icmpNo X0.here hx rfl (hb hby at_58) rfl (XT.ii_le_f (L0.mpr hc))) ?_
    show WP p e below _ T0 (mkF m 61 #[.val (.int p0), .val (.int p1), .val (.int p2), .val (.int p3), .val (.int p4), .val (.int p5), .val (.int zN), .val (.int zn), .val (.double (FP.i2d p0)), .second, .val (.double (FP.i2d p1)), .second, .val (.double (FP.i2d p2)), .second, .val (.double (FP.i2d p3)), .second, .val (.double (FP.i2d p4)), .second, .val (.ref a), .unset, .unset, .unset, .unset] [])
    refine wp (fun _ => XS.aload X0.here hx rfl (hb hby at_61) rfl rfl) ?_
    show WP p e below _ T0 (mkF m 63 #[.val (.int p0), .val (.int p1), .val (.int p2), .val (.int p3), .val (.int p4), .val (.int p5), .val (.int zN), .val (.int zn), .val (.double (FP.i2d p0)), .second, .val (.double (FP.i2d p1)), .second, .val (.double (FP.i2d p2)), .second, .val (.double (FP.i2d p3)), .second, .val (.double (FP.i2d p4)), .second, .val (.ref a), .unset, .unset, .unset, .unset] [(.ref a)])
    refine wp (fun _ => XS.iconst X0.here hx rfl (hb hby at_63)) ?_
    show WP p e below _ T0 (mkF m 64 #[.val (.int p0), .val (.int p1), .val (.int p2), .val (.int p3), .val (.int p4), .val (.int p5), .val (.int zN), .val (.int zn), .val (.double (FP.i2d p0)), .second, .val (.double (FP.i2d p1)), .second, .val (.double (FP.i2d p2)), .second, .val (.double (FP.i2d p3)), .second, .val (.double (FP.i2d p4)), .second, .val (.ref a), .unset, .unset, .unset, .unset] [(.int (1 : Int32)), (.ref a)])
    refine wp (fun _ => XS.dload X0.here hx rfl (hb hby at_64) rfl) ?_
    show WP p e below _ T0 (mkF m 66 #[.val (.int p0), .val (.int p1), .val (.int p2), .val (.int p3), .val (.int p4), .val (.int p5), .val (.int zN), .val (.int zn), .val (.double (FP.i2d p0)), .second, .val (.double (FP.i2d p1)), .second, .val (.double (FP.i2d p2)), .second, .val (.double (FP.i2d p3)), .second, .val (.double (FP.i2d p4)), .second, .val (.ref a), .unset, .unset, .unset, .unset] [(.double (FP.i2d p1)), (.int (1 : Int32)), (.ref a)])
    refine wp_dastore C X0 e0 A0 (j := 1) rfl (by omega) at_66 ?_
    intro T1 h1 X1 e1 W1 A1
    have N1 := Frs (a := a) (sl := (1 : Int32).toNatClampNeg) N0 ga
    show WP p e below _ T1 (mkF m 67 #[.val (.int p0), .val (.int p1), .val (.int p2), .val (.int p3), .val (.int p4), .val (.int p5), .val (.int zN), .val (.int zn), .val (.double (FP.i2d p0)), .second, .val (.double (FP.i2d p1)), .second, .val (.double (FP.i2d p2)), .second, .val (.double (FP.i2d p3)), .second, .val (.double (FP.i2d p4)), .second, .val (.ref a), .unset, .unset, .unset, .unset] [])
    refine k T1 h1 _ X1 e1 N1 (A1.conv fun j hj => ?_)
    by_cases q1 : j = 1
    · subst q1; rfl
    · rw [if_neg q1]
      by_cases q0 : j < 1
      · rw [if_pos q0, if_pos (by omega)]
      · rw [if_neg q0, if_neg (by omega)]
  · rw [L0] at hc
    refine wp (fun _ => XS.icmpYes X0.here hx rfl (pc0 := 58) (pc' := 67) rfl (hb hby at_58) rfl (XT.ii_le_t (fun q => hc (L0.mp q))) (by decide) (by decide)) ?_
    show WP p e below _ T0 (mkF m 67 #[.val (.int p0), .val (.int p1), .val (.int p2), .val (.int p3), .val (.int p4), .val (.int p5), .val (.int zN), .val (.int zn), .val (.double (FP.i2d p0)), .second, .val (.double (FP.i2d p1)), .second, .val (.double (FP.i2d p2)), .second, .val (.double (FP.i2d p3)), .second, .val (.double (FP.i2d p4)), .second, .val (.ref a), .unset, .unset, .unset, .unset] [])
    refine k T0 h0 _ X0 e0 N0 (A0.conv fun j hj => ?_)
    rw [if_pos (by omega), if_pos (by omega)]
set_option maxRecDepth 65536 in
set_option maxHeartbeats 4000000 in
theorem segS2 (p0 p1 p2 p3 p4 p5 zN zn : Int32) (a : Addr) (N n0 : Nat) (hzN : zN.toInt = (N : Int)) (hN1 : 1 ≤ N) (hN : N ≤ 5) (ga : n0 ≤ a) (A0 : Af Z h0 a .double N (fun j => if j < 2 then .double (FP.i2d ((own_xs p0 p1 p2 p3 p4) j)) else defaultValue .double)) (N0 : Fr n0 locs) (C : Cx p s m meth c Z a0 code 23 "com/example/placewright/placewright/plan/SimplexNthLargestPinLaw" "law" (some .boolean)) (X0 : Stand p l e R s m args below meth c T0 locs cells slots) (e0 : T0.heap = h0)
    (k : ∀ T' h' locs', Stand p l e R s m args below meth c T' locs' cells slots → T'.heap = h' → Fr n0 locs' → Af Z h' a .double N (fun j => if j < 3 then .double (FP.i2d ((own_xs p0 p1 p2 p3 p4) j)) else defaultValue .double) → WP p e below Q T' (mkF m 79 #[.val (.int p0), .val (.int p1), .val (.int p2), .val (.int p3), .val (.int p4), .val (.int p5), .val (.int zN), .val (.int zn), .val (.double (FP.i2d p0)), .second, .val (.double (FP.i2d p1)), .second, .val (.double (FP.i2d p2)), .second, .val (.double (FP.i2d p3)), .second, .val (.double (FP.i2d p4)), .second, .val (.ref a), .unset, .unset, .unset, .unset] [])) : WP p e below Q T0 (mkF m 67 #[.val (.int p0), .val (.int p1), .val (.int p2), .val (.int p3), .val (.int p4), .val (.int p5), .val (.int zN), .val (.int zn), .val (.double (FP.i2d p0)), .second, .val (.double (FP.i2d p1)), .second, .val (.double (FP.i2d p2)), .second, .val (.double (FP.i2d p3)), .second, .val (.double (FP.i2d p4)), .second, .val (.ref a), .unset, .unset, .unset, .unset] []) := by
  obtain ⟨hx, hZ, hw, hby, hml, hown, hnm, hret, hlk⟩ := id C
  have L0 := @Int32.lt_iff_toInt_lt
  have ht : (2 : Int32).toInt = 2 := rfl
  show WP p e below _ T0 (mkF m 67 #[.val (.int p0), .val (.int p1), .val (.int p2), .val (.int p3), .val (.int p4), .val (.int p5), .val (.int zN), .val (.int zn), .val (.double (FP.i2d p0)), .second, .val (.double (FP.i2d p1)), .second, .val (.double (FP.i2d p2)), .second, .val (.double (FP.i2d p3)), .second, .val (.double (FP.i2d p4)), .second, .val (.ref a), .unset, .unset, .unset, .unset] [])
  refine wp (fun _ => XS.iload X0.here hx rfl (hb hby at_67) rfl) ?_
  show WP p e below _ T0 (mkF m 69 #[.val (.int p0), .val (.int p1), .val (.int p2), .val (.int p3), .val (.int p4), .val (.int p5), .val (.int zN), .val (.int zn), .val (.double (FP.i2d p0)), .second, .val (.double (FP.i2d p1)), .second, .val (.double (FP.i2d p2)), .second, .val (.double (FP.i2d p3)), .second, .val (.double (FP.i2d p4)), .second, .val (.ref a), .unset, .unset, .unset, .unset] [(.int zN)])
  refine wp (fun _ => XS.iconst X0.here hx rfl (hb hby at_69)) ?_
  show WP p e below _ T0 (mkF m 70 #[.val (.int p0), .val (.int p1), .val (.int p2), .val (.int p3), .val (.int p4), .val (.int p5), .val (.int zN), .val (.int zn), .val (.double (FP.i2d p0)), .second, .val (.double (FP.i2d p1)), .second, .val (.double (FP.i2d p2)), .second, .val (.double (FP.i2d p3)), .second, .val (.double (FP.i2d p4)), .second, .val (.ref a), .unset, .unset, .unset, .unset] [(.int (2 : Int32)), (.int zN)])
  by_cases hc : (2 : Int32) < zN
  · rw [L0] at hc
    refine wp (fun _ => XS.icmpNo X0.here hx rfl (hb hby at_70) rfl (XT.ii_le_f (L0.mpr hc))) ?_
    show WP p e below _ T0 (mkF m 73 #[.val (.int p0), .val (.int p1), .val (.int p2), .val (.int p3), .val (.int p4), .val (.int p5), .val (.int zN), .val (.int zn), .val (.double (FP.i2d p0)), .second, .val (.double (FP.i2d p1)), .second, .val (.double (FP.i2d p2)), .second, .val (.double (FP.i2d p3)), .second, .val (.double (FP.i2d p4)), .second, .val (.ref a), .unset, .unset, .unset, .unset] [])
    refine wp (fun _ => XS.aload X0.here hx rfl (hb hby at_73) rfl rfl) ?_
    show WP p e below _ T0 (mkF m 75 #[.val (.int p0), .val (.int p1), .val (.int p2), .val (.int p3), .val (.int p4), .val (.int p5), .val (.int zN), .val (.int zn), .val (.double (FP.i2d p0)), .second, .val (.double (FP.i2d p1)), .second, .val (.double (FP.i2d p2)), .second, .val (.double (FP.i2d p3)), .second, .val (.double (FP.i2d p4)), .second, .val (.ref a), .unset, .unset, .unset, .unset] [(.ref a)])
    refine wp (fun _ => XS.iconst X0.here hx rfl (hb hby at_75)) ?_
    show WP p e below _ T0 (mkF m 76 #[.val (.int p0), .val (.int p1), .val (.int p2), .val (.int p3), .val (.int p4), .val (.int p5), .val (.int zN), .val (.int zn), .val (.double (FP.i2d p0)), .second, .val (.double (FP.i2d p1)), .second, .val (.double (FP.i2d p2)), .second, .val (.double (FP.i2d p3)), .second, .val (.double (FP.i2d p4)), .second, .val (.ref a), .unset, .unset, .unset, .unset] [(.int (2 : Int32)), (.ref a)])
    refine wp (fun _ => XS.dload X0.here hx rfl (hb hby at_76) rfl) ?_
    show WP p e below _ T0 (mkF m 78 #[.val (.int p0), .val (.int p1), .val (.int p2), .val (.int p3), .val (.int p4), .val (.int p5), .val (.int zN), .val (.int zn), .val (.double (FP.i2d p0)), .second, .val (.double (FP.i2d p1)), .second, .val (.double (FP.i2d p2)), .second, .val (.double (FP.i2d p3)), .second, .val (.double (FP.i2d p4)), .second, .val (.ref a), .unset, .unset, .unset, .unset] [(.double (FP.i2d p2)), (.int (2 : Int32)), (.ref a)])
    refine wp_dastore C X0 e0 A0 (j := 2) rfl (by omega) at_78 ?_
    intro T1 h1 X1 e1 W1 A1
    have N1 := Frs (a := a) (sl := (2 : Int32).toNatClampNeg) N0 ga
    show WP p e below _ T1 (mkF m 79 #[.val (.int p0), .val (.int p1), .val (.int p2), .val (.int p3), .val (.int p4), .val (.int p5), .val (.int zN), .val (.int zn), .val (.double (FP.i2d p0)), .second, .val (.double (FP.i2d p1)), .second, .val (.double (FP.i2d p2)), .second, .val (.double (FP.i2d p3)), .second, .val (.double (FP.i2d p4)), .second, .val (.ref a), .unset, .unset, .unset, .unset] [])
    refine k T1 h1 _ X1 e1 N1 (A1.conv fun j hj => ?_)
    by_cases q1 : j = 2
    · subst q1; rfl
    · rw [if_neg q1]
      by_cases q0 : j < 2
      · rw [if_pos q0, if_pos (by omega)]
      · rw [if_neg q0, if_neg (by omega)]
  · rw [L0] at hc
    refine wp (fun _ => XS.icmpYes X0.here hx rfl (pc0 := 70) (pc' := 79) rfl (hb hby at_70) rfl (XT.ii_le_t (fun q => hc (L0.mp q))) (by decide) (by decide)) ?_
    show WP p e below _ T0 (mkF m 79 #[.val (.int p0), .val (.int p1), .val (.int p2), .val (.int p3), .val (.int p4), .val (.int p5), .val (.int zN), .val (.int zn), .val (.double (FP.i2d p0)), .second, .val (.double (FP.i2d p1)), .second, .val (.double (FP.i2d p2)), .second, .val (.double (FP.i2d p3)), .second, .val (.double (FP.i2d p4)), .second, .val (.ref a), .unset, .unset, .unset, .unset] [])
    refine k T0 h0 _ X0 e0 N0 (A0.conv fun j hj => ?_)
    rw [if_pos (by omega), if_pos (by omega)]
set_option maxRecDepth 65536 in
set_option maxHeartbeats 4000000 in
theorem segS3 (p0 p1 p2 p3 p4 p5 zN zn : Int32) (a : Addr) (N n0 : Nat) (hzN : zN.toInt = (N : Int)) (hN1 : 1 ≤ N) (hN : N ≤ 5) (ga : n0 ≤ a) (A0 : Af Z h0 a .double N (fun j => if j < 3 then .double (FP.i2d ((own_xs p0 p1 p2 p3 p4) j)) else defaultValue .double)) (N0 : Fr n0 locs) (C : Cx p s m meth c Z a0 code 23 "com/example/placewright/placewright/plan/SimplexNthLargestPinLaw" "law" (some .boolean)) (X0 : Stand p l e R s m args below meth c T0 locs cells slots) (e0 : T0.heap = h0)
    (k : ∀ T' h' locs', Stand p l e R s m args below meth c T' locs' cells slots → T'.heap = h' → Fr n0 locs' → Af Z h' a .double N (fun j => if j < 4 then .double (FP.i2d ((own_xs p0 p1 p2 p3 p4) j)) else defaultValue .double) → WP p e below Q T' (mkF m 91 #[.val (.int p0), .val (.int p1), .val (.int p2), .val (.int p3), .val (.int p4), .val (.int p5), .val (.int zN), .val (.int zn), .val (.double (FP.i2d p0)), .second, .val (.double (FP.i2d p1)), .second, .val (.double (FP.i2d p2)), .second, .val (.double (FP.i2d p3)), .second, .val (.double (FP.i2d p4)), .second, .val (.ref a), .unset, .unset, .unset, .unset] [])) : WP p e below Q T0 (mkF m 79 #[.val (.int p0), .val (.int p1), .val (.int p2), .val (.int p3), .val (.int p4), .val (.int p5), .val (.int zN), .val (.int zn), .val (.double (FP.i2d p0)), .second, .val (.double (FP.i2d p1)), .second, .val (.double (FP.i2d p2)), .second, .val (.double (FP.i2d p3)), .second, .val (.double (FP.i2d p4)), .second, .val (.ref a), .unset, .unset, .unset, .unset] []) := by
  obtain ⟨hx, hZ, hw, hby, hml, hown, hnm, hret, hlk⟩ := id C
  have L0 := @Int32.lt_iff_toInt_lt
  have ht : (3 : Int32).toInt = 3 := rfl
  show WP p e below _ T0 (mkF m 79 #[.val (.int p0), .val (.int p1), .val (.int p2), .val (.int p3), .val (.int p4), .val (.int p5), .val (.int zN), .val (.int zn), .val (.double (FP.i2d p0)), .second, .val (.double (FP.i2d p1)), .second, .val (.double (FP.i2d p2)), .second, .val (.double (FP.i2d p3)), .second, .val (.double (FP.i2d p4)), .second, .val (.ref a), .unset, .unset, .unset, .unset] [])
  refine wp (fun _ => XS.iload X0.here hx rfl (hb hby at_79) rfl) ?_
  show WP p e below _ T0 (mkF m 81 #[.val (.int p0), .val (.int p1), .val (.int p2), .val (.int p3), .val (.int p4), .val (.int p5), .val (.int zN), .val (.int zn), .val (.double (FP.i2d p0)), .second, .val (.double (FP.i2d p1)), .second, .val (.double (FP.i2d p2)), .second, .val (.double (FP.i2d p3)), .second, .val (.double (FP.i2d p4)), .second, .val (.ref a), .unset, .unset, .unset, .unset] [(.int zN)])
  refine wp (fun _ => XS.iconst X0.here hx rfl (hb hby at_81)) ?_
  show WP p e below _ T0 (mkF m 82 #[.val (.int p0), .val (.int p1), .val (.int p2), .val (.int p3), .val (.int p4), .val (.int p5), .val (.int zN), .val (.int zn), .val (.double (FP.i2d p0)), .second, .val (.double (FP.i2d p1)), .second, .val (.double (FP.i2d p2)), .second, .val (.double (FP.i2d p3)), .second, .val (.double (FP.i2d p4)), .second, .val (.ref a), .unset, .unset, .unset, .unset] [(.int (3 : Int32)), (.int zN)])
  by_cases hc : (3 : Int32) < zN
  · rw [L0] at hc
    refine wp (fun _ => XS.icmpNo X0.here hx rfl (hb hby at_82) rfl (XT.ii_le_f (L0.mpr hc))) ?_
    show WP p e below _ T0 (mkF m 85 #[.val (.int p0), .val (.int p1), .val (.int p2), .val (.int p3), .val (.int p4), .val (.int p5), .val (.int zN), .val (.int zn), .val (.double (FP.i2d p0)), .second, .val (.double (FP.i2d p1)), .second, .val (.double (FP.i2d p2)), .second, .val (.double (FP.i2d p3)), .second, .val (.double (FP.i2d p4)), .second, .val (.ref a), .unset, .unset, .unset, .unset] [])
    refine wp (fun _ => XS.aload X0.here hx rfl (hb hby at_85) rfl rfl) ?_
    show WP p e below _ T0 (mkF m 87 #[.val (.int p0), .val (.int p1), .val (.int p2), .val (.int p3), .val (.int p4), .val (.int p5), .val (.int zN), .val (.int zn), .val (.double (FP.i2d p0)), .second, .val (.double (FP.i2d p1)), .second, .val (.double (FP.i2d p2)), .second, .val (.double (FP.i2d p3)), .second, .val (.double (FP.i2d p4)), .second, .val (.ref a), .unset, .unset, .unset, .unset] [(.ref a)])
    refine wp (fun _ => XS.iconst X0.here hx rfl (hb hby at_87)) ?_
    show WP p e below _ T0 (mkF m 88 #[.val (.int p0), .val (.int p1), .val (.int p2), .val (.int p3), .val (.int p4), .val (.int p5), .val (.int zN), .val (.int zn), .val (.double (FP.i2d p0)), .second, .val (.double (FP.i2d p1)), .second, .val (.double (FP.i2d p2)), .second, .val (.double (FP.i2d p3)), .second, .val (.double (FP.i2d p4)), .second, .val (.ref a), .unset, .unset, .unset, .unset] [(.int (3 : Int32)), (.ref a)])
    refine wp (fun _ => XS.dload X0.here hx rfl (hb hby at_88) rfl) ?_
    show WP p e below _ T0 (mkF m 90 #[.val (.int p0), .val (.int p1), .val (.int p2), .val (.int p3), .val (.int p4), .val (.int p5), .val (.int zN), .val (.int zn), .val (.double (FP.i2d p0)), .second, .val (.double (FP.i2d p1)), .second, .val (.double (FP.i2d p2)), .second, .val (.double (FP.i2d p3)), .second, .val (.double (FP.i2d p4)), .second, .val (.ref a), .unset, .unset, .unset, .unset] [(.double (FP.i2d p3)), (.int (3 : Int32)), (.ref a)])
    refine wp_dastore C X0 e0 A0 (j := 3) rfl (by omega) at_90 ?_
    intro T1 h1 X1 e1 W1 A1
    have N1 := Frs (a := a) (sl := (3 : Int32).toNatClampNeg) N0 ga
    show WP p e below _ T1 (mkF m 91 #[.val (.int p0), .val (.int p1), .val (.int p2), .val (.int p3), .val (.int p4), .val (.int p5), .val (.int zN), .val (.int zn), .val (.double (FP.i2d p0)), .second, .val (.double (FP.i2d p1)), .second, .val (.double (FP.i2d p2)), .second, .val (.double (FP.i2d p3)), .second, .val (.double (FP.i2d p4)), .second, .val (.ref a), .unset, .unset, .unset, .unset] [])
    refine k T1 h1 _ X1 e1 N1 (A1.conv fun j hj => ?_)
    by_cases q1 : j = 3
    · subst q1; rfl
    · rw [if_neg q1]
      by_cases q0 : j < 3
      · rw [if_pos q0, if_pos (by omega)]
      · rw [if_neg q0, if_neg (by omega)]
  · rw [L0] at hc
    refine wp (fun _ => XS.icmpYes X0.here hx rfl (pc0 := 82) (pc' := 91) rfl (hb hby at_82) rfl (XT.ii_le_t (fun q => hc (L0.mp q))) (by decide) (by decide)) ?_
    show WP p e below _ T0 (mkF m 91 #[.val (.int p0), .val (.int p1), .val (.int p2), .val (.int p3), .val (.int p4), .val (.int p5), .val (.int zN), .val (.int zn), .val (.double (FP.i2d p0)), .second, .val (.double (FP.i2d p1)), .second, .val (.double (FP.i2d p2)), .second, .val (.double (FP.i2d p3)), .second, .val (.double (FP.i2d p4)), .second, .val (.ref a), .unset, .unset, .unset, .unset] [])
    refine k T0 h0 _ X0 e0 N0 (A0.conv fun j hj => ?_)
    rw [if_pos (by omega), if_pos (by omega)]
set_option maxRecDepth 65536 in
set_option maxHeartbeats 4000000 in
theorem segS4 (p0 p1 p2 p3 p4 p5 zN zn : Int32) (a : Addr) (N n0 : Nat) (hzN : zN.toInt = (N : Int)) (hN1 : 1 ≤ N) (hN : N ≤ 5) (ga : n0 ≤ a) (A0 : Af Z h0 a .double N (fun j => if j < 4 then .double (FP.i2d ((own_xs p0 p1 p2 p3 p4) j)) else defaultValue .double)) (N0 : Fr n0 locs) (C : Cx p s m meth c Z a0 code 23 "com/example/placewright/placewright/plan/SimplexNthLargestPinLaw" "law" (some .boolean)) (X0 : Stand p l e R s m args below meth c T0 locs cells slots) (e0 : T0.heap = h0)
    (k : ∀ T' h' locs', Stand p l e R s m args below meth c T' locs' cells slots → T'.heap = h' → Fr n0 locs' → Af Z h' a .double N (fun j => if j < 5 then .double (FP.i2d ((own_xs p0 p1 p2 p3 p4) j)) else defaultValue .double) → WP p e below Q T' (mkF m 103 #[.val (.int p0), .val (.int p1), .val (.int p2), .val (.int p3), .val (.int p4), .val (.int p5), .val (.int zN), .val (.int zn), .val (.double (FP.i2d p0)), .second, .val (.double (FP.i2d p1)), .second, .val (.double (FP.i2d p2)), .second, .val (.double (FP.i2d p3)), .second, .val (.double (FP.i2d p4)), .second, .val (.ref a), .unset, .unset, .unset, .unset] [])) : WP p e below Q T0 (mkF m 91 #[.val (.int p0), .val (.int p1), .val (.int p2), .val (.int p3), .val (.int p4), .val (.int p5), .val (.int zN), .val (.int zn), .val (.double (FP.i2d p0)), .second, .val (.double (FP.i2d p1)), .second, .val (.double (FP.i2d p2)), .second, .val (.double (FP.i2d p3)), .second, .val (.double (FP.i2d p4)), .second, .val (.ref a), .unset, .unset, .unset, .unset] []) := by
  obtain ⟨hx, hZ, hw, hby, hml, hown, hnm, hret, hlk⟩ := id C
  have L0 := @Int32.lt_iff_toInt_lt
  have ht : (4 : Int32).toInt = 4 := rfl
  show WP p e below _ T0 (mkF m 91 #[.val (.int p0), .val (.int p1), .val (.int p2), .val (.int p3), .val (.int p4), .val (.int p5), .val (.int zN), .val (.int zn), .val (.double (FP.i2d p0)), .second, .val (.double (FP.i2d p1)), .second, .val (.double (FP.i2d p2)), .second, .val (.double (FP.i2d p3)), .second, .val (.double (FP.i2d p4)), .second, .val (.ref a), .unset, .unset, .unset, .unset] [])
  refine wp (fun _ => XS.iload X0.here hx rfl (hb hby at_91) rfl) ?_
  show WP p e below _ T0 (mkF m 93 #[.val (.int p0), .val (.int p1), .val (.int p2), .val (.int p3), .val (.int p4), .val (.int p5), .val (.int zN), .val (.int zn), .val (.double (FP.i2d p0)), .second, .val (.double (FP.i2d p1)), .second, .val (.double (FP.i2d p2)), .second, .val (.double (FP.i2d p3)), .second, .val (.double (FP.i2d p4)), .second, .val (.ref a), .unset, .unset, .unset, .unset] [(.int zN)])
  refine wp (fun _ => XS.iconst X0.here hx rfl (hb hby at_93)) ?_
  show WP p e below _ T0 (mkF m 94 #[.val (.int p0), .val (.int p1), .val (.int p2), .val (.int p3), .val (.int p4), .val (.int p5), .val (.int zN), .val (.int zn), .val (.double (FP.i2d p0)), .second, .val (.double (FP.i2d p1)), .second, .val (.double (FP.i2d p2)), .second, .val (.double (FP.i2d p3)), .second, .val (.double (FP.i2d p4)), .second, .val (.ref a), .unset, .unset, .unset, .unset] [(.int (4 : Int32)), (.int zN)])
  by_cases hc : (4 : Int32) < zN
  · rw [L0] at hc
    refine wp (fun _ => XS.icmpNo X0.here hx rfl (hb hby at_94) rfl (XT.ii_le_f (L0.mpr hc))) ?_
    show WP p e below _ T0 (mkF m 97 #[.val (.int p0), .val (.int p1), .val (.int p2), .val (.int p3), .val (.int p4), .val (.int p5), .val (.int zN), .val (.int zn), .val (.double (FP.i2d p0)), .second, .val (.double (FP.i2d p1)), .second, .val (.double (FP.i2d p2)), .second, .val (.double (FP.i2d p3)), .second, .val (.double (FP.i2d p4)), .second, .val (.ref a), .unset, .unset, .unset, .unset] [])
    refine wp (fun _ => XS.aload X0.here hx rfl (hb hby at_97) rfl rfl) ?_
    show WP p e below _ T0 (mkF m 99 #[.val (.int p0), .val (.int p1), .val (.int p2), .val (.int p3), .val (.int p4), .val (.int p5), .val (.int zN), .val (.int zn), .val (.double (FP.i2d p0)), .second, .val (.double (FP.i2d p1)), .second, .val (.double (FP.i2d p2)), .second, .val (.double (FP.i2d p3)), .second, .val (.double (FP.i2d p4)), .second, .val (.ref a), .unset, .unset, .unset, .unset] [(.ref a)])
    refine wp (fun _ => XS.iconst X0.here hx rfl (hb hby at_99)) ?_
    show WP p e below _ T0 (mkF m 100 #[.val (.int p0), .val (.int p1), .val (.int p2), .val (.int p3), .val (.int p4), .val (.int p5), .val (.int zN), .val (.int zn), .val (.double (FP.i2d p0)), .second, .val (.double (FP.i2d p1)), .second, .val (.double (FP.i2d p2)), .second, .val (.double (FP.i2d p3)), .second, .val (.double (FP.i2d p4)), .second, .val (.ref a), .unset, .unset, .unset, .unset] [(.int (4 : Int32)), (.ref a)])
    refine wp (fun _ => XS.dload X0.here hx rfl (hb hby at_100) rfl) ?_
    show WP p e below _ T0 (mkF m 102 #[.val (.int p0), .val (.int p1), .val (.int p2), .val (.int p3), .val (.int p4), .val (.int p5), .val (.int zN), .val (.int zn), .val (.double (FP.i2d p0)), .second, .val (.double (FP.i2d p1)), .second, .val (.double (FP.i2d p2)), .second, .val (.double (FP.i2d p3)), .second, .val (.double (FP.i2d p4)), .second, .val (.ref a), .unset, .unset, .unset, .unset] [(.double (FP.i2d p4)), (.int (4 : Int32)), (.ref a)])
    refine wp_dastore C X0 e0 A0 (j := 4) rfl (by omega) at_102 ?_
    intro T1 h1 X1 e1 W1 A1
    have N1 := Frs (a := a) (sl := (4 : Int32).toNatClampNeg) N0 ga
    show WP p e below _ T1 (mkF m 103 #[.val (.int p0), .val (.int p1), .val (.int p2), .val (.int p3), .val (.int p4), .val (.int p5), .val (.int zN), .val (.int zn), .val (.double (FP.i2d p0)), .second, .val (.double (FP.i2d p1)), .second, .val (.double (FP.i2d p2)), .second, .val (.double (FP.i2d p3)), .second, .val (.double (FP.i2d p4)), .second, .val (.ref a), .unset, .unset, .unset, .unset] [])
    refine k T1 h1 _ X1 e1 N1 (A1.conv fun j hj => ?_)
    by_cases q1 : j = 4
    · subst q1; rfl
    · rw [if_neg q1]
      by_cases q0 : j < 4
      · rw [if_pos q0, if_pos (by omega)]
      · rw [if_neg q0, if_neg (by omega)]
  · rw [L0] at hc
    refine wp (fun _ => XS.icmpYes X0.here hx rfl (pc0 := 94) (pc' := 103) rfl (hb hby at_94) rfl (XT.ii_le_t (fun q => hc (L0.mp q))) (by decide) (by decide)) ?_
    show WP p e below _ T0 (mkF m 103 #[.val (.int p0), .val (.int p1), .val (.int p2), .val (.int p3), .val (.int p4), .val (.int p5), .val (.int zN), .val (.int zn), .val (.double (FP.i2d p0)), .second, .val (.double (FP.i2d p1)), .second, .val (.double (FP.i2d p2)), .second, .val (.double (FP.i2d p3)), .second, .val (.double (FP.i2d p4)), .second, .val (.ref a), .unset, .unset, .unset, .unset] [])
    refine k T0 h0 _ X0 e0 N0 (A0.conv fun j hj => ?_)
    rw [if_pos (by omega), if_pos (by omega)]
set_option maxRecDepth 65536 in
set_option maxHeartbeats 4000000 in
theorem segG1 (p0 p1 p2 p3 p4 p5 zN zn : Int32) (a : Addr) (N n0 : Nat) (hzN : zN.toInt = (N : Int)) (hN1 : 1 ≤ N) (hN : N ≤ 5) (rv zg : Int32) (C : Cx p s m meth c Z a0 code 23 "com/example/placewright/placewright/plan/SimplexNthLargestPinLaw" "law" (some .boolean)) (X0 : Stand p l e room_1 s m args below meth c T0 locs 1 5) (e0 : T0.heap = h0)
    (k : ∀ T', Stand p l e room_1 s m args below meth c T' locs 1 5 → T'.heap = h0 → WP p e below Q T' (mkF m 137 #[.val (.int p0), .val (.int p1), .val (.int p2), .val (.int p3), .val (.int p4), .val (.int p5), .val (.int zN), .val (.int zn), .val (.double (FP.i2d p0)), .second, .val (.double (FP.i2d p1)), .second, .val (.double (FP.i2d p2)), .second, .val (.double (FP.i2d p3)), .second, .val (.double (FP.i2d p4)), .second, .val (.ref a), .val (.double (FP.i2d rv)), .second, .unset, .unset] [(.int (Int32.ofNat (own_cnt (own_gt rv) (own_xs p0 p1 p2 p3 p4) (min 2 N))))])) : WP p e below Q T0 (mkF m 119 #[.val (.int p0), .val (.int p1), .val (.int p2), .val (.int p3), .val (.int p4), .val (.int p5), .val (.int zN), .val (.int zn), .val (.double (FP.i2d p0)), .second, .val (.double (FP.i2d p1)), .second, .val (.double (FP.i2d p2)), .second, .val (.double (FP.i2d p3)), .second, .val (.double (FP.i2d p4)), .second, .val (.ref a), .val (.double (FP.i2d rv)), .second, .unset, .unset] [(.int (Int32.ofNat (own_cnt (own_gt rv) (own_xs p0 p1 p2 p3 p4) (min 1 N))))]) := by
  obtain ⟨hx, hZ, hw, hby, hml, hown, hnm, hret, hlk⟩ := id C
  have L0 := @Int32.lt_iff_toInt_lt
  have ht : (1 : Int32).toInt = 1 := rfl
  show WP p e below _ T0 (mkF m 119 #[.val (.int p0), .val (.int p1), .val (.int p2), .val (.int p3), .val (.int p4), .val (.int p5), .val (.int zN), .val (.int zn), .val (.double (FP.i2d p0)), .second, .val (.double (FP.i2d p1)), .second, .val (.double (FP.i2d p2)), .second, .val (.double (FP.i2d p3)), .second, .val (.double (FP.i2d p4)), .second, .val (.ref a), .val (.double (FP.i2d rv)), .second, .unset, .unset] [(.int (Int32.ofNat (own_cnt (own_gt rv) (own_xs p0 p1 p2 p3 p4) (min 1 N))))])
  refine wp (fun _ => XS.iload X0.here hx rfl (hb hby at_119) rfl) ?_
  show WP p e below _ T0 (mkF m 121 #[.val (.int p0), .val (.int p1), .val (.int p2), .val (.int p3), .val (.int p4), .val (.int p5), .val (.int zN), .val (.int zn), .val (.double (FP.i2d p0)), .second, .val (.double (FP.i2d p1)), .second, .val (.double (FP.i2d p2)), .second, .val (.double (FP.i2d p3)), .second, .val (.double (FP.i2d p4)), .second, .val (.ref a), .val (.double (FP.i2d rv)), .second, .unset, .unset] [(.int zN), (.int (Int32.ofNat (own_cnt (own_gt rv) (own_xs p0 p1 p2 p3 p4) (min 1 N))))])
  refine wp (fun _ => XS.iconst X0.here hx rfl (hb hby at_121)) ?_
  show WP p e below _ T0 (mkF m 122 #[.val (.int p0), .val (.int p1), .val (.int p2), .val (.int p3), .val (.int p4), .val (.int p5), .val (.int zN), .val (.int zn), .val (.double (FP.i2d p0)), .second, .val (.double (FP.i2d p1)), .second, .val (.double (FP.i2d p2)), .second, .val (.double (FP.i2d p3)), .second, .val (.double (FP.i2d p4)), .second, .val (.ref a), .val (.double (FP.i2d rv)), .second, .unset, .unset] [(.int (1 : Int32)), (.int zN), (.int (Int32.ofNat (own_cnt (own_gt rv) (own_xs p0 p1 p2 p3 p4) (min 1 N))))])
  by_cases hc : (1 : Int32) < zN
  · rw [L0] at hc
    have m1 : min 1 N = 1 := by omega
    have m2 : min 2 N = 2 := by omega
    rw [m2] at k
    rw [m1]
    show WP p e below _ T0 (mkF m 122 #[.val (.int p0), .val (.int p1), .val (.int p2), .val (.int p3), .val (.int p4), .val (.int p5), .val (.int zN), .val (.int zn), .val (.double (FP.i2d p0)), .second, .val (.double (FP.i2d p1)), .second, .val (.double (FP.i2d p2)), .second, .val (.double (FP.i2d p3)), .second, .val (.double (FP.i2d p4)), .second, .val (.ref a), .val (.double (FP.i2d rv)), .second, .unset, .unset] [(.int (1 : Int32)), (.int zN), (.int (Int32.ofNat (own_cnt (own_gt rv) (own_xs p0 p1 p2 p3 p4) 1)))])
    refine wp (fun _ => XS.icmpNo X0.here hx rfl (hb hby at_122) rfl (XT.ii_le_f (L0.mpr hc))) ?_
    show WP p e below _ T0 (mkF m 125 #[.val (.int p0), .val (.int p1), .val (.int p2), .val (.int p3), .val (.int p4), .val (.int p5), .val (.int zN), .val (.int zn), .val (.double (FP.i2d p0)), .second, .val (.double (FP.i2d p1)), .second, .val (.double (FP.i2d p2)), .second, .val (.double (FP.i2d p3)), .second, .val (.double (FP.i2d p4)), .second, .val (.ref a), .val (.double (FP.i2d rv)), .second, .unset, .unset] [(.int (Int32.ofNat (own_cnt (own_gt rv) (own_xs p0 p1 p2 p3 p4) 1)))])
    refine wp (fun _ => XS.dload X0.here hx rfl (hb hby at_125) rfl) ?_
    show WP p e below _ T0 (mkF m 127 #[.val (.int p0), .val (.int p1), .val (.int p2), .val (.int p3), .val (.int p4), .val (.int p5), .val (.int zN), .val (.int zn), .val (.double (FP.i2d p0)), .second, .val (.double (FP.i2d p1)), .second, .val (.double (FP.i2d p2)), .second, .val (.double (FP.i2d p3)), .second, .val (.double (FP.i2d p4)), .second, .val (.ref a), .val (.double (FP.i2d rv)), .second, .unset, .unset] [(.double (FP.i2d p1)), (.int (Int32.ofNat (own_cnt (own_gt rv) (own_xs p0 p1 p2 p3 p4) 1)))])
    refine wp (fun _ => XS.dload X0.here hx rfl (hb hby at_127) rfl) ?_
    show WP p e below _ T0 (mkF m 129 #[.val (.int p0), .val (.int p1), .val (.int p2), .val (.int p3), .val (.int p4), .val (.int p5), .val (.int zN), .val (.int zn), .val (.double (FP.i2d p0)), .second, .val (.double (FP.i2d p1)), .second, .val (.double (FP.i2d p2)), .second, .val (.double (FP.i2d p3)), .second, .val (.double (FP.i2d p4)), .second, .val (.ref a), .val (.double (FP.i2d rv)), .second, .unset, .unset] [(.double (FP.i2d rv)), (.double (FP.i2d p1)), (.int (Int32.ofNat (own_cnt (own_gt rv) (own_xs p0 p1 p2 p3 p4) 1)))])
    refine wp_staticP C X0 e0 (argsL := [(.double (FP.i2d p1)), (.double (FP.i2d rv))]) (rest := [(.int (Int32.ofNat (own_cnt (own_gt rv) (own_xs p0 p1 p2 p3 p4) 1)))]) (rm_ab l Z a0 hw [] p1 rv h0) (hw _ (List.mem_of_getElem? (i := 6) rfl)) (hw _ (List.mem_of_getElem? (i := 7) rfl)) (hw _ (List.mem_of_getElem? (i := 8) rfl)) (hw _ (List.mem_of_getElem? (i := 9) rfl)) (by decide) rfl (lenOf pd_ab rfl) at_129 rfl rfl rfl (by decide) (Nat.le_of_ble_eq_true rfl) (by decide) (by decide) ?_
    intro T1 X1 e1
    show WP p e below _ T1 (mkF m 132 #[.val (.int p0), .val (.int p1), .val (.int p2), .val (.int p3), .val (.int p4), .val (.int p5), .val (.int zN), .val (.int zn), .val (.double (FP.i2d p0)), .second, .val (.double (FP.i2d p1)), .second, .val (.double (FP.i2d p2)), .second, .val (.double (FP.i2d p3)), .second, .val (.double (FP.i2d p4)), .second, .val (.ref a), .val (.double (FP.i2d rv)), .second, .unset, .unset] [(.int (own_bit (own_gt rv ((own_xs p0 p1 p2 p3 p4) 1)))), (.int (Int32.ofNat (own_cnt (own_gt rv) (own_xs p0 p1 p2 p3 p4) 1)))])
    refine wp (fun _ => XS.goto X1.here hx rfl (pc0 := 132) (pc' := 136) rfl (hb hby at_132) (by decide) (by decide)) ?_
    show WP p e below _ T1 (mkF m 136 #[.val (.int p0), .val (.int p1), .val (.int p2), .val (.int p3), .val (.int p4), .val (.int p5), .val (.int zN), .val (.int zn), .val (.double (FP.i2d p0)), .second, .val (.double (FP.i2d p1)), .second, .val (.double (FP.i2d p2)), .second, .val (.double (FP.i2d p3)), .second, .val (.double (FP.i2d p4)), .second, .val (.ref a), .val (.double (FP.i2d rv)), .second, .unset, .unset] [(.int (own_bit (own_gt rv ((own_xs p0 p1 p2 p3 p4) 1)))), (.int (Int32.ofNat (own_cnt (own_gt rv) (own_xs p0 p1 p2 p3 p4) 1)))])
    refine wp (fun _ => XS.iadd X1.here hx rfl (hb hby at_136) rfl) ?_
    show WP p e below _ T1 (mkF m 137 #[.val (.int p0), .val (.int p1), .val (.int p2), .val (.int p3), .val (.int p4), .val (.int p5), .val (.int zN), .val (.int zn), .val (.double (FP.i2d p0)), .second, .val (.double (FP.i2d p1)), .second, .val (.double (FP.i2d p2)), .second, .val (.double (FP.i2d p3)), .second, .val (.double (FP.i2d p4)), .second, .val (.ref a), .val (.double (FP.i2d rv)), .second, .unset, .unset] [(.int ((Int32.ofNat (own_cnt (own_gt rv) (own_xs p0 p1 p2 p3 p4) 1)) + (own_bit (own_gt rv ((own_xs p0 p1 p2 p3 p4) 1)))))])
    rw [own_bit_add]
    exact k _ X1 e1
  · rw [L0] at hc
    have m1 : min 1 N = N := by omega
    have m2 : min 2 N = N := by omega
    rw [m2] at k
    rw [m1]
    show WP p e below _ T0 (mkF m 122 #[.val (.int p0), .val (.int p1), .val (.int p2), .val (.int p3), .val (.int p4), .val (.int p5), .val (.int zN), .val (.int zn), .val (.double (FP.i2d p0)), .second, .val (.double (FP.i2d p1)), .second, .val (.double (FP.i2d p2)), .second, .val (.double (FP.i2d p3)), .second, .val (.double (FP.i2d p4)), .second, .val (.ref a), .val (.double (FP.i2d rv)), .second, .unset, .unset] [(.int (1 : Int32)), (.int zN), (.int (Int32.ofNat (own_cnt (own_gt rv) (own_xs p0 p1 p2 p3 p4) N)))])
    refine wp (fun _ => XS.icmpYes X0.here hx rfl (pc0 := 122) (pc' := 135) rfl (hb hby at_122) rfl (XT.ii_le_t (fun q => hc (L0.mp q))) (by decide) (by decide)) ?_
    show WP p e below _ T0 (mkF m 135 #[.val (.int p0), .val (.int p1), .val (.int p2), .val (.int p3), .val (.int p4), .val (.int p5), .val (.int zN), .val (.int zn), .val (.double (FP.i2d p0)), .second, .val (.double (FP.i2d p1)), .second, .val (.double (FP.i2d p2)), .second, .val (.double (FP.i2d p3)), .second, .val (.double (FP.i2d p4)), .second, .val (.ref a), .val (.double (FP.i2d rv)), .second, .unset, .unset] [(.int (Int32.ofNat (own_cnt (own_gt rv) (own_xs p0 p1 p2 p3 p4) N)))])
    refine wp (fun _ => XS.iconst X0.here hx rfl (hb hby at_135)) ?_
    show WP p e below _ T0 (mkF m 136 #[.val (.int p0), .val (.int p1), .val (.int p2), .val (.int p3), .val (.int p4), .val (.int p5), .val (.int zN), .val (.int zn), .val (.double (FP.i2d p0)), .second, .val (.double (FP.i2d p1)), .second, .val (.double (FP.i2d p2)), .second, .val (.double (FP.i2d p3)), .second, .val (.double (FP.i2d p4)), .second, .val (.ref a), .val (.double (FP.i2d rv)), .second, .unset, .unset] [(.int (0 : Int32)), (.int (Int32.ofNat (own_cnt (own_gt rv) (own_xs p0 p1 p2 p3 p4) N)))])
    refine wp (fun _ => XS.iadd X0.here hx rfl (hb hby at_136) rfl) ?_
    show WP p e below _ T0 (mkF m 137 #[.val (.int p0), .val (.int p1), .val (.int p2), .val (.int p3), .val (.int p4), .val (.int p5), .val (.int zN), .val (.int zn), .val (.double (FP.i2d p0)), .second, .val (.double (FP.i2d p1)), .second, .val (.double (FP.i2d p2)), .second, .val (.double (FP.i2d p3)), .second, .val (.double (FP.i2d p4)), .second, .val (.ref a), .val (.double (FP.i2d rv)), .second, .unset, .unset] [(.int ((Int32.ofNat (own_cnt (own_gt rv) (own_xs p0 p1 p2 p3 p4) N)) + (0 : Int32)))])
    rw [Int32.add_zero]
    exact k _ X0 e0
set_option maxRecDepth 65536 in
set_option maxHeartbeats 4000000 in
theorem segG2 (p0 p1 p2 p3 p4 p5 zN zn : Int32) (a : Addr) (N n0 : Nat) (hzN : zN.toInt = (N : Int)) (hN1 : 1 ≤ N) (hN : N ≤ 5) (rv zg : Int32) (C : Cx p s m meth c Z a0 code 23 "com/example/placewright/placewright/plan/SimplexNthLargestPinLaw" "law" (some .boolean)) (X0 : Stand p l e room_1 s m args below meth c T0 locs 1 5) (e0 : T0.heap = h0)
    (k : ∀ T', Stand p l e room_1 s m args below meth c T' locs 1 5 → T'.heap = h0 → WP p e below Q T' (mkF m 155 #[.val (.int p0), .val (.int p1), .val (.int p2), .val (.int p3), .val (.int p4), .val (.int p5), .val (.int zN), .val (.int zn), .val (.double (FP.i2d p0)), .second, .val (.double (FP.i2d p1)), .second, .val (.double (FP.i2d p2)), .second, .val (.double (FP.i2d p3)), .second, .val (.double (FP.i2d p4)), .second, .val (.ref a), .val (.double (FP.i2d rv)), .second, .unset, .unset] [(.int (Int32.ofNat (own_cnt (own_gt rv) (own_xs p0 p1 p2 p3 p4) (min 3 N))))])) : WP p e below Q T0 (mkF m 137 #[.val (.int p0), .val (.int p1), .val (.int p2), .val (.int p3), .val (.int p4), .val (.int p5), .val (.int zN), .val (.int zn), .val (.double (FP.i2d p0)), .second, .val (.double (FP.i2d p1)), .second, .val (.double (FP.i2d p2)), .second, .val (.double (FP.i2d p3)), .second, .val (.double (FP.i2d p4)), .second, .val (.ref a), .val (.double (FP.i2d rv)), .second, .unset, .unset] [(.int (Int32.ofNat (own_cnt (own_gt rv) (own_xs p0 p1 p2 p3 p4) (min 2 N))))]) := by
  obtain ⟨hx, hZ, hw, hby, hml, hown, hnm, hret, hlk⟩ := id C
  have L0 := @Int32.lt_iff_toInt_lt
  have ht : (2 : Int32).toInt = 2 := rfl
  show WP p e below _ T0 (mkF m 137 #[.val (.int p0), .val (.int p1), .val (.int p2), .val (.int p3), .val (.int p4), .val (.int p5), .val (.int zN), .val (.int zn), .val (.double (FP.i2d p0)), .second, .val (.double (FP.i2d p1)), .second, .val (.double (FP.i2d p2)), .second, .val (.double (FP.i2d p3)), .second, .val (.double (FP.i2d p4)), .second, .val (.ref a), .val (.double (FP.i2d rv)), .second, .unset, .unset] [(.int (Int32.ofNat (own_cnt (own_gt rv) (own_xs p0 p1 p2 p3 p4) (min 2 N))))])
  refine wp (fun _ => XS.iload X0.here hx rfl (hb hby at_137) rfl) ?_
  show WP p e below _ T0 (mkF m 139 #[.val (.int p0), .val (.int p1), .val (.int p2), .val (.int p3), .val (.int p4), .val (.int p5), .val (.int zN), .val (.int zn), .val (.double (FP.i2d p0)), .second, .val (.double (FP.i2d p1)), .second, .val (.double (FP.i2d p2)), .second, .val (.double (FP.i2d p3)), .second, .val (.double (FP.i2d p4)), .second, .val (.ref a), .val (.double (FP.i2d rv)), .second, .unset, .unset] [(.int zN), (.int (Int32.ofNat (own_cnt (own_gt rv) (own_xs p0 p1 p2 p3 p4) (min 2 N))))])
  refine wp (fun _ => XS.iconst X0.here hx rfl (hb hby at_139)) ?_
  show WP p e below _ T0 (mkF m 140 #[.val (.int p0), .val (.int p1), .val (.int p2), .val (.int p3), .val (.int p4), .val (.int p5), .val (.int zN), .val (.int zn), .val (.double (FP.i2d p0)), .second, .val (.double (FP.i2d p1)), .second, .val (.double (FP.i2d p2)), .second, .val (.double (FP.i2d p3)), .second, .val (.double (FP.i2d p4)), .second, .val (.ref a), .val (.double (FP.i2d rv)), .second, .unset, .unset] [(.int (2 : Int32)), (.int zN), (.int (Int32.ofNat (own_cnt (own_gt rv) (own_xs p0 p1 p2 p3 p4) (min 2 N))))])
  by_cases hc : (2 : Int32) < zN
  · rw [L0] at hc
    have m1 : min 2 N = 2 := by omega
    have m2 : min 3 N = 3 := by omega
    rw [m2] at k
    rw [m1]
    show WP p e below _ T0 (mkF m 140 #[.val (.int p0), .val (.int p1), .val (.int p2), .val (.int p3), .val (.int p4), .val (.int p5), .val (.int zN), .val (.int zn), .val (.double (FP.i2d p0)), .second, .val (.double (FP.i2d p1)), .second, .val (.double (FP.i2d p2)), .second, .val (.double (FP.i2d p3)), .second, .val (.double (FP.i2d p4)), .second, .val (.ref a), .val (.double (FP.i2d rv)), .second, .unset, .unset] [(.int (2 : Int32)), (.int zN), (.int (Int32.ofNat (own_cnt (own_gt rv) (own_xs p0 p1 p2 p3 p4) 2)))])
    refine wp (fun _ => XS.icmpNo X0.here hx rfl (hb hby at_140) rfl (XT.ii_le_f (L0.mpr hc))) ?_
    show WP p e below _ T0 (mkF m 143 #[.val (.int p0), .val (.int p1), .val (.int p2), .val (.int p3), .val (.int p4), .val (.int p5), .val (.int zN), .val (.int zn), .val (.double (FP.i2d p0)), .second, .val (.double (FP.i2d p1)), .second, .val (.double (FP.i2d p2)), .second, .val (.double (FP.i2d p3)), .second, .val (.double (FP.i2d p4)), .second, .val (.ref a), .val (.double (FP.i2d rv)), .second, .unset, .unset] [(.int (Int32.ofNat (own_cnt (own_gt rv) (own_xs p0 p1 p2 p3 p4) 2)))])
    refine wp (fun _ => XS.dload X0.here hx rfl (hb hby at_143) rfl) ?_
    show WP p e below _ T0 (mkF m 145 #[.val (.int p0), .val (.int p1), .val (.int p2), .val (.int p3), .val (.int p4), .val (.int p5), .val (.int zN), .val (.int zn), .val (.double (FP.i2d p0)), .second, .val (.double (FP.i2d p1)), .second, .val (.double (FP.i2d p2)), .second, .val (.double (FP.i2d p3)), .second, .val (.double (FP.i2d p4)), .second, .val (.ref a), .val (.double (FP.i2d rv)), .second, .unset, .unset] [(.double (FP.i2d p2)), (.int (Int32.ofNat (own_cnt (own_gt rv) (own_xs p0 p1 p2 p3 p4) 2)))])
    refine wp (fun _ => XS.dload X0.here hx rfl (hb hby at_145) rfl) ?_
    show WP p e below _ T0 (mkF m 147 #[.val (.int p0), .val (.int p1), .val (.int p2), .val (.int p3), .val (.int p4), .val (.int p5), .val (.int zN), .val (.int zn), .val (.double (FP.i2d p0)), .second, .val (.double (FP.i2d p1)), .second, .val (.double (FP.i2d p2)), .second, .val (.double (FP.i2d p3)), .second, .val (.double (FP.i2d p4)), .second, .val (.ref a), .val (.double (FP.i2d rv)), .second, .unset, .unset] [(.double (FP.i2d rv)), (.double (FP.i2d p2)), (.int (Int32.ofNat (own_cnt (own_gt rv) (own_xs p0 p1 p2 p3 p4) 2)))])
    refine wp_staticP C X0 e0 (argsL := [(.double (FP.i2d p2)), (.double (FP.i2d rv))]) (rest := [(.int (Int32.ofNat (own_cnt (own_gt rv) (own_xs p0 p1 p2 p3 p4) 2)))]) (rm_ab l Z a0 hw [] p2 rv h0) (hw _ (List.mem_of_getElem? (i := 6) rfl)) (hw _ (List.mem_of_getElem? (i := 7) rfl)) (hw _ (List.mem_of_getElem? (i := 8) rfl)) (hw _ (List.mem_of_getElem? (i := 9) rfl)) (by decide) rfl (lenOf pd_ab rfl) at_147 rfl rfl rfl (by decide) (Nat.le_of_ble_eq_true rfl) (by decide) (by decide) ?_
    intro T1 X1 e1
    show WP p e below _ T1 (mkF m 150 #[.val (.int p0), .val (.int p1), .val (.int p2), .val (.int p3), .val (.int p4), .val (.int p5), .val (.int zN), .val (.int zn), .val (.double (FP.i2d p0)), .second, .val (.double (FP.i2d p1)), .second, .val (.double (FP.i2d p2)), .second, .val (.double (FP.i2d p3)), .second, .val (.double (FP.i2d p4)), .second, .val (.ref a), .val (.double (FP.i2d rv)), .second, .unset, .unset] [(.int (own_bit (own_gt rv ((own_xs p0 p1 p2 p3 p4) 2)))), (.int (Int32.ofNat (own_cnt (own_gt rv) (own_xs p0 p1 p2 p3 p4) 2)))])
    refine wp (fun _ => XS.goto X1.here hx rfl (pc0 := 150) (pc' := 154) rfl (hb hby at_150) (by decide) (by decide)) ?_
    show WP p e below _ T1 (mkF m 154 #[.val (.int p0), .val (.int p1), .val (.int p2), .val (.int p3), .val (.int p4), .val (.int p5), .val (.int zN), .val (.int zn), .val (.double (FP.i2d p0)), .second, .val (.double (FP.i2d p1)), .second, .val (.double (FP.i2d p2)), .second, .val (.double (FP.i2d p3)), .second, .val (.double (FP.i2d p4)), .second, .val (.ref a), .val (.double (FP.i2d rv)), .second, .unset, .unset] [(.int (own_bit (own_gt rv ((own_xs p0 p1 p2 p3 p4) 2)))), (.int (Int32.ofNat (own_cnt (own_gt rv) (own_xs p0 p1 p2 p3 p4) 2)))])
    refine wp (fun _ => XS.iadd X1.here hx rfl (hb hby at_154) rfl) ?_
    show WP p e below _ T1 (mkF m 155 #[.val (.int p0), .val (.int p1), .val (.int p2), .val (.int p3), .val (.int p4), .val (.int p5), .val (.int zN), .val (.int zn), .val (.double (FP.i2d p0)), .second, .val (.double (FP.i2d p1)), .second, .val (.double (FP.i2d p2)), .second, .val (.double (FP.i2d p3)), .second, .val (.double (FP.i2d p4)), .second, .val (.ref a), .val (.double (FP.i2d rv)), .second, .unset, .unset] [(.int ((Int32.ofNat (own_cnt (own_gt rv) (own_xs p0 p1 p2 p3 p4) 2)) + (own_bit (own_gt rv ((own_xs p0 p1 p2 p3 p4) 2)))))])
    rw [own_bit_add]
    exact k _ X1 e1
  · rw [L0] at hc
    have m1 : min 2 N = N := by omega
    have m2 : min 3 N = N := by omega
    rw [m2] at k
    rw [m1]
    show WP p e below _ T0 (mkF m 140 #[.val (.int p0), .val (.int p1), .val (.int p2), .val (.int p3), .val (.int p4), .val (.int p5), .val (.int zN), .val (.int zn), .val (.double (FP.i2d p0)), .second, .val (.double (FP.i2d p1)), .second, .val (.double (FP.i2d p2)), .second, .val (.double (FP.i2d p3)), .second, .val (.double (FP.i2d p4)), .second, .val (.ref a), .val (.double (FP.i2d rv)), .second, .unset, .unset] [(.int (2 : Int32)), (.int zN), (.int (Int32.ofNat (own_cnt (own_gt rv) (own_xs p0 p1 p2 p3 p4) N)))])
    refine wp (fun _ => XS.icmpYes X0.here hx rfl (pc0 := 140) (pc' := 153) rfl (hb hby at_140) rfl (XT.ii_le_t (fun q => hc (L0.mp q))) (by decide) (by decide)) ?_
    show WP p e below _ T0 (mkF m 153 #[.val (.int p0), .val (.int p1), .val (.int p2), .val (.int p3), .val (.int p4), .val (.int p5), .val (.int zN), .val (.int zn), .val (.double (FP.i2d p0)), .second, .val (.double (FP.i2d p1)), .second, .val (.double (FP.i2d p2)), .second, .val (.double (FP.i2d p3)), .second, .val (.double (FP.i2d p4)), .second, .val (.ref a), .val (.double (FP.i2d rv)), .second, .unset, .unset] [(.int (Int32.ofNat (own_cnt (own_gt rv) (own_xs p0 p1 p2 p3 p4) N)))])
    refine wp (fun _ => XS.iconst X0.here hx rfl (hb hby at_153)) ?_
    show WP p e below _ T0 (mkF m 154 #[.val (.int p0), .val (.int p1), .val (.int p2), .val (.int p3), .val (.int p4), .val (.int p5), .val (.int zN), .val (.int zn), .val (.double (FP.i2d p0)), .second, .val (.double (FP.i2d p1)), .second, .val (.double (FP.i2d p2)), .second, .val (.double (FP.i2d p3)), .second, .val (.double (FP.i2d p4)), .second, .val (.ref a), .val (.double (FP.i2d rv)), .second, .unset, .unset] [(.int (0 : Int32)), (.int (Int32.ofNat (own_cnt (own_gt rv) (own_xs p0 p1 p2 p3 p4) N)))])
    refine wp (fun _ => XS.iadd X0.here hx rfl (hb hby at_154) rfl) ?_
    show WP p e below _ T0 (mkF m 155 #[.val (.int p0), .val (.int p1), .val (.int p2), .val (.int p3), .val (.int p4), .val (.int p5), .val (.int zN), .val (.int zn), .val (.double (FP.i2d p0)), .second, .val (.double (FP.i2d p1)), .second, .val (.double (FP.i2d p2)), .second, .val (.double (FP.i2d p3)), .second, .val (.double (FP.i2d p4)), .second, .val (.ref a), .val (.double (FP.i2d rv)), .second, .unset, .unset] [(.int ((Int32.ofNat (own_cnt (own_gt rv) (own_xs p0 p1 p2 p3 p4) N)) + (0 : Int32)))])
    rw [Int32.add_zero]
    exact k _ X0 e0
set_option maxRecDepth 65536 in
set_option maxHeartbeats 4000000 in
theorem segG3 (p0 p1 p2 p3 p4 p5 zN zn : Int32) (a : Addr) (N n0 : Nat) (hzN : zN.toInt = (N : Int)) (hN1 : 1 ≤ N) (hN : N ≤ 5) (rv zg : Int32) (C : Cx p s m meth c Z a0 code 23 "com/example/placewright/placewright/plan/SimplexNthLargestPinLaw" "law" (some .boolean)) (X0 : Stand p l e room_1 s m args below meth c T0 locs 1 5) (e0 : T0.heap = h0)
    (k : ∀ T', Stand p l e room_1 s m args below meth c T' locs 1 5 → T'.heap = h0 → WP p e below Q T' (mkF m 173 #[.val (.int p0), .val (.int p1), .val (.int p2), .val (.int p3), .val (.int p4), .val (.int p5), .val (.int zN), .val (.int zn), .val (.double (FP.i2d p0)), .second, .val (.double (FP.i2d p1)), .second, .val (.double (FP.i2d p2)), .second, .val (.double (FP.i2d p3)), .second, .val (.double (FP.i2d p4)), .second, .val (.ref a), .val (.double (FP.i2d rv)), .second, .unset, .unset] [(.int (Int32.ofNat (own_cnt (own_gt rv) (own_xs p0 p1 p2 p3 p4) (min 4 N))))])) : WP p e below Q T0 (mkF m 155 #[.val (.int p0), .val (.int p1), .val (.int p2), .val (.int p3), .val (.int p4), .val (.int p5), .val (.int zN), .val (.int zn), .val (.double (FP.i2d p0)), .second, .val (.double (FP.i2d p1)), .second, .val (.double (FP.i2d p2)), .second, .val (.double (FP.i2d p3)), .second, .val (.double (FP.i2d p4)), .second, .val (.ref a), .val (.double (FP.i2d rv)), .second, .unset, .unset] [(.int (Int32.ofNat (own_cnt (own_gt rv) (own_xs p0 p1 p2 p3 p4) (min 3 N))))]) := by
  obtain ⟨hx, hZ, hw, hby, hml, hown, hnm, hret, hlk⟩ := id C
  have L0 := @Int32.lt_iff_toInt_lt
  have ht : (3 : Int32).toInt = 3 := rfl
  show WP p e below _ T0 (mkF m 155 #[.val (.int p0), .val (.int p1), .val (.int p2), .val (.int p3), .val (.int p4), .val (.int p5), .val (.int zN), .val (.int zn), .val (.double (FP.i2d p0)), .second, .val (.double (FP.i2d p1)), .second, .val (.double (FP.i2d p2)), .second, .val (.double (FP.i2d p3)), .second, .val (.double (FP.i2d p4)), .second, .val (.ref a), .val (.double (FP.i2d rv)), .second, .unset, .unset] [(.int (Int32.ofNat (own_cnt (own_gt rv) (own_xs p0 p1 p2 p3 p4) (min 3 N))))])
  refine wp (fun _ => XS.iload X0.here hx rfl (hb hby at_155) rfl) ?_
  show WP p e below _ T0 (mkF m 157 #[.val (.int p0), .val (.int p1), .val (.int p2), .val (.int p3), .val (.int p4), .val (.int p5), .val (.int zN), .val (.int zn), .val (.double (FP.i2d p0)), .second, .val (.double (FP.i2d p1)), .second, .val (.double (FP.i2d p2)), .second, .val (.double (FP.i2d p3)), .second, .val (.double (FP.i2d p4)), .second, .val (.ref a), .val (.double (FP.i2d rv)), .second, .unset, .unset] [(.int zN), (.int (Int32.ofNat (own_cnt (own_gt rv) (own_xs p0 p1 p2 p3 p4) (min 3 N))))])
  refine wp (fun _ => XS.iconst X0.here hx rfl (hb hby at_157)) ?_
  show WP p e below _ T0 (mkF m 158 #[.val (.int p0), .val (.int p1), .val (.int p2), .val (.int p3), .val (.int p4), .val (.int p5), .val (.int zN), .val (.int zn), .val (.double (FP.i2d p0)), .second, .val (.double (FP.i2d p1)), .second, .val (.double (FP.i2d p2)), .second, .val (.double (FP.i2d p3)), .second, .val (.double (FP.i2d p4)), .second, .val (.ref a), .val (.double (FP.i2d rv)), .second, .unset, .unset] [(.int (3 : Int32)), (.int zN), (.int (Int32.ofNat (own_cnt (own_gt rv) (own_xs p0 p1 p2 p3 p4) (min 3 N))))])
  by_cases hc : (3 : Int32) < zN
  · rw [L0] at hc
    have m1 : min 3 N = 3 := by omega
    have m2 : min 4 N = 4 := by omega
    rw [m2] at k
    rw [m1]
    show WP p e below _ T0 (mkF m 158 #[.val (.int p0), .val (.int p1), .val (.int p2), .val (.int p3), .val (.int p4), .val (.int p5), .val (.int zN), .val (.int zn), .val (.double (FP.i2d p0)), .second, .val (.double (FP.i2d p1)), .second, .val (.double (FP.i2d p2)), .second, .val (.double (FP.i2d p3)), .second, .val (.double (FP.i2d p4)), .second, .val (.ref a), .val (.double (FP.i2d rv)), .second, .unset, .unset] [(.int (3 : Int32)), (.int zN), (.int (Int32.ofNat (own_cnt (own_gt rv) (own_xs p0 p1 p2 p3 p4) 3)))])
    refine wp (fun _ => XS.icmpNo X0.here hx rfl (hb hby at_158) rfl (XT.ii_le_f (L0.mpr hc))) ?_
    show WP p e below _ T0 (mkF m 161 #[.val (.int p0), .val (.int p1), .val (.int p2), .val (.int p3), .val (.int p4), .val (.int p5), .val (.int zN), .val (.int zn), .val (.double (FP.i2d p0)), .second, .val (.double (FP.i2d p1)), .second, .val (.double (FP.i2d p2)), .second, .val (.double (FP.i2d p3)), .second, .val (.double (FP.i2d p4)), .second, .val (.ref a), .val (.double (FP.i2d rv)), .second, .unset, .unset] [(.int (Int32.ofNat (own_cnt (own_gt rv) (own_xs p0 p1 p2 p3 p4) 3)))])
    refine wp (fun _ => XS.dload X0.here hx rfl (hb hby at_161) rfl) ?_
    show WP p e below _ T0 (mkF m 163 #[.val (.int p0), .val (.int p1), .val (.int p2), .val (.int p3), .val (.int p4), .val (.int p5), .val (.int zN), .val (.int zn), .val (.double (FP.i2d p0)), .second, .val (.double (FP.i2d p1)), .second, .val (.double (FP.i2d p2)), .second, .val (.double (FP.i2d p3)), .second, .val (.double (FP.i2d p4)), .second, .val (.ref a), .val (.double (FP.i2d rv)), .second, .unset, .unset] [(.double (FP.i2d p3)), (.int (Int32.ofNat (own_cnt (own_gt rv) (own_xs p0 p1 p2 p3 p4) 3)))])
    refine wp (fun _ => XS.dload X0.here hx rfl (hb hby at_163) rfl) ?_
    show WP p e below _ T0 (mkF m 165 #[.val (.int p0), .val (.int p1), .val (.int p2), .val (.int p3), .val (.int p4), .val (.int p5), .val (.int zN), .val (.int zn), .val (.double (FP.i2d p0)), .second, .val (.double (FP.i2d p1)), .second, .val (.double (FP.i2d p2)), .second, .val (.double (FP.i2d p3)), .second, .val (.double (FP.i2d p4)), .second, .val (.ref a), .val (.double (FP.i2d rv)), .second, .unset, .unset] [(.double (FP.i2d rv)), (.double (FP.i2d p3)), (.int (Int32.ofNat (own_cnt (own_gt rv) (own_xs p0 p1 p2 p3 p4) 3)))])
    refine wp_staticP C X0 e0 (argsL := [(.double (FP.i2d p3)), (.double (FP.i2d rv))]) (rest := [(.int (Int32.ofNat (own_cnt (own_gt rv) (own_xs p0 p1 p2 p3 p4) 3)))]) (rm_ab l Z a0 hw [] p3 rv h0) (hw _ (List.mem_of_getElem? (i := 6) rfl)) (hw _ (List.mem_of_getElem? (i := 7) rfl)) (hw _ (List.mem_of_getElem? (i := 8) rfl)) (hw _ (List.mem_of_getElem? (i := 9) rfl)) (by decide) rfl (lenOf pd_ab rfl) at_165 rfl rfl rfl (by decide) (Nat.le_of_ble_eq_true rfl) (by decide) (by decide) ?_
    intro T1 X1 e1
    show WP p e below _ T1 (mkF m 168 #[.val (.int p0), .val (.int p1), .val (.int p2), .val (.int p3), .val (.int p4), .val (.int p5), .val (.int zN), .val (.int zn), .val (.double (FP.i2d p0)), .second, .val (.double (FP.i2d p1)), .second, .val (.double (FP.i2d p2)), .second, .val (.double (FP.i2d p3)), .second, .val (.double (FP.i2d p4)), .second, .val (.ref a), .val (.double (FP.i2d rv)), .second, .unset, .unset] [(.int (own_bit (own_gt rv ((own_xs p0 p1 p2 p3 p4) 3)))), (.int (Int32.ofNat (own_cnt (own_gt rv) (own_xs p0 p1 p2 p3 p4) 3)))])
    refine wp (fun _ => XS.goto X1.here hx rfl (pc0 := 168) (pc' := 172) rfl (hb hby at_168) (by decide) (by decide)) ?_
    show WP p e below _ T1 (mkF m 172 #[.val (.int p0), .val (.int p1), .val (.int p2), .val (.int p3), .val (.int p4), .val (.int p5), .val (.int zN), .val (.int zn), .val (.double (FP.i2d p0)), .second, .val (.double (FP.i2d p1)), .second, .val (.double (FP.i2d p2)), .second, .val (.double (FP.i2d p3)), .second, .val (.double (FP.i2d p4)), .second, .val (.ref a), .val (.double (FP.i2d rv)), .second, .unset, .unset] [(.int (own_bit (own_gt rv ((own_xs p0 p1 p2 p3 p4) 3)))), (.int (Int32.ofNat (own_cnt (own_gt rv) (own_xs p0 p1 p2 p3 p4) 3)))])
    refine wp (fun _ => XS.iadd X1.here hx rfl (hb hby at_172) rfl) ?_
    show WP p e below _ T1 (mkF m 173 #[.val (.int p0), .val (.int p1), .val (.int p2), .val (.int p3), .val (.int p4), .val (.int p5), .val (.int zN), .val (.int zn), .val (.double (FP.i2d p0)), .second, .val (.double (FP.i2d p1)), .second, .val (.double (FP.i2d p2)), .second, .val (.double (FP.i2d p3)), .second, .val (.double (FP.i2d p4)), .second, .val (.ref a), .val (.double (FP.i2d rv)), .second, .unset, .unset] [(.int ((Int32.ofNat (own_cnt (own_gt rv) (own_xs p0 p1 p2 p3 p4) 3)) + (own_bit (own_gt rv ((own_xs p0 p1 p2 p3 p4) 3)))))])
    rw [own_bit_add]
    exact k _ X1 e1
  · rw [L0] at hc
    have m1 : min 3 N = N := by omega
    have m2 : min 4 N = N := by omega
    rw [m2] at k
    rw [m1]
    show WP p e below _ T0 (mkF m 158 #[.val (.int p0), .val (.int p1), .val (.int p2), .val (.int p3), .val (.int p4), .val (.int p5), .val (.int zN), .val (.int zn), .val (.double (FP.i2d p0)), .second, .val (.double (FP.i2d p1)), .second, .val (.double (FP.i2d p2)), .second, .val (.double (FP.i2d p3)), .second, .val (.double (FP.i2d p4)), .second, .val (.ref a), .val (.double (FP.i2d rv)), .second, .unset, .unset] [(.int (3 : Int32)), (.int zN), (.int (Int32.ofNat (own_cnt (own_gt rv) (own_xs p0 p1 p2 p3 p4) N)))])
    refine wp (fun _ => XS.icmpYes X0.here hx rfl (pc0 := 158) (pc' := 171) rfl (hb hby at_158) rfl (XT.ii_le_t (fun q => hc (L0.mp q))) (by decide) (by decide)) ?_
    show WP p e below _ T0 (mkF m 171 #[.val (.int p0), .val (.int p1), .val (.int p2), .val (.int p3), .val (.int p4), .val (.int p5), .val (.int zN), .val (.int zn), .val (.double (FP.i2d p0)), .second, .val (.double (FP.i2d p1)), .second, .val (.double (FP.i2d p2)), .second, .val (.double (FP.i2d p3)), .second, .val (.double (FP.i2d p4)), .second, .val (.ref a), .val (.double (FP.i2d rv)), .second, .unset, .unset] [(.int (Int32.ofNat (own_cnt (own_gt rv) (own_xs p0 p1 p2 p3 p4) N)))])
    refine wp (fun _ => XS.iconst X0.here hx rfl (hb hby at_171)) ?_
    show WP p e below _ T0 (mkF m 172 #[.val (.int p0), .val (.int p1), .val (.int p2), .val (.int p3), .val (.int p4), .val (.int p5), .val (.int zN), .val (.int zn), .val (.double (FP.i2d p0)), .second, .val (.double (FP.i2d p1)), .second, .val (.double (FP.i2d p2)), .second, .val (.double (FP.i2d p3)), .second, .val (.double (FP.i2d p4)), .second, .val (.ref a), .val (.double (FP.i2d rv)), .second, .unset, .unset] [(.int (0 : Int32)), (.int (Int32.ofNat (own_cnt (own_gt rv) (own_xs p0 p1 p2 p3 p4) N)))])
    refine wp (fun _ => XS.iadd X0.here hx rfl (hb hby at_172) rfl) ?_
    show WP p e below _ T0 (mkF m 173 #[.val (.int p0), .val (.int p1), .val (.int p2), .val (.int p3), .val (.int p4), .val (.int p5), .val (.int zN), .val (.int zn), .val (.double (FP.i2d p0)), .second, .val (.double (FP.i2d p1)), .second, .val (.double (FP.i2d p2)), .second, .val (.double (FP.i2d p3)), .second, .val (.double (FP.i2d p4)), .second, .val (.ref a), .val (.double (FP.i2d rv)), .second, .unset, .unset] [(.int ((Int32.ofNat (own_cnt (own_gt rv) (own_xs p0 p1 p2 p3 p4) N)) + (0 : Int32)))])
    rw [Int32.add_zero]
    exact k _ X0 e0
set_option maxRecDepth 65536 in
set_option maxHeartbeats 4000000 in
theorem segG4 (p0 p1 p2 p3 p4 p5 zN zn : Int32) (a : Addr) (N n0 : Nat) (hzN : zN.toInt = (N : Int)) (hN1 : 1 ≤ N) (hN : N ≤ 5) (rv zg : Int32) (C : Cx p s m meth c Z a0 code 23 "com/example/placewright/placewright/plan/SimplexNthLargestPinLaw" "law" (some .boolean)) (X0 : Stand p l e room_1 s m args below meth c T0 locs 1 5) (e0 : T0.heap = h0)
    (k : ∀ T', Stand p l e room_1 s m args below meth c T' locs 1 5 → T'.heap = h0 → WP p e below Q T' (mkF m 191 #[.val (.int p0), .val (.int p1), .val (.int p2), .val (.int p3), .val (.int p4), .val (.int p5), .val (.int zN), .val (.int zn), .val (.double (FP.i2d p0)), .second, .val (.double (FP.i2d p1)), .second, .val (.double (FP.i2d p2)), .second, .val (.double (FP.i2d p3)), .second, .val (.double (FP.i2d p4)), .second, .val (.ref a), .val (.double (FP.i2d rv)), .second, .unset, .unset] [(.int (Int32.ofNat (own_cnt (own_gt rv) (own_xs p0 p1 p2 p3 p4) (min 5 N))))])) : WP p e below Q T0 (mkF m 173 #[.val (.int p0), .val (.int p1), .val (.int p2), .val (.int p3), .val (.int p4), .val (.int p5), .val (.int zN), .val (.int zn), .val (.double (FP.i2d p0)), .second, .val (.double (FP.i2d p1)), .second, .val (.double (FP.i2d p2)), .second, .val (.double (FP.i2d p3)), .second, .val (.double (FP.i2d p4)), .second, .val (.ref a), .val (.double (FP.i2d rv)), .second, .unset, .unset] [(.int (Int32.ofNat (own_cnt (own_gt rv) (own_xs p0 p1 p2 p3 p4) (min 4 N))))]) := by
  obtain ⟨hx, hZ, hw, hby, hml, hown, hnm, hret, hlk⟩ := id C
  have L0 := @Int32.lt_iff_toInt_lt
  have ht : (4 : Int32).toInt = 4 := rfl
  show WP p e below _ T0 (mkF m 173 #[.val (.int p0), .val (.int p1), .val (.int p2), .val (.int p3), .val (.int p4), .val (.int p5), .val (.int zN), .val (.int zn), .val (.double (FP.i2d p0)), .second, .val (.double (FP.i2d p1)), .second, .val (.double (FP.i2d p2)), .second, .val (.double (FP.i2d p3)), .second, .val (.double (FP.i2d p4)), .second, .val (.ref a), .val (.double (FP.i2d rv)), .second, .unset, .unset] [(.int (Int32.ofNat (own_cnt (own_gt rv) (own_xs p0 p1 p2 p3 p4) (min 4 N))))])
  refine wp (fun _ => XS.iload X0.here hx rfl (hb hby at_173) rfl) ?_
  show WP p e below _ T0 (mkF m 175 #[.val (.int p0), .val (.int p1), .val (.int p2), .val (.int p3), .val (.int p4), .val (.int p5), .val (.int zN), .val (.int zn), .val (.double (FP.i2d p0)), .second, .val (.double (FP.i2d p1)), .second, .val (.double (FP.i2d p2)), .second, .val (.double (FP.i2d p3)), .second, .val (.double (FP.i2d p4)), .second, .val (.ref a), .val (.double (FP.i2d rv)), .second, .unset, .unset] [(.int zN), (.int (Int32.ofNat (own_cnt (own_gt rv) (own_xs p0 p1 p2 p3 p4) (min 4 N))))])
  refine wp (fun _ => XS.iconst X0.here hx rfl (hb hby at_175)) ?_
  show WP p e below _ T0 (mkF m 176 #[.val (.int p0), .val (.int p1), .val (.int p2), .val (.int p3), .val (.int p4), .val (.int p5), .val (.int zN), .val (.int zn), .val (.double (FP.i2d p0)), .second, .val (.double (FP.i2d p1)), .second, .val (.double (FP.i2d p2)), .second, .val (.double (FP.i2d p3)), .second, .val (.double (FP.i2d p4)), .second, .val (.ref a), .val (.double (FP.i2d rv)), .second, .unset, .unset] [(.int (4 : Int32)), (.int zN), (.int (Int32.ofNat (own_cnt (own_gt rv) (own_xs p0 p1 p2 p3 p4) (min 4 N))))])
  by_cases hc : (4 : Int32) < zN
  · rw [L0] at hc
    have m1 : min 4 N = 4 := by omega
    have m2 : min 5 N = 5 := by omega
    rw [m2] at k
    rw [m1]
    show WP p e below _ T0 (mkF m 176 #[.val (.int p0), .val (.int p1), .val (.int p2), .val (.int p3), .val (.int p4), .val (.int p5), .val (.int zN), .val (.int zn), .val (.double (FP.i2d p0)), .second, .val (.double (FP.i2d p1)), .second, .val (.double (FP.i2d p2)), .second, .val (.double (FP.i2d p3)), .second, .val (.double (FP.i2d p4)), .second, .val (.ref a), .val (.double (FP.i2d rv)), .second, .unset, .unset] [(.int (4 : Int32)), (.int zN), (.int (Int32.ofNat (own_cnt (own_gt rv) (own_xs p0 p1 p2 p3 p4) 4)))])
    refine wp (fun _ => XS.icmpNo X0.here hx rfl (hb hby at_176) rfl (XT.ii_le_f (L0.mpr hc))) ?_
    show WP p e below _ T0 (mkF m 179 #[.val (.int p0), .val (.int p1), .val (.int p2), .val (.int p3), .val (.int p4), .val (.int p5), .val (.int zN), .val (.int zn), .val (.double (FP.i2d p0)), .second, .val (.double (FP.i2d p1)), .second, .val (.double (FP.i2d p2)), .second, .val (.double (FP.i2d p3)), .second, .val (.double (FP.i2d p4)), .second, .val (.ref a), .val (.double (FP.i2d rv)), .second, .unset, .unset] [(.int (Int32.ofNat (own_cnt (own_gt rv) (own_xs p0 p1 p2 p3 p4) 4)))])
    refine wp (fun _ => XS.dload X0.here hx rfl (hb hby at_179) rfl) ?_
    show WP p e below _ T0 (mkF m 181 #[.val (.int p0), .val (.int p1), .val (.int p2), .val (.int p3), .val (.int p4), .val (.int p5), .val (.int zN), .val (.int zn), .val (.double (FP.i2d p0)), .second, .val (.double (FP.i2d p1)), .second, .val (.double (FP.i2d p2)), .second, .val (.double (FP.i2d p3)), .second, .val (.double (FP.i2d p4)), .second, .val (.ref a), .val (.double (FP.i2d rv)), .second, .unset, .unset] [(.double (FP.i2d p4)), (.int (Int32.ofNat (own_cnt (own_gt rv) (own_xs p0 p1 p2 p3 p4) 4)))])
    refine wp (fun _ => XS.dload X0.here hx rfl (hb hby at_181) rfl) ?_
    show WP p e below _ T0 (mkF m 183 #[.val (.int p0), .val (.int p1), .val (.int p2), .val (.int p3), .val (.int p4), .val (.int p5), .val (.int zN), .val (.int zn), .val (.double (FP.i2d p0)), .second, .val (.double (FP.i2d p1)), .second, .val (.double (FP.i2d p2)), .second, .val (.double (FP.i2d p3)), .second, .val (.double (FP.i2d p4)), .second, .val (.ref a), .val (.double (FP.i2d rv)), .second, .unset, .unset] [(.double (FP.i2d rv)), (.double (FP.i2d p4)), (.int (Int32.ofNat (own_cnt (own_gt rv) (own_xs p0 p1 p2 p3 p4) 4)))])
    refine wp_staticP C X0 e0 (argsL := [(.double (FP.i2d p4)), (.double (FP.i2d rv))]) (rest := [(.int (Int32.ofNat (own_cnt (own_gt rv) (own_xs p0 p1 p2 p3 p4) 4)))]) (rm_ab l Z a0 hw [] p4 rv h0) (hw _ (List.mem_of_getElem? (i := 6) rfl)) (hw _ (List.mem_of_getElem? (i := 7) rfl)) (hw _ (List.mem_of_getElem? (i := 8) rfl)) (hw _ (List.mem_of_getElem? (i := 9) rfl)) (by decide) rfl (lenOf pd_ab rfl) at_183 rfl rfl rfl (by decide) (Nat.le_of_ble_eq_true rfl) (by decide) (by decide) ?_
    intro T1 X1 e1
    show WP p e below _ T1 (mkF m 186 #[.val (.int p0), .val (.int p1), .val (.int p2), .val (.int p3), .val (.int p4), .val (.int p5), .val (.int zN), .val (.int zn), .val (.double (FP.i2d p0)), .second, .val (.double (FP.i2d p1)), .second, .val (.double (FP.i2d p2)), .second, .val (.double (FP.i2d p3)), .second, .val (.double (FP.i2d p4)), .second, .val (.ref a), .val (.double (FP.i2d rv)), .second, .unset, .unset] [(.int (own_bit (own_gt rv ((own_xs p0 p1 p2 p3 p4) 4)))), (.int (Int32.ofNat (own_cnt (own_gt rv) (own_xs p0 p1 p2 p3 p4) 4)))])
    refine wp (fun _ => XS.goto X1.here hx rfl (pc0 := 186) (pc' := 190) rfl (hb hby at_186) (by decide) (by decide)) ?_
    show WP p e below _ T1 (mkF m 190 #[.val (.int p0), .val (.int p1), .val (.int p2), .val (.int p3), .val (.int p4), .val (.int p5), .val (.int zN), .val (.int zn), .val (.double (FP.i2d p0)), .second, .val (.double (FP.i2d p1)), .second, .val (.double (FP.i2d p2)), .second, .val (.double (FP.i2d p3)), .second, .val (.double (FP.i2d p4)), .second, .val (.ref a), .val (.double (FP.i2d rv)), .second, .unset, .unset] [(.int (own_bit (own_gt rv ((own_xs p0 p1 p2 p3 p4) 4)))), (.int (Int32.ofNat (own_cnt (own_gt rv) (own_xs p0 p1 p2 p3 p4) 4)))])
    refine wp (fun _ => XS.iadd X1.here hx rfl (hb hby at_190) rfl) ?_
    show WP p e below _ T1 (mkF m 191 #[.val (.int p0), .val (.int p1), .val (.int p2), .val (.int p3), .val (.int p4), .val (.int p5), .val (.int zN), .val (.int zn), .val (.double (FP.i2d p0)), .second, .val (.double (FP.i2d p1)), .second, .val (.double (FP.i2d p2)), .second, .val (.double (FP.i2d p3)), .second, .val (.double (FP.i2d p4)), .second, .val (.ref a), .val (.double (FP.i2d rv)), .second, .unset, .unset] [(.int ((Int32.ofNat (own_cnt (own_gt rv) (own_xs p0 p1 p2 p3 p4) 4)) + (own_bit (own_gt rv ((own_xs p0 p1 p2 p3 p4) 4)))))])
    rw [own_bit_add]
    exact k _ X1 e1
  · rw [L0] at hc
    have m1 : min 4 N = N := by omega
    have m2 : min 5 N = N := by omega
    rw [m2] at k
    rw [m1]
    show WP p e below _ T0 (mkF m 176 #[.val (.int p0), .val (.int p1), .val (.int p2), .val (.int p3), .val (.int p4), .val (.int p5), .val (.int zN), .val (.int zn), .val (.double (FP.i2d p0)), .second, .val (.double (FP.i2d p1)), .second, .val (.double (FP.i2d p2)), .second, .val (.double (FP.i2d p3)), .second, .val (.double (FP.i2d p4)), .second, .val (.ref a), .val (.double (FP.i2d rv)), .second, .unset, .unset] [(.int (4 : Int32)), (.int zN), (.int (Int32.ofNat (own_cnt (own_gt rv) (own_xs p0 p1 p2 p3 p4) N)))])
    refine wp (fun _ => XS.icmpYes X0.here hx rfl (pc0 := 176) (pc' := 189) rfl (hb hby at_176) rfl (XT.ii_le_t (fun q => hc (L0.mp q))) (by decide) (by decide)) ?_
    show WP p e below _ T0 (mkF m 189 #[.val (.int p0), .val (.int p1), .val (.int p2), .val (.int p3), .val (.int p4), .val (.int p5), .val (.int zN), .val (.int zn), .val (.double (FP.i2d p0)), .second, .val (.double (FP.i2d p1)), .second, .val (.double (FP.i2d p2)), .second, .val (.double (FP.i2d p3)), .second, .val (.double (FP.i2d p4)), .second, .val (.ref a), .val (.double (FP.i2d rv)), .second, .unset, .unset] [(.int (Int32.ofNat (own_cnt (own_gt rv) (own_xs p0 p1 p2 p3 p4) N)))])
    refine wp (fun _ => XS.iconst X0.here hx rfl (hb hby at_189)) ?_
    show WP p e below _ T0 (mkF m 190 #[.val (.int p0), .val (.int p1), .val (.int p2), .val (.int p3), .val (.int p4), .val (.int p5), .val (.int zN), .val (.int zn), .val (.double (FP.i2d p0)), .second, .val (.double (FP.i2d p1)), .second, .val (.double (FP.i2d p2)), .second, .val (.double (FP.i2d p3)), .second, .val (.double (FP.i2d p4)), .second, .val (.ref a), .val (.double (FP.i2d rv)), .second, .unset, .unset] [(.int (0 : Int32)), (.int (Int32.ofNat (own_cnt (own_gt rv) (own_xs p0 p1 p2 p3 p4) N)))])
    refine wp (fun _ => XS.iadd X0.here hx rfl (hb hby at_190) rfl) ?_
    show WP p e below _ T0 (mkF m 191 #[.val (.int p0), .val (.int p1), .val (.int p2), .val (.int p3), .val (.int p4), .val (.int p5), .val (.int zN), .val (.int zn), .val (.double (FP.i2d p0)), .second, .val (.double (FP.i2d p1)), .second, .val (.double (FP.i2d p2)), .second, .val (.double (FP.i2d p3)), .second, .val (.double (FP.i2d p4)), .second, .val (.ref a), .val (.double (FP.i2d rv)), .second, .unset, .unset] [(.int ((Int32.ofNat (own_cnt (own_gt rv) (own_xs p0 p1 p2 p3 p4) N)) + (0 : Int32)))])
    rw [Int32.add_zero]
    exact k _ X0 e0
set_option maxRecDepth 65536 in
set_option maxHeartbeats 4000000 in
theorem segH1 (p0 p1 p2 p3 p4 p5 zN zn : Int32) (a : Addr) (N n0 : Nat) (hzN : zN.toInt = (N : Int)) (hN1 : 1 ≤ N) (hN : N ≤ 5) (rv zg : Int32) (C : Cx p s m meth c Z a0 code 23 "com/example/placewright/placewright/plan/SimplexNthLargestPinLaw" "law" (some .boolean)) (X0 : Stand p l e room_1 s m args below meth c T0 locs 1 5) (e0 : T0.heap = h0)
    (k : ∀ T', Stand p l e room_1 s m args below meth c T' locs 1 5 → T'.heap = h0 → WP p e below Q T' (mkF m 218 #[.val (.int p0), .val (.int p1), .val (.int p2), .val (.int p3), .val (.int p4), .val (.int p5), .val (.int zN), .val (.int zn), .val (.double (FP.i2d p0)), .second, .val (.double (FP.i2d p1)), .second, .val (.double (FP.i2d p2)), .second, .val (.double (FP.i2d p3)), .second, .val (.double (FP.i2d p4)), .second, .val (.ref a), .val (.double (FP.i2d rv)), .second, .val (.int zg), .unset] [(.int (Int32.ofNat (own_cnt (own_ge rv) (own_xs p0 p1 p2 p3 p4) (min 2 N))))])) : WP p e below Q T0 (mkF m 200 #[.val (.int p0), .val (.int p1), .val (.int p2), .val (.int p3), .val (.int p4), .val (.int p5), .val (.int zN), .val (.int zn), .val (.double (FP.i2d p0)), .second, .val (.double (FP.i2d p1)), .second, .val (.double (FP.i2d p2)), .second, .val (.double (FP.i2d p3)), .second, .val (.double (FP.i2d p4)), .second, .val (.ref a), .val (.double (FP.i2d rv)), .second, .val (.int zg), .unset] [(.int (Int32.ofNat (own_cnt (own_ge rv) (own_xs p0 p1 p2 p3 p4) (min 1 N))))]) := by
  obtain ⟨hx, hZ, hw, hby, hml, hown, hnm, hret, hlk⟩ := id C
  have L0 := @Int32.lt_iff_toInt_lt
  have ht : (1 : Int32).toInt = 1 := rfl
  show WP p e below _ T0 (mkF m 200 #[.val (.int p0), .val (.int p1), .val (.int p2), .val (.int p3), .val (.int p4), .val (.int p5), .val (.int zN), .val (.int zn), .val (.double (FP.i2d p0)), .second, .val (.double (FP.i2d p1)), .second, .val (.double (FP.i2d p2)), .second, .val (.double (FP.i2d p3)), .second, .val (.double (FP.i2d p4)), .second, .val (.ref a), .val (.double (FP.i2d rv)), .second, .val (.int zg), .unset] [(.int (Int32.ofNat (own_cnt (own_ge rv) (own_xs p0 p1 p2 p3 p4) (min 1 N))))])
  refine wp (fun _ => XS.iload X0.here hx rfl (hb hby at_200) rfl) ?_
  show WP p e below _ T0 (mkF m 202 #[.val (.int p0), .val (.int p1), .val (.int p2), .val (.int p3), .val (.int p4), .val (.int p5), .val (.int zN), .val (.int zn), .val (.double (FP.i2d p0)), .second, .val (.double (FP.i2d p1)), .second, .val (.double (FP.i2d p2)), .second, .val (.double (FP.i2d p3)), .second, .val (.double (FP.i2d p4)), .second, .val (.ref a), .val (.double (FP.i2d rv)), .second, .val (.int zg), .unset] [(.int zN), (.int (Int32.ofNat (own_cnt (own_ge rv) (own_xs p0 p1 p2 p3 p4) (min 1 N))))])
  refine wp (fun _ => XS.iconst X0.here hx rfl (hb hby at_202)) ?_
  show WP p e below _ T0 (mkF m 203 #[.val (.int p0), .val (.int p1), .val (.int p2), .val (.int p3), .val (.int p4), .val (.int p5), .val (.int zN), .val (.int zn), .val (.double (FP.i2d p0)), .second, .val (.double (FP.i2d p1)), .second, .val (.double (FP.i2d p2)), .second, .val (.double (FP.i2d p3)), .second, .val (.double (FP.i2d p4)), .second, .val (.ref a), .val (.double (FP.i2d rv)), .second, .val (.int zg), .unset] [(.int (1 : Int32)), (.int zN), (.int (Int32.ofNat (own_cnt (own_ge rv) (own_xs p0 p1 p2 p3 p4) (min 1 N))))])
  by_cases hc : (1 : Int32) < zN
  · rw [L0] at hc
    have m1 : min 1 N = 1 := by omega
    have m2 : min 2 N = 2 := by omega
    rw [m2] at k
    rw [m1]
    show WP p e below _ T0 (mkF m 203 #[.val (.int p0), .val (.int p1), .val (.int p2), .val (.int p3), .val (.int p4), .val (.int p5), .val (.int zN), .val (.int zn), .val (.double (FP.i2d p0)), .second, .val (.double (FP.i2d p1)), .second, .val (.double (FP.i2d p2)), .second, .val (.double (FP.i2d p3)), .second, .val (.double (FP.i2d p4)), .second, .val (.ref a), .val (.double (FP.i2d rv)), .second, .val (.int zg), .unset] [(.int (1 : Int32)), (.int zN), (.int (Int32.ofNat (own_cnt (own_ge rv) (own_xs p0 p1 p2 p3 p4) 1)))])
    refine wp (fun _ => XS.icmpNo X0.here hx rfl (hb hby at_203) rfl (XT.ii_le_f (L0.mpr hc))) ?_
    show WP p e below _ T0 (mkF m 206 #[.val (.int p0), .val (.int p1), .val (.int p2), .val (.int p3), .val (.int p4), .val (.int p5), .val (.int zN), .val (.int zn), .val (.double (FP.i2d p0)), .second, .val (.double (FP.i2d p1)), .second, .val (.double (FP.i2d p2)), .second, .val (.double (FP.i2d p3)), .second, .val (.double (FP.i2d p4)), .second, .val (.ref a), .val (.double (FP.i2d rv)), .second, .val (.int zg), .unset] [(.int (Int32.ofNat (own_cnt (own_ge rv) (own_xs p0 p1 p2 p3 p4) 1)))])
    refine wp (fun _ => XS.dload X0.here hx rfl (hb hby at_206) rfl) ?_
    show WP p e below _ T0 (mkF m 208 #[.val (.int p0), .val (.int p1), .val (.int p2), .val (.int p3), .val (.int p4), .val (.int p5), .val (.int zN), .val (.int zn), .val (.double (FP.i2d p0)), .second, .val (.double (FP.i2d p1)), .second, .val (.double (FP.i2d p2)), .second, .val (.double (FP.i2d p3)), .second, .val (.double (FP.i2d p4)), .second, .val (.ref a), .val (.double (FP.i2d rv)), .second, .val (.int zg), .unset] [(.double (FP.i2d p1)), (.int (Int32.ofNat (own_cnt (own_ge rv) (own_xs p0 p1 p2 p3 p4) 1)))])
    refine wp (fun _ => XS.dload X0.here hx rfl (hb hby at_208) rfl) ?_
    show WP p e below _ T0 (mkF m 210 #[.val (.int p0), .val (.int p1), .val (.int p2), .val (.int p3), .val (.int p4), .val (.int p5), .val (.int zN), .val (.int zn), .val (.double (FP.i2d p0)), .second, .val (.double (FP.i2d p1)), .second, .val (.double (FP.i2d p2)), .second, .val (.double (FP.i2d p3)), .second, .val (.double (FP.i2d p4)), .second, .val (.ref a), .val (.double (FP.i2d rv)), .second, .val (.int zg), .unset] [(.double (FP.i2d rv)), (.double (FP.i2d p1)), (.int (Int32.ofNat (own_cnt (own_ge rv) (own_xs p0 p1 p2 p3 p4) 1)))])
    refine wp_staticP C X0 e0 (argsL := [(.double (FP.i2d p1)), (.double (FP.i2d rv))]) (rest := [(.int (Int32.ofNat (own_cnt (own_ge rv) (own_xs p0 p1 p2 p3 p4) 1)))]) (rm_al l Z a0 hw [] p1 rv h0) (hw _ (List.mem_of_getElem? (i := 10) rfl)) (hw _ (List.mem_of_getElem? (i := 11) rfl)) (hw _ (List.mem_of_getElem? (i := 8) rfl)) (hw _ (List.mem_of_getElem? (i := 12) rfl)) (by decide) rfl (lenOf pd_al rfl) at_210 rfl rfl rfl (by decide) (Nat.le_of_ble_eq_true rfl) (by decide) (by decide) ?_
    intro T1 X1 e1
    show WP p e below _ T1 (mkF m 213 #[.val (.int p0), .val (.int p1), .val (.int p2), .val (.int p3), .val (.int p4), .val (.int p5), .val (.int zN), .val (.int zn), .val (.double (FP.i2d p0)), .second, .val (.double (FP.i2d p1)), .second, .val (.double (FP.i2d p2)), .second, .val (.double (FP.i2d p3)), .second, .val (.double (FP.i2d p4)), .second, .val (.ref a), .val (.double (FP.i2d rv)), .second, .val (.int zg), .unset] [(.int (own_bit (own_ge rv ((own_xs p0 p1 p2 p3 p4) 1)))), (.int (Int32.ofNat (own_cnt (own_ge rv) (own_xs p0 p1 p2 p3 p4) 1)))])
    refine wp (fun _ => XS.goto X1.here hx rfl (pc0 := 213) (pc' := 217) rfl (hb hby at_213) (by decide) (by decide)) ?_
    show WP p e below _ T1 (mkF m 217 #[.val (.int p0), .val (.int p1), .val (.int p2), .val (.int p3), .val (.int p4), .val (.int p5), .val (.int zN), .val (.int zn), .val (.double (FP.i2d p0)), .second, .val (.double (FP.i2d p1)), .second, .val (.double (FP.i2d p2)), .second, .val (.double (FP.i2d p3)), .second, .val (.double (FP.i2d p4)), .second, .val (.ref a), .val (.double (FP.i2d rv)), .second, .val (.int zg), .unset] [(.int (own_bit (own_ge rv ((own_xs p0 p1 p2 p3 p4) 1)))), (.int (Int32.ofNat (own_cnt (own_ge rv) (own_xs p0 p1 p2 p3 p4) 1)))])
    refine wp (fun _ => XS.iadd X1.here hx rfl (hb hby at_217) rfl) ?_
    show WP p e below _ T1 (mkF m 218 #[.val (.int p0), .val (.int p1), .val (.int p2), .val (.int p3), .val (.int p4), .val (.int p5), .val (.int zN), .val (.int zn), .val (.double (FP.i2d p0)), .second, .val (.double (FP.i2d p1)), .second, .val (.double (FP.i2d p2)), .second, .val (.double (FP.i2d p3)), .second, .val (.double (FP.i2d p4)), .second, .val (.ref a), .val (.double (FP.i2d rv)), .second, .val (.int zg), .unset] [(.int ((Int32.ofNat (own_cnt (own_ge rv) (own_xs p0 p1 p2 p3 p4) 1)) + (own_bit (own_ge rv ((own_xs p0 p1 p2 p3 p4) 1)))))])
    rw [own_bit_add]
    exact k _ X1 e1
  · rw [L0] at hc
    have m1 : min 1 N = N := by omega
    have m2 : min 2 N = N := by omega
    rw [m2] at k
    rw [m1]
    show WP p e below _ T0 (mkF m 203 #[.val (.int p0), .val (.int p1), .val (.int p2), .val (.int p3), .val (.int p4), .val (.int p5), .val (.int zN), .val (.int zn), .val (.double (FP.i2d p0)), .second, .val (.double (FP.i2d p1)), .second, .val (.double (FP.i2d p2)), .second, .val (.double (FP.i2d p3)), .second, .val (.double (FP.i2d p4)), .second, .val (.ref a), .val (.double (FP.i2d rv)), .second, .val (.int zg), .unset] [(.int (1 : Int32)), (.int zN), (.int (Int32.ofNat (own_cnt (own_ge rv) (own_xs p0 p1 p2 p3 p4) N)))])
    refine wp (fun _ => XS.icmpYes X0.here hx rfl (pc0 := 203) (pc' := 216) rfl (hb hby at_203) rfl (XT.ii_le_t (fun q => hc (L0.mp q))) (by decide) (by decide)) ?_
    show WP p e below _ T0 (mkF m 216 #[.val (.int p0), .val (.int p1), .val (.int p2), .val (.int p3), .val (.int p4), .val (.int p5), .val (.int zN), .val (.int zn), .val (.double (FP.i2d p0)), .second, .val (.double (FP.i2d p1)), .second, .val (.double (FP.i2d p2)), .second, .val (.double (FP.i2d p3)), .second, .val (.double (FP.i2d p4)), .second, .val (.ref a), .val (.double (FP.i2d rv)), .second, .val (.int zg), .unset] [(.int (Int32.ofNat (own_cnt (own_ge rv) (own_xs p0 p1 p2 p3 p4) N)))])
    refine wp (fun _ => XS.iconst X0.here hx rfl (hb hby at_216)) ?_
    show WP p e below _ T0 (mkF m 217 #[.val (.int p0), .val (.int p1), .val (.int p2), .val (.int p3), .val (.int p4), .val (.int p5), .val (.int zN), .val (.int zn), .val (.double (FP.i2d p0)), .second, .val (.double (FP.i2d p1)), .second, .val (.double (FP.i2d p2)), .second, .val (.double (FP.i2d p3)), .second, .val (.double (FP.i2d p4)), .second, .val (.ref a), .val (.double (FP.i2d rv)), .second, .val (.int zg), .unset] [(.int (0 : Int32)), (.int (Int32.ofNat (own_cnt (own_ge rv) (own_xs p0 p1 p2 p3 p4) N)))])
    refine wp (fun _ => XS.iadd X0.here hx rfl (hb hby at_217) rfl) ?_
    show WP p e below _ T0 (mkF m 218 #[.val (.int p0), .val (.int p1), .val (.int p2), .val (.int p3), .val (.int p4), .val (.int p5), .val (.int zN), .val (.int zn), .val (.double (FP.i2d p0)), .second, .val (.double (FP.i2d p1)), .second, .val (.double (FP.i2d p2)), .second, .val (.double (FP.i2d p3)), .second, .val (.double (FP.i2d p4)), .second, .val (.ref a), .val (.double (FP.i2d rv)), .second, .val (.int zg), .unset] [(.int ((Int32.ofNat (own_cnt (own_ge rv) (own_xs p0 p1 p2 p3 p4) N)) + (0 : Int32)))])
    rw [Int32.add_zero]
    exact k _ X0 e0
set_option maxRecDepth 65536 in
set_option maxHeartbeats 4000000 in
theorem segH2 (p0 p1 p2 p3 p4 p5 zN zn : Int32) (a : Addr) (N n0 : Nat) (hzN : zN.toInt = (N : Int)) (hN1 : 1 ≤ N) (hN : N ≤ 5) (rv zg : Int32) (C : Cx p s m meth c Z a0 code 23 "com/example/placewright/placewright/plan/SimplexNthLargestPinLaw" "law" (some .boolean)) (X0 : Stand p l e room_1 s m args below meth c T0 locs 1 5) (e0 : T0.heap = h0)
    (k : ∀ T', Stand p l e room_1 s m args below meth c T' locs 1 5 → T'.heap = h0 → WP p e below Q T' (mkF m 236 #[.val (.int p0), .val (.int p1), .val (.int p2), .val (.int p3), .val (.int p4), .val (.int p5), .val (.int zN), .val (.int zn), .val (.double (FP.i2d p0)), .second, .val (.double (FP.i2d p1)), .second, .val (.double (FP.i2d p2)), .second, .val (.double (FP.i2d p3)), .second, .val (.double (FP.i2d p4)), .second, .val (.ref a), .val (.double (FP.i2d rv)), .second, .val (.int zg), .unset] [(.int (Int32.ofNat (own_cnt (own_ge rv) (own_xs p0 p1 p2 p3 p4) (min 3 N))))])) : WP p e below Q T0 (mkF m 218 #[.val (.int p0), .val (.int p1), .val (.int p2), .val (.int p3), .val (.int p4), .val (.int p5), .val (.int zN), .val (.int zn), .val (.double (FP.i2d p0)), .second, .val (.double (FP.i2d p1)), .second, .val (.double (FP.i2d p2)), .second, .val (.double (FP.i2d p3)), .second, .val (.double (FP.i2d p4)), .second, .val (.ref a), .val (.double (FP.i2d rv)), .second, .val (.int zg), .unset] [(.int (Int32.ofNat (own_cnt (own_ge rv) (own_xs p0 p1 p2 p3 p4) (min 2 N))))]) := by
  obtain ⟨hx, hZ, hw, hby, hml, hown, hnm, hret, hlk⟩ := id C
  have L0 := @Int32.lt_iff_toInt_lt
  have ht : (2 : Int32).toInt = 2 := rfl
  show WP p e below _ T0 (mkF m 218 #[.val (.int p0), .val (.int p1), .val (.int p2), .val (.int p3), .val (.int p4), .val (.int p5), .val (.int zN), .val (.int zn), .val (.double (FP.i2d p0)), .second, .val (.double (FP.i2d p1)), .second, .val (.double (FP.i2d p2)), .second, .val (.double (FP.i2d p3)), .second, .val (.double (FP.i2d p4)), .second, .val (.ref a), .val (.double (FP.i2d rv)), .second, .val (.int zg), .unset] [(.int (Int32.ofNat (own_cnt (own_ge rv) (own_xs p0 p1 p2 p3 p4) (min 2 N))))])
  refine wp (fun _ => XS.iload X0.here hx rfl (hb hby at_218) rfl) ?_
  show WP p e below _ T0 (mkF m 220 #[.val (.int p0), .val (.int p1), .val (.int p2), .val (.int p3), .val (.int p4), .val (.int p5), .val (.int zN), .val (.int zn), .val (.double (FP.i2d p0)), .second, .val (.double (FP.i2d p1)), .second, .val (.double (FP.i2d p2)), .second, .val (.double (FP.i2d p3)), .second, .val (.double (FP.i2d p4)), .second, .val (.ref a), .val (.double (FP.i2d rv)), .second, .val (.int zg), .unset] [(.int zN), (.int (Int32.ofNat (own_cnt (own_ge rv) (own_xs p0 p1 p2 p3 p4) (min 2 N))))])
  refine wp (fun _ => XS.iconst X0.here hx rfl (hb hby at_220)) ?_
  show WP p e below _ T0 (mkF m 221 #[.val (.int p0), .val (.int p1), .val (.int p2), .val (.int p3), .val (.int p4), .val (.int p5), .val (.int zN), .val (.int zn), .val (.double (FP.i2d p0)), .second, .val (.double (FP.i2d p1)), .second, .val (.double (FP.i2d p2)), .second, .val (.double (FP.i2d p3)), .second, .val (.double (FP.i2d p4)), .second, .val (.ref a), .val (.double (FP.i2d rv)), .second, .val (.int zg), .unset] [(.int (2 : Int32)), (.int zN), (.int (Int32.ofNat (own_cnt (own_ge rv) (own_xs p0 p1 p2 p3 p4) (min 2 N))))])
  by_cases hc : (2 : Int32) < zN
  · rw [L0] at hc
    have m1 : min 2 N = 2 := by omega
    have m2 : min 3 N = 3 := by omega
    rw [m2] at k
    rw [m1]
    show WP p e below _ T0 (mkF m 221 #[.val (.int p0), .val (.int p1), .val (.int p2), .val (.int p3), .val (.int p4), .val (.int p5), .val (.int zN), .val (.int zn), .val (.double (FP.i2d p0)), .second, .val (.double (FP.i2d p1)), .second, .val (.double (FP.i2d p2)), .second, .val (.double (FP.i2d p3)), .second, .val (.double (FP.i2d p4)), .second, .val (.ref a), .val (.double (FP.i2d rv)), .second, .val (.int zg), .unset] [(.int (2 : Int32)), (.int zN), (.int (Int32.ofNat (own_cnt (own_ge rv) (own_xs p0 p1 p2 p3 p4) 2)))])
    refine wp (fun _ => XS.icmpNo X0.here hx rfl (hb hby at_221) rfl (XT.ii_le_f (L0.mpr hc))) ?_
    show WP p e below _ T0 (mkF m 224 #[.val (.int p0), .val (.int p1), .val (.int p2), .val (.int p3), .val (.int p4), .val (.int p5), .val (.int zN), .val (.int zn), .val (.double (FP.i2d p0)), .second, .val (.double (FP.i2d p1)), .second, .val (.double (FP.i2d p2)), .second, .val (.double (FP.i2d p3)), .second, .val (.double (FP.i2d p4)), .second, .val (.ref a), .val (.double (FP.i2d rv)), .second, .val (.int zg), .unset] [(.int (Int32.ofNat (own_cnt (own_ge rv) (own_xs p0 p1 p2 p3 p4) 2)))])
    refine wp (fun _ => XS.dload X0.here hx rfl (hb hby at_224) rfl) ?_
    show WP p e below _ T0 (mkF m 226 #[.val (.int p0), .val (.int p1), .val (.int p2), .val (.int p3), .val (.int p4), .val (.int p5), .val (.int zN), .val (.int zn), .val (.double (FP.i2d p0)), .second, .val (.double (FP.i2d p1)), .second, .val (.double (FP.i2d p2)), .second, .val (.double (FP.i2d p3)), .second, .val (.double (FP.i2d p4)), .second, .val (.ref a), .val (.double (FP.i2d rv)), .second, .val (.int zg), .unset] [(.double (FP.i2d p2)), (.int (Int32.ofNat (own_cnt (own_ge rv) (own_xs p0 p1 p2 p3 p4) 2)))])
    refine wp (fun _ => XS.dload X0.here hx rfl (hb hby at_226) rfl) ?_
    show WP p e below _ T0 (mkF m 228 #[.val (.int p0), .val (.int p1), .val (.int p2), .val (.int p3), .val (.int p4), .val (.int p5), .val (.int zN), .val (.int zn), .val (.double (FP.i2d p0)), .second, .val (.double (FP.i2d p1)), .second, .val (.double (FP.i2d p2)), .second, .val (.double (FP.i2d p3)), .second, .val (.double (FP.i2d p4)), .second, .val (.ref a), .val (.double (FP.i2d rv)), .second, .val (.int zg), .unset] [(.double (FP.i2d rv)), (.double (FP.i2d p2)), (.int (Int32.ofNat (own_cnt (own_ge rv) (own_xs p0 p1 p2 p3 p4) 2)))])
    refine wp_staticP C X0 e0 (argsL := [(.double (FP.i2d p2)), (.double (FP.i2d rv))]) (rest := [(.int (Int32.ofNat (own_cnt (own_ge rv) (own_xs p0 p1 p2 p3 p4) 2)))]) (rm_al l Z a0 hw [] p2 rv h0) (hw _ (List.mem_of_getElem? (i := 10) rfl)) (hw _ (List.mem_of_getElem? (i := 11) rfl)) (hw _ (List.mem_of_getElem? (i := 8) rfl)) (hw _ (List.mem_of_getElem? (i := 12) rfl)) (by decide) rfl (lenOf pd_al rfl) at_228 rfl rfl rfl (by decide) (Nat.le_of_ble_eq_true rfl) (by decide) (by decide) ?_
    intro T1 X1 e1
    show WP p e below _ T1 (mkF m 231 #[.val (.int p0), .val (.int p1), .val (.int p2), .val (.int p3), .val (.int p4), .val (.int p5), .val (.int zN), .val (.int zn), .val (.double (FP.i2d p0)), .second, .val (.double (FP.i2d p1)), .second, .val (.double (FP.i2d p2)), .second, .val (.double (FP.i2d p3)), .second, .val (.double (FP.i2d p4)), .second, .val (.ref a), .val (.double (FP.i2d rv)), .second, .val (.int zg), .unset] [(.int (own_bit (own_ge rv ((own_xs p0 p1 p2 p3 p4) 2)))), (.int (Int32.ofNat (own_cnt (own_ge rv) (own_xs p0 p1 p2 p3 p4) 2)))])
    refine wp (fun _ => XS.goto X1.here hx rfl (pc0 := 231) (pc' := 235) rfl (hb hby at_231) (by decide) (by decide)) ?_
    show WP p e below _ T1 (mkF m 235 #[.val (.int p0), .val (.int p1), .val (.int p2), .val (.int p3), .val (.int p4), .val (.int p5), .val (.int zN), .val (.int zn), .val (.double (FP.i2d p0)), .second, .val (.double (FP.i2d p1)), .second, .val (.double (FP.i2d p2)), .second, .val (.double (FP.i2d p3)), .second, .val (.double (FP.i2d p4)), .second, .val (.ref a), .val (.double (FP.i2d rv)), .second, .val (.int zg), .unset] [(.int (own_bit (own_ge rv ((own_xs p0 p1 p2 p3 p4) 2)))), (.int (Int32.ofNat (own_cnt (own_ge rv) (own_xs p0 p1 p2 p3 p4) 2)))])
    refine wp (fun _ => XS.iadd X1.here hx rfl (hb hby at_235) rfl) ?_
    show WP p e below _ T1 (mkF m 236 #[.val (.int p0), .val (.int p1), .val (.int p2), .val (.int p3), .val (.int p4), .val (.int p5), .val (.int zN), .val (.int zn), .val (.double (FP.i2d p0)), .second, .val (.double (FP.i2d p1)), .second, .val (.double (FP.i2d p2)), .second, .val (.double (FP.i2d p3)), .second, .val (.double (FP.i2d p4)), .second, .val (.ref a), .val (.double (FP.i2d rv)), .second, .val (.int zg), .unset] [(.int ((Int32.ofNat (own_cnt (own_ge rv) (own_xs p0 p1 p2 p3 p4) 2)) + (own_bit (own_ge rv ((own_xs p0 p1 p2 p3 p4) 2)))))])
    rw [own_bit_add]
    exact k _ X1 e1
  · rw [L0] at hc
    have m1 : min 2 N = N := by omega
    have m2 : min 3 N = N := by omega
    rw [m2] at k
    rw [m1]
    show WP p e below _ T0 (mkF m 221 #[.val (.int p0), .val (.int p1), .val (.int p2), .val (.int p3), .val (.int p4), .val (.int p5), .val (.int zN), .val (.int zn), .val (.double (FP.i2d p0)), .second, .val (.double (FP.i2d p1)), .second, .val (.double (FP.i2d p2)), .second, .val (.double (FP.i2d p3)), .second, .val (.double (FP.i2d p4)), .second, .val (.ref a), .val (.double (FP.i2d rv)), .second, .val (.int zg), .unset] [(.int (2 : Int32)), (.int zN), (.int (Int32.ofNat (own_cnt (own_ge rv) (own_xs p0 p1 p2 p3 p4) N)))])
    refine wp (fun _ => XS.icmpYes X0.here hx rfl (pc0 := 221) (pc' := 234) rfl (hb hby at_221) rfl (XT.ii_le_t (fun q => hc (L0.mp q))) (by decide) (by decide)) ?_
    show WP p e below _ T0 (mkF m 234 #[.val (.int p0), .val (.int p1), .val (.int p2), .val (.int p3), .val (.int p4), .val (.int p5), .val (.int zN), .val (.int zn), .val (.double (FP.i2d p0)), .second, .val (.double (FP.i2d p1)), .second, .val (.double (FP.i2d p2)), .second, .val (.double (FP.i2d p3)), .second, .val (.double (FP.i2d p4)), .second, .val (.ref a), .val (.double (FP.i2d rv)), .second, .val (.int zg), .unset] [(.int (Int32.ofNat (own_cnt (own_ge rv) (own_xs p0 p1 p2 p3 p4) N)))])
    refine wp (fun _ => XS.iconst X0.here hx rfl (hb hby at_234)) ?_
    show WP p e below _ T0 (mkF m 235 #[.val (.int p0), .val (.int p1), .val (.int p2), .val (.int p3), .val (.int p4), .val (.int p5), .val (.int zN), .val (.int zn), .val (.double (FP.i2d p0)), .second, .val (.double (FP.i2d p1)), .second, .val (.double (FP.i2d p2)), .second, .val (.double (FP.i2d p3)), .second, .val (.double (FP.i2d p4)), .second, .val (.ref a), .val (.double (FP.i2d rv)), .second, .val (.int zg), .unset] [(.int (0 : Int32)), (.int (Int32.ofNat (own_cnt (own_ge rv) (own_xs p0 p1 p2 p3 p4) N)))])
    refine wp (fun _ => XS.iadd X0.here hx rfl (hb hby at_235) rfl) ?_
    show WP p e below _ T0 (mkF m 236 #[.val (.int p0), .val (.int p1), .val (.int p2), .val (.int p3), .val (.int p4), .val (.int p5), .val (.int zN), .val (.int zn), .val (.double (FP.i2d p0)), .second, .val (.double (FP.i2d p1)), .second, .val (.double (FP.i2d p2)), .second, .val (.double (FP.i2d p3)), .second, .val (.double (FP.i2d p4)), .second, .val (.ref a), .val (.double (FP.i2d rv)), .second, .val (.int zg), .unset] [(.int ((Int32.ofNat (own_cnt (own_ge rv) (own_xs p0 p1 p2 p3 p4) N)) + (0 : Int32)))])
    rw [Int32.add_zero]
    exact k _ X0 e0
set_option maxRecDepth 65536 in
set_option maxHeartbeats 4000000 in
theorem segH3 (p0 p1 p2 p3 p4 p5 zN zn : Int32) (a : Addr) (N n0 : Nat) (hzN : zN.toInt = (N : Int)) (hN1 : 1 ≤ N) (hN : N ≤ 5) (rv zg : Int32) (C : Cx p s m meth c Z a0 code 23 "com/example/placewright/placewright/plan/SimplexNthLargestPinLaw" "law" (some .boolean)) (X0 : Stand p l e room_1 s m args below meth c T0 locs 1 5) (e0 : T0.heap = h0)
    (k : ∀ T', Stand p l e room_1 s m args below meth c T' locs 1 5 → T'.heap = h0 → WP p e below Q T' (mkF m 254 #[.val (.int p0), .val (.int p1), .val (.int p2), .val (.int p3), .val (.int p4), .val (.int p5), .val (.int zN), .val (.int zn), .val (.double (FP.i2d p0)), .second, .val (.double (FP.i2d p1)), .second, .val (.double (FP.i2d p2)), .second, .val (.double (FP.i2d p3)), .second, .val (.double (FP.i2d p4)), .second, .val (.ref a), .val (.double (FP.i2d rv)), .second, .val (.int zg), .unset] [(.int (Int32.ofNat (own_cnt (own_ge rv) (own_xs p0 p1 p2 p3 p4) (min 4 N))))])) : WP p e below Q T0 (mkF m 236 #[.val (.int p0), .val (.int p1), .val (.int p2), .val (.int p3), .val (.int p4), .val (.int p5), .val (.int zN), .val (.int zn), .val (.double (FP.i2d p0)), .second, .val (.double (FP.i2d p1)), .second, .val (.double (FP.i2d p2)), .second, .val (.double (FP.i2d p3)), .second, .val (.double (FP.i2d p4)), .second, .val (.ref a), .val (.double (FP.i2d rv)), .second, .val (.int zg), .unset] [(.int (Int32.ofNat (own_cnt (own_ge rv) (own_xs p0 p1 p2 p3 p4) (min 3 N))))]) := by
  obtain ⟨hx, hZ, hw, hby, hml, hown, hnm, hret, hlk⟩ := id C
  have L0 := @Int32.lt_iff_toInt_lt
  have ht : (3 : Int32).toInt = 3 := rfl
  show WP p e below _ T0 (mkF m 236 #[.val (.int p0), .val (.int p1), .val (.int p2), .val (.int p3), .val (.int p4), .val (.int p5), .val (.int zN), .val (.int zn), .val (.double (FP.i2d p0)), .second, .val (.double (FP.i2d p1)), .second, .val (.double (FP.i2d p2)), .second, .val (.double (FP.i2d p3)), .second, .val (.double (FP.i2d p4)), .second, .val (.ref a), .val (.double (FP.i2d rv)), .second, .val (.int zg), .unset] [(.int (Int32.ofNat (own_cnt (own_ge rv) (own_xs p0 p1 p2 p3 p4) (min 3 N))))])
  refine wp (fun _ => XS.iload X0.here hx rfl (hb hby at_236) rfl) ?_
  show WP p e below _ T0 (mkF m 238 #[.val (.int p0), .val (.int p1), .val (.int p2), .val (.int p3), .val (.int p4), .val (.int p5), .val (.int zN), .val (.int zn), .val (.double (FP.i2d p0)), .second, .val (.double (FP.i2d p1)), .second, .val (.double (FP.i2d p2)), .second, .val (.double (FP.i2d p3)), .second, .val (.double (FP.i2d p4)), .second, .val (.ref a), .val (.double (FP.i2d rv)), .second, .val (.int zg), .unset] [(.int zN), (.int (Int32.ofNat (own_cnt (own_ge rv) (own_xs p0 p1 p2 p3 p4) (min 3 N))))])
  refine wp (fun _ => XS.iconst X0.here hx rfl (hb hby at_238)) ?_
  show WP p e below _ T0 (mkF m 239 #[.val (.int p0), .val (.int p1), .val (.int p2), .val (.int p3), .val (.int p4), .val (.int p5), .val (.int zN), .val (.int zn), .val (.double (FP.i2d p0)), .second, .val (.double (FP.i2d p1)), .second, .val (.double (FP.i2d p2)), .second, .val (.double (FP.i2d p3)), .second, .val (.double (FP.i2d p4)), .second, .val (.ref a), .val (.double (FP.i2d rv)), .second, .val (.int zg), .unset] [(.int (3 : Int32)), (.int zN), (.int (Int32.ofNat (own_cnt (own_ge rv) (own_xs p0 p1 p2 p3 p4) (min 3 N))))])
  by_cases hc : (3 : Int32) < zN
  · rw [L0] at hc
    have m1 : min 3 N = 3 := by omega
    have m2 : min 4 N = 4 := by omega
    rw [m2] at k
    rw [m1]
    show WP p e below _ T0 (mkF m 239 #[.val (.int p0), .val (.int p1), .val (.int p2), .val (.int p3), .val (.int p4), .val (.int p5), .val (.int zN), .val (.int zn), .val (.double (FP.i2d p0)), .second, .val (.double (FP.i2d p1)), .second, .val (.double (FP.i2d p2)), .second, .val (.double (FP.i2d p3)), .second, .val (.double (FP.i2d p4)), .second, .val (.ref a), .val (.double (FP.i2d rv)), .second, .val (.int zg), .unset] [(.int (3 : Int32)), (.int zN), (.int (Int32.ofNat (own_cnt (own_ge rv) (own_xs p0 p1 p2 p3 p4) 3)))])
    refine wp (fun _ => XS.icmpNo X0.here hx rfl (hb hby at_239) rfl (XT.ii_le_f (L0.mpr hc))) ?_
    show WP p e below _ T0 (mkF m 242 #[.val (.int p0), .val (.int p1), .val (.int p2), .val (.int p3), .val (.int p4), .val (.int p5), .val (.int zN), .val (.int zn), .val (.double (FP.i2d p0)), .second, .val (.double (FP.i2d p1)), .second, .val (.double (FP.i2d p2)), .second, .val (.double (FP.i2d p3)), .second, .val (.double (FP.i2d p4)), .second, .val (.ref a), .val (.double (FP.i2d rv)), .second, .val (.int zg), .unset] [(.int (Int32.ofNat (own_cnt (own_ge rv) (own_xs p0 p1 p2 p3 p4) 3)))])
    refine wp (fun _ => XS.dload X0.here hx rfl (hb hby at_242) rfl) ?_
    show WP p e below _ T0 (mkF m 244 #[.val (.int p0), .val (.int p1), .val (.int p2), .val (.int p3), .val (.int p4), .val (.int p5), .val (.int zN), .val (.int zn), .val (.double (FP.i2d p0)), .second, .val (.double (FP.i2d p1)), .second, .val (.double (FP.i2d p2)), .second, .val (.double (FP.i2d p3)), .second, .val (.double (FP.i2d p4)), .second, .val (.ref a), .val (.double (FP.i2d rv)), .second, .val (.int zg), .unset] [(.double (FP.i2d p3)), (.int (Int32.ofNat (own_cnt (own_ge rv) (own_xs p0 p1 p2 p3 p4) 3)))])
    refine wp (fun _ => XS.dload X0.here hx rfl (hb hby at_244) rfl) ?_
    show WP p e below _ T0 (mkF m 246 #[.val (.int p0), .val (.int p1), .val (.int p2), .val (.int p3), .val (.int p4), .val (.int p5), .val (.int zN), .val (.int zn), .val (.double (FP.i2d p0)), .second, .val (.double (FP.i2d p1)), .second, .val (.double (FP.i2d p2)), .second, .val (.double (FP.i2d p3)), .second, .val (.double (FP.i2d p4)), .second, .val (.ref a), .val (.double (FP.i2d rv)), .second, .val (.int zg), .unset] [(.double (FP.i2d rv)), (.double (FP.i2d p3)), (.int (Int32.ofNat (own_cnt (own_ge rv) (own_xs p0 p1 p2 p3 p4) 3)))])
    refine wp_staticP C X0 e0 (argsL := [(.double (FP.i2d p3)), (.double (FP.i2d rv))]) (rest := [(.int (Int32.ofNat (own_cnt (own_ge rv) (own_xs p0 p1 p2 p3 p4) 3)))]) (rm_al l Z a0 hw [] p3 rv h0) (hw _ (List.mem_of_getElem? (i := 10) rfl)) (hw _ (List.mem_of_getElem? (i := 11) rfl)) (hw _ (List.mem_of_getElem? (i := 8) rfl)) (hw _ (List.mem_of_getElem? (i := 12) rfl)) (by decide) rfl (lenOf pd_al rfl) at_246 rfl rfl rfl (by decide) (Nat.le_of_ble_eq_true rfl) (by decide) (by decide) ?_
    intro T1 X1 e1
    show WP p e below _ T1 (mkF m 249 #[.val (.int p0), .val (.int p1), .val (.int p2), .val (.int p3), .val (.int p4), .val (.int p5), .val (.int zN), .val (.int zn), .val (.double (FP.i2d p0)), .second, .val (.double (FP.i2d p1)), .second, .val (.double (FP.i2d p2)), .second, .val (.double (FP.i2d p3)), .second, .val (.double (FP.i2d p4)), .second, .val (.ref a), .val (.double (FP.i2d rv)), .second, .val (.int zg), .unset] [(.int (own_bit (own_ge rv ((own_xs p0 p1 p2 p3 p4) 3)))), (.int (Int32.ofNat (own_cnt (own_ge rv) (own_xs p0 p1 p2 p3 p4) 3)))])
    refine wp (fun _ => XS.goto X1.here hx rfl (pc0 := 249) (pc' := 253) rfl (hb hby at_249) (by decide) (by decide)) ?_
    show WP p e below _ T1 (mkF m 253 #[.val (.int p0), .val (.int p1), .val (.int p2), .val (.int p3), .val (.int p4), .val (.int p5), .val (.int zN), .val (.int zn), .val (.double (FP.i2d p0)), .second, .val (.double (FP.i2d p1)), .second, .val (.double (FP.i2d p2)), .second, .val (.double (FP.i2d p3)), .second, .val (.double (FP.i2d p4)), .second, .val (.ref a), .val (.double (FP.i2d rv)), .second, .val (.int zg), .unset] [(.int (own_bit (own_ge rv ((own_xs p0 p1 p2 p3 p4) 3)))), (.int (Int32.ofNat (own_cnt (own_ge rv) (own_xs p0 p1 p2 p3 p4) 3)))])
    refine wp (fun _ => XS.iadd X1.here hx rfl (hb hby at_253) rfl) ?_
    show WP p e below _ T1 (mkF m 254 #[.val (.int p0), .val (.int p1), .val (.int p2), .val (.int p3), .val (.int p4), .val (.int p5), .val (.int zN), .val (.int zn), .val (.double (FP.i2d p0)), .second, .val (.double (FP.i2d p1)), .second, .val (.double (FP.i2d p2)), .second, .val (.double (FP.i2d p3)), .second, .val (.double (FP.i2d p4)), .second, .val (.ref a), .val (.double (FP.i2d rv)), .second, .val (.int zg), .unset] [(.int ((Int32.ofNat (own_cnt (own_ge rv) (own_xs p0 p1 p2 p3 p4) 3)) + (own_bit (own_ge rv ((own_xs p0 p1 p2 p3 p4) 3)))))])
    rw [own_bit_add]
    exact k _ X1 e1
  · rw [L0] at hc
    have m1 : min 3 N = N := by omega
    have m2 : min 4 N = N := by omega
    rw [m2] at k
    rw [m1]
    show WP p e below _ T0 (mkF m 239 #[.val (.int p0), .val (.int p1), .val (.int p2), .val (.int p3), .val (.int p4), .val (.int p5), .val (.int zN), .val (.int zn), .val (.double (FP.i2d p0)), .second, .val (.double (FP.i2d p1)), .second, .val (.double (FP.i2d p2)), .second, .val (.double (FP.i2d p3)), .second, .val (.double (FP.i2d p4)), .second, .val (.ref a), .val (.double (FP.i2d rv)), .second, .val (.int zg), .unset] [(.int (3 : Int32)), (.int zN), (.int (Int32.ofNat (own_cnt (own_ge rv) (own_xs p0 p1 p2 p3 p4) N)))])
    refine wp (fun _ => XS.icmpYes X0.here hx rfl (pc0 := 239) (pc' := 252) rfl (hb hby at_239) rfl (XT.ii_le_t (fun q => hc (L0.mp q))) (by decide) (by decide)) ?_
    show WP p e below _ T0 (mkF m 252 #[.val (.int p0), .val (.int p1), .val (.int p2), .val (.int p3), .val (.int p4), .val (.int p5), .val (.int zN), .val (.int zn), .val (.double (FP.i2d p0)), .second, .val (.double (FP.i2d p1)), .second, .val (.double (FP.i2d p2)), .second, .val (.double (FP.i2d p3)), .second, .val (.double (FP.i2d p4)), .second, .val (.ref a), .val (.double (FP.i2d rv)), .second, .val (.int zg), .unset] [(.int (Int32.ofNat (own_cnt (own_ge rv) (own_xs p0 p1 p2 p3 p4) N)))])
    refine wp (fun _ => XS.iconst X0.here hx rfl (hb hby at_252)) ?_
    show WP p e below _ T0 (mkF m 253 #[.val (.int p0), .val (.int p1), .val (.int p2), .val (.int p3), .val (.int p4), .val (.int p5), .val (.int zN), .val (.int zn), .val (.double (FP.i2d p0)), .second, .val (.double (FP.i2d p1)), .second, .val (.double (FP.i2d p2)), .second, .val (.double (FP.i2d p3)), .second, .val (.double (FP.i2d p4)), .second, .val (.ref a), .val (.double (FP.i2d rv)), .second, .val (.int zg), .unset] [(.int (0 : Int32)), (.int (Int32.ofNat (own_cnt (own_ge rv) (own_xs p0 p1 p2 p3 p4) N)))])
    refine wp (fun _ => XS.iadd X0.here hx rfl (hb hby at_253) rfl) ?_
    show WP p e below _ T0 (mkF m 254 #[.val (.int p0), .val (.int p1), .val (.int p2), .val (.int p3), .val (.int p4), .val (.int p5), .val (.int zN), .val (.int zn), .val (.double (FP.i2d p0)), .second, .val (.double (FP.i2d p1)), .second, .val (.double (FP.i2d p2)), .second, .val (.double (FP.i2d p3)), .second, .val (.double (FP.i2d p4)), .second, .val (.ref a), .val (.double (FP.i2d rv)), .second, .val (.int zg), .unset] [(.int ((Int32.ofNat (own_cnt (own_ge rv) (own_xs p0 p1 p2 p3 p4) N)) + (0 : Int32)))])
    rw [Int32.add_zero]
    exact k _ X0 e0
set_option maxRecDepth 65536 in
set_option maxHeartbeats 4000000 in
theorem segH4 (p0 p1 p2 p3 p4 p5 zN zn : Int32) (a : Addr) (N n0 : Nat) (hzN : zN.toInt = (N : Int)) (hN1 : 1 ≤ N) (hN : N ≤ 5) (rv zg : Int32) (C : Cx p s m meth c Z a0 code 23 "com/example/placewright/placewright/plan/SimplexNthLargestPinLaw" "law" (some .boolean)) (X0 : Stand p l e room_1 s m args below meth c T0 locs 1 5) (e0 : T0.heap = h0)
    (k : ∀ T', Stand p l e room_1 s m args below meth c T' locs 1 5 → T'.heap = h0 → WP p e below Q T' (mkF m 272 #[.val (.int p0), .val (.int p1), .val (.int p2), .val (.int p3), .val (.int p4), .val (.int p5), .val (.int zN), .val (.int zn), .val (.double (FP.i2d p0)), .second, .val (.double (FP.i2d p1)), .second, .val (.double (FP.i2d p2)), .second, .val (.double (FP.i2d p3)), .second, .val (.double (FP.i2d p4)), .second, .val (.ref a), .val (.double (FP.i2d rv)), .second, .val (.int zg), .unset] [(.int (Int32.ofNat (own_cnt (own_ge rv) (own_xs p0 p1 p2 p3 p4) (min 5 N))))])) : WP p e below Q T0 (mkF m 254 #[.val (.int p0), .val (.int p1), .val (.int p2), .val (.int p3), .val (.int p4), .val (.int p5), .val (.int zN), .val (.int zn), .val (.double (FP.i2d p0)), .second, .val (.double (FP.i2d p1)), .second, .val (.double (FP.i2d p2)), .second, .val (.double (FP.i2d p3)), .second, .val (.double (FP.i2d p4)), .second, .val (.ref a), .val (.double (FP.i2d rv)), .second, .val (.int zg), .unset] [(.int (Int32.ofNat (own_cnt (own_ge rv) (own_xs p0 p1 p2 p3 p4) (min 4 N))))]) := by
  obtain ⟨hx, hZ, hw, hby, hml, hown, hnm, hret, hlk⟩ := id C
  have L0 := @Int32.lt_iff_toInt_lt
  have ht : (4 : Int32).toInt = 4 := rfl
  show WP p e below _ T0 (mkF m 254 #[.val (.int p0), .val (.int p1), .val (.int p2), .val (.int p3), .val (.int p4), .val (.int p5), .val (.int zN), .val (.int zn), .val (.double (FP.i2d p0)), .second, .val (.double (FP.i2d p1)), .second, .val (.double (FP.i2d p2)), .second, .val (.double (FP.i2d p3)), .second, .val (.double (FP.i2d p4)), .second, .val (.ref a), .val (.double (FP.i2d rv)), .second, .val (.int zg), .unset] [(.int (Int32.ofNat (own_cnt (own_ge rv) (own_xs p0 p1 p2 p3 p4) (min 4 N))))])
  refine wp (fun _ => XS.iload X0.here hx rfl (hb hby at_254) rfl) ?_
  show WP p e below _ T0 (mkF m 256 #[.val (.int p0), .val (.int p1), .val (.int p2), .val (.int p3), .val (.int p4), .val (.int p5), .val (.int zN), .val (.int zn), .val (.double (FP.i2d p0)), .second, .val (.double (FP.i2d p1)), .second, .val (.double (FP.i2d p2)), .second, .val (.double (FP.i2d p3)), .second, .val (.double (FP.i2d p4)), .second, .val (.ref a), .val (.double (FP.i2d rv)), .second, .val (.int zg), .unset] [(.int zN), (.int (Int32.ofNat (own_cnt (own_ge rv) (own_xs p0 p1 p2 p3 p4) (min 4 N))))])
  refine wp (fun _ => XS.iconst X0.here hx rfl (hb hby at_256)) ?_
  show WP p e below _ T0 (mkF m 257 #[.val (.int p0), .val (.int p1), .val (.int p2), .val (.int p3), .val (.int p4), .val (.int p5), .val (.int zN), .val (.int zn), .val (.double (FP.i2d p0)), .second, .val (.double (FP.i2d p1)), .second, .val (.double (FP.i2d p2)), .second, .val (.double (FP.i2d p3)), .second, .val (.double (FP.i2d p4)), .second, .val (.ref a), .val (.double (FP.i2d rv)), .second, .val (.int zg), .unset] [(.int (4 : Int32)), (.int zN), (.int (Int32.ofNat (own_cnt (own_ge rv) (own_xs p0 p1 p2 p3 p4) (min 4 N))))])
  by_cases hc : (4 : Int32) < zN
  · rw [L0] at hc
    have m1 : min 4 N = 4 := by omega
    have m2 : min 5 N = 5 := by omega
    rw [m2] at k
    rw [m1]
    show WP p e below _ T0 (mkF m 257 #[.val (.int p0), .val (.int p1), .val (.int p2), .val (.int p3), .val (.int p4), .val (.int p5), .val (.int zN), .val (.int zn), .val (.double (FP.i2d p0)), .second, .val (.double (FP.i2d p1)), .second, .val (.double (FP.i2d p2)), .second, .val (.double (FP.i2d p3)), .second, .val (.double (FP.i2d p4)), .second, .val (.ref a), .val (.double (FP.i2d rv)), .second, .val (.int zg), .unset] [(.int (4 : Int32)), (.int zN), (.int (Int32.ofNat (own_cnt (own_ge rv) (own_xs p0 p1 p2 p3 p4) 4)))])
    refine wp (fun _ => XS.icmpNo X0.here hx rfl (hb hby at_257) rfl (XT.ii_le_f (L0.mpr hc))) ?_
    show WP p e below _ T0 (mkF m 260 #[.val (.int p0), .val (.int p1), .val (.int p2), .val (.int p3), .val (.int p4), .val (.int p5), .val (.int zN), .val (.int zn), .val (.double (FP.i2d p0)), .second, .val (.double (FP.i2d p1)), .second, .val (.double (FP.i2d p2)), .second, .val (.double (FP.i2d p3)), .second, .val (.double (FP.i2d p4)), .second, .val (.ref a), .val (.double (FP.i2d rv)), .second, .val (.int zg), .unset] [(.int (Int32.ofNat (own_cnt (own_ge rv) (own_xs p0 p1 p2 p3 p4) 4)))])
    refine wp (fun _ => XS.dload X0.here hx rfl (hb hby at_260) rfl) ?_
    show WP p e below _ T0 (mkF m 262 #[.val (.int p0), .val (.int p1), .val (.int p2), .val (.int p3), .val (.int p4), .val (.int p5), .val (.int zN), .val (.int zn), .val (.double (FP.i2d p0)), .second, .val (.double (FP.i2d p1)), .second, .val (.double (FP.i2d p2)), .second, .val (.double (FP.i2d p3)), .second, .val (.double (FP.i2d p4)), .second, .val (.ref a), .val (.double (FP.i2d rv)), .second, .val (.int zg), .unset] [(.double (FP.i2d p4)), (.int (Int32.ofNat (own_cnt (own_ge rv) (own_xs p0 p1 p2 p3 p4) 4)))])
    refine wp (fun _ => XS.dload X0.here hx rfl (hb hby at_262) rfl) ?_
    show WP p e below _ T0 (mkF m 264 #[.val (.int p0), .val (.int p1), .val (.int p2), .val (.int p3), .val (.int p4), .val (.int p5), .val (.int zN), .val (.int zn), .val (.double (FP.i2d p0)), .second, .val (.double (FP.i2d p1)), .second, .val (.double (FP.i2d p2)), .second, .val (.double (FP.i2d p3)), .second, .val (.double (FP.i2d p4)), .second, .val (.ref a), .val (.double (FP.i2d rv)), .second, .val (.int zg), .unset] [(.double (FP.i2d rv)), (.double (FP.i2d p4)), (.int (Int32.ofNat (own_cnt (own_ge rv) (own_xs p0 p1 p2 p3 p4) 4)))])
    refine wp_staticP C X0 e0 (argsL := [(.double (FP.i2d p4)), (.double (FP.i2d rv))]) (rest := [(.int (Int32.ofNat (own_cnt (own_ge rv) (own_xs p0 p1 p2 p3 p4) 4)))]) (rm_al l Z a0 hw [] p4 rv h0) (hw _ (List.mem_of_getElem? (i := 10) rfl)) (hw _ (List.mem_of_getElem? (i := 11) rfl)) (hw _ (List.mem_of_getElem? (i := 8) rfl)) (hw _ (List.mem_of_getElem? (i := 12) rfl)) (by decide) rfl (lenOf pd_al rfl) at_264 rfl rfl rfl (by decide) (Nat.le_of_ble_eq_true rfl) (by decide) (by decide) ?_
    intro T1 X1 e1
    show WP p e below _ T1 (mkF m 267 #[.val (.int p0), .val (.int p1), .val (.int p2), .val (.int p3), .val (.int p4), .val (.int p5), .val (.int zN), .val (.int zn), .val (.double (FP.i2d p0)), .second, .val (.double (FP.i2d p1)), .second, .val (.double (FP.i2d p2)), .second, .val (.double (FP.i2d p3)), .second, .val (.double (FP.i2d p4)), .second, .val (.ref a), .val (.double (FP.i2d rv)), .second, .val (.int zg), .unset] [(.int (own_bit (own_ge rv ((own_xs p0 p1 p2 p3 p4) 4)))), (.int (Int32.ofNat (own_cnt (own_ge rv) (own_xs p0 p1 p2 p3 p4) 4)))])
    refine wp (fun _ => XS.goto X1.here hx rfl (pc0 := 267) (pc' := 271) rfl (hb hby at_267) (by decide) (by decide)) ?_
    show WP p e below _ T1 (mkF m 271 #[.val (.int p0), .val (.int p1), .val (.int p2), .val (.int p3), .val (.int p4), .val (.int p5), .val (.int zN), .val (.int zn), .val (.double (FP.i2d p0)), .second, .val (.double (FP.i2d p1)), .second, .val (.double (FP.i2d p2)), .second, .val (.double (FP.i2d p3)), .second, .val (.double (FP.i2d p4)), .second, .val (.ref a), .val (.double (FP.i2d rv)), .second, .val (.int zg), .unset] [(.int (own_bit (own_ge rv ((own_xs p0 p1 p2 p3 p4) 4)))), (.int (Int32.ofNat (own_cnt (own_ge rv) (own_xs p0 p1 p2 p3 p4) 4)))])
    refine wp (fun _ => XS.iadd X1.here hx rfl (hb hby at_271) rfl) ?_
    show WP p e below _ T1 (mkF m 272 #[.val (.int p0), .val (.int p1), .val (.int p2), .val (.int p3), .val (.int p4), .val (.int p5), .val (.int zN), .val (.int zn), .val (.double (FP.i2d p0)), .second, .val (.double (FP.i2d p1)), .second, .val (.double (FP.i2d p2)), .second, .val (.double (FP.i2d p3)), .second, .val (.double (FP.i2d p4)), .second, .val (.ref a), .val (.double (FP.i2d rv)), .second, .val (.int zg), .unset] [(.int ((Int32.ofNat (own_cnt (own_ge rv) (own_xs p0 p1 p2 p3 p4) 4)) + (own_bit (own_ge rv ((own_xs p0 p1 p2 p3 p4) 4)))))])
    rw [own_bit_add]
    exact k _ X1 e1
  · rw [L0] at hc
    have m1 : min 4 N = N := by omega
    have m2 : min 5 N = N := by omega
    rw [m2] at k
    rw [m1]
    show WP p e below _ T0 (mkF m 257 #[.val (.int p0), .val (.int p1), .val (.int p2), .val (.int p3), .val (.int p4), .val (.int p5), .val (.int zN), .val (.int zn), .val (.double (FP.i2d p0)), .second, .val (.double (FP.i2d p1)), .second, .val (.double (FP.i2d p2)), .second, .val (.double (FP.i2d p3)), .second, .val (.double (FP.i2d p4)), .second, .val (.ref a), .val (.double (FP.i2d rv)), .second, .val (.int zg), .unset] [(.int (4 : Int32)), (.int zN), (.int (Int32.ofNat (own_cnt (own_ge rv) (own_xs p0 p1 p2 p3 p4) N)))])
    refine wp (fun _ => XS.icmpYes X0.here hx rfl (pc0 := 257) (pc' := 270) rfl (hb hby at_257) rfl (XT.ii_le_t (fun q => hc (L0.mp q))) (by decide) (by decide)) ?_
    show WP p e below _ T0 (mkF m 270 #[.val (.int p0), .val (.int p1), .val (.int p2), .val (.int p3), .val (.int p4), .val (.int p5), .val (.int zN), .val (.int zn), .val (.double (FP.i2d p0)), .second, .val (.double (FP.i2d p1)), .second, .val (.double (FP.i2d p2)), .second, .val (.double (FP.i2d p3)), .second, .val (.double (FP.i2d p4)), .second, .val (.ref a), .val (.double (FP.i2d rv)), .second, .val (.int zg), .unset] [(.int (Int32.ofNat (own_cnt (own_ge rv) (own_xs p0 p1 p2 p3 p4) N)))])
    refine wp (fun _ => XS.iconst X0.here hx rfl (hb hby at_270)) ?_
    show WP p e below _ T0 (mkF m 271 #[.val (.int p0), .val (.int p1), .val (.int p2), .val (.int p3), .val (.int p4), .val (.int p5), .val (.int zN), .val (.int zn), .val (.double (FP.i2d p0)), .second, .val (.double (FP.i2d p1)), .second, .val (.double (FP.i2d p2)), .second, .val (.double (FP.i2d p3)), .second, .val (.double (FP.i2d p4)), .second, .val (.ref a), .val (.double (FP.i2d rv)), .second, .val (.int zg), .unset] [(.int (0 : Int32)), (.int (Int32.ofNat (own_cnt (own_ge rv) (own_xs p0 p1 p2 p3 p4) N)))])
    refine wp (fun _ => XS.iadd X0.here hx rfl (hb hby at_271) rfl) ?_
    show WP p e below _ T0 (mkF m 272 #[.val (.int p0), .val (.int p1), .val (.int p2), .val (.int p3), .val (.int p4), .val (.int p5), .val (.int zN), .val (.int zn), .val (.double (FP.i2d p0)), .second, .val (.double (FP.i2d p1)), .second, .val (.double (FP.i2d p2)), .second, .val (.double (FP.i2d p3)), .second, .val (.double (FP.i2d p4)), .second, .val (.ref a), .val (.double (FP.i2d rv)), .second, .val (.int zg), .unset] [(.int ((Int32.ofNat (own_cnt (own_ge rv) (own_xs p0 p1 p2 p3 p4) N)) + (0 : Int32)))])
    rw [Int32.add_zero]
    exact k _ X0 e0
end Own2
theorem own_len (q : Int32) : ∃ N : Nat, 1 ≤ N ∧ N ≤ 5 ∧ ((1 : Int32) + ((q &&& (2147483647 : Int32)) % (5 : Int32))).toInt = (N : Int) := by
  have h1 := c_and q 2147483647 (by decide)
  have h2 := (c_iremV (q &&& 2147483647) 5).1 h1.1 (by decide)
  have h3 : (5 : Int32).toInt = 5 := rfl
  have h4 : (1 : Int32).toInt = 1 := rfl
  have h5 := c_iadd 1 ((q &&& 2147483647) % 5)
  have h6 := rng32 (1 + ((q &&& 2147483647) % 5))
  exact ⟨((1 : Int32) + ((q &&& (2147483647 : Int32)) % (5 : Int32))).toInt.toNat, by omega, by omega, by omega⟩
theorem own_n (q zN : Int32) {N : Nat} (hN : zN.toInt = (N : Int)) (h1 : 1 ≤ N) (h5 : N ≤ 5) : ∃ w : Nat, w < N ∧ ((1 : Int32) + ((q.toUInt32 >>> ((3 : Int32) &&& 31).toUInt32).toInt32 % zN)).toInt = ((w + 1 : Nat) : Int) := by
  have h0 := c_iushr q 3 3 rfl (by decide)
  generalize (q.toUInt32 >>> ((3 : Int32) &&& 31).toUInt32).toInt32 = u at h0 ⊢
  have h2 := (c_iremV u zN).1 (by omega) (by omega)
  have h4 : (1 : Int32).toInt = 1 := rfl
  have h5' := c_iadd 1 (u % zN)
  have h6 := rng32 (1 + (u % zN))
  exact ⟨(u % zN).toInt.toNat, by omega, by omega⟩

set_option maxRecDepth 65536 in
set_option maxHeartbeats 4000000 in
theorem rm_law (l : Launch) (Z : State) (a0 : Array Value) (hw : ∀ d ∈ tables_1, d.before a0 Z = true) (ws : List Jvm.Cond) (p0 p1 p2 p3 p4 p5 : Int32) (h0 : Heap) (n0 : Nat) (Z0 : n0 ≤ h0.size) :
    MetQ l Z x code maxLocals ret ws room_1 #[(.int p0), (.int p1), (.int p2), (.int p3), (.int p4), (.int p5)] h0 (fun v _ L => v = some (.int (1 : Int32)) ∧ Fr n0 L) := by
  refine metQ (a0 := a0) (plainFor_of_name pn_law) hw (ef_law p0 p1 p2 p3 p4 p5) ?_
  intro p e s m below meth c T0 C X0 e0
  obtain ⟨hx, hZ, hw, hby, hml, hown, hnm, hret, hlk⟩ := id C
  have L0 := @Int32.lt_iff_toInt_lt
  show WP p e below _ T0 (mkF m 0 #[.val (.int p0), .val (.int p1), .val (.int p2), .val (.int p3), .val (.int p4), .val (.int p5), .unset, .unset, .unset, .unset, .unset, .unset, .unset, .unset, .unset, .unset, .unset, .unset, .unset, .unset, .unset, .unset, .unset] [])
  refine wp (fun _ => XS.iconst X0.here hx rfl (hb hby at_0)) ?_
  show WP p e below _ T0 (mkF m 1 #[.val (.int p0), .val (.int p1), .val (.int p2), .val (.int p3), .val (.int p4), .val (.int p5), .unset, .unset, .unset, .unset, .unset, .unset, .unset, .unset, .unset, .unset, .unset, .unset, .unset, .unset, .unset, .unset, .unset] [(.int (1 : Int32))])
  refine wp (fun _ => XS.iload X0.here hx rfl (hb hby at_1) rfl) ?_
  show WP p e below _ T0 (mkF m 3 #[.val (.int p0), .val (.int p1), .val (.int p2), .val (.int p3), .val (.int p4), .val (.int p5), .unset, .unset, .unset, .unset, .unset, .unset, .unset, .unset, .unset, .unset, .unset, .unset, .unset, .unset, .unset, .unset, .unset] [(.int p5), (.int (1 : Int32))])
  refine wp_ldc C X0 (hw _ (List.mem_of_getElem? (i := 0) rfl)) at_3 ?_
  show WP p e below _ T0 (mkF m 5 #[.val (.int p0), .val (.int p1), .val (.int p2), .val (.int p3), .val (.int p4), .val (.int p5), .unset, .unset, .unset, .unset, .unset, .unset, .unset, .unset, .unset, .unset, .unset, .unset, .unset, .unset, .unset, .unset, .unset] [(.int (2147483647 : Int32)), (.int p5), (.int (1 : Int32))])
  refine wp (fun _ => XS.iand X0.here hx rfl (hb hby at_5) rfl) ?_
  show WP p e below _ T0 (mkF m 6 #[.val (.int p0), .val (.int p1), .val (.int p2), .val (.int p3), .val (.int p4), .val (.int p5), .unset, .unset, .unset, .unset, .unset, .unset, .unset, .unset, .unset, .unset, .unset, .unset, .unset, .unset, .unset, .unset, .unset] [(.int (p5 &&& (2147483647 : Int32))), (.int (1 : Int32))])
  refine wp (fun _ => XS.iconst X0.here hx rfl (hb hby at_6)) ?_
  show WP p e below _ T0 (mkF m 7 #[.val (.int p0), .val (.int p1), .val (.int p2), .val (.int p3), .val (.int p4), .val (.int p5), .unset, .unset, .unset, .unset, .unset, .unset, .unset, .unset, .unset, .unset, .unset, .unset, .unset, .unset, .unset, .unset, .unset] [(.int (5 : Int32)), (.int (p5 &&& (2147483647 : Int32))), (.int (1 : Int32))])
  refine wp (fun _ => iremM X0 hx rfl (hb hby at_7) rfl (by decide)) ?_
  show WP p e below _ T0 (mkF m 8 #[.val (.int p0), .val (.int p1), .val (.int p2), .val (.int p3), .val (.int p4), .val (.int p5), .unset, .unset, .unset, .unset, .unset, .unset, .unset, .unset, .unset, .unset, .unset, .unset, .unset, .unset, .unset, .unset, .unset] [(.int ((p5 &&& (2147483647 : Int32)) % (5 : Int32))), (.int (1 : Int32))])
  refine wp (fun _ => XS.iadd X0.here hx rfl (hb hby at_8) rfl) ?_
  show WP p e below _ T0 (mkF m 9 #[.val (.int p0), .val (.int p1), .val (.int p2), .val (.int p3), .val (.int p4), .val (.int p5), .unset, .unset, .unset, .unset, .unset, .unset, .unset, .unset, .unset, .unset, .unset, .unset, .unset, .unset, .unset, .unset, .unset] [(.int ((1 : Int32) + ((p5 &&& (2147483647 : Int32)) % (5 : Int32))))])
  obtain ⟨N, hN1, hN5, hzN⟩ := own_len p5
  generalize ((1 : Int32) + ((p5 &&& (2147483647 : Int32)) % (5 : Int32))) = zN at hzN ⊢
  show WP p e below _ T0 (mkF m 9 #[.val (.int p0), .val (.int p1), .val (.int p2), .val (.int p3), .val (.int p4), .val (.int p5), .unset, .unset, .unset, .unset, .unset, .unset, .unset, .unset, .unset, .unset, .unset, .unset, .unset, .unset, .unset, .unset, .unset] [(.int zN)])
  refine wp (fun _ => XS.istore X0.here hx rfl (hb hby at_9) rfl (l' := #[.val (.int p0), .val (.int p1), .val (.int p2), .val (.int p3), .val (.int p4), .val (.int p5), .val (.int zN), .unset, .unset, .unset, .unset, .unset, .unset, .unset, .unset, .unset, .unset, .unset, .unset, .unset, .unset, .unset, .unset]) rfl) ?_
  show WP p e below _ T0 (mkF m 11 #[.val (.int p0), .val (.int p1), .val (.int p2), .val (.int p3), .val (.int p4), .val (.int p5), .val (.int zN), .unset, .unset, .unset, .unset, .unset, .unset, .unset, .unset, .unset, .unset, .unset, .unset, .unset, .unset, .unset, .unset] [])
  refine wp (fun _ => XS.iconst X0.here hx rfl (hb hby at_11)) ?_
  show WP p e below _ T0 (mkF m 12 #[.val (.int p0), .val (.int p1), .val (.int p2), .val (.int p3), .val (.int p4), .val (.int p5), .val (.int zN), .unset, .unset, .unset, .unset, .unset, .unset, .unset, .unset, .unset, .unset, .unset, .unset, .unset, .unset, .unset, .unset] [(.int (1 : Int32))])
  refine wp (fun _ => XS.iload X0.here hx rfl (hb hby at_12) rfl) ?_
  show WP p e below _ T0 (mkF m 14 #[.val (.int p0), .val (.int p1), .val (.int p2), .val (.int p3), .val (.int p4), .val (.int p5), .val (.int zN), .unset, .unset, .unset, .unset, .unset, .unset, .unset, .unset, .unset, .unset, .unset, .unset, .unset, .unset, .unset, .unset] [(.int p5), (.int (1 : Int32))])
  refine wp (fun _ => XS.iconst X0.here hx rfl (hb hby at_14)) ?_
  show WP p e below _ T0 (mkF m 15 #[.val (.int p0), .val (.int p1), .val (.int p2), .val (.int p3), .val (.int p4), .val (.int p5), .val (.int zN), .unset, .unset, .unset, .unset, .unset, .unset, .unset, .unset, .unset, .unset, .unset, .unset, .unset, .unset, .unset, .unset] [(.int (3 : Int32)), (.int p5), (.int (1 : Int32))])
  refine wp (fun _ => XS.iushr X0.here hx rfl (hb hby at_15) rfl) ?_
  show WP p e below _ T0 (mkF m 16 #[.val (.int p0), .val (.int p1), .val (.int p2), .val (.int p3), .val (.int p4), .val (.int p5), .val (.int zN), .unset, .unset, .unset, .unset, .unset, .unset, .unset, .unset, .unset, .unset, .unset, .unset, .unset, .unset, .unset, .unset] [(.int ((p5.toUInt32 >>> ((3 : Int32) &&& 31).toUInt32).toInt32)), (.int (1 : Int32))])
  refine wp (fun _ => XS.iload X0.here hx rfl (hb hby at_16) rfl) ?_
  show WP p e below _ T0 (mkF m 18 #[.val (.int p0), .val (.int p1), .val (.int p2), .val (.int p3), .val (.int p4), .val (.int p5), .val (.int zN), .unset, .unset, .unset, .unset, .unset, .unset, .unset, .unset, .unset, .unset, .unset, .unset, .unset, .unset, .unset, .unset] [(.int zN), (.int ((p5.toUInt32 >>> ((3 : Int32) &&& 31).toUInt32).toInt32)), (.int (1 : Int32))])
  refine wp (fun _ => iremM X0 hx rfl (hb hby at_18) rfl (fun q => by rw [q] at hzN; have : (0 : Int32).toInt = 0 := rfl; omega)) ?_
  show WP p e below _ T0 (mkF m 19 #[.val (.int p0), .val (.int p1), .val (.int p2), .val (.int p3), .val (.int p4), .val (.int p5), .val (.int zN), .unset, .unset, .unset, .unset, .unset, .unset, .unset, .unset, .unset, .unset, .unset, .unset, .unset, .unset, .unset, .unset] [(.int (((p5.toUInt32 >>> ((3 : Int32) &&& 31).toUInt32).toInt32) % zN)), (.int (1 : Int32))])
  refine wp (fun _ => XS.iadd X0.here hx rfl (hb hby at_19) rfl) ?_
  show WP p e below _ T0 (mkF m 20 #[.val (.int p0), .val (.int p1), .val (.int p2), .val (.int p3), .val (.int p4), .val (.int p5), .val (.int zN), .unset, .unset, .unset, .unset, .unset, .unset, .unset, .unset, .unset, .unset, .unset, .unset, .unset, .unset, .unset, .unset] [(.int ((1 : Int32) + (((p5.toUInt32 >>> ((3 : Int32) &&& 31).toUInt32).toInt32) % zN)))])
  obtain ⟨w, hw1, hzn⟩ := own_n p5 zN hzN hN1 hN5
  generalize ((1 : Int32) + (((p5.toUInt32 >>> ((3 : Int32) &&& 31).toUInt32).toInt32) % zN)) = zn at hzn ⊢
  show WP p e below _ T0 (mkF m 20 #[.val (.int p0), .val (.int p1), .val (.int p2), .val (.int p3), .val (.int p4), .val (.int p5), .val (.int zN), .unset, .unset, .unset, .unset, .unset, .unset, .unset, .unset, .unset, .unset, .unset, .unset, .unset, .unset, .unset, .unset] [(.int zn)])
  refine wp (fun _ => XS.istore X0.here hx rfl (hb hby at_20) rfl (l' := #[.val (.int p0), .val (.int p1), .val (.int p2), .val (.int p3), .val (.int p4), .val (.int p5), .val (.int zN), .val (.int zn), .unset, .unset, .unset, .unset, .unset, .unset, .unset, .unset, .unset, .unset, .unset, .unset, .unset, .unset, .unset]) rfl) ?_
  show WP p e below _ T0 (mkF m 22 #[.val (.int p0), .val (.int p1), .val (.int p2), .val (.int p3), .val (.int p4), .val (.int p5), .val (.int zN), .val (.int zn), .unset, .unset, .unset, .unset, .unset, .unset, .unset, .unset, .unset, .unset, .unset, .unset, .unset, .unset, .unset] [])
  refine wp (fun _ => XS.iloadN X0.here hx rfl (hb hby at_22) rfl) ?_
  show WP p e below _ T0 (mkF m 23 #[.val (.int p0), .val (.int p1), .val (.int p2), .val (.int p3), .val (.int p4), .val (.int p5), .val (.int zN), .val (.int zn), .unset, .unset, .unset, .unset, .unset, .unset, .unset, .unset, .unset, .unset, .unset, .unset, .unset, .unset, .unset] [(.int p0)])
  refine wp (fun _ => XS.i2dS X0.here hx rfl (hb hby at_23) rfl rfl) ?_
  show WP p e below _ T0 (mkF m 24 #[.val (.int p0), .val (.int p1), .val (.int p2), .val (.int p3), .val (.int p4), .val (.int p5), .val (.int zN), .val (.int zn), .unset, .unset, .unset, .unset, .unset, .unset, .unset, .unset, .unset, .unset, .unset, .unset, .unset, .unset, .unset] [(.double (FP.i2d p0))])
  refine wp (fun _ => XS.dstore X0.here hx rfl (hb hby at_24) rfl (l' := #[.val (.int p0), .val (.int p1), .val (.int p2), .val (.int p3), .val (.int p4), .val (.int p5), .val (.int zN), .val (.int zn), .val (.double (FP.i2d p0)), .second, .unset, .unset, .unset, .unset, .unset, .unset, .unset, .unset, .unset, .unset, .unset, .unset, .unset]) rfl) ?_
  show WP p e below _ T0 (mkF m 26 #[.val (.int p0), .val (.int p1), .val (.int p2), .val (.int p3), .val (.int p4), .val (.int p5), .val (.int zN), .val (.int zn), .val (.double (FP.i2d p0)), .second, .unset, .unset, .unset, .unset, .unset, .unset, .unset, .unset, .unset, .unset, .unset, .unset, .unset] [])
  refine wp (fun _ => XS.iloadN X0.here hx rfl (hb hby at_26) rfl) ?_
  show WP p e below _ T0 (mkF m 27 #[.val (.int p0), .val (.int p1), .val (.int p2), .val (.int p3), .val (.int p4), .val (.int p5), .val (.int zN), .val (.int zn), .val (.double (FP.i2d p0)), .second, .unset, .unset, .unset, .unset, .unset, .unset, .unset, .unset, .unset, .unset, .unset, .unset, .unset] [(.int p1)])
  refine wp (fun _ => XS.i2dS X0.here hx rfl (hb hby at_27) rfl rfl) ?_
  show WP p e below _ T0 (mkF m 28 #[.val (.int p0), .val (.int p1), .val (.int p2), .val (.int p3), .val (.int p4), .val (.int p5), .val (.int zN), .val (.int zn), .val (.double (FP.i2d p0)), .second, .unset, .unset, .unset, .unset, .unset, .unset, .unset, .unset, .unset, .unset, .unset, .unset, .unset] [(.double (FP.i2d p1))])
  refine wp (fun _ => XS.dstore X0.here hx rfl (hb hby at_28) rfl (l' := #[.val (.int p0), .val (.int p1), .val (.int p2), .val (.int p3), .val (.int p4), .val (.int p5), .val (.int zN), .val (.int zn), .val (.double (FP.i2d p0)), .second, .val (.double (FP.i2d p1)), .second, .unset, .unset, .unset, .unset, .unset, .unset, .unset, .unset, .unset, .unset, .unset]) rfl) ?_
  show WP p e below _ T0 (mkF m 30 #[.val (.int p0), .val (.int p1), .val (.int p2), .val (.int p3), .val (.int p4), .val (.int p5), .val (.int zN), .val (.int zn), .val (.double (FP.i2d p0)), .second, .val (.double (FP.i2d p1)), .second, .unset, .unset, .unset, .unset, .unset, .unset, .unset, .unset, .unset, .unset, .unset] [])
  refine wp (fun _ => XS.iloadN X0.here hx rfl (hb hby at_30) rfl) ?_
  show WP p e below _ T0 (mkF m 31 #[.val (.int p0), .val (.int p1), .val (.int p2), .val (.int p3), .val (.int p4), .val (.int p5), .val (.int zN), .val (.int zn), .val (.double (FP.i2d p0)), .second, .val (.double (FP.i2d p1)), .second, .unset, .unset, .unset, .unset, .unset, .unset, .unset, .unset, .unset, .unset, .unset] [(.int p2)])
  refine wp (fun _ => XS.i2dS X0.here hx rfl (hb hby at_31) rfl rfl) ?_
  show WP p e below _ T0 (mkF m 32 #[.val (.int p0), .val (.int p1), .val (.int p2), .val (.int p3), .val (.int p4), .val (.int p5), .val (.int zN), .val (.int zn), .val (.double (FP.i2d p0)), .second, .val (.double (FP.i2d p1)), .second, .unset, .unset, .unset, .unset, .unset, .unset, .unset, .unset, .unset, .unset, .unset] [(.double (FP.i2d p2))])
  refine wp (fun _ => XS.dstore X0.here hx rfl (hb hby at_32) rfl (l' := #[.val (.int p0), .val (.int p1), .val (.int p2), .val (.int p3), .val (.int p4), .val (.int p5), .val (.int zN), .val (.int zn), .val (.double (FP.i2d p0)), .second, .val (.double (FP.i2d p1)), .second, .val (.double (FP.i2d p2)), .second, .unset, .unset, .unset, .unset, .unset, .unset, .unset, .unset, .unset]) rfl) ?_
  show WP p e below _ T0 (mkF m 34 #[.val (.int p0), .val (.int p1), .val (.int p2), .val (.int p3), .val (.int p4), .val (.int p5), .val (.int zN), .val (.int zn), .val (.double (FP.i2d p0)), .second, .val (.double (FP.i2d p1)), .second, .val (.double (FP.i2d p2)), .second, .unset, .unset, .unset, .unset, .unset, .unset, .unset, .unset, .unset] [])
  refine wp (fun _ => XS.iloadN X0.here hx rfl (hb hby at_34) rfl) ?_
  show WP p e below _ T0 (mkF m 35 #[.val (.int p0), .val (.int p1), .val (.int p2), .val (.int p3), .val (.int p4), .val (.int p5), .val (.int zN), .val (.int zn), .val (.double (FP.i2d p0)), .second, .val (.double (FP.i2d p1)), .second, .val (.double (FP.i2d p2)), .second, .unset, .unset, .unset, .unset, .unset, .unset, .unset, .unset, .unset] [(.int p3)])
  refine wp (fun _ => XS.i2dS X0.here hx rfl (hb hby at_35) rfl rfl) ?_
  show WP p e below _ T0 (mkF m 36 #[.val (.int p0), .val (.int p1), .val (.int p2), .val (.int p3), .val (.int p4), .val (.int p5), .val (.int zN), .val (.int zn), .val (.double (FP.i2d p0)), .second, .val (.double (FP.i2d p1)), .second, .val (.double (FP.i2d p2)), .second, .unset, .unset, .unset, .unset, .unset, .unset, .unset, .unset, .unset] [(.double (FP.i2d p3))])
  refine wp (fun _ => XS.dstore X0.here hx rfl (hb hby at_36) rfl (l' := #[.val (.int p0), .val (.int p1), .val (.int p2), .val (.int p3), .val (.int p4), .val (.int p5), .val (.int zN), .val (.int zn), .val (.double (FP.i2d p0)), .second, .val (.double (FP.i2d p1)), .second, .val (.double (FP.i2d p2)), .second, .val (.double (FP.i2d p3)), .second, .unset, .unset, .unset, .unset, .unset, .unset, .unset]) rfl) ?_
  show WP p e below _ T0 (mkF m 38 #[.val (.int p0), .val (.int p1), .val (.int p2), .val (.int p3), .val (.int p4), .val (.int p5), .val (.int zN), .val (.int zn), .val (.double (FP.i2d p0)), .second, .val (.double (FP.i2d p1)), .second, .val (.double (FP.i2d p2)), .second, .val (.double (FP.i2d p3)), .second, .unset, .unset, .unset, .unset, .unset, .unset, .unset] [])
  refine wp (fun _ => XS.iload X0.here hx rfl (hb hby at_38) rfl) ?_
  show WP p e below _ T0 (mkF m 40 #[.val (.int p0), .val (.int p1), .val (.int p2), .val (.int p3), .val (.int p4), .val (.int p5), .val (.int zN), .val (.int zn), .val (.double (FP.i2d p0)), .second, .val (.double (FP.i2d p1)), .second, .val (.double (FP.i2d p2)), .second, .val (.double (FP.i2d p3)), .second, .unset, .unset, .unset, .unset, .unset, .unset, .unset] [(.int p4)])
  refine wp (fun _ => XS.i2dS X0.here hx rfl (hb hby at_40) rfl rfl) ?_
  show WP p e below _ T0 (mkF m 41 #[.val (.int p0), .val (.int p1), .val (.int p2), .val (.int p3), .val (.int p4), .val (.int p5), .val (.int zN), .val (.int zn), .val (.double (FP.i2d p0)), .second, .val (.double (FP.i2d p1)), .second, .val (.double (FP.i2d p2)), .second, .val (.double (FP.i2d p3)), .second, .unset, .unset, .unset, .unset, .unset, .unset, .unset] [(.double (FP.i2d p4))])
  refine wp (fun _ => XS.dstore X0.here hx rfl (hb hby at_41) rfl (l' := #[.val (.int p0), .val (.int p1), .val (.int p2), .val (.int p3), .val (.int p4), .val (.int p5), .val (.int zN), .val (.int zn), .val (.double (FP.i2d p0)), .second, .val (.double (FP.i2d p1)), .second, .val (.double (FP.i2d p2)), .second, .val (.double (FP.i2d p3)), .second, .val (.double (FP.i2d p4)), .second, .unset, .unset, .unset, .unset, .unset]) rfl) ?_
  show WP p e below _ T0 (mkF m 43 #[.val (.int p0), .val (.int p1), .val (.int p2), .val (.int p3), .val (.int p4), .val (.int p5), .val (.int zN), .val (.int zn), .val (.double (FP.i2d p0)), .second, .val (.double (FP.i2d p1)), .second, .val (.double (FP.i2d p2)), .second, .val (.double (FP.i2d p3)), .second, .val (.double (FP.i2d p4)), .second, .unset, .unset, .unset, .unset, .unset] [])
  refine wp (fun _ => XS.iload X0.here hx rfl (hb hby at_43) rfl) ?_
  show WP p e below _ T0 (mkF m 45 #[.val (.int p0), .val (.int p1), .val (.int p2), .val (.int p3), .val (.int p4), .val (.int p5), .val (.int zN), .val (.int zn), .val (.double (FP.i2d p0)), .second, .val (.double (FP.i2d p1)), .second, .val (.double (FP.i2d p2)), .second, .val (.double (FP.i2d p3)), .second, .val (.double (FP.i2d p4)), .second, .unset, .unset, .unset, .unset, .unset] [(.int zN)])
  refine wp_newarray C X0 e0 (hw _ (List.mem_of_getElem? (i := 1) rfl)) at_45 (n := N) hzN (cap := 5) hN5 (by decide) (by decide) (by decide) ?_
  intro T1 h1 X1 e1 E1 A1
  obtain ⟨a, ga⟩ : ∃ z, z = h0.size := ⟨_, rfl⟩
  rw [← ga] at A1 ⊢
  have ga' : n0 ≤ a := by rw [ga]; exact Z0
  show WP p e below _ T1 (mkF m 47 #[.val (.int p0), .val (.int p1), .val (.int p2), .val (.int p3), .val (.int p4), .val (.int p5), .val (.int zN), .val (.int zn), .val (.double (FP.i2d p0)), .second, .val (.double (FP.i2d p1)), .second, .val (.double (FP.i2d p2)), .second, .val (.double (FP.i2d p3)), .second, .val (.double (FP.i2d p4)), .second, .unset, .unset, .unset, .unset, .unset] [(.ref a)])
  refine wp (fun _ => XS.astore X1.here hx rfl (hb hby at_47) rfl rfl (l' := #[.val (.int p0), .val (.int p1), .val (.int p2), .val (.int p3), .val (.int p4), .val (.int p5), .val (.int zN), .val (.int zn), .val (.double (FP.i2d p0)), .second, .val (.double (FP.i2d p1)), .second, .val (.double (FP.i2d p2)), .second, .val (.double (FP.i2d p3)), .second, .val (.double (FP.i2d p4)), .second, .val (.ref a), .unset, .unset, .unset, .unset]) rfl) ?_
  show WP p e below _ T1 (mkF m 49 #[.val (.int p0), .val (.int p1), .val (.int p2), .val (.int p3), .val (.int p4), .val (.int p5), .val (.int zN), .val (.int zn), .val (.double (FP.i2d p0)), .second, .val (.double (FP.i2d p1)), .second, .val (.double (FP.i2d p2)), .second, .val (.double (FP.i2d p3)), .second, .val (.double (FP.i2d p4)), .second, .val (.ref a), .unset, .unset, .unset, .unset] [])
  refine wp (fun _ => XS.aload X1.here hx rfl (hb hby at_49) rfl rfl) ?_
  show WP p e below _ T1 (mkF m 51 #[.val (.int p0), .val (.int p1), .val (.int p2), .val (.int p3), .val (.int p4), .val (.int p5), .val (.int zN), .val (.int zn), .val (.double (FP.i2d p0)), .second, .val (.double (FP.i2d p1)), .second, .val (.double (FP.i2d p2)), .second, .val (.double (FP.i2d p3)), .second, .val (.double (FP.i2d p4)), .second, .val (.ref a), .unset, .unset, .unset, .unset] [(.ref a)])
  refine wp (fun _ => XS.iconst X1.here hx rfl (hb hby at_51)) ?_
  show WP p e below _ T1 (mkF m 52 #[.val (.int p0), .val (.int p1), .val (.int p2), .val (.int p3), .val (.int p4), .val (.int p5), .val (.int zN), .val (.int zn), .val (.double (FP.i2d p0)), .second, .val (.double (FP.i2d p1)), .second, .val (.double (FP.i2d p2)), .second, .val (.double (FP.i2d p3)), .second, .val (.double (FP.i2d p4)), .second, .val (.ref a), .unset, .unset, .unset, .unset] [(.int (0 : Int32)), (.ref a)])
  refine wp (fun _ => XS.dload X1.here hx rfl (hb hby at_52) rfl) ?_
  show WP p e below _ T1 (mkF m 54 #[.val (.int p0), .val (.int p1), .val (.int p2), .val (.int p3), .val (.int p4), .val (.int p5), .val (.int zN), .val (.int zn), .val (.double (FP.i2d p0)), .second, .val (.double (FP.i2d p1)), .second, .val (.double (FP.i2d p2)), .second, .val (.double (FP.i2d p3)), .second, .val (.double (FP.i2d p4)), .second, .val (.ref a), .unset, .unset, .unset, .unset] [(.double (FP.i2d p0)), (.int (0 : Int32)), (.ref a)])
  refine wp_dastore C X1 e1 A1 (j := 0) rfl (by omega) at_54 ?_
  intro T2 h2 X2 e2 W2 A2
  have N2 := Frs (a := a) (sl := (0 : Int32).toNatClampNeg) (Fr.nil n0) ga'
  show WP p e below _ T2 (mkF m 55 #[.val (.int p0), .val (.int p1), .val (.int p2), .val (.int p3), .val (.int p4), .val (.int p5), .val (.int zN), .val (.int zn), .val (.double (FP.i2d p0)), .second, .val (.double (FP.i2d p1)), .second, .val (.double (FP.i2d p2)), .second, .val (.double (FP.i2d p3)), .second, .val (.double (FP.i2d p4)), .second, .val (.ref a), .unset, .unset, .unset, .unset] [])
  have A2' : Af Z h2 a .double N (fun j => if j < 1 then .double (FP.i2d ((own_xs p0 p1 p2 p3 p4) j)) else defaultValue .double) := A2.conv fun j hj => by
    by_cases q0 : j = 0
    · subst q0; rfl
    · rw [if_neg q0, if_neg (by omega)]; rfl
  refine segS1 p0 p1 p2 p3 p4 p5 zN zn a N n0 hzN hN1 hN5 ga' A2' N2 C X2 e2 ?_
  intro T3 h3 L3 X3 e3 N3 A3
  refine segS2 p0 p1 p2 p3 p4 p5 zN zn a N n0 hzN hN1 hN5 ga' A3 N3 C X3 e3 ?_
  intro T4 h4 L4 X4 e4 N4 A4
  refine segS3 p0 p1 p2 p3 p4 p5 zN zn a N n0 hzN hN1 hN5 ga' A4 N4 C X4 e4 ?_
  intro T5 h5 L5 X5 e5 N5 A5
  refine segS4 p0 p1 p2 p3 p4 p5 zN zn a N n0 hzN hN1 hN5 ga' A5 N5 C X5 e5 ?_
  intro T6 h6 L6 X6 e6 N6 A6
  have A : Af Z h6 a .double N (fun j => .double (FP.i2d ((own_xs p0 p1 p2 p3 p4) j))) := A6.conv fun j hj => by rw [if_pos (by omega)]
  show WP p e below _ T6 (mkF m 103 #[.val (.int p0), .val (.int p1), .val (.int p2), .val (.int p3), .val (.int p4), .val (.int p5), .val (.int zN), .val (.int zn), .val (.double (FP.i2d p0)), .second, .val (.double (FP.i2d p1)), .second, .val (.double (FP.i2d p2)), .second, .val (.double (FP.i2d p3)), .second, .val (.double (FP.i2d p4)), .second, .val (.ref a), .unset, .unset, .unset, .unset] [])
  refine wp (fun _ => XS.aload X6.here hx rfl (hb hby at_103) rfl rfl) ?_
  show WP p e below _ T6 (mkF m 105 #[.val (.int p0), .val (.int p1), .val (.int p2), .val (.int p3), .val (.int p4), .val (.int p5), .val (.int zN), .val (.int zn), .val (.double (FP.i2d p0)), .second, .val (.double (FP.i2d p1)), .second, .val (.double (FP.i2d p2)), .second, .val (.double (FP.i2d p3)), .second, .val (.double (FP.i2d p4)), .second, .val (.ref a), .unset, .unset, .unset, .unset] [(.ref a)])
  refine wp (fun _ => XS.iload X6.here hx rfl (hb hby at_105) rfl) ?_
  show WP p e below _ T6 (mkF m 107 #[.val (.int p0), .val (.int p1), .val (.int p2), .val (.int p3), .val (.int p4), .val (.int p5), .val (.int zN), .val (.int zn), .val (.double (FP.i2d p0)), .second, .val (.double (FP.i2d p1)), .second, .val (.double (FP.i2d p2)), .second, .val (.double (FP.i2d p3)), .second, .val (.double (FP.i2d p4)), .second, .val (.ref a), .unset, .unset, .unset, .unset] [(.int zn), (.ref a)])
  refine wp_static C X6 e6 (argsL := [(.ref a), (.int zn)]) (rest := []) (rm_nth l Z a0 hw [] a zn N w n0 (own_xs p0 p1 p2 p3 p4) h6 hN1 hN5 hw1 hzn ga' A) (hw _ (List.mem_of_getElem? (i := 2) rfl)) (hw _ (List.mem_of_getElem? (i := 3) rfl)) (hw _ (List.mem_of_getElem? (i := 4) rfl)) (hw _ (List.mem_of_getElem? (i := 5) rfl)) (by decide) rfl (lenOf pd_nth rfl) at_107 rfl (by decide) (Nat.le_of_ble_eq_true rfl) (by decide) (by decide) ?_
  rintro T7 _ L7 X7 ⟨rv, rfl, M7, K7, c1, c2⟩
  have N7 := Fr.app N6 M7
  show WP p e below _ T7 (mkF m 110 #[.val (.int p0), .val (.int p1), .val (.int p2), .val (.int p3), .val (.int p4), .val (.int p5), .val (.int zN), .val (.int zn), .val (.double (FP.i2d p0)), .second, .val (.double (FP.i2d p1)), .second, .val (.double (FP.i2d p2)), .second, .val (.double (FP.i2d p3)), .second, .val (.double (FP.i2d p4)), .second, .val (.ref a), .unset, .unset, .unset, .unset] [(.double (FP.i2d rv))])
  refine wp (fun _ => XS.dstore X7.here hx rfl (hb hby at_110) rfl (l' := #[.val (.int p0), .val (.int p1), .val (.int p2), .val (.int p3), .val (.int p4), .val (.int p5), .val (.int zN), .val (.int zn), .val (.double (FP.i2d p0)), .second, .val (.double (FP.i2d p1)), .second, .val (.double (FP.i2d p2)), .second, .val (.double (FP.i2d p3)), .second, .val (.double (FP.i2d p4)), .second, .val (.ref a), .val (.double (FP.i2d rv)), .second, .unset, .unset]) rfl) ?_
  show WP p e below _ T7 (mkF m 112 #[.val (.int p0), .val (.int p1), .val (.int p2), .val (.int p3), .val (.int p4), .val (.int p5), .val (.int zN), .val (.int zn), .val (.double (FP.i2d p0)), .second, .val (.double (FP.i2d p1)), .second, .val (.double (FP.i2d p2)), .second, .val (.double (FP.i2d p3)), .second, .val (.double (FP.i2d p4)), .second, .val (.ref a), .val (.double (FP.i2d rv)), .second, .unset, .unset] [])
  refine wp (fun _ => XS.dload X7.here hx rfl (hb hby at_112) rfl) ?_
  show WP p e below _ T7 (mkF m 114 #[.val (.int p0), .val (.int p1), .val (.int p2), .val (.int p3), .val (.int p4), .val (.int p5), .val (.int zN), .val (.int zn), .val (.double (FP.i2d p0)), .second, .val (.double (FP.i2d p1)), .second, .val (.double (FP.i2d p2)), .second, .val (.double (FP.i2d p3)), .second, .val (.double (FP.i2d p4)), .second, .val (.ref a), .val (.double (FP.i2d rv)), .second, .unset, .unset] [(.double (FP.i2d p0))])
  refine wp (fun _ => XS.dload X7.here hx rfl (hb hby at_114) rfl) ?_
  show WP p e below _ T7 (mkF m 116 #[.val (.int p0), .val (.int p1), .val (.int p2), .val (.int p3), .val (.int p4), .val (.int p5), .val (.int zN), .val (.int zn), .val (.double (FP.i2d p0)), .second, .val (.double (FP.i2d p1)), .second, .val (.double (FP.i2d p2)), .second, .val (.double (FP.i2d p3)), .second, .val (.double (FP.i2d p4)), .second, .val (.ref a), .val (.double (FP.i2d rv)), .second, .unset, .unset] [(.double (FP.i2d rv)), (.double (FP.i2d p0))])
  refine wp_staticP C X7 rfl (argsL := [(.double (FP.i2d p0)), (.double (FP.i2d rv))]) (rest := []) (rm_ab l Z a0 hw [] p0 rv T7.heap) (hw _ (List.mem_of_getElem? (i := 6) rfl)) (hw _ (List.mem_of_getElem? (i := 7) rfl)) (hw _ (List.mem_of_getElem? (i := 8) rfl)) (hw _ (List.mem_of_getElem? (i := 9) rfl)) (by decide) rfl (lenOf pd_ab rfl) at_116 rfl rfl rfl (by decide) (Nat.le_of_ble_eq_true rfl) (by decide) (by decide) ?_
  intro T8 X8 e8
  show WP p e below _ T8 (mkF m 119 #[.val (.int p0), .val (.int p1), .val (.int p2), .val (.int p3), .val (.int p4), .val (.int p5), .val (.int zN), .val (.int zn), .val (.double (FP.i2d p0)), .second, .val (.double (FP.i2d p1)), .second, .val (.double (FP.i2d p2)), .second, .val (.double (FP.i2d p3)), .second, .val (.double (FP.i2d p4)), .second, .val (.ref a), .val (.double (FP.i2d rv)), .second, .unset, .unset] [(.int (own_bit (own_gt rv p0)))])
  rw [show own_bit (own_gt rv p0) = Int32.ofNat (own_cnt (own_gt rv) (own_xs p0 p1 p2 p3 p4) (min 1 N)) by
    rw [show min 1 N = 1 by omega]
    have q := own_bit_add 0 (own_gt rv p0)
    rw [show Int32.ofNat 0 = 0 from rfl, Int32.zero_add] at q
    exact q]
  refine segG1 p0 p1 p2 p3 p4 p5 zN zn a N n0 hzN hN1 hN5 rv 0 C X8 e8 ?_
  intro T9 X9 e9
  refine segG2 p0 p1 p2 p3 p4 p5 zN zn a N n0 hzN hN1 hN5 rv 0 C X9 e9 ?_
  intro T10 X10 e10
  refine segG3 p0 p1 p2 p3 p4 p5 zN zn a N n0 hzN hN1 hN5 rv 0 C X10 e10 ?_
  intro T11 X11 e11
  refine segG4 p0 p1 p2 p3 p4 p5 zN zn a N n0 hzN hN1 hN5 rv 0 C X11 e11 ?_
  intro T12 X12 e12
  rw [show min 5 N = N by omega]
  show WP p e below _ T12 (mkF m 191 #[.val (.int p0), .val (.int p1), .val (.int p2), .val (.int p3), .val (.int p4), .val (.int p5), .val (.int zN), .val (.int zn), .val (.double (FP.i2d p0)), .second, .val (.double (FP.i2d p1)), .second, .val (.double (FP.i2d p2)), .second, .val (.double (FP.i2d p3)), .second, .val (.double (FP.i2d p4)), .second, .val (.ref a), .val (.double (FP.i2d rv)), .second, .unset, .unset] [(.int (Int32.ofNat (own_cnt (own_gt rv) (own_xs p0 p1 p2 p3 p4) N)))])
  refine wp (fun _ => XS.istore X12.here hx rfl (hb hby at_191) rfl (l' := #[.val (.int p0), .val (.int p1), .val (.int p2), .val (.int p3), .val (.int p4), .val (.int p5), .val (.int zN), .val (.int zn), .val (.double (FP.i2d p0)), .second, .val (.double (FP.i2d p1)), .second, .val (.double (FP.i2d p2)), .second, .val (.double (FP.i2d p3)), .second, .val (.double (FP.i2d p4)), .second, .val (.ref a), .val (.double (FP.i2d rv)), .second, .val (.int (Int32.ofNat (own_cnt (own_gt rv) (own_xs p0 p1 p2 p3 p4) N))), .unset]) rfl) ?_
  show WP p e below _ T12 (mkF m 193 #[.val (.int p0), .val (.int p1), .val (.int p2), .val (.int p3), .val (.int p4), .val (.int p5), .val (.int zN), .val (.int zn), .val (.double (FP.i2d p0)), .second, .val (.double (FP.i2d p1)), .second, .val (.double (FP.i2d p2)), .second, .val (.double (FP.i2d p3)), .second, .val (.double (FP.i2d p4)), .second, .val (.ref a), .val (.double (FP.i2d rv)), .second, .val (.int (Int32.ofNat (own_cnt (own_gt rv) (own_xs p0 p1 p2 p3 p4) N))), .unset] [])
  refine wp (fun _ => XS.dload X12.here hx rfl (hb hby at_193) rfl) ?_
  show WP p e below _ T12 (mkF m 195 #[.val (.int p0), .val (.int p1), .val (.int p2), .val (.int p3), .val (.int p4), .val (.int p5), .val (.int zN), .val (.int zn), .val (.double (FP.i2d p0)), .second, .val (.double (FP.i2d p1)), .second, .val (.double (FP.i2d p2)), .second, .val (.double (FP.i2d p3)), .second, .val (.double (FP.i2d p4)), .second, .val (.ref a), .val (.double (FP.i2d rv)), .second, .val (.int (Int32.ofNat (own_cnt (own_gt rv) (own_xs p0 p1 p2 p3 p4) N))), .unset] [(.double (FP.i2d p0))])
  refine wp (fun _ => XS.dload X12.here hx rfl (hb hby at_195) rfl) ?_
  show WP p e below _ T12 (mkF m 197 #[.val (.int p0), .val (.int p1), .val (.int p2), .val (.int p3), .val (.int p4), .val (.int p5), .val (.int zN), .val (.int zn), .val (.double (FP.i2d p0)), .second, .val (.double (FP.i2d p1)), .second, .val (.double (FP.i2d p2)), .second, .val (.double (FP.i2d p3)), .second, .val (.double (FP.i2d p4)), .second, .val (.ref a), .val (.double (FP.i2d rv)), .second, .val (.int (Int32.ofNat (own_cnt (own_gt rv) (own_xs p0 p1 p2 p3 p4) N))), .unset] [(.double (FP.i2d rv)), (.double (FP.i2d p0))])
  refine wp_staticP C X12 e12 (argsL := [(.double (FP.i2d p0)), (.double (FP.i2d rv))]) (rest := []) (rm_al l Z a0 hw [] p0 rv T7.heap) (hw _ (List.mem_of_getElem? (i := 10) rfl)) (hw _ (List.mem_of_getElem? (i := 11) rfl)) (hw _ (List.mem_of_getElem? (i := 8) rfl)) (hw _ (List.mem_of_getElem? (i := 12) rfl)) (by decide) rfl (lenOf pd_al rfl) at_197 rfl rfl rfl (by decide) (Nat.le_of_ble_eq_true rfl) (by decide) (by decide) ?_
  intro T13 X13 e13
  show WP p e below _ T13 (mkF m 200 #[.val (.int p0), .val (.int p1), .val (.int p2), .val (.int p3), .val (.int p4), .val (.int p5), .val (.int zN), .val (.int zn), .val (.double (FP.i2d p0)), .second, .val (.double (FP.i2d p1)), .second, .val (.double (FP.i2d p2)), .second, .val (.double (FP.i2d p3)), .second, .val (.double (FP.i2d p4)), .second, .val (.ref a), .val (.double (FP.i2d rv)), .second, .val (.int (Int32.ofNat (own_cnt (own_gt rv) (own_xs p0 p1 p2 p3 p4) N))), .unset] [(.int (own_bit (own_ge rv p0)))])
  rw [show own_bit (own_ge rv p0) = Int32.ofNat (own_cnt (own_ge rv) (own_xs p0 p1 p2 p3 p4) (min 1 N)) by
    rw [show min 1 N = 1 by omega]
    have q := own_bit_add 0 (own_ge rv p0)
    rw [show Int32.ofNat 0 = 0 from rfl, Int32.zero_add] at q
    exact q]
  refine segH1 p0 p1 p2 p3 p4 p5 zN zn a N n0 hzN hN1 hN5 rv _ C X13 e13 ?_
  intro T14 X14 e14
  refine segH2 p0 p1 p2 p3 p4 p5 zN zn a N n0 hzN hN1 hN5 rv _ C X14 e14 ?_
  intro T15 X15 e15
  refine segH3 p0 p1 p2 p3 p4 p5 zN zn a N n0 hzN hN1 hN5 rv _ C X15 e15 ?_
  intro T16 X16 e16
  refine segH4 p0 p1 p2 p3 p4 p5 zN zn a N n0 hzN hN1 hN5 rv _ C X16 e16 ?_
  intro T17 X17 e17
  rw [show min 5 N = N by omega]
  show WP p e below _ T17 (mkF m 272 #[.val (.int p0), .val (.int p1), .val (.int p2), .val (.int p3), .val (.int p4), .val (.int p5), .val (.int zN), .val (.int zn), .val (.double (FP.i2d p0)), .second, .val (.double (FP.i2d p1)), .second, .val (.double (FP.i2d p2)), .second, .val (.double (FP.i2d p3)), .second, .val (.double (FP.i2d p4)), .second, .val (.ref a), .val (.double (FP.i2d rv)), .second, .val (.int (Int32.ofNat (own_cnt (own_gt rv) (own_xs p0 p1 p2 p3 p4) N))), .unset] [(.int (Int32.ofNat (own_cnt (own_ge rv) (own_xs p0 p1 p2 p3 p4) N)))])
  refine wp (fun _ => XS.istore X17.here hx rfl (hb hby at_272) rfl (l' := #[.val (.int p0), .val (.int p1), .val (.int p2), .val (.int p3), .val (.int p4), .val (.int p5), .val (.int zN), .val (.int zn), .val (.double (FP.i2d p0)), .second, .val (.double (FP.i2d p1)), .second, .val (.double (FP.i2d p2)), .second, .val (.double (FP.i2d p3)), .second, .val (.double (FP.i2d p4)), .second, .val (.ref a), .val (.double (FP.i2d rv)), .second, .val (.int (Int32.ofNat (own_cnt (own_gt rv) (own_xs p0 p1 p2 p3 p4) N))), .val (.int (Int32.ofNat (own_cnt (own_ge rv) (own_xs p0 p1 p2 p3 p4) N)))]) rfl) ?_
  show WP p e below _ T17 (mkF m 274 #[.val (.int p0), .val (.int p1), .val (.int p2), .val (.int p3), .val (.int p4), .val (.int p5), .val (.int zN), .val (.int zn), .val (.double (FP.i2d p0)), .second, .val (.double (FP.i2d p1)), .second, .val (.double (FP.i2d p2)), .second, .val (.double (FP.i2d p3)), .second, .val (.double (FP.i2d p4)), .second, .val (.ref a), .val (.double (FP.i2d rv)), .second, .val (.int (Int32.ofNat (own_cnt (own_gt rv) (own_xs p0 p1 p2 p3 p4) N))), .val (.int (Int32.ofNat (own_cnt (own_ge rv) (own_xs p0 p1 p2 p3 p4) N)))] [])
  refine wp (fun _ => XS.iload X17.here hx rfl (hb hby at_274) rfl) ?_
  show WP p e below _ T17 (mkF m 276 #[.val (.int p0), .val (.int p1), .val (.int p2), .val (.int p3), .val (.int p4), .val (.int p5), .val (.int zN), .val (.int zn), .val (.double (FP.i2d p0)), .second, .val (.double (FP.i2d p1)), .second, .val (.double (FP.i2d p2)), .second, .val (.double (FP.i2d p3)), .second, .val (.double (FP.i2d p4)), .second, .val (.ref a), .val (.double (FP.i2d rv)), .second, .val (.int (Int32.ofNat (own_cnt (own_gt rv) (own_xs p0 p1 p2 p3 p4) N))), .val (.int (Int32.ofNat (own_cnt (own_ge rv) (own_xs p0 p1 p2 p3 p4) N)))] [(.int (Int32.ofNat (own_cnt (own_gt rv) (own_xs p0 p1 p2 p3 p4) N)))])
  refine wp (fun _ => XS.iload X17.here hx rfl (hb hby at_276) rfl) ?_
  show WP p e below _ T17 (mkF m 278 #[.val (.int p0), .val (.int p1), .val (.int p2), .val (.int p3), .val (.int p4), .val (.int p5), .val (.int zN), .val (.int zn), .val (.double (FP.i2d p0)), .second, .val (.double (FP.i2d p1)), .second, .val (.double (FP.i2d p2)), .second, .val (.double (FP.i2d p3)), .second, .val (.double (FP.i2d p4)), .second, .val (.ref a), .val (.double (FP.i2d rv)), .second, .val (.int (Int32.ofNat (own_cnt (own_gt rv) (own_xs p0 p1 p2 p3 p4) N))), .val (.int (Int32.ofNat (own_cnt (own_ge rv) (own_xs p0 p1 p2 p3 p4) N)))] [(.int zn), (.int (Int32.ofNat (own_cnt (own_gt rv) (own_xs p0 p1 p2 p3 p4) N)))])
  have g1 := own_cnt_le (own_gt rv) (own_xs p0 p1 p2 p3 p4) N
  have g2 := own_cnt_le (own_ge rv) (own_xs p0 p1 p2 p3 p4) N
  have f1 : (Int32.ofNat (own_cnt (own_gt rv) (own_xs p0 p1 p2 p3 p4) N)).toInt = ((own_cnt (own_gt rv) (own_xs p0 p1 p2 p3 p4) N : Nat) : Int) := Int32.toInt_ofNat_of_lt (by omega)
  have f2 : (Int32.ofNat (own_cnt (own_ge rv) (own_xs p0 p1 p2 p3 p4) N)).toInt = ((own_cnt (own_ge rv) (own_xs p0 p1 p2 p3 p4) N : Nat) : Int) := Int32.toInt_ofNat_of_lt (by omega)
  have hc1 : (Int32.ofNat (own_cnt (own_gt rv) (own_xs p0 p1 p2 p3 p4) N)) < zn := by rw [L0]; omega
  refine wp (fun _ => XS.icmpNo X17.here hx rfl (hb hby at_278) rfl (XT.ii_ge_f hc1)) ?_
  show WP p e below _ T17 (mkF m 281 #[.val (.int p0), .val (.int p1), .val (.int p2), .val (.int p3), .val (.int p4), .val (.int p5), .val (.int zN), .val (.int zn), .val (.double (FP.i2d p0)), .second, .val (.double (FP.i2d p1)), .second, .val (.double (FP.i2d p2)), .second, .val (.double (FP.i2d p3)), .second, .val (.double (FP.i2d p4)), .second, .val (.ref a), .val (.double (FP.i2d rv)), .second, .val (.int (Int32.ofNat (own_cnt (own_gt rv) (own_xs p0 p1 p2 p3 p4) N))), .val (.int (Int32.ofNat (own_cnt (own_ge rv) (own_xs p0 p1 p2 p3 p4) N)))] [])
  refine wp (fun _ => XS.iload X17.here hx rfl (hb hby at_281) rfl) ?_
  show WP p e below _ T17 (mkF m 283 #[.val (.int p0), .val (.int p1), .val (.int p2), .val (.int p3), .val (.int p4), .val (.int p5), .val (.int zN), .val (.int zn), .val (.double (FP.i2d p0)), .second, .val (.double (FP.i2d p1)), .second, .val (.double (FP.i2d p2)), .second, .val (.double (FP.i2d p3)), .second, .val (.double (FP.i2d p4)), .second, .val (.ref a), .val (.double (FP.i2d rv)), .second, .val (.int (Int32.ofNat (own_cnt (own_gt rv) (own_xs p0 p1 p2 p3 p4) N))), .val (.int (Int32.ofNat (own_cnt (own_ge rv) (own_xs p0 p1 p2 p3 p4) N)))] [(.int (Int32.ofNat (own_cnt (own_ge rv) (own_xs p0 p1 p2 p3 p4) N)))])
  refine wp (fun _ => XS.iload X17.here hx rfl (hb hby at_283) rfl) ?_
  show WP p e below _ T17 (mkF m 285 #[.val (.int p0), .val (.int p1), .val (.int p2), .val (.int p3), .val (.int p4), .val (.int p5), .val (.int zN), .val (.int zn), .val (.double (FP.i2d p0)), .second, .val (.double (FP.i2d p1)), .second, .val (.double (FP.i2d p2)), .second, .val (.double (FP.i2d p3)), .second, .val (.double (FP.i2d p4)), .second, .val (.ref a), .val (.double (FP.i2d rv)), .second, .val (.int (Int32.ofNat (own_cnt (own_gt rv) (own_xs p0 p1 p2 p3 p4) N))), .val (.int (Int32.ofNat (own_cnt (own_ge rv) (own_xs p0 p1 p2 p3 p4) N)))] [(.int zn), (.int (Int32.ofNat (own_cnt (own_ge rv) (own_xs p0 p1 p2 p3 p4) N)))])
  have hc2 : ¬ ((Int32.ofNat (own_cnt (own_ge rv) (own_xs p0 p1 p2 p3 p4) N)) < zn) := by rw [L0]; omega
  refine wp (fun _ => XS.icmpNo X17.here hx rfl (hb hby at_285) rfl (XT.ii_lt_f hc2)) ?_
  show WP p e below _ T17 (mkF m 288 #[.val (.int p0), .val (.int p1), .val (.int p2), .val (.int p3), .val (.int p4), .val (.int p5), .val (.int zN), .val (.int zn), .val (.double (FP.i2d p0)), .second, .val (.double (FP.i2d p1)), .second, .val (.double (FP.i2d p2)), .second, .val (.double (FP.i2d p3)), .second, .val (.double (FP.i2d p4)), .second, .val (.ref a), .val (.double (FP.i2d rv)), .second, .val (.int (Int32.ofNat (own_cnt (own_gt rv) (own_xs p0 p1 p2 p3 p4) N))), .val (.int (Int32.ofNat (own_cnt (own_ge rv) (own_xs p0 p1 p2 p3 p4) N)))] [])
  refine wp (fun _ => XS.iconst X17.here hx rfl (hb hby at_288)) ?_
  show WP p e below _ T17 (mkF m 289 #[.val (.int p0), .val (.int p1), .val (.int p2), .val (.int p3), .val (.int p4), .val (.int p5), .val (.int zN), .val (.int zn), .val (.double (FP.i2d p0)), .second, .val (.double (FP.i2d p1)), .second, .val (.double (FP.i2d p2)), .second, .val (.double (FP.i2d p3)), .second, .val (.double (FP.i2d p4)), .second, .val (.ref a), .val (.double (FP.i2d rv)), .second, .val (.int (Int32.ofNat (own_cnt (own_gt rv) (own_xs p0 p1 p2 p3 p4) N))), .val (.int (Int32.ofNat (own_cnt (own_ge rv) (own_xs p0 p1 p2 p3 p4) N)))] [(.int (1 : Int32))])
  refine wp (fun _ => XS.goto X17.here hx rfl (pc0 := 289) (pc' := 293) rfl (hb hby at_289) (by decide) (by decide)) ?_
  show WP p e below _ T17 (mkF m 293 #[.val (.int p0), .val (.int p1), .val (.int p2), .val (.int p3), .val (.int p4), .val (.int p5), .val (.int zN), .val (.int zn), .val (.double (FP.i2d p0)), .second, .val (.double (FP.i2d p1)), .second, .val (.double (FP.i2d p2)), .second, .val (.double (FP.i2d p3)), .second, .val (.double (FP.i2d p4)), .second, .val (.ref a), .val (.double (FP.i2d rv)), .second, .val (.int (Int32.ofNat (own_cnt (own_gt rv) (own_xs p0 p1 p2 p3 p4) N))), .val (.int (Int32.ofNat (own_cnt (own_ge rv) (own_xs p0 p1 p2 p3 p4) N)))] [(.int (1 : Int32))])
  exact wp_zreturn C X17 (Or.inl rfl) at_293 ⟨rfl, N7⟩ (by decide) (by decide)
set_option maxRecDepth 65536 in
set_option maxHeartbeats 4000000 in
theorem comes_1 {Post : Tables → Env → Array Value → State → Outcome → State → Prop} (hpost : ∀ tb e args s v u, (limb_1_1.after args s (.returned v) u = true ∧ limb_1_2.after args s (.returned v) u = true ∧ True) → FrameEnd s (.returned v) u (Jvm.fieldLocs frame_1_writes args s ++ Jvm.arrayLocs frame_1_arrays args s ++ Jvm.staticLocs frame_1_statics s) 16 128 → Post tb e args s (.returned v) u) :
    ArmFor flags0 classFile x code maxLocals ret World_1 tables_1 room_1 Calls_1 rest_1 Pre_1 Post := by
  intro l hfl _ _ p e ha hc hk s m args below hf hA hF happ hP
  obtain ⟨hcalls, hrest, hpre⟩ := hP
  obtain ⟨-, -, -, hnamed, -, -, -, hat⟩ := (Spec.applies_iff hf).mp happ
  obtain ⟨hg, hn⟩ := and_e (Cond.before_iff.mp (show (Jvm.Cond.and given_1 narrow_1).before args s = true from hpre))
  obtain ⟨hcount, hr0⟩ := and_e hg
  obtain ⟨ha0, hr1⟩ := and_e hr0
  obtain ⟨ha1, hr2⟩ := and_e hr1
  obtain ⟨ha2, hr3⟩ := and_e hr2
  obtain ⟨ha3, hr4⟩ := and_e hr3
  obtain ⟨ha4, hr5⟩ := and_e hr4
  have ha5 := hr5
  obtain ⟨w0, w1, w2, w3, w4, w5, rfl⟩ : ∃ w0 w1 w2 w3 w4 w5 : Value, args = #[w0, w1, w2, w3, w4, w5] := by
    have hs : args.size = 6 := by simpa [Cond.value, given_1] using hcount
    obtain ⟨L⟩ := args
    match L, hs with
    | [w0, w1, w2, w3, w4, w5], _ => exact ⟨w0, w1, w2, w3, w4, w5, rfl⟩
  have hw := fun d (hd : d ∈ tables_1) => atoms_spec (ws := Jvm.Cond.code x code maxLocals ret :: tables_1) hat d (List.mem_cons_of_mem _ hd)
  obtain ⟨i0, ei0⟩ := is_v ha0
  obtain rfl : w0 = (.int i0) := Option.some.inj ei0
  obtain ⟨i1, ei1⟩ := is_v ha1
  obtain rfl : w1 = (.int i1) := Option.some.inj ei1
  obtain ⟨i2, ei2⟩ := is_v ha2
  obtain rfl : w2 = (.int i2) := Option.some.inj ei2
  obtain ⟨i3, ei3⟩ := is_v ha3
  obtain rfl : w3 = (.int i3) := Option.some.inj ei3
  obtain ⟨i4, ei4⟩ := is_v ha4
  obtain rfl : w4 = (.int i4) := Option.some.inj ei4
  obtain ⟨i5, ei5⟩ := is_v ha5
  obtain rfl : w5 = (.int i5) := Option.some.inj ei5
  obtain ⟨n, o, h1, h2, h3, _, L, rfl, ⟨rfl, N⟩, hq⟩ := rm_law l s _ hw tables_1 i0 i1 i2 i3 i4 i5 s.heap s.heap.size (Nat.le_refl _) p e ha hc hk s m _ below hf ((Spec.applies_iff_loose hf).mp happ).1 ⟨rfl, State.Warmed39.refl s, rfl⟩ trivial
  refine ⟨n, _, h1, h2, h3, hpost _ _ _ _ _ _ ⟨Cond.after_iff.mpr rfl, Cond.after_iff.mpr (eq_i res_at (Term.int_eval (1)) rfl), trivial⟩ ⟨hq.1, hq.2.1, (hq.2.2.sift fun y hy => Or.inr (N y hy)).mono (by decide) (by decide)⟩⟩
theorem main_1_1 : Claimed_1_1 := comes_1 fun _ _ _ _ _ _ h hF => ⟨h.1, hF⟩
theorem main_1_2 : Claimed_1_2 := comes_1 fun _ _ _ _ _ _ h hF => ⟨h.2.1, hF⟩

end Jvm.Pilot.@@N@@
namespace Jvm.Pilot.@@N@@
open Jvm Jvm.ClassFile Sem Op Lib Jvm.Free Jvm.Stand Jvm.Pilot.@@N@@.Jvm.D
/-! MADE BY PROGRAM (witnessworld.py) out of the Statement's table words and the real class files: 9 classes; the members and pool entries that the words name. The judged class is class 1, her method 3. -/
namespace start1
open Jvm.ClassFile
def u (s : String) : CpInfo := .utf8 (stringToUtf16 s)
/-- a pool by its gaps: so many unusable entries, then the entry; so many at the end -/
def gap : Nat → List CpInfo → List CpInfo
  | 0, r => r
  | n + 1, r => .unusable :: gap n r
def poolList (es : List (Nat × CpInfo)) (last : Nat) : List CpInfo := es.foldr (fun e r => gap e.1 (e.2 :: r)) (gap last [])
def pool (es : List (Nat × CpInfo)) (last : Nat) : Array CpInfo := ⟨poolList es last⟩
def fileOf (pool : Array CpInfo) (this : Nat) (attrs : Array Attribute := #[]) (ms : Array MethodInfo := #[]) (fl : Nat := 33) (sup : Nat := 0) (ifs : Array Nat := #[]) (fds : Array FieldInfo := #[]) : ClassFile where
  minorVersion := 0
  majorVersion := 65
  constantPool := pool
  accessFlags := fl
  thisClass := this
  superClass := sup
  interfaces := ifs
  fields := fds
  methods := ms
  attributes := attrs
def plain (name : String) (sup : Option ClassId) : Class where
  name := name
  kind := .ordinary
  loader := none
  accessFlags := 33
  super := sup
  interfaces := #[]
  cf := none
  fields := #[]
  methods := #[]
  instanceTypes := #[]
  staticTypes := #[]
  resolved := #[]
  callSites := []
  init := .initialized
  statics := none
  mirror := none

def pool0 : Array CpInfo := pool [(5, u "<init>"), (0, u "()V"), (1, .class_ 10), (1, u "java/lang/Object")] 113

def k0m0 : Method := { name := "<init>", desc := "()V", sig := { parameters := [], returnType := none }, accessFlags := 1, code := none }
/-- java/lang/Object -/
def k0 : Class := { plain "java/lang/Object" none with
  accessFlags := 33
  interfaces := #[]
  cf := some (fileOf pool0 8 #[] #[{ accessFlags := 1, nameIndex := 5, descriptorIndex := 6, attributes := #[] }] 33 0 #[] #[])
  fields := #[]
  methods := #[k0m0]
  instanceTypes := #[]
  staticTypes := #[]
  resolved := Array.replicate 124 none
  statics := none }

def pool1 : Array CpInfo := pool [(2, .class_ 4), (1, u "java/lang/Object"), (0, u "<init>"), (0, u "()V"), (0, .integer 2147483647), (0, .methodref 9 10), (0, .class_ 11), (0, .nameAndType 12 13), (0, u "com/example/placewright/placewright/plan/Simplex"), (0, u "nthLargest"), (0, u "([DI)D"), (0, .methodref 15 16), (0, .class_ 17), (0, .nameAndType 18 19), (0, u "com/example/placewright/placewright/plan/SimplexNthLargestPinLaw"), (0, u "above"), (0, u "(DD)I"), (0, .methodref 15 21), (0, .nameAndType 22 19), (0, u "atLeast"), (3, u "law"), (0, u "(IIIIII)Z")] 4

def k1m0 : Method := { name := "<init>", desc := "()V", sig := { parameters := [], returnType := none }, accessFlags := 1, code := none }
def k1c1 : Code := { maxStack := 4, maxLocals := 4, code := method_2_code, exceptionTable := #[], attributes := #[] }
def k1m1 : Method := { name := "above", desc := "(DD)I", sig := { parameters := [.double, .double], returnType := some .int }, accessFlags := 10, code := some k1c1 }
def k1c2 : Code := { maxStack := 4, maxLocals := 4, code := method_3_code, exceptionTable := #[], attributes := #[] }
def k1m2 : Method := { name := "atLeast", desc := "(DD)I", sig := { parameters := [.double, .double], returnType := some .int }, accessFlags := 10, code := some k1c2 }
def k1c3 : Code := { maxStack := 5, maxLocals := 23, code := code, exceptionTable := #[], attributes := #[] }
def k1m3 : Method := { name := "law", desc := "(IIIIII)Z", sig := { parameters := [.int, .int, .int, .int, .int, .int], returnType := some .boolean }, accessFlags := 9, code := some k1c3 }
/-- com/example/placewright/placewright/plan/SimplexNthLargestPinLaw -/
def k1 : Class := { plain "com/example/placewright/placewright/plan/SimplexNthLargestPinLaw" (some 0) with
  accessFlags := 49
  interfaces := #[]
  cf := some (fileOf pool1 15 #[] #[{ accessFlags := 1, nameIndex := 5, descriptorIndex := 6, attributes := #[] }, { accessFlags := 10, nameIndex := 18, descriptorIndex := 19, attributes := #[] }, { accessFlags := 10, nameIndex := 22, descriptorIndex := 19, attributes := #[] }, { accessFlags := 9, nameIndex := 26, descriptorIndex := 27, attributes := #[] }] 49 2 #[] #[])
  fields := #[]
  methods := #[k1m0, k1m1, k1m2, k1m3]
  instanceTypes := #[]
  staticTypes := #[]
  resolved := Array.replicate 32 none
  statics := none }

def pool2 : Array CpInfo := pool [(2, .class_ 4), (1, u "java/lang/Object"), (3, .class_ 10), (1, u "com/example/placewright/placewright/plan/Simplex"), (0, u "lowers"), (0, u "[D"), (2, u "weights"), (2, u "starts"), (0, u "[I"), (2, u "bounds"), (2, u "coefficients"), (2, u "name"), (0, u "Ljava/lang/String;"), (7, u "limits"), (4, u "blocks"), (13, u "variables"), (0, u "I"), (21, .class_ 80), (0, u "com/example/placewright/placewright/plan/Simplex$Pivots"), (13, .class_ 95), (0, u "com/example/placewright/placewright/plan/Simplex$Optima"), (24, u "PIVOT_ROUNDING"), (0, u "D"), (3, u "COST_ROUNDING"), (2, u "PLAIN_PIVOT"), (2, u "FLOOR"), (2, u "PRIMAL"), (2, u "PIVOTS_PER_VARIABLE"), (1, u "UPDATES"), (1, u "KEEP"), (14, u "nthLargest"), (0, u "([DI)D"), (3, .class_ 162), (0, u "com/example/placewright/placewright/plan/Simplex$Move")] 22

def k2c0 : Code := { maxStack := 4, maxLocals := 11, code := prog_257_method_8_code, exceptionTable := #[], attributes := #[] }
def k2m0 : Method := { name := "nthLargest", desc := "([DI)D", sig := { parameters := [(.array .double), .int], returnType := some .double }, accessFlags := 8, code := some k2c0 }
/-- com/example/placewright/placewright/plan/Simplex -/
def k2 : Class := { plain "com/example/placewright/placewright/plan/Simplex" (some 0) with
  accessFlags := 48
  interfaces := #[]
  cf := some (fileOf pool2 8 #[.nestMembers #[161, 79, 94]] #[{ accessFlags := 8, nameIndex := 156, descriptorIndex := 157, attributes := #[] }] 48 2 #[] #[{ accessFlags := 26, nameIndex := 120, descriptorIndex := 121, attributes := #[] }, { accessFlags := 26, nameIndex := 125, descriptorIndex := 121, attributes := #[] }, { accessFlags := 26, nameIndex := 128, descriptorIndex := 121, attributes := #[] }, { accessFlags := 26, nameIndex := 131, descriptorIndex := 121, attributes := #[] }, { accessFlags := 26, nameIndex := 134, descriptorIndex := 121, attributes := #[] }, { accessFlags := 26, nameIndex := 137, descriptorIndex := 57, attributes := #[] }, { accessFlags := 26, nameIndex := 139, descriptorIndex := 57, attributes := #[] }, { accessFlags := 26, nameIndex := 141, descriptorIndex := 121, attributes := #[] }, { accessFlags := 18, nameIndex := 28, descriptorIndex := 29, attributes := #[] }, { accessFlags := 18, nameIndex := 37, descriptorIndex := 12, attributes := #[] }, { accessFlags := 18, nameIndex := 42, descriptorIndex := 19, attributes := #[] }, { accessFlags := 2, nameIndex := 11, descriptorIndex := 12, attributes := #[] }, { accessFlags := 2, nameIndex := 15, descriptorIndex := 12, attributes := #[] }, { accessFlags := 2, nameIndex := 18, descriptorIndex := 19, attributes := #[] }, { accessFlags := 2, nameIndex := 22, descriptorIndex := 19, attributes := #[] }, { accessFlags := 2, nameIndex := 25, descriptorIndex := 12, attributes := #[] }, { accessFlags := 2, nameIndex := 56, descriptorIndex := 57, attributes := #[] }])
  fields := #[{ name := "PIVOT_ROUNDING", type := .double, accessFlags := 26, slot := 0, constantValue := 0 }, { name := "COST_ROUNDING", type := .double, accessFlags := 26, slot := 1, constantValue := 0 }, { name := "PLAIN_PIVOT", type := .double, accessFlags := 26, slot := 2, constantValue := 0 }, { name := "FLOOR", type := .double, accessFlags := 26, slot := 3, constantValue := 0 }, { name := "PRIMAL", type := .double, accessFlags := 26, slot := 4, constantValue := 0 }, { name := "PIVOTS_PER_VARIABLE", type := .int, accessFlags := 26, slot := 5, constantValue := 0 }, { name := "UPDATES", type := .int, accessFlags := 26, slot := 6, constantValue := 0 }, { name := "KEEP", type := .double, accessFlags := 26, slot := 7, constantValue := 0 }, { name := "name", type := (.object "java/lang/String"), accessFlags := 18, slot := 0, constantValue := 0 }, { name := "limits", type := (.array .double), accessFlags := 18, slot := 1, constantValue := 0 }, { name := "blocks", type := (.array .int), accessFlags := 18, slot := 2, constantValue := 0 }, { name := "lowers", type := (.array .double), accessFlags := 2, slot := 3, constantValue := 0 }, { name := "weights", type := (.array .double), accessFlags := 2, slot := 4, constantValue := 0 }, { name := "starts", type := (.array .int), accessFlags := 2, slot := 5, constantValue := 0 }, { name := "bounds", type := (.array .int), accessFlags := 2, slot := 6, constantValue := 0 }, { name := "coefficients", type := (.array .double), accessFlags := 2, slot := 7, constantValue := 0 }, { name := "variables", type := .int, accessFlags := 2, slot := 8, constantValue := 0 }]
  methods := #[k2m0]
  instanceTypes := #[(.object "java/lang/String"), (.array .double), (.array .int), (.array .double), (.array .double), (.array .int), (.array .int), (.array .double), .int]
  staticTypes := #[.double, .double, .double, .double, .double, .int, .int, .double]
  resolved := Array.replicate 185 none
  statics := none }

def pool3 : Array CpInfo := pool [(1, u "java/lang/Cloneable"), (0, .class_ 1), (0, u "java/lang/Object"), (0, .class_ 3)] 3

/-- java/lang/Cloneable -/
def k3 : Class := { plain "java/lang/Cloneable" (some 0) with
  accessFlags := 1537
  interfaces := #[]
  cf := some (fileOf pool3 2 #[] #[] 1537 4 #[] #[])
  fields := #[]
  methods := #[]
  instanceTypes := #[]
  staticTypes := #[]
  resolved := Array.replicate 8 none
  statics := none }

def pool4 : Array CpInfo := pool [(1, u "java/io/Serializable"), (0, .class_ 1), (0, u "java/lang/Object"), (0, .class_ 3)] 3

/-- java/io/Serializable -/
def k4 : Class := { plain "java/io/Serializable" (some 0) with
  accessFlags := 1537
  interfaces := #[]
  cf := some (fileOf pool4 2 #[] #[] 1537 4 #[] #[])
  fields := #[]
  methods := #[]
  instanceTypes := #[]
  staticTypes := #[]
  resolved := Array.replicate 8 none
  statics := none }

/-- the primitive byte -/
def k5 : Class := { plain "byte" none with kind := .primitive 'B', accessFlags := 0x411 }
/-- [B -/
def k6 : Class := { plain "[B" (some 0) with kind := .array 5 .byte, interfaces := #[3, 4], accessFlags := 1041 }

/-- the primitive int -/
def k7 : Class := { plain "int" none with kind := .primitive 'I', accessFlags := 0x411 }
/-- [I -/
def k8 : Class := { plain "[I" (some 0) with kind := .array 7 .int, interfaces := #[3, 4], accessFlags := 1041 }

def heap : Heap := #[]
/-- the primitive double, and double[] (these two by hand) -/
def k9 : Class := { plain "double" none with kind := .primitive 'D', accessFlags := 0x411 }
def k10 : Class := { plain "[D" (some 0) with kind := .array 9 .double, interfaces := #[3, 4], accessFlags := 1041 }
def classes : Array Class := #[k0, k1, k2, k3, k4, k5, k6, k7, k8, k9, k10]
def interned : List (Array UInt16 × Addr) := []
def slotsUsed : Nat := 0
def theMethod : MethodId := ⟨1, 3⟩
def args0 : Array Value := #[.int 5, .int 6, .int 7, .int 8, .int 9, .int 3]
def aboutOver (below : List Frame) : State where
  vm := { classes := classes, interned := interned.toArray }
  heap := heap
  slotsUsed := slotsUsed
  threads := #[{ frames := .invoking theMethod args0 :: below }]
def below0 : List Frame := [.native { method := ⟨0, 0⟩, args := #[] }]
def about1 : State := aboutOver below0
def p0 : Program := .bare "" "" ""
def e0 : Env := launch0.env 0 0 0
theorem w_frames : about1.frames = Frame.invoking theMethod args0 :: below0 := rfl
set_option maxRecDepth 65536 in
theorem w_args : argsFit about1.vm theMethod args0 = true := by decide +kernel
set_option maxRecDepth 65536 in
theorem w_heap : heapFits about1 = true := by decide +kernel
set_option maxRecDepth 65536 in
theorem w_runnable : about1.curStatus? = some .runnable := by decide +kernel
set_option maxRecDepth 65536 in
theorem w_alone : about1.alone = true := by decide +kernel
set_option maxRecDepth 65536 in
theorem w_named : about1.methodNamed? x = some theMethod := by decide +kernel
set_option maxRecDepth 65536 in
theorem w_hears : about1.hears theMethod below0 = true := by decide +kernel
set_option maxRecDepth 65536 in
theorem w_ripe : about1.ripe theMethod args0 below0 = true := by decide +kernel
theorem w_running : about1.status = .running := rfl
set_option maxRecDepth 65536 in
theorem w_room : about1.hasRoom e0.platform room_1 = true :=
  launch0.hasRoom_least _ room_1 (by decide +kernel) (by decide +kernel) (by decide +kernel) (by decide +kernel) (by decide +kernel) (by decide +kernel)
theorem allAtoms_all (ts : List Jvm.Cond) (a : Array Jvm.Value) (st : Jvm.State) : (allAtoms ts).before a st = ts.all (fun c => c.before a st) := by
  induction ts with
  | nil => rfl
  | cons c t ih =>
    show (Jvm.Cond.and c (allAtoms t)).before a st = _
    rw [Jvm.Cond.before_and, ih, List.all_cons]
def words1 : List Jvm.Cond := Jvm.Cond.code x code maxLocals ret :: tables_1
/-- a 'code' word, met by the world's own term for the bytes: nothing is compared byte by byte -/
theorem code_word {y : MethodName} {bytes : ByteArray} {mx : Nat} {rt : Option FieldType} {a : Array Value} {s : State} {m : MethodId} {meth : Method} {c : Code} (h1 : s.methodNamed? y = some m) (h2 : s.vm.method? m = some meth) (h3 : meth.code = some c) (h4 : c.code = bytes)
    (h5 : (c.maxLocals == mx && c.exceptionTable.isEmpty && decide (c.maxStack ≤ mostOperands) && decide (meth.sig.returnType = rt) && !meth.locks && decide (parseMethodDescriptor y.desc = some meth.sig)) = true) : (Jvm.Cond.code y bytes mx rt).before a s = true := by
  simp only [Bool.and_eq_true, beq_iff_eq, Bool.not_eq_true', decide_eq_true_eq] at h5
  obtain ⟨⟨⟨⟨⟨g1, g2⟩, g3⟩, g4⟩, g5⟩, g6⟩ := h5
  simp [Cond.before, Cond.holds, Cond.value, h1, h2, h3, h4, g1, g2, g3, g4, g5, g6]
def isCode : Jvm.Cond → Bool
  | .code _ _ _ _ => true
  | _ => false
theorem all_split {L : List Jvm.Cond} {P : Jvm.Cond → Bool} (h1 : L.all (fun c => isCode c || P c) = true) (h2 : ∀ c ∈ L.filter isCode, P c = true) : L.all P = true := by
  refine List.all_eq_true.mpr fun c hc => ?_
  have h := List.all_eq_true.mp h1 c hc
  rcases Bool.eq_false_or_eq_true (isCode c) with hi | hi
  · exact h2 c (List.mem_filter.mpr ⟨hc, hi⟩)
  · simpa [hi] using h
set_option maxRecDepth 65536 in
theorem w_c0 : (Jvm.Cond.code x code maxLocals ret).before args0 about1 = true := code_word (m := ⟨1, 3⟩) (meth := k1m3) (c := k1c3) (by decide +kernel) rfl rfl rfl (by decide +kernel)
set_option maxRecDepth 65536 in
theorem w_c1 : (Jvm.Cond.code ({ cls := "com/example/placewright/placewright/plan/Simplex", name := "nthLargest", desc := "([DI)D" } : Jvm.MethodName) prog_257_method_8_code (11 : Nat) (Option.some Jvm.ClassFile.FieldType.double)).before args0 about1 = true := code_word (m := ⟨2, 0⟩) (meth := k2m0) (c := k2c0) (by decide +kernel) rfl rfl rfl (by decide +kernel)
set_option maxRecDepth 65536 in
theorem w_c2 : (Jvm.Cond.code ({ cls := "com/example/placewright/placewright/plan/SimplexNthLargestPinLaw", name := "above", desc := "(DD)I" } : Jvm.MethodName) method_2_code (4 : Nat) (Option.some Jvm.ClassFile.FieldType.int)).before args0 about1 = true := code_word (m := ⟨1, 1⟩) (meth := k1m1) (c := k1c1) (by decide +kernel) rfl rfl rfl (by decide +kernel)
set_option maxRecDepth 65536 in
theorem w_c3 : (Jvm.Cond.code ({ cls := "com/example/placewright/placewright/plan/SimplexNthLargestPinLaw", name := "atLeast", desc := "(DD)I" } : Jvm.MethodName) method_3_code (4 : Nat) (Option.some Jvm.ClassFile.FieldType.int)).before args0 about1 = true := code_word (m := ⟨1, 2⟩) (meth := k1m2) (c := k1c2) (by decide +kernel) rfl rfl rfl (by decide +kernel)
def codes1 : List Jvm.Cond := [Jvm.Cond.code x code maxLocals ret, Jvm.Cond.code ({ cls := "com/example/placewright/placewright/plan/Simplex", name := "nthLargest", desc := "([DI)D" } : Jvm.MethodName) prog_257_method_8_code (11 : Nat) (Option.some Jvm.ClassFile.FieldType.double), Jvm.Cond.code ({ cls := "com/example/placewright/placewright/plan/SimplexNthLargestPinLaw", name := "above", desc := "(DD)I" } : Jvm.MethodName) method_2_code (4 : Nat) (Option.some Jvm.ClassFile.FieldType.int), Jvm.Cond.code ({ cls := "com/example/placewright/placewright/plan/SimplexNthLargestPinLaw", name := "atLeast", desc := "(DD)I" } : Jvm.MethodName) method_3_code (4 : Nat) (Option.some Jvm.ClassFile.FieldType.int)]
set_option maxRecDepth 65536 in
theorem codes_eq : words1.filter isCode = codes1 := rfl
theorem w_codes : ∀ c ∈ words1.filter isCode, c.before args0 about1 = true := by
  rw [codes_eq]
  intro c hc
  simp only [codes1, List.mem_cons, List.not_mem_nil, or_false] at hc
  rcases hc with rfl | rfl | rfl | rfl
  · exact w_c0
  · exact w_c1
  · exact w_c2
  · exact w_c3
set_option maxRecDepth 65536 in
theorem w_t1 : words1.all (fun c => isCode c || c.before args0 about1) = true := by decide +kernel
theorem w_tables : (allAtoms (Jvm.Cond.code x code maxLocals ret :: tables_1)).before args0 about1 = true := by
  rw [allAtoms_all]
  show words1.all (fun c => c.before args0 about1) = true
  refine all_split ?_ w_codes
  rw [w_t1]
set_option maxRecDepth 65536 in
theorem w_case : (Jvm.Cond.and given_1 narrow_1).before args0 about1 = true := by decide +kernel
theorem w_applies : (headSpec (Jvm.Cond.code x code maxLocals ret :: tables_1) room_1).applies x e0.platform about1 = true :=
  (Spec.applies_iff w_frames).mpr ⟨w_running, w_runnable, w_alone, w_named, w_hears, w_ripe, w_room, w_tables⟩
theorem atStart : AtStart classFile x code maxLocals ret World_1 tables_1 room_1 Calls_1 rest_1 Pre_1 launch0 p0 e0 about1 theMethod args0 below0 :=
  ⟨lists_1, trivial, launch0.admits_env _ _ _, launch0.least_env, fairChoices_fair.cas, fairChoices_fair.clock, w_frames, w_args, w_heap, w_applies, trivial, trivial, w_case⟩
end start1
theorem witness_1 : WitnessClaimed_1 := ⟨start1.p0, start1.e0, start1.about1, start1.theMethod, start1.args0, start1.below0, start1.atStart⟩
end Jvm.Pilot.@@N@@
