import JvmDerived
import JvmDerived.Pilot.@@N@@Statement
import JvmDerived.Pilot.@@N@@Code
set_option linter.unusedVariables false
set_option linter.unusedSimpArgs false
namespace Jvm.RoadKit
open Sem ClassFile Op Lib Jvm.Stand Jvm.Free Jvm.LawKit
section New
variable {p : Program} {l : Launch} {e : Env} {R : Room} {s : State} {m : MethodId} {args : Array Value} {below : List Frame} {meth : Method} {c : Code} {T : State} {locs : List Loc} {cells slots : Nat}
theorem retI (X : Stand p l e R s m args below meth c T locs cells slots) (hx : p.tables.exec = Jvm.exec) {pc : Nat} {Ls : Array Slot} {z : Int32} {rest : List Value} (hret : meth.sig.returnType = some .int) (hd : decode c.code pc = .ok (.ireturn, 1)) {fs : List Frame}
    (hl : ∀ (f : JFrame) (acts : List Action), f.method = m → f.locked = none → f.entered = [] → (doReturn e (T.setTop f) acts (some (.int z))).1 = T.setFrames fs) : Steps p.tables e below (T.setTop (mkF m pc Ls (.int z :: rest))) (T.setFrames fs) := by
  have hm' : T.vm.method? m = some meth := X.method'
  have hn : narrow .int (.int z) = .int z := rfl
  show Steps p.tables e below (T.setTop { method := m, pc := pc, locals := Ls, stack := _ :: rest, locked := none }) _
  jvm_step X.here [X.here.top, hx, hd, hm', hret, hn]
  first | (intro acts; rw [hl _ acts rfl rfl rfl]) | rw [hl _ _ rfl rfl rfl]
  exact Steps.refl _
end New
end Jvm.RoadKit
namespace Jvm.Pilot.@@N@@
open Jvm Jvm.ClassFile Sem Op Lib Jvm.Free Jvm.Stand Jvm.LawKit Jvm.RoadKit Bundle Jvm.Pilot.@@N@@.Jvm.D

section Kit
variable {p : Program} {l : Launch} {e : Env} {R : Room} {s : State} {m : MethodId} {args : Array Value} {below : List Frame} {meth : Method} {c : Code} {T T' : State} {locs : List Loc} {cells slots : Nat} {Z : State} {a0 : Array Value} {h h' : Heap}
/-- from T at the frame g the run comes to a state of which Q holds -/
def WP (p : Program) (e : Env) (below : List Frame) (Q : State → Prop) (T : State) (g : JFrame) : Prop :=
  ∃ t, Steps p.tables e below (T.setTop g) t ∧ Q t
theorem wp {Q : State → Prop} {g g' : JFrame} (h : ∀ t, Steps p.tables e below (T'.setTop g') t → Steps p.tables e below (T.setTop g) t) (k : WP p e below Q T' g') : WP p e below Q T g := by
  obtain ⟨t, a, b⟩ := k
  exact ⟨t, h t a, b⟩
/-- the end that a contract asks -/
def Ends (s : State) (below : List Frame) (q : Option Value → Heap → List Loc → Prop) (Cn Sn : Nat) (t : State) : Prop :=
  ∃ o, t.status = .running ∧ Ended t below o ∧ ∃ v L, o = .returned v ∧ q v t.heap L ∧ FrameEnd s o t L Cn Sn
/-- what a walk knows of its method -/
def Cx (p : Program) (s : State) (m : MethodId) (meth : Method) (c : Code) (Z : State) (a0 : Array Value) (bytes : ByteArray) (ml : Nat) (own nm : String) (ret : Option FieldType) : Prop :=
  p.tables.exec = Jvm.exec ∧ Z.Warmed39 s.vm ∧ (∀ d ∈ tables_1, d.before a0 Z = true) ∧ c.code = bytes ∧ c.maxLocals = ml ∧ s.vm.findClass own = some m.cls ∧ meth.name = nm ∧ meth.sig.returnType = ret ∧ meth.locks = false
/-- a contract: from the heap h, with the arguments as, it returns and q holds -/
def MetQ (l : Launch) (Z : State) (y : MethodName) (bytes : ByteArray) (ml : Nat) (ret : Option FieldType) (ws : List Jvm.Cond) (rm : Room) (as : Array Value) (h : Heap) (q : Option Value → Heap → List Loc → Prop) : Prop :=
  MetFree l y (head1 (Jvm.Cond.code y bytes ml ret :: ws) rm) (fun a U => a = as ∧ Z.Warmed39 U.vm ∧ U.heap = h) (fun _ _ _ _ _ => True) (fun _ U o U' => ∃ v L, o = .returned v ∧ q v U'.heap L ∧ FrameEnd U o U' L rm.cells rm.slots)
theorem metQ {y : MethodName} {bytes : ByteArray} {ml : Nat} {ret : Option FieldType} {ws : List Jvm.Cond} {rm : Room} {as : Array Value} {q : Option Value → Heap → List Loc → Prop} {Ls : Array Slot} (hpl : plainFor y = true) (hw : ∀ d ∈ tables_1, d.before a0 Z = true)
    (hef : ∀ m, entryFrame m as ml = mkF m 0 Ls [])
    (body : ∀ p e s m below meth c s₁, Cx p s m meth c Z a0 bytes ml y.cls y.name ret → Stand p l e rm s m as below meth c s₁ [] 0 0 → s₁.heap = h → WP p e below (Ends s below q rm.cells rm.slots) s₁ (mkF m 0 Ls [])) :
    MetQ l Z y bytes ml ret ws rm as h q := by
  refine MetFree.of_bodySF hpl hisR ?_
  intro p e s m args below meth c s₁ Bd hml0 hP hK
  obtain ⟨rfl, hZ, hh⟩ := hP
  obtain ⟨t, st, o, a, b, d⟩ := body p e s m below meth c s₁ ⟨Bd.exec, hZ, hw, Bd.bytes, hml0, findClass_of_methodNamed Bd.named, (name_of_methodNamed Bd.named Bd.method).1, Bd.returns, Bd.notSynchronized⟩ (Stand.of_body Bd) (by rw [← hh, Bd.state]; rfl)
  exact ⟨t, o, castTop (hef m) st, a, b, d⟩
theorem wp_ret {q : Option Value → Heap → List Loc → Prop} {Cn Sn : Nat} {v : Option Value} {g : JFrame} (X : Stand p l e R s m args below meth c T locs cells slots) (hlk : meth.locks = false) (hv : meth.sig.returnType = none → v = none)
    (hst : ∀ fs, (∀ (f : JFrame) (acts : List Action), f.method = m → f.locked = none → f.entered = [] → (doReturn e (T.setTop f) acts v).1 = T.setFrames fs) → Steps p.tables e below (T.setTop g) (T.setFrames fs)) (hq : q v T.heap locs) (hc : cells ≤ Cn) (hs : slots ≤ Sn) :
    WP p e below (Ends s below q Cn Sn) T g := by
  obtain ⟨fs, hr, hrun, hended, hW, hsame⟩ := X.leave (v := v) hv hlk
  exact ⟨_, hst fs hr, _, hrun, hended, _, _, rfl, hq, ⟨_, rfl⟩, hW, hsame.mono hc hs⟩
theorem wp_ireturn {q : Option Value → Heap → List Loc → Prop} {Cn Sn : Nat} {bytes : ByteArray} {ml pc : Nat} {own nm : String} {Ls : Array Slot} {z : Int32} {rest : List Value} (C : Cx p s m meth c Z a0 bytes ml own nm (some .int)) (X : Stand p l e R s m args below meth c T locs cells slots)
    (hd : decode bytes pc = .ok (.ireturn, 1)) (hq : q (some (.int z)) T.heap locs) (hc : cells ≤ Cn) (hs : slots ≤ Sn) : WP p e below (Ends s below q Cn Sn) T (mkF m pc Ls (.int z :: rest)) := by
  obtain ⟨hx, hZ, hw, hby, hml, hown, hnm, hret, hlk⟩ := C
  exact wp_ret X hlk (fun h => by rw [hret] at h; cases h) (fun fs hr => retI X hx hret (hb hby hd) hr) hq hc hs
theorem wp_zreturn {q : Option Value → Heap → List Loc → Prop} {Cn Sn : Nat} {bytes : ByteArray} {ml pc : Nat} {own nm : String} {t : FieldType} {Ls : Array Slot} {z : Int32} {rest : List Value} (C : Cx p s m meth c Z a0 bytes ml own nm (some t)) (X : Stand p l e R s m args below meth c T locs cells slots)
    (ht : t = .boolean ∨ t = .byte ∨ t = .char ∨ t = .short) (hd : decode bytes pc = .ok (.ireturn, 1)) (hq : q (some (.int (nar t z))) T.heap locs) (hc : cells ≤ Cn) (hs : slots ≤ Sn) : WP p e below (Ends s below q Cn Sn) T (mkF m pc Ls (.int z :: rest)) := by
  obtain ⟨hx, hZ, hw, hby, hml, hown, hnm, hret, hlk⟩ := C
  exact wp_ret X hlk (fun h => by rw [hret] at h; cases h) (fun fs hr => retN X hx hret ht (hb hby hd) hr) hq hc hs
theorem wp_lreturn {q : Option Value → Heap → List Loc → Prop} {Cn Sn : Nat} {bytes : ByteArray} {ml pc : Nat} {own nm : String} {Ls : Array Slot} {z : Int64} {rest : List Value} (C : Cx p s m meth c Z a0 bytes ml own nm (some .long)) (X : Stand p l e R s m args below meth c T locs cells slots)
    (hd : decode bytes pc = .ok (.lreturn, 1)) (hq : q (some (.long z)) T.heap locs) (hc : cells ≤ Cn) (hs : slots ≤ Sn) : WP p e below (Ends s below q Cn Sn) T (mkF m pc Ls (.long z :: rest)) := by
  obtain ⟨hx, hZ, hw, hby, hml, hown, hnm, hret, hlk⟩ := C
  exact wp_ret X hlk (fun h => by rw [hret] at h; cases h) (fun fs hr => retOut X hx hret rfl (Or.inr (Or.inl ⟨rfl, rfl, z, rfl⟩)) (hb hby hd) hr) hq hc hs
theorem wp_dreturn {q : Option Value → Heap → List Loc → Prop} {Cn Sn : Nat} {bytes : ByteArray} {ml pc : Nat} {own nm : String} {Ls : Array Slot} {z : UInt64} {rest : List Value} (C : Cx p s m meth c Z a0 bytes ml own nm (some .double)) (X : Stand p l e R s m args below meth c T locs cells slots)
    (hd : decode bytes pc = .ok (.dreturn, 1)) (hq : q (some (.double z)) T.heap locs) (hc : cells ≤ Cn) (hs : slots ≤ Sn) : WP p e below (Ends s below q Cn Sn) T (mkF m pc Ls (.double z :: rest)) := by
  obtain ⟨hx, hZ, hw, hby, hml, hown, hnm, hret, hlk⟩ := C
  exact wp_ret X hlk (fun h => by rw [hret] at h; cases h) (fun fs hr => retOut X hx hret rfl (Or.inr (Or.inr (Or.inl ⟨rfl, rfl, z, rfl⟩))) (hb hby hd) hr) hq hc hs
theorem wp_vreturn {q : Option Value → Heap → List Loc → Prop} {Cn Sn : Nat} {bytes : ByteArray} {ml pc : Nat} {own nm : String} {Ls : Array Slot} (C : Cx p s m meth c Z a0 bytes ml own nm none) (X : Stand p l e R s m args below meth c T locs cells slots)
    (hd : decode bytes pc = .ok (.return_, 1)) (hq : q none T.heap locs) (hc : cells ≤ Cn) (hs : slots ≤ Sn) : WP p e below (Ends s below q Cn Sn) T (mkF m pc Ls []) := by
  obtain ⟨hx, hZ, hw, hby, hml, hown, hnm, hret, hlk⟩ := C
  exact wp_ret X hlk (fun _ => rfl) (fun fs hr => X.returnOut hx hret (hb hby hd) hr) hq hc hs
/-! calls -/
theorem wp_static {Q : State → Prop} {bytes : ByteArray} {ml : Nat} {own nm : String} {ret : Option FieldType} {y : MethodName} {bytes' : ByteArray} {ml' : Nat} {ret' : Option FieldType} {rm : Room} {index pc : Nat} {Ls : Array Slot} {argsL rest st : List Value} {q : Option Value → Heap → List Loc → Prop}
    (C : Cx p s m meth c Z a0 bytes ml own nm ret) (X : Stand p l e R s m args below meth c T locs cells slots) (e0 : T.heap = h)
    (met : MetQ l Z y bytes' ml' ret' [] rm argsL.toArray h q)
    (w1 : (Jvm.Cond.methodLink own index y).before a0 Z = true) (w2 : (Jvm.Cond.static y).before a0 Z = true) (w3 : (Jvm.Cond.initialized y.cls).before a0 Z = true) (w4 : (Jvm.Cond.code y bytes' ml' ret').before a0 Z = true)
    (hy : y.cls ≠ "java/lang/invoke/MethodHandle" ∧ y.cls ≠ "java/lang/invoke/VarHandle") (hsz : Ls.size = ml) (hlen : ∀ sig, parseMethodDescriptor y.desc = some sig → argsL.length = sig.parameters.length)
    (hd : decode bytes pc = .ok (.invokestatic index, 3)) (hst : st = argsL.reverse ++ rest) (hf : rm.frames + 1 ≤ R.frames) (hl : (rest.map fun v => v.category).sum + (ml' + 11) + rm.locals ≤ R.locals) (hc : cells + rm.cells ≤ R.cells) (hs : slots + rm.slots ≤ R.slots)
    (k : ∀ T' v L, Stand p l e R s m args below meth c T' (locs ++ L) (cells + rm.cells) (slots + rm.slots) → q v T'.heap L → WP p e below Q T' (mkF m (pc + 3) Ls (v.toList ++ rest))) :
    WP p e below Q T (mkF m pc Ls st) := by
  obtain ⟨hx, hZ, hw, hby, hml, hown, hnm, hret, hlk⟩ := C
  obtain ⟨v, _, ⟨T1, L1, k1, n1⟩, -, X1, ⟨Lc1, hQ1, l1, y1, z1⟩, st1⟩ := Jvm.LawKit.callS X hx (y := y) hown (mvT hZ w1) (mvT hZ w2) (mvT hZ w3) (mvT hZ w4) hy (backOf (W := (rest.map fun v => v.category).sum) met hZ w4 w3 hf hl) (g := mkF m pc Ls st) rfl (hsz.trans hml.symm) (argsL := argsL) (rest := rest) hlen hst (Nat.le_of_eq (Nat.zero_add _)) (hb hby hd) (fun _ _ => ⟨rfl, e0, hc, hs⟩)
  dsimp only [Pt.U, Pt.locs, Pt.cells, Pt.slots] at X1 l1 y1 z1 st1 hQ1
  subst l1 y1 z1
  exact wp st1 (k T1 v Lc1 X1 hQ1)
/-- what a callee that writes nothing leaves -/
def PureQ (r : Option Value) (h : Heap) : Option Value → Heap → List Loc → Prop := fun v h' L => v = r ∧ h' = h ∧ L = []
theorem wp_staticP {Q : State → Prop} {bytes : ByteArray} {ml : Nat} {own nm : String} {ret : Option FieldType} {y : MethodName} {bytes' : ByteArray} {ml' : Nat} {ret' : Option FieldType} {rm : Room} {index pc : Nat} {Ls : Array Slot} {argsL rest st : List Value} {r : Option Value}
    (C : Cx p s m meth c Z a0 bytes ml own nm ret) (X : Stand p l e R s m args below meth c T locs cells slots) (e0 : T.heap = h)
    (met : MetQ l Z y bytes' ml' ret' [] rm argsL.toArray h (PureQ r h))
    (w1 : (Jvm.Cond.methodLink own index y).before a0 Z = true) (w2 : (Jvm.Cond.static y).before a0 Z = true) (w3 : (Jvm.Cond.initialized y.cls).before a0 Z = true) (w4 : (Jvm.Cond.code y bytes' ml' ret').before a0 Z = true)
    (hy : y.cls ≠ "java/lang/invoke/MethodHandle" ∧ y.cls ≠ "java/lang/invoke/VarHandle") (hsz : Ls.size = ml) (hlen : ∀ sig, parseMethodDescriptor y.desc = some sig → argsL.length = sig.parameters.length)
    (hd : decode bytes pc = .ok (.invokestatic index, 3)) (hst : st = argsL.reverse ++ rest) (hrc : rm.cells = 0) (hrs : rm.slots = 0) (hf : rm.frames + 1 ≤ R.frames) (hl : (rest.map fun v => v.category).sum + (ml' + 11) + rm.locals ≤ R.locals) (hc : cells ≤ R.cells) (hs : slots ≤ R.slots)
    (k : ∀ T', Stand p l e R s m args below meth c T' locs cells slots → T'.heap = h → WP p e below Q T' (mkF m (pc + 3) Ls (r.toList ++ rest))) :
    WP p e below Q T (mkF m pc Ls st) := by
  refine wp_static C X e0 met w1 w2 w3 w4 hy hsz hlen hd hst hf hl (by rw [hrc]; exact hc) (by rw [hrs]; exact hs) ?_
  rintro T1 v L X1 ⟨rfl, e1, rfl⟩
  rw [hrc, hrs, List.append_nil] at X1
  exact k T1 X1 e1
theorem wp_virtual {Q : State → Prop} {bytes : ByteArray} {ml : Nat} {own nm : String} {ret : Option FieldType} {y : MethodName} {bytes' : ByteArray} {ml' : Nat} {ret' : Option FieldType} {rm : Room} {index pc : Nat} {Ls : Array Slot} {b : Addr} {argsL rest st : List Value} {q : Option Value → Heap → List Loc → Prop}
    (C : Cx p s m meth c Z a0 bytes ml own nm ret) (X : Stand p l e R s m args below meth c T locs cells slots) (e0 : T.heap = h) (E : Exa Z h b y.cls)
    (met : MetQ l Z y bytes' ml' ret' [] rm (.ref b :: argsL).toArray h q)
    (w1 : (Jvm.Cond.methodLink own index y).before a0 Z = true) (w2 : (Jvm.Cond.declares y).before a0 Z = true) (w3 : (Jvm.Cond.selects y.cls y y).before a0 Z = true) (w5 : (Jvm.Cond.instanceMethod y).before a0 Z = true) (w4 : (Jvm.Cond.code y bytes' ml' ret').before a0 Z = true) (w6 : (Jvm.Cond.initialized y.cls).before a0 Z = true)
    (hy : y.cls ≠ "java/lang/invoke/MethodHandle" ∧ y.cls ≠ "java/lang/invoke/VarHandle") (hsz : Ls.size = ml) (hlen : ∀ sig, parseMethodDescriptor y.desc = some sig → argsL.length = sig.parameters.length)
    (hd : decode bytes pc = .ok (.invokevirtual index, 3)) (hst : st = argsL.reverse ++ .ref b :: rest) (hf : rm.frames + 1 ≤ R.frames) (hl : (rest.map fun v => v.category).sum + (ml' + 11) + rm.locals ≤ R.locals) (hc : cells + rm.cells ≤ R.cells) (hs : slots + rm.slots ≤ R.slots)
    (k : ∀ T' v L, Stand p l e R s m args below meth c T' (locs ++ L) (cells + rm.cells) (slots + rm.slots) → q v T'.heap L → WP p e below Q T' (mkF m (pc + 3) Ls (v.toList ++ rest))) :
    WP p e below Q T (mkF m pc Ls st) := by
  obtain ⟨hx, hZ, hw, hby, hml, hown, hnm, hret, hlk⟩ := C
  obtain ⟨cq, kq, qa, qb, qc⟩ := isOf hZ e0 E
  obtain ⟨v, _, ⟨T1, L1, k1, n1⟩, -, X1, ⟨Lc1, hQ1, l1, y1, z1⟩, st1⟩ := X.virtualBack hx (y := y) (z := y) hown (mvT hZ w1) (mvT hZ w2) (notFace_of_selects (args := #[]) (mvT hZ w3)) (mvT hZ w3) (mvT hZ w5) hy (backOf (W := (rest.map fun v => v.category).sum) met hZ w4 w6 hf hl) qa qc (g := mkF m pc Ls st) rfl (hsz.trans hml.symm) (Steps.refl _) (argsL := argsL) (rest := rest) hlen hst (Nat.le_of_eq (Nat.zero_add _)) (hb hby hd) (fun _ _ => ⟨rfl, e0, hc, hs⟩)
  dsimp only [Pt.U, Pt.locs, Pt.cells, Pt.slots] at X1 l1 y1 z1 st1 hQ1
  subst l1 y1 z1
  exact wp (fun _ k => st1.trans k) (k T1 v Lc1 X1 hQ1)
theorem wp_special {Q : State → Prop} {bytes : ByteArray} {ml : Nat} {own nm : String} {ret : Option FieldType} {y : MethodName} {bytes' : ByteArray} {ml' : Nat} {rm : Room} {index pc : Nat} {Ls : Array Slot} {b : Addr} {argsL rest st : List Value} {q : Option Value → Heap → List Loc → Prop}
    (C : Cx p s m meth c Z a0 bytes ml own nm ret) (X : Stand p l e R s m args below meth c T locs cells slots) (e0 : T.heap = h)
    (met : MetQ l Z y bytes' ml' none [] rm (.ref b :: argsL).toArray h q) (hy1 : y.name = "<init>")
    (w1 : (Jvm.Cond.methodLink own index y).before a0 Z = true) (w5 : (Jvm.Cond.instanceMethod y).before a0 Z = true) (w4 : (Jvm.Cond.code y bytes' ml' none).before a0 Z = true) (w6 : (Jvm.Cond.initialized y.cls).before a0 Z = true)
    (hy : y.cls ≠ "java/lang/invoke/MethodHandle" ∧ y.cls ≠ "java/lang/invoke/VarHandle") (hsz : Ls.size = ml) (hlen : ∀ sig, parseMethodDescriptor y.desc = some sig → argsL.length = sig.parameters.length)
    (hd : decode bytes pc = .ok (.invokespecial index, 3)) (hst : st = argsL.reverse ++ .ref b :: rest) (hf : rm.frames + 1 ≤ R.frames) (hl : (rest.map fun v => v.category).sum + (ml' + 11) + rm.locals ≤ R.locals) (hc : cells + rm.cells ≤ R.cells) (hs : slots + rm.slots ≤ R.slots)
    (k : ∀ T' v L, Stand p l e R s m args below meth c T' (locs ++ L) (cells + rm.cells) (slots + rm.slots) → q v T'.heap L → WP p e below Q T' (mkF m (pc + 3) Ls (v.toList ++ rest))) :
    WP p e below Q T (mkF m pc Ls st) := by
  obtain ⟨hx, hZ, hw, hby, hml, hown, hnm, hret, hlk⟩ := C
  obtain ⟨v, _, ⟨T1, L1, k1, n1⟩, -, X1, ⟨Lc1, hQ1, l1, y1, z1⟩, st1⟩ := X.specialBack hx (y := y) hy1 hown (mvT hZ w1) (mvT hZ w5) (mvT hZ w4) hy (backOf (W := (rest.map fun v => v.category).sum) met hZ w4 w6 hf hl) (g := mkF m pc Ls st) rfl (hsz.trans hml.symm) (Steps.refl _) (a := b) (argsL := argsL) (rest := rest) hlen hst (Nat.le_of_eq (Nat.zero_add _)) (hb hby hd) (fun _ _ => ⟨rfl, e0, hc, hs⟩)
  dsimp only [Pt.U, Pt.locs, Pt.cells, Pt.slots] at X1 l1 y1 z1 st1 hQ1
  subst l1 y1 z1
  exact wp (fun _ k => st1.trans k) (k T1 v Lc1 X1 hQ1)
/-! arrays by their places: place j holds f j -/
def Af (Z : State) (h : Heap) (a : Addr) (ty : FieldType) (n : Nat) (f : Nat → Value) : Prop := ∃ cl : Cell, Arr Z h a cl ty ∧ cl.slots.size = n ∧ ∀ j, j < n → cl.slots[j]? = some (f j)
theorem Af.lt {a : Addr} {ty : FieldType} {n : Nat} {f : Nat → Value} (A : Af Z h a ty n f) : a < h.size := by obtain ⟨c, A, -⟩ := A; exact A.lt
theorem Af.ext {a : Addr} {ty : FieldType} {n : Nat} {f : Nat → Value} (A : Af Z h a ty n f) (E : Ext h h') : Af Z h' a ty n f := by obtain ⟨c, A, r⟩ := A; exact ⟨c, A.ext E, r⟩
theorem Af.other {a b : Addr} {ty : FieldType} {n sl : Nat} {v : Value} {f : Nat → Value} (A : Af Z h b ty n f) (W : Wr h h' a sl v) (q : b ≠ a) : Af Z h' b ty n f := by obtain ⟨c, A, r⟩ := A; exact ⟨c, A.other W q, r⟩
theorem Af.keep {a : Addr} {ty : FieldType} {n : Nat} {f : Nat → Value} {ws : List Addr} (A : Af Z h a ty n f) (K : Keep h h' ws) (q : a ∉ ws) : Af Z h' a ty n f := by obtain ⟨c, A, r⟩ := A; exact ⟨c, ⟨K.2.1 a c A.1 q, A.2⟩, r⟩
theorem Af.conv {a : Addr} {ty : FieldType} {n : Nat} {f g : Nat → Value} (A : Af Z h a ty n f) (q : ∀ j, j < n → f j = g j) : Af Z h a ty n g := by obtain ⟨c, A, r1, r2⟩ := A; exact ⟨c, A, r1, fun j hj => by rw [← q j hj]; exact r2 j hj⟩
theorem Af.set {a : Addr} {ty : FieldType} {n i : Nat} {v : Value} {f : Nat → Value} (A : Af Z h a ty n f) (W : Wr h h' a i v) (hi : i < n) : Af Z h' a ty n (fun j => if j = i then v else f j) := by
  obtain ⟨c, A, r1, r2⟩ := A
  refine ⟨_, A.same W, by rw [sz_set]; exact r1, fun j hj => ?_⟩
  show (c.slots.setIfInBounds i v)[j]? = _
  by_cases q : j = i
  · subst q; simp [r1, hi]
  · rw [Array.getElem?_setIfInBounds_ne (Ne.symm q), r2 j hj]; simp [q]
theorem clampNeg {z : Int32} {j : Nat} (hz : z.toInt = (j : Int)) : z.toNatClampNeg = j := by
  rw [Int32.toNatClampNeg, hz]; rfl
theorem idxIn {z : Int32} {j n : Nat} (hz : z.toInt = (j : Int)) (hj : j < n) : ¬ (z < 0 ∨ n ≤ z.toNatClampNeg) := by
  rw [clampNeg hz, Int32.lt_iff_toInt_lt, hz, show (0 : Int32).toInt = 0 from rfl]
  omega
theorem wp_newarray {Q : State → Prop} {bytes : ByteArray} {ml : Nat} {own nm : String} {ret : Option FieldType} {aty : ArrayType} {pc n : Nat} {z : Int32} {Ls : Array Slot} {rest : List Value}
    (C : Cx p s m meth c Z a0 bytes ml own nm ret) (X : Stand p l e R s m args below meth c T locs cells slots) (e0 : T.heap = h) (w : (Jvm.Cond.arrayClass (newarray.typeOf aty)).before a0 Z = true) (hd : decode bytes pc = .ok (.newarray aty, 2)) (hz : z.toInt = (n : Int)) {cap : Nat} (hn : n ≤ cap) (hcap : cap * 8 ≤ 536870912)
    (hc : cells + 1 ≤ R.cells) (hs : slots + cap ≤ R.slots)
    (k : ∀ T' h', Stand p l e R s m args below meth c T' locs (cells + 1) (slots + cap) → T'.heap = h' → Ext h h' → Af Z h' h.size (newarray.typeOf aty) n (fun _ => defaultValue (newarray.typeOf aty)) → WP p e below Q T' (mkF m (pc + 2) Ls (.ref h.size :: rest))) :
    WP p e below Q T (mkF m pc Ls (.int z :: rest)) := by
  obtain ⟨hx, hZ, hw, hby, hml, hown, hnm, hret, hlk⟩ := C
  obtain ⟨T1, h1, k1, X1, e1, E1, A1, st1⟩ := newP X hx hZ w e0 (g := mkF m pc Ls (.int z :: rest)) rfl (hb hby hd) rfl (by rw [Int32.lt_iff_toInt_lt, hz, show (0 : Int32).toInt = 0 from rfl]; omega) (cap := cap) (by rw [clampNeg hz]; exact hn) hcap hc hs
  refine wp st1 (k T1 h1 X1 e1 E1 ⟨_, A1, by rw [sz_new, clampNeg hz], fun j hj => ?_⟩)
  simp [newA, clampNeg hz, hj]
theorem wp_bastore {Q : State → Prop} {bytes : ByteArray} {ml : Nat} {own nm : String} {ret : Option FieldType} {pc n j : Nat} {zj x : Int32} {a : Addr} {f : Nat → Value} {Ls : Array Slot} {rest : List Value}
    (C : Cx p s m meth c Z a0 bytes ml own nm ret) (X : Stand p l e R s m args below meth c T locs cells slots) (e0 : T.heap = h) (A : Af Z h a .byte n f) (hz : zj.toInt = (j : Int)) (hj : j < n) (hd : decode bytes pc = .ok (.bastore, 1))
    (k : ∀ T' h', Stand p l e R s m args below meth c T' (locs ++ [⟨a, zj.toNatClampNeg⟩]) cells slots → T'.heap = h' → Wr h h' a j (.int (nar .byte x)) → Af Z h' a .byte n (fun i => if i = j then .int (nar .byte x) else f i) → WP p e below Q T' (mkF m (pc + 1) Ls rest)) :
    WP p e below Q T (mkF m pc Ls (.int x :: .int zj :: .ref a :: rest)) := by
  obtain ⟨hx, hZ, hw, hby, hml, hown, hnm, hret, hlk⟩ := C
  obtain ⟨cl, Ar, Sz, H⟩ := id A
  obtain ⟨T1, h1, X1, e1, W1, st1⟩ := stB X hx hZ e0 Ar (j := zj) (by rw [Sz]; exact idxIn hz hj) (g := mkF m pc Ls (.int x :: .int zj :: .ref a :: rest)) rfl rfl (hb hby hd)
  rw [clampNeg hz] at W1
  exact wp st1 (k T1 h1 X1 e1 W1 (A.set W1 hj))
theorem wp_iastore {Q : State → Prop} {bytes : ByteArray} {ml : Nat} {own nm : String} {ret : Option FieldType} {pc n j : Nat} {zj x : Int32} {a : Addr} {f : Nat → Value} {Ls : Array Slot} {rest : List Value}
    (C : Cx p s m meth c Z a0 bytes ml own nm ret) (X : Stand p l e R s m args below meth c T locs cells slots) (e0 : T.heap = h) (A : Af Z h a .int n f) (hz : zj.toInt = (j : Int)) (hj : j < n) (hd : decode bytes pc = .ok (.iastore, 1))
    (k : ∀ T' h', Stand p l e R s m args below meth c T' (locs ++ [⟨a, zj.toNatClampNeg⟩]) cells slots → T'.heap = h' → Wr h h' a j (.int x) → Af Z h' a .int n (fun i => if i = j then .int x else f i) → WP p e below Q T' (mkF m (pc + 1) Ls rest)) :
    WP p e below Q T (mkF m pc Ls (.int x :: .int zj :: .ref a :: rest)) := by
  obtain ⟨hx, hZ, hw, hby, hml, hown, hnm, hret, hlk⟩ := C
  obtain ⟨cl, Ar, Sz, H⟩ := id A
  obtain ⟨T1, h1, X1, e1, W1, st1⟩ := stI X hx hZ e0 Ar (j := zj) (by rw [Sz]; exact idxIn hz hj) (g := mkF m pc Ls (.int x :: .int zj :: .ref a :: rest)) rfl rfl (hb hby hd)
  rw [clampNeg hz] at W1
  exact wp st1 (k T1 h1 X1 e1 W1 (A.set W1 hj))
theorem wp_lastore {Q : State → Prop} {bytes : ByteArray} {ml : Nat} {own nm : String} {ret : Option FieldType} {pc n j : Nat} {zj : Int32} {x : Int64} {a : Addr} {f : Nat → Value} {Ls : Array Slot} {rest : List Value}
    (C : Cx p s m meth c Z a0 bytes ml own nm ret) (X : Stand p l e R s m args below meth c T locs cells slots) (e0 : T.heap = h) (A : Af Z h a .long n f) (hz : zj.toInt = (j : Int)) (hj : j < n) (hd : decode bytes pc = .ok (.lastore, 1))
    (k : ∀ T' h', Stand p l e R s m args below meth c T' (locs ++ [⟨a, zj.toNatClampNeg⟩]) cells slots → T'.heap = h' → Wr h h' a j (.long x) → Af Z h' a .long n (fun i => if i = j then .long x else f i) → WP p e below Q T' (mkF m (pc + 1) Ls rest)) :
    WP p e below Q T (mkF m pc Ls (.long x :: .int zj :: .ref a :: rest)) := by
  obtain ⟨hx, hZ, hw, hby, hml, hown, hnm, hret, hlk⟩ := C
  obtain ⟨cl, Ar, Sz, H⟩ := id A
  obtain ⟨T1, h1, X1, e1, W1, st1⟩ := stJ X hx hZ e0 Ar (j := zj) (by rw [Sz]; exact idxIn hz hj) (g := mkF m pc Ls (.long x :: .int zj :: .ref a :: rest)) rfl rfl (hb hby hd)
  rw [clampNeg hz] at W1
  exact wp st1 (k T1 h1 X1 e1 W1 (A.set W1 hj))
theorem wp_baload {Q : State → Prop} {bytes : ByteArray} {ml : Nat} {own nm : String} {ret : Option FieldType} {pc n j : Nat} {zj : Int32} {v : Value} {a : Addr} {f : Nat → Value} {Ls : Array Slot} {rest : List Value}
    (C : Cx p s m meth c Z a0 bytes ml own nm ret) (X : Stand p l e R s m args below meth c T locs cells slots) (e0 : T.heap = h) (A : Af Z h a .byte n f) (hz : zj.toInt = (j : Int)) (hj : j < n) (hv : f j = v) (hd : decode bytes pc = .ok (.baload, 1))
    (k : WP p e below Q T (mkF m (pc + 1) Ls (v :: rest))) : WP p e below Q T (mkF m pc Ls (.int zj :: .ref a :: rest)) := by
  obtain ⟨hx, hZ, hw, hby, hml, hown, hnm, hret, hlk⟩ := C
  obtain ⟨cl, Ar, Sz, H⟩ := A
  exact wp (fun t kt => X.baloadBytes hx (j := zj) (v := v) (by rw [e0]; exact Ar.1) (State.isArrayOf_alike hZ.alike Ar.2.1) Ar.2.2 (by rw [Sz]; exact idxIn hz hj) (by rw [clampNeg hz, H j hj, hv]) (g := mkF m pc Ls (.int zj :: .ref a :: rest)) rfl rfl (hb hby hd) t kt) k
theorem wp_iaload {Q : State → Prop} {bytes : ByteArray} {ml : Nat} {own nm : String} {ret : Option FieldType} {pc n j : Nat} {zj : Int32} {v : Value} {a : Addr} {f : Nat → Value} {Ls : Array Slot} {rest : List Value}
    (C : Cx p s m meth c Z a0 bytes ml own nm ret) (X : Stand p l e R s m args below meth c T locs cells slots) (e0 : T.heap = h) (A : Af Z h a .int n f) (hz : zj.toInt = (j : Int)) (hj : j < n) (hv : f j = v) (hd : decode bytes pc = .ok (.iaload, 1))
    (k : WP p e below Q T (mkF m (pc + 1) Ls (v :: rest))) : WP p e below Q T (mkF m pc Ls (.int zj :: .ref a :: rest)) := by
  obtain ⟨hx, hZ, hw, hby, hml, hown, hnm, hret, hlk⟩ := C
  obtain ⟨cl, Ar, Sz, H⟩ := A
  exact wp (fun t kt => X.iaload hx (j := zj) (v := v) (by rw [e0]; exact Ar.1) (State.isArrayOf_alike hZ.alike Ar.2.1) Ar.2.2 (by rw [Sz]; exact idxIn hz hj) (by rw [clampNeg hz, H j hj, hv]) (g := mkF m pc Ls (.int zj :: .ref a :: rest)) rfl rfl (hb hby hd) t kt) k
theorem wp_laload {Q : State → Prop} {bytes : ByteArray} {ml : Nat} {own nm : String} {ret : Option FieldType} {pc n j : Nat} {zj : Int32} {v : Value} {a : Addr} {f : Nat → Value} {Ls : Array Slot} {rest : List Value}
    (C : Cx p s m meth c Z a0 bytes ml own nm ret) (X : Stand p l e R s m args below meth c T locs cells slots) (e0 : T.heap = h) (A : Af Z h a .long n f) (hz : zj.toInt = (j : Int)) (hj : j < n) (hv : f j = v) (hd : decode bytes pc = .ok (.laload, 1))
    (k : WP p e below Q T (mkF m (pc + 1) Ls (v :: rest))) : WP p e below Q T (mkF m pc Ls (.int zj :: .ref a :: rest)) := by
  obtain ⟨hx, hZ, hw, hby, hml, hown, hnm, hret, hlk⟩ := C
  obtain ⟨cl, Ar, Sz, H⟩ := A
  exact wp (fun t kt => X.laload hx (j := zj) (v := v) (by rw [e0]; exact Ar.1) (State.isArrayOf_alike hZ.alike Ar.2.1) Ar.2.2 (by rw [Sz]; exact idxIn hz hj) (by rw [clampNeg hz, H j hj, hv]) (g := mkF m pc Ls (.int zj :: .ref a :: rest)) rfl rfl (hb hby hd) t kt) k
theorem wp_arraylength {Q : State → Prop} {bytes : ByteArray} {ml : Nat} {own nm : String} {ret : Option FieldType} {pc n : Nat} {a : Addr} {ty : FieldType} {f : Nat → Value} {Ls : Array Slot} {rest : List Value}
    (C : Cx p s m meth c Z a0 bytes ml own nm ret) (X : Stand p l e R s m args below meth c T locs cells slots) (e0 : T.heap = h) (A : Af Z h a ty n f) (hd : decode bytes pc = .ok (.arraylength, 1))
    (k : WP p e below Q T (mkF m (pc + 1) Ls (.int (Int32.ofNat n) :: rest))) : WP p e below Q T (mkF m pc Ls (.ref a :: rest)) := by
  obtain ⟨hx, hZ, hw, hby, hml, hown, hnm, hret, hlk⟩ := C
  obtain ⟨cl, Ar, Sz, H⟩ := A
  refine wp (fun t kt => X.arraylength hx (by rw [e0]; exact Ar.1) (State.isArrayOf_alike hZ.alike Ar.2.1) (g := mkF m pc Ls (.ref a :: rest)) rfl rfl (hb hby hd) t ?_) k
  rw [Sz]
  exact kt
theorem wp_ldc {Q : State → Prop} {bytes : ByteArray} {ml : Nat} {own nm : String} {ret : Option FieldType} {pc index : Nat} {v : Int32} {Ls : Array Slot} {st : List Value}
    (C : Cx p s m meth c Z a0 bytes ml own nm ret) (X : Stand p l e R s m args below meth c T locs cells slots) (w : (Jvm.Cond.constant own index v).before a0 Z = true) (hd : decode bytes pc = .ok (.ldc index, 2))
    (k : WP p e below Q T (mkF m (pc + 2) Ls (.int v :: st))) : WP p e below Q T (mkF m pc Ls st) := by
  obtain ⟨hx, hZ, hw, hby, hml, hown, hnm, hret, hlk⟩ := C
  exact wp (X.ldcInt hx hown (mvT hZ w) (g := mkF m pc Ls st) rfl (hb hby hd)) k
theorem wp_ldc2 {Q : State → Prop} {bytes : ByteArray} {ml : Nat} {own nm : String} {ret : Option FieldType} {pc index : Nat} {v : Int64} {Ls : Array Slot} {st : List Value}
    (C : Cx p s m meth c Z a0 bytes ml own nm ret) (X : Stand p l e R s m args below meth c T locs cells slots) (w : (Jvm.Cond.constantLong own index v).before a0 Z = true) (hd : decode bytes pc = .ok (.ldc2_w index, 3))
    (k : WP p e below Q T (mkF m (pc + 3) Ls (.long v :: st))) : WP p e below Q T (mkF m pc Ls st) := by
  obtain ⟨hx, hZ, hw, hby, hml, hown, hnm, hret, hlk⟩ := C
  exact wp (X.ldc2Long hx hown (mvT hZ w) (g := mkF m pc Ls st) rfl (hb hby hd)) k
theorem Frs {k : Nat} {a : Addr} {sl : Nat} {L : List Loc} (N : Fr k L) (q : k ≤ a) : Fr k (L ++ [⟨a, sl⟩]) := N.app fun y hy => by cases List.mem_singleton.mp hy; exact q
end Kit

section Kit2
variable {p : Program} {l : Launch} {e : Env} {R : Room} {s : State} {m : MethodId} {args : Array Value} {below : List Frame} {meth : Method} {c : Code} {T T' : State} {locs : List Loc} {cells slots : Nat} {Z : State} {a0 : Array Value} {h h' : Heap}
theorem wp_virtualP {Q : State → Prop} {bytes : ByteArray} {ml : Nat} {own nm : String} {ret : Option FieldType} {y : MethodName} {bytes' : ByteArray} {ml' : Nat} {ret' : Option FieldType} {rm : Room} {index pc : Nat} {Ls : Array Slot} {b : Addr} {argsL rest st : List Value} {r : Option Value}
    (C : Cx p s m meth c Z a0 bytes ml own nm ret) (X : Stand p l e R s m args below meth c T locs cells slots) (e0 : T.heap = h) (E : Exa Z h b y.cls)
    (met : MetQ l Z y bytes' ml' ret' [] rm (.ref b :: argsL).toArray h (PureQ r h))
    (w1 : (Jvm.Cond.methodLink own index y).before a0 Z = true) (w2 : (Jvm.Cond.declares y).before a0 Z = true) (w3 : (Jvm.Cond.selects y.cls y y).before a0 Z = true) (w5 : (Jvm.Cond.instanceMethod y).before a0 Z = true) (w4 : (Jvm.Cond.code y bytes' ml' ret').before a0 Z = true) (w6 : (Jvm.Cond.initialized y.cls).before a0 Z = true)
    (hy : y.cls ≠ "java/lang/invoke/MethodHandle" ∧ y.cls ≠ "java/lang/invoke/VarHandle") (hsz : Ls.size = ml) (hlen : ∀ sig, parseMethodDescriptor y.desc = some sig → argsL.length = sig.parameters.length)
    (hd : decode bytes pc = .ok (.invokevirtual index, 3)) (hst : st = argsL.reverse ++ .ref b :: rest) (hrc : rm.cells = 0) (hrs : rm.slots = 0) (hf : rm.frames + 1 ≤ R.frames) (hl : (rest.map fun v => v.category).sum + (ml' + 11) + rm.locals ≤ R.locals) (hc : cells ≤ R.cells) (hs : slots ≤ R.slots)
    (k : ∀ T', Stand p l e R s m args below meth c T' locs cells slots → T'.heap = h → WP p e below Q T' (mkF m (pc + 3) Ls (r.toList ++ rest))) :
    WP p e below Q T (mkF m pc Ls st) := by
  refine wp_virtual C X e0 E met w1 w2 w3 w5 w4 w6 hy hsz hlen hd hst hf hl (by rw [hrc]; exact hc) (by rw [hrs]; exact hs) ?_
  rintro T1 v L X1 ⟨rfl, e1, rfl⟩
  rw [hrc, hrs, List.append_nil] at X1
  exact k T1 X1 e1
theorem wp_getfield {Q : State → Prop} {bytes : ByteArray} {ml : Nat} {own nm : String} {ret : Option FieldType} {O n d : String} {index pc : Nat} {v : Value} {a : Addr} {Ls : Array Slot} {rest : List Value}
    (C : Cx p s m meth c Z a0 bytes ml own nm ret) (X : Stand p l e R s m args below meth c T locs cells slots) (e0 : T.heap = h) (w : (Jvm.Cond.fieldLink own index O n d).before a0 Z = true) (F : Fld Z h a O n d v) (hd : decode bytes pc = .ok (.getfield index, 3))
    (k : ∀ T', Stand p l e R s m args below meth c T' locs cells slots → T'.heap = h → WP p e below Q T' (mkF m (pc + 3) Ls (v :: rest))) : WP p e below Q T (mkF m pc Ls (.ref a :: rest)) := by
  obtain ⟨hx, hZ, hw, hby, hml, hown, hnm, hret, hlk⟩ := C
  obtain ⟨T1, X1, e1, st1⟩ := getF X hx hZ hown (host := "") (Or.inl w) Via.refl e0 F (g := mkF m pc Ls (.ref a :: rest)) rfl rfl (hb hby hd)
  exact wp st1 (k T1 X1 e1)
theorem wp_getstatic {Q : State → Prop} {bytes : ByteArray} {ml : Nat} {own nm : String} {ret : Option FieldType} {O n d : String} {index pc : Nat} {v : Value} {Ls : Array Slot} {st : List Value}
    (C : Cx p s m meth c Z a0 bytes ml own nm ret) (X : Stand p l e R s m args below meth c T locs cells slots) (e0 : T.heap = h) (w : (Jvm.Cond.fieldLink own index O n d).before a0 Z = true) (F : Sta Z h O n d v) (hd : decode bytes pc = .ok (.getstatic index, 3))
    (k : ∀ T', Stand p l e R s m args below meth c T' locs cells slots → T'.heap = h → WP p e below Q T' (mkF m (pc + 3) Ls (v :: st))) : WP p e below Q T (mkF m pc Ls st) := by
  obtain ⟨hx, hZ, hw, hby, hml, hown, hnm, hret, hlk⟩ := C
  obtain ⟨T1, X1, e1, st1⟩ := getS2 X hx hZ hown (host := "") (Or.inl w) Via.refl e0 F (g := mkF m pc Ls st) rfl (hb hby hd)
  exact wp st1 (k T1 X1 e1)
theorem wp_putfield {Q : State → Prop} {bytes : ByteArray} {ml : Nat} {own nm : String} {ret : Option FieldType} {O n d K : String} {index pc kk : Nat} {ty : FieldType} {v old : Value} {a : Addr} {Ls : Array Slot} {rest : List Value}
    (C : Cx p s m meth c Z a0 bytes ml own nm ret) (X : Stand p l e R s m args below meth c T locs cells slots) (e0 : T.heap = h) (w : (Jvm.Cond.fieldLink own index O n d).before a0 Z = true) (F : Fld Z h a O n d old) (E : Exa Z h a K)
    (L : (Jvm.Cond.lays K O n d).before a0 Z = true ∨ ((Jvm.Cond.laysFinal K O n d).before a0 Z = true ∧ own = O ∧ nm = "<init>")) (wi : (Jvm.Cond.instantiable K kk).before a0 Z = true) (hty : parseFieldDescriptor d = some ty) (hn : narrow ty v = v) (hf : fits ty v = true) (hd : decode bytes pc = .ok (.putfield index, 3))
    (k : ∀ T' h', Stand p l e R s m args below meth c T' (locs ++ [⟨a, Jvm.RoadKit.slotOf Z O n d⟩]) cells slots → T'.heap = h' → Wr h h' a (Jvm.RoadKit.slotOf Z O n d) v → WP p e below Q T' (mkF m (pc + 3) Ls rest)) : WP p e below Q T (mkF m pc Ls (v :: .ref a :: rest)) := by
  obtain ⟨hx, hZ, hw, hby, hml, hown, hnm, hret, hlk⟩ := C
  obtain ⟨T1, h1, X1, e1, W1, st1⟩ := putF X hx hZ hown (host := "") (Or.inl w) Via.refl e0 F E (L.imp id fun q => ⟨q.1, q.2.1, hnm.trans q.2.2⟩) wi hty hn hf (g := mkF m pc Ls (v :: .ref a :: rest)) rfl rfl (hb hby hd)
  exact wp st1 (k T1 h1 X1 e1 W1)
theorem wp_new {Q : State → Prop} {bytes : ByteArray} {ml : Nat} {own nm : String} {ret : Option FieldType} {K : String} {index pc n : Nat} {Ls : Array Slot} {st : List Value}
    (C : Cx p s m meth c Z a0 bytes ml own nm ret) (X : Stand p l e R s m args below meth c T locs cells slots) (e0 : T.heap = h) (w : (Jvm.Cond.classLink own index K).before a0 Z = true) (wi : (Jvm.Cond.instantiable K n).before a0 Z = true) (wz : (Jvm.Cond.initialized K).before a0 Z = true) (hd : decode bytes pc = .ok (.new index, 3)) (hc : cells + 1 ≤ R.cells) (hs : slots + n ≤ R.slots)
    (k : ∀ T' h', Stand p l e R s m args below meth c T' locs (cells + 1) (slots + n) → T'.heap = h' → Ext h h' → Exa Z h' h.size K → (∀ {O nm d : String} {ty : FieldType}, Laid Z a0 K O nm d → parseFieldDescriptor d = some ty → Fld Z h' h.size O nm d (defaultValue ty)) → WP p e below Q T' (mkF m (pc + 3) Ls (.ref h.size :: st))) : WP p e below Q T (mkF m pc Ls st) := by
  obtain ⟨hx, hZ, hw, hby, hml, hown, hnm, hret, hlk⟩ := C
  obtain ⟨T1, h1, X1, e1, E1, A1, D1, -, st1⟩ := newO X hx hZ hown w wi wz e0 (g := mkF m pc Ls st) rfl (hb hby hd) hc hs
  exact wp st1 (k T1 h1 X1 e1 E1 A1 D1)
theorem wp_initO {Q : State → Prop} {bytes : ByteArray} {ml : Nat} {own nm : String} {ret : Option FieldType} {index pc : Nat} {a : Addr} {Ls : Array Slot} {rest : List Value}
    (C : Cx p s m meth c Z a0 bytes ml own nm ret) (X : Stand p l e R s m args below meth c T locs cells slots) (e0 : T.heap = h) (w1 : (Jvm.Cond.methodLink own index Lib.objectInit).before a0 Z = true) (w2 : (Jvm.Cond.instanceMethod Lib.objectInit).before a0 Z = true) (w3 : (Jvm.Cond.code Lib.objectInit object_method_1_code 1 none).before a0 Z = true)
    (hd : decode bytes pc = .ok (.invokespecial index, 3)) (hsz : Ls.size = ml) (hf : 1 ≤ R.frames) (hl : (rest.map fun v => v.category).sum + 12 ≤ R.locals)
    (k : ∀ T', Stand p l e R s m args below meth c T' locs cells slots → T'.heap = h → WP p e below Q T' (mkF m (pc + 3) Ls rest)) : WP p e below Q T (mkF m pc Ls (.ref a :: rest)) := by
  obtain ⟨hx, hZ, hw, hby, hml, hown, hnm, hret, hlk⟩ := C
  obtain ⟨T1, X1, e1, st1⟩ := initO X hx hZ hown w1 w2 w3 e0 (g := mkF m pc Ls (.ref a :: rest)) rfl (hsz.trans hml.symm) rfl (hb hby hd) hf (W := (rest.map fun v => v.category).sum) (Nat.le_of_eq (Nat.zero_add _)) hl
  exact wp st1 (k T1 X1 e1)
theorem wp_ldcw {Q : State → Prop} {bytes : ByteArray} {ml : Nat} {own nm : String} {ret : Option FieldType} {pc index : Nat} {v : Int32} {Ls : Array Slot} {st : List Value}
    (C : Cx p s m meth c Z a0 bytes ml own nm ret) (X : Stand p l e R s m args below meth c T locs cells slots) (w : (Jvm.Cond.constant own index v).before a0 Z = true) (hd : decode bytes pc = .ok (.ldc_w index, 3))
    (k : WP p e below Q T (mkF m (pc + 3) Ls (.int v :: st))) : WP p e below Q T (mkF m pc Ls st) := by
  obtain ⟨hx, hZ, hw, hby, hml, hown, hnm, hret, hlk⟩ := C
  exact wp (X.ldcwInt hx hown (mvT hZ w) (g := mkF m pc Ls st) rfl (hb hby hd)) k
end Kit2

/-! numbers -/
theorem own_z {z : Int32} {k : Nat} (hz : z.toInt = (k : Int)) (hk : k < 2147483648) : z = Int32.ofNat k := by
  rw [← Int32.toInt_inj, hz, Int32.toInt_ofNat_of_lt hk]
def own_y (x : Nat → Int32) (j : Nat) : Int64 := (x j).toInt64
def own_up (x : Nat → Int32) (i : Nat) (v : Int32) (j : Nat) : Int32 := if j = i then v else x j
theorem own_y_up (x : Nat → Int32) (i : Nat) (v : Int32) (j : Nat) : own_y (own_up x i v) j = if j = i then v.toInt64 else own_y x j := by
  unfold own_y own_up
  split <;> rfl
def own_pre (y : Nat → Int64) : Nat → Int64
  | 0 => 0
  | k + 1 => own_pre y k + y k
def own_sm (y : Nat → Int64) : Nat → Int64
  | 1 => y 0
  | 2 => y 0 + y 1
  | 3 => y 2
  | 4 => y 0 + y 1 + y 2 + y 3
  | 5 => y 4
  | 6 => y 4 + y 5
  | _ => 0
def own_add (g : Nat → Int64) (i : Nat) (v : Int64) (j : Nat) : Int64 := if j = i then g i + v else g j
theorem own_six {j : Nat} (hj : j < 6) : j = 0 ∨ j = 1 ∨ j = 2 ∨ j = 3 ∨ j = 4 ∨ j = 5 := by omega
theorem own_seven {j : Nat} (hj : j < 7) : j = 0 ∨ j = 1 ∨ j = 2 ∨ j = 3 ∨ j = 4 ∨ j = 5 ∨ j = 6 := by omega

theorem own_tot0 (y y' : Nat → Int64) (v : Int64) (hy : ∀ j, y' j = if j = 0 then v else y j) : own_pre y 6 + (v - y 0) = own_pre y' 6 := by
  simp only [own_pre, hy]
  simp
  grind
theorem own_upd0 (y y' : Nat → Int64) (v : Int64) (hy : ∀ j, y' j = if j = 0 then v else y j) (j : Nat) (hj : j < 7) : (own_add (own_add (own_add (own_sm y) 1 (v - y 0)) 2 (v - y 0)) 4 (v - y 0)) j = own_sm y' j := by
  rcases own_seven hj with rfl | rfl | rfl | rfl | rfl | rfl | rfl <;> simp [own_sm, own_add, hy] <;> grind
theorem own_tot1 (y y' : Nat → Int64) (v : Int64) (hy : ∀ j, y' j = if j = 1 then v else y j) : own_pre y 6 + (v - y 1) = own_pre y' 6 := by
  simp only [own_pre, hy]
  simp
  grind
theorem own_upd1 (y y' : Nat → Int64) (v : Int64) (hy : ∀ j, y' j = if j = 1 then v else y j) (j : Nat) (hj : j < 7) : (own_add (own_add (own_sm y) 2 (v - y 1)) 4 (v - y 1)) j = own_sm y' j := by
  rcases own_seven hj with rfl | rfl | rfl | rfl | rfl | rfl | rfl <;> simp [own_sm, own_add, hy] <;> grind
theorem own_tot2 (y y' : Nat → Int64) (v : Int64) (hy : ∀ j, y' j = if j = 2 then v else y j) : own_pre y 6 + (v - y 2) = own_pre y' 6 := by
  simp only [own_pre, hy]
  simp
  grind
theorem own_upd2 (y y' : Nat → Int64) (v : Int64) (hy : ∀ j, y' j = if j = 2 then v else y j) (j : Nat) (hj : j < 7) : (own_add (own_add (own_sm y) 3 (v - y 2)) 4 (v - y 2)) j = own_sm y' j := by
  rcases own_seven hj with rfl | rfl | rfl | rfl | rfl | rfl | rfl <;> simp [own_sm, own_add, hy] <;> grind
theorem own_tot3 (y y' : Nat → Int64) (v : Int64) (hy : ∀ j, y' j = if j = 3 then v else y j) : own_pre y 6 + (v - y 3) = own_pre y' 6 := by
  simp only [own_pre, hy]
  simp
  grind
theorem own_upd3 (y y' : Nat → Int64) (v : Int64) (hy : ∀ j, y' j = if j = 3 then v else y j) (j : Nat) (hj : j < 7) : (own_add (own_sm y) 4 (v - y 3)) j = own_sm y' j := by
  rcases own_seven hj with rfl | rfl | rfl | rfl | rfl | rfl | rfl <;> simp [own_sm, own_add, hy] <;> grind
theorem own_tot4 (y y' : Nat → Int64) (v : Int64) (hy : ∀ j, y' j = if j = 4 then v else y j) : own_pre y 6 + (v - y 4) = own_pre y' 6 := by
  simp only [own_pre, hy]
  simp
  grind
theorem own_upd4 (y y' : Nat → Int64) (v : Int64) (hy : ∀ j, y' j = if j = 4 then v else y j) (j : Nat) (hj : j < 7) : (own_add (own_add (own_sm y) 5 (v - y 4)) 6 (v - y 4)) j = own_sm y' j := by
  rcases own_seven hj with rfl | rfl | rfl | rfl | rfl | rfl | rfl <;> simp [own_sm, own_add, hy] <;> grind
theorem own_tot5 (y y' : Nat → Int64) (v : Int64) (hy : ∀ j, y' j = if j = 5 then v else y j) : own_pre y 6 + (v - y 5) = own_pre y' 6 := by
  simp only [own_pre, hy]
  simp
  grind
theorem own_upd5 (y y' : Nat → Int64) (v : Int64) (hy : ∀ j, y' j = if j = 5 then v else y j) (j : Nat) (hj : j < 7) : (own_add (own_sm y) 6 (v - y 5)) j = own_sm y' j := by
  rcases own_seven hj with rfl | rfl | rfl | rfl | rfl | rfl | rfl <;> simp [own_sm, own_add, hy] <;> grind
theorem own_bef0 (y : Nat → Int64) : (0 : Int64) = own_pre y 0 := rfl
theorem own_bef1 (y : Nat → Int64) : ((0 : Int64) + own_sm y 1) = own_pre y 1 := by
  simp only [own_pre, own_sm] <;> grind
theorem own_bef2 (y : Nat → Int64) : ((0 : Int64) + own_sm y 2) = own_pre y 2 := by
  simp only [own_pre, own_sm] <;> grind
theorem own_bef3 (y : Nat → Int64) : (((0 : Int64) + own_sm y 3) + own_sm y 2) = own_pre y 3 := by
  simp only [own_pre, own_sm] <;> grind
theorem own_bef4 (y : Nat → Int64) : ((0 : Int64) + own_sm y 4) = own_pre y 4 := by
  simp only [own_pre, own_sm] <;> grind
theorem own_bef5 (y : Nat → Int64) : (((0 : Int64) + own_sm y 5) + own_sm y 4) = own_pre y 5 := by
  simp only [own_pre, own_sm] <;> grind
theorem own_bef6 (y : Nat → Int64) : (((0 : Int64) + own_sm y 6) + own_sm y 4) = own_pre y 6 := by
  simp only [own_pre, own_sm] <;> grind
/-- all of the tree but its sums: the counts are x, the total is t -/
def Rs (Z : State) (h : Heap) (b ca da : Addr) (x : Nat → Int32) (t : Int64) : Prop := Exa Z h b "com/example/placewright/placewright/engine/CountTree" ∧ Fld Z h b "com/example/placewright/placewright/engine/CountTree" "counts" "[I" (.ref ca) ∧ Fld Z h b "com/example/placewright/placewright/engine/CountTree" "sums" "[J" (.ref da) ∧ Fld Z h b "com/example/placewright/placewright/engine/CountTree" "total" "J" (.long t) ∧ Af Z h ca .int 6 (fun j => .int (x j)) ∧ b ≠ ca ∧ b ≠ da ∧ ca ≠ da
theorem Rs.sums {Z : State} {h h' : Heap} {b ca da : Addr} {x : Nat → Int32} {t : Int64} {i : Nat} {v : Value} (F : Rs Z h b ca da x t) (W : Wr h h' da i v) : Rs Z h' b ca da x t := by
  obtain ⟨E, F1, F2, F3, A, n1, n2, n3⟩ := F
  exact ⟨E.wr W, F1.other W (Or.inl n2), F2.other W (Or.inl n2), F3.other W (Or.inl n2), A.other W n3, n1, n2, n3⟩
/-- the tree that holds the counts x -/
def Tr (Z : State) (h : Heap) (b ca da : Addr) (x : Nat → Int32) : Prop := Rs Z h b ca da x (own_pre (own_y x) 6) ∧ Af Z h da .long 7 (fun j => .long (own_sm (own_y x) j))

theorem dpre_0 : decode method_3_code 0 = .ok (.lconst 0, 1) := by decide +kernel
theorem dpre_1 : decode method_3_code 1 = .ok (.lstore_n 2, 1) := by decide +kernel
theorem dpre_2 : decode method_3_code 2 = .ok (.iload_n 1, 1) := by decide +kernel
theorem dpre_3 : decode method_3_code 3 = .ok (.ifCond .le 9, 3) := by decide +kernel
theorem dpre_6 : decode method_3_code 6 = .ok (.lload_n 2, 1) := by decide +kernel
theorem dpre_7 : decode method_3_code 7 = .ok (.aload_n 0, 1) := by decide +kernel
theorem dpre_8 : decode method_3_code 8 = .ok (.iconst 0, 1) := by decide +kernel
theorem dpre_9 : decode method_3_code 9 = .ok (.laload, 1) := by decide +kernel
theorem dpre_10 : decode method_3_code 10 = .ok (.ladd, 1) := by decide +kernel
theorem dpre_11 : decode method_3_code 11 = .ok (.lstore_n 2, 1) := by decide +kernel
theorem dpre_12 : decode method_3_code 12 = .ok (.iload_n 1, 1) := by decide +kernel
theorem dpre_13 : decode method_3_code 13 = .ok (.iconst 1, 1) := by decide +kernel
theorem dpre_14 : decode method_3_code 14 = .ok (.if_icmp .le 9, 3) := by decide +kernel
theorem dpre_17 : decode method_3_code 17 = .ok (.lload_n 2, 1) := by decide +kernel
theorem dpre_18 : decode method_3_code 18 = .ok (.aload_n 0, 1) := by decide +kernel
theorem dpre_19 : decode method_3_code 19 = .ok (.iconst 1, 1) := by decide +kernel
theorem dpre_20 : decode method_3_code 20 = .ok (.laload, 1) := by decide +kernel
theorem dpre_21 : decode method_3_code 21 = .ok (.ladd, 1) := by decide +kernel
theorem dpre_22 : decode method_3_code 22 = .ok (.lstore_n 2, 1) := by decide +kernel
theorem dpre_23 : decode method_3_code 23 = .ok (.iload_n 1, 1) := by decide +kernel
theorem dpre_24 : decode method_3_code 24 = .ok (.iconst 2, 1) := by decide +kernel
theorem dpre_25 : decode method_3_code 25 = .ok (.if_icmp .le 9, 3) := by decide +kernel
theorem dpre_28 : decode method_3_code 28 = .ok (.lload_n 2, 1) := by decide +kernel
theorem dpre_29 : decode method_3_code 29 = .ok (.aload_n 0, 1) := by decide +kernel
theorem dpre_30 : decode method_3_code 30 = .ok (.iconst 2, 1) := by decide +kernel
theorem dpre_31 : decode method_3_code 31 = .ok (.laload, 1) := by decide +kernel
theorem dpre_32 : decode method_3_code 32 = .ok (.ladd, 1) := by decide +kernel
theorem dpre_33 : decode method_3_code 33 = .ok (.lstore_n 2, 1) := by decide +kernel
theorem dpre_34 : decode method_3_code 34 = .ok (.iload_n 1, 1) := by decide +kernel
theorem dpre_35 : decode method_3_code 35 = .ok (.iconst 3, 1) := by decide +kernel
theorem dpre_36 : decode method_3_code 36 = .ok (.if_icmp .le 9, 3) := by decide +kernel
theorem dpre_39 : decode method_3_code 39 = .ok (.lload_n 2, 1) := by decide +kernel
theorem dpre_40 : decode method_3_code 40 = .ok (.aload_n 0, 1) := by decide +kernel
theorem dpre_41 : decode method_3_code 41 = .ok (.iconst 3, 1) := by decide +kernel
theorem dpre_42 : decode method_3_code 42 = .ok (.laload, 1) := by decide +kernel
theorem dpre_43 : decode method_3_code 43 = .ok (.ladd, 1) := by decide +kernel
theorem dpre_44 : decode method_3_code 44 = .ok (.lstore_n 2, 1) := by decide +kernel
theorem dpre_45 : decode method_3_code 45 = .ok (.iload_n 1, 1) := by decide +kernel
theorem dpre_46 : decode method_3_code 46 = .ok (.iconst 4, 1) := by decide +kernel
theorem dpre_47 : decode method_3_code 47 = .ok (.if_icmp .le 9, 3) := by decide +kernel
theorem dpre_50 : decode method_3_code 50 = .ok (.lload_n 2, 1) := by decide +kernel
theorem dpre_51 : decode method_3_code 51 = .ok (.aload_n 0, 1) := by decide +kernel
theorem dpre_52 : decode method_3_code 52 = .ok (.iconst 4, 1) := by decide +kernel
theorem dpre_53 : decode method_3_code 53 = .ok (.laload, 1) := by decide +kernel
theorem dpre_54 : decode method_3_code 54 = .ok (.ladd, 1) := by decide +kernel
theorem dpre_55 : decode method_3_code 55 = .ok (.lstore_n 2, 1) := by decide +kernel
theorem dpre_56 : decode method_3_code 56 = .ok (.iload_n 1, 1) := by decide +kernel
theorem dpre_57 : decode method_3_code 57 = .ok (.iconst 5, 1) := by decide +kernel
theorem dpre_58 : decode method_3_code 58 = .ok (.if_icmp .le 9, 3) := by decide +kernel
theorem dpre_61 : decode method_3_code 61 = .ok (.lload_n 2, 1) := by decide +kernel
theorem dpre_62 : decode method_3_code 62 = .ok (.aload_n 0, 1) := by decide +kernel
theorem dpre_63 : decode method_3_code 63 = .ok (.iconst 5, 1) := by decide +kernel
theorem dpre_64 : decode method_3_code 64 = .ok (.laload, 1) := by decide +kernel
theorem dpre_65 : decode method_3_code 65 = .ok (.ladd, 1) := by decide +kernel
theorem dpre_66 : decode method_3_code 66 = .ok (.lstore_n 2, 1) := by decide +kernel
theorem dpre_67 : decode method_3_code 67 = .ok (.lload_n 2, 1) := by decide +kernel
theorem dpre_68 : decode method_3_code 68 = .ok (.lreturn, 1) := by decide +kernel

theorem pn_pre : plainName "com/example/placewright/placewright/engine/CountTreeSetPinLaw" = true := by first | (simp [plainName, overriddenIn]; done) | decide +kernel

theorem pd_pre : parseMethodDescriptor "([JI)J" = some ⟨[(.array .long), .int], some .long⟩ := by decide +kernel

theorem dini_0 : decode prog_25_method_1_code 0 = .ok (.aload_n 0, 1) := by decide +kernel
theorem dini_1 : decode prog_25_method_1_code 1 = .ok (.invokespecial 1, 3) := by decide +kernel
theorem dini_4 : decode prog_25_method_1_code 4 = .ok (.aload_n 0, 1) := by decide +kernel
theorem dini_5 : decode prog_25_method_1_code 5 = .ok (.iload_n 1, 1) := by decide +kernel
theorem dini_6 : decode prog_25_method_1_code 6 = .ok (.newarray .int, 2) := by decide +kernel
theorem dini_8 : decode prog_25_method_1_code 8 = .ok (.putfield 7, 3) := by decide +kernel
theorem dini_11 : decode prog_25_method_1_code 11 = .ok (.aload_n 0, 1) := by decide +kernel
theorem dini_12 : decode prog_25_method_1_code 12 = .ok (.iload_n 1, 1) := by decide +kernel
theorem dini_13 : decode prog_25_method_1_code 13 = .ok (.iconst 1, 1) := by decide +kernel
theorem dini_14 : decode prog_25_method_1_code 14 = .ok (.iadd, 1) := by decide +kernel
theorem dini_15 : decode prog_25_method_1_code 15 = .ok (.newarray .long, 2) := by decide +kernel
theorem dini_17 : decode prog_25_method_1_code 17 = .ok (.putfield 13, 3) := by decide +kernel
theorem dini_20 : decode prog_25_method_1_code 20 = .ok (.aload_n 0, 1) := by decide +kernel
theorem dini_21 : decode prog_25_method_1_code 21 = .ok (.iload_n 1, 1) := by decide +kernel
theorem dini_22 : decode prog_25_method_1_code 22 = .ok (.ifCond .ne 7, 3) := by decide +kernel
theorem dini_25 : decode prog_25_method_1_code 25 = .ok (.iconst 0, 1) := by decide +kernel
theorem dini_26 : decode prog_25_method_1_code 26 = .ok (.goto 7, 3) := by decide +kernel
theorem dini_29 : decode prog_25_method_1_code 29 = .ok (.iload_n 1, 1) := by decide +kernel
theorem dini_30 : decode prog_25_method_1_code 30 = .ok (.invokestatic 17, 3) := by decide +kernel
theorem dini_33 : decode prog_25_method_1_code 33 = .ok (.putfield 23, 3) := by decide +kernel
theorem dini_36 : decode prog_25_method_1_code 36 = .ok (.return_, 1) := by decide +kernel

theorem pn_ini : plainName "com/example/placewright/placewright/engine/CountTree" = true := by first | (simp [plainName, overriddenIn]; done) | decide +kernel

theorem pd_ini : parseMethodDescriptor "(I)V" = some ⟨[.int], none⟩ := by decide +kernel

theorem dhob_0 : decode jdk_33_method_45_code 0 = .ok (.iload_n 0, 1) := by decide +kernel
theorem dhob_1 : decode jdk_33_method_45_code 1 = .ok (.ldc 127, 2) := by decide +kernel
theorem dhob_3 : decode jdk_33_method_45_code 3 = .ok (.iload_n 0, 1) := by decide +kernel
theorem dhob_4 : decode jdk_33_method_45_code 4 = .ok (.invokestatic 51, 3) := by decide +kernel
theorem dhob_7 : decode jdk_33_method_45_code 7 = .ok (.iushr, 1) := by decide +kernel
theorem dhob_8 : decode jdk_33_method_45_code 8 = .ok (.iand, 1) := by decide +kernel
theorem dhob_9 : decode jdk_33_method_45_code 9 = .ok (.ireturn, 1) := by decide +kernel

theorem pn_hob : plainName "java/lang/Integer" = true := by first | (simp [plainName, overriddenIn]; done) | decide +kernel

theorem pd_hob : parseMethodDescriptor "(I)I" = some ⟨[.int], some .int⟩ := by decide +kernel

theorem dnlz_0 : decode jdk_33_method_47_code 0 = .ok (.iload_n 0, 1) := by decide +kernel
theorem dnlz_1 : decode jdk_33_method_47_code 1 = .ok (.ifCond .gt 14, 3) := by decide +kernel
theorem dnlz_4 : decode jdk_33_method_47_code 4 = .ok (.iload_n 0, 1) := by decide +kernel
theorem dnlz_5 : decode jdk_33_method_47_code 5 = .ok (.ifCond .ne 8, 3) := by decide +kernel
theorem dnlz_8 : decode jdk_33_method_47_code 8 = .ok (.bipush 32, 2) := by decide +kernel
theorem dnlz_10 : decode jdk_33_method_47_code 10 = .ok (.goto 4, 3) := by decide +kernel
theorem dnlz_13 : decode jdk_33_method_47_code 13 = .ok (.iconst 0, 1) := by decide +kernel
theorem dnlz_14 : decode jdk_33_method_47_code 14 = .ok (.ireturn, 1) := by decide +kernel
theorem dnlz_15 : decode jdk_33_method_47_code 15 = .ok (.bipush 31, 2) := by decide +kernel
theorem dnlz_17 : decode jdk_33_method_47_code 17 = .ok (.istore_n 1, 1) := by decide +kernel
theorem dnlz_18 : decode jdk_33_method_47_code 18 = .ok (.iload_n 0, 1) := by decide +kernel
theorem dnlz_19 : decode jdk_33_method_47_code 19 = .ok (.ldc_w 264, 3) := by decide +kernel
theorem dnlz_22 : decode jdk_33_method_47_code 22 = .ok (.if_icmp .lt 11, 3) := by decide +kernel
theorem dnlz_25 : decode jdk_33_method_47_code 25 = .ok (.iinc 1 (-16), 3) := by decide +kernel
theorem dnlz_28 : decode jdk_33_method_47_code 28 = .ok (.iload_n 0, 1) := by decide +kernel
theorem dnlz_29 : decode jdk_33_method_47_code 29 = .ok (.bipush 16, 2) := by decide +kernel
theorem dnlz_31 : decode jdk_33_method_47_code 31 = .ok (.iushr, 1) := by decide +kernel
theorem dnlz_32 : decode jdk_33_method_47_code 32 = .ok (.istore_n 0, 1) := by decide +kernel
theorem dnlz_33 : decode jdk_33_method_47_code 33 = .ok (.iload_n 0, 1) := by decide +kernel
theorem dnlz_34 : decode jdk_33_method_47_code 34 = .ok (.sipush 256, 3) := by decide +kernel
theorem dnlz_37 : decode jdk_33_method_47_code 37 = .ok (.if_icmp .lt 11, 3) := by decide +kernel
theorem dnlz_40 : decode jdk_33_method_47_code 40 = .ok (.iinc 1 (-8), 3) := by decide +kernel
theorem dnlz_43 : decode jdk_33_method_47_code 43 = .ok (.iload_n 0, 1) := by decide +kernel
theorem dnlz_44 : decode jdk_33_method_47_code 44 = .ok (.bipush 8, 2) := by decide +kernel
theorem dnlz_46 : decode jdk_33_method_47_code 46 = .ok (.iushr, 1) := by decide +kernel
theorem dnlz_47 : decode jdk_33_method_47_code 47 = .ok (.istore_n 0, 1) := by decide +kernel
theorem dnlz_48 : decode jdk_33_method_47_code 48 = .ok (.iload_n 0, 1) := by decide +kernel
theorem dnlz_49 : decode jdk_33_method_47_code 49 = .ok (.bipush 16, 2) := by decide +kernel
theorem dnlz_51 : decode jdk_33_method_47_code 51 = .ok (.if_icmp .lt 10, 3) := by decide +kernel
theorem dnlz_54 : decode jdk_33_method_47_code 54 = .ok (.iinc 1 (-4), 3) := by decide +kernel
theorem dnlz_57 : decode jdk_33_method_47_code 57 = .ok (.iload_n 0, 1) := by decide +kernel
theorem dnlz_58 : decode jdk_33_method_47_code 58 = .ok (.iconst 4, 1) := by decide +kernel
theorem dnlz_59 : decode jdk_33_method_47_code 59 = .ok (.iushr, 1) := by decide +kernel
theorem dnlz_60 : decode jdk_33_method_47_code 60 = .ok (.istore_n 0, 1) := by decide +kernel
theorem dnlz_61 : decode jdk_33_method_47_code 61 = .ok (.iload_n 0, 1) := by decide +kernel
theorem dnlz_62 : decode jdk_33_method_47_code 62 = .ok (.iconst 4, 1) := by decide +kernel
theorem dnlz_63 : decode jdk_33_method_47_code 63 = .ok (.if_icmp .lt 10, 3) := by decide +kernel
theorem dnlz_66 : decode jdk_33_method_47_code 66 = .ok (.iinc 1 (-2), 3) := by decide +kernel
theorem dnlz_69 : decode jdk_33_method_47_code 69 = .ok (.iload_n 0, 1) := by decide +kernel
theorem dnlz_70 : decode jdk_33_method_47_code 70 = .ok (.iconst 2, 1) := by decide +kernel
theorem dnlz_71 : decode jdk_33_method_47_code 71 = .ok (.iushr, 1) := by decide +kernel
theorem dnlz_72 : decode jdk_33_method_47_code 72 = .ok (.istore_n 0, 1) := by decide +kernel
theorem dnlz_73 : decode jdk_33_method_47_code 73 = .ok (.iload_n 1, 1) := by decide +kernel
theorem dnlz_74 : decode jdk_33_method_47_code 74 = .ok (.iload_n 0, 1) := by decide +kernel
theorem dnlz_75 : decode jdk_33_method_47_code 75 = .ok (.iconst 1, 1) := by decide +kernel
theorem dnlz_76 : decode jdk_33_method_47_code 76 = .ok (.iushr, 1) := by decide +kernel
theorem dnlz_77 : decode jdk_33_method_47_code 77 = .ok (.isub, 1) := by decide +kernel
theorem dnlz_78 : decode jdk_33_method_47_code 78 = .ok (.ireturn, 1) := by decide +kernel

theorem pn_nlz : plainName "java/lang/Integer" = true := by first | (simp [plainName, overriddenIn]; done) | decide +kernel

theorem pd_nlz : parseMethodDescriptor "(I)I" = some ⟨[.int], some .int⟩ := by decide +kernel

theorem dset_0 : decode prog_25_method_3_code 0 = .ok (.iload_n 2, 1) := by decide +kernel
theorem dset_1 : decode prog_25_method_3_code 1 = .ok (.i2l, 1) := by decide +kernel
theorem dset_2 : decode prog_25_method_3_code 2 = .ok (.aload_n 0, 1) := by decide +kernel
theorem dset_3 : decode prog_25_method_3_code 3 = .ok (.getfield 7, 3) := by decide +kernel
theorem dset_6 : decode prog_25_method_3_code 6 = .ok (.iload_n 1, 1) := by decide +kernel
theorem dset_7 : decode prog_25_method_3_code 7 = .ok (.iaload, 1) := by decide +kernel
theorem dset_8 : decode prog_25_method_3_code 8 = .ok (.i2l, 1) := by decide +kernel
theorem dset_9 : decode prog_25_method_3_code 9 = .ok (.lsub, 1) := by decide +kernel
theorem dset_10 : decode prog_25_method_3_code 10 = .ok (.lstore_n 3, 1) := by decide +kernel
theorem dset_11 : decode prog_25_method_3_code 11 = .ok (.lload_n 3, 1) := by decide +kernel
theorem dset_12 : decode prog_25_method_3_code 12 = .ok (.lconst 0, 1) := by decide +kernel
theorem dset_13 : decode prog_25_method_3_code 13 = .ok (.lcmp, 1) := by decide +kernel
theorem dset_14 : decode prog_25_method_3_code 14 = .ok (.ifCond .ne 4, 3) := by decide +kernel
theorem dset_17 : decode prog_25_method_3_code 17 = .ok (.return_, 1) := by decide +kernel
theorem dset_18 : decode prog_25_method_3_code 18 = .ok (.aload_n 0, 1) := by decide +kernel
theorem dset_19 : decode prog_25_method_3_code 19 = .ok (.getfield 7, 3) := by decide +kernel
theorem dset_22 : decode prog_25_method_3_code 22 = .ok (.iload_n 1, 1) := by decide +kernel
theorem dset_23 : decode prog_25_method_3_code 23 = .ok (.iload_n 2, 1) := by decide +kernel
theorem dset_24 : decode prog_25_method_3_code 24 = .ok (.iastore, 1) := by decide +kernel
theorem dset_25 : decode prog_25_method_3_code 25 = .ok (.aload_n 0, 1) := by decide +kernel
theorem dset_26 : decode prog_25_method_3_code 26 = .ok (.dup, 1) := by decide +kernel
theorem dset_27 : decode prog_25_method_3_code 27 = .ok (.getfield 27, 3) := by decide +kernel
theorem dset_30 : decode prog_25_method_3_code 30 = .ok (.lload_n 3, 1) := by decide +kernel
theorem dset_31 : decode prog_25_method_3_code 31 = .ok (.ladd, 1) := by decide +kernel
theorem dset_32 : decode prog_25_method_3_code 32 = .ok (.putfield 27, 3) := by decide +kernel
theorem dset_35 : decode prog_25_method_3_code 35 = .ok (.iload_n 1, 1) := by decide +kernel
theorem dset_36 : decode prog_25_method_3_code 36 = .ok (.iconst 1, 1) := by decide +kernel
theorem dset_37 : decode prog_25_method_3_code 37 = .ok (.iadd, 1) := by decide +kernel
theorem dset_38 : decode prog_25_method_3_code 38 = .ok (.istore 5, 2) := by decide +kernel
theorem dset_40 : decode prog_25_method_3_code 40 = .ok (.iload 5, 2) := by decide +kernel
theorem dset_42 : decode prog_25_method_3_code 42 = .ok (.aload_n 0, 1) := by decide +kernel
theorem dset_43 : decode prog_25_method_3_code 43 = .ok (.getfield 13, 3) := by decide +kernel
theorem dset_46 : decode prog_25_method_3_code 46 = .ok (.arraylength, 1) := by decide +kernel
theorem dset_47 : decode prog_25_method_3_code 47 = .ok (.if_icmp .ge 28, 3) := by decide +kernel
theorem dset_50 : decode prog_25_method_3_code 50 = .ok (.aload_n 0, 1) := by decide +kernel
theorem dset_51 : decode prog_25_method_3_code 51 = .ok (.getfield 13, 3) := by decide +kernel
theorem dset_54 : decode prog_25_method_3_code 54 = .ok (.iload 5, 2) := by decide +kernel
theorem dset_56 : decode prog_25_method_3_code 56 = .ok (.dup2, 1) := by decide +kernel
theorem dset_57 : decode prog_25_method_3_code 57 = .ok (.laload, 1) := by decide +kernel
theorem dset_58 : decode prog_25_method_3_code 58 = .ok (.lload_n 3, 1) := by decide +kernel
theorem dset_59 : decode prog_25_method_3_code 59 = .ok (.ladd, 1) := by decide +kernel
theorem dset_60 : decode prog_25_method_3_code 60 = .ok (.lastore, 1) := by decide +kernel
theorem dset_61 : decode prog_25_method_3_code 61 = .ok (.iload 5, 2) := by decide +kernel
theorem dset_63 : decode prog_25_method_3_code 63 = .ok (.iload 5, 2) := by decide +kernel
theorem dset_65 : decode prog_25_method_3_code 65 = .ok (.iload 5, 2) := by decide +kernel
theorem dset_67 : decode prog_25_method_3_code 67 = .ok (.ineg, 1) := by decide +kernel
theorem dset_68 : decode prog_25_method_3_code 68 = .ok (.iand, 1) := by decide +kernel
theorem dset_69 : decode prog_25_method_3_code 69 = .ok (.iadd, 1) := by decide +kernel
theorem dset_70 : decode prog_25_method_3_code 70 = .ok (.istore 5, 2) := by decide +kernel
theorem dset_72 : decode prog_25_method_3_code 72 = .ok (.goto (-32), 3) := by decide +kernel
theorem dset_75 : decode prog_25_method_3_code 75 = .ok (.return_, 1) := by decide +kernel

theorem pn_set : plainName "com/example/placewright/placewright/engine/CountTree" = true := by first | (simp [plainName, overriddenIn]; done) | decide +kernel

theorem pd_set : parseMethodDescriptor "(II)V" = some ⟨[.int, .int], none⟩ := by decide +kernel

theorem dget_0 : decode prog_25_method_2_code 0 = .ok (.aload_n 0, 1) := by decide +kernel
theorem dget_1 : decode prog_25_method_2_code 1 = .ok (.getfield 7, 3) := by decide +kernel
theorem dget_4 : decode prog_25_method_2_code 4 = .ok (.iload_n 1, 1) := by decide +kernel
theorem dget_5 : decode prog_25_method_2_code 5 = .ok (.iaload, 1) := by decide +kernel
theorem dget_6 : decode prog_25_method_2_code 6 = .ok (.ireturn, 1) := by decide +kernel

theorem pn_get : plainName "com/example/placewright/placewright/engine/CountTree" = true := by first | (simp [plainName, overriddenIn]; done) | decide +kernel

theorem pd_get : parseMethodDescriptor "(I)I" = some ⟨[.int], some .int⟩ := by decide +kernel

theorem dtot_0 : decode prog_25_method_4_code 0 = .ok (.aload_n 0, 1) := by decide +kernel
theorem dtot_1 : decode prog_25_method_4_code 1 = .ok (.getfield 27, 3) := by decide +kernel
theorem dtot_4 : decode prog_25_method_4_code 4 = .ok (.lreturn, 1) := by decide +kernel

theorem pn_tot : plainName "com/example/placewright/placewright/engine/CountTree" = true := by first | (simp [plainName, overriddenIn]; done) | decide +kernel

theorem pd_tot : parseMethodDescriptor "()J" = some ⟨[], some .long⟩ := by decide +kernel

theorem dbef_0 : decode prog_25_method_5_code 0 = .ok (.lconst 0, 1) := by decide +kernel
theorem dbef_1 : decode prog_25_method_5_code 1 = .ok (.lstore_n 2, 1) := by decide +kernel
theorem dbef_2 : decode prog_25_method_5_code 2 = .ok (.iload_n 1, 1) := by decide +kernel
theorem dbef_3 : decode prog_25_method_5_code 3 = .ok (.istore 4, 2) := by decide +kernel
theorem dbef_5 : decode prog_25_method_5_code 5 = .ok (.iload 4, 2) := by decide +kernel
theorem dbef_7 : decode prog_25_method_5_code 7 = .ok (.ifCond .le 27, 3) := by decide +kernel
theorem dbef_10 : decode prog_25_method_5_code 10 = .ok (.lload_n 2, 1) := by decide +kernel
theorem dbef_11 : decode prog_25_method_5_code 11 = .ok (.aload_n 0, 1) := by decide +kernel
theorem dbef_12 : decode prog_25_method_5_code 12 = .ok (.getfield 13, 3) := by decide +kernel
theorem dbef_15 : decode prog_25_method_5_code 15 = .ok (.iload 4, 2) := by decide +kernel
theorem dbef_17 : decode prog_25_method_5_code 17 = .ok (.laload, 1) := by decide +kernel
theorem dbef_18 : decode prog_25_method_5_code 18 = .ok (.ladd, 1) := by decide +kernel
theorem dbef_19 : decode prog_25_method_5_code 19 = .ok (.lstore_n 2, 1) := by decide +kernel
theorem dbef_20 : decode prog_25_method_5_code 20 = .ok (.iload 4, 2) := by decide +kernel
theorem dbef_22 : decode prog_25_method_5_code 22 = .ok (.iload 4, 2) := by decide +kernel
theorem dbef_24 : decode prog_25_method_5_code 24 = .ok (.iload 4, 2) := by decide +kernel
theorem dbef_26 : decode prog_25_method_5_code 26 = .ok (.ineg, 1) := by decide +kernel
theorem dbef_27 : decode prog_25_method_5_code 27 = .ok (.iand, 1) := by decide +kernel
theorem dbef_28 : decode prog_25_method_5_code 28 = .ok (.isub, 1) := by decide +kernel
theorem dbef_29 : decode prog_25_method_5_code 29 = .ok (.istore 4, 2) := by decide +kernel
theorem dbef_31 : decode prog_25_method_5_code 31 = .ok (.goto (-26), 3) := by decide +kernel
theorem dbef_34 : decode prog_25_method_5_code 34 = .ok (.lload_n 2, 1) := by decide +kernel
theorem dbef_35 : decode prog_25_method_5_code 35 = .ok (.lreturn, 1) := by decide +kernel

theorem pn_bef : plainName "com/example/placewright/placewright/engine/CountTree" = true := by first | (simp [plainName, overriddenIn]; done) | decide +kernel

theorem pd_bef : parseMethodDescriptor "(I)J" = some ⟨[.int], some .long⟩ := by decide +kernel

theorem pn_law : plainName "com/example/placewright/placewright/engine/CountTreeSetPinLaw" = true := by first | (simp [plainName, overriddenIn]; done) | decide +kernel

theorem ef_pre (x0 : Addr) (x1 : Int32) (m : MethodId) : entryFrame m #[(.ref x0), (.int x1)] 4 = mkF m 0 #[.val (.ref x0), .val (.int x1), .unset, .unset] [] := by first | (simp [entryFrame, mkF, argsToLocals, Value.category]; done) | rfl

theorem ef_ini (x0 : Addr) (x1 : Int32) (m : MethodId) : entryFrame m #[(.ref x0), (.int x1)] 2 = mkF m 0 #[.val (.ref x0), .val (.int x1)] [] := by first | (simp [entryFrame, mkF, argsToLocals, Value.category]; done) | rfl

theorem ef_hob (x0 : Int32) (m : MethodId) : entryFrame m #[(.int x0)] 1 = mkF m 0 #[.val (.int x0)] [] := by first | (simp [entryFrame, mkF, argsToLocals, Value.category]; done) | rfl

theorem ef_nlz (x0 : Int32) (m : MethodId) : entryFrame m #[(.int x0)] 2 = mkF m 0 #[.val (.int x0), .unset] [] := by first | (simp [entryFrame, mkF, argsToLocals, Value.category]; done) | rfl

theorem ef_set (x0 : Addr) (x1 : Int32) (x2 : Int32) (m : MethodId) : entryFrame m #[(.ref x0), (.int x1), (.int x2)] 6 = mkF m 0 #[.val (.ref x0), .val (.int x1), .val (.int x2), .unset, .unset, .unset] [] := by first | (simp [entryFrame, mkF, argsToLocals, Value.category]; done) | rfl

theorem ef_get (x0 : Addr) (x1 : Int32) (m : MethodId) : entryFrame m #[(.ref x0), (.int x1)] 2 = mkF m 0 #[.val (.ref x0), .val (.int x1)] [] := by first | (simp [entryFrame, mkF, argsToLocals, Value.category]; done) | rfl

theorem ef_tot (x0 : Addr) (m : MethodId) : entryFrame m #[(.ref x0)] 1 = mkF m 0 #[.val (.ref x0)] [] := by first | (simp [entryFrame, mkF, argsToLocals, Value.category]; done) | rfl

theorem ef_bef (x0 : Addr) (x1 : Int32) (m : MethodId) : entryFrame m #[(.ref x0), (.int x1)] 5 = mkF m 0 #[.val (.ref x0), .val (.int x1), .unset, .unset, .unset] [] := by first | (simp [entryFrame, mkF, argsToLocals, Value.category]; done) | rfl

theorem ef_law (x0 : Int32) (x1 : Int32) (x2 : Int32) (x3 : Int32) (x4 : Int32) (x5 : Int32) (m : MethodId) : entryFrame m #[(.int x0), (.int x1), (.int x2), (.int x3), (.int x4), (.int x5)] maxLocals = mkF m 0 #[.val (.int x0), .val (.int x1), .val (.int x2), .val (.int x3), .val (.int x4), .val (.int x5), .unset, .unset, .unset, .unset, .unset, .unset, .unset, .unset, .unset, .unset, .unset, .unset, .unset, .unset, .unset, .unset, .unset, .unset, .unset, .unset, .unset] [] := by first | (simp [entryFrame, mkF, argsToLocals, Value.category, maxLocals]; done) | rfl

section Own
variable {p : Program} {l : Launch} {e : Env} {R : Room} {s : State} {m : MethodId} {args : Array Value} {below : List Frame} {meth : Method} {c : Code} {T0 : State} {locs : List Loc} {cells slots : Nat} {Z : State} {a0 : Array Value} {h0 : Heap} {Q : State → Prop}

set_option maxRecDepth 65536 in
set_option maxHeartbeats 4000000 in
theorem segP0 (a : Addr) (zk : Int32) (n : Nat) (y : Nat → Int64) (hk : zk.toInt = (n : Int)) (C : Cx p s m meth c Z a0 method_3_code 4 "com/example/placewright/placewright/engine/CountTreeSetPinLaw" "prefix" (some .long)) (X0 : Stand p l e R s m args below meth c T0 locs cells slots) (e0 : T0.heap = h0) (A : Af Z h0 a .long 6 (fun j => .long (y j)))
    (k : WP p e below Q T0 (mkF m 12 #[.val (.ref a), .val (.int zk), .val (.long (own_pre y (min 1 n))), .second] [])) : WP p e below Q T0 (mkF m 2 #[.val (.ref a), .val (.int zk), .val (.long (own_pre y (min 0 n))), .second] []) := by
  obtain ⟨hx, hZ, hw, hby, hml, hown, hnm, hret, hlk⟩ := id C
  have L0 := @Int32.lt_iff_toInt_lt
  have h3 : (0 : Int32).toInt = 0 := rfl
  show WP p e below _ T0 (mkF m 2 #[.val (.ref a), .val (.int zk), .val (.long (own_pre y (min 0 n))), .second] [])
  refine wp (fun _ => XS.iloadN X0.here hx rfl (hb hby dpre_2) rfl) ?_
  show WP p e below _ T0 (mkF m 3 #[.val (.ref a), .val (.int zk), .val (.long (own_pre y (min 0 n))), .second] [(.int zk)])
  by_cases hc : (0 : Int32) < zk
  · rw [L0] at hc
    have m1 : min 0 n = 0 := by omega
    have m2 : min 1 n = 1 := by omega
    rw [m2] at k
    rw [m1]
    show WP p e below _ T0 (mkF m 3 #[.val (.ref a), .val (.int zk), .val (.long (own_pre y 0)), .second] [(.int zk)])
    refine wp (fun _ => XS.ifNo X0.here hx rfl (hb hby dpre_3) rfl (XT.i0_le_f (L0.mpr hc))) ?_
    show WP p e below _ T0 (mkF m 6 #[.val (.ref a), .val (.int zk), .val (.long (own_pre y 0)), .second] [])
    refine wp (fun _ => XS.lloadN X0.here hx rfl (hb hby dpre_6) rfl) ?_
    show WP p e below _ T0 (mkF m 7 #[.val (.ref a), .val (.int zk), .val (.long (own_pre y 0)), .second] [(.long (own_pre y 0))])
    refine wp (fun _ => XS.aloadN X0.here hx rfl (hb hby dpre_7) rfl rfl) ?_
    show WP p e below _ T0 (mkF m 8 #[.val (.ref a), .val (.int zk), .val (.long (own_pre y 0)), .second] [(.ref a), (.long (own_pre y 0))])
    refine wp (fun _ => XS.iconst X0.here hx rfl (hb hby dpre_8)) ?_
    show WP p e below _ T0 (mkF m 9 #[.val (.ref a), .val (.int zk), .val (.long (own_pre y 0)), .second] [(.int (0 : Int32)), (.ref a), (.long (own_pre y 0))])
    refine wp_laload C X0 e0 A (j := 0) rfl (by decide) rfl dpre_9 ?_
    show WP p e below _ T0 (mkF m 10 #[.val (.ref a), .val (.int zk), .val (.long (own_pre y 0)), .second] [(.long (y 0)), (.long (own_pre y 0))])
    refine wp (fun _ => XS.ladd X0.here hx rfl (hb hby dpre_10) rfl) ?_
    show WP p e below _ T0 (mkF m 11 #[.val (.ref a), .val (.int zk), .val (.long (own_pre y 0)), .second] [(.long ((own_pre y 0) + (y 0)))])
    refine wp (fun _ => XS.lstoreN X0.here hx rfl (hb hby dpre_11) rfl (l' := #[.val (.ref a), .val (.int zk), .val (.long ((own_pre y 0) + (y 0))), .second]) rfl) ?_
    show WP p e below _ T0 (mkF m 12 #[.val (.ref a), .val (.int zk), .val (.long ((own_pre y 0) + (y 0))), .second] [])
    exact k
  · rw [L0] at hc
    have m1 : min 0 n = n := by omega
    have m2 : min 1 n = n := by omega
    rw [m2] at k
    rw [m1]
    show WP p e below _ T0 (mkF m 3 #[.val (.ref a), .val (.int zk), .val (.long (own_pre y n)), .second] [(.int zk)])
    refine wp (fun _ => XS.ifYes X0.here hx rfl (pc0 := 3) (pc' := 12) rfl (hb hby dpre_3) rfl (XT.i0_le_t (fun q => hc (L0.mp q))) (by decide) (by decide)) ?_
    show WP p e below _ T0 (mkF m 12 #[.val (.ref a), .val (.int zk), .val (.long (own_pre y n)), .second] [])
    exact k
set_option maxRecDepth 65536 in
set_option maxHeartbeats 4000000 in
theorem segP1 (a : Addr) (zk : Int32) (n : Nat) (y : Nat → Int64) (hk : zk.toInt = (n : Int)) (C : Cx p s m meth c Z a0 method_3_code 4 "com/example/placewright/placewright/engine/CountTreeSetPinLaw" "prefix" (some .long)) (X0 : Stand p l e R s m args below meth c T0 locs cells slots) (e0 : T0.heap = h0) (A : Af Z h0 a .long 6 (fun j => .long (y j)))
    (k : WP p e below Q T0 (mkF m 23 #[.val (.ref a), .val (.int zk), .val (.long (own_pre y (min 2 n))), .second] [])) : WP p e below Q T0 (mkF m 12 #[.val (.ref a), .val (.int zk), .val (.long (own_pre y (min 1 n))), .second] []) := by
  obtain ⟨hx, hZ, hw, hby, hml, hown, hnm, hret, hlk⟩ := id C
  have L0 := @Int32.lt_iff_toInt_lt
  have h3 : (1 : Int32).toInt = 1 := rfl
  show WP p e below _ T0 (mkF m 12 #[.val (.ref a), .val (.int zk), .val (.long (own_pre y (min 1 n))), .second] [])
  refine wp (fun _ => XS.iloadN X0.here hx rfl (hb hby dpre_12) rfl) ?_
  show WP p e below _ T0 (mkF m 13 #[.val (.ref a), .val (.int zk), .val (.long (own_pre y (min 1 n))), .second] [(.int zk)])
  refine wp (fun _ => XS.iconst X0.here hx rfl (hb hby dpre_13)) ?_
  show WP p e below _ T0 (mkF m 14 #[.val (.ref a), .val (.int zk), .val (.long (own_pre y (min 1 n))), .second] [(.int (1 : Int32)), (.int zk)])
  by_cases hc : (1 : Int32) < zk
  · rw [L0] at hc
    have m1 : min 1 n = 1 := by omega
    have m2 : min 2 n = 2 := by omega
    rw [m2] at k
    rw [m1]
    show WP p e below _ T0 (mkF m 14 #[.val (.ref a), .val (.int zk), .val (.long (own_pre y 1)), .second] [(.int (1 : Int32)), (.int zk)])
    refine wp (fun _ => XS.icmpNo X0.here hx rfl (hb hby dpre_14) rfl (XT.ii_le_f (L0.mpr hc))) ?_
    show WP p e below _ T0 (mkF m 17 #[.val (.ref a), .val (.int zk), .val (.long (own_pre y 1)), .second] [])
    refine wp (fun _ => XS.lloadN X0.here hx rfl (hb hby dpre_17) rfl) ?_
    show WP p e below _ T0 (mkF m 18 #[.val (.ref a), .val (.int zk), .val (.long (own_pre y 1)), .second] [(.long (own_pre y 1))])
    refine wp (fun _ => XS.aloadN X0.here hx rfl (hb hby dpre_18) rfl rfl) ?_
    show WP p e below _ T0 (mkF m 19 #[.val (.ref a), .val (.int zk), .val (.long (own_pre y 1)), .second] [(.ref a), (.long (own_pre y 1))])
    refine wp (fun _ => XS.iconst X0.here hx rfl (hb hby dpre_19)) ?_
    show WP p e below _ T0 (mkF m 20 #[.val (.ref a), .val (.int zk), .val (.long (own_pre y 1)), .second] [(.int (1 : Int32)), (.ref a), (.long (own_pre y 1))])
    refine wp_laload C X0 e0 A (j := 1) rfl (by decide) rfl dpre_20 ?_
    show WP p e below _ T0 (mkF m 21 #[.val (.ref a), .val (.int zk), .val (.long (own_pre y 1)), .second] [(.long (y 1)), (.long (own_pre y 1))])
    refine wp (fun _ => XS.ladd X0.here hx rfl (hb hby dpre_21) rfl) ?_
    show WP p e below _ T0 (mkF m 22 #[.val (.ref a), .val (.int zk), .val (.long (own_pre y 1)), .second] [(.long ((own_pre y 1) + (y 1)))])
    refine wp (fun _ => XS.lstoreN X0.here hx rfl (hb hby dpre_22) rfl (l' := #[.val (.ref a), .val (.int zk), .val (.long ((own_pre y 1) + (y 1))), .second]) rfl) ?_
    show WP p e below _ T0 (mkF m 23 #[.val (.ref a), .val (.int zk), .val (.long ((own_pre y 1) + (y 1))), .second] [])
    exact k
  · rw [L0] at hc
    have m1 : min 1 n = n := by omega
    have m2 : min 2 n = n := by omega
    rw [m2] at k
    rw [m1]
    show WP p e below _ T0 (mkF m 14 #[.val (.ref a), .val (.int zk), .val (.long (own_pre y n)), .second] [(.int (1 : Int32)), (.int zk)])
    refine wp (fun _ => XS.icmpYes X0.here hx rfl (pc0 := 14) (pc' := 23) rfl (hb hby dpre_14) rfl (XT.ii_le_t (fun q => hc (L0.mp q))) (by decide) (by decide)) ?_
    show WP p e below _ T0 (mkF m 23 #[.val (.ref a), .val (.int zk), .val (.long (own_pre y n)), .second] [])
    exact k
set_option maxRecDepth 65536 in
set_option maxHeartbeats 4000000 in
theorem segP2 (a : Addr) (zk : Int32) (n : Nat) (y : Nat → Int64) (hk : zk.toInt = (n : Int)) (C : Cx p s m meth c Z a0 method_3_code 4 "com/example/placewright/placewright/engine/CountTreeSetPinLaw" "prefix" (some .long)) (X0 : Stand p l e R s m args below meth c T0 locs cells slots) (e0 : T0.heap = h0) (A : Af Z h0 a .long 6 (fun j => .long (y j)))
    (k : WP p e below Q T0 (mkF m 34 #[.val (.ref a), .val (.int zk), .val (.long (own_pre y (min 3 n))), .second] [])) : WP p e below Q T0 (mkF m 23 #[.val (.ref a), .val (.int zk), .val (.long (own_pre y (min 2 n))), .second] []) := by
  obtain ⟨hx, hZ, hw, hby, hml, hown, hnm, hret, hlk⟩ := id C
  have L0 := @Int32.lt_iff_toInt_lt
  have h3 : (2 : Int32).toInt = 2 := rfl
  show WP p e below _ T0 (mkF m 23 #[.val (.ref a), .val (.int zk), .val (.long (own_pre y (min 2 n))), .second] [])
  refine wp (fun _ => XS.iloadN X0.here hx rfl (hb hby dpre_23) rfl) ?_
  show WP p e below _ T0 (mkF m 24 #[.val (.ref a), .val (.int zk), .val (.long (own_pre y (min 2 n))), .second] [(.int zk)])
  refine wp (fun _ => XS.iconst X0.here hx rfl (hb hby dpre_24)) ?_
  show WP p e below _ T0 (mkF m 25 #[.val (.ref a), .val (.int zk), .val (.long (own_pre y (min 2 n))), .second] [(.int (2 : Int32)), (.int zk)])
  by_cases hc : (2 : Int32) < zk
  · rw [L0] at hc
    have m1 : min 2 n = 2 := by omega
    have m2 : min 3 n = 3 := by omega
    rw [m2] at k
    rw [m1]
    show WP p e below _ T0 (mkF m 25 #[.val (.ref a), .val (.int zk), .val (.long (own_pre y 2)), .second] [(.int (2 : Int32)), (.int zk)])
    refine wp (fun _ => XS.icmpNo X0.here hx rfl (hb hby dpre_25) rfl (XT.ii_le_f (L0.mpr hc))) ?_
    show WP p e below _ T0 (mkF m 28 #[.val (.ref a), .val (.int zk), .val (.long (own_pre y 2)), .second] [])
    refine wp (fun _ => XS.lloadN X0.here hx rfl (hb hby dpre_28) rfl) ?_
    show WP p e below _ T0 (mkF m 29 #[.val (.ref a), .val (.int zk), .val (.long (own_pre y 2)), .second] [(.long (own_pre y 2))])
    refine wp (fun _ => XS.aloadN X0.here hx rfl (hb hby dpre_29) rfl rfl) ?_
    show WP p e below _ T0 (mkF m 30 #[.val (.ref a), .val (.int zk), .val (.long (own_pre y 2)), .second] [(.ref a), (.long (own_pre y 2))])
    refine wp (fun _ => XS.iconst X0.here hx rfl (hb hby dpre_30)) ?_
    show WP p e below _ T0 (mkF m 31 #[.val (.ref a), .val (.int zk), .val (.long (own_pre y 2)), .second] [(.int (2 : Int32)), (.ref a), (.long (own_pre y 2))])
    refine wp_laload C X0 e0 A (j := 2) rfl (by decide) rfl dpre_31 ?_
    show WP p e below _ T0 (mkF m 32 #[.val (.ref a), .val (.int zk), .val (.long (own_pre y 2)), .second] [(.long (y 2)), (.long (own_pre y 2))])
    refine wp (fun _ => XS.ladd X0.here hx rfl (hb hby dpre_32) rfl) ?_
    show WP p e below _ T0 (mkF m 33 #[.val (.ref a), .val (.int zk), .val (.long (own_pre y 2)), .second] [(.long ((own_pre y 2) + (y 2)))])
    refine wp (fun _ => XS.lstoreN X0.here hx rfl (hb hby dpre_33) rfl (l' := #[.val (.ref a), .val (.int zk), .val (.long ((own_pre y 2) + (y 2))), .second]) rfl) ?_
    show WP p e below _ T0 (mkF m 34 #[.val (.ref a), .val (.int zk), .val (.long ((own_pre y 2) + (y 2))), .second] [])
    exact k
  · rw [L0] at hc
    have m1 : min 2 n = n := by omega
    have m2 : min 3 n = n := by omega
    rw [m2] at k
    rw [m1]
    show WP p e below _ T0 (mkF m 25 #[.val (.ref a), .val (.int zk), .val (.long (own_pre y n)), .second] [(.int (2 : Int32)), (.int zk)])
    refine wp (fun _ => XS.icmpYes X0.here hx rfl (pc0 := 25) (pc' := 34) rfl (hb hby dpre_25) rfl (XT.ii_le_t (fun q => hc (L0.mp q))) (by decide) (by decide)) ?_
    show WP p e below _ T0 (mkF m 34 #[.val (.ref a), .val (.int zk), .val (.long (own_pre y n)), .second] [])
    exact k
set_option maxRecDepth 65536 in
set_option maxHeartbeats 4000000 in
theorem segP3 (a : Addr) (zk : Int32) (n : Nat) (y : Nat → Int64) (hk : zk.toInt = (n : Int)) (C : Cx p s m meth c Z a0 method_3_code 4 "com/example/placewright/placewright/engine/CountTreeSetPinLaw" "prefix" (some .long)) (X0 : Stand p l e R s m args below meth c T0 locs cells slots) (e0 : T0.heap = h0) (A : Af Z h0 a .long 6 (fun j => .long (y j)))
    (k : WP p e below Q T0 (mkF m 45 #[.val (.ref a), .val (.int zk), .val (.long (own_pre y (min 4 n))), .second] [])) : WP p e below Q T0 (mkF m 34 #[.val (.ref a), .val (.int zk), .val (.long (own_pre y (min 3 n))), .second] []) := by
  obtain ⟨hx, hZ, hw, hby, hml, hown, hnm, hret, hlk⟩ := id C
  have L0 := @Int32.lt_iff_toInt_lt
  have h3 : (3 : Int32).toInt = 3 := rfl
  show WP p e below _ T0 (mkF m 34 #[.val (.ref a), .val (.int zk), .val (.long (own_pre y (min 3 n))), .second] [])
  refine wp (fun _ => XS.iloadN X0.here hx rfl (hb hby dpre_34) rfl) ?_
  show WP p e below _ T0 (mkF m 35 #[.val (.ref a), .val (.int zk), .val (.long (own_pre y (min 3 n))), .second] [(.int zk)])
  refine wp (fun _ => XS.iconst X0.here hx rfl (hb hby dpre_35)) ?_
  show WP p e below _ T0 (mkF m 36 #[.val (.ref a), .val (.int zk), .val (.long (own_pre y (min 3 n))), .second] [(.int (3 : Int32)), (.int zk)])
  by_cases hc : (3 : Int32) < zk
  · rw [L0] at hc
    have m1 : min 3 n = 3 := by omega
    have m2 : min 4 n = 4 := by omega
    rw [m2] at k
    rw [m1]
    show WP p e below _ T0 (mkF m 36 #[.val (.ref a), .val (.int zk), .val (.long (own_pre y 3)), .second] [(.int (3 : Int32)), (.int zk)])
    refine wp (fun _ => XS.icmpNo X0.here hx rfl (hb hby dpre_36) rfl (XT.ii_le_f (L0.mpr hc))) ?_
    show WP p e below _ T0 (mkF m 39 #[.val (.ref a), .val (.int zk), .val (.long (own_pre y 3)), .second] [])
    refine wp (fun _ => XS.lloadN X0.here hx rfl (hb hby dpre_39) rfl) ?_
    show WP p e below _ T0 (mkF m 40 #[.val (.ref a), .val (.int zk), .val (.long (own_pre y 3)), .second] [(.long (own_pre y 3))])
    refine wp (fun _ => XS.aloadN X0.here hx rfl (hb hby dpre_40) rfl rfl) ?_
    show WP p e below _ T0 (mkF m 41 #[.val (.ref a), .val (.int zk), .val (.long (own_pre y 3)), .second] [(.ref a), (.long (own_pre y 3))])
    refine wp (fun _ => XS.iconst X0.here hx rfl (hb hby dpre_41)) ?_
    show WP p e below _ T0 (mkF m 42 #[.val (.ref a), .val (.int zk), .val (.long (own_pre y 3)), .second] [(.int (3 : Int32)), (.ref a), (.long (own_pre y 3))])
    refine wp_laload C X0 e0 A (j := 3) rfl (by decide) rfl dpre_42 ?_
    show WP p e below _ T0 (mkF m 43 #[.val (.ref a), .val (.int zk), .val (.long (own_pre y 3)), .second] [(.long (y 3)), (.long (own_pre y 3))])
    refine wp (fun _ => XS.ladd X0.here hx rfl (hb hby dpre_43) rfl) ?_
    show WP p e below _ T0 (mkF m 44 #[.val (.ref a), .val (.int zk), .val (.long (own_pre y 3)), .second] [(.long ((own_pre y 3) + (y 3)))])
    refine wp (fun _ => XS.lstoreN X0.here hx rfl (hb hby dpre_44) rfl (l' := #[.val (.ref a), .val (.int zk), .val (.long ((own_pre y 3) + (y 3))), .second]) rfl) ?_
    show WP p e below _ T0 (mkF m 45 #[.val (.ref a), .val (.int zk), .val (.long ((own_pre y 3) + (y 3))), .second] [])
    exact k
  · rw [L0] at hc
    have m1 : min 3 n = n := by omega
    have m2 : min 4 n = n := by omega
    rw [m2] at k
    rw [m1]
    show WP p e below _ T0 (mkF m 36 #[.val (.ref a), .val (.int zk), .val (.long (own_pre y n)), .second] [(.int (3 : Int32)), (.int zk)])
    refine wp (fun _ => XS.icmpYes X0.here hx rfl (pc0 := 36) (pc' := 45) rfl (hb hby dpre_36) rfl (XT.ii_le_t (fun q => hc (L0.mp q))) (by decide) (by decide)) ?_
    show WP p e below _ T0 (mkF m 45 #[.val (.ref a), .val (.int zk), .val (.long (own_pre y n)), .second] [])
    exact k
set_option maxRecDepth 65536 in
set_option maxHeartbeats 4000000 in
theorem segP4 (a : Addr) (zk : Int32) (n : Nat) (y : Nat → Int64) (hk : zk.toInt = (n : Int)) (C : Cx p s m meth c Z a0 method_3_code 4 "com/example/placewright/placewright/engine/CountTreeSetPinLaw" "prefix" (some .long)) (X0 : Stand p l e R s m args below meth c T0 locs cells slots) (e0 : T0.heap = h0) (A : Af Z h0 a .long 6 (fun j => .long (y j)))
    (k : WP p e below Q T0 (mkF m 56 #[.val (.ref a), .val (.int zk), .val (.long (own_pre y (min 5 n))), .second] [])) : WP p e below Q T0 (mkF m 45 #[.val (.ref a), .val (.int zk), .val (.long (own_pre y (min 4 n))), .second] []) := by
  obtain ⟨hx, hZ, hw, hby, hml, hown, hnm, hret, hlk⟩ := id C
  have L0 := @Int32.lt_iff_toInt_lt
  have h3 : (4 : Int32).toInt = 4 := rfl
  show WP p e below _ T0 (mkF m 45 #[.val (.ref a), .val (.int zk), .val (.long (own_pre y (min 4 n))), .second] [])
  refine wp (fun _ => XS.iloadN X0.here hx rfl (hb hby dpre_45) rfl) ?_
  show WP p e below _ T0 (mkF m 46 #[.val (.ref a), .val (.int zk), .val (.long (own_pre y (min 4 n))), .second] [(.int zk)])
  refine wp (fun _ => XS.iconst X0.here hx rfl (hb hby dpre_46)) ?_
  show WP p e below _ T0 (mkF m 47 #[.val (.ref a), .val (.int zk), .val (.long (own_pre y (min 4 n))), .second] [(.int (4 : Int32)), (.int zk)])
  by_cases hc : (4 : Int32) < zk
  · rw [L0] at hc
    have m1 : min 4 n = 4 := by omega
    have m2 : min 5 n = 5 := by omega
    rw [m2] at k
    rw [m1]
    show WP p e below _ T0 (mkF m 47 #[.val (.ref a), .val (.int zk), .val (.long (own_pre y 4)), .second] [(.int (4 : Int32)), (.int zk)])
    refine wp (fun _ => XS.icmpNo X0.here hx rfl (hb hby dpre_47) rfl (XT.ii_le_f (L0.mpr hc))) ?_
    show WP p e below _ T0 (mkF m 50 #[.val (.ref a), .val (.int zk), .val (.long (own_pre y 4)), .second] [])
    refine wp (fun _ => XS.lloadN X0.here hx rfl (hb hby dpre_50) rfl) ?_
    show WP p e below _ T0 (mkF m 51 #[.val (.ref a), .val (.int zk), .val (.long (own_pre y 4)), .second] [(.long (own_pre y 4))])
    refine wp (fun _ => XS.aloadN X0.here hx rfl (hb hby dpre_51) rfl rfl) ?_
    show WP p e below _ T0 (mkF m 52 #[.val (.ref a), .val (.int zk), .val (.long (own_pre y 4)), .second] [(.ref a), (.long (own_pre y 4))])
    refine wp (fun _ => XS.iconst X0.here hx rfl (hb hby dpre_52)) ?_
    show WP p e below _ T0 (mkF m 53 #[.val (.ref a), .val (.int zk), .val (.long (own_pre y 4)), .second] [(.int (4 : Int32)), (.ref a), (.long (own_pre y 4))])
    refine wp_laload C X0 e0 A (j := 4) rfl (by decide) rfl dpre_53 ?_
    show WP p e below _ T0 (mkF m 54 #[.val (.ref a), .val (.int zk), .val (.long (own_pre y 4)), .second] [(.long (y 4)), (.long (own_pre y 4))])
    refine wp (fun _ => XS.ladd X0.here hx rfl (hb hby dpre_54) rfl) ?_
    show WP p e below _ T0 (mkF m 55 #[.val (.ref a), .val (.int zk), .val (.long (own_pre y 4)), .second] [(.long ((own_pre y 4) + (y 4)))])
    refine wp (fun _ => XS.lstoreN X0.here hx rfl (hb hby dpre_55) rfl (l' := #[.val (.ref a), .val (.int zk), .val (.long ((own_pre y 4) + (y 4))), .second]) rfl) ?_
    show WP p e below _ T0 (mkF m 56 #[.val (.ref a), .val (.int zk), .val (.long ((own_pre y 4) + (y 4))), .second] [])
    exact k
  · rw [L0] at hc
    have m1 : min 4 n = n := by omega
    have m2 : min 5 n = n := by omega
    rw [m2] at k
    rw [m1]
    show WP p e below _ T0 (mkF m 47 #[.val (.ref a), .val (.int zk), .val (.long (own_pre y n)), .second] [(.int (4 : Int32)), (.int zk)])
    refine wp (fun _ => XS.icmpYes X0.here hx rfl (pc0 := 47) (pc' := 56) rfl (hb hby dpre_47) rfl (XT.ii_le_t (fun q => hc (L0.mp q))) (by decide) (by decide)) ?_
    show WP p e below _ T0 (mkF m 56 #[.val (.ref a), .val (.int zk), .val (.long (own_pre y n)), .second] [])
    exact k
set_option maxRecDepth 65536 in
set_option maxHeartbeats 4000000 in
theorem segP5 (a : Addr) (zk : Int32) (n : Nat) (y : Nat → Int64) (hk : zk.toInt = (n : Int)) (C : Cx p s m meth c Z a0 method_3_code 4 "com/example/placewright/placewright/engine/CountTreeSetPinLaw" "prefix" (some .long)) (X0 : Stand p l e R s m args below meth c T0 locs cells slots) (e0 : T0.heap = h0) (A : Af Z h0 a .long 6 (fun j => .long (y j)))
    (k : WP p e below Q T0 (mkF m 67 #[.val (.ref a), .val (.int zk), .val (.long (own_pre y (min 6 n))), .second] [])) : WP p e below Q T0 (mkF m 56 #[.val (.ref a), .val (.int zk), .val (.long (own_pre y (min 5 n))), .second] []) := by
  obtain ⟨hx, hZ, hw, hby, hml, hown, hnm, hret, hlk⟩ := id C
  have L0 := @Int32.lt_iff_toInt_lt
  have h3 : (5 : Int32).toInt = 5 := rfl
  show WP p e below _ T0 (mkF m 56 #[.val (.ref a), .val (.int zk), .val (.long (own_pre y (min 5 n))), .second] [])
  refine wp (fun _ => XS.iloadN X0.here hx rfl (hb hby dpre_56) rfl) ?_
  show WP p e below _ T0 (mkF m 57 #[.val (.ref a), .val (.int zk), .val (.long (own_pre y (min 5 n))), .second] [(.int zk)])
  refine wp (fun _ => XS.iconst X0.here hx rfl (hb hby dpre_57)) ?_
  show WP p e below _ T0 (mkF m 58 #[.val (.ref a), .val (.int zk), .val (.long (own_pre y (min 5 n))), .second] [(.int (5 : Int32)), (.int zk)])
  by_cases hc : (5 : Int32) < zk
  · rw [L0] at hc
    have m1 : min 5 n = 5 := by omega
    have m2 : min 6 n = 6 := by omega
    rw [m2] at k
    rw [m1]
    show WP p e below _ T0 (mkF m 58 #[.val (.ref a), .val (.int zk), .val (.long (own_pre y 5)), .second] [(.int (5 : Int32)), (.int zk)])
    refine wp (fun _ => XS.icmpNo X0.here hx rfl (hb hby dpre_58) rfl (XT.ii_le_f (L0.mpr hc))) ?_
    show WP p e below _ T0 (mkF m 61 #[.val (.ref a), .val (.int zk), .val (.long (own_pre y 5)), .second] [])
    refine wp (fun _ => XS.lloadN X0.here hx rfl (hb hby dpre_61) rfl) ?_
    show WP p e below _ T0 (mkF m 62 #[.val (.ref a), .val (.int zk), .val (.long (own_pre y 5)), .second] [(.long (own_pre y 5))])
    refine wp (fun _ => XS.aloadN X0.here hx rfl (hb hby dpre_62) rfl rfl) ?_
    show WP p e below _ T0 (mkF m 63 #[.val (.ref a), .val (.int zk), .val (.long (own_pre y 5)), .second] [(.ref a), (.long (own_pre y 5))])
    refine wp (fun _ => XS.iconst X0.here hx rfl (hb hby dpre_63)) ?_
    show WP p e below _ T0 (mkF m 64 #[.val (.ref a), .val (.int zk), .val (.long (own_pre y 5)), .second] [(.int (5 : Int32)), (.ref a), (.long (own_pre y 5))])
    refine wp_laload C X0 e0 A (j := 5) rfl (by decide) rfl dpre_64 ?_
    show WP p e below _ T0 (mkF m 65 #[.val (.ref a), .val (.int zk), .val (.long (own_pre y 5)), .second] [(.long (y 5)), (.long (own_pre y 5))])
    refine wp (fun _ => XS.ladd X0.here hx rfl (hb hby dpre_65) rfl) ?_
    show WP p e below _ T0 (mkF m 66 #[.val (.ref a), .val (.int zk), .val (.long (own_pre y 5)), .second] [(.long ((own_pre y 5) + (y 5)))])
    refine wp (fun _ => XS.lstoreN X0.here hx rfl (hb hby dpre_66) rfl (l' := #[.val (.ref a), .val (.int zk), .val (.long ((own_pre y 5) + (y 5))), .second]) rfl) ?_
    show WP p e below _ T0 (mkF m 67 #[.val (.ref a), .val (.int zk), .val (.long ((own_pre y 5) + (y 5))), .second] [])
    exact k
  · rw [L0] at hc
    have m1 : min 5 n = n := by omega
    have m2 : min 6 n = n := by omega
    rw [m2] at k
    rw [m1]
    show WP p e below _ T0 (mkF m 58 #[.val (.ref a), .val (.int zk), .val (.long (own_pre y n)), .second] [(.int (5 : Int32)), (.int zk)])
    refine wp (fun _ => XS.icmpYes X0.here hx rfl (pc0 := 58) (pc' := 67) rfl (hb hby dpre_58) rfl (XT.ii_le_t (fun q => hc (L0.mp q))) (by decide) (by decide)) ?_
    show WP p e below _ T0 (mkF m 67 #[.val (.ref a), .val (.int zk), .val (.long (own_pre y n)), .second] [])
    exact k
end Own
set_option maxRecDepth 65536 in
set_option maxHeartbeats 4000000 in
theorem rm_pre (l : Launch) (Z : State) (a0 : Array Value) (hw : ∀ d ∈ tables_1, d.before a0 Z = true) (ws : List Jvm.Cond) (a : Addr) (zk : Int32) (n : Nat) (y : Nat → Int64) (h0 : Heap) (hk : zk.toInt = (n : Int)) (hn : n ≤ 6) (A : Af Z h0 a .long 6 (fun j => .long (y j))) :
    MetQ l Z (⟨"com/example/placewright/placewright/engine/CountTreeSetPinLaw", "prefix", "([JI)J"⟩ : MethodName) method_3_code 4 (some .long) ws ({ frames := 0, cells := 0, slots := 0, locals := 0 } : Room) #[(.ref a), (.int zk)] h0 (PureQ (some (.long (own_pre y n))) h0) := by
  refine metQ (a0 := a0) (plainFor_of_name pn_pre) hw (ef_pre a zk) ?_
  intro p e s m below meth c T0 C X0 e0
  obtain ⟨hx, hZ, hw, hby, hml, hown, hnm, hret, hlk⟩ := id C
  show WP p e below _ T0 (mkF m 0 #[.val (.ref a), .val (.int zk), .unset, .unset] [])
  refine wp (fun _ => XS.lconst X0.here hx rfl (hb hby dpre_0)) ?_
  show WP p e below _ T0 (mkF m 1 #[.val (.ref a), .val (.int zk), .unset, .unset] [(.long (0 : Int64))])
  refine wp (fun _ => XS.lstoreN X0.here hx rfl (hb hby dpre_1) rfl (l' := #[.val (.ref a), .val (.int zk), .val (.long (0 : Int64)), .second]) rfl) ?_
  show WP p e below _ T0 (mkF m 2 #[.val (.ref a), .val (.int zk), .val (.long (0 : Int64)), .second] [])
  rw [show (0 : Int64) = own_pre y (min 0 n) by rw [Nat.zero_min]; rfl]
  show WP p e below _ T0 (mkF m 2 #[.val (.ref a), .val (.int zk), .val (.long (own_pre y (min 0 n))), .second] [])
  refine segP0 a zk n y hk C X0 e0 A ?_
  refine segP1 a zk n y hk C X0 e0 A ?_
  refine segP2 a zk n y hk C X0 e0 A ?_
  refine segP3 a zk n y hk C X0 e0 A ?_
  refine segP4 a zk n y hk C X0 e0 A ?_
  refine segP5 a zk n y hk C X0 e0 A ?_
  rw [show min 6 n = n by omega]
  show WP p e below _ T0 (mkF m 67 #[.val (.ref a), .val (.int zk), .val (.long (own_pre y n)), .second] [])
  refine wp (fun _ => XS.lloadN X0.here hx rfl (hb hby dpre_67) rfl) ?_
  show WP p e below _ T0 (mkF m 68 #[.val (.ref a), .val (.int zk), .val (.long (own_pre y n)), .second] [(.long (own_pre y n))])
  exact wp_lreturn C X0 dpre_68 ⟨rfl, e0, rfl⟩ (by decide) (by decide)
set_option maxRecDepth 65536 in
set_option maxHeartbeats 4000000 in
theorem rm_nlz (l : Launch) (Z : State) (a0 : Array Value) (hw : ∀ d ∈ tables_1, d.before a0 Z = true) (ws : List Jvm.Cond) (h0 : Heap) :
    MetQ l Z (⟨"java/lang/Integer", "numberOfLeadingZeros", "(I)I"⟩ : MethodName) jdk_33_method_47_code 2 (some .int) ws ({ frames := 0, cells := 0, slots := 0, locals := 0 } : Room) #[(.int (6 : Int32))] h0 (PureQ (some (.int (29 : Int32))) h0) := by
  refine metQ (a0 := a0) (plainFor_of_name pn_nlz) hw (ef_nlz 6) ?_
  intro p e s m below meth c T0 C X0 e0
  obtain ⟨hx, hZ, hw, hby, hml, hown, hnm, hret, hlk⟩ := id C
  show WP p e below _ T0 (mkF m 0 #[.val (.int (6 : Int32)), .unset] [])
  refine wp (fun _ => XS.iloadN X0.here hx rfl (hb hby dnlz_0) rfl) ?_
  show WP p e below _ T0 (mkF m 1 #[.val (.int (6 : Int32)), .unset] [(.int (6 : Int32))])
  refine wp (fun _ => XS.ifYes X0.here hx rfl (pc0 := 1) (pc' := 15) rfl (hb hby dnlz_1) rfl (XT.i0_gt_t (by decide)) (by decide) (by decide)) ?_
  show WP p e below _ T0 (mkF m 15 #[.val (.int (6 : Int32)), .unset] [])
  refine wp (fun _ => XS.bipush X0.here hx rfl (hb hby dnlz_15)) ?_
  show WP p e below _ T0 (mkF m 17 #[.val (.int (6 : Int32)), .unset] [(.int (31 : Int32))])
  refine wp (fun _ => XS.istoreN X0.here hx rfl (hb hby dnlz_17) rfl (l' := #[.val (.int (6 : Int32)), .val (.int (31 : Int32))]) rfl) ?_
  show WP p e below _ T0 (mkF m 18 #[.val (.int (6 : Int32)), .val (.int (31 : Int32))] [])
  refine wp (fun _ => XS.iloadN X0.here hx rfl (hb hby dnlz_18) rfl) ?_
  show WP p e below _ T0 (mkF m 19 #[.val (.int (6 : Int32)), .val (.int (31 : Int32))] [(.int (6 : Int32))])
  refine wp_ldcw C X0 (hw _ (List.mem_of_getElem? (i := 29) rfl)) dnlz_19 ?_
  show WP p e below _ T0 (mkF m 22 #[.val (.int (6 : Int32)), .val (.int (31 : Int32))] [(.int (65536 : Int32)), (.int (6 : Int32))])
  refine wp (fun _ => XS.icmpYes X0.here hx rfl (pc0 := 22) (pc' := 33) rfl (hb hby dnlz_22) rfl (XT.ii_lt_t (by decide)) (by decide) (by decide)) ?_
  show WP p e below _ T0 (mkF m 33 #[.val (.int (6 : Int32)), .val (.int (31 : Int32))] [])
  refine wp (fun _ => XS.iloadN X0.here hx rfl (hb hby dnlz_33) rfl) ?_
  show WP p e below _ T0 (mkF m 34 #[.val (.int (6 : Int32)), .val (.int (31 : Int32))] [(.int (6 : Int32))])
  refine wp (fun _ => XS.sipush X0.here hx rfl (hb hby dnlz_34)) ?_
  show WP p e below _ T0 (mkF m 37 #[.val (.int (6 : Int32)), .val (.int (31 : Int32))] [(.int (256 : Int32)), (.int (6 : Int32))])
  refine wp (fun _ => XS.icmpYes X0.here hx rfl (pc0 := 37) (pc' := 48) rfl (hb hby dnlz_37) rfl (XT.ii_lt_t (by decide)) (by decide) (by decide)) ?_
  show WP p e below _ T0 (mkF m 48 #[.val (.int (6 : Int32)), .val (.int (31 : Int32))] [])
  refine wp (fun _ => XS.iloadN X0.here hx rfl (hb hby dnlz_48) rfl) ?_
  show WP p e below _ T0 (mkF m 49 #[.val (.int (6 : Int32)), .val (.int (31 : Int32))] [(.int (6 : Int32))])
  refine wp (fun _ => XS.bipush X0.here hx rfl (hb hby dnlz_49)) ?_
  show WP p e below _ T0 (mkF m 51 #[.val (.int (6 : Int32)), .val (.int (31 : Int32))] [(.int (16 : Int32)), (.int (6 : Int32))])
  refine wp (fun _ => XS.icmpYes X0.here hx rfl (pc0 := 51) (pc' := 61) rfl (hb hby dnlz_51) rfl (XT.ii_lt_t (by decide)) (by decide) (by decide)) ?_
  show WP p e below _ T0 (mkF m 61 #[.val (.int (6 : Int32)), .val (.int (31 : Int32))] [])
  refine wp (fun _ => XS.iloadN X0.here hx rfl (hb hby dnlz_61) rfl) ?_
  show WP p e below _ T0 (mkF m 62 #[.val (.int (6 : Int32)), .val (.int (31 : Int32))] [(.int (6 : Int32))])
  refine wp (fun _ => XS.iconst X0.here hx rfl (hb hby dnlz_62)) ?_
  show WP p e below _ T0 (mkF m 63 #[.val (.int (6 : Int32)), .val (.int (31 : Int32))] [(.int (4 : Int32)), (.int (6 : Int32))])
  refine wp (fun _ => XS.icmpNo X0.here hx rfl (hb hby dnlz_63) rfl (XT.ii_lt_f (by decide))) ?_
  show WP p e below _ T0 (mkF m 66 #[.val (.int (6 : Int32)), .val (.int (31 : Int32))] [])
  refine wp (fun _ => XS.iinc X0.here hx rfl (hb hby dnlz_66) rfl (l' := #[.val (.int (6 : Int32)), .val (.int ((31 : Int32) + (-2 : Int32)))]) rfl) ?_
  show WP p e below _ T0 (mkF m 69 #[.val (.int (6 : Int32)), .val (.int ((31 : Int32) + (-2 : Int32)))] [])
  refine wp (fun _ => XS.iloadN X0.here hx rfl (hb hby dnlz_69) rfl) ?_
  show WP p e below _ T0 (mkF m 70 #[.val (.int (6 : Int32)), .val (.int ((31 : Int32) + (-2 : Int32)))] [(.int (6 : Int32))])
  refine wp (fun _ => XS.iconst X0.here hx rfl (hb hby dnlz_70)) ?_
  show WP p e below _ T0 (mkF m 71 #[.val (.int (6 : Int32)), .val (.int ((31 : Int32) + (-2 : Int32)))] [(.int (2 : Int32)), (.int (6 : Int32))])
  refine wp (fun _ => XS.iushr X0.here hx rfl (hb hby dnlz_71) rfl) ?_
  show WP p e below _ T0 (mkF m 72 #[.val (.int (6 : Int32)), .val (.int ((31 : Int32) + (-2 : Int32)))] [(.int (((6 : Int32).toUInt32 >>> ((2 : Int32) &&& 31).toUInt32).toInt32))])
  refine wp (fun _ => XS.istoreN X0.here hx rfl (hb hby dnlz_72) rfl (l' := #[.val (.int (((6 : Int32).toUInt32 >>> ((2 : Int32) &&& 31).toUInt32).toInt32)), .val (.int ((31 : Int32) + (-2 : Int32)))]) rfl) ?_
  show WP p e below _ T0 (mkF m 73 #[.val (.int (((6 : Int32).toUInt32 >>> ((2 : Int32) &&& 31).toUInt32).toInt32)), .val (.int ((31 : Int32) + (-2 : Int32)))] [])
  refine wp (fun _ => XS.iloadN X0.here hx rfl (hb hby dnlz_73) rfl) ?_
  show WP p e below _ T0 (mkF m 74 #[.val (.int (((6 : Int32).toUInt32 >>> ((2 : Int32) &&& 31).toUInt32).toInt32)), .val (.int ((31 : Int32) + (-2 : Int32)))] [(.int ((31 : Int32) + (-2 : Int32)))])
  refine wp (fun _ => XS.iloadN X0.here hx rfl (hb hby dnlz_74) rfl) ?_
  show WP p e below _ T0 (mkF m 75 #[.val (.int (((6 : Int32).toUInt32 >>> ((2 : Int32) &&& 31).toUInt32).toInt32)), .val (.int ((31 : Int32) + (-2 : Int32)))] [(.int (((6 : Int32).toUInt32 >>> ((2 : Int32) &&& 31).toUInt32).toInt32)), (.int ((31 : Int32) + (-2 : Int32)))])
  refine wp (fun _ => XS.iconst X0.here hx rfl (hb hby dnlz_75)) ?_
  show WP p e below _ T0 (mkF m 76 #[.val (.int (((6 : Int32).toUInt32 >>> ((2 : Int32) &&& 31).toUInt32).toInt32)), .val (.int ((31 : Int32) + (-2 : Int32)))] [(.int (1 : Int32)), (.int (((6 : Int32).toUInt32 >>> ((2 : Int32) &&& 31).toUInt32).toInt32)), (.int ((31 : Int32) + (-2 : Int32)))])
  refine wp (fun _ => XS.iushr X0.here hx rfl (hb hby dnlz_76) rfl) ?_
  show WP p e below _ T0 (mkF m 77 #[.val (.int (((6 : Int32).toUInt32 >>> ((2 : Int32) &&& 31).toUInt32).toInt32)), .val (.int ((31 : Int32) + (-2 : Int32)))] [(.int (((((6 : Int32).toUInt32 >>> ((2 : Int32) &&& 31).toUInt32).toInt32).toUInt32 >>> ((1 : Int32) &&& 31).toUInt32).toInt32)), (.int ((31 : Int32) + (-2 : Int32)))])
  refine wp (fun _ => XS.isub X0.here hx rfl (hb hby dnlz_77) rfl) ?_
  show WP p e below _ T0 (mkF m 78 #[.val (.int (((6 : Int32).toUInt32 >>> ((2 : Int32) &&& 31).toUInt32).toInt32)), .val (.int ((31 : Int32) + (-2 : Int32)))] [(.int (((31 : Int32) + (-2 : Int32)) - (((((6 : Int32).toUInt32 >>> ((2 : Int32) &&& 31).toUInt32).toInt32).toUInt32 >>> ((1 : Int32) &&& 31).toUInt32).toInt32)))])
  exact wp_ireturn C X0 dnlz_78 ⟨rfl, e0, rfl⟩ (by decide) (by decide)
set_option maxRecDepth 65536 in
set_option maxHeartbeats 4000000 in
theorem rm_hob (l : Launch) (Z : State) (a0 : Array Value) (hw : ∀ d ∈ tables_1, d.before a0 Z = true) (ws : List Jvm.Cond) (h0 : Heap) :
    MetQ l Z (⟨"java/lang/Integer", "highestOneBit", "(I)I"⟩ : MethodName) jdk_33_method_45_code 1 (some .int) ws ({ frames := 1, cells := 0, slots := 0, locals := 15 } : Room) #[(.int (6 : Int32))] h0 (PureQ (some (.int (4 : Int32))) h0) := by
  refine metQ (a0 := a0) (plainFor_of_name pn_hob) hw (ef_hob 6) ?_
  intro p e s m below meth c T0 C X0 e0
  obtain ⟨hx, hZ, hw, hby, hml, hown, hnm, hret, hlk⟩ := id C
  show WP p e below _ T0 (mkF m 0 #[.val (.int (6 : Int32))] [])
  refine wp (fun _ => XS.iloadN X0.here hx rfl (hb hby dhob_0) rfl) ?_
  show WP p e below _ T0 (mkF m 1 #[.val (.int (6 : Int32))] [(.int (6 : Int32))])
  refine wp_ldc C X0 (hw _ (List.mem_of_getElem? (i := 25) rfl)) dhob_1 ?_
  show WP p e below _ T0 (mkF m 3 #[.val (.int (6 : Int32))] [(.int (-2147483648 : Int32)), (.int (6 : Int32))])
  refine wp (fun _ => XS.iloadN X0.here hx rfl (hb hby dhob_3) rfl) ?_
  show WP p e below _ T0 (mkF m 4 #[.val (.int (6 : Int32))] [(.int (6 : Int32)), (.int (-2147483648 : Int32)), (.int (6 : Int32))])
  refine wp_staticP C X0 e0 (argsL := [(.int (6 : Int32))]) (rest := [(.int (-2147483648 : Int32)), (.int (6 : Int32))]) (rm_nlz l Z a0 hw [] h0) (hw _ (List.mem_of_getElem? (i := 26) rfl)) (hw _ (List.mem_of_getElem? (i := 27) rfl)) (hw _ (List.mem_of_getElem? (i := 23) rfl)) (hw _ (List.mem_of_getElem? (i := 28) rfl)) (by decide) rfl (lenOf pd_nlz rfl) dhob_4 rfl rfl rfl (by decide) (Nat.le_of_ble_eq_true rfl) (by decide) (by decide) ?_
  intro T1 X1 e1
  show WP p e below _ T1 (mkF m 7 #[.val (.int (6 : Int32))] [(.int (29 : Int32)), (.int (-2147483648 : Int32)), (.int (6 : Int32))])
  refine wp (fun _ => XS.iushr X1.here hx rfl (hb hby dhob_7) rfl) ?_
  show WP p e below _ T1 (mkF m 8 #[.val (.int (6 : Int32))] [(.int (((-2147483648 : Int32).toUInt32 >>> ((29 : Int32) &&& 31).toUInt32).toInt32)), (.int (6 : Int32))])
  refine wp (fun _ => XS.iand X1.here hx rfl (hb hby dhob_8) rfl) ?_
  show WP p e below _ T1 (mkF m 9 #[.val (.int (6 : Int32))] [(.int ((6 : Int32) &&& (((-2147483648 : Int32).toUInt32 >>> ((29 : Int32) &&& 31).toUInt32).toInt32)))])
  exact wp_ireturn C X1 dhob_9 ⟨rfl, e1, rfl⟩ (by decide) (by decide)
def QI (Z : State) (b : Addr) (h0 : Heap) (n0 : Nat) : Option Value → Heap → List Loc → Prop := fun v h L => v = none ∧ Fr n0 L ∧ Keep h0 h [b] ∧ ∃ ca da : Addr, n0 ≤ ca ∧ n0 ≤ da ∧ h0.size ≤ ca ∧ h0.size ≤ da ∧ Tr Z h b ca da (fun _ => 0)
set_option maxRecDepth 65536 in
set_option maxHeartbeats 4000000 in
theorem rm_ini (l : Launch) (Z : State) (a0 : Array Value) (hw : ∀ d ∈ tables_1, d.before a0 Z = true) (ws : List Jvm.Cond) (b : Addr) (h0 : Heap) (n0 : Nat) (Z0 : n0 ≤ h0.size) (gb : n0 ≤ b) (E0 : Exa Z h0 b "com/example/placewright/placewright/engine/CountTree") (F1 : Fld Z h0 b "com/example/placewright/placewright/engine/CountTree" "counts" "[I" .null) (F2 : Fld Z h0 b "com/example/placewright/placewright/engine/CountTree" "sums" "[J" .null) (F3 : Fld Z h0 b "com/example/placewright/placewright/engine/CountTree" "top" "I" (.int 0)) (F4 : Fld Z h0 b "com/example/placewright/placewright/engine/CountTree" "total" "J" (.long 0)) :
    MetQ l Z (⟨"com/example/placewright/placewright/engine/CountTree", "<init>", "(I)V"⟩ : MethodName) prog_25_method_1_code 2 none ws ({ frames := 2, cells := 2, slots := 13, locals := 28 } : Room) #[(.ref b), (.int (6 : Int32))] h0 (QI Z b h0 n0) := by
  refine metQ (a0 := a0) (plainFor_of_name pn_ini) hw (ef_ini b 6) ?_
  intro p e s m below meth c T0 C X0 e0
  obtain ⟨hx, hZ, hw, hby, hml, hown, hnm, hret, hlk⟩ := id C
  show WP p e below _ T0 (mkF m 0 #[.val (.ref b), .val (.int (6 : Int32))] [])
  refine wp (fun _ => XS.aloadN X0.here hx rfl (hb hby dini_0) rfl rfl) ?_
  show WP p e below _ T0 (mkF m 1 #[.val (.ref b), .val (.int (6 : Int32))] [(.ref b)])
  refine wp_initO C X0 e0 (hw _ (List.mem_of_getElem? (i := 13) rfl)) (hw _ (List.mem_of_getElem? (i := 14) rfl)) (hw _ (List.mem_of_getElem? (i := 15) rfl)) dini_1 rfl (by decide) (Nat.le_of_ble_eq_true rfl) ?_
  intro T1 X1 e1
  show WP p e below _ T1 (mkF m 4 #[.val (.ref b), .val (.int (6 : Int32))] [])
  refine wp (fun _ => XS.aloadN X1.here hx rfl (hb hby dini_4) rfl rfl) ?_
  show WP p e below _ T1 (mkF m 5 #[.val (.ref b), .val (.int (6 : Int32))] [(.ref b)])
  refine wp (fun _ => XS.iloadN X1.here hx rfl (hb hby dini_5) rfl) ?_
  show WP p e below _ T1 (mkF m 6 #[.val (.ref b), .val (.int (6 : Int32))] [(.int (6 : Int32)), (.ref b)])
  refine wp_newarray C X1 e1 (hw _ (List.mem_of_getElem? (i := 16) rfl)) dini_6 (n := 6) rfl (cap := 6) (by decide) (by decide) (by decide) (by decide) ?_
  intro T2 h2 X2 e2 E2 A2
  obtain ⟨ca, gca⟩ : ∃ z, z = h0.size := ⟨_, rfl⟩
  rw [← gca] at A2 ⊢
  show WP p e below _ T2 (mkF m 8 #[.val (.ref b), .val (.int (6 : Int32))] [(.ref ca), (.ref b)])
  have nbc : b ≠ ca := by rw [gca]; exact Nat.ne_of_lt E0.lt
  refine wp_putfield C X2 e2 (hw _ (List.mem_of_getElem? (i := 17) rfl)) (F1.ext E2) (E0.ext E2) (Or.inr ⟨(hw _ (List.mem_of_getElem? (i := 18) rfl)), rfl, rfl⟩) (hw _ (List.mem_of_getElem? (i := 8) rfl)) (ty := (.array .int)) (by decide) rfl rfl dini_8 ?_
  intro T3 h3 X3 e3 W3
  show WP p e below _ T3 (mkF m 11 #[.val (.ref b), .val (.int (6 : Int32))] [])
  have N3 := Frs (sl := Jvm.RoadKit.slotOf Z "com/example/placewright/placewright/engine/CountTree" "counts" "[I") (Fr.nil n0) gb
  have K3 : Keep h0 h3 [b] := ((Keep.refl h0 [b]).ext E2).wr W3 (Or.inl (List.mem_singleton.mpr rfl))
  have Eb3 := (E0.ext E2).wr W3
  have Fc3 := (F1.ext E2).same W3
  have Fs3 := (F2.ext E2).other W3 (Or.inr (slot_ne (Or.inr (hw _ (List.mem_of_getElem? (i := 20) rfl))) (Or.inr (hw _ (List.mem_of_getElem? (i := 18) rfl))) (by decide) (t := (.array .long)) (t' := (.array .int)) (by decide) (by decide)))
  have Ft3 := (F3.ext E2).other W3 (Or.inr (slot_ne (Or.inr (hw _ (List.mem_of_getElem? (i := 31) rfl))) (Or.inr (hw _ (List.mem_of_getElem? (i := 18) rfl))) (by decide) (t := .int) (t' := (.array .int)) (by decide) (by decide)))
  have Fo3 := (F4.ext E2).other W3 (Or.inr (slot_ne (Or.inl (hw _ (List.mem_of_getElem? (i := 38) rfl))) (Or.inr (hw _ (List.mem_of_getElem? (i := 18) rfl))) (by decide) (t := .long) (t' := (.array .int)) (by decide) (by decide)))
  have Ac3 := A2.other W3 nbc.symm
  refine wp (fun _ => XS.aloadN X3.here hx rfl (hb hby dini_11) rfl rfl) ?_
  show WP p e below _ T3 (mkF m 12 #[.val (.ref b), .val (.int (6 : Int32))] [(.ref b)])
  refine wp (fun _ => XS.iloadN X3.here hx rfl (hb hby dini_12) rfl) ?_
  show WP p e below _ T3 (mkF m 13 #[.val (.ref b), .val (.int (6 : Int32))] [(.int (6 : Int32)), (.ref b)])
  refine wp (fun _ => XS.iconst X3.here hx rfl (hb hby dini_13)) ?_
  show WP p e below _ T3 (mkF m 14 #[.val (.ref b), .val (.int (6 : Int32))] [(.int (1 : Int32)), (.int (6 : Int32)), (.ref b)])
  refine wp (fun _ => XS.iadd X3.here hx rfl (hb hby dini_14) rfl) ?_
  show WP p e below _ T3 (mkF m 15 #[.val (.ref b), .val (.int (6 : Int32))] [(.int ((6 : Int32) + (1 : Int32))), (.ref b)])
  refine wp_newarray C X3 e3 (hw _ (List.mem_of_getElem? (i := 2) rfl)) dini_15 (n := 7) rfl (cap := 7) (by decide) (by decide) (by decide) (by decide) ?_
  intro T4 h4 X4 e4 E4 A4
  obtain ⟨da, gda⟩ : ∃ z, z = h3.size := ⟨_, rfl⟩
  rw [← gda] at A4 ⊢
  show WP p e below _ T4 (mkF m 17 #[.val (.ref b), .val (.int (6 : Int32))] [(.ref da), (.ref b)])
  have nbd : b ≠ da := by rw [gda]; exact Nat.ne_of_lt Eb3.lt
  have ncd : ca ≠ da := by rw [gda]; exact Nat.ne_of_lt Ac3.lt
  refine wp_putfield C X4 e4 (hw _ (List.mem_of_getElem? (i := 19) rfl)) (Fs3.ext E4) (Eb3.ext E4) (Or.inr ⟨(hw _ (List.mem_of_getElem? (i := 20) rfl)), rfl, rfl⟩) (hw _ (List.mem_of_getElem? (i := 8) rfl)) (ty := (.array .long)) (by decide) rfl rfl dini_17 ?_
  intro T5 h5 X5 e5 W5
  show WP p e below _ T5 (mkF m 20 #[.val (.ref b), .val (.int (6 : Int32))] [])
  have N5 := Frs (sl := Jvm.RoadKit.slotOf Z "com/example/placewright/placewright/engine/CountTree" "sums" "[J") N3 gb
  have K5 : Keep h0 h5 [b] := (K3.ext E4).wr W5 (Or.inl (List.mem_singleton.mpr rfl))
  have Eb5 := (Eb3.ext E4).wr W5
  have Fc5 := (Fc3.ext E4).other W5 (Or.inr (slot_ne (Or.inr (hw _ (List.mem_of_getElem? (i := 18) rfl))) (Or.inr (hw _ (List.mem_of_getElem? (i := 20) rfl))) (by decide) (t := (.array .int)) (t' := (.array .long)) (by decide) (by decide)))
  have Fs5 := (Fs3.ext E4).same W5
  have Ft5 := (Ft3.ext E4).other W5 (Or.inr (slot_ne (Or.inr (hw _ (List.mem_of_getElem? (i := 31) rfl))) (Or.inr (hw _ (List.mem_of_getElem? (i := 20) rfl))) (by decide) (t := .int) (t' := (.array .long)) (by decide) (by decide)))
  have Fo5 := (Fo3.ext E4).other W5 (Or.inr (slot_ne (Or.inl (hw _ (List.mem_of_getElem? (i := 38) rfl))) (Or.inr (hw _ (List.mem_of_getElem? (i := 20) rfl))) (by decide) (t := .long) (t' := (.array .long)) (by decide) (by decide)))
  have Ac5 := (Ac3.ext E4).other W5 nbc.symm
  have Ad5 := A4.other W5 nbd.symm
  refine wp (fun _ => XS.aloadN X5.here hx rfl (hb hby dini_20) rfl rfl) ?_
  show WP p e below _ T5 (mkF m 21 #[.val (.ref b), .val (.int (6 : Int32))] [(.ref b)])
  refine wp (fun _ => XS.iloadN X5.here hx rfl (hb hby dini_21) rfl) ?_
  show WP p e below _ T5 (mkF m 22 #[.val (.ref b), .val (.int (6 : Int32))] [(.int (6 : Int32)), (.ref b)])
  refine wp (fun _ => XS.ifYes X5.here hx rfl (pc0 := 22) (pc' := 29) rfl (hb hby dini_22) rfl (XT.i0_ne_t (by decide)) (by decide) (by decide)) ?_
  show WP p e below _ T5 (mkF m 29 #[.val (.ref b), .val (.int (6 : Int32))] [(.ref b)])
  refine wp (fun _ => XS.iloadN X5.here hx rfl (hb hby dini_29) rfl) ?_
  show WP p e below _ T5 (mkF m 30 #[.val (.ref b), .val (.int (6 : Int32))] [(.int (6 : Int32)), (.ref b)])
  refine wp_staticP C X5 e5 (argsL := [(.int (6 : Int32))]) (rest := [(.ref b)]) (rm_hob l Z a0 hw [] h5) (hw _ (List.mem_of_getElem? (i := 21) rfl)) (hw _ (List.mem_of_getElem? (i := 22) rfl)) (hw _ (List.mem_of_getElem? (i := 23) rfl)) (hw _ (List.mem_of_getElem? (i := 24) rfl)) (by decide) rfl (lenOf pd_hob rfl) dini_30 rfl rfl rfl (by decide) (Nat.le_of_ble_eq_true rfl) (by decide) (by decide) ?_
  intro T6 X6 e6
  show WP p e below _ T6 (mkF m 33 #[.val (.ref b), .val (.int (6 : Int32))] [(.int (4 : Int32)), (.ref b)])
  refine wp_putfield C X6 e6 (hw _ (List.mem_of_getElem? (i := 30) rfl)) Ft5 Eb5 (Or.inr ⟨(hw _ (List.mem_of_getElem? (i := 31) rfl)), rfl, rfl⟩) (hw _ (List.mem_of_getElem? (i := 8) rfl)) (ty := .int) (by decide) rfl rfl dini_33 ?_
  intro T7 h7 X7 e7 W7
  show WP p e below _ T7 (mkF m 36 #[.val (.ref b), .val (.int (6 : Int32))] [])
  have N7 := Frs (sl := Jvm.RoadKit.slotOf Z "com/example/placewright/placewright/engine/CountTree" "top" "I") N5 gb
  have K7 : Keep h0 h7 [b] := K5.wr W7 (Or.inl (List.mem_singleton.mpr rfl))
  have hca : h0.size ≤ ca := Nat.le_of_eq gca.symm
  have hda : h0.size ≤ da := by rw [gda]; exact K3.1
  refine wp_vreturn C X7 dini_36 ⟨rfl, N7, by rw [e7]; exact K7, ca, da, Nat.le_trans Z0 hca, Nat.le_trans Z0 hda, hca, hda, ?_⟩ (by decide) (by decide)
  rw [e7]
  refine ⟨⟨Eb5.wr W7, Fc5.other W7 (Or.inr (slot_ne (Or.inr (hw _ (List.mem_of_getElem? (i := 18) rfl))) (Or.inr (hw _ (List.mem_of_getElem? (i := 31) rfl))) (by decide) (t := (.array .int)) (t' := .int) (by decide) (by decide))), Fs5.other W7 (Or.inr (slot_ne (Or.inr (hw _ (List.mem_of_getElem? (i := 20) rfl))) (Or.inr (hw _ (List.mem_of_getElem? (i := 31) rfl))) (by decide) (t := (.array .long)) (t' := .int) (by decide) (by decide))), ?_, Ac5.other W7 nbc.symm, nbc, nbd, ncd⟩, ?_⟩
  · exact Fo5.other W7 (Or.inr (slot_ne (Or.inl (hw _ (List.mem_of_getElem? (i := 38) rfl))) (Or.inr (hw _ (List.mem_of_getElem? (i := 31) rfl))) (by decide) (t := .long) (t' := .int) (by decide) (by decide)))
  · refine (Ad5.other W7 nbd.symm).conv fun j hj => ?_
    rcases own_seven hj with rfl | rfl | rfl | rfl | rfl | rfl | rfl <;> rfl
section Own2
variable {p : Program} {l : Launch} {e : Env} {R : Room} {s : State} {m : MethodId} {args : Array Value} {below : List Frame} {meth : Method} {c : Code} {T0 : State} {locs : List Loc} {cells slots : Nat} {Z : State} {a0 : Array Value} {h0 : Heap} {Q : State → Prop}

set_option maxRecDepth 65536 in
set_option maxHeartbeats 4000000 in
theorem set_turn (b ca da : Addr) (zp cnt : Int32) (ch : Int64) (x : Nat → Int32) (t : Int64) (zn : Int32) (nd n0 : Nat) (hz : zn.toInt = (nd : Int)) (h7 : nd < 7) (g : Nat → Int64) (hh : Heap) (K0 : Keep hh h0 [b, ca, da]) (gd : n0 ≤ da) (N0 : Fr n0 locs) (F : Rs Z h0 b ca da x t) (A : Af Z h0 da .long 7 (fun j => .long (g j))) (C : Cx p s m meth c Z a0 prog_25_method_3_code 6 "com/example/placewright/placewright/engine/CountTree" "set" none) (X0 : Stand p l e R s m args below meth c T0 locs cells slots) (e0 : T0.heap = h0)
    (k : ∀ T' h' locs', Stand p l e R s m args below meth c T' locs' cells slots → T'.heap = h' → Fr n0 locs' → Keep hh h' [b, ca, da] → Rs Z h' b ca da x t → Af Z h' da .long 7 (fun j => .long (own_add g nd ch j)) → WP p e below Q T' (mkF m 40 #[.val (.ref b), .val (.int zp), .val (.int cnt), .val (.long ch), .second, .val (.int (zn + (zn &&& (-zn))))] [])) : WP p e below Q T0 (mkF m 40 #[.val (.ref b), .val (.int zp), .val (.int cnt), .val (.long ch), .second, .val (.int zn)] []) := by
  obtain ⟨hx, hZ, hw, hby, hml, hown, hnm, hret, hlk⟩ := id C
  have L0 := @Int32.lt_iff_toInt_lt
  show WP p e below _ T0 (mkF m 40 #[.val (.ref b), .val (.int zp), .val (.int cnt), .val (.long ch), .second, .val (.int zn)] [])
  refine wp (fun _ => XS.iload X0.here hx rfl (hb hby dset_40) rfl) ?_
  show WP p e below _ T0 (mkF m 42 #[.val (.ref b), .val (.int zp), .val (.int cnt), .val (.long ch), .second, .val (.int zn)] [(.int zn)])
  refine wp (fun _ => XS.aloadN X0.here hx rfl (hb hby dset_42) rfl rfl) ?_
  show WP p e below _ T0 (mkF m 43 #[.val (.ref b), .val (.int zp), .val (.int cnt), .val (.long ch), .second, .val (.int zn)] [(.ref b), (.int zn)])
  refine wp_getfield C X0 e0 (hw _ (List.mem_of_getElem? (i := 19) rfl)) F.2.2.1 dset_43 ?_
  intro T1 X1 e1
  show WP p e below _ T1 (mkF m 46 #[.val (.ref b), .val (.int zp), .val (.int cnt), .val (.long ch), .second, .val (.int zn)] [(.ref da), (.int zn)])
  refine wp_arraylength C X1 e1 A dset_46 ?_
  show WP p e below _ T1 (mkF m 47 #[.val (.ref b), .val (.int zp), .val (.int cnt), .val (.long ch), .second, .val (.int zn)] [(.int (7 : Int32)), (.int zn)])
  have hc : zn < (7 : Int32) := by rw [L0, hz]; show (nd : Int) < 7; omega
  refine wp (fun _ => XS.icmpNo X1.here hx rfl (hb hby dset_47) rfl (XT.ii_ge_f hc)) ?_
  show WP p e below _ T1 (mkF m 50 #[.val (.ref b), .val (.int zp), .val (.int cnt), .val (.long ch), .second, .val (.int zn)] [])
  refine wp (fun _ => XS.aloadN X1.here hx rfl (hb hby dset_50) rfl rfl) ?_
  show WP p e below _ T1 (mkF m 51 #[.val (.ref b), .val (.int zp), .val (.int cnt), .val (.long ch), .second, .val (.int zn)] [(.ref b)])
  refine wp_getfield C X1 e1 (hw _ (List.mem_of_getElem? (i := 19) rfl)) F.2.2.1 dset_51 ?_
  intro T2 X2 e2
  show WP p e below _ T2 (mkF m 54 #[.val (.ref b), .val (.int zp), .val (.int cnt), .val (.long ch), .second, .val (.int zn)] [(.ref da)])
  refine wp (fun _ => XS.iload X2.here hx rfl (hb hby dset_54) rfl) ?_
  show WP p e below _ T2 (mkF m 56 #[.val (.ref b), .val (.int zp), .val (.int cnt), .val (.long ch), .second, .val (.int zn)] [(.int zn), (.ref da)])
  refine wp (fun _ => XT.dup2 X2.here hx rfl (hb hby dset_56) rfl rfl rfl) ?_
  show WP p e below _ T2 (mkF m 57 #[.val (.ref b), .val (.int zp), .val (.int cnt), .val (.long ch), .second, .val (.int zn)] [(.int zn), (.ref da), (.int zn), (.ref da)])
  refine wp_laload C X2 e2 A hz h7 rfl dset_57 ?_
  show WP p e below _ T2 (mkF m 58 #[.val (.ref b), .val (.int zp), .val (.int cnt), .val (.long ch), .second, .val (.int zn)] [(.long (g nd)), (.int zn), (.ref da)])
  refine wp (fun _ => XS.lloadN X2.here hx rfl (hb hby dset_58) rfl) ?_
  show WP p e below _ T2 (mkF m 59 #[.val (.ref b), .val (.int zp), .val (.int cnt), .val (.long ch), .second, .val (.int zn)] [(.long ch), (.long (g nd)), (.int zn), (.ref da)])
  refine wp (fun _ => XS.ladd X2.here hx rfl (hb hby dset_59) rfl) ?_
  show WP p e below _ T2 (mkF m 60 #[.val (.ref b), .val (.int zp), .val (.int cnt), .val (.long ch), .second, .val (.int zn)] [(.long ((g nd) + ch)), (.int zn), (.ref da)])
  refine wp_lastore C X2 e2 A hz h7 dset_60 ?_
  intro T3 h3 X3 e3 W3 A3
  show WP p e below _ T3 (mkF m 61 #[.val (.ref b), .val (.int zp), .val (.int cnt), .val (.long ch), .second, .val (.int zn)] [])
  refine wp (fun _ => XS.iload X3.here hx rfl (hb hby dset_61) rfl) ?_
  show WP p e below _ T3 (mkF m 63 #[.val (.ref b), .val (.int zp), .val (.int cnt), .val (.long ch), .second, .val (.int zn)] [(.int zn)])
  refine wp (fun _ => XS.iload X3.here hx rfl (hb hby dset_63) rfl) ?_
  show WP p e below _ T3 (mkF m 65 #[.val (.ref b), .val (.int zp), .val (.int cnt), .val (.long ch), .second, .val (.int zn)] [(.int zn), (.int zn)])
  refine wp (fun _ => XS.iload X3.here hx rfl (hb hby dset_65) rfl) ?_
  show WP p e below _ T3 (mkF m 67 #[.val (.ref b), .val (.int zp), .val (.int cnt), .val (.long ch), .second, .val (.int zn)] [(.int zn), (.int zn), (.int zn)])
  refine wp (fun _ => XS.ineg X3.here hx rfl (hb hby dset_67) rfl) ?_
  show WP p e below _ T3 (mkF m 68 #[.val (.ref b), .val (.int zp), .val (.int cnt), .val (.long ch), .second, .val (.int zn)] [(.int (-zn)), (.int zn), (.int zn)])
  refine wp (fun _ => XS.iand X3.here hx rfl (hb hby dset_68) rfl) ?_
  show WP p e below _ T3 (mkF m 69 #[.val (.ref b), .val (.int zp), .val (.int cnt), .val (.long ch), .second, .val (.int zn)] [(.int (zn &&& (-zn))), (.int zn)])
  refine wp (fun _ => XS.iadd X3.here hx rfl (hb hby dset_69) rfl) ?_
  show WP p e below _ T3 (mkF m 70 #[.val (.ref b), .val (.int zp), .val (.int cnt), .val (.long ch), .second, .val (.int zn)] [(.int (zn + (zn &&& (-zn))))])
  refine wp (fun _ => XS.istore X3.here hx rfl (hb hby dset_70) rfl (l' := #[.val (.ref b), .val (.int zp), .val (.int cnt), .val (.long ch), .second, .val (.int (zn + (zn &&& (-zn))))]) rfl) ?_
  show WP p e below _ T3 (mkF m 72 #[.val (.ref b), .val (.int zp), .val (.int cnt), .val (.long ch), .second, .val (.int (zn + (zn &&& (-zn))))] [])
  refine wp (fun _ => XS.goto X3.here hx rfl (pc0 := 72) (pc' := 40) rfl (hb hby dset_72) (by decide) (by decide)) ?_
  show WP p e below _ T3 (mkF m 40 #[.val (.ref b), .val (.int zp), .val (.int cnt), .val (.long ch), .second, .val (.int (zn + (zn &&& (-zn))))] [])
  exact k T3 h3 _ X3 e3 (Frs N0 gd) (K0.wr W3 (Or.inl (List.mem_of_getElem? (i := 2) rfl))) (F.sums W3) (A3.conv fun j hj => by unfold own_add; split <;> rfl)
set_option maxRecDepth 65536 in
set_option maxHeartbeats 4000000 in
theorem set_exit (b ca da : Addr) (zp cnt : Int32) (ch : Int64) (x : Nat → Int32) (t : Int64) (zn : Int32) (h7 : 7 ≤ zn.toInt) (F : Rs Z h0 b ca da x t) (g : Nat → Value) (A : Af Z h0 da .long 7 g) (C : Cx p s m meth c Z a0 prog_25_method_3_code 6 "com/example/placewright/placewright/engine/CountTree" "set" none) (X0 : Stand p l e R s m args below meth c T0 locs cells slots) (e0 : T0.heap = h0)
    (k : ∀ T', Stand p l e R s m args below meth c T' locs cells slots → T'.heap = h0 → WP p e below Q T' (mkF m 75 #[.val (.ref b), .val (.int zp), .val (.int cnt), .val (.long ch), .second, .val (.int zn)] [])) : WP p e below Q T0 (mkF m 40 #[.val (.ref b), .val (.int zp), .val (.int cnt), .val (.long ch), .second, .val (.int zn)] []) := by
  obtain ⟨hx, hZ, hw, hby, hml, hown, hnm, hret, hlk⟩ := id C
  have L0 := @Int32.lt_iff_toInt_lt
  show WP p e below _ T0 (mkF m 40 #[.val (.ref b), .val (.int zp), .val (.int cnt), .val (.long ch), .second, .val (.int zn)] [])
  refine wp (fun _ => XS.iload X0.here hx rfl (hb hby dset_40) rfl) ?_
  show WP p e below _ T0 (mkF m 42 #[.val (.ref b), .val (.int zp), .val (.int cnt), .val (.long ch), .second, .val (.int zn)] [(.int zn)])
  refine wp (fun _ => XS.aloadN X0.here hx rfl (hb hby dset_42) rfl rfl) ?_
  show WP p e below _ T0 (mkF m 43 #[.val (.ref b), .val (.int zp), .val (.int cnt), .val (.long ch), .second, .val (.int zn)] [(.ref b), (.int zn)])
  refine wp_getfield C X0 e0 (hw _ (List.mem_of_getElem? (i := 19) rfl)) F.2.2.1 dset_43 ?_
  intro T1 X1 e1
  show WP p e below _ T1 (mkF m 46 #[.val (.ref b), .val (.int zp), .val (.int cnt), .val (.long ch), .second, .val (.int zn)] [(.ref da), (.int zn)])
  refine wp_arraylength C X1 e1 A dset_46 ?_
  show WP p e below _ T1 (mkF m 47 #[.val (.ref b), .val (.int zp), .val (.int cnt), .val (.long ch), .second, .val (.int zn)] [(.int (7 : Int32)), (.int zn)])
  have hc : ¬ (zn < (7 : Int32)) := by rw [L0]; show ¬ zn.toInt < 7; omega
  refine wp (fun _ => XS.icmpYes X1.here hx rfl (pc0 := 47) (pc' := 75) rfl (hb hby dset_47) rfl (XT.ii_ge_t hc) (by decide) (by decide)) ?_
  show WP p e below _ T1 (mkF m 75 #[.val (.ref b), .val (.int zp), .val (.int cnt), .val (.long ch), .second, .val (.int zn)] [])
  exact k T1 X1 e1
end Own2
def QS (Z : State) (b ca da : Addr) (x : Nat → Int32) (h0 : Heap) (n0 : Nat) : Option Value → Heap → List Loc → Prop := fun v h L => v = none ∧ Fr n0 L ∧ Keep h0 h [b, ca, da] ∧ Tr Z h b ca da x
section Own3
variable {p : Program} {l : Launch} {e : Env} {R : Room} {s : State} {m : MethodId} {args : Array Value} {below : List Frame} {meth : Method} {c : Code} {T0 : State} {locs : List Loc} {cells slots : Nat} {Z : State} {a0 : Array Value} {h0 : Heap} {Q : State → Prop}

set_option maxRecDepth 65536 in
set_option maxHeartbeats 4000000 in
theorem set_loop0 (b ca da : Addr) (cnt : Int32) (x : Nat → Int32) (n0 : Nat) (hh : Heap) (K0 : Keep hh h0 [b, ca, da]) (gd : n0 ≤ da) (N0 : Fr n0 locs) (F : Rs Z h0 b ca da (own_up x 0 cnt) (own_pre (own_y x) 6 + (cnt.toInt64 - own_y x 0))) (A : Af Z h0 da .long 7 (fun j => .long (own_sm (own_y x) j))) (C : Cx p s m meth c Z a0 prog_25_method_3_code 6 "com/example/placewright/placewright/engine/CountTree" "set" none) (X0 : Stand p l e ({ frames := 0, cells := 0, slots := 0, locals := 0 } : Room) s m args below meth c T0 locs 0 0) (e0 : T0.heap = h0) :
    WP p e below (Ends s below (QS Z b ca da (own_up x 0 cnt) hh n0) 0 0) T0 (mkF m 40 #[.val (.ref b), .val (.int (0 : Int32)), .val (.int cnt), .val (.long (cnt.toInt64 - own_y x 0)), .second, .val (.int ((0 : Int32) + (1 : Int32)))] []) := by
  obtain ⟨hx, hZ, hw, hby, hml, hown, hnm, hret, hlk⟩ := id C
  refine set_turn b ca da (0 : Int32) cnt (cnt.toInt64 - own_y x 0) _ _ ((0 : Int32) + (1 : Int32)) 1 n0 rfl (by decide) (own_sm (own_y x)) hh K0 gd N0 F A C X0 e0 ?_
  intro T1 h1 L1 X1 e1 N1 K1 F1 A1
  refine set_turn b ca da (0 : Int32) cnt (cnt.toInt64 - own_y x 0) _ _ (((0 : Int32) + (1 : Int32)) + (((0 : Int32) + (1 : Int32)) &&& (-((0 : Int32) + (1 : Int32))))) 2 n0 rfl (by decide) (own_add (own_sm (own_y x)) 1 (cnt.toInt64 - own_y x 0)) hh K1 gd N1 F1 A1 C X1 e1 ?_
  intro T2 h2 L2 X2 e2 N2 K2 F2 A2
  refine set_turn b ca da (0 : Int32) cnt (cnt.toInt64 - own_y x 0) _ _ ((((0 : Int32) + (1 : Int32)) + (((0 : Int32) + (1 : Int32)) &&& (-((0 : Int32) + (1 : Int32))))) + ((((0 : Int32) + (1 : Int32)) + (((0 : Int32) + (1 : Int32)) &&& (-((0 : Int32) + (1 : Int32))))) &&& (-(((0 : Int32) + (1 : Int32)) + (((0 : Int32) + (1 : Int32)) &&& (-((0 : Int32) + (1 : Int32)))))))) 4 n0 rfl (by decide) (own_add (own_add (own_sm (own_y x)) 1 (cnt.toInt64 - own_y x 0)) 2 (cnt.toInt64 - own_y x 0)) hh K2 gd N2 F2 A2 C X2 e2 ?_
  intro T3 h3 L3 X3 e3 N3 K3 F3 A3
  refine set_exit b ca da (0 : Int32) cnt (cnt.toInt64 - own_y x 0) _ _ (((((0 : Int32) + (1 : Int32)) + (((0 : Int32) + (1 : Int32)) &&& (-((0 : Int32) + (1 : Int32))))) + ((((0 : Int32) + (1 : Int32)) + (((0 : Int32) + (1 : Int32)) &&& (-((0 : Int32) + (1 : Int32))))) &&& (-(((0 : Int32) + (1 : Int32)) + (((0 : Int32) + (1 : Int32)) &&& (-((0 : Int32) + (1 : Int32)))))))) + (((((0 : Int32) + (1 : Int32)) + (((0 : Int32) + (1 : Int32)) &&& (-((0 : Int32) + (1 : Int32))))) + ((((0 : Int32) + (1 : Int32)) + (((0 : Int32) + (1 : Int32)) &&& (-((0 : Int32) + (1 : Int32))))) &&& (-(((0 : Int32) + (1 : Int32)) + (((0 : Int32) + (1 : Int32)) &&& (-((0 : Int32) + (1 : Int32)))))))) &&& (-((((0 : Int32) + (1 : Int32)) + (((0 : Int32) + (1 : Int32)) &&& (-((0 : Int32) + (1 : Int32))))) + ((((0 : Int32) + (1 : Int32)) + (((0 : Int32) + (1 : Int32)) &&& (-((0 : Int32) + (1 : Int32))))) &&& (-(((0 : Int32) + (1 : Int32)) + (((0 : Int32) + (1 : Int32)) &&& (-((0 : Int32) + (1 : Int32))))))))))) (by decide) F3 _ A3 C X3 e3 ?_
  intro T9 X9 e9
  have hy := own_y_up x 0 cnt
  refine wp_vreturn C X9 dset_75 ⟨rfl, N3, by rw [e9]; exact K3, ?_⟩ (by decide) (by decide)
  rw [e9]
  rw [own_tot0 (own_y x) _ _ hy] at F3
  exact ⟨F3, A3.conv fun j hj => congrArg Value.long (own_upd0 (own_y x) _ _ hy j hj)⟩
set_option maxRecDepth 65536 in
set_option maxHeartbeats 4000000 in
theorem set_loop1 (b ca da : Addr) (cnt : Int32) (x : Nat → Int32) (n0 : Nat) (hh : Heap) (K0 : Keep hh h0 [b, ca, da]) (gd : n0 ≤ da) (N0 : Fr n0 locs) (F : Rs Z h0 b ca da (own_up x 1 cnt) (own_pre (own_y x) 6 + (cnt.toInt64 - own_y x 1))) (A : Af Z h0 da .long 7 (fun j => .long (own_sm (own_y x) j))) (C : Cx p s m meth c Z a0 prog_25_method_3_code 6 "com/example/placewright/placewright/engine/CountTree" "set" none) (X0 : Stand p l e ({ frames := 0, cells := 0, slots := 0, locals := 0 } : Room) s m args below meth c T0 locs 0 0) (e0 : T0.heap = h0) :
    WP p e below (Ends s below (QS Z b ca da (own_up x 1 cnt) hh n0) 0 0) T0 (mkF m 40 #[.val (.ref b), .val (.int (1 : Int32)), .val (.int cnt), .val (.long (cnt.toInt64 - own_y x 1)), .second, .val (.int ((1 : Int32) + (1 : Int32)))] []) := by
  obtain ⟨hx, hZ, hw, hby, hml, hown, hnm, hret, hlk⟩ := id C
  refine set_turn b ca da (1 : Int32) cnt (cnt.toInt64 - own_y x 1) _ _ ((1 : Int32) + (1 : Int32)) 2 n0 rfl (by decide) (own_sm (own_y x)) hh K0 gd N0 F A C X0 e0 ?_
  intro T1 h1 L1 X1 e1 N1 K1 F1 A1
  refine set_turn b ca da (1 : Int32) cnt (cnt.toInt64 - own_y x 1) _ _ (((1 : Int32) + (1 : Int32)) + (((1 : Int32) + (1 : Int32)) &&& (-((1 : Int32) + (1 : Int32))))) 4 n0 rfl (by decide) (own_add (own_sm (own_y x)) 2 (cnt.toInt64 - own_y x 1)) hh K1 gd N1 F1 A1 C X1 e1 ?_
  intro T2 h2 L2 X2 e2 N2 K2 F2 A2
  refine set_exit b ca da (1 : Int32) cnt (cnt.toInt64 - own_y x 1) _ _ ((((1 : Int32) + (1 : Int32)) + (((1 : Int32) + (1 : Int32)) &&& (-((1 : Int32) + (1 : Int32))))) + ((((1 : Int32) + (1 : Int32)) + (((1 : Int32) + (1 : Int32)) &&& (-((1 : Int32) + (1 : Int32))))) &&& (-(((1 : Int32) + (1 : Int32)) + (((1 : Int32) + (1 : Int32)) &&& (-((1 : Int32) + (1 : Int32)))))))) (by decide) F2 _ A2 C X2 e2 ?_
  intro T9 X9 e9
  have hy := own_y_up x 1 cnt
  refine wp_vreturn C X9 dset_75 ⟨rfl, N2, by rw [e9]; exact K2, ?_⟩ (by decide) (by decide)
  rw [e9]
  rw [own_tot1 (own_y x) _ _ hy] at F2
  exact ⟨F2, A2.conv fun j hj => congrArg Value.long (own_upd1 (own_y x) _ _ hy j hj)⟩
set_option maxRecDepth 65536 in
set_option maxHeartbeats 4000000 in
theorem set_loop2 (b ca da : Addr) (cnt : Int32) (x : Nat → Int32) (n0 : Nat) (hh : Heap) (K0 : Keep hh h0 [b, ca, da]) (gd : n0 ≤ da) (N0 : Fr n0 locs) (F : Rs Z h0 b ca da (own_up x 2 cnt) (own_pre (own_y x) 6 + (cnt.toInt64 - own_y x 2))) (A : Af Z h0 da .long 7 (fun j => .long (own_sm (own_y x) j))) (C : Cx p s m meth c Z a0 prog_25_method_3_code 6 "com/example/placewright/placewright/engine/CountTree" "set" none) (X0 : Stand p l e ({ frames := 0, cells := 0, slots := 0, locals := 0 } : Room) s m args below meth c T0 locs 0 0) (e0 : T0.heap = h0) :
    WP p e below (Ends s below (QS Z b ca da (own_up x 2 cnt) hh n0) 0 0) T0 (mkF m 40 #[.val (.ref b), .val (.int (2 : Int32)), .val (.int cnt), .val (.long (cnt.toInt64 - own_y x 2)), .second, .val (.int ((2 : Int32) + (1 : Int32)))] []) := by
  obtain ⟨hx, hZ, hw, hby, hml, hown, hnm, hret, hlk⟩ := id C
  refine set_turn b ca da (2 : Int32) cnt (cnt.toInt64 - own_y x 2) _ _ ((2 : Int32) + (1 : Int32)) 3 n0 rfl (by decide) (own_sm (own_y x)) hh K0 gd N0 F A C X0 e0 ?_
  intro T1 h1 L1 X1 e1 N1 K1 F1 A1
  refine set_turn b ca da (2 : Int32) cnt (cnt.toInt64 - own_y x 2) _ _ (((2 : Int32) + (1 : Int32)) + (((2 : Int32) + (1 : Int32)) &&& (-((2 : Int32) + (1 : Int32))))) 4 n0 rfl (by decide) (own_add (own_sm (own_y x)) 3 (cnt.toInt64 - own_y x 2)) hh K1 gd N1 F1 A1 C X1 e1 ?_
  intro T2 h2 L2 X2 e2 N2 K2 F2 A2
  refine set_exit b ca da (2 : Int32) cnt (cnt.toInt64 - own_y x 2) _ _ ((((2 : Int32) + (1 : Int32)) + (((2 : Int32) + (1 : Int32)) &&& (-((2 : Int32) + (1 : Int32))))) + ((((2 : Int32) + (1 : Int32)) + (((2 : Int32) + (1 : Int32)) &&& (-((2 : Int32) + (1 : Int32))))) &&& (-(((2 : Int32) + (1 : Int32)) + (((2 : Int32) + (1 : Int32)) &&& (-((2 : Int32) + (1 : Int32)))))))) (by decide) F2 _ A2 C X2 e2 ?_
  intro T9 X9 e9
  have hy := own_y_up x 2 cnt
  refine wp_vreturn C X9 dset_75 ⟨rfl, N2, by rw [e9]; exact K2, ?_⟩ (by decide) (by decide)
  rw [e9]
  rw [own_tot2 (own_y x) _ _ hy] at F2
  exact ⟨F2, A2.conv fun j hj => congrArg Value.long (own_upd2 (own_y x) _ _ hy j hj)⟩
set_option maxRecDepth 65536 in
set_option maxHeartbeats 4000000 in
theorem set_loop3 (b ca da : Addr) (cnt : Int32) (x : Nat → Int32) (n0 : Nat) (hh : Heap) (K0 : Keep hh h0 [b, ca, da]) (gd : n0 ≤ da) (N0 : Fr n0 locs) (F : Rs Z h0 b ca da (own_up x 3 cnt) (own_pre (own_y x) 6 + (cnt.toInt64 - own_y x 3))) (A : Af Z h0 da .long 7 (fun j => .long (own_sm (own_y x) j))) (C : Cx p s m meth c Z a0 prog_25_method_3_code 6 "com/example/placewright/placewright/engine/CountTree" "set" none) (X0 : Stand p l e ({ frames := 0, cells := 0, slots := 0, locals := 0 } : Room) s m args below meth c T0 locs 0 0) (e0 : T0.heap = h0) :
    WP p e below (Ends s below (QS Z b ca da (own_up x 3 cnt) hh n0) 0 0) T0 (mkF m 40 #[.val (.ref b), .val (.int (3 : Int32)), .val (.int cnt), .val (.long (cnt.toInt64 - own_y x 3)), .second, .val (.int ((3 : Int32) + (1 : Int32)))] []) := by
  obtain ⟨hx, hZ, hw, hby, hml, hown, hnm, hret, hlk⟩ := id C
  refine set_turn b ca da (3 : Int32) cnt (cnt.toInt64 - own_y x 3) _ _ ((3 : Int32) + (1 : Int32)) 4 n0 rfl (by decide) (own_sm (own_y x)) hh K0 gd N0 F A C X0 e0 ?_
  intro T1 h1 L1 X1 e1 N1 K1 F1 A1
  refine set_exit b ca da (3 : Int32) cnt (cnt.toInt64 - own_y x 3) _ _ (((3 : Int32) + (1 : Int32)) + (((3 : Int32) + (1 : Int32)) &&& (-((3 : Int32) + (1 : Int32))))) (by decide) F1 _ A1 C X1 e1 ?_
  intro T9 X9 e9
  have hy := own_y_up x 3 cnt
  refine wp_vreturn C X9 dset_75 ⟨rfl, N1, by rw [e9]; exact K1, ?_⟩ (by decide) (by decide)
  rw [e9]
  rw [own_tot3 (own_y x) _ _ hy] at F1
  exact ⟨F1, A1.conv fun j hj => congrArg Value.long (own_upd3 (own_y x) _ _ hy j hj)⟩
set_option maxRecDepth 65536 in
set_option maxHeartbeats 4000000 in
theorem set_loop4 (b ca da : Addr) (cnt : Int32) (x : Nat → Int32) (n0 : Nat) (hh : Heap) (K0 : Keep hh h0 [b, ca, da]) (gd : n0 ≤ da) (N0 : Fr n0 locs) (F : Rs Z h0 b ca da (own_up x 4 cnt) (own_pre (own_y x) 6 + (cnt.toInt64 - own_y x 4))) (A : Af Z h0 da .long 7 (fun j => .long (own_sm (own_y x) j))) (C : Cx p s m meth c Z a0 prog_25_method_3_code 6 "com/example/placewright/placewright/engine/CountTree" "set" none) (X0 : Stand p l e ({ frames := 0, cells := 0, slots := 0, locals := 0 } : Room) s m args below meth c T0 locs 0 0) (e0 : T0.heap = h0) :
    WP p e below (Ends s below (QS Z b ca da (own_up x 4 cnt) hh n0) 0 0) T0 (mkF m 40 #[.val (.ref b), .val (.int (4 : Int32)), .val (.int cnt), .val (.long (cnt.toInt64 - own_y x 4)), .second, .val (.int ((4 : Int32) + (1 : Int32)))] []) := by
  obtain ⟨hx, hZ, hw, hby, hml, hown, hnm, hret, hlk⟩ := id C
  refine set_turn b ca da (4 : Int32) cnt (cnt.toInt64 - own_y x 4) _ _ ((4 : Int32) + (1 : Int32)) 5 n0 rfl (by decide) (own_sm (own_y x)) hh K0 gd N0 F A C X0 e0 ?_
  intro T1 h1 L1 X1 e1 N1 K1 F1 A1
  refine set_turn b ca da (4 : Int32) cnt (cnt.toInt64 - own_y x 4) _ _ (((4 : Int32) + (1 : Int32)) + (((4 : Int32) + (1 : Int32)) &&& (-((4 : Int32) + (1 : Int32))))) 6 n0 rfl (by decide) (own_add (own_sm (own_y x)) 5 (cnt.toInt64 - own_y x 4)) hh K1 gd N1 F1 A1 C X1 e1 ?_
  intro T2 h2 L2 X2 e2 N2 K2 F2 A2
  refine set_exit b ca da (4 : Int32) cnt (cnt.toInt64 - own_y x 4) _ _ ((((4 : Int32) + (1 : Int32)) + (((4 : Int32) + (1 : Int32)) &&& (-((4 : Int32) + (1 : Int32))))) + ((((4 : Int32) + (1 : Int32)) + (((4 : Int32) + (1 : Int32)) &&& (-((4 : Int32) + (1 : Int32))))) &&& (-(((4 : Int32) + (1 : Int32)) + (((4 : Int32) + (1 : Int32)) &&& (-((4 : Int32) + (1 : Int32)))))))) (by decide) F2 _ A2 C X2 e2 ?_
  intro T9 X9 e9
  have hy := own_y_up x 4 cnt
  refine wp_vreturn C X9 dset_75 ⟨rfl, N2, by rw [e9]; exact K2, ?_⟩ (by decide) (by decide)
  rw [e9]
  rw [own_tot4 (own_y x) _ _ hy] at F2
  exact ⟨F2, A2.conv fun j hj => congrArg Value.long (own_upd4 (own_y x) _ _ hy j hj)⟩
set_option maxRecDepth 65536 in
set_option maxHeartbeats 4000000 in
theorem set_loop5 (b ca da : Addr) (cnt : Int32) (x : Nat → Int32) (n0 : Nat) (hh : Heap) (K0 : Keep hh h0 [b, ca, da]) (gd : n0 ≤ da) (N0 : Fr n0 locs) (F : Rs Z h0 b ca da (own_up x 5 cnt) (own_pre (own_y x) 6 + (cnt.toInt64 - own_y x 5))) (A : Af Z h0 da .long 7 (fun j => .long (own_sm (own_y x) j))) (C : Cx p s m meth c Z a0 prog_25_method_3_code 6 "com/example/placewright/placewright/engine/CountTree" "set" none) (X0 : Stand p l e ({ frames := 0, cells := 0, slots := 0, locals := 0 } : Room) s m args below meth c T0 locs 0 0) (e0 : T0.heap = h0) :
    WP p e below (Ends s below (QS Z b ca da (own_up x 5 cnt) hh n0) 0 0) T0 (mkF m 40 #[.val (.ref b), .val (.int (5 : Int32)), .val (.int cnt), .val (.long (cnt.toInt64 - own_y x 5)), .second, .val (.int ((5 : Int32) + (1 : Int32)))] []) := by
  obtain ⟨hx, hZ, hw, hby, hml, hown, hnm, hret, hlk⟩ := id C
  refine set_turn b ca da (5 : Int32) cnt (cnt.toInt64 - own_y x 5) _ _ ((5 : Int32) + (1 : Int32)) 6 n0 rfl (by decide) (own_sm (own_y x)) hh K0 gd N0 F A C X0 e0 ?_
  intro T1 h1 L1 X1 e1 N1 K1 F1 A1
  refine set_exit b ca da (5 : Int32) cnt (cnt.toInt64 - own_y x 5) _ _ (((5 : Int32) + (1 : Int32)) + (((5 : Int32) + (1 : Int32)) &&& (-((5 : Int32) + (1 : Int32))))) (by decide) F1 _ A1 C X1 e1 ?_
  intro T9 X9 e9
  have hy := own_y_up x 5 cnt
  refine wp_vreturn C X9 dset_75 ⟨rfl, N1, by rw [e9]; exact K1, ?_⟩ (by decide) (by decide)
  rw [e9]
  rw [own_tot5 (own_y x) _ _ hy] at F1
  exact ⟨F1, A1.conv fun j hj => congrArg Value.long (own_upd5 (own_y x) _ _ hy j hj)⟩
end Own3
set_option maxRecDepth 65536 in
set_option maxHeartbeats 4000000 in
theorem rm_set (l : Launch) (Z : State) (a0 : Array Value) (hw : ∀ d ∈ tables_1, d.before a0 Z = true) (ws : List Jvm.Cond) (b ca da : Addr) (zp cnt : Int32) (pos n0 : Nat) (x : Nat → Int32) (h0 : Heap) (hp : zp.toInt = (pos : Int)) (h6 : pos < 6) (gb : n0 ≤ b) (gc : n0 ≤ ca) (gd : n0 ≤ da) (Tt : Tr Z h0 b ca da x) :
    MetQ l Z (⟨"com/example/placewright/placewright/engine/CountTree", "set", "(II)V"⟩ : MethodName) prog_25_method_3_code 6 none ws ({ frames := 0, cells := 0, slots := 0, locals := 0 } : Room) #[(.ref b), (.int zp), (.int cnt)] h0 (QS Z b ca da (own_up x pos cnt) h0 n0) := by
  refine metQ (a0 := a0) (plainFor_of_name pn_set) hw (ef_set b zp cnt) ?_
  intro p e s m below meth c T0 C X0 e0
  obtain ⟨hx, hZ, hw, hby, hml, hown, hnm, hret, hlk⟩ := id C
  show WP p e below _ T0 (mkF m 0 #[.val (.ref b), .val (.int zp), .val (.int cnt), .unset, .unset, .unset] [])
  obtain ⟨⟨Eb, F1, F2, F3, Ac, n1, n2, n3⟩, Ad⟩ := id Tt
  refine wp (fun _ => XS.iloadN X0.here hx rfl (hb hby dset_0) rfl) ?_
  show WP p e below _ T0 (mkF m 1 #[.val (.ref b), .val (.int zp), .val (.int cnt), .unset, .unset, .unset] [(.int cnt)])
  refine wp (fun _ => XS.i2l X0.here hx rfl (hb hby dset_1) rfl) ?_
  show WP p e below _ T0 (mkF m 2 #[.val (.ref b), .val (.int zp), .val (.int cnt), .unset, .unset, .unset] [(.long cnt.toInt64)])
  refine wp (fun _ => XS.aloadN X0.here hx rfl (hb hby dset_2) rfl rfl) ?_
  show WP p e below _ T0 (mkF m 3 #[.val (.ref b), .val (.int zp), .val (.int cnt), .unset, .unset, .unset] [(.ref b), (.long cnt.toInt64)])
  refine wp_getfield C X0 e0 (hw _ (List.mem_of_getElem? (i := 17) rfl)) F1 dset_3 ?_
  intro T1 X1 e1
  show WP p e below _ T1 (mkF m 6 #[.val (.ref b), .val (.int zp), .val (.int cnt), .unset, .unset, .unset] [(.ref ca), (.long cnt.toInt64)])
  refine wp (fun _ => XS.iloadN X1.here hx rfl (hb hby dset_6) rfl) ?_
  show WP p e below _ T1 (mkF m 7 #[.val (.ref b), .val (.int zp), .val (.int cnt), .unset, .unset, .unset] [(.int zp), (.ref ca), (.long cnt.toInt64)])
  refine wp_iaload C X1 e1 Ac hp h6 rfl dset_7 ?_
  show WP p e below _ T1 (mkF m 8 #[.val (.ref b), .val (.int zp), .val (.int cnt), .unset, .unset, .unset] [(.int (x pos)), (.long cnt.toInt64)])
  refine wp (fun _ => XS.i2l X1.here hx rfl (hb hby dset_8) rfl) ?_
  show WP p e below _ T1 (mkF m 9 #[.val (.ref b), .val (.int zp), .val (.int cnt), .unset, .unset, .unset] [(.long (x pos).toInt64), (.long cnt.toInt64)])
  refine wp (fun _ => XS.lsub X1.here hx rfl (hb hby dset_9) rfl) ?_
  show WP p e below _ T1 (mkF m 10 #[.val (.ref b), .val (.int zp), .val (.int cnt), .unset, .unset, .unset] [(.long (cnt.toInt64 - (x pos).toInt64))])
  show WP p e below _ T1 (mkF m 10 #[.val (.ref b), .val (.int zp), .val (.int cnt), .unset, .unset, .unset] [(.long (cnt.toInt64 - own_y x pos))])
  refine wp (fun _ => XS.lstoreN X1.here hx rfl (hb hby dset_10) rfl (l' := #[.val (.ref b), .val (.int zp), .val (.int cnt), .val (.long (cnt.toInt64 - own_y x pos)), .second, .unset]) rfl) ?_
  show WP p e below _ T1 (mkF m 11 #[.val (.ref b), .val (.int zp), .val (.int cnt), .val (.long (cnt.toInt64 - own_y x pos)), .second, .unset] [])
  refine wp (fun _ => XS.lloadN X1.here hx rfl (hb hby dset_11) rfl) ?_
  show WP p e below _ T1 (mkF m 12 #[.val (.ref b), .val (.int zp), .val (.int cnt), .val (.long (cnt.toInt64 - own_y x pos)), .second, .unset] [(.long (cnt.toInt64 - own_y x pos))])
  refine wp (fun _ => XS.lconst X1.here hx rfl (hb hby dset_12)) ?_
  show WP p e below _ T1 (mkF m 13 #[.val (.ref b), .val (.int zp), .val (.int cnt), .val (.long (cnt.toInt64 - own_y x pos)), .second, .unset] [(.long (0 : Int64)), (.long (cnt.toInt64 - own_y x pos))])
  refine wp (fun _ => XT.lcmp X1.here hx rfl (hb hby dset_13) rfl) ?_
  show WP p e below _ T1 (mkF m 14 #[.val (.ref b), .val (.int zp), .val (.int cnt), .val (.long (cnt.toInt64 - own_y x pos)), .second, .unset] [(.int (XT.cmpL (cnt.toInt64 - own_y x pos) (0 : Int64)))])
  by_cases hc : (cnt.toInt64 - own_y x pos) = (0 : Int64)
  ·
    refine wp (fun _ => XS.ifNo X1.here hx rfl (hb hby dset_14) rfl (XT.ll_ne_f hc)) ?_
    show WP p e below _ T1 (mkF m 17 #[.val (.ref b), .val (.int zp), .val (.int cnt), .val (.long (cnt.toInt64 - own_y x pos)), .second, .unset] [])
    have hcx : cnt.toInt64 = (x pos).toInt64 := by
      have q : cnt.toInt64 - (x pos).toInt64 = 0 := hc
      rw [← Int64.sub_add_cancel cnt.toInt64 (x pos).toInt64, q, Int64.zero_add]
    have hcx' : cnt = x pos := by
      rw [← Int32.toInt_inj, ← Int32.toInt_toInt64, ← Int32.toInt_toInt64 (x pos), hcx]
    have hx' : own_up x pos cnt = x := by
      funext j
      unfold own_up
      split
      · rename_i q; rw [q]; exact hcx'
      · rfl
    exact wp_vreturn C X1 dset_17 ⟨rfl, Fr.nil n0, by rw [e1]; exact Keep.refl h0 _, by rw [e1, hx']; exact Tt⟩ (by decide) (by decide)
  ·
    refine wp (fun _ => XS.ifYes X1.here hx rfl (pc0 := 14) (pc' := 18) rfl (hb hby dset_14) rfl (XT.ll_ne_t hc) (by decide) (by decide)) ?_
    show WP p e below _ T1 (mkF m 18 #[.val (.ref b), .val (.int zp), .val (.int cnt), .val (.long (cnt.toInt64 - own_y x pos)), .second, .unset] [])
    refine wp (fun _ => XS.aloadN X1.here hx rfl (hb hby dset_18) rfl rfl) ?_
    show WP p e below _ T1 (mkF m 19 #[.val (.ref b), .val (.int zp), .val (.int cnt), .val (.long (cnt.toInt64 - own_y x pos)), .second, .unset] [(.ref b)])
    refine wp_getfield C X1 e1 (hw _ (List.mem_of_getElem? (i := 17) rfl)) F1 dset_19 ?_
    intro T2 X2 e2
    show WP p e below _ T2 (mkF m 22 #[.val (.ref b), .val (.int zp), .val (.int cnt), .val (.long (cnt.toInt64 - own_y x pos)), .second, .unset] [(.ref ca)])
    refine wp (fun _ => XS.iloadN X2.here hx rfl (hb hby dset_22) rfl) ?_
    show WP p e below _ T2 (mkF m 23 #[.val (.ref b), .val (.int zp), .val (.int cnt), .val (.long (cnt.toInt64 - own_y x pos)), .second, .unset] [(.int zp), (.ref ca)])
    refine wp (fun _ => XS.iloadN X2.here hx rfl (hb hby dset_23) rfl) ?_
    show WP p e below _ T2 (mkF m 24 #[.val (.ref b), .val (.int zp), .val (.int cnt), .val (.long (cnt.toInt64 - own_y x pos)), .second, .unset] [(.int cnt), (.int zp), (.ref ca)])
    refine wp_iastore C X2 e2 Ac hp h6 dset_24 ?_
    intro T3 h3 X3 e3 W3 A3
    show WP p e below _ T3 (mkF m 25 #[.val (.ref b), .val (.int zp), .val (.int cnt), .val (.long (cnt.toInt64 - own_y x pos)), .second, .unset] [])
    refine wp (fun _ => XS.aloadN X3.here hx rfl (hb hby dset_25) rfl rfl) ?_
    show WP p e below _ T3 (mkF m 26 #[.val (.ref b), .val (.int zp), .val (.int cnt), .val (.long (cnt.toInt64 - own_y x pos)), .second, .unset] [(.ref b)])
    refine wp (fun _ => XS.dup X3.here hx rfl (hb hby dset_26) rfl rfl) ?_
    show WP p e below _ T3 (mkF m 27 #[.val (.ref b), .val (.int zp), .val (.int cnt), .val (.long (cnt.toInt64 - own_y x pos)), .second, .unset] [(.ref b), (.ref b)])
    have Eb3 := Eb.wr W3
    have F13 := F1.other W3 (Or.inl n1)
    have F23 := F2.other W3 (Or.inl n1)
    have F33 := F3.other W3 (Or.inl n1)
    have Ad3 := Ad.other W3 n3.symm
    have N3 := Frs (sl := zp.toNatClampNeg) (Fr.nil n0) gc
    have K3 : Keep h0 h3 [b, ca, da] := (Keep.refl h0 _).wr W3 (Or.inl (List.mem_of_getElem? (i := 1) rfl))
    refine wp_getfield C X3 e3 (hw _ (List.mem_of_getElem? (i := 37) rfl)) F33 dset_27 ?_
    intro T4 X4 e4
    show WP p e below _ T4 (mkF m 30 #[.val (.ref b), .val (.int zp), .val (.int cnt), .val (.long (cnt.toInt64 - own_y x pos)), .second, .unset] [(.long (own_pre (own_y x) 6)), (.ref b)])
    refine wp (fun _ => XS.lloadN X4.here hx rfl (hb hby dset_30) rfl) ?_
    show WP p e below _ T4 (mkF m 31 #[.val (.ref b), .val (.int zp), .val (.int cnt), .val (.long (cnt.toInt64 - own_y x pos)), .second, .unset] [(.long (cnt.toInt64 - own_y x pos)), (.long (own_pre (own_y x) 6)), (.ref b)])
    refine wp (fun _ => XS.ladd X4.here hx rfl (hb hby dset_31) rfl) ?_
    show WP p e below _ T4 (mkF m 32 #[.val (.ref b), .val (.int zp), .val (.int cnt), .val (.long (cnt.toInt64 - own_y x pos)), .second, .unset] [(.long ((own_pre (own_y x) 6) + (cnt.toInt64 - own_y x pos))), (.ref b)])
    refine wp_putfield C X4 e4 (hw _ (List.mem_of_getElem? (i := 37) rfl)) F33 Eb3 (Or.inl (hw _ (List.mem_of_getElem? (i := 38) rfl))) (hw _ (List.mem_of_getElem? (i := 8) rfl)) (ty := .long) (by decide) rfl rfl dset_32 ?_
    intro T5 h5 X5 e5 W5
    show WP p e below _ T5 (mkF m 35 #[.val (.ref b), .val (.int zp), .val (.int cnt), .val (.long (cnt.toInt64 - own_y x pos)), .second, .unset] [])
    have K5 : Keep h0 h5 [b, ca, da] := K3.wr W5 (Or.inl (List.mem_of_getElem? (i := 0) rfl))
    have N5 := Frs (sl := Jvm.RoadKit.slotOf Z "com/example/placewright/placewright/engine/CountTree" "total" "J") N3 gb
    have R5 : Rs Z h5 b ca da (own_up x pos cnt) (own_pre (own_y x) 6 + (cnt.toInt64 - own_y x pos)) := ⟨Eb3.wr W5, F13.other W5 (Or.inr (slot_ne (Or.inr (hw _ (List.mem_of_getElem? (i := 18) rfl))) (Or.inl (hw _ (List.mem_of_getElem? (i := 38) rfl))) (by decide) (t := (.array .int)) (t' := .long) (by decide) (by decide))), F23.other W5 (Or.inr (slot_ne (Or.inr (hw _ (List.mem_of_getElem? (i := 20) rfl))) (Or.inl (hw _ (List.mem_of_getElem? (i := 38) rfl))) (by decide) (t := (.array .long)) (t' := .long) (by decide) (by decide))), F33.same W5, (A3.other W5 n1.symm).conv fun j hj => by unfold own_up; split <;> rfl, n1, n2, n3⟩
    have Ad5 := Ad3.other W5 n2.symm
    refine wp (fun _ => XS.iloadN X5.here hx rfl (hb hby dset_35) rfl) ?_
    show WP p e below _ T5 (mkF m 36 #[.val (.ref b), .val (.int zp), .val (.int cnt), .val (.long (cnt.toInt64 - own_y x pos)), .second, .unset] [(.int zp)])
    refine wp (fun _ => XS.iconst X5.here hx rfl (hb hby dset_36)) ?_
    show WP p e below _ T5 (mkF m 37 #[.val (.ref b), .val (.int zp), .val (.int cnt), .val (.long (cnt.toInt64 - own_y x pos)), .second, .unset] [(.int (1 : Int32)), (.int zp)])
    refine wp (fun _ => XS.iadd X5.here hx rfl (hb hby dset_37) rfl) ?_
    show WP p e below _ T5 (mkF m 38 #[.val (.ref b), .val (.int zp), .val (.int cnt), .val (.long (cnt.toInt64 - own_y x pos)), .second, .unset] [(.int (zp + (1 : Int32)))])
    refine wp (fun _ => XS.istore X5.here hx rfl (hb hby dset_38) rfl (l' := #[.val (.ref b), .val (.int zp), .val (.int cnt), .val (.long (cnt.toInt64 - own_y x pos)), .second, .val (.int (zp + (1 : Int32)))]) rfl) ?_
    show WP p e below _ T5 (mkF m 40 #[.val (.ref b), .val (.int zp), .val (.int cnt), .val (.long (cnt.toInt64 - own_y x pos)), .second, .val (.int (zp + (1 : Int32)))] [])
    have hz := own_z hp (by omega)
    subst hz
    rcases own_six h6 with rfl | rfl | rfl | rfl | rfl | rfl
    · exact set_loop0 b ca da cnt x n0 h0 K5 gd N5 R5 Ad5 C X5 e5
    · exact set_loop1 b ca da cnt x n0 h0 K5 gd N5 R5 Ad5 C X5 e5
    · exact set_loop2 b ca da cnt x n0 h0 K5 gd N5 R5 Ad5 C X5 e5
    · exact set_loop3 b ca da cnt x n0 h0 K5 gd N5 R5 Ad5 C X5 e5
    · exact set_loop4 b ca da cnt x n0 h0 K5 gd N5 R5 Ad5 C X5 e5
    · exact set_loop5 b ca da cnt x n0 h0 K5 gd N5 R5 Ad5 C X5 e5
set_option maxRecDepth 65536 in
set_option maxHeartbeats 4000000 in
theorem rm_get (l : Launch) (Z : State) (a0 : Array Value) (hw : ∀ d ∈ tables_1, d.before a0 Z = true) (ws : List Jvm.Cond) (b ca da : Addr) (zp : Int32) (pos : Nat) (x : Nat → Int32) (h0 : Heap) (hp : zp.toInt = (pos : Int)) (h6 : pos < 6) (Tt : Tr Z h0 b ca da x) :
    MetQ l Z (⟨"com/example/placewright/placewright/engine/CountTree", "get", "(I)I"⟩ : MethodName) prog_25_method_2_code 2 (some .int) ws ({ frames := 0, cells := 0, slots := 0, locals := 0 } : Room) #[(.ref b), (.int zp)] h0 (PureQ (some (.int (x pos))) h0) := by
  refine metQ (a0 := a0) (plainFor_of_name pn_get) hw (ef_get b zp) ?_
  intro p e s m below meth c T0 C X0 e0
  obtain ⟨hx, hZ, hw, hby, hml, hown, hnm, hret, hlk⟩ := id C
  show WP p e below _ T0 (mkF m 0 #[.val (.ref b), .val (.int zp)] [])
  obtain ⟨⟨Eb, F1, F2, F3, Ac, n1, n2, n3⟩, Ad⟩ := id Tt
  refine wp (fun _ => XS.aloadN X0.here hx rfl (hb hby dget_0) rfl rfl) ?_
  show WP p e below _ T0 (mkF m 1 #[.val (.ref b), .val (.int zp)] [(.ref b)])
  refine wp_getfield C X0 e0 (hw _ (List.mem_of_getElem? (i := 17) rfl)) F1 dget_1 ?_
  intro T1 X1 e1
  show WP p e below _ T1 (mkF m 4 #[.val (.ref b), .val (.int zp)] [(.ref ca)])
  refine wp (fun _ => XS.iloadN X1.here hx rfl (hb hby dget_4) rfl) ?_
  show WP p e below _ T1 (mkF m 5 #[.val (.ref b), .val (.int zp)] [(.int zp), (.ref ca)])
  refine wp_iaload C X1 e1 Ac hp h6 rfl dget_5 ?_
  show WP p e below _ T1 (mkF m 6 #[.val (.ref b), .val (.int zp)] [(.int (x pos))])
  exact wp_ireturn C X1 dget_6 ⟨rfl, e1, rfl⟩ (by decide) (by decide)
set_option maxRecDepth 65536 in
set_option maxHeartbeats 4000000 in
theorem rm_tot (l : Launch) (Z : State) (a0 : Array Value) (hw : ∀ d ∈ tables_1, d.before a0 Z = true) (ws : List Jvm.Cond) (b ca da : Addr) (x : Nat → Int32) (h0 : Heap) (Tt : Tr Z h0 b ca da x) :
    MetQ l Z (⟨"com/example/placewright/placewright/engine/CountTree", "total", "()J"⟩ : MethodName) prog_25_method_4_code 1 (some .long) ws ({ frames := 0, cells := 0, slots := 0, locals := 0 } : Room) #[(.ref b)] h0 (PureQ (some (.long (own_pre (own_y x) 6))) h0) := by
  refine metQ (a0 := a0) (plainFor_of_name pn_tot) hw (ef_tot b) ?_
  intro p e s m below meth c T0 C X0 e0
  obtain ⟨hx, hZ, hw, hby, hml, hown, hnm, hret, hlk⟩ := id C
  show WP p e below _ T0 (mkF m 0 #[.val (.ref b)] [])
  obtain ⟨⟨Eb, F1, F2, F3, Ac, n1, n2, n3⟩, Ad⟩ := id Tt
  refine wp (fun _ => XS.aloadN X0.here hx rfl (hb hby dtot_0) rfl rfl) ?_
  show WP p e below _ T0 (mkF m 1 #[.val (.ref b)] [(.ref b)])
  refine wp_getfield C X0 e0 (hw _ (List.mem_of_getElem? (i := 37) rfl)) F3 dtot_1 ?_
  intro T1 X1 e1
  show WP p e below _ T1 (mkF m 4 #[.val (.ref b)] [(.long (own_pre (own_y x) 6))])
  exact wp_lreturn C X1 dtot_4 ⟨rfl, e1, rfl⟩ (by decide) (by decide)
section Own4
variable {p : Program} {l : Launch} {e : Env} {R : Room} {s : State} {m : MethodId} {args : Array Value} {below : List Frame} {meth : Method} {c : Code} {T0 : State} {locs : List Loc} {cells slots : Nat} {Z : State} {a0 : Array Value} {h0 : Heap} {Q : State → Prop}

set_option maxRecDepth 65536 in
set_option maxHeartbeats 4000000 in
theorem bef_turn (b ca da : Addr) (zp : Int32) (sv : Int64) (x : Nat → Int32) (zn : Int32) (nd : Nat) (hz : zn.toInt = (nd : Int)) (h1 : 1 ≤ nd) (h7 : nd < 7) (Tt : Tr Z h0 b ca da x) (C : Cx p s m meth c Z a0 prog_25_method_5_code 5 "com/example/placewright/placewright/engine/CountTree" "before" (some .long)) (X0 : Stand p l e R s m args below meth c T0 locs cells slots) (e0 : T0.heap = h0)
    (k : ∀ T', Stand p l e R s m args below meth c T' locs cells slots → T'.heap = h0 → WP p e below Q T' (mkF m 5 #[.val (.ref b), .val (.int zp), .val (.long (sv + own_sm (own_y x) nd)), .second, .val (.int (zn - (zn &&& (-zn))))] [])) : WP p e below Q T0 (mkF m 5 #[.val (.ref b), .val (.int zp), .val (.long sv), .second, .val (.int zn)] []) := by
  obtain ⟨hx, hZ, hw, hby, hml, hown, hnm, hret, hlk⟩ := id C
  have L0 := @Int32.lt_iff_toInt_lt
  obtain ⟨⟨Eb, F1, F2, F3, Ac, n1, n2, n3⟩, Ad⟩ := id Tt
  show WP p e below _ T0 (mkF m 5 #[.val (.ref b), .val (.int zp), .val (.long sv), .second, .val (.int zn)] [])
  refine wp (fun _ => XS.iload X0.here hx rfl (hb hby dbef_5) rfl) ?_
  show WP p e below _ T0 (mkF m 7 #[.val (.ref b), .val (.int zp), .val (.long sv), .second, .val (.int zn)] [(.int zn)])
  have hc : (0 : Int32) < zn := by rw [L0, hz]; show (0 : Int) < nd; omega
  refine wp (fun _ => XS.ifNo X0.here hx rfl (hb hby dbef_7) rfl (XT.i0_le_f hc)) ?_
  show WP p e below _ T0 (mkF m 10 #[.val (.ref b), .val (.int zp), .val (.long sv), .second, .val (.int zn)] [])
  refine wp (fun _ => XS.lloadN X0.here hx rfl (hb hby dbef_10) rfl) ?_
  show WP p e below _ T0 (mkF m 11 #[.val (.ref b), .val (.int zp), .val (.long sv), .second, .val (.int zn)] [(.long sv)])
  refine wp (fun _ => XS.aloadN X0.here hx rfl (hb hby dbef_11) rfl rfl) ?_
  show WP p e below _ T0 (mkF m 12 #[.val (.ref b), .val (.int zp), .val (.long sv), .second, .val (.int zn)] [(.ref b), (.long sv)])
  refine wp_getfield C X0 e0 (hw _ (List.mem_of_getElem? (i := 19) rfl)) F2 dbef_12 ?_
  intro T1 X1 e1
  show WP p e below _ T1 (mkF m 15 #[.val (.ref b), .val (.int zp), .val (.long sv), .second, .val (.int zn)] [(.ref da), (.long sv)])
  refine wp (fun _ => XS.iload X1.here hx rfl (hb hby dbef_15) rfl) ?_
  show WP p e below _ T1 (mkF m 17 #[.val (.ref b), .val (.int zp), .val (.long sv), .second, .val (.int zn)] [(.int zn), (.ref da), (.long sv)])
  refine wp_laload C X1 e1 Ad hz h7 rfl dbef_17 ?_
  show WP p e below _ T1 (mkF m 18 #[.val (.ref b), .val (.int zp), .val (.long sv), .second, .val (.int zn)] [(.long (own_sm (own_y x) nd)), (.long sv)])
  refine wp (fun _ => XS.ladd X1.here hx rfl (hb hby dbef_18) rfl) ?_
  show WP p e below _ T1 (mkF m 19 #[.val (.ref b), .val (.int zp), .val (.long sv), .second, .val (.int zn)] [(.long (sv + (own_sm (own_y x) nd)))])
  refine wp (fun _ => XS.lstoreN X1.here hx rfl (hb hby dbef_19) rfl (l' := #[.val (.ref b), .val (.int zp), .val (.long (sv + (own_sm (own_y x) nd))), .second, .val (.int zn)]) rfl) ?_
  show WP p e below _ T1 (mkF m 20 #[.val (.ref b), .val (.int zp), .val (.long (sv + (own_sm (own_y x) nd))), .second, .val (.int zn)] [])
  refine wp (fun _ => XS.iload X1.here hx rfl (hb hby dbef_20) rfl) ?_
  show WP p e below _ T1 (mkF m 22 #[.val (.ref b), .val (.int zp), .val (.long (sv + (own_sm (own_y x) nd))), .second, .val (.int zn)] [(.int zn)])
  refine wp (fun _ => XS.iload X1.here hx rfl (hb hby dbef_22) rfl) ?_
  show WP p e below _ T1 (mkF m 24 #[.val (.ref b), .val (.int zp), .val (.long (sv + (own_sm (own_y x) nd))), .second, .val (.int zn)] [(.int zn), (.int zn)])
  refine wp (fun _ => XS.iload X1.here hx rfl (hb hby dbef_24) rfl) ?_
  show WP p e below _ T1 (mkF m 26 #[.val (.ref b), .val (.int zp), .val (.long (sv + (own_sm (own_y x) nd))), .second, .val (.int zn)] [(.int zn), (.int zn), (.int zn)])
  refine wp (fun _ => XS.ineg X1.here hx rfl (hb hby dbef_26) rfl) ?_
  show WP p e below _ T1 (mkF m 27 #[.val (.ref b), .val (.int zp), .val (.long (sv + (own_sm (own_y x) nd))), .second, .val (.int zn)] [(.int (-zn)), (.int zn), (.int zn)])
  refine wp (fun _ => XS.iand X1.here hx rfl (hb hby dbef_27) rfl) ?_
  show WP p e below _ T1 (mkF m 28 #[.val (.ref b), .val (.int zp), .val (.long (sv + (own_sm (own_y x) nd))), .second, .val (.int zn)] [(.int (zn &&& (-zn))), (.int zn)])
  refine wp (fun _ => XS.isub X1.here hx rfl (hb hby dbef_28) rfl) ?_
  show WP p e below _ T1 (mkF m 29 #[.val (.ref b), .val (.int zp), .val (.long (sv + (own_sm (own_y x) nd))), .second, .val (.int zn)] [(.int (zn - (zn &&& (-zn))))])
  refine wp (fun _ => XS.istore X1.here hx rfl (hb hby dbef_29) rfl (l' := #[.val (.ref b), .val (.int zp), .val (.long (sv + (own_sm (own_y x) nd))), .second, .val (.int (zn - (zn &&& (-zn))))]) rfl) ?_
  show WP p e below _ T1 (mkF m 31 #[.val (.ref b), .val (.int zp), .val (.long (sv + (own_sm (own_y x) nd))), .second, .val (.int (zn - (zn &&& (-zn))))] [])
  refine wp (fun _ => XS.goto X1.here hx rfl (pc0 := 31) (pc' := 5) rfl (hb hby dbef_31) (by decide) (by decide)) ?_
  show WP p e below _ T1 (mkF m 5 #[.val (.ref b), .val (.int zp), .val (.long (sv + (own_sm (own_y x) nd))), .second, .val (.int (zn - (zn &&& (-zn))))] [])
  exact k T1 X1 e1
set_option maxRecDepth 65536 in
set_option maxHeartbeats 4000000 in
theorem bef_loop0 (b ca da : Addr) (x : Nat → Int32) (Tt : Tr Z h0 b ca da x) (C : Cx p s m meth c Z a0 prog_25_method_5_code 5 "com/example/placewright/placewright/engine/CountTree" "before" (some .long)) (X0 : Stand p l e ({ frames := 0, cells := 0, slots := 0, locals := 0 } : Room) s m args below meth c T0 [] 0 0) (e0 : T0.heap = h0) :
    WP p e below (Ends s below (PureQ (some (.long (own_pre (own_y x) 0))) h0) 0 0) T0 (mkF m 5 #[.val (.ref b), .val (.int (0 : Int32)), .val (.long (0 : Int64)), .second, .val (.int (0 : Int32))] []) := by
  obtain ⟨hx, hZ, hw, hby, hml, hown, hnm, hret, hlk⟩ := id C
  rw [own_bef0 (own_y x)]
  show WP p e below _ T0 (mkF m 5 #[.val (.ref b), .val (.int (0 : Int32)), .val (.long (own_pre (own_y x) 0)), .second, .val (.int (0 : Int32))] [])
  refine wp (fun _ => XS.iload X0.here hx rfl (hb hby dbef_5) rfl) ?_
  show WP p e below _ T0 (mkF m 7 #[.val (.ref b), .val (.int (0 : Int32)), .val (.long (own_pre (own_y x) 0)), .second, .val (.int (0 : Int32))] [(.int (0 : Int32))])
  refine wp (fun _ => XS.ifYes X0.here hx rfl (pc0 := 7) (pc' := 34) rfl (hb hby dbef_7) rfl (XT.i0_le_t (by decide)) (by decide) (by decide)) ?_
  show WP p e below _ T0 (mkF m 34 #[.val (.ref b), .val (.int (0 : Int32)), .val (.long (own_pre (own_y x) 0)), .second, .val (.int (0 : Int32))] [])
  refine wp (fun _ => XS.lloadN X0.here hx rfl (hb hby dbef_34) rfl) ?_
  show WP p e below _ T0 (mkF m 35 #[.val (.ref b), .val (.int (0 : Int32)), .val (.long (own_pre (own_y x) 0)), .second, .val (.int (0 : Int32))] [(.long (own_pre (own_y x) 0))])
  exact wp_lreturn C X0 dbef_35 ⟨rfl, e0, rfl⟩ (by decide) (by decide)
set_option maxRecDepth 65536 in
set_option maxHeartbeats 4000000 in
theorem bef_loop1 (b ca da : Addr) (x : Nat → Int32) (Tt : Tr Z h0 b ca da x) (C : Cx p s m meth c Z a0 prog_25_method_5_code 5 "com/example/placewright/placewright/engine/CountTree" "before" (some .long)) (X0 : Stand p l e ({ frames := 0, cells := 0, slots := 0, locals := 0 } : Room) s m args below meth c T0 [] 0 0) (e0 : T0.heap = h0) :
    WP p e below (Ends s below (PureQ (some (.long (own_pre (own_y x) 1))) h0) 0 0) T0 (mkF m 5 #[.val (.ref b), .val (.int (1 : Int32)), .val (.long (0 : Int64)), .second, .val (.int (1 : Int32))] []) := by
  obtain ⟨hx, hZ, hw, hby, hml, hown, hnm, hret, hlk⟩ := id C
  refine bef_turn b ca da (1 : Int32) (0 : Int64) x (1 : Int32) 1 rfl (by decide) (by decide) Tt C X0 e0 ?_
  intro T1 X1 e1
  rw [own_bef1 (own_y x)]
  show WP p e below _ T1 (mkF m 5 #[.val (.ref b), .val (.int (1 : Int32)), .val (.long (own_pre (own_y x) 1)), .second, .val (.int ((1 : Int32) - ((1 : Int32) &&& (-(1 : Int32)))))] [])
  refine wp (fun _ => XS.iload X1.here hx rfl (hb hby dbef_5) rfl) ?_
  show WP p e below _ T1 (mkF m 7 #[.val (.ref b), .val (.int (1 : Int32)), .val (.long (own_pre (own_y x) 1)), .second, .val (.int ((1 : Int32) - ((1 : Int32) &&& (-(1 : Int32)))))] [(.int ((1 : Int32) - ((1 : Int32) &&& (-(1 : Int32)))))])
  refine wp (fun _ => XS.ifYes X1.here hx rfl (pc0 := 7) (pc' := 34) rfl (hb hby dbef_7) rfl (XT.i0_le_t (by decide)) (by decide) (by decide)) ?_
  show WP p e below _ T1 (mkF m 34 #[.val (.ref b), .val (.int (1 : Int32)), .val (.long (own_pre (own_y x) 1)), .second, .val (.int ((1 : Int32) - ((1 : Int32) &&& (-(1 : Int32)))))] [])
  refine wp (fun _ => XS.lloadN X1.here hx rfl (hb hby dbef_34) rfl) ?_
  show WP p e below _ T1 (mkF m 35 #[.val (.ref b), .val (.int (1 : Int32)), .val (.long (own_pre (own_y x) 1)), .second, .val (.int ((1 : Int32) - ((1 : Int32) &&& (-(1 : Int32)))))] [(.long (own_pre (own_y x) 1))])
  exact wp_lreturn C X1 dbef_35 ⟨rfl, e1, rfl⟩ (by decide) (by decide)
set_option maxRecDepth 65536 in
set_option maxHeartbeats 4000000 in
theorem bef_loop2 (b ca da : Addr) (x : Nat → Int32) (Tt : Tr Z h0 b ca da x) (C : Cx p s m meth c Z a0 prog_25_method_5_code 5 "com/example/placewright/placewright/engine/CountTree" "before" (some .long)) (X0 : Stand p l e ({ frames := 0, cells := 0, slots := 0, locals := 0 } : Room) s m args below meth c T0 [] 0 0) (e0 : T0.heap = h0) :
    WP p e below (Ends s below (PureQ (some (.long (own_pre (own_y x) 2))) h0) 0 0) T0 (mkF m 5 #[.val (.ref b), .val (.int (2 : Int32)), .val (.long (0 : Int64)), .second, .val (.int (2 : Int32))] []) := by
  obtain ⟨hx, hZ, hw, hby, hml, hown, hnm, hret, hlk⟩ := id C
  refine bef_turn b ca da (2 : Int32) (0 : Int64) x (2 : Int32) 2 rfl (by decide) (by decide) Tt C X0 e0 ?_
  intro T1 X1 e1
  rw [own_bef2 (own_y x)]
  show WP p e below _ T1 (mkF m 5 #[.val (.ref b), .val (.int (2 : Int32)), .val (.long (own_pre (own_y x) 2)), .second, .val (.int ((2 : Int32) - ((2 : Int32) &&& (-(2 : Int32)))))] [])
  refine wp (fun _ => XS.iload X1.here hx rfl (hb hby dbef_5) rfl) ?_
  show WP p e below _ T1 (mkF m 7 #[.val (.ref b), .val (.int (2 : Int32)), .val (.long (own_pre (own_y x) 2)), .second, .val (.int ((2 : Int32) - ((2 : Int32) &&& (-(2 : Int32)))))] [(.int ((2 : Int32) - ((2 : Int32) &&& (-(2 : Int32)))))])
  refine wp (fun _ => XS.ifYes X1.here hx rfl (pc0 := 7) (pc' := 34) rfl (hb hby dbef_7) rfl (XT.i0_le_t (by decide)) (by decide) (by decide)) ?_
  show WP p e below _ T1 (mkF m 34 #[.val (.ref b), .val (.int (2 : Int32)), .val (.long (own_pre (own_y x) 2)), .second, .val (.int ((2 : Int32) - ((2 : Int32) &&& (-(2 : Int32)))))] [])
  refine wp (fun _ => XS.lloadN X1.here hx rfl (hb hby dbef_34) rfl) ?_
  show WP p e below _ T1 (mkF m 35 #[.val (.ref b), .val (.int (2 : Int32)), .val (.long (own_pre (own_y x) 2)), .second, .val (.int ((2 : Int32) - ((2 : Int32) &&& (-(2 : Int32)))))] [(.long (own_pre (own_y x) 2))])
  exact wp_lreturn C X1 dbef_35 ⟨rfl, e1, rfl⟩ (by decide) (by decide)
set_option maxRecDepth 65536 in
set_option maxHeartbeats 4000000 in
theorem bef_loop3 (b ca da : Addr) (x : Nat → Int32) (Tt : Tr Z h0 b ca da x) (C : Cx p s m meth c Z a0 prog_25_method_5_code 5 "com/example/placewright/placewright/engine/CountTree" "before" (some .long)) (X0 : Stand p l e ({ frames := 0, cells := 0, slots := 0, locals := 0 } : Room) s m args below meth c T0 [] 0 0) (e0 : T0.heap = h0) :
    WP p e below (Ends s below (PureQ (some (.long (own_pre (own_y x) 3))) h0) 0 0) T0 (mkF m 5 #[.val (.ref b), .val (.int (3 : Int32)), .val (.long (0 : Int64)), .second, .val (.int (3 : Int32))] []) := by
  obtain ⟨hx, hZ, hw, hby, hml, hown, hnm, hret, hlk⟩ := id C
  refine bef_turn b ca da (3 : Int32) (0 : Int64) x (3 : Int32) 3 rfl (by decide) (by decide) Tt C X0 e0 ?_
  intro T1 X1 e1
  refine bef_turn b ca da (3 : Int32) ((0 : Int64) + own_sm (own_y x) 3) x ((3 : Int32) - ((3 : Int32) &&& (-(3 : Int32)))) 2 rfl (by decide) (by decide) Tt C X1 e1 ?_
  intro T2 X2 e2
  rw [own_bef3 (own_y x)]
  show WP p e below _ T2 (mkF m 5 #[.val (.ref b), .val (.int (3 : Int32)), .val (.long (own_pre (own_y x) 3)), .second, .val (.int (((3 : Int32) - ((3 : Int32) &&& (-(3 : Int32)))) - (((3 : Int32) - ((3 : Int32) &&& (-(3 : Int32)))) &&& (-((3 : Int32) - ((3 : Int32) &&& (-(3 : Int32))))))))] [])
  refine wp (fun _ => XS.iload X2.here hx rfl (hb hby dbef_5) rfl) ?_
  show WP p e below _ T2 (mkF m 7 #[.val (.ref b), .val (.int (3 : Int32)), .val (.long (own_pre (own_y x) 3)), .second, .val (.int (((3 : Int32) - ((3 : Int32) &&& (-(3 : Int32)))) - (((3 : Int32) - ((3 : Int32) &&& (-(3 : Int32)))) &&& (-((3 : Int32) - ((3 : Int32) &&& (-(3 : Int32))))))))] [(.int (((3 : Int32) - ((3 : Int32) &&& (-(3 : Int32)))) - (((3 : Int32) - ((3 : Int32) &&& (-(3 : Int32)))) &&& (-((3 : Int32) - ((3 : Int32) &&& (-(3 : Int32))))))))])
  refine wp (fun _ => XS.ifYes X2.here hx rfl (pc0 := 7) (pc' := 34) rfl (hb hby dbef_7) rfl (XT.i0_le_t (by decide)) (by decide) (by decide)) ?_
  show WP p e below _ T2 (mkF m 34 #[.val (.ref b), .val (.int (3 : Int32)), .val (.long (own_pre (own_y x) 3)), .second, .val (.int (((3 : Int32) - ((3 : Int32) &&& (-(3 : Int32)))) - (((3 : Int32) - ((3 : Int32) &&& (-(3 : Int32)))) &&& (-((3 : Int32) - ((3 : Int32) &&& (-(3 : Int32))))))))] [])
  refine wp (fun _ => XS.lloadN X2.here hx rfl (hb hby dbef_34) rfl) ?_
  show WP p e below _ T2 (mkF m 35 #[.val (.ref b), .val (.int (3 : Int32)), .val (.long (own_pre (own_y x) 3)), .second, .val (.int (((3 : Int32) - ((3 : Int32) &&& (-(3 : Int32)))) - (((3 : Int32) - ((3 : Int32) &&& (-(3 : Int32)))) &&& (-((3 : Int32) - ((3 : Int32) &&& (-(3 : Int32))))))))] [(.long (own_pre (own_y x) 3))])
  exact wp_lreturn C X2 dbef_35 ⟨rfl, e2, rfl⟩ (by decide) (by decide)
set_option maxRecDepth 65536 in
set_option maxHeartbeats 4000000 in
theorem bef_loop4 (b ca da : Addr) (x : Nat → Int32) (Tt : Tr Z h0 b ca da x) (C : Cx p s m meth c Z a0 prog_25_method_5_code 5 "com/example/placewright/placewright/engine/CountTree" "before" (some .long)) (X0 : Stand p l e ({ frames := 0, cells := 0, slots := 0, locals := 0 } : Room) s m args below meth c T0 [] 0 0) (e0 : T0.heap = h0) :
    WP p e below (Ends s below (PureQ (some (.long (own_pre (own_y x) 4))) h0) 0 0) T0 (mkF m 5 #[.val (.ref b), .val (.int (4 : Int32)), .val (.long (0 : Int64)), .second, .val (.int (4 : Int32))] []) := by
  obtain ⟨hx, hZ, hw, hby, hml, hown, hnm, hret, hlk⟩ := id C
  refine bef_turn b ca da (4 : Int32) (0 : Int64) x (4 : Int32) 4 rfl (by decide) (by decide) Tt C X0 e0 ?_
  intro T1 X1 e1
  rw [own_bef4 (own_y x)]
  show WP p e below _ T1 (mkF m 5 #[.val (.ref b), .val (.int (4 : Int32)), .val (.long (own_pre (own_y x) 4)), .second, .val (.int ((4 : Int32) - ((4 : Int32) &&& (-(4 : Int32)))))] [])
  refine wp (fun _ => XS.iload X1.here hx rfl (hb hby dbef_5) rfl) ?_
  show WP p e below _ T1 (mkF m 7 #[.val (.ref b), .val (.int (4 : Int32)), .val (.long (own_pre (own_y x) 4)), .second, .val (.int ((4 : Int32) - ((4 : Int32) &&& (-(4 : Int32)))))] [(.int ((4 : Int32) - ((4 : Int32) &&& (-(4 : Int32)))))])
  refine wp (fun _ => XS.ifYes X1.here hx rfl (pc0 := 7) (pc' := 34) rfl (hb hby dbef_7) rfl (XT.i0_le_t (by decide)) (by decide) (by decide)) ?_
  show WP p e below _ T1 (mkF m 34 #[.val (.ref b), .val (.int (4 : Int32)), .val (.long (own_pre (own_y x) 4)), .second, .val (.int ((4 : Int32) - ((4 : Int32) &&& (-(4 : Int32)))))] [])
  refine wp (fun _ => XS.lloadN X1.here hx rfl (hb hby dbef_34) rfl) ?_
  show WP p e below _ T1 (mkF m 35 #[.val (.ref b), .val (.int (4 : Int32)), .val (.long (own_pre (own_y x) 4)), .second, .val (.int ((4 : Int32) - ((4 : Int32) &&& (-(4 : Int32)))))] [(.long (own_pre (own_y x) 4))])
  exact wp_lreturn C X1 dbef_35 ⟨rfl, e1, rfl⟩ (by decide) (by decide)
set_option maxRecDepth 65536 in
set_option maxHeartbeats 4000000 in
theorem bef_loop5 (b ca da : Addr) (x : Nat → Int32) (Tt : Tr Z h0 b ca da x) (C : Cx p s m meth c Z a0 prog_25_method_5_code 5 "com/example/placewright/placewright/engine/CountTree" "before" (some .long)) (X0 : Stand p l e ({ frames := 0, cells := 0, slots := 0, locals := 0 } : Room) s m args below meth c T0 [] 0 0) (e0 : T0.heap = h0) :
    WP p e below (Ends s below (PureQ (some (.long (own_pre (own_y x) 5))) h0) 0 0) T0 (mkF m 5 #[.val (.ref b), .val (.int (5 : Int32)), .val (.long (0 : Int64)), .second, .val (.int (5 : Int32))] []) := by
  obtain ⟨hx, hZ, hw, hby, hml, hown, hnm, hret, hlk⟩ := id C
  refine bef_turn b ca da (5 : Int32) (0 : Int64) x (5 : Int32) 5 rfl (by decide) (by decide) Tt C X0 e0 ?_
  intro T1 X1 e1
  refine bef_turn b ca da (5 : Int32) ((0 : Int64) + own_sm (own_y x) 5) x ((5 : Int32) - ((5 : Int32) &&& (-(5 : Int32)))) 4 rfl (by decide) (by decide) Tt C X1 e1 ?_
  intro T2 X2 e2
  rw [own_bef5 (own_y x)]
  show WP p e below _ T2 (mkF m 5 #[.val (.ref b), .val (.int (5 : Int32)), .val (.long (own_pre (own_y x) 5)), .second, .val (.int (((5 : Int32) - ((5 : Int32) &&& (-(5 : Int32)))) - (((5 : Int32) - ((5 : Int32) &&& (-(5 : Int32)))) &&& (-((5 : Int32) - ((5 : Int32) &&& (-(5 : Int32))))))))] [])
  refine wp (fun _ => XS.iload X2.here hx rfl (hb hby dbef_5) rfl) ?_
  show WP p e below _ T2 (mkF m 7 #[.val (.ref b), .val (.int (5 : Int32)), .val (.long (own_pre (own_y x) 5)), .second, .val (.int (((5 : Int32) - ((5 : Int32) &&& (-(5 : Int32)))) - (((5 : Int32) - ((5 : Int32) &&& (-(5 : Int32)))) &&& (-((5 : Int32) - ((5 : Int32) &&& (-(5 : Int32))))))))] [(.int (((5 : Int32) - ((5 : Int32) &&& (-(5 : Int32)))) - (((5 : Int32) - ((5 : Int32) &&& (-(5 : Int32)))) &&& (-((5 : Int32) - ((5 : Int32) &&& (-(5 : Int32))))))))])
  refine wp (fun _ => XS.ifYes X2.here hx rfl (pc0 := 7) (pc' := 34) rfl (hb hby dbef_7) rfl (XT.i0_le_t (by decide)) (by decide) (by decide)) ?_
  show WP p e below _ T2 (mkF m 34 #[.val (.ref b), .val (.int (5 : Int32)), .val (.long (own_pre (own_y x) 5)), .second, .val (.int (((5 : Int32) - ((5 : Int32) &&& (-(5 : Int32)))) - (((5 : Int32) - ((5 : Int32) &&& (-(5 : Int32)))) &&& (-((5 : Int32) - ((5 : Int32) &&& (-(5 : Int32))))))))] [])
  refine wp (fun _ => XS.lloadN X2.here hx rfl (hb hby dbef_34) rfl) ?_
  show WP p e below _ T2 (mkF m 35 #[.val (.ref b), .val (.int (5 : Int32)), .val (.long (own_pre (own_y x) 5)), .second, .val (.int (((5 : Int32) - ((5 : Int32) &&& (-(5 : Int32)))) - (((5 : Int32) - ((5 : Int32) &&& (-(5 : Int32)))) &&& (-((5 : Int32) - ((5 : Int32) &&& (-(5 : Int32))))))))] [(.long (own_pre (own_y x) 5))])
  exact wp_lreturn C X2 dbef_35 ⟨rfl, e2, rfl⟩ (by decide) (by decide)
set_option maxRecDepth 65536 in
set_option maxHeartbeats 4000000 in
theorem bef_loop6 (b ca da : Addr) (x : Nat → Int32) (Tt : Tr Z h0 b ca da x) (C : Cx p s m meth c Z a0 prog_25_method_5_code 5 "com/example/placewright/placewright/engine/CountTree" "before" (some .long)) (X0 : Stand p l e ({ frames := 0, cells := 0, slots := 0, locals := 0 } : Room) s m args below meth c T0 [] 0 0) (e0 : T0.heap = h0) :
    WP p e below (Ends s below (PureQ (some (.long (own_pre (own_y x) 6))) h0) 0 0) T0 (mkF m 5 #[.val (.ref b), .val (.int (6 : Int32)), .val (.long (0 : Int64)), .second, .val (.int (6 : Int32))] []) := by
  obtain ⟨hx, hZ, hw, hby, hml, hown, hnm, hret, hlk⟩ := id C
  refine bef_turn b ca da (6 : Int32) (0 : Int64) x (6 : Int32) 6 rfl (by decide) (by decide) Tt C X0 e0 ?_
  intro T1 X1 e1
  refine bef_turn b ca da (6 : Int32) ((0 : Int64) + own_sm (own_y x) 6) x ((6 : Int32) - ((6 : Int32) &&& (-(6 : Int32)))) 4 rfl (by decide) (by decide) Tt C X1 e1 ?_
  intro T2 X2 e2
  rw [own_bef6 (own_y x)]
  show WP p e below _ T2 (mkF m 5 #[.val (.ref b), .val (.int (6 : Int32)), .val (.long (own_pre (own_y x) 6)), .second, .val (.int (((6 : Int32) - ((6 : Int32) &&& (-(6 : Int32)))) - (((6 : Int32) - ((6 : Int32) &&& (-(6 : Int32)))) &&& (-((6 : Int32) - ((6 : Int32) &&& (-(6 : Int32))))))))] [])
  refine wp (fun _ => XS.iload X2.here hx rfl (hb hby dbef_5) rfl) ?_
  show WP p e below _ T2 (mkF m 7 #[.val (.ref b), .val (.int (6 : Int32)), .val (.long (own_pre (own_y x) 6)), .second, .val (.int (((6 : Int32) - ((6 : Int32) &&& (-(6 : Int32)))) - (((6 : Int32) - ((6 : Int32) &&& (-(6 : Int32)))) &&& (-((6 : Int32) - ((6 : Int32) &&& (-(6 : Int32))))))))] [(.int (((6 : Int32) - ((6 : Int32) &&& (-(6 : Int32)))) - (((6 : Int32) - ((6 : Int32) &&& (-(6 : Int32)))) &&& (-((6 : Int32) - ((6 : Int32) &&& (-(6 : Int32))))))))])
  refine wp (fun _ => XS.ifYes X2.here hx rfl (pc0 := 7) (pc' := 34) rfl (hb hby dbef_7) rfl (XT.i0_le_t (by decide)) (by decide) (by decide)) ?_
  show WP p e below _ T2 (mkF m 34 #[.val (.ref b), .val (.int (6 : Int32)), .val (.long (own_pre (own_y x) 6)), .second, .val (.int (((6 : Int32) - ((6 : Int32) &&& (-(6 : Int32)))) - (((6 : Int32) - ((6 : Int32) &&& (-(6 : Int32)))) &&& (-((6 : Int32) - ((6 : Int32) &&& (-(6 : Int32))))))))] [])
  refine wp (fun _ => XS.lloadN X2.here hx rfl (hb hby dbef_34) rfl) ?_
  show WP p e below _ T2 (mkF m 35 #[.val (.ref b), .val (.int (6 : Int32)), .val (.long (own_pre (own_y x) 6)), .second, .val (.int (((6 : Int32) - ((6 : Int32) &&& (-(6 : Int32)))) - (((6 : Int32) - ((6 : Int32) &&& (-(6 : Int32)))) &&& (-((6 : Int32) - ((6 : Int32) &&& (-(6 : Int32))))))))] [(.long (own_pre (own_y x) 6))])
  exact wp_lreturn C X2 dbef_35 ⟨rfl, e2, rfl⟩ (by decide) (by decide)
end Own4
set_option maxRecDepth 65536 in
set_option maxHeartbeats 4000000 in
theorem rm_bef (l : Launch) (Z : State) (a0 : Array Value) (hw : ∀ d ∈ tables_1, d.before a0 Z = true) (ws : List Jvm.Cond) (b ca da : Addr) (zp : Int32) (pos : Nat) (x : Nat → Int32) (h0 : Heap) (hp : zp.toInt = (pos : Int)) (h7 : pos < 7) (Tt : Tr Z h0 b ca da x) :
    MetQ l Z (⟨"com/example/placewright/placewright/engine/CountTree", "before", "(I)J"⟩ : MethodName) prog_25_method_5_code 5 (some .long) ws ({ frames := 0, cells := 0, slots := 0, locals := 0 } : Room) #[(.ref b), (.int zp)] h0 (PureQ (some (.long (own_pre (own_y x) pos))) h0) := by
  refine metQ (a0 := a0) (plainFor_of_name pn_bef) hw (ef_bef b zp) ?_
  intro p e s m below meth c T0 C X0 e0
  obtain ⟨hx, hZ, hw, hby, hml, hown, hnm, hret, hlk⟩ := id C
  show WP p e below _ T0 (mkF m 0 #[.val (.ref b), .val (.int zp), .unset, .unset, .unset] [])
  have hz := own_z hp (by omega)
  subst hz
  show WP p e below _ T0 (mkF m 0 #[.val (.ref b), .val (.int (Int32.ofNat pos)), .unset, .unset, .unset] [])
  refine wp (fun _ => XS.lconst X0.here hx rfl (hb hby dbef_0)) ?_
  show WP p e below _ T0 (mkF m 1 #[.val (.ref b), .val (.int (Int32.ofNat pos)), .unset, .unset, .unset] [(.long (0 : Int64))])
  refine wp (fun _ => XS.lstoreN X0.here hx rfl (hb hby dbef_1) rfl (l' := #[.val (.ref b), .val (.int (Int32.ofNat pos)), .val (.long (0 : Int64)), .second, .unset]) rfl) ?_
  show WP p e below _ T0 (mkF m 2 #[.val (.ref b), .val (.int (Int32.ofNat pos)), .val (.long (0 : Int64)), .second, .unset] [])
  refine wp (fun _ => XS.iloadN X0.here hx rfl (hb hby dbef_2) rfl) ?_
  show WP p e below _ T0 (mkF m 3 #[.val (.ref b), .val (.int (Int32.ofNat pos)), .val (.long (0 : Int64)), .second, .unset] [(.int (Int32.ofNat pos))])
  refine wp (fun _ => XS.istore X0.here hx rfl (hb hby dbef_3) rfl (l' := #[.val (.ref b), .val (.int (Int32.ofNat pos)), .val (.long (0 : Int64)), .second, .val (.int (Int32.ofNat pos))]) rfl) ?_
  show WP p e below _ T0 (mkF m 5 #[.val (.ref b), .val (.int (Int32.ofNat pos)), .val (.long (0 : Int64)), .second, .val (.int (Int32.ofNat pos))] [])
  rcases own_seven h7 with rfl | rfl | rfl | rfl | rfl | rfl | rfl
  · exact bef_loop0 b ca da x Tt C X0 e0
  · exact bef_loop1 b ca da x Tt C X0 e0
  · exact bef_loop2 b ca da x Tt C X0 e0
  · exact bef_loop3 b ca da x Tt C X0 e0
  · exact bef_loop4 b ca da x Tt C X0 e0
  · exact bef_loop5 b ca da x Tt C X0 e0
  · exact bef_loop6 b ca da x Tt C X0 e0
theorem own_rem (q : Int32) (d : Int32) (k : Nat) (hd : d.toInt = (k : Int)) (hk : 0 < k) (hq : 0 ≤ q.toInt) : ∃ F : Nat, F < k ∧ (q % d).toInt = (F : Int) := by
  have h2 := (c_iremV q d).1 hq (by omega)
  exact ⟨(q % d).toInt.toNat, by omega, by omega⟩
theorem own_lo (q : Int32) : 0 ≤ (q &&& (65535 : Int32)).toInt := (c_and q 65535 (by decide)).1
theorem own_hi (q : Int32) : 0 ≤ ((q.toUInt32 >>> ((16 : Int32) &&& 31).toUInt32).toInt32).toInt := by
  rw [c_iushr q 16 16 rfl (by decide)]
  omega

set_option maxRecDepth 65536 in
set_option maxHeartbeats 4000000 in
theorem rm_law (l : Launch) (Z : State) (a0 : Array Value) (hw : ∀ d ∈ tables_1, d.before a0 Z = true) (ws : List Jvm.Cond) (p0 p1 p2 p3 p4 p5 : Int32) (h0 : Heap) (n0 : Nat) (Z0 : n0 ≤ h0.size) :
    MetQ l Z x code maxLocals ret ws room_1 #[(.int p0), (.int p1), (.int p2), (.int p3), (.int p4), (.int p5)] h0 (fun v _ L => v = some (.int (1 : Int32)) ∧ Fr n0 L) := by
  refine metQ (a0 := a0) (plainFor_of_name pn_law) hw (ef_law p0 p1 p2 p3 p4 p5) ?_
  intro p e s m below meth c T0 C X0 e0
  obtain ⟨hx, hZ, hw, hby, hml, hown, hnm, hret, hlk⟩ := id C
  show WP p e below _ T0 (mkF m 0 #[.val (.int p0), .val (.int p1), .val (.int p2), .val (.int p3), .val (.int p4), .val (.int p5), .unset, .unset, .unset, .unset, .unset, .unset, .unset, .unset, .unset, .unset, .unset, .unset, .unset, .unset, .unset, .unset, .unset, .unset, .unset, .unset, .unset] [])
  refine wp (fun _ => XS.iloadN X0.here hx rfl (hb hby at_0) rfl) ?_
  show WP p e below _ T0 (mkF m 1 #[.val (.int p0), .val (.int p1), .val (.int p2), .val (.int p3), .val (.int p4), .val (.int p5), .unset, .unset, .unset, .unset, .unset, .unset, .unset, .unset, .unset, .unset, .unset, .unset, .unset, .unset, .unset, .unset, .unset, .unset, .unset, .unset, .unset] [(.int p0)])
  refine wp_ldc C X0 (hw _ (List.mem_of_getElem? (i := 0) rfl)) at_1 ?_
  show WP p e below _ T0 (mkF m 3 #[.val (.int p0), .val (.int p1), .val (.int p2), .val (.int p3), .val (.int p4), .val (.int p5), .unset, .unset, .unset, .unset, .unset, .unset, .unset, .unset, .unset, .unset, .unset, .unset, .unset, .unset, .unset, .unset, .unset, .unset, .unset, .unset, .unset] [(.int (2147483647 : Int32)), (.int p0)])
  refine wp (fun _ => XS.iand X0.here hx rfl (hb hby at_3) rfl) ?_
  show WP p e below _ T0 (mkF m 4 #[.val (.int p0), .val (.int p1), .val (.int p2), .val (.int p3), .val (.int p4), .val (.int p5), .unset, .unset, .unset, .unset, .unset, .unset, .unset, .unset, .unset, .unset, .unset, .unset, .unset, .unset, .unset, .unset, .unset, .unset, .unset, .unset, .unset] [(.int (p0 &&& (2147483647 : Int32)))])
  generalize (p0 &&& (2147483647 : Int32)) = cA
  show WP p e below _ T0 (mkF m 4 #[.val (.int p0), .val (.int p1), .val (.int p2), .val (.int p3), .val (.int p4), .val (.int p5), .unset, .unset, .unset, .unset, .unset, .unset, .unset, .unset, .unset, .unset, .unset, .unset, .unset, .unset, .unset, .unset, .unset, .unset, .unset, .unset, .unset] [(.int cA)])
  refine wp (fun _ => XS.istore X0.here hx rfl (hb hby at_4) rfl (l' := #[.val (.int p0), .val (.int p1), .val (.int p2), .val (.int p3), .val (.int p4), .val (.int p5), .val (.int cA), .unset, .unset, .unset, .unset, .unset, .unset, .unset, .unset, .unset, .unset, .unset, .unset, .unset, .unset, .unset, .unset, .unset, .unset, .unset, .unset]) rfl) ?_
  show WP p e below _ T0 (mkF m 6 #[.val (.int p0), .val (.int p1), .val (.int p2), .val (.int p3), .val (.int p4), .val (.int p5), .val (.int cA), .unset, .unset, .unset, .unset, .unset, .unset, .unset, .unset, .unset, .unset, .unset, .unset, .unset, .unset, .unset, .unset, .unset, .unset, .unset, .unset] [])
  refine wp (fun _ => XS.iloadN X0.here hx rfl (hb hby at_6) rfl) ?_
  show WP p e below _ T0 (mkF m 7 #[.val (.int p0), .val (.int p1), .val (.int p2), .val (.int p3), .val (.int p4), .val (.int p5), .val (.int cA), .unset, .unset, .unset, .unset, .unset, .unset, .unset, .unset, .unset, .unset, .unset, .unset, .unset, .unset, .unset, .unset, .unset, .unset, .unset, .unset] [(.int p1)])
  refine wp_ldc C X0 (hw _ (List.mem_of_getElem? (i := 0) rfl)) at_7 ?_
  show WP p e below _ T0 (mkF m 9 #[.val (.int p0), .val (.int p1), .val (.int p2), .val (.int p3), .val (.int p4), .val (.int p5), .val (.int cA), .unset, .unset, .unset, .unset, .unset, .unset, .unset, .unset, .unset, .unset, .unset, .unset, .unset, .unset, .unset, .unset, .unset, .unset, .unset, .unset] [(.int (2147483647 : Int32)), (.int p1)])
  refine wp (fun _ => XS.iand X0.here hx rfl (hb hby at_9) rfl) ?_
  show WP p e below _ T0 (mkF m 10 #[.val (.int p0), .val (.int p1), .val (.int p2), .val (.int p3), .val (.int p4), .val (.int p5), .val (.int cA), .unset, .unset, .unset, .unset, .unset, .unset, .unset, .unset, .unset, .unset, .unset, .unset, .unset, .unset, .unset, .unset, .unset, .unset, .unset, .unset] [(.int (p1 &&& (2147483647 : Int32)))])
  generalize (p1 &&& (2147483647 : Int32)) = cB
  show WP p e below _ T0 (mkF m 10 #[.val (.int p0), .val (.int p1), .val (.int p2), .val (.int p3), .val (.int p4), .val (.int p5), .val (.int cA), .unset, .unset, .unset, .unset, .unset, .unset, .unset, .unset, .unset, .unset, .unset, .unset, .unset, .unset, .unset, .unset, .unset, .unset, .unset, .unset] [(.int cB)])
  refine wp (fun _ => XS.istore X0.here hx rfl (hb hby at_10) rfl (l' := #[.val (.int p0), .val (.int p1), .val (.int p2), .val (.int p3), .val (.int p4), .val (.int p5), .val (.int cA), .val (.int cB), .unset, .unset, .unset, .unset, .unset, .unset, .unset, .unset, .unset, .unset, .unset, .unset, .unset, .unset, .unset, .unset, .unset, .unset, .unset]) rfl) ?_
  show WP p e below _ T0 (mkF m 12 #[.val (.int p0), .val (.int p1), .val (.int p2), .val (.int p3), .val (.int p4), .val (.int p5), .val (.int cA), .val (.int cB), .unset, .unset, .unset, .unset, .unset, .unset, .unset, .unset, .unset, .unset, .unset, .unset, .unset, .unset, .unset, .unset, .unset, .unset, .unset] [])
  refine wp (fun _ => XS.iloadN X0.here hx rfl (hb hby at_12) rfl) ?_
  show WP p e below _ T0 (mkF m 13 #[.val (.int p0), .val (.int p1), .val (.int p2), .val (.int p3), .val (.int p4), .val (.int p5), .val (.int cA), .val (.int cB), .unset, .unset, .unset, .unset, .unset, .unset, .unset, .unset, .unset, .unset, .unset, .unset, .unset, .unset, .unset, .unset, .unset, .unset, .unset] [(.int p2)])
  refine wp_ldc C X0 (hw _ (List.mem_of_getElem? (i := 0) rfl)) at_13 ?_
  show WP p e below _ T0 (mkF m 15 #[.val (.int p0), .val (.int p1), .val (.int p2), .val (.int p3), .val (.int p4), .val (.int p5), .val (.int cA), .val (.int cB), .unset, .unset, .unset, .unset, .unset, .unset, .unset, .unset, .unset, .unset, .unset, .unset, .unset, .unset, .unset, .unset, .unset, .unset, .unset] [(.int (2147483647 : Int32)), (.int p2)])
  refine wp (fun _ => XS.iand X0.here hx rfl (hb hby at_15) rfl) ?_
  show WP p e below _ T0 (mkF m 16 #[.val (.int p0), .val (.int p1), .val (.int p2), .val (.int p3), .val (.int p4), .val (.int p5), .val (.int cA), .val (.int cB), .unset, .unset, .unset, .unset, .unset, .unset, .unset, .unset, .unset, .unset, .unset, .unset, .unset, .unset, .unset, .unset, .unset, .unset, .unset] [(.int (p2 &&& (2147483647 : Int32)))])
  generalize (p2 &&& (2147483647 : Int32)) = cC
  show WP p e below _ T0 (mkF m 16 #[.val (.int p0), .val (.int p1), .val (.int p2), .val (.int p3), .val (.int p4), .val (.int p5), .val (.int cA), .val (.int cB), .unset, .unset, .unset, .unset, .unset, .unset, .unset, .unset, .unset, .unset, .unset, .unset, .unset, .unset, .unset, .unset, .unset, .unset, .unset] [(.int cC)])
  refine wp (fun _ => XS.istore X0.here hx rfl (hb hby at_16) rfl (l' := #[.val (.int p0), .val (.int p1), .val (.int p2), .val (.int p3), .val (.int p4), .val (.int p5), .val (.int cA), .val (.int cB), .val (.int cC), .unset, .unset, .unset, .unset, .unset, .unset, .unset, .unset, .unset, .unset, .unset, .unset, .unset, .unset, .unset, .unset, .unset, .unset]) rfl) ?_
  show WP p e below _ T0 (mkF m 18 #[.val (.int p0), .val (.int p1), .val (.int p2), .val (.int p3), .val (.int p4), .val (.int p5), .val (.int cA), .val (.int cB), .val (.int cC), .unset, .unset, .unset, .unset, .unset, .unset, .unset, .unset, .unset, .unset, .unset, .unset, .unset, .unset, .unset, .unset, .unset, .unset] [])
  refine wp (fun _ => XS.iloadN X0.here hx rfl (hb hby at_18) rfl) ?_
  show WP p e below _ T0 (mkF m 19 #[.val (.int p0), .val (.int p1), .val (.int p2), .val (.int p3), .val (.int p4), .val (.int p5), .val (.int cA), .val (.int cB), .val (.int cC), .unset, .unset, .unset, .unset, .unset, .unset, .unset, .unset, .unset, .unset, .unset, .unset, .unset, .unset, .unset, .unset, .unset, .unset] [(.int p3)])
  refine wp_ldc C X0 (hw _ (List.mem_of_getElem? (i := 1) rfl)) at_19 ?_
  show WP p e below _ T0 (mkF m 21 #[.val (.int p0), .val (.int p1), .val (.int p2), .val (.int p3), .val (.int p4), .val (.int p5), .val (.int cA), .val (.int cB), .val (.int cC), .unset, .unset, .unset, .unset, .unset, .unset, .unset, .unset, .unset, .unset, .unset, .unset, .unset, .unset, .unset, .unset, .unset, .unset] [(.int (65535 : Int32)), (.int p3)])
  refine wp (fun _ => XS.iand X0.here hx rfl (hb hby at_21) rfl) ?_
  show WP p e below _ T0 (mkF m 22 #[.val (.int p0), .val (.int p1), .val (.int p2), .val (.int p3), .val (.int p4), .val (.int p5), .val (.int cA), .val (.int cB), .val (.int cC), .unset, .unset, .unset, .unset, .unset, .unset, .unset, .unset, .unset, .unset, .unset, .unset, .unset, .unset, .unset, .unset, .unset, .unset] [(.int (p3 &&& (65535 : Int32)))])
  refine wp (fun _ => XS.bipush X0.here hx rfl (hb hby at_22)) ?_
  show WP p e below _ T0 (mkF m 24 #[.val (.int p0), .val (.int p1), .val (.int p2), .val (.int p3), .val (.int p4), .val (.int p5), .val (.int cA), .val (.int cB), .val (.int cC), .unset, .unset, .unset, .unset, .unset, .unset, .unset, .unset, .unset, .unset, .unset, .unset, .unset, .unset, .unset, .unset, .unset, .unset] [(.int (6 : Int32)), (.int (p3 &&& (65535 : Int32)))])
  refine wp (fun _ => iremM X0 hx rfl (hb hby at_24) rfl (by decide)) ?_
  show WP p e below _ T0 (mkF m 25 #[.val (.int p0), .val (.int p1), .val (.int p2), .val (.int p3), .val (.int p4), .val (.int p5), .val (.int cA), .val (.int cB), .val (.int cC), .unset, .unset, .unset, .unset, .unset, .unset, .unset, .unset, .unset, .unset, .unset, .unset, .unset, .unset, .unset, .unset, .unset, .unset] [(.int ((p3 &&& (65535 : Int32)) % (6 : Int32)))])
  obtain ⟨iA, lA, hA⟩ := own_rem (p3 &&& (65535 : Int32)) (6 : Int32) 6 rfl (by decide) (own_lo p3)
  generalize ((p3 &&& (65535 : Int32)) % (6 : Int32)) = zA at hA ⊢
  show WP p e below _ T0 (mkF m 25 #[.val (.int p0), .val (.int p1), .val (.int p2), .val (.int p3), .val (.int p4), .val (.int p5), .val (.int cA), .val (.int cB), .val (.int cC), .unset, .unset, .unset, .unset, .unset, .unset, .unset, .unset, .unset, .unset, .unset, .unset, .unset, .unset, .unset, .unset, .unset, .unset] [(.int zA)])
  refine wp (fun _ => XS.istore X0.here hx rfl (hb hby at_25) rfl (l' := #[.val (.int p0), .val (.int p1), .val (.int p2), .val (.int p3), .val (.int p4), .val (.int p5), .val (.int cA), .val (.int cB), .val (.int cC), .val (.int zA), .unset, .unset, .unset, .unset, .unset, .unset, .unset, .unset, .unset, .unset, .unset, .unset, .unset, .unset, .unset, .unset, .unset]) rfl) ?_
  show WP p e below _ T0 (mkF m 27 #[.val (.int p0), .val (.int p1), .val (.int p2), .val (.int p3), .val (.int p4), .val (.int p5), .val (.int cA), .val (.int cB), .val (.int cC), .val (.int zA), .unset, .unset, .unset, .unset, .unset, .unset, .unset, .unset, .unset, .unset, .unset, .unset, .unset, .unset, .unset, .unset, .unset] [])
  refine wp (fun _ => XS.iload X0.here hx rfl (hb hby at_27) rfl) ?_
  show WP p e below _ T0 (mkF m 29 #[.val (.int p0), .val (.int p1), .val (.int p2), .val (.int p3), .val (.int p4), .val (.int p5), .val (.int cA), .val (.int cB), .val (.int cC), .val (.int zA), .unset, .unset, .unset, .unset, .unset, .unset, .unset, .unset, .unset, .unset, .unset, .unset, .unset, .unset, .unset, .unset, .unset] [(.int p4)])
  refine wp_ldc C X0 (hw _ (List.mem_of_getElem? (i := 1) rfl)) at_29 ?_
  show WP p e below _ T0 (mkF m 31 #[.val (.int p0), .val (.int p1), .val (.int p2), .val (.int p3), .val (.int p4), .val (.int p5), .val (.int cA), .val (.int cB), .val (.int cC), .val (.int zA), .unset, .unset, .unset, .unset, .unset, .unset, .unset, .unset, .unset, .unset, .unset, .unset, .unset, .unset, .unset, .unset, .unset] [(.int (65535 : Int32)), (.int p4)])
  refine wp (fun _ => XS.iand X0.here hx rfl (hb hby at_31) rfl) ?_
  show WP p e below _ T0 (mkF m 32 #[.val (.int p0), .val (.int p1), .val (.int p2), .val (.int p3), .val (.int p4), .val (.int p5), .val (.int cA), .val (.int cB), .val (.int cC), .val (.int zA), .unset, .unset, .unset, .unset, .unset, .unset, .unset, .unset, .unset, .unset, .unset, .unset, .unset, .unset, .unset, .unset, .unset] [(.int (p4 &&& (65535 : Int32)))])
  refine wp (fun _ => XS.bipush X0.here hx rfl (hb hby at_32)) ?_
  show WP p e below _ T0 (mkF m 34 #[.val (.int p0), .val (.int p1), .val (.int p2), .val (.int p3), .val (.int p4), .val (.int p5), .val (.int cA), .val (.int cB), .val (.int cC), .val (.int zA), .unset, .unset, .unset, .unset, .unset, .unset, .unset, .unset, .unset, .unset, .unset, .unset, .unset, .unset, .unset, .unset, .unset] [(.int (6 : Int32)), (.int (p4 &&& (65535 : Int32)))])
  refine wp (fun _ => iremM X0 hx rfl (hb hby at_34) rfl (by decide)) ?_
  show WP p e below _ T0 (mkF m 35 #[.val (.int p0), .val (.int p1), .val (.int p2), .val (.int p3), .val (.int p4), .val (.int p5), .val (.int cA), .val (.int cB), .val (.int cC), .val (.int zA), .unset, .unset, .unset, .unset, .unset, .unset, .unset, .unset, .unset, .unset, .unset, .unset, .unset, .unset, .unset, .unset, .unset] [(.int ((p4 &&& (65535 : Int32)) % (6 : Int32)))])
  obtain ⟨iB, lB, hB⟩ := own_rem (p4 &&& (65535 : Int32)) (6 : Int32) 6 rfl (by decide) (own_lo p4)
  generalize ((p4 &&& (65535 : Int32)) % (6 : Int32)) = zB at hB ⊢
  show WP p e below _ T0 (mkF m 35 #[.val (.int p0), .val (.int p1), .val (.int p2), .val (.int p3), .val (.int p4), .val (.int p5), .val (.int cA), .val (.int cB), .val (.int cC), .val (.int zA), .unset, .unset, .unset, .unset, .unset, .unset, .unset, .unset, .unset, .unset, .unset, .unset, .unset, .unset, .unset, .unset, .unset] [(.int zB)])
  refine wp (fun _ => XS.istore X0.here hx rfl (hb hby at_35) rfl (l' := #[.val (.int p0), .val (.int p1), .val (.int p2), .val (.int p3), .val (.int p4), .val (.int p5), .val (.int cA), .val (.int cB), .val (.int cC), .val (.int zA), .val (.int zB), .unset, .unset, .unset, .unset, .unset, .unset, .unset, .unset, .unset, .unset, .unset, .unset, .unset, .unset, .unset, .unset]) rfl) ?_
  show WP p e below _ T0 (mkF m 37 #[.val (.int p0), .val (.int p1), .val (.int p2), .val (.int p3), .val (.int p4), .val (.int p5), .val (.int cA), .val (.int cB), .val (.int cC), .val (.int zA), .val (.int zB), .unset, .unset, .unset, .unset, .unset, .unset, .unset, .unset, .unset, .unset, .unset, .unset, .unset, .unset, .unset, .unset] [])
  refine wp (fun _ => XS.iload X0.here hx rfl (hb hby at_37) rfl) ?_
  show WP p e below _ T0 (mkF m 39 #[.val (.int p0), .val (.int p1), .val (.int p2), .val (.int p3), .val (.int p4), .val (.int p5), .val (.int cA), .val (.int cB), .val (.int cC), .val (.int zA), .val (.int zB), .unset, .unset, .unset, .unset, .unset, .unset, .unset, .unset, .unset, .unset, .unset, .unset, .unset, .unset, .unset, .unset] [(.int p5)])
  refine wp_ldc C X0 (hw _ (List.mem_of_getElem? (i := 1) rfl)) at_39 ?_
  show WP p e below _ T0 (mkF m 41 #[.val (.int p0), .val (.int p1), .val (.int p2), .val (.int p3), .val (.int p4), .val (.int p5), .val (.int cA), .val (.int cB), .val (.int cC), .val (.int zA), .val (.int zB), .unset, .unset, .unset, .unset, .unset, .unset, .unset, .unset, .unset, .unset, .unset, .unset, .unset, .unset, .unset, .unset] [(.int (65535 : Int32)), (.int p5)])
  refine wp (fun _ => XS.iand X0.here hx rfl (hb hby at_41) rfl) ?_
  show WP p e below _ T0 (mkF m 42 #[.val (.int p0), .val (.int p1), .val (.int p2), .val (.int p3), .val (.int p4), .val (.int p5), .val (.int cA), .val (.int cB), .val (.int cC), .val (.int zA), .val (.int zB), .unset, .unset, .unset, .unset, .unset, .unset, .unset, .unset, .unset, .unset, .unset, .unset, .unset, .unset, .unset, .unset] [(.int (p5 &&& (65535 : Int32)))])
  refine wp (fun _ => XS.bipush X0.here hx rfl (hb hby at_42)) ?_
  show WP p e below _ T0 (mkF m 44 #[.val (.int p0), .val (.int p1), .val (.int p2), .val (.int p3), .val (.int p4), .val (.int p5), .val (.int cA), .val (.int cB), .val (.int cC), .val (.int zA), .val (.int zB), .unset, .unset, .unset, .unset, .unset, .unset, .unset, .unset, .unset, .unset, .unset, .unset, .unset, .unset, .unset, .unset] [(.int (6 : Int32)), (.int (p5 &&& (65535 : Int32)))])
  refine wp (fun _ => iremM X0 hx rfl (hb hby at_44) rfl (by decide)) ?_
  show WP p e below _ T0 (mkF m 45 #[.val (.int p0), .val (.int p1), .val (.int p2), .val (.int p3), .val (.int p4), .val (.int p5), .val (.int cA), .val (.int cB), .val (.int cC), .val (.int zA), .val (.int zB), .unset, .unset, .unset, .unset, .unset, .unset, .unset, .unset, .unset, .unset, .unset, .unset, .unset, .unset, .unset, .unset] [(.int ((p5 &&& (65535 : Int32)) % (6 : Int32)))])
  obtain ⟨iCc, lCc, hCc⟩ := own_rem (p5 &&& (65535 : Int32)) (6 : Int32) 6 rfl (by decide) (own_lo p5)
  generalize ((p5 &&& (65535 : Int32)) % (6 : Int32)) = zC at hCc ⊢
  show WP p e below _ T0 (mkF m 45 #[.val (.int p0), .val (.int p1), .val (.int p2), .val (.int p3), .val (.int p4), .val (.int p5), .val (.int cA), .val (.int cB), .val (.int cC), .val (.int zA), .val (.int zB), .unset, .unset, .unset, .unset, .unset, .unset, .unset, .unset, .unset, .unset, .unset, .unset, .unset, .unset, .unset, .unset] [(.int zC)])
  refine wp (fun _ => XS.istore X0.here hx rfl (hb hby at_45) rfl (l' := #[.val (.int p0), .val (.int p1), .val (.int p2), .val (.int p3), .val (.int p4), .val (.int p5), .val (.int cA), .val (.int cB), .val (.int cC), .val (.int zA), .val (.int zB), .val (.int zC), .unset, .unset, .unset, .unset, .unset, .unset, .unset, .unset, .unset, .unset, .unset, .unset, .unset, .unset, .unset]) rfl) ?_
  show WP p e below _ T0 (mkF m 47 #[.val (.int p0), .val (.int p1), .val (.int p2), .val (.int p3), .val (.int p4), .val (.int p5), .val (.int cA), .val (.int cB), .val (.int cC), .val (.int zA), .val (.int zB), .val (.int zC), .unset, .unset, .unset, .unset, .unset, .unset, .unset, .unset, .unset, .unset, .unset, .unset, .unset, .unset, .unset] [])
  refine wp (fun _ => XS.iloadN X0.here hx rfl (hb hby at_47) rfl) ?_
  show WP p e below _ T0 (mkF m 48 #[.val (.int p0), .val (.int p1), .val (.int p2), .val (.int p3), .val (.int p4), .val (.int p5), .val (.int cA), .val (.int cB), .val (.int cC), .val (.int zA), .val (.int zB), .val (.int zC), .unset, .unset, .unset, .unset, .unset, .unset, .unset, .unset, .unset, .unset, .unset, .unset, .unset, .unset, .unset] [(.int p3)])
  refine wp (fun _ => XS.bipush X0.here hx rfl (hb hby at_48)) ?_
  show WP p e below _ T0 (mkF m 50 #[.val (.int p0), .val (.int p1), .val (.int p2), .val (.int p3), .val (.int p4), .val (.int p5), .val (.int cA), .val (.int cB), .val (.int cC), .val (.int zA), .val (.int zB), .val (.int zC), .unset, .unset, .unset, .unset, .unset, .unset, .unset, .unset, .unset, .unset, .unset, .unset, .unset, .unset, .unset] [(.int (16 : Int32)), (.int p3)])
  refine wp (fun _ => XS.iushr X0.here hx rfl (hb hby at_50) rfl) ?_
  show WP p e below _ T0 (mkF m 51 #[.val (.int p0), .val (.int p1), .val (.int p2), .val (.int p3), .val (.int p4), .val (.int p5), .val (.int cA), .val (.int cB), .val (.int cC), .val (.int zA), .val (.int zB), .val (.int zC), .unset, .unset, .unset, .unset, .unset, .unset, .unset, .unset, .unset, .unset, .unset, .unset, .unset, .unset, .unset] [(.int ((p3.toUInt32 >>> ((16 : Int32) &&& 31).toUInt32).toInt32))])
  refine wp (fun _ => XS.bipush X0.here hx rfl (hb hby at_51)) ?_
  show WP p e below _ T0 (mkF m 53 #[.val (.int p0), .val (.int p1), .val (.int p2), .val (.int p3), .val (.int p4), .val (.int p5), .val (.int cA), .val (.int cB), .val (.int cC), .val (.int zA), .val (.int zB), .val (.int zC), .unset, .unset, .unset, .unset, .unset, .unset, .unset, .unset, .unset, .unset, .unset, .unset, .unset, .unset, .unset] [(.int (7 : Int32)), (.int ((p3.toUInt32 >>> ((16 : Int32) &&& 31).toUInt32).toInt32))])
  refine wp (fun _ => iremM X0 hx rfl (hb hby at_53) rfl (by decide)) ?_
  show WP p e below _ T0 (mkF m 54 #[.val (.int p0), .val (.int p1), .val (.int p2), .val (.int p3), .val (.int p4), .val (.int p5), .val (.int cA), .val (.int cB), .val (.int cC), .val (.int zA), .val (.int zB), .val (.int zC), .unset, .unset, .unset, .unset, .unset, .unset, .unset, .unset, .unset, .unset, .unset, .unset, .unset, .unset, .unset] [(.int (((p3.toUInt32 >>> ((16 : Int32) &&& 31).toUInt32).toInt32) % (7 : Int32)))])
  obtain ⟨iK, lK, hK⟩ := own_rem ((p3.toUInt32 >>> ((16 : Int32) &&& 31).toUInt32).toInt32) (7 : Int32) 7 rfl (by decide) (own_hi p3)
  generalize (((p3.toUInt32 >>> ((16 : Int32) &&& 31).toUInt32).toInt32) % (7 : Int32)) = zK at hK ⊢
  show WP p e below _ T0 (mkF m 54 #[.val (.int p0), .val (.int p1), .val (.int p2), .val (.int p3), .val (.int p4), .val (.int p5), .val (.int cA), .val (.int cB), .val (.int cC), .val (.int zA), .val (.int zB), .val (.int zC), .unset, .unset, .unset, .unset, .unset, .unset, .unset, .unset, .unset, .unset, .unset, .unset, .unset, .unset, .unset] [(.int zK)])
  refine wp (fun _ => XS.istore X0.here hx rfl (hb hby at_54) rfl (l' := #[.val (.int p0), .val (.int p1), .val (.int p2), .val (.int p3), .val (.int p4), .val (.int p5), .val (.int cA), .val (.int cB), .val (.int cC), .val (.int zA), .val (.int zB), .val (.int zC), .val (.int zK), .unset, .unset, .unset, .unset, .unset, .unset, .unset, .unset, .unset, .unset, .unset, .unset, .unset, .unset]) rfl) ?_
  show WP p e below _ T0 (mkF m 56 #[.val (.int p0), .val (.int p1), .val (.int p2), .val (.int p3), .val (.int p4), .val (.int p5), .val (.int cA), .val (.int cB), .val (.int cC), .val (.int zA), .val (.int zB), .val (.int zC), .val (.int zK), .unset, .unset, .unset, .unset, .unset, .unset, .unset, .unset, .unset, .unset, .unset, .unset, .unset, .unset] [])
  refine wp (fun _ => XS.iload X0.here hx rfl (hb hby at_56) rfl) ?_
  show WP p e below _ T0 (mkF m 58 #[.val (.int p0), .val (.int p1), .val (.int p2), .val (.int p3), .val (.int p4), .val (.int p5), .val (.int cA), .val (.int cB), .val (.int cC), .val (.int zA), .val (.int zB), .val (.int zC), .val (.int zK), .unset, .unset, .unset, .unset, .unset, .unset, .unset, .unset, .unset, .unset, .unset, .unset, .unset, .unset] [(.int p4)])
  refine wp (fun _ => XS.bipush X0.here hx rfl (hb hby at_58)) ?_
  show WP p e below _ T0 (mkF m 60 #[.val (.int p0), .val (.int p1), .val (.int p2), .val (.int p3), .val (.int p4), .val (.int p5), .val (.int cA), .val (.int cB), .val (.int cC), .val (.int zA), .val (.int zB), .val (.int zC), .val (.int zK), .unset, .unset, .unset, .unset, .unset, .unset, .unset, .unset, .unset, .unset, .unset, .unset, .unset, .unset] [(.int (16 : Int32)), (.int p4)])
  refine wp (fun _ => XS.iushr X0.here hx rfl (hb hby at_60) rfl) ?_
  show WP p e below _ T0 (mkF m 61 #[.val (.int p0), .val (.int p1), .val (.int p2), .val (.int p3), .val (.int p4), .val (.int p5), .val (.int cA), .val (.int cB), .val (.int cC), .val (.int zA), .val (.int zB), .val (.int zC), .val (.int zK), .unset, .unset, .unset, .unset, .unset, .unset, .unset, .unset, .unset, .unset, .unset, .unset, .unset, .unset] [(.int ((p4.toUInt32 >>> ((16 : Int32) &&& 31).toUInt32).toInt32))])
  refine wp (fun _ => XS.bipush X0.here hx rfl (hb hby at_61)) ?_
  show WP p e below _ T0 (mkF m 63 #[.val (.int p0), .val (.int p1), .val (.int p2), .val (.int p3), .val (.int p4), .val (.int p5), .val (.int cA), .val (.int cB), .val (.int cC), .val (.int zA), .val (.int zB), .val (.int zC), .val (.int zK), .unset, .unset, .unset, .unset, .unset, .unset, .unset, .unset, .unset, .unset, .unset, .unset, .unset, .unset] [(.int (6 : Int32)), (.int ((p4.toUInt32 >>> ((16 : Int32) &&& 31).toUInt32).toInt32))])
  refine wp (fun _ => iremM X0 hx rfl (hb hby at_63) rfl (by decide)) ?_
  show WP p e below _ T0 (mkF m 64 #[.val (.int p0), .val (.int p1), .val (.int p2), .val (.int p3), .val (.int p4), .val (.int p5), .val (.int cA), .val (.int cB), .val (.int cC), .val (.int zA), .val (.int zB), .val (.int zC), .val (.int zK), .unset, .unset, .unset, .unset, .unset, .unset, .unset, .unset, .unset, .unset, .unset, .unset, .unset, .unset] [(.int (((p4.toUInt32 >>> ((16 : Int32) &&& 31).toUInt32).toInt32) % (6 : Int32)))])
  obtain ⟨iG, lG, hG⟩ := own_rem ((p4.toUInt32 >>> ((16 : Int32) &&& 31).toUInt32).toInt32) (6 : Int32) 6 rfl (by decide) (own_hi p4)
  generalize (((p4.toUInt32 >>> ((16 : Int32) &&& 31).toUInt32).toInt32) % (6 : Int32)) = zG at hG ⊢
  show WP p e below _ T0 (mkF m 64 #[.val (.int p0), .val (.int p1), .val (.int p2), .val (.int p3), .val (.int p4), .val (.int p5), .val (.int cA), .val (.int cB), .val (.int cC), .val (.int zA), .val (.int zB), .val (.int zC), .val (.int zK), .unset, .unset, .unset, .unset, .unset, .unset, .unset, .unset, .unset, .unset, .unset, .unset, .unset, .unset] [(.int zG)])
  refine wp (fun _ => XS.istore X0.here hx rfl (hb hby at_64) rfl (l' := #[.val (.int p0), .val (.int p1), .val (.int p2), .val (.int p3), .val (.int p4), .val (.int p5), .val (.int cA), .val (.int cB), .val (.int cC), .val (.int zA), .val (.int zB), .val (.int zC), .val (.int zK), .val (.int zG), .unset, .unset, .unset, .unset, .unset, .unset, .unset, .unset, .unset, .unset, .unset, .unset, .unset]) rfl) ?_
  show WP p e below _ T0 (mkF m 66 #[.val (.int p0), .val (.int p1), .val (.int p2), .val (.int p3), .val (.int p4), .val (.int p5), .val (.int cA), .val (.int cB), .val (.int cC), .val (.int zA), .val (.int zB), .val (.int zC), .val (.int zK), .val (.int zG), .unset, .unset, .unset, .unset, .unset, .unset, .unset, .unset, .unset, .unset, .unset, .unset, .unset] [])
  refine wp (fun _ => XS.iload X0.here hx rfl (hb hby at_66) rfl) ?_
  show WP p e below _ T0 (mkF m 68 #[.val (.int p0), .val (.int p1), .val (.int p2), .val (.int p3), .val (.int p4), .val (.int p5), .val (.int cA), .val (.int cB), .val (.int cC), .val (.int zA), .val (.int zB), .val (.int zC), .val (.int zK), .val (.int zG), .unset, .unset, .unset, .unset, .unset, .unset, .unset, .unset, .unset, .unset, .unset, .unset, .unset] [(.int p5)])
  refine wp (fun _ => XS.bipush X0.here hx rfl (hb hby at_68)) ?_
  show WP p e below _ T0 (mkF m 70 #[.val (.int p0), .val (.int p1), .val (.int p2), .val (.int p3), .val (.int p4), .val (.int p5), .val (.int cA), .val (.int cB), .val (.int cC), .val (.int zA), .val (.int zB), .val (.int zC), .val (.int zK), .val (.int zG), .unset, .unset, .unset, .unset, .unset, .unset, .unset, .unset, .unset, .unset, .unset, .unset, .unset] [(.int (16 : Int32)), (.int p5)])
  refine wp (fun _ => XS.iushr X0.here hx rfl (hb hby at_70) rfl) ?_
  show WP p e below _ T0 (mkF m 71 #[.val (.int p0), .val (.int p1), .val (.int p2), .val (.int p3), .val (.int p4), .val (.int p5), .val (.int cA), .val (.int cB), .val (.int cC), .val (.int zA), .val (.int zB), .val (.int zC), .val (.int zK), .val (.int zG), .unset, .unset, .unset, .unset, .unset, .unset, .unset, .unset, .unset, .unset, .unset, .unset, .unset] [(.int ((p5.toUInt32 >>> ((16 : Int32) &&& 31).toUInt32).toInt32))])
  refine wp (fun _ => XS.bipush X0.here hx rfl (hb hby at_71)) ?_
  show WP p e below _ T0 (mkF m 73 #[.val (.int p0), .val (.int p1), .val (.int p2), .val (.int p3), .val (.int p4), .val (.int p5), .val (.int cA), .val (.int cB), .val (.int cC), .val (.int zA), .val (.int zB), .val (.int zC), .val (.int zK), .val (.int zG), .unset, .unset, .unset, .unset, .unset, .unset, .unset, .unset, .unset, .unset, .unset, .unset, .unset] [(.int (7 : Int32)), (.int ((p5.toUInt32 >>> ((16 : Int32) &&& 31).toUInt32).toInt32))])
  refine wp (fun _ => iremM X0 hx rfl (hb hby at_73) rfl (by decide)) ?_
  show WP p e below _ T0 (mkF m 74 #[.val (.int p0), .val (.int p1), .val (.int p2), .val (.int p3), .val (.int p4), .val (.int p5), .val (.int cA), .val (.int cB), .val (.int cC), .val (.int zA), .val (.int zB), .val (.int zC), .val (.int zK), .val (.int zG), .unset, .unset, .unset, .unset, .unset, .unset, .unset, .unset, .unset, .unset, .unset, .unset, .unset] [(.int (((p5.toUInt32 >>> ((16 : Int32) &&& 31).toUInt32).toInt32) % (7 : Int32)))])
  obtain ⟨iH, lH, hH⟩ := own_rem ((p5.toUInt32 >>> ((16 : Int32) &&& 31).toUInt32).toInt32) (7 : Int32) 7 rfl (by decide) (own_hi p5)
  generalize (((p5.toUInt32 >>> ((16 : Int32) &&& 31).toUInt32).toInt32) % (7 : Int32)) = zH at hH ⊢
  show WP p e below _ T0 (mkF m 74 #[.val (.int p0), .val (.int p1), .val (.int p2), .val (.int p3), .val (.int p4), .val (.int p5), .val (.int cA), .val (.int cB), .val (.int cC), .val (.int zA), .val (.int zB), .val (.int zC), .val (.int zK), .val (.int zG), .unset, .unset, .unset, .unset, .unset, .unset, .unset, .unset, .unset, .unset, .unset, .unset, .unset] [(.int zH)])
  refine wp (fun _ => XS.istore X0.here hx rfl (hb hby at_74) rfl (l' := #[.val (.int p0), .val (.int p1), .val (.int p2), .val (.int p3), .val (.int p4), .val (.int p5), .val (.int cA), .val (.int cB), .val (.int cC), .val (.int zA), .val (.int zB), .val (.int zC), .val (.int zK), .val (.int zG), .val (.int zH), .unset, .unset, .unset, .unset, .unset, .unset, .unset, .unset, .unset, .unset, .unset, .unset]) rfl) ?_
  show WP p e below _ T0 (mkF m 76 #[.val (.int p0), .val (.int p1), .val (.int p2), .val (.int p3), .val (.int p4), .val (.int p5), .val (.int cA), .val (.int cB), .val (.int cC), .val (.int zA), .val (.int zB), .val (.int zC), .val (.int zK), .val (.int zG), .val (.int zH), .unset, .unset, .unset, .unset, .unset, .unset, .unset, .unset, .unset, .unset, .unset, .unset] [])
  refine wp (fun _ => XS.bipush X0.here hx rfl (hb hby at_76)) ?_
  show WP p e below _ T0 (mkF m 78 #[.val (.int p0), .val (.int p1), .val (.int p2), .val (.int p3), .val (.int p4), .val (.int p5), .val (.int cA), .val (.int cB), .val (.int cC), .val (.int zA), .val (.int zB), .val (.int zC), .val (.int zK), .val (.int zG), .val (.int zH), .unset, .unset, .unset, .unset, .unset, .unset, .unset, .unset, .unset, .unset, .unset, .unset] [(.int (6 : Int32))])
  refine wp_newarray C X0 e0 (hw _ (List.mem_of_getElem? (i := 2) rfl)) at_78 (n := 6) rfl (cap := 6) (by decide) (by decide) (by decide) (by decide) ?_
  intro T1 h1 X1 e1 E1 A1
  obtain ⟨r, gr⟩ : ∃ z, z = h0.size := ⟨_, rfl⟩
  rw [← gr] at A1 ⊢
  show WP p e below _ T1 (mkF m 80 #[.val (.int p0), .val (.int p1), .val (.int p2), .val (.int p3), .val (.int p4), .val (.int p5), .val (.int cA), .val (.int cB), .val (.int cC), .val (.int zA), .val (.int zB), .val (.int zC), .val (.int zK), .val (.int zG), .val (.int zH), .unset, .unset, .unset, .unset, .unset, .unset, .unset, .unset, .unset, .unset, .unset, .unset] [(.ref r)])
  have gr' : n0 ≤ r := by rw [gr]; exact Z0
  have N1 := Fr.nil n0
  have Z1 : n0 ≤ h1.size := Nat.le_trans Z0 E1.1
  refine wp (fun _ => XS.astore X1.here hx rfl (hb hby at_80) rfl rfl (l' := #[.val (.int p0), .val (.int p1), .val (.int p2), .val (.int p3), .val (.int p4), .val (.int p5), .val (.int cA), .val (.int cB), .val (.int cC), .val (.int zA), .val (.int zB), .val (.int zC), .val (.int zK), .val (.int zG), .val (.int zH), .val (.ref r), .unset, .unset, .unset, .unset, .unset, .unset, .unset, .unset, .unset, .unset, .unset]) rfl) ?_
  show WP p e below _ T1 (mkF m 82 #[.val (.int p0), .val (.int p1), .val (.int p2), .val (.int p3), .val (.int p4), .val (.int p5), .val (.int cA), .val (.int cB), .val (.int cC), .val (.int zA), .val (.int zB), .val (.int zC), .val (.int zK), .val (.int zG), .val (.int zH), .val (.ref r), .unset, .unset, .unset, .unset, .unset, .unset, .unset, .unset, .unset, .unset, .unset] [])
  refine wp (fun _ => XS.aload X1.here hx rfl (hb hby at_82) rfl rfl) ?_
  show WP p e below _ T1 (mkF m 84 #[.val (.int p0), .val (.int p1), .val (.int p2), .val (.int p3), .val (.int p4), .val (.int p5), .val (.int cA), .val (.int cB), .val (.int cC), .val (.int zA), .val (.int zB), .val (.int zC), .val (.int zK), .val (.int zG), .val (.int zH), .val (.ref r), .unset, .unset, .unset, .unset, .unset, .unset, .unset, .unset, .unset, .unset, .unset] [(.ref r)])
  refine wp (fun _ => XS.iload X1.here hx rfl (hb hby at_84) rfl) ?_
  show WP p e below _ T1 (mkF m 86 #[.val (.int p0), .val (.int p1), .val (.int p2), .val (.int p3), .val (.int p4), .val (.int p5), .val (.int cA), .val (.int cB), .val (.int cC), .val (.int zA), .val (.int zB), .val (.int zC), .val (.int zK), .val (.int zG), .val (.int zH), .val (.ref r), .unset, .unset, .unset, .unset, .unset, .unset, .unset, .unset, .unset, .unset, .unset] [(.int zA), (.ref r)])
  refine wp (fun _ => XS.iload X1.here hx rfl (hb hby at_86) rfl) ?_
  show WP p e below _ T1 (mkF m 88 #[.val (.int p0), .val (.int p1), .val (.int p2), .val (.int p3), .val (.int p4), .val (.int p5), .val (.int cA), .val (.int cB), .val (.int cC), .val (.int zA), .val (.int zB), .val (.int zC), .val (.int zK), .val (.int zG), .val (.int zH), .val (.ref r), .unset, .unset, .unset, .unset, .unset, .unset, .unset, .unset, .unset, .unset, .unset] [(.int cA), (.int zA), (.ref r)])
  refine wp (fun _ => XS.i2l X1.here hx rfl (hb hby at_88) rfl) ?_
  show WP p e below _ T1 (mkF m 89 #[.val (.int p0), .val (.int p1), .val (.int p2), .val (.int p3), .val (.int p4), .val (.int p5), .val (.int cA), .val (.int cB), .val (.int cC), .val (.int zA), .val (.int zB), .val (.int zC), .val (.int zK), .val (.int zG), .val (.int zH), .val (.ref r), .unset, .unset, .unset, .unset, .unset, .unset, .unset, .unset, .unset, .unset, .unset] [(.long cA.toInt64), (.int zA), (.ref r)])
  refine wp_lastore C X1 e1 A1 hA lA at_89 ?_
  intro T2 h2 X2 e2 W2 A2
  have N2 := Frs (sl := zA.toNatClampNeg) N1 gr'
  have Z2 : n0 ≤ h2.size := by rw [W2.size]; exact Z1
  show WP p e below _ T2 (mkF m 90 #[.val (.int p0), .val (.int p1), .val (.int p2), .val (.int p3), .val (.int p4), .val (.int p5), .val (.int cA), .val (.int cB), .val (.int cC), .val (.int zA), .val (.int zB), .val (.int zC), .val (.int zK), .val (.int zG), .val (.int zH), .val (.ref r), .unset, .unset, .unset, .unset, .unset, .unset, .unset, .unset, .unset, .unset, .unset] [])
  refine wp (fun _ => XS.aload X2.here hx rfl (hb hby at_90) rfl rfl) ?_
  show WP p e below _ T2 (mkF m 92 #[.val (.int p0), .val (.int p1), .val (.int p2), .val (.int p3), .val (.int p4), .val (.int p5), .val (.int cA), .val (.int cB), .val (.int cC), .val (.int zA), .val (.int zB), .val (.int zC), .val (.int zK), .val (.int zG), .val (.int zH), .val (.ref r), .unset, .unset, .unset, .unset, .unset, .unset, .unset, .unset, .unset, .unset, .unset] [(.ref r)])
  refine wp (fun _ => XS.iload X2.here hx rfl (hb hby at_92) rfl) ?_
  show WP p e below _ T2 (mkF m 94 #[.val (.int p0), .val (.int p1), .val (.int p2), .val (.int p3), .val (.int p4), .val (.int p5), .val (.int cA), .val (.int cB), .val (.int cC), .val (.int zA), .val (.int zB), .val (.int zC), .val (.int zK), .val (.int zG), .val (.int zH), .val (.ref r), .unset, .unset, .unset, .unset, .unset, .unset, .unset, .unset, .unset, .unset, .unset] [(.int zB), (.ref r)])
  refine wp (fun _ => XS.iload X2.here hx rfl (hb hby at_94) rfl) ?_
  show WP p e below _ T2 (mkF m 96 #[.val (.int p0), .val (.int p1), .val (.int p2), .val (.int p3), .val (.int p4), .val (.int p5), .val (.int cA), .val (.int cB), .val (.int cC), .val (.int zA), .val (.int zB), .val (.int zC), .val (.int zK), .val (.int zG), .val (.int zH), .val (.ref r), .unset, .unset, .unset, .unset, .unset, .unset, .unset, .unset, .unset, .unset, .unset] [(.int cB), (.int zB), (.ref r)])
  refine wp (fun _ => XS.i2l X2.here hx rfl (hb hby at_96) rfl) ?_
  show WP p e below _ T2 (mkF m 97 #[.val (.int p0), .val (.int p1), .val (.int p2), .val (.int p3), .val (.int p4), .val (.int p5), .val (.int cA), .val (.int cB), .val (.int cC), .val (.int zA), .val (.int zB), .val (.int zC), .val (.int zK), .val (.int zG), .val (.int zH), .val (.ref r), .unset, .unset, .unset, .unset, .unset, .unset, .unset, .unset, .unset, .unset, .unset] [(.long cB.toInt64), (.int zB), (.ref r)])
  refine wp_lastore C X2 e2 A2 hB lB at_97 ?_
  intro T3 h3 X3 e3 W3 A3
  have N3 := Frs (sl := zB.toNatClampNeg) N2 gr'
  have Z3 : n0 ≤ h3.size := by rw [W3.size]; exact Z2
  show WP p e below _ T3 (mkF m 98 #[.val (.int p0), .val (.int p1), .val (.int p2), .val (.int p3), .val (.int p4), .val (.int p5), .val (.int cA), .val (.int cB), .val (.int cC), .val (.int zA), .val (.int zB), .val (.int zC), .val (.int zK), .val (.int zG), .val (.int zH), .val (.ref r), .unset, .unset, .unset, .unset, .unset, .unset, .unset, .unset, .unset, .unset, .unset] [])
  refine wp (fun _ => XS.aload X3.here hx rfl (hb hby at_98) rfl rfl) ?_
  show WP p e below _ T3 (mkF m 100 #[.val (.int p0), .val (.int p1), .val (.int p2), .val (.int p3), .val (.int p4), .val (.int p5), .val (.int cA), .val (.int cB), .val (.int cC), .val (.int zA), .val (.int zB), .val (.int zC), .val (.int zK), .val (.int zG), .val (.int zH), .val (.ref r), .unset, .unset, .unset, .unset, .unset, .unset, .unset, .unset, .unset, .unset, .unset] [(.ref r)])
  refine wp (fun _ => XS.iload X3.here hx rfl (hb hby at_100) rfl) ?_
  show WP p e below _ T3 (mkF m 102 #[.val (.int p0), .val (.int p1), .val (.int p2), .val (.int p3), .val (.int p4), .val (.int p5), .val (.int cA), .val (.int cB), .val (.int cC), .val (.int zA), .val (.int zB), .val (.int zC), .val (.int zK), .val (.int zG), .val (.int zH), .val (.ref r), .unset, .unset, .unset, .unset, .unset, .unset, .unset, .unset, .unset, .unset, .unset] [(.int zC), (.ref r)])
  refine wp (fun _ => XS.iload X3.here hx rfl (hb hby at_102) rfl) ?_
  show WP p e below _ T3 (mkF m 104 #[.val (.int p0), .val (.int p1), .val (.int p2), .val (.int p3), .val (.int p4), .val (.int p5), .val (.int cA), .val (.int cB), .val (.int cC), .val (.int zA), .val (.int zB), .val (.int zC), .val (.int zK), .val (.int zG), .val (.int zH), .val (.ref r), .unset, .unset, .unset, .unset, .unset, .unset, .unset, .unset, .unset, .unset, .unset] [(.int cC), (.int zC), (.ref r)])
  refine wp (fun _ => XS.i2l X3.here hx rfl (hb hby at_104) rfl) ?_
  show WP p e below _ T3 (mkF m 105 #[.val (.int p0), .val (.int p1), .val (.int p2), .val (.int p3), .val (.int p4), .val (.int p5), .val (.int cA), .val (.int cB), .val (.int cC), .val (.int zA), .val (.int zB), .val (.int zC), .val (.int zK), .val (.int zG), .val (.int zH), .val (.ref r), .unset, .unset, .unset, .unset, .unset, .unset, .unset, .unset, .unset, .unset, .unset] [(.long cC.toInt64), (.int zC), (.ref r)])
  refine wp_lastore C X3 e3 A3 hCc lCc at_105 ?_
  intro T4 h4 X4 e4 W4 A4
  have N4 := Frs (sl := zC.toNatClampNeg) N3 gr'
  have Z4 : n0 ≤ h4.size := by rw [W4.size]; exact Z3
  show WP p e below _ T4 (mkF m 106 #[.val (.int p0), .val (.int p1), .val (.int p2), .val (.int p3), .val (.int p4), .val (.int p5), .val (.int cA), .val (.int cB), .val (.int cC), .val (.int zA), .val (.int zB), .val (.int zC), .val (.int zK), .val (.int zG), .val (.int zH), .val (.ref r), .unset, .unset, .unset, .unset, .unset, .unset, .unset, .unset, .unset, .unset, .unset] [])
  obtain ⟨x, hxx⟩ : ∃ x, x = (own_up (own_up (own_up (fun _ => 0) iA cA) iB cB) iCc cC) := ⟨_, rfl⟩
  have Ar : Af Z h4 r .long 6 (fun j => .long (own_y x j)) := A4.conv fun j hj => by
    rw [hxx, own_y_up, own_y_up, own_y_up]
    (repeat' split) <;> rfl
  refine wp (fun _ => XS.aload X4.here hx rfl (hb hby at_106) rfl rfl) ?_
  show WP p e below _ T4 (mkF m 108 #[.val (.int p0), .val (.int p1), .val (.int p2), .val (.int p3), .val (.int p4), .val (.int p5), .val (.int cA), .val (.int cB), .val (.int cC), .val (.int zA), .val (.int zB), .val (.int zC), .val (.int zK), .val (.int zG), .val (.int zH), .val (.ref r), .unset, .unset, .unset, .unset, .unset, .unset, .unset, .unset, .unset, .unset, .unset] [(.ref r)])
  refine wp (fun _ => XS.iload X4.here hx rfl (hb hby at_108) rfl) ?_
  show WP p e below _ T4 (mkF m 110 #[.val (.int p0), .val (.int p1), .val (.int p2), .val (.int p3), .val (.int p4), .val (.int p5), .val (.int cA), .val (.int cB), .val (.int cC), .val (.int zA), .val (.int zB), .val (.int zC), .val (.int zK), .val (.int zG), .val (.int zH), .val (.ref r), .unset, .unset, .unset, .unset, .unset, .unset, .unset, .unset, .unset, .unset, .unset] [(.int zK), (.ref r)])
  refine wp_staticP C X4 e4 (argsL := [(.ref r), (.int zK)]) (rest := []) (rm_pre l Z a0 hw [] r zK iK (own_y x) h4 hK (by omega) Ar) (hw _ (List.mem_of_getElem? (i := 3) rfl)) (hw _ (List.mem_of_getElem? (i := 4) rfl)) (hw _ (List.mem_of_getElem? (i := 5) rfl)) (hw _ (List.mem_of_getElem? (i := 6) rfl)) (by decide) rfl (lenOf pd_pre rfl) at_110 rfl rfl rfl (by decide) (Nat.le_of_ble_eq_true rfl) (by decide) (by decide) ?_
  intro T5 X5 e5
  show WP p e below _ T5 (mkF m 113 #[.val (.int p0), .val (.int p1), .val (.int p2), .val (.int p3), .val (.int p4), .val (.int p5), .val (.int cA), .val (.int cB), .val (.int cC), .val (.int zA), .val (.int zB), .val (.int zC), .val (.int zK), .val (.int zG), .val (.int zH), .val (.ref r), .unset, .unset, .unset, .unset, .unset, .unset, .unset, .unset, .unset, .unset, .unset] [(.long (own_pre (own_y x) iK))])
  refine wp (fun _ => XS.lstore X5.here hx rfl (hb hby at_113) rfl (l' := #[.val (.int p0), .val (.int p1), .val (.int p2), .val (.int p3), .val (.int p4), .val (.int p5), .val (.int cA), .val (.int cB), .val (.int cC), .val (.int zA), .val (.int zB), .val (.int zC), .val (.int zK), .val (.int zG), .val (.int zH), .val (.ref r), .val (.long (own_pre (own_y x) iK)), .second, .unset, .unset, .unset, .unset, .unset, .unset, .unset, .unset, .unset]) rfl) ?_
  show WP p e below _ T5 (mkF m 115 #[.val (.int p0), .val (.int p1), .val (.int p2), .val (.int p3), .val (.int p4), .val (.int p5), .val (.int cA), .val (.int cB), .val (.int cC), .val (.int zA), .val (.int zB), .val (.int zC), .val (.int zK), .val (.int zG), .val (.int zH), .val (.ref r), .val (.long (own_pre (own_y x) iK)), .second, .unset, .unset, .unset, .unset, .unset, .unset, .unset, .unset, .unset] [])
  refine wp (fun _ => XS.aload X5.here hx rfl (hb hby at_115) rfl rfl) ?_
  show WP p e below _ T5 (mkF m 117 #[.val (.int p0), .val (.int p1), .val (.int p2), .val (.int p3), .val (.int p4), .val (.int p5), .val (.int cA), .val (.int cB), .val (.int cC), .val (.int zA), .val (.int zB), .val (.int zC), .val (.int zK), .val (.int zG), .val (.int zH), .val (.ref r), .val (.long (own_pre (own_y x) iK)), .second, .unset, .unset, .unset, .unset, .unset, .unset, .unset, .unset, .unset] [(.ref r)])
  refine wp (fun _ => XS.iload X5.here hx rfl (hb hby at_117) rfl) ?_
  show WP p e below _ T5 (mkF m 119 #[.val (.int p0), .val (.int p1), .val (.int p2), .val (.int p3), .val (.int p4), .val (.int p5), .val (.int cA), .val (.int cB), .val (.int cC), .val (.int zA), .val (.int zB), .val (.int zC), .val (.int zK), .val (.int zG), .val (.int zH), .val (.ref r), .val (.long (own_pre (own_y x) iK)), .second, .unset, .unset, .unset, .unset, .unset, .unset, .unset, .unset, .unset] [(.int zH), (.ref r)])
  refine wp_staticP C X5 e5 (argsL := [(.ref r), (.int zH)]) (rest := []) (rm_pre l Z a0 hw [] r zH iH (own_y x) h4 hH (by omega) Ar) (hw _ (List.mem_of_getElem? (i := 3) rfl)) (hw _ (List.mem_of_getElem? (i := 4) rfl)) (hw _ (List.mem_of_getElem? (i := 5) rfl)) (hw _ (List.mem_of_getElem? (i := 6) rfl)) (by decide) rfl (lenOf pd_pre rfl) at_119 rfl rfl rfl (by decide) (Nat.le_of_ble_eq_true rfl) (by decide) (by decide) ?_
  intro T6 X6 e6
  show WP p e below _ T6 (mkF m 122 #[.val (.int p0), .val (.int p1), .val (.int p2), .val (.int p3), .val (.int p4), .val (.int p5), .val (.int cA), .val (.int cB), .val (.int cC), .val (.int zA), .val (.int zB), .val (.int zC), .val (.int zK), .val (.int zG), .val (.int zH), .val (.ref r), .val (.long (own_pre (own_y x) iK)), .second, .unset, .unset, .unset, .unset, .unset, .unset, .unset, .unset, .unset] [(.long (own_pre (own_y x) iH))])
  refine wp (fun _ => XS.lstore X6.here hx rfl (hb hby at_122) rfl (l' := #[.val (.int p0), .val (.int p1), .val (.int p2), .val (.int p3), .val (.int p4), .val (.int p5), .val (.int cA), .val (.int cB), .val (.int cC), .val (.int zA), .val (.int zB), .val (.int zC), .val (.int zK), .val (.int zG), .val (.int zH), .val (.ref r), .val (.long (own_pre (own_y x) iK)), .second, .val (.long (own_pre (own_y x) iH)), .second, .unset, .unset, .unset, .unset, .unset, .unset, .unset]) rfl) ?_
  show WP p e below _ T6 (mkF m 124 #[.val (.int p0), .val (.int p1), .val (.int p2), .val (.int p3), .val (.int p4), .val (.int p5), .val (.int cA), .val (.int cB), .val (.int cC), .val (.int zA), .val (.int zB), .val (.int zC), .val (.int zK), .val (.int zG), .val (.int zH), .val (.ref r), .val (.long (own_pre (own_y x) iK)), .second, .val (.long (own_pre (own_y x) iH)), .second, .unset, .unset, .unset, .unset, .unset, .unset, .unset] [])
  refine wp (fun _ => XS.aload X6.here hx rfl (hb hby at_124) rfl rfl) ?_
  show WP p e below _ T6 (mkF m 126 #[.val (.int p0), .val (.int p1), .val (.int p2), .val (.int p3), .val (.int p4), .val (.int p5), .val (.int cA), .val (.int cB), .val (.int cC), .val (.int zA), .val (.int zB), .val (.int zC), .val (.int zK), .val (.int zG), .val (.int zH), .val (.ref r), .val (.long (own_pre (own_y x) iK)), .second, .val (.long (own_pre (own_y x) iH)), .second, .unset, .unset, .unset, .unset, .unset, .unset, .unset] [(.ref r)])
  refine wp (fun _ => XS.bipush X6.here hx rfl (hb hby at_126)) ?_
  show WP p e below _ T6 (mkF m 128 #[.val (.int p0), .val (.int p1), .val (.int p2), .val (.int p3), .val (.int p4), .val (.int p5), .val (.int cA), .val (.int cB), .val (.int cC), .val (.int zA), .val (.int zB), .val (.int zC), .val (.int zK), .val (.int zG), .val (.int zH), .val (.ref r), .val (.long (own_pre (own_y x) iK)), .second, .val (.long (own_pre (own_y x) iH)), .second, .unset, .unset, .unset, .unset, .unset, .unset, .unset] [(.int (6 : Int32)), (.ref r)])
  refine wp_staticP C X6 e6 (argsL := [(.ref r), (.int (6 : Int32))]) (rest := []) (rm_pre l Z a0 hw [] r (6 : Int32) 6 (own_y x) h4 rfl (by decide) Ar) (hw _ (List.mem_of_getElem? (i := 3) rfl)) (hw _ (List.mem_of_getElem? (i := 4) rfl)) (hw _ (List.mem_of_getElem? (i := 5) rfl)) (hw _ (List.mem_of_getElem? (i := 6) rfl)) (by decide) rfl (lenOf pd_pre rfl) at_128 rfl rfl rfl (by decide) (Nat.le_of_ble_eq_true rfl) (by decide) (by decide) ?_
  intro T7 X7 e7
  show WP p e below _ T7 (mkF m 131 #[.val (.int p0), .val (.int p1), .val (.int p2), .val (.int p3), .val (.int p4), .val (.int p5), .val (.int cA), .val (.int cB), .val (.int cC), .val (.int zA), .val (.int zB), .val (.int zC), .val (.int zK), .val (.int zG), .val (.int zH), .val (.ref r), .val (.long (own_pre (own_y x) iK)), .second, .val (.long (own_pre (own_y x) iH)), .second, .unset, .unset, .unset, .unset, .unset, .unset, .unset] [(.long (own_pre (own_y x) 6))])
  refine wp (fun _ => XS.lstore X7.here hx rfl (hb hby at_131) rfl (l' := #[.val (.int p0), .val (.int p1), .val (.int p2), .val (.int p3), .val (.int p4), .val (.int p5), .val (.int cA), .val (.int cB), .val (.int cC), .val (.int zA), .val (.int zB), .val (.int zC), .val (.int zK), .val (.int zG), .val (.int zH), .val (.ref r), .val (.long (own_pre (own_y x) iK)), .second, .val (.long (own_pre (own_y x) iH)), .second, .val (.long (own_pre (own_y x) 6)), .second, .unset, .unset, .unset, .unset, .unset]) rfl) ?_
  show WP p e below _ T7 (mkF m 133 #[.val (.int p0), .val (.int p1), .val (.int p2), .val (.int p3), .val (.int p4), .val (.int p5), .val (.int cA), .val (.int cB), .val (.int cC), .val (.int zA), .val (.int zB), .val (.int zC), .val (.int zK), .val (.int zG), .val (.int zH), .val (.ref r), .val (.long (own_pre (own_y x) iK)), .second, .val (.long (own_pre (own_y x) iH)), .second, .val (.long (own_pre (own_y x) 6)), .second, .unset, .unset, .unset, .unset, .unset] [])
  refine wp_new C X7 e7 (hw _ (List.mem_of_getElem? (i := 7) rfl)) (hw _ (List.mem_of_getElem? (i := 8) rfl)) (hw _ (List.mem_of_getElem? (i := 9) rfl)) at_133 (by decide) (by decide) ?_
  intro T8 h8 X8 e8 E8 B8 D8
  obtain ⟨b, gb⟩ : ∃ z, z = h4.size := ⟨_, rfl⟩
  rw [← gb] at B8 D8 ⊢
  have gb' : n0 ≤ b := by rw [gb]; exact Z4
  have Z8 : n0 ≤ h8.size := Nat.le_trans Z4 E8.1
  have nrb : r ≠ b := by rw [gb]; exact Nat.ne_of_lt Ar.lt
  show WP p e below _ T8 (mkF m 136 #[.val (.int p0), .val (.int p1), .val (.int p2), .val (.int p3), .val (.int p4), .val (.int p5), .val (.int cA), .val (.int cB), .val (.int cC), .val (.int zA), .val (.int zB), .val (.int zC), .val (.int zK), .val (.int zG), .val (.int zH), .val (.ref r), .val (.long (own_pre (own_y x) iK)), .second, .val (.long (own_pre (own_y x) iH)), .second, .val (.long (own_pre (own_y x) 6)), .second, .unset, .unset, .unset, .unset, .unset] [(.ref b)])
  refine wp (fun _ => XS.dup X8.here hx rfl (hb hby at_136) rfl rfl) ?_
  show WP p e below _ T8 (mkF m 137 #[.val (.int p0), .val (.int p1), .val (.int p2), .val (.int p3), .val (.int p4), .val (.int p5), .val (.int cA), .val (.int cB), .val (.int cC), .val (.int zA), .val (.int zB), .val (.int zC), .val (.int zK), .val (.int zG), .val (.int zH), .val (.ref r), .val (.long (own_pre (own_y x) iK)), .second, .val (.long (own_pre (own_y x) iH)), .second, .val (.long (own_pre (own_y x) 6)), .second, .unset, .unset, .unset, .unset, .unset] [(.ref b), (.ref b)])
  refine wp (fun _ => XS.bipush X8.here hx rfl (hb hby at_137)) ?_
  show WP p e below _ T8 (mkF m 139 #[.val (.int p0), .val (.int p1), .val (.int p2), .val (.int p3), .val (.int p4), .val (.int p5), .val (.int cA), .val (.int cB), .val (.int cC), .val (.int zA), .val (.int zB), .val (.int zC), .val (.int zK), .val (.int zG), .val (.int zH), .val (.ref r), .val (.long (own_pre (own_y x) iK)), .second, .val (.long (own_pre (own_y x) iH)), .second, .val (.long (own_pre (own_y x) 6)), .second, .unset, .unset, .unset, .unset, .unset] [(.int (6 : Int32)), (.ref b), (.ref b)])
  refine wp_special C X8 e8 (argsL := [(.int (6 : Int32))]) (rest := [(.ref b)]) (rm_ini l Z a0 hw [] b h8 n0 Z8 gb' B8 (D8 (Or.inr (hw _ (List.mem_of_getElem? (i := 18) rfl))) (ty := (.array .int)) (by decide)) (D8 (Or.inr (hw _ (List.mem_of_getElem? (i := 20) rfl))) (ty := (.array .long)) (by decide)) (D8 (Or.inr (hw _ (List.mem_of_getElem? (i := 31) rfl))) (ty := .int) (by decide)) (D8 (Or.inl (hw _ (List.mem_of_getElem? (i := 38) rfl))) (ty := .long) (by decide))) rfl (hw _ (List.mem_of_getElem? (i := 10) rfl)) (hw _ (List.mem_of_getElem? (i := 11) rfl)) (hw _ (List.mem_of_getElem? (i := 12) rfl)) (hw _ (List.mem_of_getElem? (i := 9) rfl)) (by decide) rfl (lenOf pd_ini rfl) at_139 rfl (by decide) (Nat.le_of_ble_eq_true rfl) (by decide) (by decide) ?_
  rintro T9 _ L9 X9 ⟨rfl, M9, K9, ca, da, gc, gd, oc, od, Tt9⟩
  have N9 := Fr.app N4 M9
  have Ar9 := (Ar.ext E8).keep K9 (ninS nrb nin0)
  have lr : r < h8.size := (Ar.ext E8).lt
  have nrc : r ≠ ca := Nat.ne_of_lt (Nat.lt_of_lt_of_le lr oc)
  have nrd : r ≠ da := Nat.ne_of_lt (Nat.lt_of_lt_of_le lr od)
  show WP p e below _ T9 (mkF m 142 #[.val (.int p0), .val (.int p1), .val (.int p2), .val (.int p3), .val (.int p4), .val (.int p5), .val (.int cA), .val (.int cB), .val (.int cC), .val (.int zA), .val (.int zB), .val (.int zC), .val (.int zK), .val (.int zG), .val (.int zH), .val (.ref r), .val (.long (own_pre (own_y x) iK)), .second, .val (.long (own_pre (own_y x) iH)), .second, .val (.long (own_pre (own_y x) 6)), .second, .unset, .unset, .unset, .unset, .unset] [(.ref b)])
  refine wp (fun _ => XS.astore X9.here hx rfl (hb hby at_142) rfl rfl (l' := #[.val (.int p0), .val (.int p1), .val (.int p2), .val (.int p3), .val (.int p4), .val (.int p5), .val (.int cA), .val (.int cB), .val (.int cC), .val (.int zA), .val (.int zB), .val (.int zC), .val (.int zK), .val (.int zG), .val (.int zH), .val (.ref r), .val (.long (own_pre (own_y x) iK)), .second, .val (.long (own_pre (own_y x) iH)), .second, .val (.long (own_pre (own_y x) 6)), .second, .val (.ref b), .unset, .unset, .unset, .unset]) rfl) ?_
  show WP p e below _ T9 (mkF m 144 #[.val (.int p0), .val (.int p1), .val (.int p2), .val (.int p3), .val (.int p4), .val (.int p5), .val (.int cA), .val (.int cB), .val (.int cC), .val (.int zA), .val (.int zB), .val (.int zC), .val (.int zK), .val (.int zG), .val (.int zH), .val (.ref r), .val (.long (own_pre (own_y x) iK)), .second, .val (.long (own_pre (own_y x) iH)), .second, .val (.long (own_pre (own_y x) 6)), .second, .val (.ref b), .unset, .unset, .unset, .unset] [])
  refine wp (fun _ => XS.aload X9.here hx rfl (hb hby at_144) rfl rfl) ?_
  show WP p e below _ T9 (mkF m 146 #[.val (.int p0), .val (.int p1), .val (.int p2), .val (.int p3), .val (.int p4), .val (.int p5), .val (.int cA), .val (.int cB), .val (.int cC), .val (.int zA), .val (.int zB), .val (.int zC), .val (.int zK), .val (.int zG), .val (.int zH), .val (.ref r), .val (.long (own_pre (own_y x) iK)), .second, .val (.long (own_pre (own_y x) iH)), .second, .val (.long (own_pre (own_y x) 6)), .second, .val (.ref b), .unset, .unset, .unset, .unset] [(.ref b)])
  refine wp (fun _ => XS.iload X9.here hx rfl (hb hby at_146) rfl) ?_
  show WP p e below _ T9 (mkF m 148 #[.val (.int p0), .val (.int p1), .val (.int p2), .val (.int p3), .val (.int p4), .val (.int p5), .val (.int cA), .val (.int cB), .val (.int cC), .val (.int zA), .val (.int zB), .val (.int zC), .val (.int zK), .val (.int zG), .val (.int zH), .val (.ref r), .val (.long (own_pre (own_y x) iK)), .second, .val (.long (own_pre (own_y x) iH)), .second, .val (.long (own_pre (own_y x) 6)), .second, .val (.ref b), .unset, .unset, .unset, .unset] [(.int zA), (.ref b)])
  refine wp (fun _ => XS.iload X9.here hx rfl (hb hby at_148) rfl) ?_
  show WP p e below _ T9 (mkF m 150 #[.val (.int p0), .val (.int p1), .val (.int p2), .val (.int p3), .val (.int p4), .val (.int p5), .val (.int cA), .val (.int cB), .val (.int cC), .val (.int zA), .val (.int zB), .val (.int zC), .val (.int zK), .val (.int zG), .val (.int zH), .val (.ref r), .val (.long (own_pre (own_y x) iK)), .second, .val (.long (own_pre (own_y x) iH)), .second, .val (.long (own_pre (own_y x) 6)), .second, .val (.ref b), .unset, .unset, .unset, .unset] [(.int cA), (.int zA), (.ref b)])
  refine wp_virtual C X9 rfl (y := (⟨"com/example/placewright/placewright/engine/CountTree", "set", "(II)V"⟩ : MethodName)) (b := b) Tt9.1.1 (argsL := [(.int zA), (.int cA)]) (rest := []) (rm_set l Z a0 hw [] b ca da zA cA iA n0 (fun _ => 0) T9.heap hA lA gb' gc gd Tt9) (hw _ (List.mem_of_getElem? (i := 32) rfl)) (hw _ (List.mem_of_getElem? (i := 33) rfl)) (hw _ (List.mem_of_getElem? (i := 35) rfl)) (hw _ (List.mem_of_getElem? (i := 34) rfl)) (hw _ (List.mem_of_getElem? (i := 36) rfl)) (hw _ (List.mem_of_getElem? (i := 9) rfl)) (by decide) rfl (lenOf pd_set rfl) at_150 rfl (by decide) (Nat.le_of_ble_eq_true rfl) (by decide) (by decide) ?_
  rintro T10 _ L10 X10 ⟨rfl, M10, K10, Tt10⟩
  have N10 := Fr.app N9 M10
  have Ar10 := Ar9.keep K10 (ninS nrb (ninS nrc (ninS nrd nin0)))
  show WP p e below _ T10 (mkF m 153 #[.val (.int p0), .val (.int p1), .val (.int p2), .val (.int p3), .val (.int p4), .val (.int p5), .val (.int cA), .val (.int cB), .val (.int cC), .val (.int zA), .val (.int zB), .val (.int zC), .val (.int zK), .val (.int zG), .val (.int zH), .val (.ref r), .val (.long (own_pre (own_y x) iK)), .second, .val (.long (own_pre (own_y x) iH)), .second, .val (.long (own_pre (own_y x) 6)), .second, .val (.ref b), .unset, .unset, .unset, .unset] [])
  refine wp (fun _ => XS.aload X10.here hx rfl (hb hby at_153) rfl rfl) ?_
  show WP p e below _ T10 (mkF m 155 #[.val (.int p0), .val (.int p1), .val (.int p2), .val (.int p3), .val (.int p4), .val (.int p5), .val (.int cA), .val (.int cB), .val (.int cC), .val (.int zA), .val (.int zB), .val (.int zC), .val (.int zK), .val (.int zG), .val (.int zH), .val (.ref r), .val (.long (own_pre (own_y x) iK)), .second, .val (.long (own_pre (own_y x) iH)), .second, .val (.long (own_pre (own_y x) 6)), .second, .val (.ref b), .unset, .unset, .unset, .unset] [(.ref b)])
  refine wp (fun _ => XS.iload X10.here hx rfl (hb hby at_155) rfl) ?_
  show WP p e below _ T10 (mkF m 157 #[.val (.int p0), .val (.int p1), .val (.int p2), .val (.int p3), .val (.int p4), .val (.int p5), .val (.int cA), .val (.int cB), .val (.int cC), .val (.int zA), .val (.int zB), .val (.int zC), .val (.int zK), .val (.int zG), .val (.int zH), .val (.ref r), .val (.long (own_pre (own_y x) iK)), .second, .val (.long (own_pre (own_y x) iH)), .second, .val (.long (own_pre (own_y x) 6)), .second, .val (.ref b), .unset, .unset, .unset, .unset] [(.int zB), (.ref b)])
  refine wp (fun _ => XS.iload X10.here hx rfl (hb hby at_157) rfl) ?_
  show WP p e below _ T10 (mkF m 159 #[.val (.int p0), .val (.int p1), .val (.int p2), .val (.int p3), .val (.int p4), .val (.int p5), .val (.int cA), .val (.int cB), .val (.int cC), .val (.int zA), .val (.int zB), .val (.int zC), .val (.int zK), .val (.int zG), .val (.int zH), .val (.ref r), .val (.long (own_pre (own_y x) iK)), .second, .val (.long (own_pre (own_y x) iH)), .second, .val (.long (own_pre (own_y x) 6)), .second, .val (.ref b), .unset, .unset, .unset, .unset] [(.int cB), (.int zB), (.ref b)])
  refine wp_virtual C X10 rfl (y := (⟨"com/example/placewright/placewright/engine/CountTree", "set", "(II)V"⟩ : MethodName)) (b := b) Tt10.1.1 (argsL := [(.int zB), (.int cB)]) (rest := []) (rm_set l Z a0 hw [] b ca da zB cB iB n0 (own_up (fun _ => 0) iA cA) T10.heap hB lB gb' gc gd Tt10) (hw _ (List.mem_of_getElem? (i := 32) rfl)) (hw _ (List.mem_of_getElem? (i := 33) rfl)) (hw _ (List.mem_of_getElem? (i := 35) rfl)) (hw _ (List.mem_of_getElem? (i := 34) rfl)) (hw _ (List.mem_of_getElem? (i := 36) rfl)) (hw _ (List.mem_of_getElem? (i := 9) rfl)) (by decide) rfl (lenOf pd_set rfl) at_159 rfl (by decide) (Nat.le_of_ble_eq_true rfl) (by decide) (by decide) ?_
  rintro T11 _ L11 X11 ⟨rfl, M11, K11, Tt11⟩
  have N11 := Fr.app N10 M11
  have Ar11 := Ar10.keep K11 (ninS nrb (ninS nrc (ninS nrd nin0)))
  show WP p e below _ T11 (mkF m 162 #[.val (.int p0), .val (.int p1), .val (.int p2), .val (.int p3), .val (.int p4), .val (.int p5), .val (.int cA), .val (.int cB), .val (.int cC), .val (.int zA), .val (.int zB), .val (.int zC), .val (.int zK), .val (.int zG), .val (.int zH), .val (.ref r), .val (.long (own_pre (own_y x) iK)), .second, .val (.long (own_pre (own_y x) iH)), .second, .val (.long (own_pre (own_y x) 6)), .second, .val (.ref b), .unset, .unset, .unset, .unset] [])
  refine wp (fun _ => XS.aload X11.here hx rfl (hb hby at_162) rfl rfl) ?_
  show WP p e below _ T11 (mkF m 164 #[.val (.int p0), .val (.int p1), .val (.int p2), .val (.int p3), .val (.int p4), .val (.int p5), .val (.int cA), .val (.int cB), .val (.int cC), .val (.int zA), .val (.int zB), .val (.int zC), .val (.int zK), .val (.int zG), .val (.int zH), .val (.ref r), .val (.long (own_pre (own_y x) iK)), .second, .val (.long (own_pre (own_y x) iH)), .second, .val (.long (own_pre (own_y x) 6)), .second, .val (.ref b), .unset, .unset, .unset, .unset] [(.ref b)])
  refine wp (fun _ => XS.iload X11.here hx rfl (hb hby at_164) rfl) ?_
  show WP p e below _ T11 (mkF m 166 #[.val (.int p0), .val (.int p1), .val (.int p2), .val (.int p3), .val (.int p4), .val (.int p5), .val (.int cA), .val (.int cB), .val (.int cC), .val (.int zA), .val (.int zB), .val (.int zC), .val (.int zK), .val (.int zG), .val (.int zH), .val (.ref r), .val (.long (own_pre (own_y x) iK)), .second, .val (.long (own_pre (own_y x) iH)), .second, .val (.long (own_pre (own_y x) 6)), .second, .val (.ref b), .unset, .unset, .unset, .unset] [(.int zC), (.ref b)])
  refine wp (fun _ => XS.iload X11.here hx rfl (hb hby at_166) rfl) ?_
  show WP p e below _ T11 (mkF m 168 #[.val (.int p0), .val (.int p1), .val (.int p2), .val (.int p3), .val (.int p4), .val (.int p5), .val (.int cA), .val (.int cB), .val (.int cC), .val (.int zA), .val (.int zB), .val (.int zC), .val (.int zK), .val (.int zG), .val (.int zH), .val (.ref r), .val (.long (own_pre (own_y x) iK)), .second, .val (.long (own_pre (own_y x) iH)), .second, .val (.long (own_pre (own_y x) 6)), .second, .val (.ref b), .unset, .unset, .unset, .unset] [(.int cC), (.int zC), (.ref b)])
  refine wp_virtual C X11 rfl (y := (⟨"com/example/placewright/placewright/engine/CountTree", "set", "(II)V"⟩ : MethodName)) (b := b) Tt11.1.1 (argsL := [(.int zC), (.int cC)]) (rest := []) (rm_set l Z a0 hw [] b ca da zC cC iCc n0 (own_up (own_up (fun _ => 0) iA cA) iB cB) T11.heap hCc lCc gb' gc gd Tt11) (hw _ (List.mem_of_getElem? (i := 32) rfl)) (hw _ (List.mem_of_getElem? (i := 33) rfl)) (hw _ (List.mem_of_getElem? (i := 35) rfl)) (hw _ (List.mem_of_getElem? (i := 34) rfl)) (hw _ (List.mem_of_getElem? (i := 36) rfl)) (hw _ (List.mem_of_getElem? (i := 9) rfl)) (by decide) rfl (lenOf pd_set rfl) at_168 rfl (by decide) (Nat.le_of_ble_eq_true rfl) (by decide) (by decide) ?_
  rintro T12 _ L12 X12 ⟨rfl, M12, K12, Tt12⟩
  have N12 := Fr.app N11 M12
  have Ar12 := Ar11.keep K12 (ninS nrb (ninS nrc (ninS nrd nin0)))
  show WP p e below _ T12 (mkF m 171 #[.val (.int p0), .val (.int p1), .val (.int p2), .val (.int p3), .val (.int p4), .val (.int p5), .val (.int cA), .val (.int cB), .val (.int cC), .val (.int zA), .val (.int zB), .val (.int zC), .val (.int zK), .val (.int zG), .val (.int zH), .val (.ref r), .val (.long (own_pre (own_y x) iK)), .second, .val (.long (own_pre (own_y x) iH)), .second, .val (.long (own_pre (own_y x) 6)), .second, .val (.ref b), .unset, .unset, .unset, .unset] [])
  refine wp (fun _ => XS.aload X12.here hx rfl (hb hby at_171) rfl rfl) ?_
  show WP p e below _ T12 (mkF m 173 #[.val (.int p0), .val (.int p1), .val (.int p2), .val (.int p3), .val (.int p4), .val (.int p5), .val (.int cA), .val (.int cB), .val (.int cC), .val (.int zA), .val (.int zB), .val (.int zC), .val (.int zK), .val (.int zG), .val (.int zH), .val (.ref r), .val (.long (own_pre (own_y x) iK)), .second, .val (.long (own_pre (own_y x) iH)), .second, .val (.long (own_pre (own_y x) 6)), .second, .val (.ref b), .unset, .unset, .unset, .unset] [(.ref b)])
  refine wp (fun _ => XS.iload X12.here hx rfl (hb hby at_173) rfl) ?_
  show WP p e below _ T12 (mkF m 175 #[.val (.int p0), .val (.int p1), .val (.int p2), .val (.int p3), .val (.int p4), .val (.int p5), .val (.int cA), .val (.int cB), .val (.int cC), .val (.int zA), .val (.int zB), .val (.int zC), .val (.int zK), .val (.int zG), .val (.int zH), .val (.ref r), .val (.long (own_pre (own_y x) iK)), .second, .val (.long (own_pre (own_y x) iH)), .second, .val (.long (own_pre (own_y x) 6)), .second, .val (.ref b), .unset, .unset, .unset, .unset] [(.int zG), (.ref b)])
  rw [← hxx] at Tt12
  refine wp_virtualP C X12 rfl (y := (⟨"com/example/placewright/placewright/engine/CountTree", "get", "(I)I"⟩ : MethodName)) (b := b) Tt12.1.1 (argsL := [(.int zG)]) (rest := []) (rm_get l Z a0 hw [] b ca da zG iG x T12.heap hG lG Tt12) (hw _ (List.mem_of_getElem? (i := 39) rfl)) (hw _ (List.mem_of_getElem? (i := 40) rfl)) (hw _ (List.mem_of_getElem? (i := 42) rfl)) (hw _ (List.mem_of_getElem? (i := 41) rfl)) (hw _ (List.mem_of_getElem? (i := 43) rfl)) (hw _ (List.mem_of_getElem? (i := 9) rfl)) (by decide) rfl (lenOf pd_get rfl) at_175 rfl rfl rfl (by decide) (Nat.le_of_ble_eq_true rfl) (by decide) (by decide) ?_
  intro T13 X13 e13
  show WP p e below _ T13 (mkF m 178 #[.val (.int p0), .val (.int p1), .val (.int p2), .val (.int p3), .val (.int p4), .val (.int p5), .val (.int cA), .val (.int cB), .val (.int cC), .val (.int zA), .val (.int zB), .val (.int zC), .val (.int zK), .val (.int zG), .val (.int zH), .val (.ref r), .val (.long (own_pre (own_y x) iK)), .second, .val (.long (own_pre (own_y x) iH)), .second, .val (.long (own_pre (own_y x) 6)), .second, .val (.ref b), .unset, .unset, .unset, .unset] [(.int (x iG))])
  refine wp (fun _ => XS.i2l X13.here hx rfl (hb hby at_178) rfl) ?_
  show WP p e below _ T13 (mkF m 179 #[.val (.int p0), .val (.int p1), .val (.int p2), .val (.int p3), .val (.int p4), .val (.int p5), .val (.int cA), .val (.int cB), .val (.int cC), .val (.int zA), .val (.int zB), .val (.int zC), .val (.int zK), .val (.int zG), .val (.int zH), .val (.ref r), .val (.long (own_pre (own_y x) iK)), .second, .val (.long (own_pre (own_y x) iH)), .second, .val (.long (own_pre (own_y x) 6)), .second, .val (.ref b), .unset, .unset, .unset, .unset] [(.long (x iG).toInt64)])
  refine wp (fun _ => XS.aload X13.here hx rfl (hb hby at_179) rfl rfl) ?_
  show WP p e below _ T13 (mkF m 181 #[.val (.int p0), .val (.int p1), .val (.int p2), .val (.int p3), .val (.int p4), .val (.int p5), .val (.int cA), .val (.int cB), .val (.int cC), .val (.int zA), .val (.int zB), .val (.int zC), .val (.int zK), .val (.int zG), .val (.int zH), .val (.ref r), .val (.long (own_pre (own_y x) iK)), .second, .val (.long (own_pre (own_y x) iH)), .second, .val (.long (own_pre (own_y x) 6)), .second, .val (.ref b), .unset, .unset, .unset, .unset] [(.ref r), (.long (x iG).toInt64)])
  refine wp (fun _ => XS.iload X13.here hx rfl (hb hby at_181) rfl) ?_
  show WP p e below _ T13 (mkF m 183 #[.val (.int p0), .val (.int p1), .val (.int p2), .val (.int p3), .val (.int p4), .val (.int p5), .val (.int cA), .val (.int cB), .val (.int cC), .val (.int zA), .val (.int zB), .val (.int zC), .val (.int zK), .val (.int zG), .val (.int zH), .val (.ref r), .val (.long (own_pre (own_y x) iK)), .second, .val (.long (own_pre (own_y x) iH)), .second, .val (.long (own_pre (own_y x) 6)), .second, .val (.ref b), .unset, .unset, .unset, .unset] [(.int zG), (.ref r), (.long (x iG).toInt64)])
  refine wp_laload C X13 e13 Ar12 hG lG rfl at_183 ?_
  show WP p e below _ T13 (mkF m 184 #[.val (.int p0), .val (.int p1), .val (.int p2), .val (.int p3), .val (.int p4), .val (.int p5), .val (.int cA), .val (.int cB), .val (.int cC), .val (.int zA), .val (.int zB), .val (.int zC), .val (.int zK), .val (.int zG), .val (.int zH), .val (.ref r), .val (.long (own_pre (own_y x) iK)), .second, .val (.long (own_pre (own_y x) iH)), .second, .val (.long (own_pre (own_y x) 6)), .second, .val (.ref b), .unset, .unset, .unset, .unset] [(.long (own_y x iG)), (.long (x iG).toInt64)])
  refine wp (fun _ => XT.lcmp X13.here hx rfl (hb hby at_184) rfl) ?_
  show WP p e below _ T13 (mkF m 185 #[.val (.int p0), .val (.int p1), .val (.int p2), .val (.int p3), .val (.int p4), .val (.int p5), .val (.int cA), .val (.int cB), .val (.int cC), .val (.int zA), .val (.int zB), .val (.int zC), .val (.int zK), .val (.int zG), .val (.int zH), .val (.ref r), .val (.long (own_pre (own_y x) iK)), .second, .val (.long (own_pre (own_y x) iH)), .second, .val (.long (own_pre (own_y x) 6)), .second, .val (.ref b), .unset, .unset, .unset, .unset] [(.int (XT.cmpL (x iG).toInt64 (own_y x iG)))])
  refine wp (fun _ => XS.ifNo X13.here hx rfl (hb hby at_185) rfl (XT.ll_ne_f (rfl : (x iG).toInt64 = own_y x iG))) ?_
  show WP p e below _ T13 (mkF m 188 #[.val (.int p0), .val (.int p1), .val (.int p2), .val (.int p3), .val (.int p4), .val (.int p5), .val (.int cA), .val (.int cB), .val (.int cC), .val (.int zA), .val (.int zB), .val (.int zC), .val (.int zK), .val (.int zG), .val (.int zH), .val (.ref r), .val (.long (own_pre (own_y x) iK)), .second, .val (.long (own_pre (own_y x) iH)), .second, .val (.long (own_pre (own_y x) 6)), .second, .val (.ref b), .unset, .unset, .unset, .unset] [])
  refine wp (fun _ => XS.iconst X13.here hx rfl (hb hby at_188)) ?_
  show WP p e below _ T13 (mkF m 189 #[.val (.int p0), .val (.int p1), .val (.int p2), .val (.int p3), .val (.int p4), .val (.int p5), .val (.int cA), .val (.int cB), .val (.int cC), .val (.int zA), .val (.int zB), .val (.int zC), .val (.int zK), .val (.int zG), .val (.int zH), .val (.ref r), .val (.long (own_pre (own_y x) iK)), .second, .val (.long (own_pre (own_y x) iH)), .second, .val (.long (own_pre (own_y x) 6)), .second, .val (.ref b), .unset, .unset, .unset, .unset] [(.int (1 : Int32))])
  refine wp (fun _ => XS.goto X13.here hx rfl (pc0 := 189) (pc' := 193) rfl (hb hby at_189) (by decide) (by decide)) ?_
  show WP p e below _ T13 (mkF m 193 #[.val (.int p0), .val (.int p1), .val (.int p2), .val (.int p3), .val (.int p4), .val (.int p5), .val (.int cA), .val (.int cB), .val (.int cC), .val (.int zA), .val (.int zB), .val (.int zC), .val (.int zK), .val (.int zG), .val (.int zH), .val (.ref r), .val (.long (own_pre (own_y x) iK)), .second, .val (.long (own_pre (own_y x) iH)), .second, .val (.long (own_pre (own_y x) 6)), .second, .val (.ref b), .unset, .unset, .unset, .unset] [(.int (1 : Int32))])
  refine wp (fun _ => XS.istore X13.here hx rfl (hb hby at_193) rfl (l' := #[.val (.int p0), .val (.int p1), .val (.int p2), .val (.int p3), .val (.int p4), .val (.int p5), .val (.int cA), .val (.int cB), .val (.int cC), .val (.int zA), .val (.int zB), .val (.int zC), .val (.int zK), .val (.int zG), .val (.int zH), .val (.ref r), .val (.long (own_pre (own_y x) iK)), .second, .val (.long (own_pre (own_y x) iH)), .second, .val (.long (own_pre (own_y x) 6)), .second, .val (.ref b), .val (.int (1 : Int32)), .unset, .unset, .unset]) rfl) ?_
  show WP p e below _ T13 (mkF m 195 #[.val (.int p0), .val (.int p1), .val (.int p2), .val (.int p3), .val (.int p4), .val (.int p5), .val (.int cA), .val (.int cB), .val (.int cC), .val (.int zA), .val (.int zB), .val (.int zC), .val (.int zK), .val (.int zG), .val (.int zH), .val (.ref r), .val (.long (own_pre (own_y x) iK)), .second, .val (.long (own_pre (own_y x) iH)), .second, .val (.long (own_pre (own_y x) 6)), .second, .val (.ref b), .val (.int (1 : Int32)), .unset, .unset, .unset] [])
  refine wp (fun _ => XS.aload X13.here hx rfl (hb hby at_195) rfl rfl) ?_
  show WP p e below _ T13 (mkF m 197 #[.val (.int p0), .val (.int p1), .val (.int p2), .val (.int p3), .val (.int p4), .val (.int p5), .val (.int cA), .val (.int cB), .val (.int cC), .val (.int zA), .val (.int zB), .val (.int zC), .val (.int zK), .val (.int zG), .val (.int zH), .val (.ref r), .val (.long (own_pre (own_y x) iK)), .second, .val (.long (own_pre (own_y x) iH)), .second, .val (.long (own_pre (own_y x) 6)), .second, .val (.ref b), .val (.int (1 : Int32)), .unset, .unset, .unset] [(.ref b)])
  refine wp_virtualP C X13 e13 (y := (⟨"com/example/placewright/placewright/engine/CountTree", "total", "()J"⟩ : MethodName)) (b := b) Tt12.1.1 (argsL := []) (rest := []) (rm_tot l Z a0 hw [] b ca da x T12.heap Tt12) (hw _ (List.mem_of_getElem? (i := 44) rfl)) (hw _ (List.mem_of_getElem? (i := 45) rfl)) (hw _ (List.mem_of_getElem? (i := 47) rfl)) (hw _ (List.mem_of_getElem? (i := 46) rfl)) (hw _ (List.mem_of_getElem? (i := 48) rfl)) (hw _ (List.mem_of_getElem? (i := 9) rfl)) (by decide) rfl (lenOf pd_tot rfl) at_197 rfl rfl rfl (by decide) (Nat.le_of_ble_eq_true rfl) (by decide) (by decide) ?_
  intro T14 X14 e14
  show WP p e below _ T14 (mkF m 200 #[.val (.int p0), .val (.int p1), .val (.int p2), .val (.int p3), .val (.int p4), .val (.int p5), .val (.int cA), .val (.int cB), .val (.int cC), .val (.int zA), .val (.int zB), .val (.int zC), .val (.int zK), .val (.int zG), .val (.int zH), .val (.ref r), .val (.long (own_pre (own_y x) iK)), .second, .val (.long (own_pre (own_y x) iH)), .second, .val (.long (own_pre (own_y x) 6)), .second, .val (.ref b), .val (.int (1 : Int32)), .unset, .unset, .unset] [(.long (own_pre (own_y x) 6))])
  refine wp (fun _ => XS.lload X14.here hx rfl (hb hby at_200) rfl) ?_
  show WP p e below _ T14 (mkF m 202 #[.val (.int p0), .val (.int p1), .val (.int p2), .val (.int p3), .val (.int p4), .val (.int p5), .val (.int cA), .val (.int cB), .val (.int cC), .val (.int zA), .val (.int zB), .val (.int zC), .val (.int zK), .val (.int zG), .val (.int zH), .val (.ref r), .val (.long (own_pre (own_y x) iK)), .second, .val (.long (own_pre (own_y x) iH)), .second, .val (.long (own_pre (own_y x) 6)), .second, .val (.ref b), .val (.int (1 : Int32)), .unset, .unset, .unset] [(.long (own_pre (own_y x) 6)), (.long (own_pre (own_y x) 6))])
  refine wp (fun _ => XT.lcmp X14.here hx rfl (hb hby at_202) rfl) ?_
  show WP p e below _ T14 (mkF m 203 #[.val (.int p0), .val (.int p1), .val (.int p2), .val (.int p3), .val (.int p4), .val (.int p5), .val (.int cA), .val (.int cB), .val (.int cC), .val (.int zA), .val (.int zB), .val (.int zC), .val (.int zK), .val (.int zG), .val (.int zH), .val (.ref r), .val (.long (own_pre (own_y x) iK)), .second, .val (.long (own_pre (own_y x) iH)), .second, .val (.long (own_pre (own_y x) 6)), .second, .val (.ref b), .val (.int (1 : Int32)), .unset, .unset, .unset] [(.int (XT.cmpL (own_pre (own_y x) 6) (own_pre (own_y x) 6)))])
  refine wp (fun _ => XS.ifNo X14.here hx rfl (hb hby at_203) rfl (XT.ll_ne_f rfl)) ?_
  show WP p e below _ T14 (mkF m 206 #[.val (.int p0), .val (.int p1), .val (.int p2), .val (.int p3), .val (.int p4), .val (.int p5), .val (.int cA), .val (.int cB), .val (.int cC), .val (.int zA), .val (.int zB), .val (.int zC), .val (.int zK), .val (.int zG), .val (.int zH), .val (.ref r), .val (.long (own_pre (own_y x) iK)), .second, .val (.long (own_pre (own_y x) iH)), .second, .val (.long (own_pre (own_y x) 6)), .second, .val (.ref b), .val (.int (1 : Int32)), .unset, .unset, .unset] [])
  refine wp (fun _ => XS.iconst X14.here hx rfl (hb hby at_206)) ?_
  show WP p e below _ T14 (mkF m 207 #[.val (.int p0), .val (.int p1), .val (.int p2), .val (.int p3), .val (.int p4), .val (.int p5), .val (.int cA), .val (.int cB), .val (.int cC), .val (.int zA), .val (.int zB), .val (.int zC), .val (.int zK), .val (.int zG), .val (.int zH), .val (.ref r), .val (.long (own_pre (own_y x) iK)), .second, .val (.long (own_pre (own_y x) iH)), .second, .val (.long (own_pre (own_y x) 6)), .second, .val (.ref b), .val (.int (1 : Int32)), .unset, .unset, .unset] [(.int (1 : Int32))])
  refine wp (fun _ => XS.goto X14.here hx rfl (pc0 := 207) (pc' := 211) rfl (hb hby at_207) (by decide) (by decide)) ?_
  show WP p e below _ T14 (mkF m 211 #[.val (.int p0), .val (.int p1), .val (.int p2), .val (.int p3), .val (.int p4), .val (.int p5), .val (.int cA), .val (.int cB), .val (.int cC), .val (.int zA), .val (.int zB), .val (.int zC), .val (.int zK), .val (.int zG), .val (.int zH), .val (.ref r), .val (.long (own_pre (own_y x) iK)), .second, .val (.long (own_pre (own_y x) iH)), .second, .val (.long (own_pre (own_y x) 6)), .second, .val (.ref b), .val (.int (1 : Int32)), .unset, .unset, .unset] [(.int (1 : Int32))])
  refine wp (fun _ => XS.istore X14.here hx rfl (hb hby at_211) rfl (l' := #[.val (.int p0), .val (.int p1), .val (.int p2), .val (.int p3), .val (.int p4), .val (.int p5), .val (.int cA), .val (.int cB), .val (.int cC), .val (.int zA), .val (.int zB), .val (.int zC), .val (.int zK), .val (.int zG), .val (.int zH), .val (.ref r), .val (.long (own_pre (own_y x) iK)), .second, .val (.long (own_pre (own_y x) iH)), .second, .val (.long (own_pre (own_y x) 6)), .second, .val (.ref b), .val (.int (1 : Int32)), .val (.int (1 : Int32)), .unset, .unset]) rfl) ?_
  show WP p e below _ T14 (mkF m 213 #[.val (.int p0), .val (.int p1), .val (.int p2), .val (.int p3), .val (.int p4), .val (.int p5), .val (.int cA), .val (.int cB), .val (.int cC), .val (.int zA), .val (.int zB), .val (.int zC), .val (.int zK), .val (.int zG), .val (.int zH), .val (.ref r), .val (.long (own_pre (own_y x) iK)), .second, .val (.long (own_pre (own_y x) iH)), .second, .val (.long (own_pre (own_y x) 6)), .second, .val (.ref b), .val (.int (1 : Int32)), .val (.int (1 : Int32)), .unset, .unset] [])
  refine wp (fun _ => XS.aload X14.here hx rfl (hb hby at_213) rfl rfl) ?_
  show WP p e below _ T14 (mkF m 215 #[.val (.int p0), .val (.int p1), .val (.int p2), .val (.int p3), .val (.int p4), .val (.int p5), .val (.int cA), .val (.int cB), .val (.int cC), .val (.int zA), .val (.int zB), .val (.int zC), .val (.int zK), .val (.int zG), .val (.int zH), .val (.ref r), .val (.long (own_pre (own_y x) iK)), .second, .val (.long (own_pre (own_y x) iH)), .second, .val (.long (own_pre (own_y x) 6)), .second, .val (.ref b), .val (.int (1 : Int32)), .val (.int (1 : Int32)), .unset, .unset] [(.ref b)])
  refine wp (fun _ => XS.iload X14.here hx rfl (hb hby at_215) rfl) ?_
  show WP p e below _ T14 (mkF m 217 #[.val (.int p0), .val (.int p1), .val (.int p2), .val (.int p3), .val (.int p4), .val (.int p5), .val (.int cA), .val (.int cB), .val (.int cC), .val (.int zA), .val (.int zB), .val (.int zC), .val (.int zK), .val (.int zG), .val (.int zH), .val (.ref r), .val (.long (own_pre (own_y x) iK)), .second, .val (.long (own_pre (own_y x) iH)), .second, .val (.long (own_pre (own_y x) 6)), .second, .val (.ref b), .val (.int (1 : Int32)), .val (.int (1 : Int32)), .unset, .unset] [(.int zK), (.ref b)])
  refine wp_virtualP C X14 e14 (y := (⟨"com/example/placewright/placewright/engine/CountTree", "before", "(I)J"⟩ : MethodName)) (b := b) Tt12.1.1 (argsL := [(.int zK)]) (rest := []) (rm_bef l Z a0 hw [] b ca da zK iK x T12.heap hK (by omega) Tt12) (hw _ (List.mem_of_getElem? (i := 49) rfl)) (hw _ (List.mem_of_getElem? (i := 50) rfl)) (hw _ (List.mem_of_getElem? (i := 52) rfl)) (hw _ (List.mem_of_getElem? (i := 51) rfl)) (hw _ (List.mem_of_getElem? (i := 53) rfl)) (hw _ (List.mem_of_getElem? (i := 9) rfl)) (by decide) rfl (lenOf pd_bef rfl) at_217 rfl rfl rfl (by decide) (Nat.le_of_ble_eq_true rfl) (by decide) (by decide) ?_
  intro T15 X15 e15
  show WP p e below _ T15 (mkF m 220 #[.val (.int p0), .val (.int p1), .val (.int p2), .val (.int p3), .val (.int p4), .val (.int p5), .val (.int cA), .val (.int cB), .val (.int cC), .val (.int zA), .val (.int zB), .val (.int zC), .val (.int zK), .val (.int zG), .val (.int zH), .val (.ref r), .val (.long (own_pre (own_y x) iK)), .second, .val (.long (own_pre (own_y x) iH)), .second, .val (.long (own_pre (own_y x) 6)), .second, .val (.ref b), .val (.int (1 : Int32)), .val (.int (1 : Int32)), .unset, .unset] [(.long (own_pre (own_y x) iK))])
  refine wp (fun _ => XS.lload X15.here hx rfl (hb hby at_220) rfl) ?_
  show WP p e below _ T15 (mkF m 222 #[.val (.int p0), .val (.int p1), .val (.int p2), .val (.int p3), .val (.int p4), .val (.int p5), .val (.int cA), .val (.int cB), .val (.int cC), .val (.int zA), .val (.int zB), .val (.int zC), .val (.int zK), .val (.int zG), .val (.int zH), .val (.ref r), .val (.long (own_pre (own_y x) iK)), .second, .val (.long (own_pre (own_y x) iH)), .second, .val (.long (own_pre (own_y x) 6)), .second, .val (.ref b), .val (.int (1 : Int32)), .val (.int (1 : Int32)), .unset, .unset] [(.long (own_pre (own_y x) iK)), (.long (own_pre (own_y x) iK))])
  refine wp (fun _ => XT.lcmp X15.here hx rfl (hb hby at_222) rfl) ?_
  show WP p e below _ T15 (mkF m 223 #[.val (.int p0), .val (.int p1), .val (.int p2), .val (.int p3), .val (.int p4), .val (.int p5), .val (.int cA), .val (.int cB), .val (.int cC), .val (.int zA), .val (.int zB), .val (.int zC), .val (.int zK), .val (.int zG), .val (.int zH), .val (.ref r), .val (.long (own_pre (own_y x) iK)), .second, .val (.long (own_pre (own_y x) iH)), .second, .val (.long (own_pre (own_y x) 6)), .second, .val (.ref b), .val (.int (1 : Int32)), .val (.int (1 : Int32)), .unset, .unset] [(.int (XT.cmpL (own_pre (own_y x) iK) (own_pre (own_y x) iK)))])
  refine wp (fun _ => XS.ifNo X15.here hx rfl (hb hby at_223) rfl (XT.ll_ne_f rfl)) ?_
  show WP p e below _ T15 (mkF m 226 #[.val (.int p0), .val (.int p1), .val (.int p2), .val (.int p3), .val (.int p4), .val (.int p5), .val (.int cA), .val (.int cB), .val (.int cC), .val (.int zA), .val (.int zB), .val (.int zC), .val (.int zK), .val (.int zG), .val (.int zH), .val (.ref r), .val (.long (own_pre (own_y x) iK)), .second, .val (.long (own_pre (own_y x) iH)), .second, .val (.long (own_pre (own_y x) 6)), .second, .val (.ref b), .val (.int (1 : Int32)), .val (.int (1 : Int32)), .unset, .unset] [])
  refine wp (fun _ => XS.iconst X15.here hx rfl (hb hby at_226)) ?_
  show WP p e below _ T15 (mkF m 227 #[.val (.int p0), .val (.int p1), .val (.int p2), .val (.int p3), .val (.int p4), .val (.int p5), .val (.int cA), .val (.int cB), .val (.int cC), .val (.int zA), .val (.int zB), .val (.int zC), .val (.int zK), .val (.int zG), .val (.int zH), .val (.ref r), .val (.long (own_pre (own_y x) iK)), .second, .val (.long (own_pre (own_y x) iH)), .second, .val (.long (own_pre (own_y x) 6)), .second, .val (.ref b), .val (.int (1 : Int32)), .val (.int (1 : Int32)), .unset, .unset] [(.int (1 : Int32))])
  refine wp (fun _ => XS.goto X15.here hx rfl (pc0 := 227) (pc' := 231) rfl (hb hby at_227) (by decide) (by decide)) ?_
  show WP p e below _ T15 (mkF m 231 #[.val (.int p0), .val (.int p1), .val (.int p2), .val (.int p3), .val (.int p4), .val (.int p5), .val (.int cA), .val (.int cB), .val (.int cC), .val (.int zA), .val (.int zB), .val (.int zC), .val (.int zK), .val (.int zG), .val (.int zH), .val (.ref r), .val (.long (own_pre (own_y x) iK)), .second, .val (.long (own_pre (own_y x) iH)), .second, .val (.long (own_pre (own_y x) 6)), .second, .val (.ref b), .val (.int (1 : Int32)), .val (.int (1 : Int32)), .unset, .unset] [(.int (1 : Int32))])
  refine wp (fun _ => XS.istore X15.here hx rfl (hb hby at_231) rfl (l' := #[.val (.int p0), .val (.int p1), .val (.int p2), .val (.int p3), .val (.int p4), .val (.int p5), .val (.int cA), .val (.int cB), .val (.int cC), .val (.int zA), .val (.int zB), .val (.int zC), .val (.int zK), .val (.int zG), .val (.int zH), .val (.ref r), .val (.long (own_pre (own_y x) iK)), .second, .val (.long (own_pre (own_y x) iH)), .second, .val (.long (own_pre (own_y x) 6)), .second, .val (.ref b), .val (.int (1 : Int32)), .val (.int (1 : Int32)), .val (.int (1 : Int32)), .unset]) rfl) ?_
  show WP p e below _ T15 (mkF m 233 #[.val (.int p0), .val (.int p1), .val (.int p2), .val (.int p3), .val (.int p4), .val (.int p5), .val (.int cA), .val (.int cB), .val (.int cC), .val (.int zA), .val (.int zB), .val (.int zC), .val (.int zK), .val (.int zG), .val (.int zH), .val (.ref r), .val (.long (own_pre (own_y x) iK)), .second, .val (.long (own_pre (own_y x) iH)), .second, .val (.long (own_pre (own_y x) 6)), .second, .val (.ref b), .val (.int (1 : Int32)), .val (.int (1 : Int32)), .val (.int (1 : Int32)), .unset] [])
  refine wp (fun _ => XS.aload X15.here hx rfl (hb hby at_233) rfl rfl) ?_
  show WP p e below _ T15 (mkF m 235 #[.val (.int p0), .val (.int p1), .val (.int p2), .val (.int p3), .val (.int p4), .val (.int p5), .val (.int cA), .val (.int cB), .val (.int cC), .val (.int zA), .val (.int zB), .val (.int zC), .val (.int zK), .val (.int zG), .val (.int zH), .val (.ref r), .val (.long (own_pre (own_y x) iK)), .second, .val (.long (own_pre (own_y x) iH)), .second, .val (.long (own_pre (own_y x) 6)), .second, .val (.ref b), .val (.int (1 : Int32)), .val (.int (1 : Int32)), .val (.int (1 : Int32)), .unset] [(.ref b)])
  refine wp (fun _ => XS.iload X15.here hx rfl (hb hby at_235) rfl) ?_
  show WP p e below _ T15 (mkF m 237 #[.val (.int p0), .val (.int p1), .val (.int p2), .val (.int p3), .val (.int p4), .val (.int p5), .val (.int cA), .val (.int cB), .val (.int cC), .val (.int zA), .val (.int zB), .val (.int zC), .val (.int zK), .val (.int zG), .val (.int zH), .val (.ref r), .val (.long (own_pre (own_y x) iK)), .second, .val (.long (own_pre (own_y x) iH)), .second, .val (.long (own_pre (own_y x) 6)), .second, .val (.ref b), .val (.int (1 : Int32)), .val (.int (1 : Int32)), .val (.int (1 : Int32)), .unset] [(.int zH), (.ref b)])
  refine wp_virtualP C X15 e15 (y := (⟨"com/example/placewright/placewright/engine/CountTree", "before", "(I)J"⟩ : MethodName)) (b := b) Tt12.1.1 (argsL := [(.int zH)]) (rest := []) (rm_bef l Z a0 hw [] b ca da zH iH x T12.heap hH (by omega) Tt12) (hw _ (List.mem_of_getElem? (i := 49) rfl)) (hw _ (List.mem_of_getElem? (i := 50) rfl)) (hw _ (List.mem_of_getElem? (i := 52) rfl)) (hw _ (List.mem_of_getElem? (i := 51) rfl)) (hw _ (List.mem_of_getElem? (i := 53) rfl)) (hw _ (List.mem_of_getElem? (i := 9) rfl)) (by decide) rfl (lenOf pd_bef rfl) at_237 rfl rfl rfl (by decide) (Nat.le_of_ble_eq_true rfl) (by decide) (by decide) ?_
  intro T16 X16 e16
  show WP p e below _ T16 (mkF m 240 #[.val (.int p0), .val (.int p1), .val (.int p2), .val (.int p3), .val (.int p4), .val (.int p5), .val (.int cA), .val (.int cB), .val (.int cC), .val (.int zA), .val (.int zB), .val (.int zC), .val (.int zK), .val (.int zG), .val (.int zH), .val (.ref r), .val (.long (own_pre (own_y x) iK)), .second, .val (.long (own_pre (own_y x) iH)), .second, .val (.long (own_pre (own_y x) 6)), .second, .val (.ref b), .val (.int (1 : Int32)), .val (.int (1 : Int32)), .val (.int (1 : Int32)), .unset] [(.long (own_pre (own_y x) iH))])
  refine wp (fun _ => XS.lload X16.here hx rfl (hb hby at_240) rfl) ?_
  show WP p e below _ T16 (mkF m 242 #[.val (.int p0), .val (.int p1), .val (.int p2), .val (.int p3), .val (.int p4), .val (.int p5), .val (.int cA), .val (.int cB), .val (.int cC), .val (.int zA), .val (.int zB), .val (.int zC), .val (.int zK), .val (.int zG), .val (.int zH), .val (.ref r), .val (.long (own_pre (own_y x) iK)), .second, .val (.long (own_pre (own_y x) iH)), .second, .val (.long (own_pre (own_y x) 6)), .second, .val (.ref b), .val (.int (1 : Int32)), .val (.int (1 : Int32)), .val (.int (1 : Int32)), .unset] [(.long (own_pre (own_y x) iH)), (.long (own_pre (own_y x) iH))])
  refine wp (fun _ => XT.lcmp X16.here hx rfl (hb hby at_242) rfl) ?_
  show WP p e below _ T16 (mkF m 243 #[.val (.int p0), .val (.int p1), .val (.int p2), .val (.int p3), .val (.int p4), .val (.int p5), .val (.int cA), .val (.int cB), .val (.int cC), .val (.int zA), .val (.int zB), .val (.int zC), .val (.int zK), .val (.int zG), .val (.int zH), .val (.ref r), .val (.long (own_pre (own_y x) iK)), .second, .val (.long (own_pre (own_y x) iH)), .second, .val (.long (own_pre (own_y x) 6)), .second, .val (.ref b), .val (.int (1 : Int32)), .val (.int (1 : Int32)), .val (.int (1 : Int32)), .unset] [(.int (XT.cmpL (own_pre (own_y x) iH) (own_pre (own_y x) iH)))])
  refine wp (fun _ => XS.ifNo X16.here hx rfl (hb hby at_243) rfl (XT.ll_ne_f rfl)) ?_
  show WP p e below _ T16 (mkF m 246 #[.val (.int p0), .val (.int p1), .val (.int p2), .val (.int p3), .val (.int p4), .val (.int p5), .val (.int cA), .val (.int cB), .val (.int cC), .val (.int zA), .val (.int zB), .val (.int zC), .val (.int zK), .val (.int zG), .val (.int zH), .val (.ref r), .val (.long (own_pre (own_y x) iK)), .second, .val (.long (own_pre (own_y x) iH)), .second, .val (.long (own_pre (own_y x) 6)), .second, .val (.ref b), .val (.int (1 : Int32)), .val (.int (1 : Int32)), .val (.int (1 : Int32)), .unset] [])
  refine wp (fun _ => XS.iconst X16.here hx rfl (hb hby at_246)) ?_
  show WP p e below _ T16 (mkF m 247 #[.val (.int p0), .val (.int p1), .val (.int p2), .val (.int p3), .val (.int p4), .val (.int p5), .val (.int cA), .val (.int cB), .val (.int cC), .val (.int zA), .val (.int zB), .val (.int zC), .val (.int zK), .val (.int zG), .val (.int zH), .val (.ref r), .val (.long (own_pre (own_y x) iK)), .second, .val (.long (own_pre (own_y x) iH)), .second, .val (.long (own_pre (own_y x) 6)), .second, .val (.ref b), .val (.int (1 : Int32)), .val (.int (1 : Int32)), .val (.int (1 : Int32)), .unset] [(.int (1 : Int32))])
  refine wp (fun _ => XS.goto X16.here hx rfl (pc0 := 247) (pc' := 251) rfl (hb hby at_247) (by decide) (by decide)) ?_
  show WP p e below _ T16 (mkF m 251 #[.val (.int p0), .val (.int p1), .val (.int p2), .val (.int p3), .val (.int p4), .val (.int p5), .val (.int cA), .val (.int cB), .val (.int cC), .val (.int zA), .val (.int zB), .val (.int zC), .val (.int zK), .val (.int zG), .val (.int zH), .val (.ref r), .val (.long (own_pre (own_y x) iK)), .second, .val (.long (own_pre (own_y x) iH)), .second, .val (.long (own_pre (own_y x) 6)), .second, .val (.ref b), .val (.int (1 : Int32)), .val (.int (1 : Int32)), .val (.int (1 : Int32)), .unset] [(.int (1 : Int32))])
  refine wp (fun _ => XS.istore X16.here hx rfl (hb hby at_251) rfl (l' := #[.val (.int p0), .val (.int p1), .val (.int p2), .val (.int p3), .val (.int p4), .val (.int p5), .val (.int cA), .val (.int cB), .val (.int cC), .val (.int zA), .val (.int zB), .val (.int zC), .val (.int zK), .val (.int zG), .val (.int zH), .val (.ref r), .val (.long (own_pre (own_y x) iK)), .second, .val (.long (own_pre (own_y x) iH)), .second, .val (.long (own_pre (own_y x) 6)), .second, .val (.ref b), .val (.int (1 : Int32)), .val (.int (1 : Int32)), .val (.int (1 : Int32)), .val (.int (1 : Int32))]) rfl) ?_
  show WP p e below _ T16 (mkF m 253 #[.val (.int p0), .val (.int p1), .val (.int p2), .val (.int p3), .val (.int p4), .val (.int p5), .val (.int cA), .val (.int cB), .val (.int cC), .val (.int zA), .val (.int zB), .val (.int zC), .val (.int zK), .val (.int zG), .val (.int zH), .val (.ref r), .val (.long (own_pre (own_y x) iK)), .second, .val (.long (own_pre (own_y x) iH)), .second, .val (.long (own_pre (own_y x) 6)), .second, .val (.ref b), .val (.int (1 : Int32)), .val (.int (1 : Int32)), .val (.int (1 : Int32)), .val (.int (1 : Int32))] [])
  refine wp (fun _ => XS.iload X16.here hx rfl (hb hby at_253) rfl) ?_
  show WP p e below _ T16 (mkF m 255 #[.val (.int p0), .val (.int p1), .val (.int p2), .val (.int p3), .val (.int p4), .val (.int p5), .val (.int cA), .val (.int cB), .val (.int cC), .val (.int zA), .val (.int zB), .val (.int zC), .val (.int zK), .val (.int zG), .val (.int zH), .val (.ref r), .val (.long (own_pre (own_y x) iK)), .second, .val (.long (own_pre (own_y x) iH)), .second, .val (.long (own_pre (own_y x) 6)), .second, .val (.ref b), .val (.int (1 : Int32)), .val (.int (1 : Int32)), .val (.int (1 : Int32)), .val (.int (1 : Int32))] [(.int (1 : Int32))])
  refine wp (fun _ => XS.ifNo X16.here hx rfl (hb hby at_255) rfl (XT.i0_eq_f (by decide))) ?_
  show WP p e below _ T16 (mkF m 258 #[.val (.int p0), .val (.int p1), .val (.int p2), .val (.int p3), .val (.int p4), .val (.int p5), .val (.int cA), .val (.int cB), .val (.int cC), .val (.int zA), .val (.int zB), .val (.int zC), .val (.int zK), .val (.int zG), .val (.int zH), .val (.ref r), .val (.long (own_pre (own_y x) iK)), .second, .val (.long (own_pre (own_y x) iH)), .second, .val (.long (own_pre (own_y x) 6)), .second, .val (.ref b), .val (.int (1 : Int32)), .val (.int (1 : Int32)), .val (.int (1 : Int32)), .val (.int (1 : Int32))] [])
  refine wp (fun _ => XS.iload X16.here hx rfl (hb hby at_258) rfl) ?_
  show WP p e below _ T16 (mkF m 260 #[.val (.int p0), .val (.int p1), .val (.int p2), .val (.int p3), .val (.int p4), .val (.int p5), .val (.int cA), .val (.int cB), .val (.int cC), .val (.int zA), .val (.int zB), .val (.int zC), .val (.int zK), .val (.int zG), .val (.int zH), .val (.ref r), .val (.long (own_pre (own_y x) iK)), .second, .val (.long (own_pre (own_y x) iH)), .second, .val (.long (own_pre (own_y x) 6)), .second, .val (.ref b), .val (.int (1 : Int32)), .val (.int (1 : Int32)), .val (.int (1 : Int32)), .val (.int (1 : Int32))] [(.int (1 : Int32))])
  refine wp (fun _ => XS.ifNo X16.here hx rfl (hb hby at_260) rfl (XT.i0_eq_f (by decide))) ?_
  show WP p e below _ T16 (mkF m 263 #[.val (.int p0), .val (.int p1), .val (.int p2), .val (.int p3), .val (.int p4), .val (.int p5), .val (.int cA), .val (.int cB), .val (.int cC), .val (.int zA), .val (.int zB), .val (.int zC), .val (.int zK), .val (.int zG), .val (.int zH), .val (.ref r), .val (.long (own_pre (own_y x) iK)), .second, .val (.long (own_pre (own_y x) iH)), .second, .val (.long (own_pre (own_y x) 6)), .second, .val (.ref b), .val (.int (1 : Int32)), .val (.int (1 : Int32)), .val (.int (1 : Int32)), .val (.int (1 : Int32))] [])
  refine wp (fun _ => XS.iload X16.here hx rfl (hb hby at_263) rfl) ?_
  show WP p e below _ T16 (mkF m 265 #[.val (.int p0), .val (.int p1), .val (.int p2), .val (.int p3), .val (.int p4), .val (.int p5), .val (.int cA), .val (.int cB), .val (.int cC), .val (.int zA), .val (.int zB), .val (.int zC), .val (.int zK), .val (.int zG), .val (.int zH), .val (.ref r), .val (.long (own_pre (own_y x) iK)), .second, .val (.long (own_pre (own_y x) iH)), .second, .val (.long (own_pre (own_y x) 6)), .second, .val (.ref b), .val (.int (1 : Int32)), .val (.int (1 : Int32)), .val (.int (1 : Int32)), .val (.int (1 : Int32))] [(.int (1 : Int32))])
  refine wp (fun _ => XS.ifNo X16.here hx rfl (hb hby at_265) rfl (XT.i0_eq_f (by decide))) ?_
  show WP p e below _ T16 (mkF m 268 #[.val (.int p0), .val (.int p1), .val (.int p2), .val (.int p3), .val (.int p4), .val (.int p5), .val (.int cA), .val (.int cB), .val (.int cC), .val (.int zA), .val (.int zB), .val (.int zC), .val (.int zK), .val (.int zG), .val (.int zH), .val (.ref r), .val (.long (own_pre (own_y x) iK)), .second, .val (.long (own_pre (own_y x) iH)), .second, .val (.long (own_pre (own_y x) 6)), .second, .val (.ref b), .val (.int (1 : Int32)), .val (.int (1 : Int32)), .val (.int (1 : Int32)), .val (.int (1 : Int32))] [])
  refine wp (fun _ => XS.iload X16.here hx rfl (hb hby at_268) rfl) ?_
  show WP p e below _ T16 (mkF m 270 #[.val (.int p0), .val (.int p1), .val (.int p2), .val (.int p3), .val (.int p4), .val (.int p5), .val (.int cA), .val (.int cB), .val (.int cC), .val (.int zA), .val (.int zB), .val (.int zC), .val (.int zK), .val (.int zG), .val (.int zH), .val (.ref r), .val (.long (own_pre (own_y x) iK)), .second, .val (.long (own_pre (own_y x) iH)), .second, .val (.long (own_pre (own_y x) 6)), .second, .val (.ref b), .val (.int (1 : Int32)), .val (.int (1 : Int32)), .val (.int (1 : Int32)), .val (.int (1 : Int32))] [(.int (1 : Int32))])
  refine wp (fun _ => XS.ifNo X16.here hx rfl (hb hby at_270) rfl (XT.i0_eq_f (by decide))) ?_
  show WP p e below _ T16 (mkF m 273 #[.val (.int p0), .val (.int p1), .val (.int p2), .val (.int p3), .val (.int p4), .val (.int p5), .val (.int cA), .val (.int cB), .val (.int cC), .val (.int zA), .val (.int zB), .val (.int zC), .val (.int zK), .val (.int zG), .val (.int zH), .val (.ref r), .val (.long (own_pre (own_y x) iK)), .second, .val (.long (own_pre (own_y x) iH)), .second, .val (.long (own_pre (own_y x) 6)), .second, .val (.ref b), .val (.int (1 : Int32)), .val (.int (1 : Int32)), .val (.int (1 : Int32)), .val (.int (1 : Int32))] [])
  refine wp (fun _ => XS.iconst X16.here hx rfl (hb hby at_273)) ?_
  show WP p e below _ T16 (mkF m 274 #[.val (.int p0), .val (.int p1), .val (.int p2), .val (.int p3), .val (.int p4), .val (.int p5), .val (.int cA), .val (.int cB), .val (.int cC), .val (.int zA), .val (.int zB), .val (.int zC), .val (.int zK), .val (.int zG), .val (.int zH), .val (.ref r), .val (.long (own_pre (own_y x) iK)), .second, .val (.long (own_pre (own_y x) iH)), .second, .val (.long (own_pre (own_y x) 6)), .second, .val (.ref b), .val (.int (1 : Int32)), .val (.int (1 : Int32)), .val (.int (1 : Int32)), .val (.int (1 : Int32))] [(.int (1 : Int32))])
  refine wp (fun _ => XS.goto X16.here hx rfl (pc0 := 274) (pc' := 278) rfl (hb hby at_274) (by decide) (by decide)) ?_
  show WP p e below _ T16 (mkF m 278 #[.val (.int p0), .val (.int p1), .val (.int p2), .val (.int p3), .val (.int p4), .val (.int p5), .val (.int cA), .val (.int cB), .val (.int cC), .val (.int zA), .val (.int zB), .val (.int zC), .val (.int zK), .val (.int zG), .val (.int zH), .val (.ref r), .val (.long (own_pre (own_y x) iK)), .second, .val (.long (own_pre (own_y x) iH)), .second, .val (.long (own_pre (own_y x) 6)), .second, .val (.ref b), .val (.int (1 : Int32)), .val (.int (1 : Int32)), .val (.int (1 : Int32)), .val (.int (1 : Int32))] [(.int (1 : Int32))])
  exact wp_zreturn C X16 (Or.inl rfl) at_278 ⟨rfl, N12⟩ (by decide) (by decide)
set_option maxRecDepth 65536 in
set_option maxHeartbeats 4000000 in
theorem comes_1 {Post : Tables → Env → Array Value → State → Outcome → State → Prop} (hpost : ∀ tb e args s v u, (limb_1_1.after args s (.returned v) u = true ∧ limb_1_2.after args s (.returned v) u = true ∧ True) → FrameEnd s (.returned v) u (Jvm.fieldLocs frame_1_writes args s ++ Jvm.arrayLocs frame_1_arrays args s ++ Jvm.staticLocs frame_1_statics s) 16 128 → Post tb e args s (.returned v) u) :
    ArmFor flags0 classFile x code maxLocals ret World_1 tables_1 room_1 Calls_1 rest_1 Pre_1 Post := by
  intro l hfl _ _ p e ha hc hk s m args below hf hA hF happ hP
  obtain ⟨hcalls, hrest, hpre⟩ := hP
  obtain ⟨-, -, -, hnamed, -, -, -, hat⟩ := (Spec.applies_iff hf).mp happ
  obtain ⟨hg, hn⟩ := and_e (Cond.before_iff.mp (show (Jvm.Cond.and given_1 narrow_1).before args s = true from hpre))
  obtain ⟨hcount, hr0⟩ := and_e hg
  obtain ⟨ha0, hr1⟩ := and_e hr0
  obtain ⟨ha1, hr2⟩ := and_e hr1
  obtain ⟨ha2, hr3⟩ := and_e hr2
  obtain ⟨ha3, hr4⟩ := and_e hr3
  obtain ⟨ha4, hr5⟩ := and_e hr4
  have ha5 := hr5
  obtain ⟨w0, w1, w2, w3, w4, w5, rfl⟩ : ∃ w0 w1 w2 w3 w4 w5 : Value, args = #[w0, w1, w2, w3, w4, w5] := by
    have hs : args.size = 6 := by simpa [Cond.value, given_1] using hcount
    obtain ⟨L⟩ := args
    match L, hs with
    | [w0, w1, w2, w3, w4, w5], _ => exact ⟨w0, w1, w2, w3, w4, w5, rfl⟩
  have hw := fun d (hd : d ∈ tables_1) => atoms_spec (ws := Jvm.Cond.code x code maxLocals ret :: tables_1) hat d (List.mem_cons_of_mem _ hd)
  obtain ⟨i0, ei0⟩ := is_v ha0
  obtain rfl : w0 = (.int i0) := Option.some.inj ei0
  obtain ⟨i1, ei1⟩ := is_v ha1
  obtain rfl : w1 = (.int i1) := Option.some.inj ei1
  obtain ⟨i2, ei2⟩ := is_v ha2
  obtain rfl : w2 = (.int i2) := Option.some.inj ei2
  obtain ⟨i3, ei3⟩ := is_v ha3
  obtain rfl : w3 = (.int i3) := Option.some.inj ei3
  obtain ⟨i4, ei4⟩ := is_v ha4
  obtain rfl : w4 = (.int i4) := Option.some.inj ei4
  obtain ⟨i5, ei5⟩ := is_v ha5
  obtain rfl : w5 = (.int i5) := Option.some.inj ei5
  obtain ⟨n, o, h1, h2, h3, _, L, rfl, ⟨rfl, N⟩, hq⟩ := rm_law l s _ hw tables_1 i0 i1 i2 i3 i4 i5 s.heap s.heap.size (Nat.le_refl _) p e ha hc hk s m _ below hf ((Spec.applies_iff_loose hf).mp happ).1 ⟨rfl, State.Warmed39.refl s, rfl⟩ trivial
  refine ⟨n, _, h1, h2, h3, hpost _ _ _ _ _ _ ⟨Cond.after_iff.mpr rfl, Cond.after_iff.mpr (eq_i res_at (Term.int_eval (1)) rfl), trivial⟩ ⟨hq.1, hq.2.1, (hq.2.2.sift fun y hy => Or.inr (N y hy)).mono (by decide) (by decide)⟩⟩
theorem main_1_1 : Claimed_1_1 := comes_1 fun _ _ _ _ _ _ h hF => ⟨h.1, hF⟩
theorem main_1_2 : Claimed_1_2 := comes_1 fun _ _ _ _ _ _ h hF => ⟨h.2.1, hF⟩

end Jvm.Pilot.@@N@@
namespace Jvm.Pilot.@@N@@
open Jvm Jvm.ClassFile Sem Op Lib Jvm.Free Jvm.Stand Jvm.Pilot.@@N@@.Jvm.D
/-! MADE BY PROGRAM (witnessworld.py) out of the Statement's table words and the real class files: 16 classes; the members and pool entries that the words name. The judged class is class 1, her method 1. -/
namespace start1
open Jvm.ClassFile
def u (s : String) : CpInfo := .utf8 (stringToUtf16 s)
/-- a pool by its gaps: so many unusable entries, then the entry; so many at the end -/
def gap : Nat → List CpInfo → List CpInfo
  | 0, r => r
  | n + 1, r => .unusable :: gap n r
def poolList (es : List (Nat × CpInfo)) (last : Nat) : List CpInfo := es.foldr (fun e r => gap e.1 (e.2 :: r)) (gap last [])
def pool (es : List (Nat × CpInfo)) (last : Nat) : Array CpInfo := ⟨poolList es last⟩
def fileOf (pool : Array CpInfo) (this : Nat) (attrs : Array Attribute := #[]) (ms : Array MethodInfo := #[]) (fl : Nat := 33) (sup : Nat := 0) (ifs : Array Nat := #[]) (fds : Array FieldInfo := #[]) : ClassFile where
  minorVersion := 0
  majorVersion := 65
  constantPool := pool
  accessFlags := fl
  thisClass := this
  superClass := sup
  interfaces := ifs
  fields := fds
  methods := ms
  attributes := attrs
def plain (name : String) (sup : Option ClassId) : Class where
  name := name
  kind := .ordinary
  loader := none
  accessFlags := 33
  super := sup
  interfaces := #[]
  cf := none
  fields := #[]
  methods := #[]
  instanceTypes := #[]
  staticTypes := #[]
  resolved := #[]
  callSites := []
  init := .initialized
  statics := none
  mirror := none

def pool0 : Array CpInfo := pool [(5, u "<init>"), (0, u "()V"), (1, .class_ 10), (1, u "java/lang/Object")] 113

def k0c0 : Code := { maxStack := 0, maxLocals := 1, code := object_method_1_code, exceptionTable := #[], attributes := #[] }
def k0m0 : Method := { name := "<init>", desc := "()V", sig := { parameters := [], returnType := none }, accessFlags := 1, code := some k0c0 }
/-- java/lang/Object -/
def k0 : Class := { plain "java/lang/Object" none with
  accessFlags := 33
  interfaces := #[]
  cf := some (fileOf pool0 8 #[] #[{ accessFlags := 1, nameIndex := 5, descriptorIndex := 6, attributes := #[] }] 33 0 #[] #[])
  fields := #[]
  methods := #[k0m0]
  instanceTypes := #[]
  staticTypes := #[]
  resolved := Array.replicate 124 none
  statics := none }

def pool1 : Array CpInfo := pool [(2, .class_ 4), (1, u "java/lang/Object"), (0, u "<init>"), (0, u "()V"), (0, .integer 2147483647), (0, .integer 65535), (0, .methodref 10 11), (0, .class_ 12), (0, .nameAndType 13 14), (0, u "com/example/placewright/placewright/engine/CountTreeSetPinLaw"), (0, u "prefix"), (0, u "([JI)J"), (0, .class_ 16), (0, u "com/example/placewright/placewright/engine/CountTree"), (0, .methodref 15 18), (0, .nameAndType 5 19), (0, u "(I)V"), (0, .methodref 15 21), (0, .nameAndType 22 23), (0, u "set"), (0, u "(II)V"), (0, .methodref 15 25), (0, .nameAndType 26 27), (0, u "get"), (0, u "(I)I"), (0, .methodref 15 29), (0, .nameAndType 30 31), (0, u "total"), (0, u "()J"), (0, .methodref 15 33), (0, .nameAndType 34 35), (0, u "before"), (0, u "(I)J"), (2, u "law"), (0, u "(IIIIII)Z")] 5

def k1m0 : Method := { name := "<init>", desc := "()V", sig := { parameters := [], returnType := none }, accessFlags := 1, code := none }
def k1c1 : Code := { maxStack := 4, maxLocals := 27, code := code, exceptionTable := #[], attributes := #[] }
def k1m1 : Method := { name := "law", desc := "(IIIIII)Z", sig := { parameters := [.int, .int, .int, .int, .int, .int], returnType := some .boolean }, accessFlags := 9, code := some k1c1 }
def k1c2 : Code := { maxStack := 4, maxLocals := 4, code := method_3_code, exceptionTable := #[], attributes := #[] }
def k1m2 : Method := { name := "prefix", desc := "([JI)J", sig := { parameters := [(.array .long), .int], returnType := some .long }, accessFlags := 10, code := some k1c2 }
/-- com/example/placewright/placewright/engine/CountTreeSetPinLaw -/
def k1 : Class := { plain "com/example/placewright/placewright/engine/CountTreeSetPinLaw" (some 0) with
  accessFlags := 49
  interfaces := #[]
  cf := some (fileOf pool1 10 #[] #[{ accessFlags := 1, nameIndex := 5, descriptorIndex := 6, attributes := #[] }, { accessFlags := 9, nameIndex := 38, descriptorIndex := 39, attributes := #[] }, { accessFlags := 10, nameIndex := 13, descriptorIndex := 14, attributes := #[] }] 49 2 #[] #[])
  fields := #[]
  methods := #[k1m0, k1m1, k1m2]
  instanceTypes := #[]
  staticTypes := #[]
  resolved := Array.replicate 45 none
  statics := none }

def pool2 : Array CpInfo := pool [(1, .methodref 2 3), (0, .class_ 4), (0, .nameAndType 5 6), (0, u "java/lang/Object"), (0, u "<init>"), (0, u "()V"), (0, .fieldref 8 9), (0, .class_ 10), (0, .nameAndType 11 12), (0, u "com/example/placewright/placewright/engine/CountTree"), (0, u "counts"), (0, u "[I"), (0, .fieldref 8 14), (0, .nameAndType 15 16), (0, u "sums"), (0, u "[J"), (0, .methodref 18 19), (0, .class_ 20), (0, .nameAndType 21 22), (0, u "java/lang/Integer"), (0, u "highestOneBit"), (0, u "(I)I"), (0, .fieldref 8 24), (0, .nameAndType 25 26), (0, u "top"), (0, u "I"), (0, .fieldref 8 28), (0, .nameAndType 29 30), (0, u "total"), (0, u "J"), (9, u "(I)V"), (3, u "get"), (0, u "set"), (0, u "(II)V"), (0, u "()J"), (0, u "before"), (0, u "(I)J")] 19

def k2c0 : Code := { maxStack := 3, maxLocals := 2, code := prog_25_method_1_code, exceptionTable := #[], attributes := #[] }
def k2m0 : Method := { name := "<init>", desc := "(I)V", sig := { parameters := [.int], returnType := none }, accessFlags := 0, code := some k2c0 }
def k2c1 : Code := { maxStack := 2, maxLocals := 2, code := prog_25_method_2_code, exceptionTable := #[], attributes := #[] }
def k2m1 : Method := { name := "get", desc := "(I)I", sig := { parameters := [.int], returnType := some .int }, accessFlags := 0, code := some k2c1 }
def k2c2 : Code := { maxStack := 6, maxLocals := 6, code := prog_25_method_3_code, exceptionTable := #[], attributes := #[] }
def k2m2 : Method := { name := "set", desc := "(II)V", sig := { parameters := [.int, .int], returnType := none }, accessFlags := 0, code := some k2c2 }
def k2c3 : Code := { maxStack := 2, maxLocals := 1, code := prog_25_method_4_code, exceptionTable := #[], attributes := #[] }
def k2m3 : Method := { name := "total", desc := "()J", sig := { parameters := [], returnType := some .long }, accessFlags := 0, code := some k2c3 }
def k2c4 : Code := { maxStack := 4, maxLocals := 5, code := prog_25_method_5_code, exceptionTable := #[], attributes := #[] }
def k2m4 : Method := { name := "before", desc := "(I)J", sig := { parameters := [.int], returnType := some .long }, accessFlags := 0, code := some k2c4 }
/-- com/example/placewright/placewright/engine/CountTree -/
def k2 : Class := { plain "com/example/placewright/placewright/engine/CountTree" (some 0) with
  accessFlags := 48
  interfaces := #[]
  cf := some (fileOf pool2 8 #[] #[{ accessFlags := 0, nameIndex := 5, descriptorIndex := 40, attributes := #[] }, { accessFlags := 0, nameIndex := 44, descriptorIndex := 22, attributes := #[] }, { accessFlags := 0, nameIndex := 45, descriptorIndex := 46, attributes := #[] }, { accessFlags := 0, nameIndex := 29, descriptorIndex := 47, attributes := #[] }, { accessFlags := 0, nameIndex := 48, descriptorIndex := 49, attributes := #[] }] 48 2 #[] #[{ accessFlags := 18, nameIndex := 11, descriptorIndex := 12, attributes := #[] }, { accessFlags := 18, nameIndex := 15, descriptorIndex := 16, attributes := #[] }, { accessFlags := 18, nameIndex := 25, descriptorIndex := 26, attributes := #[] }, { accessFlags := 2, nameIndex := 29, descriptorIndex := 30, attributes := #[] }])
  fields := #[{ name := "counts", type := (.array .int), accessFlags := 18, slot := 0, constantValue := 0 }, { name := "sums", type := (.array .long), accessFlags := 18, slot := 1, constantValue := 0 }, { name := "top", type := .int, accessFlags := 18, slot := 2, constantValue := 0 }, { name := "total", type := .long, accessFlags := 2, slot := 3, constantValue := 0 }]
  methods := #[k2m0, k2m1, k2m2, k2m3, k2m4]
  instanceTypes := #[(.array .int), (.array .long), .int, .long]
  staticTypes := #[]
  resolved := Array.replicate 69 none
  statics := none }

def pool3 : Array CpInfo := pool [(1, .class_ 2), (0, u "java/io/Serializable"), (0, .class_ 4), (0, u "java/lang/Object")] 2

/-- java/io/Serializable -/
def k3 : Class := { plain "java/io/Serializable" (some 0) with
  accessFlags := 1537
  interfaces := #[]
  cf := some (fileOf pool3 1 #[] #[] 1537 3 #[] #[])
  fields := #[]
  methods := #[]
  instanceTypes := #[]
  staticTypes := #[]
  resolved := Array.replicate 7 none
  statics := none }

def pool4 : Array CpInfo := pool [(2, .class_ 4), (1, u "java/lang/Object"), (0, u "<init>"), (0, u "()V"), (1, .class_ 10), (1, u "java/lang/Number"), (2, .class_ 14), (0, u "java/io/Serializable"), (0, u "serialVersionUID"), (0, u "J")] 20

def k4m0 : Method := { name := "<init>", desc := "()V", sig := { parameters := [], returnType := none }, accessFlags := 1, code := none }
/-- java/lang/Number -/
def k4 : Class := { plain "java/lang/Number" (some 0) with
  accessFlags := 1057
  interfaces := #[3]
  cf := some (fileOf pool4 8 #[] #[{ accessFlags := 1, nameIndex := 5, descriptorIndex := 6, attributes := #[] }] 1057 2 #[13] #[{ accessFlags := 26, nameIndex := 15, descriptorIndex := 16, attributes := #[] }])
  fields := #[{ name := "serialVersionUID", type := .long, accessFlags := 26, slot := 0, constantValue := 0 }]
  methods := #[k4m0]
  instanceTypes := #[]
  staticTypes := #[.long]
  resolved := Array.replicate 37 none
  statics := none }

def pool5 : Array CpInfo := pool [(1, .class_ 2), (0, u "java/lang/Comparable"), (0, .class_ 4), (0, u "java/lang/Object")] 7

/-- java/lang/Comparable -/
def k5 : Class := { plain "java/lang/Comparable" (some 0) with
  accessFlags := 1537
  interfaces := #[]
  cf := some (fileOf pool5 1 #[] #[] 1537 3 #[] #[])
  fields := #[]
  methods := #[]
  instanceTypes := #[]
  staticTypes := #[]
  resolved := Array.replicate 12 none
  statics := none }

def pool6 : Array CpInfo := pool [(1, .class_ 2), (0, u "java/lang/constant/Constable"), (0, .class_ 4), (0, u "java/lang/Object")] 6

/-- java/lang/constant/Constable -/
def k6 : Class := { plain "java/lang/constant/Constable" (some 0) with
  accessFlags := 1537
  interfaces := #[]
  cf := some (fileOf pool6 1 #[] #[] 1537 3 #[] #[])
  fields := #[]
  methods := #[]
  instanceTypes := #[]
  staticTypes := #[]
  resolved := Array.replicate 11 none
  statics := none }

def pool7 : Array CpInfo := pool [(1, .class_ 2), (0, u "java/lang/constant/ConstantDesc"), (0, .class_ 4), (0, u "java/lang/Object")] 32

/-- java/lang/constant/ConstantDesc -/
def k7 : Class := { plain "java/lang/constant/ConstantDesc" (some 0) with
  accessFlags := 1537
  interfaces := #[]
  cf := some (fileOf pool7 1 #[] #[] 1537 3 #[] #[])
  fields := #[]
  methods := #[]
  instanceTypes := #[]
  staticTypes := #[]
  resolved := Array.replicate 37 none
  statics := none }

def pool8 : Array CpInfo := pool [(1, .class_ 2), (0, u "java/lang/Integer"), (16, u "digits"), (0, u "[C"), (30, .methodref 1 52), (0, .nameAndType 53 54), (0, u "numberOfLeadingZeros"), (0, u "(I)I"), (30, u "DigitOnes"), (0, u "[B"), (2, u "DigitTens"), (37, .integer 2147483648), (61, .class_ 190), (0, u "java/lang/Integer$IntegerCache"), (3, u "I"), (8, .class_ 204), (0, u "java/lang/Number"), (2, u "value"), (56, .integer 65536), (37, u "TYPE"), (0, u "Ljava/lang/Class;"), (0, .class_ 305), (0, u "java/lang/Comparable"), (0, .class_ 307), (0, u "java/lang/constant/Constable"), (0, .class_ 309), (0, u "java/lang/constant/ConstantDesc"), (0, u "MIN_VALUE"), (1, u "MAX_VALUE"), (3, u "SIZE"), (1, u "BYTES"), (1, u "serialVersionUID"), (0, u "J"), (81, u "highestOneBit")] 49

def k8c0 : Code := { maxStack := 3, maxLocals := 1, code := jdk_33_method_45_code, exceptionTable := #[], attributes := #[] }
def k8m0 : Method := { name := "highestOneBit", desc := "(I)I", sig := { parameters := [.int], returnType := some .int }, accessFlags := 9, code := some k8c0 }
def k8c1 : Code := { maxStack := 3, maxLocals := 2, code := jdk_33_method_47_code, exceptionTable := #[], attributes := #[] }
def k8m1 : Method := { name := "numberOfLeadingZeros", desc := "(I)I", sig := { parameters := [.int], returnType := some .int }, accessFlags := 9, code := some k8c1 }
/-- java/lang/Integer -/
def k8 : Class := { plain "java/lang/Integer" (some 4) with
  accessFlags := 49
  interfaces := #[5, 6, 7]
  cf := some (fileOf pool8 1 #[.nestMembers #[189]] #[{ accessFlags := 9, nameIndex := 403, descriptorIndex := 54, attributes := #[] }, { accessFlags := 9, nameIndex := 53, descriptorIndex := 54, attributes := #[] }] 49 203 #[304, 306, 308] #[{ accessFlags := 25, nameIndex := 310, descriptorIndex := 194, attributes := #[] }, { accessFlags := 25, nameIndex := 312, descriptorIndex := 194, attributes := #[] }, { accessFlags := 25, nameIndex := 302, descriptorIndex := 303, attributes := #[] }, { accessFlags := 24, nameIndex := 19, descriptorIndex := 20, attributes := #[] }, { accessFlags := 24, nameIndex := 89, descriptorIndex := 86, attributes := #[] }, { accessFlags := 24, nameIndex := 85, descriptorIndex := 86, attributes := #[] }, { accessFlags := 18, nameIndex := 207, descriptorIndex := 194, attributes := #[] }, { accessFlags := 25, nameIndex := 316, descriptorIndex := 194, attributes := #[] }, { accessFlags := 25, nameIndex := 318, descriptorIndex := 194, attributes := #[] }, { accessFlags := 26, nameIndex := 320, descriptorIndex := 321, attributes := #[] }])
  fields := #[{ name := "MIN_VALUE", type := .int, accessFlags := 25, slot := 0, constantValue := 0 }, { name := "MAX_VALUE", type := .int, accessFlags := 25, slot := 1, constantValue := 0 }, { name := "TYPE", type := (.object "java/lang/Class"), accessFlags := 25, slot := 2, constantValue := 0 }, { name := "digits", type := (.array .char), accessFlags := 24, slot := 3, constantValue := 0 }, { name := "DigitTens", type := (.array .byte), accessFlags := 24, slot := 4, constantValue := 0 }, { name := "DigitOnes", type := (.array .byte), accessFlags := 24, slot := 5, constantValue := 0 }, { name := "value", type := .int, accessFlags := 18, slot := 0, constantValue := 0 }, { name := "SIZE", type := .int, accessFlags := 25, slot := 6, constantValue := 0 }, { name := "BYTES", type := .int, accessFlags := 25, slot := 7, constantValue := 0 }, { name := "serialVersionUID", type := .long, accessFlags := 26, slot := 8, constantValue := 0 }]
  methods := #[k8m0, k8m1]
  instanceTypes := #[.int]
  staticTypes := #[.int, .int, (.object "java/lang/Class"), (.array .char), (.array .byte), (.array .byte), .int, .int, .long]
  resolved := Array.replicate 453 none
  statics := none }

def pool9 : Array CpInfo := pool [(1, u "java/lang/Cloneable"), (0, .class_ 1), (0, u "java/lang/Object"), (0, .class_ 3)] 3

/-- java/lang/Cloneable -/
def k9 : Class := { plain "java/lang/Cloneable" (some 0) with
  accessFlags := 1537
  interfaces := #[]
  cf := some (fileOf pool9 2 #[] #[] 1537 4 #[] #[])
  fields := #[]
  methods := #[]
  instanceTypes := #[]
  staticTypes := #[]
  resolved := Array.replicate 8 none
  statics := none }

/-- the primitive byte -/
def k10 : Class := { plain "byte" none with kind := .primitive 'B', accessFlags := 0x411 }
/-- [B -/
def k11 : Class := { plain "[B" (some 0) with kind := .array 10 .byte, interfaces := #[9, 3], accessFlags := 1041 }

/-- the primitive int -/
def k12 : Class := { plain "int" none with kind := .primitive 'I', accessFlags := 0x411 }
/-- [I -/
def k13 : Class := { plain "[I" (some 0) with kind := .array 12 .int, interfaces := #[9, 3], accessFlags := 1041 }

/-- the primitive long -/
def k14 : Class := { plain "long" none with kind := .primitive 'J', accessFlags := 0x411 }
/-- [J -/
def k15 : Class := { plain "[J" (some 0) with kind := .array 14 .long, interfaces := #[9, 3], accessFlags := 1041 }

def heap : Heap := #[]
def classes : Array Class := #[k0, k1, k2, k3, k4, k5, k6, k7, k8, k9, k10, k11, k12, k13, k14, k15]
def interned : List (Array UInt16 × Addr) := []
def slotsUsed : Nat := 0
def theMethod : MethodId := ⟨1, 1⟩
def args0 : Array Value := #[.int 5, .int 6, .int 7, .int 65537, .int 131074, .int 3]
def aboutOver (below : List Frame) : State where
  vm := { classes := classes, interned := interned.toArray }
  heap := heap
  slotsUsed := slotsUsed
  threads := #[{ frames := .invoking theMethod args0 :: below }]
def below0 : List Frame := [.native { method := ⟨0, 0⟩, args := #[] }]
def about1 : State := aboutOver below0
def p0 : Program := .bare "" "" ""
def e0 : Env := launch0.env 0 0 0
theorem w_frames : about1.frames = Frame.invoking theMethod args0 :: below0 := rfl
set_option maxRecDepth 65536 in
theorem w_args : argsFit about1.vm theMethod args0 = true := by decide +kernel
set_option maxRecDepth 65536 in
theorem w_heap : heapFits about1 = true := by decide +kernel
set_option maxRecDepth 65536 in
theorem w_runnable : about1.curStatus? = some .runnable := by decide +kernel
set_option maxRecDepth 65536 in
theorem w_alone : about1.alone = true := by decide +kernel
set_option maxRecDepth 65536 in
theorem w_named : about1.methodNamed? x = some theMethod := by decide +kernel
set_option maxRecDepth 65536 in
theorem w_hears : about1.hears theMethod below0 = true := by decide +kernel
set_option maxRecDepth 65536 in
theorem w_ripe : about1.ripe theMethod args0 below0 = true := by decide +kernel
theorem w_running : about1.status = .running := rfl
set_option maxRecDepth 65536 in
theorem w_room : about1.hasRoom e0.platform room_1 = true :=
  launch0.hasRoom_least _ room_1 (by decide +kernel) (by decide +kernel) (by decide +kernel) (by decide +kernel) (by decide +kernel) (by decide +kernel)
theorem allAtoms_all (ts : List Jvm.Cond) (a : Array Jvm.Value) (st : Jvm.State) : (allAtoms ts).before a st = ts.all (fun c => c.before a st) := by
  induction ts with
  | nil => rfl
  | cons c t ih =>
    show (Jvm.Cond.and c (allAtoms t)).before a st = _
    rw [Jvm.Cond.before_and, ih, List.all_cons]
def words1 : List Jvm.Cond := Jvm.Cond.code x code maxLocals ret :: tables_1
/-- a 'code' word, met by the world's own term for the bytes: nothing is compared byte by byte -/
theorem code_word {y : MethodName} {bytes : ByteArray} {mx : Nat} {rt : Option FieldType} {a : Array Value} {s : State} {m : MethodId} {meth : Method} {c : Code} (h1 : s.methodNamed? y = some m) (h2 : s.vm.method? m = some meth) (h3 : meth.code = some c) (h4 : c.code = bytes)
    (h5 : (c.maxLocals == mx && c.exceptionTable.isEmpty && decide (c.maxStack ≤ mostOperands) && decide (meth.sig.returnType = rt) && !meth.locks && decide (parseMethodDescriptor y.desc = some meth.sig)) = true) : (Jvm.Cond.code y bytes mx rt).before a s = true := by
  simp only [Bool.and_eq_true, beq_iff_eq, Bool.not_eq_true', decide_eq_true_eq] at h5
  obtain ⟨⟨⟨⟨⟨g1, g2⟩, g3⟩, g4⟩, g5⟩, g6⟩ := h5
  simp [Cond.before, Cond.holds, Cond.value, h1, h2, h3, h4, g1, g2, g3, g4, g5, g6]
def isCode : Jvm.Cond → Bool
  | .code _ _ _ _ => true
  | _ => false
theorem all_split {L : List Jvm.Cond} {P : Jvm.Cond → Bool} (h1 : L.all (fun c => isCode c || P c) = true) (h2 : ∀ c ∈ L.filter isCode, P c = true) : L.all P = true := by
  refine List.all_eq_true.mpr fun c hc => ?_
  have h := List.all_eq_true.mp h1 c hc
  rcases Bool.eq_false_or_eq_true (isCode c) with hi | hi
  · exact h2 c (List.mem_filter.mpr ⟨hc, hi⟩)
  · simpa [hi] using h
set_option maxRecDepth 65536 in
theorem w_c0 : (Jvm.Cond.code x code maxLocals ret).before args0 about1 = true := code_word (m := ⟨1, 1⟩) (meth := k1m1) (c := k1c1) (by decide +kernel) rfl rfl rfl (by decide +kernel)
set_option maxRecDepth 65536 in
theorem w_c1 : (Jvm.Cond.code ({ cls := "com/example/placewright/placewright/engine/CountTreeSetPinLaw", name := "prefix", desc := "([JI)J" } : Jvm.MethodName) method_3_code (4 : Nat) (Option.some Jvm.ClassFile.FieldType.long)).before args0 about1 = true := code_word (m := ⟨1, 2⟩) (meth := k1m2) (c := k1c2) (by decide +kernel) rfl rfl rfl (by decide +kernel)
set_option maxRecDepth 65536 in
theorem w_c2 : (Jvm.Cond.code ({ cls := "com/example/placewright/placewright/engine/CountTree", name := "<init>", desc := "(I)V" } : Jvm.MethodName) prog_25_method_1_code (2 : Nat) (Option.none : Option Jvm.ClassFile.FieldType)).before args0 about1 = true := code_word (m := ⟨2, 0⟩) (meth := k2m0) (c := k2c0) (by decide +kernel) rfl rfl rfl (by decide +kernel)
set_option maxRecDepth 65536 in
theorem w_c3 : (Jvm.Cond.code ({ cls := "java/lang/Object", name := "<init>", desc := "()V" } : Jvm.MethodName) object_method_1_code (1 : Nat) (Option.none : Option Jvm.ClassFile.FieldType)).before args0 about1 = true := code_word (m := ⟨0, 0⟩) (meth := k0m0) (c := k0c0) (by decide +kernel) rfl rfl rfl (by decide +kernel)
set_option maxRecDepth 65536 in
theorem w_c4 : (Jvm.Cond.code ({ cls := "java/lang/Integer", name := "highestOneBit", desc := "(I)I" } : Jvm.MethodName) jdk_33_method_45_code (1 : Nat) (Option.some Jvm.ClassFile.FieldType.int)).before args0 about1 = true := code_word (m := ⟨8, 0⟩) (meth := k8m0) (c := k8c0) (by decide +kernel) rfl rfl rfl (by decide +kernel)
set_option maxRecDepth 65536 in
theorem w_c5 : (Jvm.Cond.code ({ cls := "java/lang/Integer", name := "numberOfLeadingZeros", desc := "(I)I" } : Jvm.MethodName) jdk_33_method_47_code (2 : Nat) (Option.some Jvm.ClassFile.FieldType.int)).before args0 about1 = true := code_word (m := ⟨8, 1⟩) (meth := k8m1) (c := k8c1) (by decide +kernel) rfl rfl rfl (by decide +kernel)
set_option maxRecDepth 65536 in
theorem w_c6 : (Jvm.Cond.code ({ cls := "com/example/placewright/placewright/engine/CountTree", name := "set", desc := "(II)V" } : Jvm.MethodName) prog_25_method_3_code (6 : Nat) (Option.none : Option Jvm.ClassFile.FieldType)).before args0 about1 = true := code_word (m := ⟨2, 2⟩) (meth := k2m2) (c := k2c2) (by decide +kernel) rfl rfl rfl (by decide +kernel)
set_option maxRecDepth 65536 in
theorem w_c7 : (Jvm.Cond.code ({ cls := "com/example/placewright/placewright/engine/CountTree", name := "get", desc := "(I)I" } : Jvm.MethodName) prog_25_method_2_code (2 : Nat) (Option.some Jvm.ClassFile.FieldType.int)).before args0 about1 = true := code_word (m := ⟨2, 1⟩) (meth := k2m1) (c := k2c1) (by decide +kernel) rfl rfl rfl (by decide +kernel)
set_option maxRecDepth 65536 in
theorem w_c8 : (Jvm.Cond.code ({ cls := "com/example/placewright/placewright/engine/CountTree", name := "total", desc := "()J" } : Jvm.MethodName) prog_25_method_4_code (1 : Nat) (Option.some Jvm.ClassFile.FieldType.long)).before args0 about1 = true := code_word (m := ⟨2, 3⟩) (meth := k2m3) (c := k2c3) (by decide +kernel) rfl rfl rfl (by decide +kernel)
set_option maxRecDepth 65536 in
theorem w_c9 : (Jvm.Cond.code ({ cls := "com/example/placewright/placewright/engine/CountTree", name := "before", desc := "(I)J" } : Jvm.MethodName) prog_25_method_5_code (5 : Nat) (Option.some Jvm.ClassFile.FieldType.long)).before args0 about1 = true := code_word (m := ⟨2, 4⟩) (meth := k2m4) (c := k2c4) (by decide +kernel) rfl rfl rfl (by decide +kernel)
def codes1 : List Jvm.Cond := [Jvm.Cond.code x code maxLocals ret, Jvm.Cond.code ({ cls := "com/example/placewright/placewright/engine/CountTreeSetPinLaw", name := "prefix", desc := "([JI)J" } : Jvm.MethodName) method_3_code (4 : Nat) (Option.some Jvm.ClassFile.FieldType.long), Jvm.Cond.code ({ cls := "com/example/placewright/placewright/engine/CountTree", name := "<init>", desc := "(I)V" } : Jvm.MethodName) prog_25_method_1_code (2 : Nat) (Option.none : Option Jvm.ClassFile.FieldType), Jvm.Cond.code ({ cls := "java/lang/Object", name := "<init>", desc := "()V" } : Jvm.MethodName) object_method_1_code (1 : Nat) (Option.none : Option Jvm.ClassFile.FieldType), Jvm.Cond.code ({ cls := "java/lang/Integer", name := "highestOneBit", desc := "(I)I" } : Jvm.MethodName) jdk_33_method_45_code (1 : Nat) (Option.some Jvm.ClassFile.FieldType.int), Jvm.Cond.code ({ cls := "java/lang/Integer", name := "numberOfLeadingZeros", desc := "(I)I" } : Jvm.MethodName) jdk_33_method_47_code (2 : Nat) (Option.some Jvm.ClassFile.FieldType.int), Jvm.Cond.code ({ cls := "com/example/placewright/placewright/engine/CountTree", name := "set", desc := "(II)V" } : Jvm.MethodName) prog_25_method_3_code (6 : Nat) (Option.none : Option Jvm.ClassFile.FieldType), Jvm.Cond.code ({ cls := "com/example/placewright/placewright/engine/CountTree", name := "get", desc := "(I)I" } : Jvm.MethodName) prog_25_method_2_code (2 : Nat) (Option.some Jvm.ClassFile.FieldType.int), Jvm.Cond.code ({ cls := "com/example/placewright/placewright/engine/CountTree", name := "total", desc := "()J" } : Jvm.MethodName) prog_25_method_4_code (1 : Nat) (Option.some Jvm.ClassFile.FieldType.long), Jvm.Cond.code ({ cls := "com/example/placewright/placewright/engine/CountTree", name := "before", desc := "(I)J" } : Jvm.MethodName) prog_25_method_5_code (5 : Nat) (Option.some Jvm.ClassFile.FieldType.long)]
set_option maxRecDepth 65536 in
theorem codes_eq : words1.filter isCode = codes1 := rfl
theorem w_codes : ∀ c ∈ words1.filter isCode, c.before args0 about1 = true := by
  rw [codes_eq]
  intro c hc
  simp only [codes1, List.mem_cons, List.not_mem_nil, or_false] at hc
  rcases hc with rfl | rfl | rfl | rfl | rfl | rfl | rfl | rfl | rfl | rfl
  · exact w_c0
  · exact w_c1
  · exact w_c2
  · exact w_c3
  · exact w_c4
  · exact w_c5
  · exact w_c6
  · exact w_c7
  · exact w_c8
  · exact w_c9
set_option maxRecDepth 65536 in
theorem w_t1 : (words1.take 24).all (fun c => isCode c || c.before args0 about1) = true := by decide +kernel
set_option maxRecDepth 65536 in
theorem w_t2 : ((words1.drop 24).take 24).all (fun c => isCode c || c.before args0 about1) = true := by decide +kernel
set_option maxRecDepth 65536 in
theorem w_t3 : ((words1.drop 24).drop 24).all (fun c => isCode c || c.before args0 about1) = true := by decide +kernel
theorem w_tables : (allAtoms (Jvm.Cond.code x code maxLocals ret :: tables_1)).before args0 about1 = true := by
  rw [allAtoms_all]
  show words1.all (fun c => c.before args0 about1) = true
  refine all_split ?_ w_codes
  rw [← List.take_append_drop 24 words1, List.all_append, w_t1, ← List.take_append_drop 24 (words1.drop 24), List.all_append, w_t2, w_t3]
  rfl
set_option maxRecDepth 65536 in
theorem w_case : (Jvm.Cond.and given_1 narrow_1).before args0 about1 = true := by decide +kernel
theorem w_applies : (headSpec (Jvm.Cond.code x code maxLocals ret :: tables_1) room_1).applies x e0.platform about1 = true :=
  (Spec.applies_iff w_frames).mpr ⟨w_running, w_runnable, w_alone, w_named, w_hears, w_ripe, w_room, w_tables⟩
theorem atStart : AtStart classFile x code maxLocals ret World_1 tables_1 room_1 Calls_1 rest_1 Pre_1 launch0 p0 e0 about1 theMethod args0 below0 :=
  ⟨lists_1, trivial, launch0.admits_env _ _ _, launch0.least_env, fairChoices_fair.cas, fairChoices_fair.clock, w_frames, w_args, w_heap, w_applies, trivial, trivial, w_case⟩
end start1
theorem witness_1 : WitnessClaimed_1 := ⟨start1.p0, start1.e0, start1.about1, start1.theMethod, start1.args0, start1.below0, start1.atStart⟩
end Jvm.Pilot.@@N@@
