import JvmDerived
import JvmDerived.Pilot.@@N@@Statement
import JvmDerived.Pilot.@@N@@Code
set_option linter.unusedVariables false
set_option linter.unusedSimpArgs false
namespace Jvm.RoadKit
open Sem ClassFile Op Lib Jvm.Stand Jvm.Free Jvm.LawKit
section New
variable {p : Program} {l : Launch} {e : Env} {R : Room} {s : State} {m : MethodId} {args : Array Value} {below : List Frame} {meth : Method} {c : Code} {T : State} {locs : List Loc} {cells slots : Nat}
theorem retI (X : Stand p l e R s m args below meth c T locs cells slots) (hx : p.tables.exec = Jvm.exec) {pc : Nat} {Ls : Array Slot} {z : Int32} {rest : List Value} (hret : meth.sig.returnType = some .int) (hd : decode c.code pc = .ok (.ireturn, 1)) {fs : List Frame}
    (hl : ∀ (f : JFrame) (acts : List Action), f.method = m → f.locked = none → f.entered = [] → (doReturn e (T.setTop f) acts (some (.int z))).1 = T.setFrames fs) : Steps p.tables e below (T.setTop (mkF m pc Ls (.int z :: rest))) (T.setFrames fs) := by
  have hm' : T.vm.method? m = some meth := X.method'
  have hn : narrow .int (.int z) = .int z := rfl
  show Steps p.tables e below (T.setTop { method := m, pc := pc, locals := Ls, stack := _ :: rest, locked := none }) _
  jvm_step X.here [X.here.top, hx, hd, hm', hret, hn]
  first | (intro acts; rw [hl _ acts rfl rfl rfl]) | rw [hl _ _ rfl rfl rfl]
  exact Steps.refl _
end New
end Jvm.RoadKit
namespace Jvm.Pilot.@@N@@
open Jvm Jvm.ClassFile Sem Op Lib Jvm.Free Jvm.Stand Jvm.LawKit Jvm.RoadKit Bundle Jvm.Pilot.@@N@@.Jvm.D

section Kit
variable {p : Program} {l : Launch} {e : Env} {R : Room} {s : State} {m : MethodId} {args : Array Value} {below : List Frame} {meth : Method} {c : Code} {T T' : State} {locs : List Loc} {cells slots : Nat} {Z : State} {a0 : Array Value} {h h' : Heap}
/-- from T at the frame g the run comes to a state of which Q holds -/
def WP (p : Program) (e : Env) (below : List Frame) (Q : State → Prop) (T : State) (g : JFrame) : Prop :=
  ∃ t, Steps p.tables e below (T.setTop g) t ∧ Q t
theorem wp {Q : State → Prop} {g g' : JFrame} (h : ∀ t, Steps p.tables e below (T'.setTop g') t → Steps p.tables e below (T.setTop g) t) (k : WP p e below Q T' g') : WP p e below Q T g := by
  obtain ⟨t, a, b⟩ := k
  exact ⟨t, h t a, b⟩
/-- the end that a contract asks -/
def Ends (s : State) (below : List Frame) (q : Option Value → Heap → List Loc → Prop) (Cn Sn : Nat) (t : State) : Prop :=
  ∃ o, t.status = .running ∧ Ended t below o ∧ ∃ v L, o = .returned v ∧ q v t.heap L ∧ FrameEnd s o t L Cn Sn
/-- what a walk knows of its method -/
def Cx (p : Program) (s : State) (m : MethodId) (meth : Method) (c : Code) (Z : State) (a0 : Array Value) (bytes : ByteArray) (ml : Nat) (own nm : String) (ret : Option FieldType) : Prop :=
  p.tables.exec = Jvm.exec ∧ Z.Warmed39 s.vm ∧ (∀ d ∈ tables_1, d.before a0 Z = true) ∧ c.code = bytes ∧ c.maxLocals = ml ∧ s.vm.findClass own = some m.cls ∧ meth.name = nm ∧ meth.sig.returnType = ret ∧ meth.locks = false
/-- a contract: from the heap h, with the arguments as, it returns and q holds -/
def MetQ (l : Launch) (Z : State) (y : MethodName) (bytes : ByteArray) (ml : Nat) (ret : Option FieldType) (ws : List Jvm.Cond) (rm : Room) (as : Array Value) (h : Heap) (q : Option Value → Heap → List Loc → Prop) : Prop :=
  MetFree l y (head1 (Jvm.Cond.code y bytes ml ret :: ws) rm) (fun a U => a = as ∧ Z.Warmed39 U.vm ∧ U.heap = h) (fun _ _ _ _ _ => True) (fun _ U o U' => ∃ v L, o = .returned v ∧ q v U'.heap L ∧ FrameEnd U o U' L rm.cells rm.slots)
theorem metQ {y : MethodName} {bytes : ByteArray} {ml : Nat} {ret : Option FieldType} {ws : List Jvm.Cond} {rm : Room} {as : Array Value} {q : Option Value → Heap → List Loc → Prop} {Ls : Array Slot} (hpl : plainFor y = true) (hw : ∀ d ∈ tables_1, d.before a0 Z = true)
    (hef : ∀ m, entryFrame m as ml = mkF m 0 Ls [])
    (body : ∀ p e s m below meth c s₁, Cx p s m meth c Z a0 bytes ml y.cls y.name ret → Stand p l e rm s m as below meth c s₁ [] 0 0 → s₁.heap = h → WP p e below (Ends s below q rm.cells rm.slots) s₁ (mkF m 0 Ls [])) :
    MetQ l Z y bytes ml ret ws rm as h q := by
  refine MetFree.of_bodySF hpl hisR ?_
  intro p e s m args below meth c s₁ Bd hml0 hP hK
  obtain ⟨rfl, hZ, hh⟩ := hP
  obtain ⟨t, st, o, a, b, d⟩ := body p e s m below meth c s₁ ⟨Bd.exec, hZ, hw, Bd.bytes, hml0, findClass_of_methodNamed Bd.named, (name_of_methodNamed Bd.named Bd.method).1, Bd.returns, Bd.notSynchronized⟩ (Stand.of_body Bd) (by rw [← hh, Bd.state]; rfl)
  exact ⟨t, o, castTop (hef m) st, a, b, d⟩
theorem wp_ret {q : Option Value → Heap → List Loc → Prop} {Cn Sn : Nat} {v : Option Value} {g : JFrame} (X : Stand p l e R s m args below meth c T locs cells slots) (hlk : meth.locks = false) (hv : meth.sig.returnType = none → v = none)
    (hst : ∀ fs, (∀ (f : JFrame) (acts : List Action), f.method = m → f.locked = none → f.entered = [] → (doReturn e (T.setTop f) acts v).1 = T.setFrames fs) → Steps p.tables e below (T.setTop g) (T.setFrames fs)) (hq : q v T.heap locs) (hc : cells ≤ Cn) (hs : slots ≤ Sn) :
    WP p e below (Ends s below q Cn Sn) T g := by
  obtain ⟨fs, hr, hrun, hended, hW, hsame⟩ := X.leave (v := v) hv hlk
  exact ⟨_, hst fs hr, _, hrun, hended, _, _, rfl, hq, ⟨_, rfl⟩, hW, hsame.mono hc hs⟩
theorem wp_ireturn {q : Option Value → Heap → List Loc → Prop} {Cn Sn : Nat} {bytes : ByteArray} {ml pc : Nat} {own nm : String} {Ls : Array Slot} {z : Int32} {rest : List Value} (C : Cx p s m meth c Z a0 bytes ml own nm (some .int)) (X : Stand p l e R s m args below meth c T locs cells slots)
    (hd : decode bytes pc = .ok (.ireturn, 1)) (hq : q (some (.int z)) T.heap locs) (hc : cells ≤ Cn) (hs : slots ≤ Sn) : WP p e below (Ends s below q Cn Sn) T (mkF m pc Ls (.int z :: rest)) := by
  obtain ⟨hx, hZ, hw, hby, hml, hown, hnm, hret, hlk⟩ := C
  exact wp_ret X hlk (fun h => by rw [hret] at h; cases h) (fun fs hr => retI X hx hret (hb hby hd) hr) hq hc hs
theorem wp_zreturn {q : Option Value → Heap → List Loc → Prop} {Cn Sn : Nat} {bytes : ByteArray} {ml pc : Nat} {own nm : String} {t : FieldType} {Ls : Array Slot} {z : Int32} {rest : List Value} (C : Cx p s m meth c Z a0 bytes ml own nm (some t)) (X : Stand p l e R s m args below meth c T locs cells slots)
    (ht : t = .boolean ∨ t = .byte ∨ t = .char ∨ t = .short) (hd : decode bytes pc = .ok (.ireturn, 1)) (hq : q (some (.int (nar t z))) T.heap locs) (hc : cells ≤ Cn) (hs : slots ≤ Sn) : WP p e below (Ends s below q Cn Sn) T (mkF m pc Ls (.int z :: rest)) := by
  obtain ⟨hx, hZ, hw, hby, hml, hown, hnm, hret, hlk⟩ := C
  exact wp_ret X hlk (fun h => by rw [hret] at h; cases h) (fun fs hr => retN X hx hret ht (hb hby hd) hr) hq hc hs
theorem wp_lreturn {q : Option Value → Heap → List Loc → Prop} {Cn Sn : Nat} {bytes : ByteArray} {ml pc : Nat} {own nm : String} {Ls : Array Slot} {z : Int64} {rest : List Value} (C : Cx p s m meth c Z a0 bytes ml own nm (some .long)) (X : Stand p l e R s m args below meth c T locs cells slots)
    (hd : decode bytes pc = .ok (.lreturn, 1)) (hq : q (some (.long z)) T.heap locs) (hc : cells ≤ Cn) (hs : slots ≤ Sn) : WP p e below (Ends s below q Cn Sn) T (mkF m pc Ls (.long z :: rest)) := by
  obtain ⟨hx, hZ, hw, hby, hml, hown, hnm, hret, hlk⟩ := C
  exact wp_ret X hlk (fun h => by rw [hret] at h; cases h) (fun fs hr => retOut X hx hret rfl (Or.inr (Or.inl ⟨rfl, rfl, z, rfl⟩)) (hb hby hd) hr) hq hc hs
theorem wp_dreturn {q : Option Value → Heap → List Loc → Prop} {Cn Sn : Nat} {bytes : ByteArray} {ml pc : Nat} {own nm : String} {Ls : Array Slot} {z : UInt64} {rest : List Value} (C : Cx p s m meth c Z a0 bytes ml own nm (some .double)) (X : Stand p l e R s m args below meth c T locs cells slots)
    (hd : decode bytes pc = .ok (.dreturn, 1)) (hq : q (some (.double z)) T.heap locs) (hc : cells ≤ Cn) (hs : slots ≤ Sn) : WP p e below (Ends s below q Cn Sn) T (mkF m pc Ls (.double z :: rest)) := by
  obtain ⟨hx, hZ, hw, hby, hml, hown, hnm, hret, hlk⟩ := C
  exact wp_ret X hlk (fun h => by rw [hret] at h; cases h) (fun fs hr => retOut X hx hret rfl (Or.inr (Or.inr (Or.inl ⟨rfl, rfl, z, rfl⟩))) (hb hby hd) hr) hq hc hs
theorem wp_vreturn {q : Option Value → Heap → List Loc → Prop} {Cn Sn : Nat} {bytes : ByteArray} {ml pc : Nat} {own nm : String} {Ls : Array Slot} (C : Cx p s m meth c Z a0 bytes ml own nm none) (X : Stand p l e R s m args below meth c T locs cells slots)
    (hd : decode bytes pc = .ok (.return_, 1)) (hq : q none T.heap locs) (hc : cells ≤ Cn) (hs : slots ≤ Sn) : WP p e below (Ends s below q Cn Sn) T (mkF m pc Ls []) := by
  obtain ⟨hx, hZ, hw, hby, hml, hown, hnm, hret, hlk⟩ := C
  exact wp_ret X hlk (fun _ => rfl) (fun fs hr => X.returnOut hx hret (hb hby hd) hr) hq hc hs
/-! calls -/
theorem wp_static {Q : State → Prop} {bytes : ByteArray} {ml : Nat} {own nm : String} {ret : Option FieldType} {y : MethodName} {bytes' : ByteArray} {ml' : Nat} {ret' : Option FieldType} {rm : Room} {index pc : Nat} {Ls : Array Slot} {argsL rest st : List Value} {q : Option Value → Heap → List Loc → Prop}
    (C : Cx p s m meth c Z a0 bytes ml own nm ret) (X : Stand p l e R s m args below meth c T locs cells slots) (e0 : T.heap = h)
    (met : MetQ l Z y bytes' ml' ret' [] rm argsL.toArray h q)
    (w1 : (Jvm.Cond.methodLink own index y).before a0 Z = true) (w2 : (Jvm.Cond.static y).before a0 Z = true) (w3 : (Jvm.Cond.initialized y.cls).before a0 Z = true) (w4 : (Jvm.Cond.code y bytes' ml' ret').before a0 Z = true)
    (hy : y.cls ≠ "java/lang/invoke/MethodHandle" ∧ y.cls ≠ "java/lang/invoke/VarHandle") (hsz : Ls.size = ml) (hlen : ∀ sig, parseMethodDescriptor y.desc = some sig → argsL.length = sig.parameters.length)
    (hd : decode bytes pc = .ok (.invokestatic index, 3)) (hst : st = argsL.reverse ++ rest) (hf : rm.frames + 1 ≤ R.frames) (hl : (rest.map fun v => v.category).sum + (ml' + 11) + rm.locals ≤ R.locals) (hc : cells + rm.cells ≤ R.cells) (hs : slots + rm.slots ≤ R.slots)
    (k : ∀ T' v L, Stand p l e R s m args below meth c T' (locs ++ L) (cells + rm.cells) (slots + rm.slots) → q v T'.heap L → WP p e below Q T' (mkF m (pc + 3) Ls (v.toList ++ rest))) :
    WP p e below Q T (mkF m pc Ls st) := by
  obtain ⟨hx, hZ, hw, hby, hml, hown, hnm, hret, hlk⟩ := C
  obtain ⟨v, _, ⟨T1, L1, k1, n1⟩, -, X1, ⟨Lc1, hQ1, l1, y1, z1⟩, st1⟩ := Jvm.LawKit.callS X hx (y := y) hown (mvT hZ w1) (mvT hZ w2) (mvT hZ w3) (mvT hZ w4) hy (backOf (W := (rest.map fun v => v.category).sum) met hZ w4 w3 hf hl) (g := mkF m pc Ls st) rfl (hsz.trans hml.symm) (argsL := argsL) (rest := rest) hlen hst (Nat.le_of_eq (Nat.zero_add _)) (hb hby hd) (fun _ _ => ⟨rfl, e0, hc, hs⟩)
  dsimp only [Pt.U, Pt.locs, Pt.cells, Pt.slots] at X1 l1 y1 z1 st1 hQ1
  subst l1 y1 z1
  exact wp st1 (k T1 v Lc1 X1 hQ1)
/-- what a callee that writes nothing leaves -/
def PureQ (r : Option Value) (h : Heap) : Option Value → Heap → List Loc → Prop := fun v h' L => v = r ∧ h' = h ∧ L = []
theorem wp_staticP {Q : State → Prop} {bytes : ByteArray} {ml : Nat} {own nm : String} {ret : Option FieldType} {y : MethodName} {bytes' : ByteArray} {ml' : Nat} {ret' : Option FieldType} {rm : Room} {index pc : Nat} {Ls : Array Slot} {argsL rest st : List Value} {r : Option Value}
    (C : Cx p s m meth c Z a0 bytes ml own nm ret) (X : Stand p l e R s m args below meth c T locs cells slots) (e0 : T.heap = h)
    (met : MetQ l Z y bytes' ml' ret' [] rm argsL.toArray h (PureQ r h))
    (w1 : (Jvm.Cond.methodLink own index y).before a0 Z = true) (w2 : (Jvm.Cond.static y).before a0 Z = true) (w3 : (Jvm.Cond.initialized y.cls).before a0 Z = true) (w4 : (Jvm.Cond.code y bytes' ml' ret').before a0 Z = true)
    (hy : y.cls ≠ "java/lang/invoke/MethodHandle" ∧ y.cls ≠ "java/lang/invoke/VarHandle") (hsz : Ls.size = ml) (hlen : ∀ sig, parseMethodDescriptor y.desc = some sig → argsL.length = sig.parameters.length)
    (hd : decode bytes pc = .ok (.invokestatic index, 3)) (hst : st = argsL.reverse ++ rest) (hrc : rm.cells = 0) (hrs : rm.slots = 0) (hf : rm.frames + 1 ≤ R.frames) (hl : (rest.map fun v => v.category).sum + (ml' + 11) + rm.locals ≤ R.locals) (hc : cells ≤ R.cells) (hs : slots ≤ R.slots)
    (k : ∀ T', Stand p l e R s m args below meth c T' locs cells slots → T'.heap = h → WP p e below Q T' (mkF m (pc + 3) Ls (r.toList ++ rest))) :
    WP p e below Q T (mkF m pc Ls st) := by
  refine wp_static C X e0 met w1 w2 w3 w4 hy hsz hlen hd hst hf hl (by rw [hrc]; exact hc) (by rw [hrs]; exact hs) ?_
  rintro T1 v L X1 ⟨rfl, e1, rfl⟩
  rw [hrc, hrs, List.append_nil] at X1
  exact k T1 X1 e1
theorem wp_virtual {Q : State → Prop} {bytes : ByteArray} {ml : Nat} {own nm : String} {ret : Option FieldType} {y : MethodName} {bytes' : ByteArray} {ml' : Nat} {ret' : Option FieldType} {rm : Room} {index pc : Nat} {Ls : Array Slot} {b : Addr} {argsL rest st : List Value} {q : Option Value → Heap → List Loc → Prop}
    (C : Cx p s m meth c Z a0 bytes ml own nm ret) (X : Stand p l e R s m args below meth c T locs cells slots) (e0 : T.heap = h) (E : Exa Z h b y.cls)
    (met : MetQ l Z y bytes' ml' ret' [] rm (.ref b :: argsL).toArray h q)
    (w1 : (Jvm.Cond.methodLink own index y).before a0 Z = true) (w2 : (Jvm.Cond.declares y).before a0 Z = true) (w3 : (Jvm.Cond.selects y.cls y y).before a0 Z = true) (w5 : (Jvm.Cond.instanceMethod y).before a0 Z = true) (w4 : (Jvm.Cond.code y bytes' ml' ret').before a0 Z = true) (w6 : (Jvm.Cond.initialized y.cls).before a0 Z = true)
    (hy : y.cls ≠ "java/lang/invoke/MethodHandle" ∧ y.cls ≠ "java/lang/invoke/VarHandle") (hsz : Ls.size = ml) (hlen : ∀ sig, parseMethodDescriptor y.desc = some sig → argsL.length = sig.parameters.length)
    (hd : decode bytes pc = .ok (.invokevirtual index, 3)) (hst : st = argsL.reverse ++ .ref b :: rest) (hf : rm.frames + 1 ≤ R.frames) (hl : (rest.map fun v => v.category).sum + (ml' + 11) + rm.locals ≤ R.locals) (hc : cells + rm.cells ≤ R.cells) (hs : slots + rm.slots ≤ R.slots)
    (k : ∀ T' v L, Stand p l e R s m args below meth c T' (locs ++ L) (cells + rm.cells) (slots + rm.slots) → q v T'.heap L → WP p e below Q T' (mkF m (pc + 3) Ls (v.toList ++ rest))) :
    WP p e below Q T (mkF m pc Ls st) := by
  obtain ⟨hx, hZ, hw, hby, hml, hown, hnm, hret, hlk⟩ := C
  obtain ⟨cq, kq, qa, qb, qc⟩ := isOf hZ e0 E
  obtain ⟨v, _, ⟨T1, L1, k1, n1⟩, -, X1, ⟨Lc1, hQ1, l1, y1, z1⟩, st1⟩ := X.virtualBack hx (y := y) (z := y) hown (mvT hZ w1) (mvT hZ w2) (notFace_of_selects (args := #[]) (mvT hZ w3)) (mvT hZ w3) (mvT hZ w5) hy (backOf (W := (rest.map fun v => v.category).sum) met hZ w4 w6 hf hl) qa qc (g := mkF m pc Ls st) rfl (hsz.trans hml.symm) (Steps.refl _) (argsL := argsL) (rest := rest) hlen hst (Nat.le_of_eq (Nat.zero_add _)) (hb hby hd) (fun _ _ => ⟨rfl, e0, hc, hs⟩)
  dsimp only [Pt.U, Pt.locs, Pt.cells, Pt.slots] at X1 l1 y1 z1 st1 hQ1
  subst l1 y1 z1
  exact wp (fun _ k => st1.trans k) (k T1 v Lc1 X1 hQ1)
theorem wp_special {Q : State → Prop} {bytes : ByteArray} {ml : Nat} {own nm : String} {ret : Option FieldType} {y : MethodName} {bytes' : ByteArray} {ml' : Nat} {rm : Room} {index pc : Nat} {Ls : Array Slot} {b : Addr} {argsL rest st : List Value} {q : Option Value → Heap → List Loc → Prop}
    (C : Cx p s m meth c Z a0 bytes ml own nm ret) (X : Stand p l e R s m args below meth c T locs cells slots) (e0 : T.heap = h)
    (met : MetQ l Z y bytes' ml' none [] rm (.ref b :: argsL).toArray h q) (hy1 : y.name = "<init>")
    (w1 : (Jvm.Cond.methodLink own index y).before a0 Z = true) (w5 : (Jvm.Cond.instanceMethod y).before a0 Z = true) (w4 : (Jvm.Cond.code y bytes' ml' none).before a0 Z = true) (w6 : (Jvm.Cond.initialized y.cls).before a0 Z = true)
    (hy : y.cls ≠ "java/lang/invoke/MethodHandle" ∧ y.cls ≠ "java/lang/invoke/VarHandle") (hsz : Ls.size = ml) (hlen : ∀ sig, parseMethodDescriptor y.desc = some sig → argsL.length = sig.parameters.length)
    (hd : decode bytes pc = .ok (.invokespecial index, 3)) (hst : st = argsL.reverse ++ .ref b :: rest) (hf : rm.frames + 1 ≤ R.frames) (hl : (rest.map fun v => v.category).sum + (ml' + 11) + rm.locals ≤ R.locals) (hc : cells + rm.cells ≤ R.cells) (hs : slots + rm.slots ≤ R.slots)
    (k : ∀ T' v L, Stand p l e R s m args below meth c T' (locs ++ L) (cells + rm.cells) (slots + rm.slots) → q v T'.heap L → WP p e below Q T' (mkF m (pc + 3) Ls (v.toList ++ rest))) :
    WP p e below Q T (mkF m pc Ls st) := by
  obtain ⟨hx, hZ, hw, hby, hml, hown, hnm, hret, hlk⟩ := C
  obtain ⟨v, _, ⟨T1, L1, k1, n1⟩, -, X1, ⟨Lc1, hQ1, l1, y1, z1⟩, st1⟩ := X.specialBack hx (y := y) hy1 hown (mvT hZ w1) (mvT hZ w5) (mvT hZ w4) hy (backOf (W := (rest.map fun v => v.category).sum) met hZ w4 w6 hf hl) (g := mkF m pc Ls st) rfl (hsz.trans hml.symm) (Steps.refl _) (a := b) (argsL := argsL) (rest := rest) hlen hst (Nat.le_of_eq (Nat.zero_add _)) (hb hby hd) (fun _ _ => ⟨rfl, e0, hc, hs⟩)
  dsimp only [Pt.U, Pt.locs, Pt.cells, Pt.slots] at X1 l1 y1 z1 st1 hQ1
  subst l1 y1 z1
  exact wp (fun _ k => st1.trans k) (k T1 v Lc1 X1 hQ1)
/-! arrays by their places: place j holds f j -/
def Af (Z : State) (h : Heap) (a : Addr) (ty : FieldType) (n : Nat) (f : Nat → Value) : Prop := ∃ cl : Cell, Arr Z h a cl ty ∧ cl.slots.size = n ∧ ∀ j, j < n → cl.slots[j]? = some (f j)
theorem Af.lt {a : Addr} {ty : FieldType} {n : Nat} {f : Nat → Value} (A : Af Z h a ty n f) : a < h.size := by obtain ⟨c, A, -⟩ := A; exact A.lt
theorem Af.ext {a : Addr} {ty : FieldType} {n : Nat} {f : Nat → Value} (A : Af Z h a ty n f) (E : Ext h h') : Af Z h' a ty n f := by obtain ⟨c, A, r⟩ := A; exact ⟨c, A.ext E, r⟩
theorem Af.other {a b : Addr} {ty : FieldType} {n sl : Nat} {v : Value} {f : Nat → Value} (A : Af Z h b ty n f) (W : Wr h h' a sl v) (q : b ≠ a) : Af Z h' b ty n f := by obtain ⟨c, A, r⟩ := A; exact ⟨c, A.other W q, r⟩
theorem Af.keep {a : Addr} {ty : FieldType} {n : Nat} {f : Nat → Value} {ws : List Addr} (A : Af Z h a ty n f) (K : Keep h h' ws) (q : a ∉ ws) : Af Z h' a ty n f := by obtain ⟨c, A, r⟩ := A; exact ⟨c, ⟨K.2.1 a c A.1 q, A.2⟩, r⟩
theorem Af.conv {a : Addr} {ty : FieldType} {n : Nat} {f g : Nat → Value} (A : Af Z h a ty n f) (q : ∀ j, j < n → f j = g j) : Af Z h a ty n g := by obtain ⟨c, A, r1, r2⟩ := A; exact ⟨c, A, r1, fun j hj => by rw [← q j hj]; exact r2 j hj⟩
theorem Af.set {a : Addr} {ty : FieldType} {n i : Nat} {v : Value} {f : Nat → Value} (A : Af Z h a ty n f) (W : Wr h h' a i v) (hi : i < n) : Af Z h' a ty n (fun j => if j = i then v else f j) := by
  obtain ⟨c, A, r1, r2⟩ := A
  refine ⟨_, A.same W, by rw [sz_set]; exact r1, fun j hj => ?_⟩
  show (c.slots.setIfInBounds i v)[j]? = _
  by_cases q : j = i
  · subst q; simp [r1, hi]
  · rw [Array.getElem?_setIfInBounds_ne (Ne.symm q), r2 j hj]; simp [q]
theorem clampNeg {z : Int32} {j : Nat} (hz : z.toInt = (j : Int)) : z.toNatClampNeg = j := by
  rw [Int32.toNatClampNeg, hz]; rfl
theorem idxIn {z : Int32} {j n : Nat} (hz : z.toInt = (j : Int)) (hj : j < n) : ¬ (z < 0 ∨ n ≤ z.toNatClampNeg) := by
  rw [clampNeg hz, Int32.lt_iff_toInt_lt, hz, show (0 : Int32).toInt = 0 from rfl]
  omega
theorem wp_newarray {Q : State → Prop} {bytes : ByteArray} {ml : Nat} {own nm : String} {ret : Option FieldType} {aty : ArrayType} {pc n : Nat} {z : Int32} {Ls : Array Slot} {rest : List Value}
    (C : Cx p s m meth c Z a0 bytes ml own nm ret) (X : Stand p l e R s m args below meth c T locs cells slots) (e0 : T.heap = h) (w : (Jvm.Cond.arrayClass (newarray.typeOf aty)).before a0 Z = true) (hd : decode bytes pc = .ok (.newarray aty, 2)) (hz : z.toInt = (n : Int)) {cap : Nat} (hn : n ≤ cap) (hcap : cap * 8 ≤ 536870912)
    (hc : cells + 1 ≤ R.cells) (hs : slots + cap ≤ R.slots)
    (k : ∀ T' h', Stand p l e R s m args below meth c T' locs (cells + 1) (slots + cap) → T'.heap = h' → Ext h h' → Af Z h' h.size (newarray.typeOf aty) n (fun _ => defaultValue (newarray.typeOf aty)) → WP p e below Q T' (mkF m (pc + 2) Ls (.ref h.size :: rest))) :
    WP p e below Q T (mkF m pc Ls (.int z :: rest)) := by
  obtain ⟨hx, hZ, hw, hby, hml, hown, hnm, hret, hlk⟩ := C
  obtain ⟨T1, h1, k1, X1, e1, E1, A1, st1⟩ := newP X hx hZ w e0 (g := mkF m pc Ls (.int z :: rest)) rfl (hb hby hd) rfl (by rw [Int32.lt_iff_toInt_lt, hz, show (0 : Int32).toInt = 0 from rfl]; omega) (cap := cap) (by rw [clampNeg hz]; exact hn) hcap hc hs
  refine wp st1 (k T1 h1 X1 e1 E1 ⟨_, A1, by rw [sz_new, clampNeg hz], fun j hj => ?_⟩)
  simp [newA, clampNeg hz, hj]
theorem wp_bastore {Q : State → Prop} {bytes : ByteArray} {ml : Nat} {own nm : String} {ret : Option FieldType} {pc n j : Nat} {zj x : Int32} {a : Addr} {f : Nat → Value} {Ls : Array Slot} {rest : List Value}
    (C : Cx p s m meth c Z a0 bytes ml own nm ret) (X : Stand p l e R s m args below meth c T locs cells slots) (e0 : T.heap = h) (A : Af Z h a .byte n f) (hz : zj.toInt = (j : Int)) (hj : j < n) (hd : decode bytes pc = .ok (.bastore, 1))
    (k : ∀ T' h', Stand p l e R s m args below meth c T' (locs ++ [⟨a, zj.toNatClampNeg⟩]) cells slots → T'.heap = h' → Wr h h' a j (.int (nar .byte x)) → Af Z h' a .byte n (fun i => if i = j then .int (nar .byte x) else f i) → WP p e below Q T' (mkF m (pc + 1) Ls rest)) :
    WP p e below Q T (mkF m pc Ls (.int x :: .int zj :: .ref a :: rest)) := by
  obtain ⟨hx, hZ, hw, hby, hml, hown, hnm, hret, hlk⟩ := C
  obtain ⟨cl, Ar, Sz, H⟩ := id A
  obtain ⟨T1, h1, X1, e1, W1, st1⟩ := stB X hx hZ e0 Ar (j := zj) (by rw [Sz]; exact idxIn hz hj) (g := mkF m pc Ls (.int x :: .int zj :: .ref a :: rest)) rfl rfl (hb hby hd)
  rw [clampNeg hz] at W1
  exact wp st1 (k T1 h1 X1 e1 W1 (A.set W1 hj))
theorem wp_iastore {Q : State → Prop} {bytes : ByteArray} {ml : Nat} {own nm : String} {ret : Option FieldType} {pc n j : Nat} {zj x : Int32} {a : Addr} {f : Nat → Value} {Ls : Array Slot} {rest : List Value}
    (C : Cx p s m meth c Z a0 bytes ml own nm ret) (X : Stand p l e R s m args below meth c T locs cells slots) (e0 : T.heap = h) (A : Af Z h a .int n f) (hz : zj.toInt = (j : Int)) (hj : j < n) (hd : decode bytes pc = .ok (.iastore, 1))
    (k : ∀ T' h', Stand p l e R s m args below meth c T' (locs ++ [⟨a, zj.toNatClampNeg⟩]) cells slots → T'.heap = h' → Wr h h' a j (.int x) → Af Z h' a .int n (fun i => if i = j then .int x else f i) → WP p e below Q T' (mkF m (pc + 1) Ls rest)) :
    WP p e below Q T (mkF m pc Ls (.int x :: .int zj :: .ref a :: rest)) := by
  obtain ⟨hx, hZ, hw, hby, hml, hown, hnm, hret, hlk⟩ := C
  obtain ⟨cl, Ar, Sz, H⟩ := id A
  obtain ⟨T1, h1, X1, e1, W1, st1⟩ := stI X hx hZ e0 Ar (j := zj) (by rw [Sz]; exact idxIn hz hj) (g := mkF m pc Ls (.int x :: .int zj :: .ref a :: rest)) rfl rfl (hb hby hd)
  rw [clampNeg hz] at W1
  exact wp st1 (k T1 h1 X1 e1 W1 (A.set W1 hj))
theorem wp_lastore {Q : State → Prop} {bytes : ByteArray} {ml : Nat} {own nm : String} {ret : Option FieldType} {pc n j : Nat} {zj : Int32} {x : Int64} {a : Addr} {f : Nat → Value} {Ls : Array Slot} {rest : List Value}
    (C : Cx p s m meth c Z a0 bytes ml own nm ret) (X : Stand p l e R s m args below meth c T locs cells slots) (e0 : T.heap = h) (A : Af Z h a .long n f) (hz : zj.toInt = (j : Int)) (hj : j < n) (hd : decode bytes pc = .ok (.lastore, 1))
    (k : ∀ T' h', Stand p l e R s m args below meth c T' (locs ++ [⟨a, zj.toNatClampNeg⟩]) cells slots → T'.heap = h' → Wr h h' a j (.long x) → Af Z h' a .long n (fun i => if i = j then .long x else f i) → WP p e below Q T' (mkF m (pc + 1) Ls rest)) :
    WP p e below Q T (mkF m pc Ls (.long x :: .int zj :: .ref a :: rest)) := by
  obtain ⟨hx, hZ, hw, hby, hml, hown, hnm, hret, hlk⟩ := C
  obtain ⟨cl, Ar, Sz, H⟩ := id A
  obtain ⟨T1, h1, X1, e1, W1, st1⟩ := stJ X hx hZ e0 Ar (j := zj) (by rw [Sz]; exact idxIn hz hj) (g := mkF m pc Ls (.long x :: .int zj :: .ref a :: rest)) rfl rfl (hb hby hd)
  rw [clampNeg hz] at W1
  exact wp st1 (k T1 h1 X1 e1 W1 (A.set W1 hj))
theorem wp_baload {Q : State → Prop} {bytes : ByteArray} {ml : Nat} {own nm : String} {ret : Option FieldType} {pc n j : Nat} {zj : Int32} {v : Value} {a : Addr} {f : Nat → Value} {Ls : Array Slot} {rest : List Value}
    (C : Cx p s m meth c Z a0 bytes ml own nm ret) (X : Stand p l e R s m args below meth c T locs cells slots) (e0 : T.heap = h) (A : Af Z h a .byte n f) (hz : zj.toInt = (j : Int)) (hj : j < n) (hv : f j = v) (hd : decode bytes pc = .ok (.baload, 1))
    (k : WP p e below Q T (mkF m (pc + 1) Ls (v :: rest))) : WP p e below Q T (mkF m pc Ls (.int zj :: .ref a :: rest)) := by
  obtain ⟨hx, hZ, hw, hby, hml, hown, hnm, hret, hlk⟩ := C
  obtain ⟨cl, Ar, Sz, H⟩ := A
  exact wp (fun t kt => X.baloadBytes hx (j := zj) (v := v) (by rw [e0]; exact Ar.1) (State.isArrayOf_alike hZ.alike Ar.2.1) Ar.2.2 (by rw [Sz]; exact idxIn hz hj) (by rw [clampNeg hz, H j hj, hv]) (g := mkF m pc Ls (.int zj :: .ref a :: rest)) rfl rfl (hb hby hd) t kt) k
theorem wp_iaload {Q : State → Prop} {bytes : ByteArray} {ml : Nat} {own nm : String} {ret : Option FieldType} {pc n j : Nat} {zj : Int32} {v : Value} {a : Addr} {f : Nat → Value} {Ls : Array Slot} {rest : List Value}
    (C : Cx p s m meth c Z a0 bytes ml own nm ret) (X : Stand p l e R s m args below meth c T locs cells slots) (e0 : T.heap = h) (A : Af Z h a .int n f) (hz : zj.toInt = (j : Int)) (hj : j < n) (hv : f j = v) (hd : decode bytes pc = .ok (.iaload, 1))
    (k : WP p e below Q T (mkF m (pc + 1) Ls (v :: rest))) : WP p e below Q T (mkF m pc Ls (.int zj :: .ref a :: rest)) := by
  obtain ⟨hx, hZ, hw, hby, hml, hown, hnm, hret, hlk⟩ := C
  obtain ⟨cl, Ar, Sz, H⟩ := A
  exact wp (fun t kt => X.iaload hx (j := zj) (v := v) (by rw [e0]; exact Ar.1) (State.isArrayOf_alike hZ.alike Ar.2.1) Ar.2.2 (by rw [Sz]; exact idxIn hz hj) (by rw [clampNeg hz, H j hj, hv]) (g := mkF m pc Ls (.int zj :: .ref a :: rest)) rfl rfl (hb hby hd) t kt) k
theorem wp_laload {Q : State → Prop} {bytes : ByteArray} {ml : Nat} {own nm : String} {ret : Option FieldType} {pc n j : Nat} {zj : Int32} {v : Value} {a : Addr} {f : Nat → Value} {Ls : Array Slot} {rest : List Value}
    (C : Cx p s m meth c Z a0 bytes ml own nm ret) (X : Stand p l e R s m args below meth c T locs cells slots) (e0 : T.heap = h) (A : Af Z h a .long n f) (hz : zj.toInt = (j : Int)) (hj : j < n) (hv : f j = v) (hd : decode bytes pc = .ok (.laload, 1))
    (k : WP p e below Q T (mkF m (pc + 1) Ls (v :: rest))) : WP p e below Q T (mkF m pc Ls (.int zj :: .ref a :: rest)) := by
  obtain ⟨hx, hZ, hw, hby, hml, hown, hnm, hret, hlk⟩ := C
  obtain ⟨cl, Ar, Sz, H⟩ := A
  exact wp (fun t kt => X.laload hx (j := zj) (v := v) (by rw [e0]; exact Ar.1) (State.isArrayOf_alike hZ.alike Ar.2.1) Ar.2.2 (by rw [Sz]; exact idxIn hz hj) (by rw [clampNeg hz, H j hj, hv]) (g := mkF m pc Ls (.int zj :: .ref a :: rest)) rfl rfl (hb hby hd) t kt) k
theorem wp_arraylength {Q : State → Prop} {bytes : ByteArray} {ml : Nat} {own nm : String} {ret : Option FieldType} {pc n : Nat} {a : Addr} {ty : FieldType} {f : Nat → Value} {Ls : Array Slot} {rest : List Value}
    (C : Cx p s m meth c Z a0 bytes ml own nm ret) (X : Stand p l e R s m args below meth c T locs cells slots) (e0 : T.heap = h) (A : Af Z h a ty n f) (hd : decode bytes pc = .ok (.arraylength, 1))
    (k : WP p e below Q T (mkF m (pc + 1) Ls (.int (Int32.ofNat n) :: rest))) : WP p e below Q T (mkF m pc Ls (.ref a :: rest)) := by
  obtain ⟨hx, hZ, hw, hby, hml, hown, hnm, hret, hlk⟩ := C
  obtain ⟨cl, Ar, Sz, H⟩ := A
  refine wp (fun t kt => X.arraylength hx (by rw [e0]; exact Ar.1) (State.isArrayOf_alike hZ.alike Ar.2.1) (g := mkF m pc Ls (.ref a :: rest)) rfl rfl (hb hby hd) t ?_) k
  rw [Sz]
  exact kt
theorem wp_ldc {Q : State → Prop} {bytes : ByteArray} {ml : Nat} {own nm : String} {ret : Option FieldType} {pc index : Nat} {v : Int32} {Ls : Array Slot} {st : List Value}
    (C : Cx p s m meth c Z a0 bytes ml own nm ret) (X : Stand p l e R s m args below meth c T locs cells slots) (w : (Jvm.Cond.constant own index v).before a0 Z = true) (hd : decode bytes pc = .ok (.ldc index, 2))
    (k : WP p e below Q T (mkF m (pc + 2) Ls (.int v :: st))) : WP p e below Q T (mkF m pc Ls st) := by
  obtain ⟨hx, hZ, hw, hby, hml, hown, hnm, hret, hlk⟩ := C
  exact wp (X.ldcInt hx hown (mvT hZ w) (g := mkF m pc Ls st) rfl (hb hby hd)) k
theorem wp_ldc2 {Q : State → Prop} {bytes : ByteArray} {ml : Nat} {own nm : String} {ret : Option FieldType} {pc index : Nat} {v : Int64} {Ls : Array Slot} {st : List Value}
    (C : Cx p s m meth c Z a0 bytes ml own nm ret) (X : Stand p l e R s m args below meth c T locs cells slots) (w : (Jvm.Cond.constantLong own index v).before a0 Z = true) (hd : decode bytes pc = .ok (.ldc2_w index, 3))
    (k : WP p e below Q T (mkF m (pc + 3) Ls (.long v :: st))) : WP p e below Q T (mkF m pc Ls st) := by
  obtain ⟨hx, hZ, hw, hby, hml, hown, hnm, hret, hlk⟩ := C
  exact wp (X.ldc2Long hx hown (mvT hZ w) (g := mkF m pc Ls st) rfl (hb hby hd)) k
theorem Frs {k : Nat} {a : Addr} {sl : Nat} {L : List Loc} (N : Fr k L) (q : k ≤ a) : Fr k (L ++ [⟨a, sl⟩]) := N.app fun y hy => by cases List.mem_singleton.mp hy; exact q
end Kit

/-! numbers -/
theorem own_z {z : Int32} {k : Nat} (hz : z.toInt = (k : Int)) (hk : k < 2147483648) : z = Int32.ofNat k := by
  rw [← Int32.toInt_inj, hz, Int32.toInt_ofNat_of_lt hk]
theorem own_subk {z q : Int32} {j k : Nat} (hz : z.toInt = (j : Int)) (hq : q.toInt = (k : Int)) (hj : j < 1000) (hk : k ≤ j) : (z - q).toInt = ((j - k : Nat) : Int) := by
  have h1 := c_isub z q
  have h2 := rng32 (z - q)
  omega
theorem own_mid {zl zh : Int32} {lo hi : Nat} (hl : zl.toInt = (lo : Int)) (hh : zh.toInt = (hi : Int)) (h1 : lo < 1000) (h2 : hi < 1000) : ((((zl + zh) + (1 : Int32)).toUInt32 >>> ((1 : Int32) &&& 31).toUInt32).toInt32).toInt = (((lo + hi + 1) / 2 : Nat) : Int) := by
  have q1 := c_iadd zl zh
  have q2 := rng32 (zl + zh)
  have q3 := c_iadd (zl + zh) 1
  have q4 := rng32 ((zl + zh) + 1)
  have q5 : (1 : Int32).toInt = 1 := rfl
  rw [c_iushr ((zl + zh) + 1) 1 1 rfl (by decide)]
  omega
def own_min (x y : Int64) : Int64 := if y < x then y else x
theorem own_min_le (x y : Int64) : (own_min x y).toInt ≤ y.toInt := by
  unfold own_min
  split
  · omega
  · rename_i h
    rw [Int64.lt_iff_toInt_lt] at h
    omega
theorem own_step (p g : Int64) (h : p.toInt ≤ 9223372036854710272) : p.toInt ≤ (p + (g &&& (65535 : Int64))).toInt ∧ (p + (g &&& (65535 : Int64))).toInt ≤ p.toInt + 65535 := by
  have q1 := c_maskL g 65535 16 (by decide) rfl
  have q2 := c_ladd p (g &&& 65535)
  have q3 := rng64 (p + (g &&& 65535))
  have q4 := rng64 p
  omega
theorem own_at (p0 tot q : Int64) (h0 : p0.toInt ≤ 9223372036854513663) (h1 : 0 < tot.toInt) (h2 : tot.toInt ≤ 262144) : p0.toInt ≤ (p0 + ((q &&& (9223372036854775807 : Int64)) - ((q &&& (9223372036854775807 : Int64)) / tot) * tot)).toInt := by
  have q1 := c_maskL q 9223372036854775807 63 (by decide) rfl
  have q2 := (c_lrem (q &&& 9223372036854775807) tot tot.toInt rfl).1 (by omega)
  generalize (q &&& (9223372036854775807 : Int64)) - ((q &&& (9223372036854775807 : Int64)) / tot) * tot = w at q2 ⊢
  have q3 := c_ladd p0 w
  have q4 := rng64 (p0 + w)
  have q5 := rng64 p0
  have q6 := Int.emod_nonneg (q &&& 9223372036854775807).toInt (show tot.toInt ≠ 0 by omega)
  have q7 := Int.emod_lt_of_pos (q &&& 9223372036854775807).toInt h1
  omega
/-- the law's own count -/
def own_E (M : Nat) (at_ : Int64) (pp : Nat → Int64) : Nat → Nat
  | 0 => 0
  | k + 1 => own_E M at_ pp k + (if k + 1 < M ∧ ¬ at_ < pp (k + 1) then 1 else 0)
theorem own_E_no (M : Nat) (at_ : Int64) (pp : Nat → Int64) (k : Nat) (h : ¬ (k + 1 < M ∧ ¬ at_ < pp (k + 1))) : own_E M at_ pp (k + 1) = own_E M at_ pp k := by
  rw [own_E, if_neg h]; rfl
theorem own_E_yes (M : Nat) (at_ : Int64) (pp : Nat → Int64) (k : Nat) (h : k + 1 < M ∧ ¬ at_ < pp (k + 1)) : own_E M at_ pp (k + 1) = own_E M at_ pp k + 1 := by
  rw [own_E, if_pos h]
theorem own_E_spec (M : Nat) (at_ : Int64) (pp : Nat → Int64) (h1 : 1 ≤ M) (h4 : M ≤ 4) (p0 : (pp 0).toInt ≤ at_.toInt) (p1 : (pp 0).toInt ≤ (pp 1).toInt) (p2 : (pp 1).toInt ≤ (pp 2).toInt) (p3 : (pp 2).toInt ≤ (pp 3).toInt) :
    own_E M at_ pp 3 ≤ M - 1 ∧ (∀ j, j ≤ own_E M at_ pp 3 → ¬ at_ < pp j) ∧ (∀ j, own_E M at_ pp 3 < j → j ≤ M - 1 → at_ < pp j) := by
  have L := @Int64.lt_iff_toInt_lt
  simp only [own_E, L, Nat.zero_add, Nat.reduceAdd]
  refine ⟨?_, fun j hj => ?_, fun j hj hj2 => ?_⟩
  · repeat' split
    all_goals omega
  · have hj3 : j = 0 ∨ j = 1 ∨ j = 2 ∨ j = 3 := by
      revert hj
      repeat' split
      all_goals (intro hj; omega)
    rcases hj3 with rfl | rfl | rfl | rfl
    all_goals (revert hj; repeat' split)
    all_goals (intro hj; omega)
  · have hj3 : j = 1 ∨ j = 2 ∨ j = 3 := by omega
    rcases hj3 with rfl | rfl | rfl
    all_goals (revert hj; repeat' split)
    all_goals (intro hj; omega)
def own_pp (p0 p1 p2 p3 p4 : Int64) (j : Nat) : Int64 := if j = 0 then p0 else if j = 1 then p1 else if j = 2 then p2 else if j = 3 then p3 else p4

theorem dmin_0 : decode jdk_29_method_70_code 0 = .ok (.lload_n 0, 1) := by decide +kernel
theorem dmin_1 : decode jdk_29_method_70_code 1 = .ok (.lload_n 2, 1) := by decide +kernel
theorem dmin_2 : decode jdk_29_method_70_code 2 = .ok (.lcmp, 1) := by decide +kernel
theorem dmin_3 : decode jdk_29_method_70_code 3 = .ok (.ifCond .gt 7, 3) := by decide +kernel
theorem dmin_6 : decode jdk_29_method_70_code 6 = .ok (.lload_n 0, 1) := by decide +kernel
theorem dmin_7 : decode jdk_29_method_70_code 7 = .ok (.goto 4, 3) := by decide +kernel
theorem dmin_10 : decode jdk_29_method_70_code 10 = .ok (.lload_n 2, 1) := by decide +kernel
theorem dmin_11 : decode jdk_29_method_70_code 11 = .ok (.lreturn, 1) := by decide +kernel

theorem pd_min : parseMethodDescriptor "(JJ)J" = some ⟨[.long, .long], some .long⟩ := by decide +kernel

theorem dlsb_0 : decode prog_56_method_7_code 0 = .ok (.iconst 0, 1) := by decide +kernel
theorem dlsb_1 : decode prog_56_method_7_code 1 = .ok (.istore_n 3, 1) := by decide +kernel
theorem dlsb_2 : decode prog_56_method_7_code 2 = .ok (.aload_n 0, 1) := by decide +kernel
theorem dlsb_3 : decode prog_56_method_7_code 3 = .ok (.arraylength, 1) := by decide +kernel
theorem dlsb_4 : decode prog_56_method_7_code 4 = .ok (.iconst 2, 1) := by decide +kernel
theorem dlsb_5 : decode prog_56_method_7_code 5 = .ok (.isub, 1) := by decide +kernel
theorem dlsb_6 : decode prog_56_method_7_code 6 = .ok (.istore 4, 2) := by decide +kernel
theorem dlsb_8 : decode prog_56_method_7_code 8 = .ok (.iload_n 3, 1) := by decide +kernel
theorem dlsb_9 : decode prog_56_method_7_code 9 = .ok (.iload 4, 2) := by decide +kernel
theorem dlsb_11 : decode prog_56_method_7_code 11 = .ok (.if_icmp .ge 37, 3) := by decide +kernel
theorem dlsb_14 : decode prog_56_method_7_code 14 = .ok (.iload_n 3, 1) := by decide +kernel
theorem dlsb_15 : decode prog_56_method_7_code 15 = .ok (.iload 4, 2) := by decide +kernel
theorem dlsb_17 : decode prog_56_method_7_code 17 = .ok (.iadd, 1) := by decide +kernel
theorem dlsb_18 : decode prog_56_method_7_code 18 = .ok (.iconst 1, 1) := by decide +kernel
theorem dlsb_19 : decode prog_56_method_7_code 19 = .ok (.iadd, 1) := by decide +kernel
theorem dlsb_20 : decode prog_56_method_7_code 20 = .ok (.iconst 1, 1) := by decide +kernel
theorem dlsb_21 : decode prog_56_method_7_code 21 = .ok (.iushr, 1) := by decide +kernel
theorem dlsb_22 : decode prog_56_method_7_code 22 = .ok (.istore 5, 2) := by decide +kernel
theorem dlsb_24 : decode prog_56_method_7_code 24 = .ok (.aload_n 0, 1) := by decide +kernel
theorem dlsb_25 : decode prog_56_method_7_code 25 = .ok (.iload 5, 2) := by decide +kernel
theorem dlsb_27 : decode prog_56_method_7_code 27 = .ok (.laload, 1) := by decide +kernel
theorem dlsb_28 : decode prog_56_method_7_code 28 = .ok (.lload_n 1, 1) := by decide +kernel
theorem dlsb_29 : decode prog_56_method_7_code 29 = .ok (.lcmp, 1) := by decide +kernel
theorem dlsb_30 : decode prog_56_method_7_code 30 = .ok (.ifCond .gt 9, 3) := by decide +kernel
theorem dlsb_33 : decode prog_56_method_7_code 33 = .ok (.iload 5, 2) := by decide +kernel
theorem dlsb_35 : decode prog_56_method_7_code 35 = .ok (.istore_n 3, 1) := by decide +kernel
theorem dlsb_36 : decode prog_56_method_7_code 36 = .ok (.goto 9, 3) := by decide +kernel
theorem dlsb_39 : decode prog_56_method_7_code 39 = .ok (.iload 5, 2) := by decide +kernel
theorem dlsb_41 : decode prog_56_method_7_code 41 = .ok (.iconst 1, 1) := by decide +kernel
theorem dlsb_42 : decode prog_56_method_7_code 42 = .ok (.isub, 1) := by decide +kernel
theorem dlsb_43 : decode prog_56_method_7_code 43 = .ok (.istore 4, 2) := by decide +kernel
theorem dlsb_45 : decode prog_56_method_7_code 45 = .ok (.goto (-37), 3) := by decide +kernel
theorem dlsb_48 : decode prog_56_method_7_code 48 = .ok (.iload_n 3, 1) := by decide +kernel
theorem dlsb_49 : decode prog_56_method_7_code 49 = .ok (.ireturn, 1) := by decide +kernel

theorem pd_lsb : parseMethodDescriptor "([JJ)I" = some ⟨[(.array .long), .long], some .int⟩ := by decide +kernel

theorem pn_lsb : plainName "com/example/placewright/placewright/engine/PackedSet$Joined" = true := by first | (simp [plainName, overriddenIn]; done) | decide +kernel

theorem pn_law : plainName "com/example/placewright/placewright/engine/JoinedLastStartingByPinLaw" = true := by first | (simp [plainName, overriddenIn]; done) | decide +kernel

theorem ef_min (x0 : Int64) (x1 : Int64) (m : MethodId) : entryFrame m #[(.long x0), (.long x1)] 4 = mkF m 0 #[.val (.long x0), .second, .val (.long x1), .second] [] := by first | (simp [entryFrame, mkF, argsToLocals, Value.category]; done) | rfl

theorem ef_lsb (x0 : Addr) (x1 : Int64) (m : MethodId) : entryFrame m #[(.ref x0), (.long x1)] 6 = mkF m 0 #[.val (.ref x0), .val (.long x1), .second, .unset, .unset, .unset] [] := by first | (simp [entryFrame, mkF, argsToLocals, Value.category]; done) | rfl

theorem ef_law (x0 : Int64) (x1 : Int64) (x2 : Int64) (x3 : Int32) (m : MethodId) : entryFrame m #[(.long x0), (.long x1), (.long x2), (.int x3)] maxLocals = mkF m 0 #[.val (.long x0), .second, .val (.long x1), .second, .val (.long x2), .second, .val (.int x3), .unset, .unset, .unset, .unset, .unset, .unset, .unset, .unset, .unset, .unset, .unset, .unset, .unset, .unset, .unset, .unset, .unset, .unset, .unset, .unset] [] := by first | (simp [entryFrame, mkF, argsToLocals, Value.category, maxLocals]; done) | rfl

set_option maxRecDepth 65536 in
set_option maxHeartbeats 4000000 in
theorem rm_min (l : Launch) (Z : State) (a0 : Array Value) (hw : ∀ d ∈ tables_1, d.before a0 Z = true) (ws : List Jvm.Cond) (q r : Int64) (h0 : Heap) :
    MetQ l Z (⟨"java/lang/Math", "min", "(JJ)J"⟩ : MethodName) jdk_29_method_70_code 4 (some .long) ws ({ frames := 0, cells := 0, slots := 0, locals := 0 } : Room) #[(.long q), (.long r)] h0 (PureQ (some (.long (own_min q r))) h0) := by
  refine metQ (a0 := a0) (Jvm.Free.JP.mathPlain rfl (by decide +kernel)) hw (ef_min q r) ?_
  intro p e s m below meth c T0 C X0 e0
  obtain ⟨hx, hZ, hw, hby, hml, hown, hnm, hret, hlk⟩ := id C
  show WP p e below _ T0 (mkF m 0 #[.val (.long q), .second, .val (.long r), .second] [])
  refine wp (fun _ => XS.lloadN X0.here hx rfl (hb hby dmin_0) rfl) ?_
  show WP p e below _ T0 (mkF m 1 #[.val (.long q), .second, .val (.long r), .second] [(.long q)])
  refine wp (fun _ => XS.lloadN X0.here hx rfl (hb hby dmin_1) rfl) ?_
  show WP p e below _ T0 (mkF m 2 #[.val (.long q), .second, .val (.long r), .second] [(.long r), (.long q)])
  refine wp (fun _ => XT.lcmp X0.here hx rfl (hb hby dmin_2) rfl) ?_
  show WP p e below _ T0 (mkF m 3 #[.val (.long q), .second, .val (.long r), .second] [(.int (XT.cmpL q r))])
  by_cases hc : r < q
  ·
    refine wp (fun _ => XS.ifYes X0.here hx rfl (pc0 := 3) (pc' := 10) rfl (hb hby dmin_3) rfl (XT.ll_gt_t hc) (by decide) (by decide)) ?_
    show WP p e below _ T0 (mkF m 10 #[.val (.long q), .second, .val (.long r), .second] [])
    refine wp (fun _ => XS.lloadN X0.here hx rfl (hb hby dmin_10) rfl) ?_
    show WP p e below _ T0 (mkF m 11 #[.val (.long q), .second, .val (.long r), .second] [(.long r)])
    exact wp_lreturn C X0 dmin_11 ⟨by rw [own_min, if_pos hc], e0, rfl⟩ (by decide) (by decide)
  ·
    refine wp (fun _ => XS.ifNo X0.here hx rfl (hb hby dmin_3) rfl (XT.ll_gt_f hc)) ?_
    show WP p e below _ T0 (mkF m 6 #[.val (.long q), .second, .val (.long r), .second] [])
    refine wp (fun _ => XS.lloadN X0.here hx rfl (hb hby dmin_6) rfl) ?_
    show WP p e below _ T0 (mkF m 7 #[.val (.long q), .second, .val (.long r), .second] [(.long q)])
    refine wp (fun _ => XS.goto X0.here hx rfl (pc0 := 7) (pc' := 11) rfl (hb hby dmin_7) (by decide) (by decide)) ?_
    show WP p e below _ T0 (mkF m 11 #[.val (.long q), .second, .val (.long r), .second] [(.long q)])
    exact wp_lreturn C X0 dmin_11 ⟨by rw [own_min, if_neg hc], e0, rfl⟩ (by decide) (by decide)
section Own
variable {p : Program} {l : Launch} {e : Env} {R : Room} {s : State} {m : MethodId} {args : Array Value} {below : List Frame} {meth : Method} {c : Code} {T0 : State} {locs : List Loc} {cells slots : Nat} {Z : State} {a0 : Array Value} {h0 : Heap} {Q : State → Prop}

theorem own_store5 {z0 z1 z3 z4 : Value} {s5 : Slot} {v : Int32} (h : One s5) : storeLocals #[.val z0, .val z1, .second, .val z3, .val z4, s5] 5 (.int v) = some #[.val z0, .val z1, .second, .val z3, .val z4, .val (.int v)] := by
  rcases h with rfl | ⟨w, rfl, hw⟩
  · rfl
  · cases w <;> first | rfl | (simp [Value.category] at hw)
set_option maxRecDepth 65536 in
set_option maxHeartbeats 4000000 in
theorem lsb_loop (a : Addr) (at_ : Int64) (M E : Nat) (pp : Nat → Int64) (hM : M ≤ 4) (hE1 : E ≤ M - 1) (hE2 : ∀ j, j ≤ E → ¬ at_ < pp j) (hE3 : ∀ j, E < j → j ≤ M - 1 → at_ < pp j) (C : Cx p s m meth c Z a0 prog_56_method_7_code 6 "com/example/placewright/placewright/engine/PackedSet$Joined" "lastStartingBy" (some .int)) (X0 : Stand p l e R s m args below meth c T0 locs cells slots) (e0 : T0.heap = h0) (A : Af Z h0 a .long (M + 1) (fun j => .long (pp j)))
    (k : ∀ zl zh s5, zl.toInt = (E : Int) → WP p e below Q T0 (mkF m 48 #[.val (.ref a), .val (.long at_), .second, .val (.int zl), .val (.int zh), s5] [])) :
    ∀ (r lo hi : Nat) (zl zh : Int32) (s5 : Slot), hi - lo ≤ r → lo ≤ E → E ≤ hi → hi ≤ M - 1 → zl.toInt = (lo : Int) → zh.toInt = (hi : Int) → One s5 → WP p e below Q T0 (mkF m 8 #[.val (.ref a), .val (.long at_), .second, .val (.int zl), .val (.int zh), s5] []) := by
  obtain ⟨hx, hZ, hw, hby, hml, hown, hnm, hret, hlk⟩ := id C
  have L0 := @Int32.lt_iff_toInt_lt
  intro r
  induction r with
  | zero =>
    intro lo hi zl zh s5 hr h1 h2 h3 hl hh h5
    refine wp (fun _ => XS.iloadN X0.here hx rfl (hb hby dlsb_8) rfl) ?_
    show WP p e below _ T0 (mkF m 9 #[.val (.ref a), .val (.long at_), .second, .val (.int zl), .val (.int zh), s5] [(.int zl)])
    refine wp (fun _ => XS.iload X0.here hx rfl (hb hby dlsb_9) rfl) ?_
    show WP p e below _ T0 (mkF m 11 #[.val (.ref a), .val (.long at_), .second, .val (.int zl), .val (.int zh), s5] [(.int zh), (.int zl)])
    have hc : ¬ (zl < zh) := by rw [L0]; omega
    refine wp (fun _ => XS.icmpYes X0.here hx rfl (pc0 := 11) (pc' := 48) rfl (hb hby dlsb_11) rfl (XT.ii_ge_t hc) (by decide) (by decide)) ?_
    show WP p e below _ T0 (mkF m 48 #[.val (.ref a), .val (.long at_), .second, .val (.int zl), .val (.int zh), s5] [])
    exact k zl zh s5 (by omega)
  | succ r ih =>
    intro lo hi zl zh s5 hr h1 h2 h3 hl hh h5
    refine wp (fun _ => XS.iloadN X0.here hx rfl (hb hby dlsb_8) rfl) ?_
    show WP p e below _ T0 (mkF m 9 #[.val (.ref a), .val (.long at_), .second, .val (.int zl), .val (.int zh), s5] [(.int zl)])
    refine wp (fun _ => XS.iload X0.here hx rfl (hb hby dlsb_9) rfl) ?_
    show WP p e below _ T0 (mkF m 11 #[.val (.ref a), .val (.long at_), .second, .val (.int zl), .val (.int zh), s5] [(.int zh), (.int zl)])
    by_cases hc : zl < zh
    · rw [L0] at hc
      refine wp (fun _ => XS.icmpNo X0.here hx rfl (hb hby dlsb_11) rfl (XT.ii_ge_f (L0.mpr hc))) ?_
      show WP p e below _ T0 (mkF m 14 #[.val (.ref a), .val (.long at_), .second, .val (.int zl), .val (.int zh), s5] [])
      refine wp (fun _ => XS.iloadN X0.here hx rfl (hb hby dlsb_14) rfl) ?_
      show WP p e below _ T0 (mkF m 15 #[.val (.ref a), .val (.long at_), .second, .val (.int zl), .val (.int zh), s5] [(.int zl)])
      refine wp (fun _ => XS.iload X0.here hx rfl (hb hby dlsb_15) rfl) ?_
      show WP p e below _ T0 (mkF m 17 #[.val (.ref a), .val (.long at_), .second, .val (.int zl), .val (.int zh), s5] [(.int zh), (.int zl)])
      refine wp (fun _ => XS.iadd X0.here hx rfl (hb hby dlsb_17) rfl) ?_
      show WP p e below _ T0 (mkF m 18 #[.val (.ref a), .val (.long at_), .second, .val (.int zl), .val (.int zh), s5] [(.int (zl + zh))])
      refine wp (fun _ => XS.iconst X0.here hx rfl (hb hby dlsb_18)) ?_
      show WP p e below _ T0 (mkF m 19 #[.val (.ref a), .val (.long at_), .second, .val (.int zl), .val (.int zh), s5] [(.int (1 : Int32)), (.int (zl + zh))])
      refine wp (fun _ => XS.iadd X0.here hx rfl (hb hby dlsb_19) rfl) ?_
      show WP p e below _ T0 (mkF m 20 #[.val (.ref a), .val (.long at_), .second, .val (.int zl), .val (.int zh), s5] [(.int ((zl + zh) + (1 : Int32)))])
      refine wp (fun _ => XS.iconst X0.here hx rfl (hb hby dlsb_20)) ?_
      show WP p e below _ T0 (mkF m 21 #[.val (.ref a), .val (.long at_), .second, .val (.int zl), .val (.int zh), s5] [(.int (1 : Int32)), (.int ((zl + zh) + (1 : Int32)))])
      refine wp (fun _ => XS.iushr X0.here hx rfl (hb hby dlsb_21) rfl) ?_
      show WP p e below _ T0 (mkF m 22 #[.val (.ref a), .val (.long at_), .second, .val (.int zl), .val (.int zh), s5] [(.int ((((zl + zh) + (1 : Int32)).toUInt32 >>> ((1 : Int32) &&& 31).toUInt32).toInt32))])
      have hm := own_mid hl hh (by omega) (by omega)
      generalize ((((zl + zh) + (1 : Int32)).toUInt32 >>> ((1 : Int32) &&& 31).toUInt32).toInt32) = zm at hm ⊢
      show WP p e below _ T0 (mkF m 22 #[.val (.ref a), .val (.long at_), .second, .val (.int zl), .val (.int zh), s5] [(.int zm)])
      refine wp (fun _ => XS.istore X0.here hx rfl (hb hby dlsb_22) rfl (l' := #[.val (.ref a), .val (.long at_), .second, .val (.int zl), .val (.int zh), .val (.int zm)]) (own_store5 h5)) ?_
      show WP p e below _ T0 (mkF m 24 #[.val (.ref a), .val (.long at_), .second, .val (.int zl), .val (.int zh), .val (.int zm)] [])
      refine wp (fun _ => XS.aloadN X0.here hx rfl (hb hby dlsb_24) rfl rfl) ?_
      show WP p e below _ T0 (mkF m 25 #[.val (.ref a), .val (.long at_), .second, .val (.int zl), .val (.int zh), .val (.int zm)] [(.ref a)])
      refine wp (fun _ => XS.iload X0.here hx rfl (hb hby dlsb_25) rfl) ?_
      show WP p e below _ T0 (mkF m 27 #[.val (.ref a), .val (.long at_), .second, .val (.int zl), .val (.int zh), .val (.int zm)] [(.int zm), (.ref a)])
      refine wp_laload C X0 e0 A hm (by omega) rfl dlsb_27 ?_
      show WP p e below _ T0 (mkF m 28 #[.val (.ref a), .val (.long at_), .second, .val (.int zl), .val (.int zh), .val (.int zm)] [(.long (pp ((lo + hi + 1) / 2)))])
      refine wp (fun _ => XS.lloadN X0.here hx rfl (hb hby dlsb_28) rfl) ?_
      show WP p e below _ T0 (mkF m 29 #[.val (.ref a), .val (.long at_), .second, .val (.int zl), .val (.int zh), .val (.int zm)] [(.long at_), (.long (pp ((lo + hi + 1) / 2)))])
      refine wp (fun _ => XT.lcmp X0.here hx rfl (hb hby dlsb_29) rfl) ?_
      show WP p e below _ T0 (mkF m 30 #[.val (.ref a), .val (.long at_), .second, .val (.int zl), .val (.int zh), .val (.int zm)] [(.int (XT.cmpL (pp ((lo + hi + 1) / 2)) at_))])
      by_cases hq : at_ < (pp ((lo + hi + 1) / 2))
      · have hEm : E < (lo + hi + 1) / 2 := Nat.not_le.mp fun q => hE2 _ q hq
        refine wp (fun _ => XS.ifYes X0.here hx rfl (pc0 := 30) (pc' := 39) rfl (hb hby dlsb_30) rfl (XT.ll_gt_t hq) (by decide) (by decide)) ?_
        show WP p e below _ T0 (mkF m 39 #[.val (.ref a), .val (.long at_), .second, .val (.int zl), .val (.int zh), .val (.int zm)] [])
        refine wp (fun _ => XS.iload X0.here hx rfl (hb hby dlsb_39) rfl) ?_
        show WP p e below _ T0 (mkF m 41 #[.val (.ref a), .val (.long at_), .second, .val (.int zl), .val (.int zh), .val (.int zm)] [(.int zm)])
        refine wp (fun _ => XS.iconst X0.here hx rfl (hb hby dlsb_41)) ?_
        show WP p e below _ T0 (mkF m 42 #[.val (.ref a), .val (.long at_), .second, .val (.int zl), .val (.int zh), .val (.int zm)] [(.int (1 : Int32)), (.int zm)])
        refine wp (fun _ => XS.isub X0.here hx rfl (hb hby dlsb_42) rfl) ?_
        show WP p e below _ T0 (mkF m 43 #[.val (.ref a), .val (.long at_), .second, .val (.int zl), .val (.int zh), .val (.int zm)] [(.int (zm - (1 : Int32)))])
        refine wp (fun _ => XS.istore X0.here hx rfl (hb hby dlsb_43) rfl (l' := #[.val (.ref a), .val (.long at_), .second, .val (.int zl), .val (.int (zm - (1 : Int32))), .val (.int zm)]) rfl) ?_
        show WP p e below _ T0 (mkF m 45 #[.val (.ref a), .val (.long at_), .second, .val (.int zl), .val (.int (zm - (1 : Int32))), .val (.int zm)] [])
        refine wp (fun _ => XS.goto X0.here hx rfl (pc0 := 45) (pc' := 8) rfl (hb hby dlsb_45) (by decide) (by decide)) ?_
        show WP p e below _ T0 (mkF m 8 #[.val (.ref a), .val (.long at_), .second, .val (.int zl), .val (.int (zm - (1 : Int32))), .val (.int zm)] [])
        exact ih lo ((lo + hi + 1) / 2 - 1) _ _ _ (by omega) h1 (by omega) (by omega) hl (own_subk hm rfl (by omega) (by omega)) (One.val rfl)
      · have hEm : (lo + hi + 1) / 2 ≤ E := Nat.not_lt.mp fun q => hq (hE3 _ q (by omega))
        refine wp (fun _ => XS.ifNo X0.here hx rfl (hb hby dlsb_30) rfl (XT.ll_gt_f hq)) ?_
        show WP p e below _ T0 (mkF m 33 #[.val (.ref a), .val (.long at_), .second, .val (.int zl), .val (.int zh), .val (.int zm)] [])
        refine wp (fun _ => XS.iload X0.here hx rfl (hb hby dlsb_33) rfl) ?_
        show WP p e below _ T0 (mkF m 35 #[.val (.ref a), .val (.long at_), .second, .val (.int zl), .val (.int zh), .val (.int zm)] [(.int zm)])
        refine wp (fun _ => XS.istoreN X0.here hx rfl (hb hby dlsb_35) rfl (l' := #[.val (.ref a), .val (.long at_), .second, .val (.int zm), .val (.int zh), .val (.int zm)]) rfl) ?_
        show WP p e below _ T0 (mkF m 36 #[.val (.ref a), .val (.long at_), .second, .val (.int zm), .val (.int zh), .val (.int zm)] [])
        refine wp (fun _ => XS.goto X0.here hx rfl (pc0 := 36) (pc' := 45) rfl (hb hby dlsb_36) (by decide) (by decide)) ?_
        show WP p e below _ T0 (mkF m 45 #[.val (.ref a), .val (.long at_), .second, .val (.int zm), .val (.int zh), .val (.int zm)] [])
        refine wp (fun _ => XS.goto X0.here hx rfl (pc0 := 45) (pc' := 8) rfl (hb hby dlsb_45) (by decide) (by decide)) ?_
        show WP p e below _ T0 (mkF m 8 #[.val (.ref a), .val (.long at_), .second, .val (.int zm), .val (.int zh), .val (.int zm)] [])
        exact ih ((lo + hi + 1) / 2) hi _ _ _ (by omega) hEm h2 h3 hm hh (One.val rfl)
    · rw [L0] at hc
      refine wp (fun _ => XS.icmpYes X0.here hx rfl (pc0 := 11) (pc' := 48) rfl (hb hby dlsb_11) rfl (XT.ii_ge_t (fun q => hc (L0.mp q))) (by decide) (by decide)) ?_
      show WP p e below _ T0 (mkF m 48 #[.val (.ref a), .val (.long at_), .second, .val (.int zl), .val (.int zh), s5] [])
      exact k zl zh s5 (by omega)
end Own
def QB (E : Nat) (h0 : Heap) : Option Value → Heap → List Loc → Prop := fun v h L => ∃ z : Int32, v = some (.int z) ∧ z.toInt = (E : Int) ∧ h = h0 ∧ L = []
set_option maxRecDepth 65536 in
set_option maxHeartbeats 4000000 in
theorem rm_lsb (l : Launch) (Z : State) (a0 : Array Value) (hw : ∀ d ∈ tables_1, d.before a0 Z = true) (ws : List Jvm.Cond) (a : Addr) (at_ : Int64) (M E : Nat) (pp : Nat → Int64) (h0 : Heap) (hM1 : 1 ≤ M) (hM : M ≤ 4) (hE1 : E ≤ M - 1) (hE2 : ∀ j, j ≤ E → ¬ at_ < pp j) (hE3 : ∀ j, E < j → j ≤ M - 1 → at_ < pp j) (A : Af Z h0 a .long (M + 1) (fun j => .long (pp j))) :
    MetQ l Z (⟨"com/example/placewright/placewright/engine/PackedSet$Joined", "lastStartingBy", "([JJ)I"⟩ : MethodName) prog_56_method_7_code 6 (some .int) ws ({ frames := 0, cells := 0, slots := 0, locals := 0 } : Room) #[(.ref a), (.long at_)] h0 (QB E h0) := by
  refine metQ (a0 := a0) (plainFor_of_name pn_lsb) hw (ef_lsb a at_) ?_
  intro p e s m below meth c T0 C X0 e0
  obtain ⟨hx, hZ, hw, hby, hml, hown, hnm, hret, hlk⟩ := id C
  show WP p e below _ T0 (mkF m 0 #[.val (.ref a), .val (.long at_), .second, .unset, .unset, .unset] [])
  refine wp (fun _ => XS.iconst X0.here hx rfl (hb hby dlsb_0)) ?_
  show WP p e below _ T0 (mkF m 1 #[.val (.ref a), .val (.long at_), .second, .unset, .unset, .unset] [(.int (0 : Int32))])
  refine wp (fun _ => XS.istoreN X0.here hx rfl (hb hby dlsb_1) rfl (l' := #[.val (.ref a), .val (.long at_), .second, .val (.int (0 : Int32)), .unset, .unset]) rfl) ?_
  show WP p e below _ T0 (mkF m 2 #[.val (.ref a), .val (.long at_), .second, .val (.int (0 : Int32)), .unset, .unset] [])
  refine wp (fun _ => XS.aloadN X0.here hx rfl (hb hby dlsb_2) rfl rfl) ?_
  show WP p e below _ T0 (mkF m 3 #[.val (.ref a), .val (.long at_), .second, .val (.int (0 : Int32)), .unset, .unset] [(.ref a)])
  refine wp_arraylength C X0 e0 A dlsb_3 ?_
  show WP p e below _ T0 (mkF m 4 #[.val (.ref a), .val (.long at_), .second, .val (.int (0 : Int32)), .unset, .unset] [(.int (Int32.ofNat (M + 1)))])
  refine wp (fun _ => XS.iconst X0.here hx rfl (hb hby dlsb_4)) ?_
  show WP p e below _ T0 (mkF m 5 #[.val (.ref a), .val (.long at_), .second, .val (.int (0 : Int32)), .unset, .unset] [(.int (2 : Int32)), (.int (Int32.ofNat (M + 1)))])
  refine wp (fun _ => XS.isub X0.here hx rfl (hb hby dlsb_5) rfl) ?_
  show WP p e below _ T0 (mkF m 6 #[.val (.ref a), .val (.long at_), .second, .val (.int (0 : Int32)), .unset, .unset] [(.int ((Int32.ofNat (M + 1)) - (2 : Int32)))])
  refine wp (fun _ => XS.istore X0.here hx rfl (hb hby dlsb_6) rfl (l' := #[.val (.ref a), .val (.long at_), .second, .val (.int (0 : Int32)), .val (.int ((Int32.ofNat (M + 1)) - (2 : Int32))), .unset]) rfl) ?_
  show WP p e below _ T0 (mkF m 8 #[.val (.ref a), .val (.long at_), .second, .val (.int (0 : Int32)), .val (.int ((Int32.ofNat (M + 1)) - (2 : Int32))), .unset] [])
  have hz : (Int32.ofNat (M + 1)).toInt = ((M + 1 : Nat) : Int) := Int32.toInt_ofNat_of_lt (by omega)
  refine lsb_loop a at_ M E pp hM hE1 hE2 hE3 C X0 e0 A ?_ M 0 (M - 1) _ _ _ (by omega) (by omega) (by omega) (by omega) rfl (by have q := own_subk (q := 2) (k := 2) hz rfl (by omega) (by omega); omega) One.u
  intro zl zh s5 hl
  show WP p e below _ T0 (mkF m 48 #[.val (.ref a), .val (.long at_), .second, .val (.int zl), .val (.int zh), s5] [])
  refine wp (fun _ => XS.iloadN X0.here hx rfl (hb hby dlsb_48) rfl) ?_
  show WP p e below _ T0 (mkF m 49 #[.val (.ref a), .val (.long at_), .second, .val (.int zl), .val (.int zh), s5] [(.int zl)])
  exact wp_ireturn C X0 dlsb_49 ⟨zl, rfl, hl, e0, rfl⟩ (by decide) (by decide)
section Own2
variable {p : Program} {l : Launch} {e : Env} {R : Room} {s : State} {m : MethodId} {args : Array Value} {below : List Frame} {meth : Method} {c : Code} {T0 : State} {locs : List Loc} {cells slots : Nat} {Z : State} {a0 : Array Value} {h0 : Heap} {Q : State → Prop}

set_option maxRecDepth 65536 in
set_option maxHeartbeats 4000000 in
theorem segA (base gaps qa : Int64) (shp : Int32) (zk : Int32) (C : Cx p s m meth c Z a0 code 27 "com/example/placewright/placewright/engine/JoinedLastStartingByPinLaw" "law" (some .boolean)) (X0 : Stand p l e room_1 s m args below meth c T0 locs 0 0) (e0 : T0.heap = h0)
    (k : ∀ T' h' M, 1 ≤ M → M ≤ 4 → Stand p l e room_1 s m args below meth c T' locs 1 5 → T'.heap = h' → Af Z h' h0.size .long (M + 1) (fun _ => .long (0 : Int64)) → WP p e below Q T' (mkF m 52 #[.val (.long base), .second, .val (.long gaps), .second, .val (.long qa), .second, .val (.int shp), .val (.int zk), .val (.ref h0.size), .unset, .unset, .unset, .unset, .unset, .unset, .unset, .unset, .unset, .unset, .unset, .unset, .unset, .unset, .unset, .unset, .unset, .unset] [])) : WP p e below Q T0 (mkF m 6 #[.val (.long base), .second, .val (.long gaps), .second, .val (.long qa), .second, .val (.int shp), .val (.int zk), .unset, .unset, .unset, .unset, .unset, .unset, .unset, .unset, .unset, .unset, .unset, .unset, .unset, .unset, .unset, .unset, .unset, .unset, .unset] []) := by
  obtain ⟨hx, hZ, hw, hby, hml, hown, hnm, hret, hlk⟩ := id C
  refine wp (fun _ => XS.iload X0.here hx rfl (hb hby at_6) rfl) ?_
  show WP p e below _ T0 (mkF m 8 #[.val (.long base), .second, .val (.long gaps), .second, .val (.long qa), .second, .val (.int shp), .val (.int zk), .unset, .unset, .unset, .unset, .unset, .unset, .unset, .unset, .unset, .unset, .unset, .unset, .unset, .unset, .unset, .unset, .unset, .unset, .unset] [(.int zk)])
  by_cases c0 : zk = (0 : Int32)
  ·
    refine wp (fun _ => XS.ifNo X0.here hx rfl (hb hby at_8) rfl (XT.i0_ne_f c0)) ?_
    show WP p e below _ T0 (mkF m 11 #[.val (.long base), .second, .val (.long gaps), .second, .val (.long qa), .second, .val (.int shp), .val (.int zk), .unset, .unset, .unset, .unset, .unset, .unset, .unset, .unset, .unset, .unset, .unset, .unset, .unset, .unset, .unset, .unset, .unset, .unset, .unset] [])
    refine wp (fun _ => XS.iconst X0.here hx rfl (hb hby at_11)) ?_
    show WP p e below _ T0 (mkF m 12 #[.val (.long base), .second, .val (.long gaps), .second, .val (.long qa), .second, .val (.int shp), .val (.int zk), .unset, .unset, .unset, .unset, .unset, .unset, .unset, .unset, .unset, .unset, .unset, .unset, .unset, .unset, .unset, .unset, .unset, .unset, .unset] [(.int (2 : Int32))])
    refine wp_newarray C X0 e0 (hw _ (List.mem_of_getElem? (i := 0) rfl)) at_12 (n := 2) rfl (cap := 5) (by decide) (by decide) (by decide) (by decide) ?_
    intro T1 h1 X1 e1 E1 A1
    show WP p e below _ T1 (mkF m 14 #[.val (.long base), .second, .val (.long gaps), .second, .val (.long qa), .second, .val (.int shp), .val (.int zk), .unset, .unset, .unset, .unset, .unset, .unset, .unset, .unset, .unset, .unset, .unset, .unset, .unset, .unset, .unset, .unset, .unset, .unset, .unset] [(.ref h0.size)])
    refine wp (fun _ => XS.astore X1.here hx rfl (hb hby at_14) rfl rfl (l' := #[.val (.long base), .second, .val (.long gaps), .second, .val (.long qa), .second, .val (.int shp), .val (.int zk), .val (.ref h0.size), .unset, .unset, .unset, .unset, .unset, .unset, .unset, .unset, .unset, .unset, .unset, .unset, .unset, .unset, .unset, .unset, .unset, .unset]) rfl) ?_
    show WP p e below _ T1 (mkF m 16 #[.val (.long base), .second, .val (.long gaps), .second, .val (.long qa), .second, .val (.int shp), .val (.int zk), .val (.ref h0.size), .unset, .unset, .unset, .unset, .unset, .unset, .unset, .unset, .unset, .unset, .unset, .unset, .unset, .unset, .unset, .unset, .unset, .unset] [])
    refine wp (fun _ => XS.goto X1.here hx rfl (pc0 := 16) (pc' := 52) rfl (hb hby at_16) (by decide) (by decide)) ?_
    show WP p e below _ T1 (mkF m 52 #[.val (.long base), .second, .val (.long gaps), .second, .val (.long qa), .second, .val (.int shp), .val (.int zk), .val (.ref h0.size), .unset, .unset, .unset, .unset, .unset, .unset, .unset, .unset, .unset, .unset, .unset, .unset, .unset, .unset, .unset, .unset, .unset, .unset] [])
    exact k T1 h1 1 (by decide) (by decide) X1 e1 A1
  ·
    refine wp (fun _ => XS.ifYes X0.here hx rfl (pc0 := 8) (pc' := 19) rfl (hb hby at_8) rfl (XT.i0_ne_t c0) (by decide) (by decide)) ?_
    show WP p e below _ T0 (mkF m 19 #[.val (.long base), .second, .val (.long gaps), .second, .val (.long qa), .second, .val (.int shp), .val (.int zk), .unset, .unset, .unset, .unset, .unset, .unset, .unset, .unset, .unset, .unset, .unset, .unset, .unset, .unset, .unset, .unset, .unset, .unset, .unset] [])
    refine wp (fun _ => XS.iload X0.here hx rfl (hb hby at_19) rfl) ?_
    show WP p e below _ T0 (mkF m 21 #[.val (.long base), .second, .val (.long gaps), .second, .val (.long qa), .second, .val (.int shp), .val (.int zk), .unset, .unset, .unset, .unset, .unset, .unset, .unset, .unset, .unset, .unset, .unset, .unset, .unset, .unset, .unset, .unset, .unset, .unset, .unset] [(.int zk)])
    refine wp (fun _ => XS.iconst X0.here hx rfl (hb hby at_21)) ?_
    show WP p e below _ T0 (mkF m 22 #[.val (.long base), .second, .val (.long gaps), .second, .val (.long qa), .second, .val (.int shp), .val (.int zk), .unset, .unset, .unset, .unset, .unset, .unset, .unset, .unset, .unset, .unset, .unset, .unset, .unset, .unset, .unset, .unset, .unset, .unset, .unset] [(.int (1 : Int32)), (.int zk)])
    by_cases c1 : zk = (1 : Int32)
    ·
      refine wp (fun _ => XS.icmpNo X0.here hx rfl (hb hby at_22) rfl (XT.ii_ne_f c1)) ?_
      show WP p e below _ T0 (mkF m 25 #[.val (.long base), .second, .val (.long gaps), .second, .val (.long qa), .second, .val (.int shp), .val (.int zk), .unset, .unset, .unset, .unset, .unset, .unset, .unset, .unset, .unset, .unset, .unset, .unset, .unset, .unset, .unset, .unset, .unset, .unset, .unset] [])
      refine wp (fun _ => XS.iconst X0.here hx rfl (hb hby at_25)) ?_
      show WP p e below _ T0 (mkF m 26 #[.val (.long base), .second, .val (.long gaps), .second, .val (.long qa), .second, .val (.int shp), .val (.int zk), .unset, .unset, .unset, .unset, .unset, .unset, .unset, .unset, .unset, .unset, .unset, .unset, .unset, .unset, .unset, .unset, .unset, .unset, .unset] [(.int (3 : Int32))])
      refine wp_newarray C X0 e0 (hw _ (List.mem_of_getElem? (i := 0) rfl)) at_26 (n := 3) rfl (cap := 5) (by decide) (by decide) (by decide) (by decide) ?_
      intro T1 h1 X1 e1 E1 A1
      show WP p e below _ T1 (mkF m 28 #[.val (.long base), .second, .val (.long gaps), .second, .val (.long qa), .second, .val (.int shp), .val (.int zk), .unset, .unset, .unset, .unset, .unset, .unset, .unset, .unset, .unset, .unset, .unset, .unset, .unset, .unset, .unset, .unset, .unset, .unset, .unset] [(.ref h0.size)])
      refine wp (fun _ => XS.astore X1.here hx rfl (hb hby at_28) rfl rfl (l' := #[.val (.long base), .second, .val (.long gaps), .second, .val (.long qa), .second, .val (.int shp), .val (.int zk), .val (.ref h0.size), .unset, .unset, .unset, .unset, .unset, .unset, .unset, .unset, .unset, .unset, .unset, .unset, .unset, .unset, .unset, .unset, .unset, .unset]) rfl) ?_
      show WP p e below _ T1 (mkF m 30 #[.val (.long base), .second, .val (.long gaps), .second, .val (.long qa), .second, .val (.int shp), .val (.int zk), .val (.ref h0.size), .unset, .unset, .unset, .unset, .unset, .unset, .unset, .unset, .unset, .unset, .unset, .unset, .unset, .unset, .unset, .unset, .unset, .unset] [])
      refine wp (fun _ => XS.goto X1.here hx rfl (pc0 := 30) (pc' := 52) rfl (hb hby at_30) (by decide) (by decide)) ?_
      show WP p e below _ T1 (mkF m 52 #[.val (.long base), .second, .val (.long gaps), .second, .val (.long qa), .second, .val (.int shp), .val (.int zk), .val (.ref h0.size), .unset, .unset, .unset, .unset, .unset, .unset, .unset, .unset, .unset, .unset, .unset, .unset, .unset, .unset, .unset, .unset, .unset, .unset] [])
      exact k T1 h1 2 (by decide) (by decide) X1 e1 A1
    ·
      refine wp (fun _ => XS.icmpYes X0.here hx rfl (pc0 := 22) (pc' := 33) rfl (hb hby at_22) rfl (XT.ii_ne_t c1) (by decide) (by decide)) ?_
      show WP p e below _ T0 (mkF m 33 #[.val (.long base), .second, .val (.long gaps), .second, .val (.long qa), .second, .val (.int shp), .val (.int zk), .unset, .unset, .unset, .unset, .unset, .unset, .unset, .unset, .unset, .unset, .unset, .unset, .unset, .unset, .unset, .unset, .unset, .unset, .unset] [])
      refine wp (fun _ => XS.iload X0.here hx rfl (hb hby at_33) rfl) ?_
      show WP p e below _ T0 (mkF m 35 #[.val (.long base), .second, .val (.long gaps), .second, .val (.long qa), .second, .val (.int shp), .val (.int zk), .unset, .unset, .unset, .unset, .unset, .unset, .unset, .unset, .unset, .unset, .unset, .unset, .unset, .unset, .unset, .unset, .unset, .unset, .unset] [(.int zk)])
      refine wp (fun _ => XS.iconst X0.here hx rfl (hb hby at_35)) ?_
      show WP p e below _ T0 (mkF m 36 #[.val (.long base), .second, .val (.long gaps), .second, .val (.long qa), .second, .val (.int shp), .val (.int zk), .unset, .unset, .unset, .unset, .unset, .unset, .unset, .unset, .unset, .unset, .unset, .unset, .unset, .unset, .unset, .unset, .unset, .unset, .unset] [(.int (2 : Int32)), (.int zk)])
      by_cases c2 : zk = (2 : Int32)
      ·
        refine wp (fun _ => XS.icmpNo X0.here hx rfl (hb hby at_36) rfl (XT.ii_ne_f c2)) ?_
        show WP p e below _ T0 (mkF m 39 #[.val (.long base), .second, .val (.long gaps), .second, .val (.long qa), .second, .val (.int shp), .val (.int zk), .unset, .unset, .unset, .unset, .unset, .unset, .unset, .unset, .unset, .unset, .unset, .unset, .unset, .unset, .unset, .unset, .unset, .unset, .unset] [])
        refine wp (fun _ => XS.iconst X0.here hx rfl (hb hby at_39)) ?_
        show WP p e below _ T0 (mkF m 40 #[.val (.long base), .second, .val (.long gaps), .second, .val (.long qa), .second, .val (.int shp), .val (.int zk), .unset, .unset, .unset, .unset, .unset, .unset, .unset, .unset, .unset, .unset, .unset, .unset, .unset, .unset, .unset, .unset, .unset, .unset, .unset] [(.int (4 : Int32))])
        refine wp_newarray C X0 e0 (hw _ (List.mem_of_getElem? (i := 0) rfl)) at_40 (n := 4) rfl (cap := 5) (by decide) (by decide) (by decide) (by decide) ?_
        intro T1 h1 X1 e1 E1 A1
        show WP p e below _ T1 (mkF m 42 #[.val (.long base), .second, .val (.long gaps), .second, .val (.long qa), .second, .val (.int shp), .val (.int zk), .unset, .unset, .unset, .unset, .unset, .unset, .unset, .unset, .unset, .unset, .unset, .unset, .unset, .unset, .unset, .unset, .unset, .unset, .unset] [(.ref h0.size)])
        refine wp (fun _ => XS.astore X1.here hx rfl (hb hby at_42) rfl rfl (l' := #[.val (.long base), .second, .val (.long gaps), .second, .val (.long qa), .second, .val (.int shp), .val (.int zk), .val (.ref h0.size), .unset, .unset, .unset, .unset, .unset, .unset, .unset, .unset, .unset, .unset, .unset, .unset, .unset, .unset, .unset, .unset, .unset, .unset]) rfl) ?_
        show WP p e below _ T1 (mkF m 44 #[.val (.long base), .second, .val (.long gaps), .second, .val (.long qa), .second, .val (.int shp), .val (.int zk), .val (.ref h0.size), .unset, .unset, .unset, .unset, .unset, .unset, .unset, .unset, .unset, .unset, .unset, .unset, .unset, .unset, .unset, .unset, .unset, .unset] [])
        refine wp (fun _ => XS.goto X1.here hx rfl (pc0 := 44) (pc' := 52) rfl (hb hby at_44) (by decide) (by decide)) ?_
        show WP p e below _ T1 (mkF m 52 #[.val (.long base), .second, .val (.long gaps), .second, .val (.long qa), .second, .val (.int shp), .val (.int zk), .val (.ref h0.size), .unset, .unset, .unset, .unset, .unset, .unset, .unset, .unset, .unset, .unset, .unset, .unset, .unset, .unset, .unset, .unset, .unset, .unset] [])
        exact k T1 h1 3 (by decide) (by decide) X1 e1 A1
      ·
        refine wp (fun _ => XS.icmpYes X0.here hx rfl (pc0 := 36) (pc' := 47) rfl (hb hby at_36) rfl (XT.ii_ne_t c2) (by decide) (by decide)) ?_
        show WP p e below _ T0 (mkF m 47 #[.val (.long base), .second, .val (.long gaps), .second, .val (.long qa), .second, .val (.int shp), .val (.int zk), .unset, .unset, .unset, .unset, .unset, .unset, .unset, .unset, .unset, .unset, .unset, .unset, .unset, .unset, .unset, .unset, .unset, .unset, .unset] [])
        refine wp (fun _ => XS.iconst X0.here hx rfl (hb hby at_47)) ?_
        show WP p e below _ T0 (mkF m 48 #[.val (.long base), .second, .val (.long gaps), .second, .val (.long qa), .second, .val (.int shp), .val (.int zk), .unset, .unset, .unset, .unset, .unset, .unset, .unset, .unset, .unset, .unset, .unset, .unset, .unset, .unset, .unset, .unset, .unset, .unset, .unset] [(.int (5 : Int32))])
        refine wp_newarray C X0 e0 (hw _ (List.mem_of_getElem? (i := 0) rfl)) at_48 (n := 5) rfl (cap := 5) (by decide) (by decide) (by decide) (by decide) ?_
        intro T1 h1 X1 e1 E1 A1
        show WP p e below _ T1 (mkF m 50 #[.val (.long base), .second, .val (.long gaps), .second, .val (.long qa), .second, .val (.int shp), .val (.int zk), .unset, .unset, .unset, .unset, .unset, .unset, .unset, .unset, .unset, .unset, .unset, .unset, .unset, .unset, .unset, .unset, .unset, .unset, .unset] [(.ref h0.size)])
        refine wp (fun _ => XS.astore X1.here hx rfl (hb hby at_50) rfl rfl (l' := #[.val (.long base), .second, .val (.long gaps), .second, .val (.long qa), .second, .val (.int shp), .val (.int zk), .val (.ref h0.size), .unset, .unset, .unset, .unset, .unset, .unset, .unset, .unset, .unset, .unset, .unset, .unset, .unset, .unset, .unset, .unset, .unset, .unset]) rfl) ?_
        show WP p e below _ T1 (mkF m 52 #[.val (.long base), .second, .val (.long gaps), .second, .val (.long qa), .second, .val (.int shp), .val (.int zk), .val (.ref h0.size), .unset, .unset, .unset, .unset, .unset, .unset, .unset, .unset, .unset, .unset, .unset, .unset, .unset, .unset, .unset, .unset, .unset, .unset] [])
        exact k T1 h1 4 (by decide) (by decide) X1 e1 A1
set_option maxRecDepth 65536 in
set_option maxHeartbeats 4000000 in
theorem segS0 (base gaps qa : Int64) (shp : Int32) (zk : Int32) (a : Addr) (p0 p1 p2 p3 p4 : Int64) (M n0 : Nat) (hM1 : 1 ≤ M) (hM : M ≤ 4) (ga : n0 ≤ a) (A0 : Af Z h0 a .long (M + 1) (fun _ => .long (0 : Int64))) (N0 : Fr n0 locs) (C : Cx p s m meth c Z a0 code 27 "com/example/placewright/placewright/engine/JoinedLastStartingByPinLaw" "law" (some .boolean)) (X0 : Stand p l e room_1 s m args below meth c T0 locs 1 5) (e0 : T0.heap = h0)
    (k : ∀ T' h' locs', Stand p l e room_1 s m args below meth c T' locs' 1 5 → T'.heap = h' → Fr n0 locs' → Af Z h' a .long (M + 1) (fun j => if j < 2 then .long (own_pp p0 p1 p2 p3 p4 j) else .long (0 : Int64)) → WP p e below Q T' (mkF m 122 #[.val (.long base), .second, .val (.long gaps), .second, .val (.long qa), .second, .val (.int shp), .val (.int zk), .val (.ref a), .val (.long p0), .second, .val (.long p1), .second, .val (.long p2), .second, .val (.long p3), .second, .val (.long p4), .second, .unset, .unset, .unset, .unset, .unset, .unset, .unset, .unset] [])) : WP p e below Q T0 (mkF m 110 #[.val (.long base), .second, .val (.long gaps), .second, .val (.long qa), .second, .val (.int shp), .val (.int zk), .val (.ref a), .val (.long p0), .second, .val (.long p1), .second, .val (.long p2), .second, .val (.long p3), .second, .val (.long p4), .second, .unset, .unset, .unset, .unset, .unset, .unset, .unset, .unset] []) := by
  obtain ⟨hx, hZ, hw, hby, hml, hown, hnm, hret, hlk⟩ := id C
  show WP p e below _ T0 (mkF m 110 #[.val (.long base), .second, .val (.long gaps), .second, .val (.long qa), .second, .val (.int shp), .val (.int zk), .val (.ref a), .val (.long p0), .second, .val (.long p1), .second, .val (.long p2), .second, .val (.long p3), .second, .val (.long p4), .second, .unset, .unset, .unset, .unset, .unset, .unset, .unset, .unset] [])
  refine wp (fun _ => XS.aload X0.here hx rfl (hb hby at_110) rfl rfl) ?_
  show WP p e below _ T0 (mkF m 112 #[.val (.long base), .second, .val (.long gaps), .second, .val (.long qa), .second, .val (.int shp), .val (.int zk), .val (.ref a), .val (.long p0), .second, .val (.long p1), .second, .val (.long p2), .second, .val (.long p3), .second, .val (.long p4), .second, .unset, .unset, .unset, .unset, .unset, .unset, .unset, .unset] [(.ref a)])
  refine wp (fun _ => XS.iconst X0.here hx rfl (hb hby at_112)) ?_
  show WP p e below _ T0 (mkF m 113 #[.val (.long base), .second, .val (.long gaps), .second, .val (.long qa), .second, .val (.int shp), .val (.int zk), .val (.ref a), .val (.long p0), .second, .val (.long p1), .second, .val (.long p2), .second, .val (.long p3), .second, .val (.long p4), .second, .unset, .unset, .unset, .unset, .unset, .unset, .unset, .unset] [(.int (0 : Int32)), (.ref a)])
  refine wp (fun _ => XS.lload X0.here hx rfl (hb hby at_113) rfl) ?_
  show WP p e below _ T0 (mkF m 115 #[.val (.long base), .second, .val (.long gaps), .second, .val (.long qa), .second, .val (.int shp), .val (.int zk), .val (.ref a), .val (.long p0), .second, .val (.long p1), .second, .val (.long p2), .second, .val (.long p3), .second, .val (.long p4), .second, .unset, .unset, .unset, .unset, .unset, .unset, .unset, .unset] [(.long p0), (.int (0 : Int32)), (.ref a)])
  refine wp_lastore C X0 e0 A0 (j := 0) rfl (by omega) at_115 ?_
  intro T1 h1 X1 e1 W1 A1
  have N1 := Frs (a := a) (sl := (0 : Int32).toNatClampNeg) N0 ga
  show WP p e below _ T1 (mkF m 116 #[.val (.long base), .second, .val (.long gaps), .second, .val (.long qa), .second, .val (.int shp), .val (.int zk), .val (.ref a), .val (.long p0), .second, .val (.long p1), .second, .val (.long p2), .second, .val (.long p3), .second, .val (.long p4), .second, .unset, .unset, .unset, .unset, .unset, .unset, .unset, .unset] [])
  refine wp (fun _ => XS.aload X1.here hx rfl (hb hby at_116) rfl rfl) ?_
  show WP p e below _ T1 (mkF m 118 #[.val (.long base), .second, .val (.long gaps), .second, .val (.long qa), .second, .val (.int shp), .val (.int zk), .val (.ref a), .val (.long p0), .second, .val (.long p1), .second, .val (.long p2), .second, .val (.long p3), .second, .val (.long p4), .second, .unset, .unset, .unset, .unset, .unset, .unset, .unset, .unset] [(.ref a)])
  refine wp (fun _ => XS.iconst X1.here hx rfl (hb hby at_118)) ?_
  show WP p e below _ T1 (mkF m 119 #[.val (.long base), .second, .val (.long gaps), .second, .val (.long qa), .second, .val (.int shp), .val (.int zk), .val (.ref a), .val (.long p0), .second, .val (.long p1), .second, .val (.long p2), .second, .val (.long p3), .second, .val (.long p4), .second, .unset, .unset, .unset, .unset, .unset, .unset, .unset, .unset] [(.int (1 : Int32)), (.ref a)])
  refine wp (fun _ => XS.lload X1.here hx rfl (hb hby at_119) rfl) ?_
  show WP p e below _ T1 (mkF m 121 #[.val (.long base), .second, .val (.long gaps), .second, .val (.long qa), .second, .val (.int shp), .val (.int zk), .val (.ref a), .val (.long p0), .second, .val (.long p1), .second, .val (.long p2), .second, .val (.long p3), .second, .val (.long p4), .second, .unset, .unset, .unset, .unset, .unset, .unset, .unset, .unset] [(.long p1), (.int (1 : Int32)), (.ref a)])
  refine wp_lastore C X1 e1 A1 (j := 1) rfl (by omega) at_121 ?_
  intro T2 h2 X2 e2 W2 A2
  have N2 := Frs (a := a) (sl := (1 : Int32).toNatClampNeg) N1 ga
  show WP p e below _ T2 (mkF m 122 #[.val (.long base), .second, .val (.long gaps), .second, .val (.long qa), .second, .val (.int shp), .val (.int zk), .val (.ref a), .val (.long p0), .second, .val (.long p1), .second, .val (.long p2), .second, .val (.long p3), .second, .val (.long p4), .second, .unset, .unset, .unset, .unset, .unset, .unset, .unset, .unset] [])
  refine k T2 h2 _ X2 e2 N2 (A2.conv fun j hj => ?_)
  by_cases q1 : j = 1
  · subst q1; rfl
  · rw [if_neg q1]
    by_cases q0 : j = 0
    · subst q0; rfl
    · rw [if_neg q0, if_neg (by omega)]
set_option maxRecDepth 65536 in
set_option maxHeartbeats 4000000 in
theorem segS2 (base gaps qa : Int64) (shp : Int32) (zk : Int32) (a : Addr) (p0 p1 p2 p3 p4 : Int64) (M n0 : Nat) (hM1 : 1 ≤ M) (hM : M ≤ 4) (ga : n0 ≤ a) (A0 : Af Z h0 a .long (M + 1) (fun j => if j < 2 then .long (own_pp p0 p1 p2 p3 p4 j) else .long (0 : Int64))) (N0 : Fr n0 locs) (C : Cx p s m meth c Z a0 code 27 "com/example/placewright/placewright/engine/JoinedLastStartingByPinLaw" "law" (some .boolean)) (X0 : Stand p l e room_1 s m args below meth c T0 locs 1 5) (e0 : T0.heap = h0)
    (k : ∀ T' h' locs', Stand p l e room_1 s m args below meth c T' locs' 1 5 → T'.heap = h' → Fr n0 locs' → Af Z h' a .long (M + 1) (fun j => if j < 3 then .long (own_pp p0 p1 p2 p3 p4 j) else .long (0 : Int64)) → WP p e below Q T' (mkF m 135 #[.val (.long base), .second, .val (.long gaps), .second, .val (.long qa), .second, .val (.int shp), .val (.int zk), .val (.ref a), .val (.long p0), .second, .val (.long p1), .second, .val (.long p2), .second, .val (.long p3), .second, .val (.long p4), .second, .unset, .unset, .unset, .unset, .unset, .unset, .unset, .unset] [])) : WP p e below Q T0 (mkF m 122 #[.val (.long base), .second, .val (.long gaps), .second, .val (.long qa), .second, .val (.int shp), .val (.int zk), .val (.ref a), .val (.long p0), .second, .val (.long p1), .second, .val (.long p2), .second, .val (.long p3), .second, .val (.long p4), .second, .unset, .unset, .unset, .unset, .unset, .unset, .unset, .unset] []) := by
  obtain ⟨hx, hZ, hw, hby, hml, hown, hnm, hret, hlk⟩ := id C
  have L0 := @Int32.lt_iff_toInt_lt
  have hz : (Int32.ofNat (M + 1)).toInt = ((M + 1 : Nat) : Int) := Int32.toInt_ofNat_of_lt (by omega)
  have ht : (2 : Int32).toInt = 2 := rfl
  show WP p e below _ T0 (mkF m 122 #[.val (.long base), .second, .val (.long gaps), .second, .val (.long qa), .second, .val (.int shp), .val (.int zk), .val (.ref a), .val (.long p0), .second, .val (.long p1), .second, .val (.long p2), .second, .val (.long p3), .second, .val (.long p4), .second, .unset, .unset, .unset, .unset, .unset, .unset, .unset, .unset] [])
  refine wp (fun _ => XS.aload X0.here hx rfl (hb hby at_122) rfl rfl) ?_
  show WP p e below _ T0 (mkF m 124 #[.val (.long base), .second, .val (.long gaps), .second, .val (.long qa), .second, .val (.int shp), .val (.int zk), .val (.ref a), .val (.long p0), .second, .val (.long p1), .second, .val (.long p2), .second, .val (.long p3), .second, .val (.long p4), .second, .unset, .unset, .unset, .unset, .unset, .unset, .unset, .unset] [(.ref a)])
  refine wp_arraylength C X0 e0 A0 at_124 ?_
  show WP p e below _ T0 (mkF m 125 #[.val (.long base), .second, .val (.long gaps), .second, .val (.long qa), .second, .val (.int shp), .val (.int zk), .val (.ref a), .val (.long p0), .second, .val (.long p1), .second, .val (.long p2), .second, .val (.long p3), .second, .val (.long p4), .second, .unset, .unset, .unset, .unset, .unset, .unset, .unset, .unset] [(.int (Int32.ofNat (M + 1)))])
  refine wp (fun _ => XS.iconst X0.here hx rfl (hb hby at_125)) ?_
  show WP p e below _ T0 (mkF m 126 #[.val (.long base), .second, .val (.long gaps), .second, .val (.long qa), .second, .val (.int shp), .val (.int zk), .val (.ref a), .val (.long p0), .second, .val (.long p1), .second, .val (.long p2), .second, .val (.long p3), .second, .val (.long p4), .second, .unset, .unset, .unset, .unset, .unset, .unset, .unset, .unset] [(.int (2 : Int32)), (.int (Int32.ofNat (M + 1)))])
  by_cases hc : (2 : Int32) < (Int32.ofNat (M + 1))
  · rw [L0] at hc
    refine wp (fun _ => XS.icmpNo X0.here hx rfl (hb hby at_126) rfl (XT.ii_le_f (L0.mpr hc))) ?_
    show WP p e below _ T0 (mkF m 129 #[.val (.long base), .second, .val (.long gaps), .second, .val (.long qa), .second, .val (.int shp), .val (.int zk), .val (.ref a), .val (.long p0), .second, .val (.long p1), .second, .val (.long p2), .second, .val (.long p3), .second, .val (.long p4), .second, .unset, .unset, .unset, .unset, .unset, .unset, .unset, .unset] [])
    refine wp (fun _ => XS.aload X0.here hx rfl (hb hby at_129) rfl rfl) ?_
    show WP p e below _ T0 (mkF m 131 #[.val (.long base), .second, .val (.long gaps), .second, .val (.long qa), .second, .val (.int shp), .val (.int zk), .val (.ref a), .val (.long p0), .second, .val (.long p1), .second, .val (.long p2), .second, .val (.long p3), .second, .val (.long p4), .second, .unset, .unset, .unset, .unset, .unset, .unset, .unset, .unset] [(.ref a)])
    refine wp (fun _ => XS.iconst X0.here hx rfl (hb hby at_131)) ?_
    show WP p e below _ T0 (mkF m 132 #[.val (.long base), .second, .val (.long gaps), .second, .val (.long qa), .second, .val (.int shp), .val (.int zk), .val (.ref a), .val (.long p0), .second, .val (.long p1), .second, .val (.long p2), .second, .val (.long p3), .second, .val (.long p4), .second, .unset, .unset, .unset, .unset, .unset, .unset, .unset, .unset] [(.int (2 : Int32)), (.ref a)])
    refine wp (fun _ => XS.lload X0.here hx rfl (hb hby at_132) rfl) ?_
    show WP p e below _ T0 (mkF m 134 #[.val (.long base), .second, .val (.long gaps), .second, .val (.long qa), .second, .val (.int shp), .val (.int zk), .val (.ref a), .val (.long p0), .second, .val (.long p1), .second, .val (.long p2), .second, .val (.long p3), .second, .val (.long p4), .second, .unset, .unset, .unset, .unset, .unset, .unset, .unset, .unset] [(.long p2), (.int (2 : Int32)), (.ref a)])
    refine wp_lastore C X0 e0 A0 (j := 2) rfl (by omega) at_134 ?_
    intro T1 h1 X1 e1 W1 A1
    have N1 := Frs (a := a) (sl := (2 : Int32).toNatClampNeg) N0 ga
    show WP p e below _ T1 (mkF m 135 #[.val (.long base), .second, .val (.long gaps), .second, .val (.long qa), .second, .val (.int shp), .val (.int zk), .val (.ref a), .val (.long p0), .second, .val (.long p1), .second, .val (.long p2), .second, .val (.long p3), .second, .val (.long p4), .second, .unset, .unset, .unset, .unset, .unset, .unset, .unset, .unset] [])
    refine k T1 h1 _ X1 e1 N1 (A1.conv fun j hj => ?_)
    by_cases q1 : j = 2
    · subst q1; rfl
    · rw [if_neg q1]
      by_cases q0 : j < 2
      · rw [if_pos q0, if_pos (by omega)]
      · rw [if_neg q0, if_neg (by omega)]
  · rw [L0] at hc
    refine wp (fun _ => XS.icmpYes X0.here hx rfl (pc0 := 126) (pc' := 135) rfl (hb hby at_126) rfl (XT.ii_le_t (fun q => hc (L0.mp q))) (by decide) (by decide)) ?_
    show WP p e below _ T0 (mkF m 135 #[.val (.long base), .second, .val (.long gaps), .second, .val (.long qa), .second, .val (.int shp), .val (.int zk), .val (.ref a), .val (.long p0), .second, .val (.long p1), .second, .val (.long p2), .second, .val (.long p3), .second, .val (.long p4), .second, .unset, .unset, .unset, .unset, .unset, .unset, .unset, .unset] [])
    refine k T0 h0 _ X0 e0 N0 (A0.conv fun j hj => ?_)
    rw [if_pos (by omega), if_pos (by omega)]
set_option maxRecDepth 65536 in
set_option maxHeartbeats 4000000 in
theorem segS3 (base gaps qa : Int64) (shp : Int32) (zk : Int32) (a : Addr) (p0 p1 p2 p3 p4 : Int64) (M n0 : Nat) (hM1 : 1 ≤ M) (hM : M ≤ 4) (ga : n0 ≤ a) (A0 : Af Z h0 a .long (M + 1) (fun j => if j < 3 then .long (own_pp p0 p1 p2 p3 p4 j) else .long (0 : Int64))) (N0 : Fr n0 locs) (C : Cx p s m meth c Z a0 code 27 "com/example/placewright/placewright/engine/JoinedLastStartingByPinLaw" "law" (some .boolean)) (X0 : Stand p l e room_1 s m args below meth c T0 locs 1 5) (e0 : T0.heap = h0)
    (k : ∀ T' h' locs', Stand p l e room_1 s m args below meth c T' locs' 1 5 → T'.heap = h' → Fr n0 locs' → Af Z h' a .long (M + 1) (fun j => if j < 4 then .long (own_pp p0 p1 p2 p3 p4 j) else .long (0 : Int64)) → WP p e below Q T' (mkF m 148 #[.val (.long base), .second, .val (.long gaps), .second, .val (.long qa), .second, .val (.int shp), .val (.int zk), .val (.ref a), .val (.long p0), .second, .val (.long p1), .second, .val (.long p2), .second, .val (.long p3), .second, .val (.long p4), .second, .unset, .unset, .unset, .unset, .unset, .unset, .unset, .unset] [])) : WP p e below Q T0 (mkF m 135 #[.val (.long base), .second, .val (.long gaps), .second, .val (.long qa), .second, .val (.int shp), .val (.int zk), .val (.ref a), .val (.long p0), .second, .val (.long p1), .second, .val (.long p2), .second, .val (.long p3), .second, .val (.long p4), .second, .unset, .unset, .unset, .unset, .unset, .unset, .unset, .unset] []) := by
  obtain ⟨hx, hZ, hw, hby, hml, hown, hnm, hret, hlk⟩ := id C
  have L0 := @Int32.lt_iff_toInt_lt
  have hz : (Int32.ofNat (M + 1)).toInt = ((M + 1 : Nat) : Int) := Int32.toInt_ofNat_of_lt (by omega)
  have ht : (3 : Int32).toInt = 3 := rfl
  show WP p e below _ T0 (mkF m 135 #[.val (.long base), .second, .val (.long gaps), .second, .val (.long qa), .second, .val (.int shp), .val (.int zk), .val (.ref a), .val (.long p0), .second, .val (.long p1), .second, .val (.long p2), .second, .val (.long p3), .second, .val (.long p4), .second, .unset, .unset, .unset, .unset, .unset, .unset, .unset, .unset] [])
  refine wp (fun _ => XS.aload X0.here hx rfl (hb hby at_135) rfl rfl) ?_
  show WP p e below _ T0 (mkF m 137 #[.val (.long base), .second, .val (.long gaps), .second, .val (.long qa), .second, .val (.int shp), .val (.int zk), .val (.ref a), .val (.long p0), .second, .val (.long p1), .second, .val (.long p2), .second, .val (.long p3), .second, .val (.long p4), .second, .unset, .unset, .unset, .unset, .unset, .unset, .unset, .unset] [(.ref a)])
  refine wp_arraylength C X0 e0 A0 at_137 ?_
  show WP p e below _ T0 (mkF m 138 #[.val (.long base), .second, .val (.long gaps), .second, .val (.long qa), .second, .val (.int shp), .val (.int zk), .val (.ref a), .val (.long p0), .second, .val (.long p1), .second, .val (.long p2), .second, .val (.long p3), .second, .val (.long p4), .second, .unset, .unset, .unset, .unset, .unset, .unset, .unset, .unset] [(.int (Int32.ofNat (M + 1)))])
  refine wp (fun _ => XS.iconst X0.here hx rfl (hb hby at_138)) ?_
  show WP p e below _ T0 (mkF m 139 #[.val (.long base), .second, .val (.long gaps), .second, .val (.long qa), .second, .val (.int shp), .val (.int zk), .val (.ref a), .val (.long p0), .second, .val (.long p1), .second, .val (.long p2), .second, .val (.long p3), .second, .val (.long p4), .second, .unset, .unset, .unset, .unset, .unset, .unset, .unset, .unset] [(.int (3 : Int32)), (.int (Int32.ofNat (M + 1)))])
  by_cases hc : (3 : Int32) < (Int32.ofNat (M + 1))
  · rw [L0] at hc
    refine wp (fun _ => XS.icmpNo X0.here hx rfl (hb hby at_139) rfl (XT.ii_le_f (L0.mpr hc))) ?_
    show WP p e below _ T0 (mkF m 142 #[.val (.long base), .second, .val (.long gaps), .second, .val (.long qa), .second, .val (.int shp), .val (.int zk), .val (.ref a), .val (.long p0), .second, .val (.long p1), .second, .val (.long p2), .second, .val (.long p3), .second, .val (.long p4), .second, .unset, .unset, .unset, .unset, .unset, .unset, .unset, .unset] [])
    refine wp (fun _ => XS.aload X0.here hx rfl (hb hby at_142) rfl rfl) ?_
    show WP p e below _ T0 (mkF m 144 #[.val (.long base), .second, .val (.long gaps), .second, .val (.long qa), .second, .val (.int shp), .val (.int zk), .val (.ref a), .val (.long p0), .second, .val (.long p1), .second, .val (.long p2), .second, .val (.long p3), .second, .val (.long p4), .second, .unset, .unset, .unset, .unset, .unset, .unset, .unset, .unset] [(.ref a)])
    refine wp (fun _ => XS.iconst X0.here hx rfl (hb hby at_144)) ?_
    show WP p e below _ T0 (mkF m 145 #[.val (.long base), .second, .val (.long gaps), .second, .val (.long qa), .second, .val (.int shp), .val (.int zk), .val (.ref a), .val (.long p0), .second, .val (.long p1), .second, .val (.long p2), .second, .val (.long p3), .second, .val (.long p4), .second, .unset, .unset, .unset, .unset, .unset, .unset, .unset, .unset] [(.int (3 : Int32)), (.ref a)])
    refine wp (fun _ => XS.lload X0.here hx rfl (hb hby at_145) rfl) ?_
    show WP p e below _ T0 (mkF m 147 #[.val (.long base), .second, .val (.long gaps), .second, .val (.long qa), .second, .val (.int shp), .val (.int zk), .val (.ref a), .val (.long p0), .second, .val (.long p1), .second, .val (.long p2), .second, .val (.long p3), .second, .val (.long p4), .second, .unset, .unset, .unset, .unset, .unset, .unset, .unset, .unset] [(.long p3), (.int (3 : Int32)), (.ref a)])
    refine wp_lastore C X0 e0 A0 (j := 3) rfl (by omega) at_147 ?_
    intro T1 h1 X1 e1 W1 A1
    have N1 := Frs (a := a) (sl := (3 : Int32).toNatClampNeg) N0 ga
    show WP p e below _ T1 (mkF m 148 #[.val (.long base), .second, .val (.long gaps), .second, .val (.long qa), .second, .val (.int shp), .val (.int zk), .val (.ref a), .val (.long p0), .second, .val (.long p1), .second, .val (.long p2), .second, .val (.long p3), .second, .val (.long p4), .second, .unset, .unset, .unset, .unset, .unset, .unset, .unset, .unset] [])
    refine k T1 h1 _ X1 e1 N1 (A1.conv fun j hj => ?_)
    by_cases q1 : j = 3
    · subst q1; rfl
    · rw [if_neg q1]
      by_cases q0 : j < 3
      · rw [if_pos q0, if_pos (by omega)]
      · rw [if_neg q0, if_neg (by omega)]
  · rw [L0] at hc
    refine wp (fun _ => XS.icmpYes X0.here hx rfl (pc0 := 139) (pc' := 148) rfl (hb hby at_139) rfl (XT.ii_le_t (fun q => hc (L0.mp q))) (by decide) (by decide)) ?_
    show WP p e below _ T0 (mkF m 148 #[.val (.long base), .second, .val (.long gaps), .second, .val (.long qa), .second, .val (.int shp), .val (.int zk), .val (.ref a), .val (.long p0), .second, .val (.long p1), .second, .val (.long p2), .second, .val (.long p3), .second, .val (.long p4), .second, .unset, .unset, .unset, .unset, .unset, .unset, .unset, .unset] [])
    refine k T0 h0 _ X0 e0 N0 (A0.conv fun j hj => ?_)
    rw [if_pos (by omega), if_pos (by omega)]
set_option maxRecDepth 65536 in
set_option maxHeartbeats 4000000 in
theorem segS4 (base gaps qa : Int64) (shp : Int32) (zk : Int32) (a : Addr) (p0 p1 p2 p3 p4 : Int64) (M n0 : Nat) (hM1 : 1 ≤ M) (hM : M ≤ 4) (ga : n0 ≤ a) (A0 : Af Z h0 a .long (M + 1) (fun j => if j < 4 then .long (own_pp p0 p1 p2 p3 p4 j) else .long (0 : Int64))) (N0 : Fr n0 locs) (C : Cx p s m meth c Z a0 code 27 "com/example/placewright/placewright/engine/JoinedLastStartingByPinLaw" "law" (some .boolean)) (X0 : Stand p l e room_1 s m args below meth c T0 locs 1 5) (e0 : T0.heap = h0)
    (k : ∀ T' h' locs', Stand p l e room_1 s m args below meth c T' locs' 1 5 → T'.heap = h' → Fr n0 locs' → Af Z h' a .long (M + 1) (fun j => if j < 5 then .long (own_pp p0 p1 p2 p3 p4 j) else .long (0 : Int64)) → WP p e below Q T' (mkF m 161 #[.val (.long base), .second, .val (.long gaps), .second, .val (.long qa), .second, .val (.int shp), .val (.int zk), .val (.ref a), .val (.long p0), .second, .val (.long p1), .second, .val (.long p2), .second, .val (.long p3), .second, .val (.long p4), .second, .unset, .unset, .unset, .unset, .unset, .unset, .unset, .unset] [])) : WP p e below Q T0 (mkF m 148 #[.val (.long base), .second, .val (.long gaps), .second, .val (.long qa), .second, .val (.int shp), .val (.int zk), .val (.ref a), .val (.long p0), .second, .val (.long p1), .second, .val (.long p2), .second, .val (.long p3), .second, .val (.long p4), .second, .unset, .unset, .unset, .unset, .unset, .unset, .unset, .unset] []) := by
  obtain ⟨hx, hZ, hw, hby, hml, hown, hnm, hret, hlk⟩ := id C
  have L0 := @Int32.lt_iff_toInt_lt
  have hz : (Int32.ofNat (M + 1)).toInt = ((M + 1 : Nat) : Int) := Int32.toInt_ofNat_of_lt (by omega)
  have ht : (4 : Int32).toInt = 4 := rfl
  show WP p e below _ T0 (mkF m 148 #[.val (.long base), .second, .val (.long gaps), .second, .val (.long qa), .second, .val (.int shp), .val (.int zk), .val (.ref a), .val (.long p0), .second, .val (.long p1), .second, .val (.long p2), .second, .val (.long p3), .second, .val (.long p4), .second, .unset, .unset, .unset, .unset, .unset, .unset, .unset, .unset] [])
  refine wp (fun _ => XS.aload X0.here hx rfl (hb hby at_148) rfl rfl) ?_
  show WP p e below _ T0 (mkF m 150 #[.val (.long base), .second, .val (.long gaps), .second, .val (.long qa), .second, .val (.int shp), .val (.int zk), .val (.ref a), .val (.long p0), .second, .val (.long p1), .second, .val (.long p2), .second, .val (.long p3), .second, .val (.long p4), .second, .unset, .unset, .unset, .unset, .unset, .unset, .unset, .unset] [(.ref a)])
  refine wp_arraylength C X0 e0 A0 at_150 ?_
  show WP p e below _ T0 (mkF m 151 #[.val (.long base), .second, .val (.long gaps), .second, .val (.long qa), .second, .val (.int shp), .val (.int zk), .val (.ref a), .val (.long p0), .second, .val (.long p1), .second, .val (.long p2), .second, .val (.long p3), .second, .val (.long p4), .second, .unset, .unset, .unset, .unset, .unset, .unset, .unset, .unset] [(.int (Int32.ofNat (M + 1)))])
  refine wp (fun _ => XS.iconst X0.here hx rfl (hb hby at_151)) ?_
  show WP p e below _ T0 (mkF m 152 #[.val (.long base), .second, .val (.long gaps), .second, .val (.long qa), .second, .val (.int shp), .val (.int zk), .val (.ref a), .val (.long p0), .second, .val (.long p1), .second, .val (.long p2), .second, .val (.long p3), .second, .val (.long p4), .second, .unset, .unset, .unset, .unset, .unset, .unset, .unset, .unset] [(.int (4 : Int32)), (.int (Int32.ofNat (M + 1)))])
  by_cases hc : (4 : Int32) < (Int32.ofNat (M + 1))
  · rw [L0] at hc
    refine wp (fun _ => XS.icmpNo X0.here hx rfl (hb hby at_152) rfl (XT.ii_le_f (L0.mpr hc))) ?_
    show WP p e below _ T0 (mkF m 155 #[.val (.long base), .second, .val (.long gaps), .second, .val (.long qa), .second, .val (.int shp), .val (.int zk), .val (.ref a), .val (.long p0), .second, .val (.long p1), .second, .val (.long p2), .second, .val (.long p3), .second, .val (.long p4), .second, .unset, .unset, .unset, .unset, .unset, .unset, .unset, .unset] [])
    refine wp (fun _ => XS.aload X0.here hx rfl (hb hby at_155) rfl rfl) ?_
    show WP p e below _ T0 (mkF m 157 #[.val (.long base), .second, .val (.long gaps), .second, .val (.long qa), .second, .val (.int shp), .val (.int zk), .val (.ref a), .val (.long p0), .second, .val (.long p1), .second, .val (.long p2), .second, .val (.long p3), .second, .val (.long p4), .second, .unset, .unset, .unset, .unset, .unset, .unset, .unset, .unset] [(.ref a)])
    refine wp (fun _ => XS.iconst X0.here hx rfl (hb hby at_157)) ?_
    show WP p e below _ T0 (mkF m 158 #[.val (.long base), .second, .val (.long gaps), .second, .val (.long qa), .second, .val (.int shp), .val (.int zk), .val (.ref a), .val (.long p0), .second, .val (.long p1), .second, .val (.long p2), .second, .val (.long p3), .second, .val (.long p4), .second, .unset, .unset, .unset, .unset, .unset, .unset, .unset, .unset] [(.int (4 : Int32)), (.ref a)])
    refine wp (fun _ => XS.lload X0.here hx rfl (hb hby at_158) rfl) ?_
    show WP p e below _ T0 (mkF m 160 #[.val (.long base), .second, .val (.long gaps), .second, .val (.long qa), .second, .val (.int shp), .val (.int zk), .val (.ref a), .val (.long p0), .second, .val (.long p1), .second, .val (.long p2), .second, .val (.long p3), .second, .val (.long p4), .second, .unset, .unset, .unset, .unset, .unset, .unset, .unset, .unset] [(.long p4), (.int (4 : Int32)), (.ref a)])
    refine wp_lastore C X0 e0 A0 (j := 4) rfl (by omega) at_160 ?_
    intro T1 h1 X1 e1 W1 A1
    have N1 := Frs (a := a) (sl := (4 : Int32).toNatClampNeg) N0 ga
    show WP p e below _ T1 (mkF m 161 #[.val (.long base), .second, .val (.long gaps), .second, .val (.long qa), .second, .val (.int shp), .val (.int zk), .val (.ref a), .val (.long p0), .second, .val (.long p1), .second, .val (.long p2), .second, .val (.long p3), .second, .val (.long p4), .second, .unset, .unset, .unset, .unset, .unset, .unset, .unset, .unset] [])
    refine k T1 h1 _ X1 e1 N1 (A1.conv fun j hj => ?_)
    by_cases q1 : j = 4
    · subst q1; rfl
    · rw [if_neg q1]
      by_cases q0 : j < 4
      · rw [if_pos q0, if_pos (by omega)]
      · rw [if_neg q0, if_neg (by omega)]
  · rw [L0] at hc
    refine wp (fun _ => XS.icmpYes X0.here hx rfl (pc0 := 152) (pc' := 161) rfl (hb hby at_152) rfl (XT.ii_le_t (fun q => hc (L0.mp q))) (by decide) (by decide)) ?_
    show WP p e below _ T0 (mkF m 161 #[.val (.long base), .second, .val (.long gaps), .second, .val (.long qa), .second, .val (.int shp), .val (.int zk), .val (.ref a), .val (.long p0), .second, .val (.long p1), .second, .val (.long p2), .second, .val (.long p3), .second, .val (.long p4), .second, .unset, .unset, .unset, .unset, .unset, .unset, .unset, .unset] [])
    refine k T0 h0 _ X0 e0 N0 (A0.conv fun j hj => ?_)
    rw [if_pos (by omega), if_pos (by omega)]
set_option maxRecDepth 65536 in
set_option maxHeartbeats 4000000 in
theorem segE1 (base gaps qa : Int64) (shp : Int32) (zk : Int32) (a : Addr) (p0 p1 p2 p3 p4 : Int64) (zM : Int32) (last tot at_ : Int64) (M : Nat) (hM : zM.toInt = (M : Int)) (C : Cx p s m meth c Z a0 code 27 "com/example/placewright/placewright/engine/JoinedLastStartingByPinLaw" "law" (some .boolean)) (X0 : Stand p l e R s m args below meth c T0 locs cells slots)
    (k : WP p e below Q T0 (mkF m 228 #[.val (.long base), .second, .val (.long gaps), .second, .val (.long qa), .second, .val (.int shp), .val (.int zk), .val (.ref a), .val (.long p0), .second, .val (.long p1), .second, .val (.long p2), .second, .val (.long p3), .second, .val (.long p4), .second, .val (.int zM), .val (.long last), .second, .val (.long tot), .second, .val (.long at_), .second, .val (.int (Int32.ofNat (own_E M at_ (own_pp p0 p1 p2 p3 p4) 1)))] [])) : WP p e below Q T0 (mkF m 208 #[.val (.long base), .second, .val (.long gaps), .second, .val (.long qa), .second, .val (.int shp), .val (.int zk), .val (.ref a), .val (.long p0), .second, .val (.long p1), .second, .val (.long p2), .second, .val (.long p3), .second, .val (.long p4), .second, .val (.int zM), .val (.long last), .second, .val (.long tot), .second, .val (.long at_), .second, .val (.int (Int32.ofNat (own_E M at_ (own_pp p0 p1 p2 p3 p4) 0)))] []) := by
  obtain ⟨hx, hZ, hw, hby, hml, hown, hnm, hret, hlk⟩ := id C
  have L0 := @Int32.lt_iff_toInt_lt
  have ht : (1 : Int32).toInt = 1 := rfl
  show WP p e below _ T0 (mkF m 208 #[.val (.long base), .second, .val (.long gaps), .second, .val (.long qa), .second, .val (.int shp), .val (.int zk), .val (.ref a), .val (.long p0), .second, .val (.long p1), .second, .val (.long p2), .second, .val (.long p3), .second, .val (.long p4), .second, .val (.int zM), .val (.long last), .second, .val (.long tot), .second, .val (.long at_), .second, .val (.int (Int32.ofNat (own_E M at_ (own_pp p0 p1 p2 p3 p4) 0)))] [])
  refine wp (fun _ => XS.iload X0.here hx rfl (hb hby at_208) rfl) ?_
  show WP p e below _ T0 (mkF m 210 #[.val (.long base), .second, .val (.long gaps), .second, .val (.long qa), .second, .val (.int shp), .val (.int zk), .val (.ref a), .val (.long p0), .second, .val (.long p1), .second, .val (.long p2), .second, .val (.long p3), .second, .val (.long p4), .second, .val (.int zM), .val (.long last), .second, .val (.long tot), .second, .val (.long at_), .second, .val (.int (Int32.ofNat (own_E M at_ (own_pp p0 p1 p2 p3 p4) 0)))] [(.int zM)])
  refine wp (fun _ => XS.iconst X0.here hx rfl (hb hby at_210)) ?_
  show WP p e below _ T0 (mkF m 211 #[.val (.long base), .second, .val (.long gaps), .second, .val (.long qa), .second, .val (.int shp), .val (.int zk), .val (.ref a), .val (.long p0), .second, .val (.long p1), .second, .val (.long p2), .second, .val (.long p3), .second, .val (.long p4), .second, .val (.int zM), .val (.long last), .second, .val (.long tot), .second, .val (.long at_), .second, .val (.int (Int32.ofNat (own_E M at_ (own_pp p0 p1 p2 p3 p4) 0)))] [(.int (1 : Int32)), (.int zM)])
  by_cases hc : (1 : Int32) < zM
  · rw [L0] at hc
    refine wp (fun _ => XS.icmpNo X0.here hx rfl (hb hby at_211) rfl (XT.ii_le_f (L0.mpr hc))) ?_
    show WP p e below _ T0 (mkF m 214 #[.val (.long base), .second, .val (.long gaps), .second, .val (.long qa), .second, .val (.int shp), .val (.int zk), .val (.ref a), .val (.long p0), .second, .val (.long p1), .second, .val (.long p2), .second, .val (.long p3), .second, .val (.long p4), .second, .val (.int zM), .val (.long last), .second, .val (.long tot), .second, .val (.long at_), .second, .val (.int (Int32.ofNat (own_E M at_ (own_pp p0 p1 p2 p3 p4) 0)))] [])
    refine wp (fun _ => XS.lload X0.here hx rfl (hb hby at_214) rfl) ?_
    show WP p e below _ T0 (mkF m 216 #[.val (.long base), .second, .val (.long gaps), .second, .val (.long qa), .second, .val (.int shp), .val (.int zk), .val (.ref a), .val (.long p0), .second, .val (.long p1), .second, .val (.long p2), .second, .val (.long p3), .second, .val (.long p4), .second, .val (.int zM), .val (.long last), .second, .val (.long tot), .second, .val (.long at_), .second, .val (.int (Int32.ofNat (own_E M at_ (own_pp p0 p1 p2 p3 p4) 0)))] [(.long p1)])
    refine wp (fun _ => XS.lload X0.here hx rfl (hb hby at_216) rfl) ?_
    show WP p e below _ T0 (mkF m 218 #[.val (.long base), .second, .val (.long gaps), .second, .val (.long qa), .second, .val (.int shp), .val (.int zk), .val (.ref a), .val (.long p0), .second, .val (.long p1), .second, .val (.long p2), .second, .val (.long p3), .second, .val (.long p4), .second, .val (.int zM), .val (.long last), .second, .val (.long tot), .second, .val (.long at_), .second, .val (.int (Int32.ofNat (own_E M at_ (own_pp p0 p1 p2 p3 p4) 0)))] [(.long at_), (.long p1)])
    refine wp (fun _ => XT.lcmp X0.here hx rfl (hb hby at_218) rfl) ?_
    show WP p e below _ T0 (mkF m 219 #[.val (.long base), .second, .val (.long gaps), .second, .val (.long qa), .second, .val (.int shp), .val (.int zk), .val (.ref a), .val (.long p0), .second, .val (.long p1), .second, .val (.long p2), .second, .val (.long p3), .second, .val (.long p4), .second, .val (.int zM), .val (.long last), .second, .val (.long tot), .second, .val (.long at_), .second, .val (.int (Int32.ofNat (own_E M at_ (own_pp p0 p1 p2 p3 p4) 0)))] [(.int (XT.cmpL p1 at_))])
    by_cases hq : at_ < p1
    · have eE : own_E M at_ (own_pp p0 p1 p2 p3 p4) 1 = own_E M at_ (own_pp p0 p1 p2 p3 p4) 0 := own_E_no M at_ (own_pp p0 p1 p2 p3 p4) 0 (fun q => q.2 hq)
      rw [eE] at k
      refine wp (fun _ => XS.ifYes X0.here hx rfl (pc0 := 219) (pc' := 228) rfl (hb hby at_219) rfl (XT.ll_gt_t hq) (by decide) (by decide)) ?_
      show WP p e below _ T0 (mkF m 228 #[.val (.long base), .second, .val (.long gaps), .second, .val (.long qa), .second, .val (.int shp), .val (.int zk), .val (.ref a), .val (.long p0), .second, .val (.long p1), .second, .val (.long p2), .second, .val (.long p3), .second, .val (.long p4), .second, .val (.int zM), .val (.long last), .second, .val (.long tot), .second, .val (.long at_), .second, .val (.int (Int32.ofNat (own_E M at_ (own_pp p0 p1 p2 p3 p4) 0)))] [])
      exact k
    · have eE : own_E M at_ (own_pp p0 p1 p2 p3 p4) 1 = own_E M at_ (own_pp p0 p1 p2 p3 p4) 0 + 1 := own_E_yes M at_ (own_pp p0 p1 p2 p3 p4) 0 ⟨by omega, hq⟩
      rw [eE, Int32.ofNat_add] at k
      refine wp (fun _ => XS.ifNo X0.here hx rfl (hb hby at_219) rfl (XT.ll_gt_f hq)) ?_
      show WP p e below _ T0 (mkF m 222 #[.val (.long base), .second, .val (.long gaps), .second, .val (.long qa), .second, .val (.int shp), .val (.int zk), .val (.ref a), .val (.long p0), .second, .val (.long p1), .second, .val (.long p2), .second, .val (.long p3), .second, .val (.long p4), .second, .val (.int zM), .val (.long last), .second, .val (.long tot), .second, .val (.long at_), .second, .val (.int (Int32.ofNat (own_E M at_ (own_pp p0 p1 p2 p3 p4) 0)))] [])
      refine wp (fun _ => XS.iload X0.here hx rfl (hb hby at_222) rfl) ?_
      show WP p e below _ T0 (mkF m 224 #[.val (.long base), .second, .val (.long gaps), .second, .val (.long qa), .second, .val (.int shp), .val (.int zk), .val (.ref a), .val (.long p0), .second, .val (.long p1), .second, .val (.long p2), .second, .val (.long p3), .second, .val (.long p4), .second, .val (.int zM), .val (.long last), .second, .val (.long tot), .second, .val (.long at_), .second, .val (.int (Int32.ofNat (own_E M at_ (own_pp p0 p1 p2 p3 p4) 0)))] [(.int (Int32.ofNat (own_E M at_ (own_pp p0 p1 p2 p3 p4) 0)))])
      refine wp (fun _ => XS.iconst X0.here hx rfl (hb hby at_224)) ?_
      show WP p e below _ T0 (mkF m 225 #[.val (.long base), .second, .val (.long gaps), .second, .val (.long qa), .second, .val (.int shp), .val (.int zk), .val (.ref a), .val (.long p0), .second, .val (.long p1), .second, .val (.long p2), .second, .val (.long p3), .second, .val (.long p4), .second, .val (.int zM), .val (.long last), .second, .val (.long tot), .second, .val (.long at_), .second, .val (.int (Int32.ofNat (own_E M at_ (own_pp p0 p1 p2 p3 p4) 0)))] [(.int (1 : Int32)), (.int (Int32.ofNat (own_E M at_ (own_pp p0 p1 p2 p3 p4) 0)))])
      refine wp (fun _ => XS.iadd X0.here hx rfl (hb hby at_225) rfl) ?_
      show WP p e below _ T0 (mkF m 226 #[.val (.long base), .second, .val (.long gaps), .second, .val (.long qa), .second, .val (.int shp), .val (.int zk), .val (.ref a), .val (.long p0), .second, .val (.long p1), .second, .val (.long p2), .second, .val (.long p3), .second, .val (.long p4), .second, .val (.int zM), .val (.long last), .second, .val (.long tot), .second, .val (.long at_), .second, .val (.int (Int32.ofNat (own_E M at_ (own_pp p0 p1 p2 p3 p4) 0)))] [(.int ((Int32.ofNat (own_E M at_ (own_pp p0 p1 p2 p3 p4) 0)) + (1 : Int32)))])
      refine wp (fun _ => XS.istore X0.here hx rfl (hb hby at_226) rfl (l' := #[.val (.long base), .second, .val (.long gaps), .second, .val (.long qa), .second, .val (.int shp), .val (.int zk), .val (.ref a), .val (.long p0), .second, .val (.long p1), .second, .val (.long p2), .second, .val (.long p3), .second, .val (.long p4), .second, .val (.int zM), .val (.long last), .second, .val (.long tot), .second, .val (.long at_), .second, .val (.int ((Int32.ofNat (own_E M at_ (own_pp p0 p1 p2 p3 p4) 0)) + (1 : Int32)))]) rfl) ?_
      show WP p e below _ T0 (mkF m 228 #[.val (.long base), .second, .val (.long gaps), .second, .val (.long qa), .second, .val (.int shp), .val (.int zk), .val (.ref a), .val (.long p0), .second, .val (.long p1), .second, .val (.long p2), .second, .val (.long p3), .second, .val (.long p4), .second, .val (.int zM), .val (.long last), .second, .val (.long tot), .second, .val (.long at_), .second, .val (.int ((Int32.ofNat (own_E M at_ (own_pp p0 p1 p2 p3 p4) 0)) + (1 : Int32)))] [])
      exact k
  · rw [L0] at hc
    have eE : own_E M at_ (own_pp p0 p1 p2 p3 p4) 1 = own_E M at_ (own_pp p0 p1 p2 p3 p4) 0 := own_E_no M at_ (own_pp p0 p1 p2 p3 p4) 0 (fun q => absurd q.1 (by omega))
    rw [eE] at k
    refine wp (fun _ => XS.icmpYes X0.here hx rfl (pc0 := 211) (pc' := 228) rfl (hb hby at_211) rfl (XT.ii_le_t (fun q => hc (L0.mp q))) (by decide) (by decide)) ?_
    show WP p e below _ T0 (mkF m 228 #[.val (.long base), .second, .val (.long gaps), .second, .val (.long qa), .second, .val (.int shp), .val (.int zk), .val (.ref a), .val (.long p0), .second, .val (.long p1), .second, .val (.long p2), .second, .val (.long p3), .second, .val (.long p4), .second, .val (.int zM), .val (.long last), .second, .val (.long tot), .second, .val (.long at_), .second, .val (.int (Int32.ofNat (own_E M at_ (own_pp p0 p1 p2 p3 p4) 0)))] [])
    exact k
set_option maxRecDepth 65536 in
set_option maxHeartbeats 4000000 in
theorem segE2 (base gaps qa : Int64) (shp : Int32) (zk : Int32) (a : Addr) (p0 p1 p2 p3 p4 : Int64) (zM : Int32) (last tot at_ : Int64) (M : Nat) (hM : zM.toInt = (M : Int)) (C : Cx p s m meth c Z a0 code 27 "com/example/placewright/placewright/engine/JoinedLastStartingByPinLaw" "law" (some .boolean)) (X0 : Stand p l e R s m args below meth c T0 locs cells slots)
    (k : WP p e below Q T0 (mkF m 248 #[.val (.long base), .second, .val (.long gaps), .second, .val (.long qa), .second, .val (.int shp), .val (.int zk), .val (.ref a), .val (.long p0), .second, .val (.long p1), .second, .val (.long p2), .second, .val (.long p3), .second, .val (.long p4), .second, .val (.int zM), .val (.long last), .second, .val (.long tot), .second, .val (.long at_), .second, .val (.int (Int32.ofNat (own_E M at_ (own_pp p0 p1 p2 p3 p4) 2)))] [])) : WP p e below Q T0 (mkF m 228 #[.val (.long base), .second, .val (.long gaps), .second, .val (.long qa), .second, .val (.int shp), .val (.int zk), .val (.ref a), .val (.long p0), .second, .val (.long p1), .second, .val (.long p2), .second, .val (.long p3), .second, .val (.long p4), .second, .val (.int zM), .val (.long last), .second, .val (.long tot), .second, .val (.long at_), .second, .val (.int (Int32.ofNat (own_E M at_ (own_pp p0 p1 p2 p3 p4) 1)))] []) := by
  obtain ⟨hx, hZ, hw, hby, hml, hown, hnm, hret, hlk⟩ := id C
  have L0 := @Int32.lt_iff_toInt_lt
  have ht : (2 : Int32).toInt = 2 := rfl
  show WP p e below _ T0 (mkF m 228 #[.val (.long base), .second, .val (.long gaps), .second, .val (.long qa), .second, .val (.int shp), .val (.int zk), .val (.ref a), .val (.long p0), .second, .val (.long p1), .second, .val (.long p2), .second, .val (.long p3), .second, .val (.long p4), .second, .val (.int zM), .val (.long last), .second, .val (.long tot), .second, .val (.long at_), .second, .val (.int (Int32.ofNat (own_E M at_ (own_pp p0 p1 p2 p3 p4) 1)))] [])
  refine wp (fun _ => XS.iload X0.here hx rfl (hb hby at_228) rfl) ?_
  show WP p e below _ T0 (mkF m 230 #[.val (.long base), .second, .val (.long gaps), .second, .val (.long qa), .second, .val (.int shp), .val (.int zk), .val (.ref a), .val (.long p0), .second, .val (.long p1), .second, .val (.long p2), .second, .val (.long p3), .second, .val (.long p4), .second, .val (.int zM), .val (.long last), .second, .val (.long tot), .second, .val (.long at_), .second, .val (.int (Int32.ofNat (own_E M at_ (own_pp p0 p1 p2 p3 p4) 1)))] [(.int zM)])
  refine wp (fun _ => XS.iconst X0.here hx rfl (hb hby at_230)) ?_
  show WP p e below _ T0 (mkF m 231 #[.val (.long base), .second, .val (.long gaps), .second, .val (.long qa), .second, .val (.int shp), .val (.int zk), .val (.ref a), .val (.long p0), .second, .val (.long p1), .second, .val (.long p2), .second, .val (.long p3), .second, .val (.long p4), .second, .val (.int zM), .val (.long last), .second, .val (.long tot), .second, .val (.long at_), .second, .val (.int (Int32.ofNat (own_E M at_ (own_pp p0 p1 p2 p3 p4) 1)))] [(.int (2 : Int32)), (.int zM)])
  by_cases hc : (2 : Int32) < zM
  · rw [L0] at hc
    refine wp (fun _ => XS.icmpNo X0.here hx rfl (hb hby at_231) rfl (XT.ii_le_f (L0.mpr hc))) ?_
    show WP p e below _ T0 (mkF m 234 #[.val (.long base), .second, .val (.long gaps), .second, .val (.long qa), .second, .val (.int shp), .val (.int zk), .val (.ref a), .val (.long p0), .second, .val (.long p1), .second, .val (.long p2), .second, .val (.long p3), .second, .val (.long p4), .second, .val (.int zM), .val (.long last), .second, .val (.long tot), .second, .val (.long at_), .second, .val (.int (Int32.ofNat (own_E M at_ (own_pp p0 p1 p2 p3 p4) 1)))] [])
    refine wp (fun _ => XS.lload X0.here hx rfl (hb hby at_234) rfl) ?_
    show WP p e below _ T0 (mkF m 236 #[.val (.long base), .second, .val (.long gaps), .second, .val (.long qa), .second, .val (.int shp), .val (.int zk), .val (.ref a), .val (.long p0), .second, .val (.long p1), .second, .val (.long p2), .second, .val (.long p3), .second, .val (.long p4), .second, .val (.int zM), .val (.long last), .second, .val (.long tot), .second, .val (.long at_), .second, .val (.int (Int32.ofNat (own_E M at_ (own_pp p0 p1 p2 p3 p4) 1)))] [(.long p2)])
    refine wp (fun _ => XS.lload X0.here hx rfl (hb hby at_236) rfl) ?_
    show WP p e below _ T0 (mkF m 238 #[.val (.long base), .second, .val (.long gaps), .second, .val (.long qa), .second, .val (.int shp), .val (.int zk), .val (.ref a), .val (.long p0), .second, .val (.long p1), .second, .val (.long p2), .second, .val (.long p3), .second, .val (.long p4), .second, .val (.int zM), .val (.long last), .second, .val (.long tot), .second, .val (.long at_), .second, .val (.int (Int32.ofNat (own_E M at_ (own_pp p0 p1 p2 p3 p4) 1)))] [(.long at_), (.long p2)])
    refine wp (fun _ => XT.lcmp X0.here hx rfl (hb hby at_238) rfl) ?_
    show WP p e below _ T0 (mkF m 239 #[.val (.long base), .second, .val (.long gaps), .second, .val (.long qa), .second, .val (.int shp), .val (.int zk), .val (.ref a), .val (.long p0), .second, .val (.long p1), .second, .val (.long p2), .second, .val (.long p3), .second, .val (.long p4), .second, .val (.int zM), .val (.long last), .second, .val (.long tot), .second, .val (.long at_), .second, .val (.int (Int32.ofNat (own_E M at_ (own_pp p0 p1 p2 p3 p4) 1)))] [(.int (XT.cmpL p2 at_))])
    by_cases hq : at_ < p2
    · have eE : own_E M at_ (own_pp p0 p1 p2 p3 p4) 2 = own_E M at_ (own_pp p0 p1 p2 p3 p4) 1 := own_E_no M at_ (own_pp p0 p1 p2 p3 p4) 1 (fun q => q.2 hq)
      rw [eE] at k
      refine wp (fun _ => XS.ifYes X0.here hx rfl (pc0 := 239) (pc' := 248) rfl (hb hby at_239) rfl (XT.ll_gt_t hq) (by decide) (by decide)) ?_
      show WP p e below _ T0 (mkF m 248 #[.val (.long base), .second, .val (.long gaps), .second, .val (.long qa), .second, .val (.int shp), .val (.int zk), .val (.ref a), .val (.long p0), .second, .val (.long p1), .second, .val (.long p2), .second, .val (.long p3), .second, .val (.long p4), .second, .val (.int zM), .val (.long last), .second, .val (.long tot), .second, .val (.long at_), .second, .val (.int (Int32.ofNat (own_E M at_ (own_pp p0 p1 p2 p3 p4) 1)))] [])
      exact k
    · have eE : own_E M at_ (own_pp p0 p1 p2 p3 p4) 2 = own_E M at_ (own_pp p0 p1 p2 p3 p4) 1 + 1 := own_E_yes M at_ (own_pp p0 p1 p2 p3 p4) 1 ⟨by omega, hq⟩
      rw [eE, Int32.ofNat_add] at k
      refine wp (fun _ => XS.ifNo X0.here hx rfl (hb hby at_239) rfl (XT.ll_gt_f hq)) ?_
      show WP p e below _ T0 (mkF m 242 #[.val (.long base), .second, .val (.long gaps), .second, .val (.long qa), .second, .val (.int shp), .val (.int zk), .val (.ref a), .val (.long p0), .second, .val (.long p1), .second, .val (.long p2), .second, .val (.long p3), .second, .val (.long p4), .second, .val (.int zM), .val (.long last), .second, .val (.long tot), .second, .val (.long at_), .second, .val (.int (Int32.ofNat (own_E M at_ (own_pp p0 p1 p2 p3 p4) 1)))] [])
      refine wp (fun _ => XS.iload X0.here hx rfl (hb hby at_242) rfl) ?_
      show WP p e below _ T0 (mkF m 244 #[.val (.long base), .second, .val (.long gaps), .second, .val (.long qa), .second, .val (.int shp), .val (.int zk), .val (.ref a), .val (.long p0), .second, .val (.long p1), .second, .val (.long p2), .second, .val (.long p3), .second, .val (.long p4), .second, .val (.int zM), .val (.long last), .second, .val (.long tot), .second, .val (.long at_), .second, .val (.int (Int32.ofNat (own_E M at_ (own_pp p0 p1 p2 p3 p4) 1)))] [(.int (Int32.ofNat (own_E M at_ (own_pp p0 p1 p2 p3 p4) 1)))])
      refine wp (fun _ => XS.iconst X0.here hx rfl (hb hby at_244)) ?_
      show WP p e below _ T0 (mkF m 245 #[.val (.long base), .second, .val (.long gaps), .second, .val (.long qa), .second, .val (.int shp), .val (.int zk), .val (.ref a), .val (.long p0), .second, .val (.long p1), .second, .val (.long p2), .second, .val (.long p3), .second, .val (.long p4), .second, .val (.int zM), .val (.long last), .second, .val (.long tot), .second, .val (.long at_), .second, .val (.int (Int32.ofNat (own_E M at_ (own_pp p0 p1 p2 p3 p4) 1)))] [(.int (1 : Int32)), (.int (Int32.ofNat (own_E M at_ (own_pp p0 p1 p2 p3 p4) 1)))])
      refine wp (fun _ => XS.iadd X0.here hx rfl (hb hby at_245) rfl) ?_
      show WP p e below _ T0 (mkF m 246 #[.val (.long base), .second, .val (.long gaps), .second, .val (.long qa), .second, .val (.int shp), .val (.int zk), .val (.ref a), .val (.long p0), .second, .val (.long p1), .second, .val (.long p2), .second, .val (.long p3), .second, .val (.long p4), .second, .val (.int zM), .val (.long last), .second, .val (.long tot), .second, .val (.long at_), .second, .val (.int (Int32.ofNat (own_E M at_ (own_pp p0 p1 p2 p3 p4) 1)))] [(.int ((Int32.ofNat (own_E M at_ (own_pp p0 p1 p2 p3 p4) 1)) + (1 : Int32)))])
      refine wp (fun _ => XS.istore X0.here hx rfl (hb hby at_246) rfl (l' := #[.val (.long base), .second, .val (.long gaps), .second, .val (.long qa), .second, .val (.int shp), .val (.int zk), .val (.ref a), .val (.long p0), .second, .val (.long p1), .second, .val (.long p2), .second, .val (.long p3), .second, .val (.long p4), .second, .val (.int zM), .val (.long last), .second, .val (.long tot), .second, .val (.long at_), .second, .val (.int ((Int32.ofNat (own_E M at_ (own_pp p0 p1 p2 p3 p4) 1)) + (1 : Int32)))]) rfl) ?_
      show WP p e below _ T0 (mkF m 248 #[.val (.long base), .second, .val (.long gaps), .second, .val (.long qa), .second, .val (.int shp), .val (.int zk), .val (.ref a), .val (.long p0), .second, .val (.long p1), .second, .val (.long p2), .second, .val (.long p3), .second, .val (.long p4), .second, .val (.int zM), .val (.long last), .second, .val (.long tot), .second, .val (.long at_), .second, .val (.int ((Int32.ofNat (own_E M at_ (own_pp p0 p1 p2 p3 p4) 1)) + (1 : Int32)))] [])
      exact k
  · rw [L0] at hc
    have eE : own_E M at_ (own_pp p0 p1 p2 p3 p4) 2 = own_E M at_ (own_pp p0 p1 p2 p3 p4) 1 := own_E_no M at_ (own_pp p0 p1 p2 p3 p4) 1 (fun q => absurd q.1 (by omega))
    rw [eE] at k
    refine wp (fun _ => XS.icmpYes X0.here hx rfl (pc0 := 231) (pc' := 248) rfl (hb hby at_231) rfl (XT.ii_le_t (fun q => hc (L0.mp q))) (by decide) (by decide)) ?_
    show WP p e below _ T0 (mkF m 248 #[.val (.long base), .second, .val (.long gaps), .second, .val (.long qa), .second, .val (.int shp), .val (.int zk), .val (.ref a), .val (.long p0), .second, .val (.long p1), .second, .val (.long p2), .second, .val (.long p3), .second, .val (.long p4), .second, .val (.int zM), .val (.long last), .second, .val (.long tot), .second, .val (.long at_), .second, .val (.int (Int32.ofNat (own_E M at_ (own_pp p0 p1 p2 p3 p4) 1)))] [])
    exact k
set_option maxRecDepth 65536 in
set_option maxHeartbeats 4000000 in
theorem segE3 (base gaps qa : Int64) (shp : Int32) (zk : Int32) (a : Addr) (p0 p1 p2 p3 p4 : Int64) (zM : Int32) (last tot at_ : Int64) (M : Nat) (hM : zM.toInt = (M : Int)) (C : Cx p s m meth c Z a0 code 27 "com/example/placewright/placewright/engine/JoinedLastStartingByPinLaw" "law" (some .boolean)) (X0 : Stand p l e R s m args below meth c T0 locs cells slots)
    (k : WP p e below Q T0 (mkF m 268 #[.val (.long base), .second, .val (.long gaps), .second, .val (.long qa), .second, .val (.int shp), .val (.int zk), .val (.ref a), .val (.long p0), .second, .val (.long p1), .second, .val (.long p2), .second, .val (.long p3), .second, .val (.long p4), .second, .val (.int zM), .val (.long last), .second, .val (.long tot), .second, .val (.long at_), .second, .val (.int (Int32.ofNat (own_E M at_ (own_pp p0 p1 p2 p3 p4) 3)))] [])) : WP p e below Q T0 (mkF m 248 #[.val (.long base), .second, .val (.long gaps), .second, .val (.long qa), .second, .val (.int shp), .val (.int zk), .val (.ref a), .val (.long p0), .second, .val (.long p1), .second, .val (.long p2), .second, .val (.long p3), .second, .val (.long p4), .second, .val (.int zM), .val (.long last), .second, .val (.long tot), .second, .val (.long at_), .second, .val (.int (Int32.ofNat (own_E M at_ (own_pp p0 p1 p2 p3 p4) 2)))] []) := by
  obtain ⟨hx, hZ, hw, hby, hml, hown, hnm, hret, hlk⟩ := id C
  have L0 := @Int32.lt_iff_toInt_lt
  have ht : (3 : Int32).toInt = 3 := rfl
  show WP p e below _ T0 (mkF m 248 #[.val (.long base), .second, .val (.long gaps), .second, .val (.long qa), .second, .val (.int shp), .val (.int zk), .val (.ref a), .val (.long p0), .second, .val (.long p1), .second, .val (.long p2), .second, .val (.long p3), .second, .val (.long p4), .second, .val (.int zM), .val (.long last), .second, .val (.long tot), .second, .val (.long at_), .second, .val (.int (Int32.ofNat (own_E M at_ (own_pp p0 p1 p2 p3 p4) 2)))] [])
  refine wp (fun _ => XS.iload X0.here hx rfl (hb hby at_248) rfl) ?_
  show WP p e below _ T0 (mkF m 250 #[.val (.long base), .second, .val (.long gaps), .second, .val (.long qa), .second, .val (.int shp), .val (.int zk), .val (.ref a), .val (.long p0), .second, .val (.long p1), .second, .val (.long p2), .second, .val (.long p3), .second, .val (.long p4), .second, .val (.int zM), .val (.long last), .second, .val (.long tot), .second, .val (.long at_), .second, .val (.int (Int32.ofNat (own_E M at_ (own_pp p0 p1 p2 p3 p4) 2)))] [(.int zM)])
  refine wp (fun _ => XS.iconst X0.here hx rfl (hb hby at_250)) ?_
  show WP p e below _ T0 (mkF m 251 #[.val (.long base), .second, .val (.long gaps), .second, .val (.long qa), .second, .val (.int shp), .val (.int zk), .val (.ref a), .val (.long p0), .second, .val (.long p1), .second, .val (.long p2), .second, .val (.long p3), .second, .val (.long p4), .second, .val (.int zM), .val (.long last), .second, .val (.long tot), .second, .val (.long at_), .second, .val (.int (Int32.ofNat (own_E M at_ (own_pp p0 p1 p2 p3 p4) 2)))] [(.int (3 : Int32)), (.int zM)])
  by_cases hc : (3 : Int32) < zM
  · rw [L0] at hc
    refine wp (fun _ => XS.icmpNo X0.here hx rfl (hb hby at_251) rfl (XT.ii_le_f (L0.mpr hc))) ?_
    show WP p e below _ T0 (mkF m 254 #[.val (.long base), .second, .val (.long gaps), .second, .val (.long qa), .second, .val (.int shp), .val (.int zk), .val (.ref a), .val (.long p0), .second, .val (.long p1), .second, .val (.long p2), .second, .val (.long p3), .second, .val (.long p4), .second, .val (.int zM), .val (.long last), .second, .val (.long tot), .second, .val (.long at_), .second, .val (.int (Int32.ofNat (own_E M at_ (own_pp p0 p1 p2 p3 p4) 2)))] [])
    refine wp (fun _ => XS.lload X0.here hx rfl (hb hby at_254) rfl) ?_
    show WP p e below _ T0 (mkF m 256 #[.val (.long base), .second, .val (.long gaps), .second, .val (.long qa), .second, .val (.int shp), .val (.int zk), .val (.ref a), .val (.long p0), .second, .val (.long p1), .second, .val (.long p2), .second, .val (.long p3), .second, .val (.long p4), .second, .val (.int zM), .val (.long last), .second, .val (.long tot), .second, .val (.long at_), .second, .val (.int (Int32.ofNat (own_E M at_ (own_pp p0 p1 p2 p3 p4) 2)))] [(.long p3)])
    refine wp (fun _ => XS.lload X0.here hx rfl (hb hby at_256) rfl) ?_
    show WP p e below _ T0 (mkF m 258 #[.val (.long base), .second, .val (.long gaps), .second, .val (.long qa), .second, .val (.int shp), .val (.int zk), .val (.ref a), .val (.long p0), .second, .val (.long p1), .second, .val (.long p2), .second, .val (.long p3), .second, .val (.long p4), .second, .val (.int zM), .val (.long last), .second, .val (.long tot), .second, .val (.long at_), .second, .val (.int (Int32.ofNat (own_E M at_ (own_pp p0 p1 p2 p3 p4) 2)))] [(.long at_), (.long p3)])
    refine wp (fun _ => XT.lcmp X0.here hx rfl (hb hby at_258) rfl) ?_
    show WP p e below _ T0 (mkF m 259 #[.val (.long base), .second, .val (.long gaps), .second, .val (.long qa), .second, .val (.int shp), .val (.int zk), .val (.ref a), .val (.long p0), .second, .val (.long p1), .second, .val (.long p2), .second, .val (.long p3), .second, .val (.long p4), .second, .val (.int zM), .val (.long last), .second, .val (.long tot), .second, .val (.long at_), .second, .val (.int (Int32.ofNat (own_E M at_ (own_pp p0 p1 p2 p3 p4) 2)))] [(.int (XT.cmpL p3 at_))])
    by_cases hq : at_ < p3
    · have eE : own_E M at_ (own_pp p0 p1 p2 p3 p4) 3 = own_E M at_ (own_pp p0 p1 p2 p3 p4) 2 := own_E_no M at_ (own_pp p0 p1 p2 p3 p4) 2 (fun q => q.2 hq)
      rw [eE] at k
      refine wp (fun _ => XS.ifYes X0.here hx rfl (pc0 := 259) (pc' := 268) rfl (hb hby at_259) rfl (XT.ll_gt_t hq) (by decide) (by decide)) ?_
      show WP p e below _ T0 (mkF m 268 #[.val (.long base), .second, .val (.long gaps), .second, .val (.long qa), .second, .val (.int shp), .val (.int zk), .val (.ref a), .val (.long p0), .second, .val (.long p1), .second, .val (.long p2), .second, .val (.long p3), .second, .val (.long p4), .second, .val (.int zM), .val (.long last), .second, .val (.long tot), .second, .val (.long at_), .second, .val (.int (Int32.ofNat (own_E M at_ (own_pp p0 p1 p2 p3 p4) 2)))] [])
      exact k
    · have eE : own_E M at_ (own_pp p0 p1 p2 p3 p4) 3 = own_E M at_ (own_pp p0 p1 p2 p3 p4) 2 + 1 := own_E_yes M at_ (own_pp p0 p1 p2 p3 p4) 2 ⟨by omega, hq⟩
      rw [eE, Int32.ofNat_add] at k
      refine wp (fun _ => XS.ifNo X0.here hx rfl (hb hby at_259) rfl (XT.ll_gt_f hq)) ?_
      show WP p e below _ T0 (mkF m 262 #[.val (.long base), .second, .val (.long gaps), .second, .val (.long qa), .second, .val (.int shp), .val (.int zk), .val (.ref a), .val (.long p0), .second, .val (.long p1), .second, .val (.long p2), .second, .val (.long p3), .second, .val (.long p4), .second, .val (.int zM), .val (.long last), .second, .val (.long tot), .second, .val (.long at_), .second, .val (.int (Int32.ofNat (own_E M at_ (own_pp p0 p1 p2 p3 p4) 2)))] [])
      refine wp (fun _ => XS.iload X0.here hx rfl (hb hby at_262) rfl) ?_
      show WP p e below _ T0 (mkF m 264 #[.val (.long base), .second, .val (.long gaps), .second, .val (.long qa), .second, .val (.int shp), .val (.int zk), .val (.ref a), .val (.long p0), .second, .val (.long p1), .second, .val (.long p2), .second, .val (.long p3), .second, .val (.long p4), .second, .val (.int zM), .val (.long last), .second, .val (.long tot), .second, .val (.long at_), .second, .val (.int (Int32.ofNat (own_E M at_ (own_pp p0 p1 p2 p3 p4) 2)))] [(.int (Int32.ofNat (own_E M at_ (own_pp p0 p1 p2 p3 p4) 2)))])
      refine wp (fun _ => XS.iconst X0.here hx rfl (hb hby at_264)) ?_
      show WP p e below _ T0 (mkF m 265 #[.val (.long base), .second, .val (.long gaps), .second, .val (.long qa), .second, .val (.int shp), .val (.int zk), .val (.ref a), .val (.long p0), .second, .val (.long p1), .second, .val (.long p2), .second, .val (.long p3), .second, .val (.long p4), .second, .val (.int zM), .val (.long last), .second, .val (.long tot), .second, .val (.long at_), .second, .val (.int (Int32.ofNat (own_E M at_ (own_pp p0 p1 p2 p3 p4) 2)))] [(.int (1 : Int32)), (.int (Int32.ofNat (own_E M at_ (own_pp p0 p1 p2 p3 p4) 2)))])
      refine wp (fun _ => XS.iadd X0.here hx rfl (hb hby at_265) rfl) ?_
      show WP p e below _ T0 (mkF m 266 #[.val (.long base), .second, .val (.long gaps), .second, .val (.long qa), .second, .val (.int shp), .val (.int zk), .val (.ref a), .val (.long p0), .second, .val (.long p1), .second, .val (.long p2), .second, .val (.long p3), .second, .val (.long p4), .second, .val (.int zM), .val (.long last), .second, .val (.long tot), .second, .val (.long at_), .second, .val (.int (Int32.ofNat (own_E M at_ (own_pp p0 p1 p2 p3 p4) 2)))] [(.int ((Int32.ofNat (own_E M at_ (own_pp p0 p1 p2 p3 p4) 2)) + (1 : Int32)))])
      refine wp (fun _ => XS.istore X0.here hx rfl (hb hby at_266) rfl (l' := #[.val (.long base), .second, .val (.long gaps), .second, .val (.long qa), .second, .val (.int shp), .val (.int zk), .val (.ref a), .val (.long p0), .second, .val (.long p1), .second, .val (.long p2), .second, .val (.long p3), .second, .val (.long p4), .second, .val (.int zM), .val (.long last), .second, .val (.long tot), .second, .val (.long at_), .second, .val (.int ((Int32.ofNat (own_E M at_ (own_pp p0 p1 p2 p3 p4) 2)) + (1 : Int32)))]) rfl) ?_
      show WP p e below _ T0 (mkF m 268 #[.val (.long base), .second, .val (.long gaps), .second, .val (.long qa), .second, .val (.int shp), .val (.int zk), .val (.ref a), .val (.long p0), .second, .val (.long p1), .second, .val (.long p2), .second, .val (.long p3), .second, .val (.long p4), .second, .val (.int zM), .val (.long last), .second, .val (.long tot), .second, .val (.long at_), .second, .val (.int ((Int32.ofNat (own_E M at_ (own_pp p0 p1 p2 p3 p4) 2)) + (1 : Int32)))] [])
      exact k
  · rw [L0] at hc
    have eE : own_E M at_ (own_pp p0 p1 p2 p3 p4) 3 = own_E M at_ (own_pp p0 p1 p2 p3 p4) 2 := own_E_no M at_ (own_pp p0 p1 p2 p3 p4) 2 (fun q => absurd q.1 (by omega))
    rw [eE] at k
    refine wp (fun _ => XS.icmpYes X0.here hx rfl (pc0 := 251) (pc' := 268) rfl (hb hby at_251) rfl (XT.ii_le_t (fun q => hc (L0.mp q))) (by decide) (by decide)) ?_
    show WP p e below _ T0 (mkF m 268 #[.val (.long base), .second, .val (.long gaps), .second, .val (.long qa), .second, .val (.int shp), .val (.int zk), .val (.ref a), .val (.long p0), .second, .val (.long p1), .second, .val (.long p2), .second, .val (.long p3), .second, .val (.long p4), .second, .val (.int zM), .val (.long last), .second, .val (.long tot), .second, .val (.long at_), .second, .val (.int (Int32.ofNat (own_E M at_ (own_pp p0 p1 p2 p3 p4) 2)))] [])
    exact k
end Own2
set_option maxRecDepth 65536 in
set_option maxHeartbeats 4000000 in
theorem rm_law (l : Launch) (Z : State) (a0 : Array Value) (hw : ∀ d ∈ tables_1, d.before a0 Z = true) (ws : List Jvm.Cond) (base gaps qa : Int64) (shp : Int32) (h0 : Heap) (n0 : Nat) (Z0 : n0 ≤ h0.size) :
    MetQ l Z x code maxLocals ret ws room_1 #[(.long base), (.long gaps), (.long qa), (.int shp)] h0 (fun v _ L => v = some (.int (1 : Int32)) ∧ Fr n0 L) := by
  refine metQ (a0 := a0) (plainFor_of_name pn_law) hw (ef_law base gaps qa shp) ?_
  intro p e s m below meth c T0 C X0 e0
  obtain ⟨hx, hZ, hw, hby, hml, hown, hnm, hret, hlk⟩ := id C
  show WP p e below _ T0 (mkF m 0 #[.val (.long base), .second, .val (.long gaps), .second, .val (.long qa), .second, .val (.int shp), .unset, .unset, .unset, .unset, .unset, .unset, .unset, .unset, .unset, .unset, .unset, .unset, .unset, .unset, .unset, .unset, .unset, .unset, .unset, .unset] [])
  refine wp (fun _ => XS.iload X0.here hx rfl (hb hby at_0) rfl) ?_
  show WP p e below _ T0 (mkF m 2 #[.val (.long base), .second, .val (.long gaps), .second, .val (.long qa), .second, .val (.int shp), .unset, .unset, .unset, .unset, .unset, .unset, .unset, .unset, .unset, .unset, .unset, .unset, .unset, .unset, .unset, .unset, .unset, .unset, .unset, .unset] [(.int shp)])
  refine wp (fun _ => XS.iconst X0.here hx rfl (hb hby at_2)) ?_
  show WP p e below _ T0 (mkF m 3 #[.val (.long base), .second, .val (.long gaps), .second, .val (.long qa), .second, .val (.int shp), .unset, .unset, .unset, .unset, .unset, .unset, .unset, .unset, .unset, .unset, .unset, .unset, .unset, .unset, .unset, .unset, .unset, .unset, .unset, .unset] [(.int (3 : Int32)), (.int shp)])
  refine wp (fun _ => XS.iand X0.here hx rfl (hb hby at_3) rfl) ?_
  show WP p e below _ T0 (mkF m 4 #[.val (.long base), .second, .val (.long gaps), .second, .val (.long qa), .second, .val (.int shp), .unset, .unset, .unset, .unset, .unset, .unset, .unset, .unset, .unset, .unset, .unset, .unset, .unset, .unset, .unset, .unset, .unset, .unset, .unset, .unset] [(.int (shp &&& (3 : Int32)))])
  refine wp (fun _ => XS.istore X0.here hx rfl (hb hby at_4) rfl (l' := #[.val (.long base), .second, .val (.long gaps), .second, .val (.long qa), .second, .val (.int shp), .val (.int (shp &&& (3 : Int32))), .unset, .unset, .unset, .unset, .unset, .unset, .unset, .unset, .unset, .unset, .unset, .unset, .unset, .unset, .unset, .unset, .unset, .unset, .unset]) rfl) ?_
  show WP p e below _ T0 (mkF m 6 #[.val (.long base), .second, .val (.long gaps), .second, .val (.long qa), .second, .val (.int shp), .val (.int (shp &&& (3 : Int32))), .unset, .unset, .unset, .unset, .unset, .unset, .unset, .unset, .unset, .unset, .unset, .unset, .unset, .unset, .unset, .unset, .unset, .unset, .unset] [])
  generalize (shp &&& (3 : Int32)) = zk
  show WP p e below _ T0 (mkF m 6 #[.val (.long base), .second, .val (.long gaps), .second, .val (.long qa), .second, .val (.int shp), .val (.int zk), .unset, .unset, .unset, .unset, .unset, .unset, .unset, .unset, .unset, .unset, .unset, .unset, .unset, .unset, .unset, .unset, .unset, .unset, .unset] [])
  refine segA base gaps qa shp zk C X0 e0 ?_
  intro T1 h1 M hM1 hM4 X1 e1 A1
  obtain ⟨a, ga⟩ : ∃ z, z = h0.size := ⟨_, rfl⟩
  rw [← ga] at A1 ⊢
  have ga' : n0 ≤ a := by rw [ga]; exact Z0
  show WP p e below _ T1 (mkF m 52 #[.val (.long base), .second, .val (.long gaps), .second, .val (.long qa), .second, .val (.int shp), .val (.int zk), .val (.ref a), .unset, .unset, .unset, .unset, .unset, .unset, .unset, .unset, .unset, .unset, .unset, .unset, .unset, .unset, .unset, .unset, .unset, .unset] [])
  refine wp (fun _ => XS.lloadN X1.here hx rfl (hb hby at_52) rfl) ?_
  show WP p e below _ T1 (mkF m 53 #[.val (.long base), .second, .val (.long gaps), .second, .val (.long qa), .second, .val (.int shp), .val (.int zk), .val (.ref a), .unset, .unset, .unset, .unset, .unset, .unset, .unset, .unset, .unset, .unset, .unset, .unset, .unset, .unset, .unset, .unset, .unset, .unset] [(.long base)])
  refine wp_ldc2 C X1 (hw _ (List.mem_of_getElem? (i := 1) rfl)) at_53 ?_
  show WP p e below _ T1 (mkF m 56 #[.val (.long base), .second, .val (.long gaps), .second, .val (.long qa), .second, .val (.int shp), .val (.int zk), .val (.ref a), .unset, .unset, .unset, .unset, .unset, .unset, .unset, .unset, .unset, .unset, .unset, .unset, .unset, .unset, .unset, .unset, .unset, .unset] [(.long (9223372036854513663 : Int64)), (.long base)])
  refine wp_staticP C X1 e1 (argsL := [(.long base), (.long (9223372036854513663 : Int64))]) (rest := []) (rm_min l Z a0 hw [] base (9223372036854513663 : Int64) h1) (hw _ (List.mem_of_getElem? (i := 2) rfl)) (hw _ (List.mem_of_getElem? (i := 3) rfl)) (hw _ (List.mem_of_getElem? (i := 4) rfl)) (hw _ (List.mem_of_getElem? (i := 5) rfl)) (by decide) rfl (lenOf pd_min rfl) at_56 rfl rfl rfl (by decide) (Nat.le_of_ble_eq_true rfl) (by decide) (by decide) ?_
  intro T2 X2 e2
  show WP p e below _ T2 (mkF m 59 #[.val (.long base), .second, .val (.long gaps), .second, .val (.long qa), .second, .val (.int shp), .val (.int zk), .val (.ref a), .unset, .unset, .unset, .unset, .unset, .unset, .unset, .unset, .unset, .unset, .unset, .unset, .unset, .unset, .unset, .unset, .unset, .unset] [(.long (own_min base (9223372036854513663 : Int64)))])
  have b0 : (own_min base (9223372036854513663 : Int64)).toInt ≤ 9223372036854513663 := own_min_le _ _
  generalize own_min base (9223372036854513663 : Int64) = p0 at b0 ⊢
  show WP p e below _ T2 (mkF m 59 #[.val (.long base), .second, .val (.long gaps), .second, .val (.long qa), .second, .val (.int shp), .val (.int zk), .val (.ref a), .unset, .unset, .unset, .unset, .unset, .unset, .unset, .unset, .unset, .unset, .unset, .unset, .unset, .unset, .unset, .unset, .unset, .unset] [(.long p0)])
  refine wp (fun _ => XS.lstore X2.here hx rfl (hb hby at_59) rfl (l' := #[.val (.long base), .second, .val (.long gaps), .second, .val (.long qa), .second, .val (.int shp), .val (.int zk), .val (.ref a), .val (.long p0), .second, .unset, .unset, .unset, .unset, .unset, .unset, .unset, .unset, .unset, .unset, .unset, .unset, .unset, .unset, .unset, .unset]) rfl) ?_
  show WP p e below _ T2 (mkF m 61 #[.val (.long base), .second, .val (.long gaps), .second, .val (.long qa), .second, .val (.int shp), .val (.int zk), .val (.ref a), .val (.long p0), .second, .unset, .unset, .unset, .unset, .unset, .unset, .unset, .unset, .unset, .unset, .unset, .unset, .unset, .unset, .unset, .unset] [])
  refine wp (fun _ => XS.lload X2.here hx rfl (hb hby at_61) rfl) ?_
  show WP p e below _ T2 (mkF m 63 #[.val (.long base), .second, .val (.long gaps), .second, .val (.long qa), .second, .val (.int shp), .val (.int zk), .val (.ref a), .val (.long p0), .second, .unset, .unset, .unset, .unset, .unset, .unset, .unset, .unset, .unset, .unset, .unset, .unset, .unset, .unset, .unset, .unset] [(.long p0)])
  refine wp (fun _ => XS.lloadN X2.here hx rfl (hb hby at_63) rfl) ?_
  show WP p e below _ T2 (mkF m 64 #[.val (.long base), .second, .val (.long gaps), .second, .val (.long qa), .second, .val (.int shp), .val (.int zk), .val (.ref a), .val (.long p0), .second, .unset, .unset, .unset, .unset, .unset, .unset, .unset, .unset, .unset, .unset, .unset, .unset, .unset, .unset, .unset, .unset] [(.long gaps), (.long p0)])
  refine wp_ldc2 C X2 (hw _ (List.mem_of_getElem? (i := 6) rfl)) at_64 ?_
  show WP p e below _ T2 (mkF m 67 #[.val (.long base), .second, .val (.long gaps), .second, .val (.long qa), .second, .val (.int shp), .val (.int zk), .val (.ref a), .val (.long p0), .second, .unset, .unset, .unset, .unset, .unset, .unset, .unset, .unset, .unset, .unset, .unset, .unset, .unset, .unset, .unset, .unset] [(.long (65535 : Int64)), (.long gaps), (.long p0)])
  refine wp (fun _ => XS.land X2.here hx rfl (hb hby at_67) rfl) ?_
  show WP p e below _ T2 (mkF m 68 #[.val (.long base), .second, .val (.long gaps), .second, .val (.long qa), .second, .val (.int shp), .val (.int zk), .val (.ref a), .val (.long p0), .second, .unset, .unset, .unset, .unset, .unset, .unset, .unset, .unset, .unset, .unset, .unset, .unset, .unset, .unset, .unset, .unset] [(.long (gaps &&& (65535 : Int64))), (.long p0)])
  refine wp (fun _ => XS.ladd X2.here hx rfl (hb hby at_68) rfl) ?_
  show WP p e below _ T2 (mkF m 69 #[.val (.long base), .second, .val (.long gaps), .second, .val (.long qa), .second, .val (.int shp), .val (.int zk), .val (.ref a), .val (.long p0), .second, .unset, .unset, .unset, .unset, .unset, .unset, .unset, .unset, .unset, .unset, .unset, .unset, .unset, .unset, .unset, .unset] [(.long (p0 + (gaps &&& (65535 : Int64))))])
  have b1 := own_step p0 gaps (by omega)
  generalize (p0 + (gaps &&& (65535 : Int64))) = p1 at b1 ⊢
  show WP p e below _ T2 (mkF m 69 #[.val (.long base), .second, .val (.long gaps), .second, .val (.long qa), .second, .val (.int shp), .val (.int zk), .val (.ref a), .val (.long p0), .second, .unset, .unset, .unset, .unset, .unset, .unset, .unset, .unset, .unset, .unset, .unset, .unset, .unset, .unset, .unset, .unset] [(.long p1)])
  refine wp (fun _ => XS.lstore X2.here hx rfl (hb hby at_69) rfl (l' := #[.val (.long base), .second, .val (.long gaps), .second, .val (.long qa), .second, .val (.int shp), .val (.int zk), .val (.ref a), .val (.long p0), .second, .val (.long p1), .second, .unset, .unset, .unset, .unset, .unset, .unset, .unset, .unset, .unset, .unset, .unset, .unset, .unset, .unset]) rfl) ?_
  show WP p e below _ T2 (mkF m 71 #[.val (.long base), .second, .val (.long gaps), .second, .val (.long qa), .second, .val (.int shp), .val (.int zk), .val (.ref a), .val (.long p0), .second, .val (.long p1), .second, .unset, .unset, .unset, .unset, .unset, .unset, .unset, .unset, .unset, .unset, .unset, .unset, .unset, .unset] [])
  refine wp (fun _ => XS.lload X2.here hx rfl (hb hby at_71) rfl) ?_
  show WP p e below _ T2 (mkF m 73 #[.val (.long base), .second, .val (.long gaps), .second, .val (.long qa), .second, .val (.int shp), .val (.int zk), .val (.ref a), .val (.long p0), .second, .val (.long p1), .second, .unset, .unset, .unset, .unset, .unset, .unset, .unset, .unset, .unset, .unset, .unset, .unset, .unset, .unset] [(.long p1)])
  refine wp (fun _ => XS.lloadN X2.here hx rfl (hb hby at_73) rfl) ?_
  show WP p e below _ T2 (mkF m 74 #[.val (.long base), .second, .val (.long gaps), .second, .val (.long qa), .second, .val (.int shp), .val (.int zk), .val (.ref a), .val (.long p0), .second, .val (.long p1), .second, .unset, .unset, .unset, .unset, .unset, .unset, .unset, .unset, .unset, .unset, .unset, .unset, .unset, .unset] [(.long gaps), (.long p1)])
  refine wp (fun _ => XS.bipush X2.here hx rfl (hb hby at_74)) ?_
  show WP p e below _ T2 (mkF m 76 #[.val (.long base), .second, .val (.long gaps), .second, .val (.long qa), .second, .val (.int shp), .val (.int zk), .val (.ref a), .val (.long p0), .second, .val (.long p1), .second, .unset, .unset, .unset, .unset, .unset, .unset, .unset, .unset, .unset, .unset, .unset, .unset, .unset, .unset] [(.int (16 : Int32)), (.long gaps), (.long p1)])
  refine wp (fun _ => XS.lushr X2.here hx rfl (hb hby at_76) rfl) ?_
  show WP p e below _ T2 (mkF m 77 #[.val (.long base), .second, .val (.long gaps), .second, .val (.long qa), .second, .val (.int shp), .val (.int zk), .val (.ref a), .val (.long p0), .second, .val (.long p1), .second, .unset, .unset, .unset, .unset, .unset, .unset, .unset, .unset, .unset, .unset, .unset, .unset, .unset, .unset] [(.long ((gaps.toUInt64 >>> ((16 : Int32) &&& 0x3f).toInt64.toUInt64).toInt64)), (.long p1)])
  refine wp_ldc2 C X2 (hw _ (List.mem_of_getElem? (i := 6) rfl)) at_77 ?_
  show WP p e below _ T2 (mkF m 80 #[.val (.long base), .second, .val (.long gaps), .second, .val (.long qa), .second, .val (.int shp), .val (.int zk), .val (.ref a), .val (.long p0), .second, .val (.long p1), .second, .unset, .unset, .unset, .unset, .unset, .unset, .unset, .unset, .unset, .unset, .unset, .unset, .unset, .unset] [(.long (65535 : Int64)), (.long ((gaps.toUInt64 >>> ((16 : Int32) &&& 0x3f).toInt64.toUInt64).toInt64)), (.long p1)])
  refine wp (fun _ => XS.land X2.here hx rfl (hb hby at_80) rfl) ?_
  show WP p e below _ T2 (mkF m 81 #[.val (.long base), .second, .val (.long gaps), .second, .val (.long qa), .second, .val (.int shp), .val (.int zk), .val (.ref a), .val (.long p0), .second, .val (.long p1), .second, .unset, .unset, .unset, .unset, .unset, .unset, .unset, .unset, .unset, .unset, .unset, .unset, .unset, .unset] [(.long (((gaps.toUInt64 >>> ((16 : Int32) &&& 0x3f).toInt64.toUInt64).toInt64) &&& (65535 : Int64))), (.long p1)])
  refine wp (fun _ => XS.ladd X2.here hx rfl (hb hby at_81) rfl) ?_
  show WP p e below _ T2 (mkF m 82 #[.val (.long base), .second, .val (.long gaps), .second, .val (.long qa), .second, .val (.int shp), .val (.int zk), .val (.ref a), .val (.long p0), .second, .val (.long p1), .second, .unset, .unset, .unset, .unset, .unset, .unset, .unset, .unset, .unset, .unset, .unset, .unset, .unset, .unset] [(.long (p1 + (((gaps.toUInt64 >>> ((16 : Int32) &&& 0x3f).toInt64.toUInt64).toInt64) &&& (65535 : Int64))))])
  have b2 := own_step p1 ((gaps.toUInt64 >>> ((16 : Int32) &&& 0x3f).toInt64.toUInt64).toInt64) (by omega)
  generalize (p1 + (((gaps.toUInt64 >>> ((16 : Int32) &&& 0x3f).toInt64.toUInt64).toInt64) &&& (65535 : Int64))) = p2 at b2 ⊢
  show WP p e below _ T2 (mkF m 82 #[.val (.long base), .second, .val (.long gaps), .second, .val (.long qa), .second, .val (.int shp), .val (.int zk), .val (.ref a), .val (.long p0), .second, .val (.long p1), .second, .unset, .unset, .unset, .unset, .unset, .unset, .unset, .unset, .unset, .unset, .unset, .unset, .unset, .unset] [(.long p2)])
  refine wp (fun _ => XS.lstore X2.here hx rfl (hb hby at_82) rfl (l' := #[.val (.long base), .second, .val (.long gaps), .second, .val (.long qa), .second, .val (.int shp), .val (.int zk), .val (.ref a), .val (.long p0), .second, .val (.long p1), .second, .val (.long p2), .second, .unset, .unset, .unset, .unset, .unset, .unset, .unset, .unset, .unset, .unset, .unset, .unset]) rfl) ?_
  show WP p e below _ T2 (mkF m 84 #[.val (.long base), .second, .val (.long gaps), .second, .val (.long qa), .second, .val (.int shp), .val (.int zk), .val (.ref a), .val (.long p0), .second, .val (.long p1), .second, .val (.long p2), .second, .unset, .unset, .unset, .unset, .unset, .unset, .unset, .unset, .unset, .unset, .unset, .unset] [])
  refine wp (fun _ => XS.lload X2.here hx rfl (hb hby at_84) rfl) ?_
  show WP p e below _ T2 (mkF m 86 #[.val (.long base), .second, .val (.long gaps), .second, .val (.long qa), .second, .val (.int shp), .val (.int zk), .val (.ref a), .val (.long p0), .second, .val (.long p1), .second, .val (.long p2), .second, .unset, .unset, .unset, .unset, .unset, .unset, .unset, .unset, .unset, .unset, .unset, .unset] [(.long p2)])
  refine wp (fun _ => XS.lloadN X2.here hx rfl (hb hby at_86) rfl) ?_
  show WP p e below _ T2 (mkF m 87 #[.val (.long base), .second, .val (.long gaps), .second, .val (.long qa), .second, .val (.int shp), .val (.int zk), .val (.ref a), .val (.long p0), .second, .val (.long p1), .second, .val (.long p2), .second, .unset, .unset, .unset, .unset, .unset, .unset, .unset, .unset, .unset, .unset, .unset, .unset] [(.long gaps), (.long p2)])
  refine wp (fun _ => XS.bipush X2.here hx rfl (hb hby at_87)) ?_
  show WP p e below _ T2 (mkF m 89 #[.val (.long base), .second, .val (.long gaps), .second, .val (.long qa), .second, .val (.int shp), .val (.int zk), .val (.ref a), .val (.long p0), .second, .val (.long p1), .second, .val (.long p2), .second, .unset, .unset, .unset, .unset, .unset, .unset, .unset, .unset, .unset, .unset, .unset, .unset] [(.int (32 : Int32)), (.long gaps), (.long p2)])
  refine wp (fun _ => XS.lushr X2.here hx rfl (hb hby at_89) rfl) ?_
  show WP p e below _ T2 (mkF m 90 #[.val (.long base), .second, .val (.long gaps), .second, .val (.long qa), .second, .val (.int shp), .val (.int zk), .val (.ref a), .val (.long p0), .second, .val (.long p1), .second, .val (.long p2), .second, .unset, .unset, .unset, .unset, .unset, .unset, .unset, .unset, .unset, .unset, .unset, .unset] [(.long ((gaps.toUInt64 >>> ((32 : Int32) &&& 0x3f).toInt64.toUInt64).toInt64)), (.long p2)])
  refine wp_ldc2 C X2 (hw _ (List.mem_of_getElem? (i := 6) rfl)) at_90 ?_
  show WP p e below _ T2 (mkF m 93 #[.val (.long base), .second, .val (.long gaps), .second, .val (.long qa), .second, .val (.int shp), .val (.int zk), .val (.ref a), .val (.long p0), .second, .val (.long p1), .second, .val (.long p2), .second, .unset, .unset, .unset, .unset, .unset, .unset, .unset, .unset, .unset, .unset, .unset, .unset] [(.long (65535 : Int64)), (.long ((gaps.toUInt64 >>> ((32 : Int32) &&& 0x3f).toInt64.toUInt64).toInt64)), (.long p2)])
  refine wp (fun _ => XS.land X2.here hx rfl (hb hby at_93) rfl) ?_
  show WP p e below _ T2 (mkF m 94 #[.val (.long base), .second, .val (.long gaps), .second, .val (.long qa), .second, .val (.int shp), .val (.int zk), .val (.ref a), .val (.long p0), .second, .val (.long p1), .second, .val (.long p2), .second, .unset, .unset, .unset, .unset, .unset, .unset, .unset, .unset, .unset, .unset, .unset, .unset] [(.long (((gaps.toUInt64 >>> ((32 : Int32) &&& 0x3f).toInt64.toUInt64).toInt64) &&& (65535 : Int64))), (.long p2)])
  refine wp (fun _ => XS.ladd X2.here hx rfl (hb hby at_94) rfl) ?_
  show WP p e below _ T2 (mkF m 95 #[.val (.long base), .second, .val (.long gaps), .second, .val (.long qa), .second, .val (.int shp), .val (.int zk), .val (.ref a), .val (.long p0), .second, .val (.long p1), .second, .val (.long p2), .second, .unset, .unset, .unset, .unset, .unset, .unset, .unset, .unset, .unset, .unset, .unset, .unset] [(.long (p2 + (((gaps.toUInt64 >>> ((32 : Int32) &&& 0x3f).toInt64.toUInt64).toInt64) &&& (65535 : Int64))))])
  have b3 := own_step p2 ((gaps.toUInt64 >>> ((32 : Int32) &&& 0x3f).toInt64.toUInt64).toInt64) (by omega)
  generalize (p2 + (((gaps.toUInt64 >>> ((32 : Int32) &&& 0x3f).toInt64.toUInt64).toInt64) &&& (65535 : Int64))) = p3 at b3 ⊢
  show WP p e below _ T2 (mkF m 95 #[.val (.long base), .second, .val (.long gaps), .second, .val (.long qa), .second, .val (.int shp), .val (.int zk), .val (.ref a), .val (.long p0), .second, .val (.long p1), .second, .val (.long p2), .second, .unset, .unset, .unset, .unset, .unset, .unset, .unset, .unset, .unset, .unset, .unset, .unset] [(.long p3)])
  refine wp (fun _ => XS.lstore X2.here hx rfl (hb hby at_95) rfl (l' := #[.val (.long base), .second, .val (.long gaps), .second, .val (.long qa), .second, .val (.int shp), .val (.int zk), .val (.ref a), .val (.long p0), .second, .val (.long p1), .second, .val (.long p2), .second, .val (.long p3), .second, .unset, .unset, .unset, .unset, .unset, .unset, .unset, .unset, .unset, .unset]) rfl) ?_
  show WP p e below _ T2 (mkF m 97 #[.val (.long base), .second, .val (.long gaps), .second, .val (.long qa), .second, .val (.int shp), .val (.int zk), .val (.ref a), .val (.long p0), .second, .val (.long p1), .second, .val (.long p2), .second, .val (.long p3), .second, .unset, .unset, .unset, .unset, .unset, .unset, .unset, .unset, .unset, .unset] [])
  refine wp (fun _ => XS.lload X2.here hx rfl (hb hby at_97) rfl) ?_
  show WP p e below _ T2 (mkF m 99 #[.val (.long base), .second, .val (.long gaps), .second, .val (.long qa), .second, .val (.int shp), .val (.int zk), .val (.ref a), .val (.long p0), .second, .val (.long p1), .second, .val (.long p2), .second, .val (.long p3), .second, .unset, .unset, .unset, .unset, .unset, .unset, .unset, .unset, .unset, .unset] [(.long p3)])
  refine wp (fun _ => XS.lloadN X2.here hx rfl (hb hby at_99) rfl) ?_
  show WP p e below _ T2 (mkF m 100 #[.val (.long base), .second, .val (.long gaps), .second, .val (.long qa), .second, .val (.int shp), .val (.int zk), .val (.ref a), .val (.long p0), .second, .val (.long p1), .second, .val (.long p2), .second, .val (.long p3), .second, .unset, .unset, .unset, .unset, .unset, .unset, .unset, .unset, .unset, .unset] [(.long gaps), (.long p3)])
  refine wp (fun _ => XS.bipush X2.here hx rfl (hb hby at_100)) ?_
  show WP p e below _ T2 (mkF m 102 #[.val (.long base), .second, .val (.long gaps), .second, .val (.long qa), .second, .val (.int shp), .val (.int zk), .val (.ref a), .val (.long p0), .second, .val (.long p1), .second, .val (.long p2), .second, .val (.long p3), .second, .unset, .unset, .unset, .unset, .unset, .unset, .unset, .unset, .unset, .unset] [(.int (48 : Int32)), (.long gaps), (.long p3)])
  refine wp (fun _ => XS.lushr X2.here hx rfl (hb hby at_102) rfl) ?_
  show WP p e below _ T2 (mkF m 103 #[.val (.long base), .second, .val (.long gaps), .second, .val (.long qa), .second, .val (.int shp), .val (.int zk), .val (.ref a), .val (.long p0), .second, .val (.long p1), .second, .val (.long p2), .second, .val (.long p3), .second, .unset, .unset, .unset, .unset, .unset, .unset, .unset, .unset, .unset, .unset] [(.long ((gaps.toUInt64 >>> ((48 : Int32) &&& 0x3f).toInt64.toUInt64).toInt64)), (.long p3)])
  refine wp_ldc2 C X2 (hw _ (List.mem_of_getElem? (i := 6) rfl)) at_103 ?_
  show WP p e below _ T2 (mkF m 106 #[.val (.long base), .second, .val (.long gaps), .second, .val (.long qa), .second, .val (.int shp), .val (.int zk), .val (.ref a), .val (.long p0), .second, .val (.long p1), .second, .val (.long p2), .second, .val (.long p3), .second, .unset, .unset, .unset, .unset, .unset, .unset, .unset, .unset, .unset, .unset] [(.long (65535 : Int64)), (.long ((gaps.toUInt64 >>> ((48 : Int32) &&& 0x3f).toInt64.toUInt64).toInt64)), (.long p3)])
  refine wp (fun _ => XS.land X2.here hx rfl (hb hby at_106) rfl) ?_
  show WP p e below _ T2 (mkF m 107 #[.val (.long base), .second, .val (.long gaps), .second, .val (.long qa), .second, .val (.int shp), .val (.int zk), .val (.ref a), .val (.long p0), .second, .val (.long p1), .second, .val (.long p2), .second, .val (.long p3), .second, .unset, .unset, .unset, .unset, .unset, .unset, .unset, .unset, .unset, .unset] [(.long (((gaps.toUInt64 >>> ((48 : Int32) &&& 0x3f).toInt64.toUInt64).toInt64) &&& (65535 : Int64))), (.long p3)])
  refine wp (fun _ => XS.ladd X2.here hx rfl (hb hby at_107) rfl) ?_
  show WP p e below _ T2 (mkF m 108 #[.val (.long base), .second, .val (.long gaps), .second, .val (.long qa), .second, .val (.int shp), .val (.int zk), .val (.ref a), .val (.long p0), .second, .val (.long p1), .second, .val (.long p2), .second, .val (.long p3), .second, .unset, .unset, .unset, .unset, .unset, .unset, .unset, .unset, .unset, .unset] [(.long (p3 + (((gaps.toUInt64 >>> ((48 : Int32) &&& 0x3f).toInt64.toUInt64).toInt64) &&& (65535 : Int64))))])
  have b4 := own_step p3 ((gaps.toUInt64 >>> ((48 : Int32) &&& 0x3f).toInt64.toUInt64).toInt64) (by omega)
  generalize (p3 + (((gaps.toUInt64 >>> ((48 : Int32) &&& 0x3f).toInt64.toUInt64).toInt64) &&& (65535 : Int64))) = p4 at b4 ⊢
  show WP p e below _ T2 (mkF m 108 #[.val (.long base), .second, .val (.long gaps), .second, .val (.long qa), .second, .val (.int shp), .val (.int zk), .val (.ref a), .val (.long p0), .second, .val (.long p1), .second, .val (.long p2), .second, .val (.long p3), .second, .unset, .unset, .unset, .unset, .unset, .unset, .unset, .unset, .unset, .unset] [(.long p4)])
  refine wp (fun _ => XS.lstore X2.here hx rfl (hb hby at_108) rfl (l' := #[.val (.long base), .second, .val (.long gaps), .second, .val (.long qa), .second, .val (.int shp), .val (.int zk), .val (.ref a), .val (.long p0), .second, .val (.long p1), .second, .val (.long p2), .second, .val (.long p3), .second, .val (.long p4), .second, .unset, .unset, .unset, .unset, .unset, .unset, .unset, .unset]) rfl) ?_
  show WP p e below _ T2 (mkF m 110 #[.val (.long base), .second, .val (.long gaps), .second, .val (.long qa), .second, .val (.int shp), .val (.int zk), .val (.ref a), .val (.long p0), .second, .val (.long p1), .second, .val (.long p2), .second, .val (.long p3), .second, .val (.long p4), .second, .unset, .unset, .unset, .unset, .unset, .unset, .unset, .unset] [])
  refine segS0 base gaps qa shp zk a p0 p1 p2 p3 p4 M n0 hM1 hM4 ga' A1 (Fr.nil n0) C X2 e2 ?_
  intro T3 h3 L3 X3 e3 N3 A3
  refine segS2 base gaps qa shp zk a p0 p1 p2 p3 p4 M n0 hM1 hM4 ga' A3 N3 C X3 e3 ?_
  intro T4 h4 L4 X4 e4 N4 A4
  refine segS3 base gaps qa shp zk a p0 p1 p2 p3 p4 M n0 hM1 hM4 ga' A4 N4 C X4 e4 ?_
  intro T5 h5 L5 X5 e5 N5 A5
  refine segS4 base gaps qa shp zk a p0 p1 p2 p3 p4 M n0 hM1 hM4 ga' A5 N5 C X5 e5 ?_
  intro T6 h6 L6 X6 e6 N6 A6
  have A : Af Z h6 a .long (M + 1) (fun j => .long (own_pp p0 p1 p2 p3 p4 j)) := A6.conv fun j hj => by rw [if_pos (by omega)]
  have hz : (Int32.ofNat (M + 1)).toInt = ((M + 1 : Nat) : Int) := Int32.toInt_ofNat_of_lt (by omega)
  show WP p e below _ T6 (mkF m 161 #[.val (.long base), .second, .val (.long gaps), .second, .val (.long qa), .second, .val (.int shp), .val (.int zk), .val (.ref a), .val (.long p0), .second, .val (.long p1), .second, .val (.long p2), .second, .val (.long p3), .second, .val (.long p4), .second, .unset, .unset, .unset, .unset, .unset, .unset, .unset, .unset] [])
  refine wp (fun _ => XS.aload X6.here hx rfl (hb hby at_161) rfl rfl) ?_
  show WP p e below _ T6 (mkF m 163 #[.val (.long base), .second, .val (.long gaps), .second, .val (.long qa), .second, .val (.int shp), .val (.int zk), .val (.ref a), .val (.long p0), .second, .val (.long p1), .second, .val (.long p2), .second, .val (.long p3), .second, .val (.long p4), .second, .unset, .unset, .unset, .unset, .unset, .unset, .unset, .unset] [(.ref a)])
  refine wp_arraylength C X6 e6 A at_163 ?_
  show WP p e below _ T6 (mkF m 164 #[.val (.long base), .second, .val (.long gaps), .second, .val (.long qa), .second, .val (.int shp), .val (.int zk), .val (.ref a), .val (.long p0), .second, .val (.long p1), .second, .val (.long p2), .second, .val (.long p3), .second, .val (.long p4), .second, .unset, .unset, .unset, .unset, .unset, .unset, .unset, .unset] [(.int (Int32.ofNat (M + 1)))])
  refine wp (fun _ => XS.iconst X6.here hx rfl (hb hby at_164)) ?_
  show WP p e below _ T6 (mkF m 165 #[.val (.long base), .second, .val (.long gaps), .second, .val (.long qa), .second, .val (.int shp), .val (.int zk), .val (.ref a), .val (.long p0), .second, .val (.long p1), .second, .val (.long p2), .second, .val (.long p3), .second, .val (.long p4), .second, .unset, .unset, .unset, .unset, .unset, .unset, .unset, .unset] [(.int (1 : Int32)), (.int (Int32.ofNat (M + 1)))])
  refine wp (fun _ => XS.isub X6.here hx rfl (hb hby at_165) rfl) ?_
  show WP p e below _ T6 (mkF m 166 #[.val (.long base), .second, .val (.long gaps), .second, .val (.long qa), .second, .val (.int shp), .val (.int zk), .val (.ref a), .val (.long p0), .second, .val (.long p1), .second, .val (.long p2), .second, .val (.long p3), .second, .val (.long p4), .second, .unset, .unset, .unset, .unset, .unset, .unset, .unset, .unset] [(.int ((Int32.ofNat (M + 1)) - (1 : Int32)))])
  have hM : (Int32.ofNat (M + 1) - (1 : Int32)).toInt = (M : Int) := own_subk (k := 1) hz rfl (by omega) (by omega)
  generalize Int32.ofNat (M + 1) - (1 : Int32) = zM at hM ⊢
  show WP p e below _ T6 (mkF m 166 #[.val (.long base), .second, .val (.long gaps), .second, .val (.long qa), .second, .val (.int shp), .val (.int zk), .val (.ref a), .val (.long p0), .second, .val (.long p1), .second, .val (.long p2), .second, .val (.long p3), .second, .val (.long p4), .second, .unset, .unset, .unset, .unset, .unset, .unset, .unset, .unset] [(.int zM)])
  refine wp (fun _ => XS.istore X6.here hx rfl (hb hby at_166) rfl (l' := #[.val (.long base), .second, .val (.long gaps), .second, .val (.long qa), .second, .val (.int shp), .val (.int zk), .val (.ref a), .val (.long p0), .second, .val (.long p1), .second, .val (.long p2), .second, .val (.long p3), .second, .val (.long p4), .second, .val (.int zM), .unset, .unset, .unset, .unset, .unset, .unset, .unset]) rfl) ?_
  show WP p e below _ T6 (mkF m 168 #[.val (.long base), .second, .val (.long gaps), .second, .val (.long qa), .second, .val (.int shp), .val (.int zk), .val (.ref a), .val (.long p0), .second, .val (.long p1), .second, .val (.long p2), .second, .val (.long p3), .second, .val (.long p4), .second, .val (.int zM), .unset, .unset, .unset, .unset, .unset, .unset, .unset] [])
  refine wp (fun _ => XS.aload X6.here hx rfl (hb hby at_168) rfl rfl) ?_
  show WP p e below _ T6 (mkF m 170 #[.val (.long base), .second, .val (.long gaps), .second, .val (.long qa), .second, .val (.int shp), .val (.int zk), .val (.ref a), .val (.long p0), .second, .val (.long p1), .second, .val (.long p2), .second, .val (.long p3), .second, .val (.long p4), .second, .val (.int zM), .unset, .unset, .unset, .unset, .unset, .unset, .unset] [(.ref a)])
  refine wp (fun _ => XS.iload X6.here hx rfl (hb hby at_170) rfl) ?_
  show WP p e below _ T6 (mkF m 172 #[.val (.long base), .second, .val (.long gaps), .second, .val (.long qa), .second, .val (.int shp), .val (.int zk), .val (.ref a), .val (.long p0), .second, .val (.long p1), .second, .val (.long p2), .second, .val (.long p3), .second, .val (.long p4), .second, .val (.int zM), .unset, .unset, .unset, .unset, .unset, .unset, .unset] [(.int zM), (.ref a)])
  refine wp_laload C X6 e6 A hM (by omega) rfl at_172 ?_
  show WP p e below _ T6 (mkF m 173 #[.val (.long base), .second, .val (.long gaps), .second, .val (.long qa), .second, .val (.int shp), .val (.int zk), .val (.ref a), .val (.long p0), .second, .val (.long p1), .second, .val (.long p2), .second, .val (.long p3), .second, .val (.long p4), .second, .val (.int zM), .unset, .unset, .unset, .unset, .unset, .unset, .unset] [(.long (own_pp p0 p1 p2 p3 p4 M))])
  have hlast : p0.toInt ≤ (own_pp p0 p1 p2 p3 p4 M).toInt ∧ (own_pp p0 p1 p2 p3 p4 M).toInt ≤ p0.toInt + 262140 := by
    have hM5 : M = 1 ∨ M = 2 ∨ M = 3 ∨ M = 4 := by omega
    rcases hM5 with rfl | rfl | rfl | rfl <;> simp only [own_pp] <;> simp <;> omega
  generalize own_pp p0 p1 p2 p3 p4 M = last at hlast ⊢
  show WP p e below _ T6 (mkF m 173 #[.val (.long base), .second, .val (.long gaps), .second, .val (.long qa), .second, .val (.int shp), .val (.int zk), .val (.ref a), .val (.long p0), .second, .val (.long p1), .second, .val (.long p2), .second, .val (.long p3), .second, .val (.long p4), .second, .val (.int zM), .unset, .unset, .unset, .unset, .unset, .unset, .unset] [(.long last)])
  refine wp (fun _ => XS.lstore X6.here hx rfl (hb hby at_173) rfl (l' := #[.val (.long base), .second, .val (.long gaps), .second, .val (.long qa), .second, .val (.int shp), .val (.int zk), .val (.ref a), .val (.long p0), .second, .val (.long p1), .second, .val (.long p2), .second, .val (.long p3), .second, .val (.long p4), .second, .val (.int zM), .val (.long last), .second, .unset, .unset, .unset, .unset, .unset]) rfl) ?_
  show WP p e below _ T6 (mkF m 175 #[.val (.long base), .second, .val (.long gaps), .second, .val (.long qa), .second, .val (.int shp), .val (.int zk), .val (.ref a), .val (.long p0), .second, .val (.long p1), .second, .val (.long p2), .second, .val (.long p3), .second, .val (.long p4), .second, .val (.int zM), .val (.long last), .second, .unset, .unset, .unset, .unset, .unset] [])
  refine wp (fun _ => XS.lload X6.here hx rfl (hb hby at_175) rfl) ?_
  show WP p e below _ T6 (mkF m 177 #[.val (.long base), .second, .val (.long gaps), .second, .val (.long qa), .second, .val (.int shp), .val (.int zk), .val (.ref a), .val (.long p0), .second, .val (.long p1), .second, .val (.long p2), .second, .val (.long p3), .second, .val (.long p4), .second, .val (.int zM), .val (.long last), .second, .unset, .unset, .unset, .unset, .unset] [(.long last)])
  refine wp (fun _ => XS.lload X6.here hx rfl (hb hby at_177) rfl) ?_
  show WP p e below _ T6 (mkF m 179 #[.val (.long base), .second, .val (.long gaps), .second, .val (.long qa), .second, .val (.int shp), .val (.int zk), .val (.ref a), .val (.long p0), .second, .val (.long p1), .second, .val (.long p2), .second, .val (.long p3), .second, .val (.long p4), .second, .val (.int zM), .val (.long last), .second, .unset, .unset, .unset, .unset, .unset] [(.long p0), (.long last)])
  refine wp (fun _ => XS.lsub X6.here hx rfl (hb hby at_179) rfl) ?_
  show WP p e below _ T6 (mkF m 180 #[.val (.long base), .second, .val (.long gaps), .second, .val (.long qa), .second, .val (.int shp), .val (.int zk), .val (.ref a), .val (.long p0), .second, .val (.long p1), .second, .val (.long p2), .second, .val (.long p3), .second, .val (.long p4), .second, .val (.int zM), .val (.long last), .second, .unset, .unset, .unset, .unset, .unset] [(.long (last - p0))])
  have htot : (last - p0).toInt ≤ 262144 := by
    have q1 := c_lsub last p0
    have q2 := rng64 (last - p0)
    omega
  generalize last - p0 = tot at htot ⊢
  show WP p e below _ T6 (mkF m 180 #[.val (.long base), .second, .val (.long gaps), .second, .val (.long qa), .second, .val (.int shp), .val (.int zk), .val (.ref a), .val (.long p0), .second, .val (.long p1), .second, .val (.long p2), .second, .val (.long p3), .second, .val (.long p4), .second, .val (.int zM), .val (.long last), .second, .unset, .unset, .unset, .unset, .unset] [(.long tot)])
  refine wp (fun _ => XS.lstore X6.here hx rfl (hb hby at_180) rfl (l' := #[.val (.long base), .second, .val (.long gaps), .second, .val (.long qa), .second, .val (.int shp), .val (.int zk), .val (.ref a), .val (.long p0), .second, .val (.long p1), .second, .val (.long p2), .second, .val (.long p3), .second, .val (.long p4), .second, .val (.int zM), .val (.long last), .second, .val (.long tot), .second, .unset, .unset, .unset]) rfl) ?_
  show WP p e below _ T6 (mkF m 182 #[.val (.long base), .second, .val (.long gaps), .second, .val (.long qa), .second, .val (.int shp), .val (.int zk), .val (.ref a), .val (.long p0), .second, .val (.long p1), .second, .val (.long p2), .second, .val (.long p3), .second, .val (.long p4), .second, .val (.int zM), .val (.long last), .second, .val (.long tot), .second, .unset, .unset, .unset] [])
  refine wp (fun _ => XS.lload X6.here hx rfl (hb hby at_182) rfl) ?_
  show WP p e below _ T6 (mkF m 184 #[.val (.long base), .second, .val (.long gaps), .second, .val (.long qa), .second, .val (.int shp), .val (.int zk), .val (.ref a), .val (.long p0), .second, .val (.long p1), .second, .val (.long p2), .second, .val (.long p3), .second, .val (.long p4), .second, .val (.int zM), .val (.long last), .second, .val (.long tot), .second, .unset, .unset, .unset] [(.long tot)])
  refine wp (fun _ => XS.lconst X6.here hx rfl (hb hby at_184)) ?_
  show WP p e below _ T6 (mkF m 185 #[.val (.long base), .second, .val (.long gaps), .second, .val (.long qa), .second, .val (.int shp), .val (.int zk), .val (.ref a), .val (.long p0), .second, .val (.long p1), .second, .val (.long p2), .second, .val (.long p3), .second, .val (.long p4), .second, .val (.int zM), .val (.long last), .second, .val (.long tot), .second, .unset, .unset, .unset] [(.long (0 : Int64)), (.long tot)])
  refine wp (fun _ => XT.lcmp X6.here hx rfl (hb hby at_185) rfl) ?_
  show WP p e below _ T6 (mkF m 186 #[.val (.long base), .second, .val (.long gaps), .second, .val (.long qa), .second, .val (.int shp), .val (.int zk), .val (.ref a), .val (.long p0), .second, .val (.long p1), .second, .val (.long p2), .second, .val (.long p3), .second, .val (.long p4), .second, .val (.int zM), .val (.long last), .second, .val (.long tot), .second, .unset, .unset, .unset] [(.int (XT.cmpL tot (0 : Int64)))])
  by_cases ht : (0 : Int64) < tot
  · rw [Int64.lt_iff_toInt_lt] at ht
    have ht' : 0 < tot.toInt := ht
    refine wp (fun _ => XS.ifYes X6.here hx rfl (pc0 := 186) (pc' := 191) rfl (hb hby at_186) rfl (XT.ll_gt_t (Int64.lt_iff_toInt_lt.mpr ht)) (by decide) (by decide)) ?_
    show WP p e below _ T6 (mkF m 191 #[.val (.long base), .second, .val (.long gaps), .second, .val (.long qa), .second, .val (.int shp), .val (.int zk), .val (.ref a), .val (.long p0), .second, .val (.long p1), .second, .val (.long p2), .second, .val (.long p3), .second, .val (.long p4), .second, .val (.int zM), .val (.long last), .second, .val (.long tot), .second, .unset, .unset, .unset] [])
    refine wp (fun _ => XS.lload X6.here hx rfl (hb hby at_191) rfl) ?_
    show WP p e below _ T6 (mkF m 193 #[.val (.long base), .second, .val (.long gaps), .second, .val (.long qa), .second, .val (.int shp), .val (.int zk), .val (.ref a), .val (.long p0), .second, .val (.long p1), .second, .val (.long p2), .second, .val (.long p3), .second, .val (.long p4), .second, .val (.int zM), .val (.long last), .second, .val (.long tot), .second, .unset, .unset, .unset] [(.long p0)])
    refine wp (fun _ => XS.lload X6.here hx rfl (hb hby at_193) rfl) ?_
    show WP p e below _ T6 (mkF m 195 #[.val (.long base), .second, .val (.long gaps), .second, .val (.long qa), .second, .val (.int shp), .val (.int zk), .val (.ref a), .val (.long p0), .second, .val (.long p1), .second, .val (.long p2), .second, .val (.long p3), .second, .val (.long p4), .second, .val (.int zM), .val (.long last), .second, .val (.long tot), .second, .unset, .unset, .unset] [(.long qa), (.long p0)])
    refine wp_ldc2 C X6 (hw _ (List.mem_of_getElem? (i := 7) rfl)) at_195 ?_
    show WP p e below _ T6 (mkF m 198 #[.val (.long base), .second, .val (.long gaps), .second, .val (.long qa), .second, .val (.int shp), .val (.int zk), .val (.ref a), .val (.long p0), .second, .val (.long p1), .second, .val (.long p2), .second, .val (.long p3), .second, .val (.long p4), .second, .val (.int zM), .val (.long last), .second, .val (.long tot), .second, .unset, .unset, .unset] [(.long (9223372036854775807 : Int64)), (.long qa), (.long p0)])
    refine wp (fun _ => XS.land X6.here hx rfl (hb hby at_198) rfl) ?_
    show WP p e below _ T6 (mkF m 199 #[.val (.long base), .second, .val (.long gaps), .second, .val (.long qa), .second, .val (.int shp), .val (.int zk), .val (.ref a), .val (.long p0), .second, .val (.long p1), .second, .val (.long p2), .second, .val (.long p3), .second, .val (.long p4), .second, .val (.int zM), .val (.long last), .second, .val (.long tot), .second, .unset, .unset, .unset] [(.long (qa &&& (9223372036854775807 : Int64))), (.long p0)])
    refine wp (fun _ => XS.lload X6.here hx rfl (hb hby at_199) rfl) ?_
    show WP p e below _ T6 (mkF m 201 #[.val (.long base), .second, .val (.long gaps), .second, .val (.long qa), .second, .val (.int shp), .val (.int zk), .val (.ref a), .val (.long p0), .second, .val (.long p1), .second, .val (.long p2), .second, .val (.long p3), .second, .val (.long p4), .second, .val (.int zM), .val (.long last), .second, .val (.long tot), .second, .unset, .unset, .unset] [(.long tot), (.long (qa &&& (9223372036854775807 : Int64))), (.long p0)])
    refine wp (fun _ => XS.lrem X6.here hx rfl (hb hby at_201) rfl (fun q => by rw [q] at ht'; exact absurd ht' (by decide))) ?_
    show WP p e below _ T6 (mkF m 202 #[.val (.long base), .second, .val (.long gaps), .second, .val (.long qa), .second, .val (.int shp), .val (.int zk), .val (.ref a), .val (.long p0), .second, .val (.long p1), .second, .val (.long p2), .second, .val (.long p3), .second, .val (.long p4), .second, .val (.int zM), .val (.long last), .second, .val (.long tot), .second, .unset, .unset, .unset] [(.long ((qa &&& (9223372036854775807 : Int64)) - ((qa &&& (9223372036854775807 : Int64)) / tot) * tot)), (.long p0)])
    refine wp (fun _ => XS.ladd X6.here hx rfl (hb hby at_202) rfl) ?_
    show WP p e below _ T6 (mkF m 203 #[.val (.long base), .second, .val (.long gaps), .second, .val (.long qa), .second, .val (.int shp), .val (.int zk), .val (.ref a), .val (.long p0), .second, .val (.long p1), .second, .val (.long p2), .second, .val (.long p3), .second, .val (.long p4), .second, .val (.int zM), .val (.long last), .second, .val (.long tot), .second, .unset, .unset, .unset] [(.long (p0 + ((qa &&& (9223372036854775807 : Int64)) - ((qa &&& (9223372036854775807 : Int64)) / tot) * tot)))])
    have hat := own_at p0 tot qa b0 ht' htot
    generalize (p0 + ((qa &&& (9223372036854775807 : Int64)) - ((qa &&& (9223372036854775807 : Int64)) / tot) * tot)) = at_ at hat ⊢
    show WP p e below _ T6 (mkF m 203 #[.val (.long base), .second, .val (.long gaps), .second, .val (.long qa), .second, .val (.int shp), .val (.int zk), .val (.ref a), .val (.long p0), .second, .val (.long p1), .second, .val (.long p2), .second, .val (.long p3), .second, .val (.long p4), .second, .val (.int zM), .val (.long last), .second, .val (.long tot), .second, .unset, .unset, .unset] [(.long at_)])
    refine wp (fun _ => XS.lstore X6.here hx rfl (hb hby at_203) rfl (l' := #[.val (.long base), .second, .val (.long gaps), .second, .val (.long qa), .second, .val (.int shp), .val (.int zk), .val (.ref a), .val (.long p0), .second, .val (.long p1), .second, .val (.long p2), .second, .val (.long p3), .second, .val (.long p4), .second, .val (.int zM), .val (.long last), .second, .val (.long tot), .second, .val (.long at_), .second, .unset]) rfl) ?_
    show WP p e below _ T6 (mkF m 205 #[.val (.long base), .second, .val (.long gaps), .second, .val (.long qa), .second, .val (.int shp), .val (.int zk), .val (.ref a), .val (.long p0), .second, .val (.long p1), .second, .val (.long p2), .second, .val (.long p3), .second, .val (.long p4), .second, .val (.int zM), .val (.long last), .second, .val (.long tot), .second, .val (.long at_), .second, .unset] [])
    refine wp (fun _ => XS.iconst X6.here hx rfl (hb hby at_205)) ?_
    show WP p e below _ T6 (mkF m 206 #[.val (.long base), .second, .val (.long gaps), .second, .val (.long qa), .second, .val (.int shp), .val (.int zk), .val (.ref a), .val (.long p0), .second, .val (.long p1), .second, .val (.long p2), .second, .val (.long p3), .second, .val (.long p4), .second, .val (.int zM), .val (.long last), .second, .val (.long tot), .second, .val (.long at_), .second, .unset] [(.int (0 : Int32))])
    refine wp (fun _ => XS.istore X6.here hx rfl (hb hby at_206) rfl (l' := #[.val (.long base), .second, .val (.long gaps), .second, .val (.long qa), .second, .val (.int shp), .val (.int zk), .val (.ref a), .val (.long p0), .second, .val (.long p1), .second, .val (.long p2), .second, .val (.long p3), .second, .val (.long p4), .second, .val (.int zM), .val (.long last), .second, .val (.long tot), .second, .val (.long at_), .second, .val (.int (0 : Int32))]) rfl) ?_
    show WP p e below _ T6 (mkF m 208 #[.val (.long base), .second, .val (.long gaps), .second, .val (.long qa), .second, .val (.int shp), .val (.int zk), .val (.ref a), .val (.long p0), .second, .val (.long p1), .second, .val (.long p2), .second, .val (.long p3), .second, .val (.long p4), .second, .val (.int zM), .val (.long last), .second, .val (.long tot), .second, .val (.long at_), .second, .val (.int (0 : Int32))] [])
    show WP p e below _ T6 (mkF m 208 #[.val (.long base), .second, .val (.long gaps), .second, .val (.long qa), .second, .val (.int shp), .val (.int zk), .val (.ref a), .val (.long p0), .second, .val (.long p1), .second, .val (.long p2), .second, .val (.long p3), .second, .val (.long p4), .second, .val (.int zM), .val (.long last), .second, .val (.long tot), .second, .val (.long at_), .second, .val (.int (Int32.ofNat (own_E M at_ (own_pp p0 p1 p2 p3 p4) 0)))] [])
    refine segE1 base gaps qa shp zk a p0 p1 p2 p3 p4 zM last tot at_ M hM C X6 ?_
    refine segE2 base gaps qa shp zk a p0 p1 p2 p3 p4 zM last tot at_ M hM C X6 ?_
    refine segE3 base gaps qa shp zk a p0 p1 p2 p3 p4 zM last tot at_ M hM C X6 ?_
    show WP p e below _ T6 (mkF m 268 #[.val (.long base), .second, .val (.long gaps), .second, .val (.long qa), .second, .val (.int shp), .val (.int zk), .val (.ref a), .val (.long p0), .second, .val (.long p1), .second, .val (.long p2), .second, .val (.long p3), .second, .val (.long p4), .second, .val (.int zM), .val (.long last), .second, .val (.long tot), .second, .val (.long at_), .second, .val (.int (Int32.ofNat (own_E M at_ (own_pp p0 p1 p2 p3 p4) 3)))] [])
    refine wp (fun _ => XS.aload X6.here hx rfl (hb hby at_268) rfl rfl) ?_
    show WP p e below _ T6 (mkF m 270 #[.val (.long base), .second, .val (.long gaps), .second, .val (.long qa), .second, .val (.int shp), .val (.int zk), .val (.ref a), .val (.long p0), .second, .val (.long p1), .second, .val (.long p2), .second, .val (.long p3), .second, .val (.long p4), .second, .val (.int zM), .val (.long last), .second, .val (.long tot), .second, .val (.long at_), .second, .val (.int (Int32.ofNat (own_E M at_ (own_pp p0 p1 p2 p3 p4) 3)))] [(.ref a)])
    refine wp (fun _ => XS.lload X6.here hx rfl (hb hby at_270) rfl) ?_
    show WP p e below _ T6 (mkF m 272 #[.val (.long base), .second, .val (.long gaps), .second, .val (.long qa), .second, .val (.int shp), .val (.int zk), .val (.ref a), .val (.long p0), .second, .val (.long p1), .second, .val (.long p2), .second, .val (.long p3), .second, .val (.long p4), .second, .val (.int zM), .val (.long last), .second, .val (.long tot), .second, .val (.long at_), .second, .val (.int (Int32.ofNat (own_E M at_ (own_pp p0 p1 p2 p3 p4) 3)))] [(.long at_), (.ref a)])
    obtain ⟨q1, q2, q3⟩ := own_E_spec M at_ (own_pp p0 p1 p2 p3 p4) hM1 hM4 hat b1.1 b2.1 b3.1
    generalize own_E M at_ (own_pp p0 p1 p2 p3 p4) 3 = E at q1 q2 q3 ⊢
    refine wp_static C X6 e6 (argsL := [(.ref a), (.long at_)]) (rest := []) (rm_lsb l Z a0 hw [] a at_ M E (own_pp p0 p1 p2 p3 p4) h6 hM1 hM4 q1 q2 q3 A) (hw _ (List.mem_of_getElem? (i := 8) rfl)) (hw _ (List.mem_of_getElem? (i := 9) rfl)) (hw _ (List.mem_of_getElem? (i := 10) rfl)) (hw _ (List.mem_of_getElem? (i := 11) rfl)) (by decide) rfl (lenOf pd_lsb rfl) at_272 rfl (by decide) (Nat.le_of_ble_eq_true rfl) (by decide) (by decide) ?_
    rintro T7 _ L7 X7 ⟨zE, rfl, hE, e7, rfl⟩
    show WP p e below _ T7 (mkF m 275 #[.val (.long base), .second, .val (.long gaps), .second, .val (.long qa), .second, .val (.int shp), .val (.int zk), .val (.ref a), .val (.long p0), .second, .val (.long p1), .second, .val (.long p2), .second, .val (.long p3), .second, .val (.long p4), .second, .val (.int zM), .val (.long last), .second, .val (.long tot), .second, .val (.long at_), .second, .val (.int (Int32.ofNat E))] [(.int zE)])
    refine wp (fun _ => XS.iload X7.here hx rfl (hb hby at_275) rfl) ?_
    show WP p e below _ T7 (mkF m 277 #[.val (.long base), .second, .val (.long gaps), .second, .val (.long qa), .second, .val (.int shp), .val (.int zk), .val (.ref a), .val (.long p0), .second, .val (.long p1), .second, .val (.long p2), .second, .val (.long p3), .second, .val (.long p4), .second, .val (.int zM), .val (.long last), .second, .val (.long tot), .second, .val (.long at_), .second, .val (.int (Int32.ofNat E))] [(.int (Int32.ofNat E)), (.int zE)])
    have hEq : zE = Int32.ofNat E := own_z hE (by omega)
    refine wp (fun _ => XS.icmpNo X7.here hx rfl (hb hby at_277) rfl (XT.ii_ne_f hEq)) ?_
    show WP p e below _ T7 (mkF m 280 #[.val (.long base), .second, .val (.long gaps), .second, .val (.long qa), .second, .val (.int shp), .val (.int zk), .val (.ref a), .val (.long p0), .second, .val (.long p1), .second, .val (.long p2), .second, .val (.long p3), .second, .val (.long p4), .second, .val (.int zM), .val (.long last), .second, .val (.long tot), .second, .val (.long at_), .second, .val (.int (Int32.ofNat E))] [])
    refine wp (fun _ => XS.iconst X7.here hx rfl (hb hby at_280)) ?_
    show WP p e below _ T7 (mkF m 281 #[.val (.long base), .second, .val (.long gaps), .second, .val (.long qa), .second, .val (.int shp), .val (.int zk), .val (.ref a), .val (.long p0), .second, .val (.long p1), .second, .val (.long p2), .second, .val (.long p3), .second, .val (.long p4), .second, .val (.int zM), .val (.long last), .second, .val (.long tot), .second, .val (.long at_), .second, .val (.int (Int32.ofNat E))] [(.int (1 : Int32))])
    refine wp (fun _ => XS.goto X7.here hx rfl (pc0 := 281) (pc' := 285) rfl (hb hby at_281) (by decide) (by decide)) ?_
    show WP p e below _ T7 (mkF m 285 #[.val (.long base), .second, .val (.long gaps), .second, .val (.long qa), .second, .val (.int shp), .val (.int zk), .val (.ref a), .val (.long p0), .second, .val (.long p1), .second, .val (.long p2), .second, .val (.long p3), .second, .val (.long p4), .second, .val (.int zM), .val (.long last), .second, .val (.long tot), .second, .val (.long at_), .second, .val (.int (Int32.ofNat E))] [(.int (1 : Int32))])
    exact wp_zreturn C X7 (Or.inl rfl) at_285 ⟨rfl, by rw [List.append_nil]; exact N6⟩ (by decide) (by decide)
  ·
    refine wp (fun _ => XS.ifNo X6.here hx rfl (hb hby at_186) rfl (XT.ll_gt_f ht)) ?_
    show WP p e below _ T6 (mkF m 189 #[.val (.long base), .second, .val (.long gaps), .second, .val (.long qa), .second, .val (.int shp), .val (.int zk), .val (.ref a), .val (.long p0), .second, .val (.long p1), .second, .val (.long p2), .second, .val (.long p3), .second, .val (.long p4), .second, .val (.int zM), .val (.long last), .second, .val (.long tot), .second, .unset, .unset, .unset] [])
    refine wp (fun _ => XS.iconst X6.here hx rfl (hb hby at_189)) ?_
    show WP p e below _ T6 (mkF m 190 #[.val (.long base), .second, .val (.long gaps), .second, .val (.long qa), .second, .val (.int shp), .val (.int zk), .val (.ref a), .val (.long p0), .second, .val (.long p1), .second, .val (.long p2), .second, .val (.long p3), .second, .val (.long p4), .second, .val (.int zM), .val (.long last), .second, .val (.long tot), .second, .unset, .unset, .unset] [(.int (1 : Int32))])
    exact wp_zreturn C X6 (Or.inl rfl) at_190 ⟨rfl, N6⟩ (by decide) (by decide)
set_option maxRecDepth 65536 in
set_option maxHeartbeats 4000000 in
theorem comes_1 {Post : Tables → Env → Array Value → State → Outcome → State → Prop} (hpost : ∀ tb e args s v u, (limb_1_1.after args s (.returned v) u = true ∧ limb_1_2.after args s (.returned v) u = true ∧ True) → FrameEnd s (.returned v) u (Jvm.fieldLocs frame_1_writes args s ++ Jvm.arrayLocs frame_1_arrays args s ++ Jvm.staticLocs frame_1_statics s) 16 128 → Post tb e args s (.returned v) u) :
    ArmFor flags0 classFile x code maxLocals ret World_1 tables_1 room_1 Calls_1 rest_1 Pre_1 Post := by
  intro l hfl _ _ p e ha hc hk s m args below hf hA hF happ hP
  obtain ⟨hcalls, hrest, hpre⟩ := hP
  obtain ⟨-, -, -, hnamed, -, -, -, hat⟩ := (Spec.applies_iff hf).mp happ
  obtain ⟨hg, hn⟩ := and_e (Cond.before_iff.mp (show (Jvm.Cond.and given_1 narrow_1).before args s = true from hpre))
  obtain ⟨hcount, hr0⟩ := and_e hg
  obtain ⟨ha0, hr1⟩ := and_e hr0
  obtain ⟨ha1, hr2⟩ := and_e hr1
  obtain ⟨ha2, hr3⟩ := and_e hr2
  have ha3 := hr3
  obtain ⟨w0, w1, w2, w3, rfl⟩ : ∃ w0 w1 w2 w3 : Value, args = #[w0, w1, w2, w3] := by
    have hs : args.size = 4 := by simpa [Cond.value, given_1] using hcount
    obtain ⟨L⟩ := args
    match L, hs with
    | [w0, w1, w2, w3], _ => exact ⟨w0, w1, w2, w3, rfl⟩
  have hw := fun d (hd : d ∈ tables_1) => atoms_spec (ws := Jvm.Cond.code x code maxLocals ret :: tables_1) hat d (List.mem_cons_of_mem _ hd)
  obtain ⟨i0, ei0⟩ := isL_v ha0
  obtain rfl : w0 = (.long i0) := Option.some.inj ei0
  obtain ⟨i1, ei1⟩ := isL_v ha1
  obtain rfl : w1 = (.long i1) := Option.some.inj ei1
  obtain ⟨i2, ei2⟩ := isL_v ha2
  obtain rfl : w2 = (.long i2) := Option.some.inj ei2
  obtain ⟨i3, ei3⟩ := is_v ha3
  obtain rfl : w3 = (.int i3) := Option.some.inj ei3
  obtain ⟨n, o, h1, h2, h3, _, L, rfl, ⟨rfl, N⟩, hq⟩ := rm_law l s _ hw tables_1 i0 i1 i2 i3 s.heap s.heap.size (Nat.le_refl _) p e ha hc hk s m _ below hf ((Spec.applies_iff_loose hf).mp happ).1 ⟨rfl, State.Warmed39.refl s, rfl⟩ trivial
  refine ⟨n, _, h1, h2, h3, hpost _ _ _ _ _ _ ⟨Cond.after_iff.mpr rfl, Cond.after_iff.mpr (eq_i res_at (Term.int_eval (1)) rfl), trivial⟩ ⟨hq.1, hq.2.1, (hq.2.2.sift fun y hy => Or.inr (N y hy)).mono (by decide) (by decide)⟩⟩
theorem main_1_1 : Claimed_1_1 := comes_1 fun _ _ _ _ _ _ h hF => ⟨h.1, hF⟩
theorem main_1_2 : Claimed_1_2 := comes_1 fun _ _ _ _ _ _ h hF => ⟨h.2.1, hF⟩

end Jvm.Pilot.@@N@@
namespace Jvm.Pilot.@@N@@
open Jvm Jvm.ClassFile Sem Op Lib Jvm.Free Jvm.Stand Jvm.Pilot.@@N@@.Jvm.D
/-! MADE BY PROGRAM (witnessworld.py) out of the Statement's table words and the real class files: 12 classes; the members and pool entries that the words name. The judged class is class 1, her method 1. -/
namespace start1
open Jvm.ClassFile
def u (s : String) : CpInfo := .utf8 (stringToUtf16 s)
/-- a pool by its gaps: so many unusable entries, then the entry; so many at the end -/
def gap : Nat → List CpInfo → List CpInfo
  | 0, r => r
  | n + 1, r => .unusable :: gap n r
def poolList (es : List (Nat × CpInfo)) (last : Nat) : List CpInfo := es.foldr (fun e r => gap e.1 (e.2 :: r)) (gap last [])
def pool (es : List (Nat × CpInfo)) (last : Nat) : Array CpInfo := ⟨poolList es last⟩
def fileOf (pool : Array CpInfo) (this : Nat) (attrs : Array Attribute := #[]) (ms : Array MethodInfo := #[]) (fl : Nat := 33) (sup : Nat := 0) (ifs : Array Nat := #[]) (fds : Array FieldInfo := #[]) : ClassFile where
  minorVersion := 0
  majorVersion := 65
  constantPool := pool
  accessFlags := fl
  thisClass := this
  superClass := sup
  interfaces := ifs
  fields := fds
  methods := ms
  attributes := attrs
def plain (name : String) (sup : Option ClassId) : Class where
  name := name
  kind := .ordinary
  loader := none
  accessFlags := 33
  super := sup
  interfaces := #[]
  cf := none
  fields := #[]
  methods := #[]
  instanceTypes := #[]
  staticTypes := #[]
  resolved := #[]
  callSites := []
  init := .initialized
  statics := none
  mirror := none

def pool0 : Array CpInfo := pool [(5, u "<init>"), (0, u "()V"), (1, .class_ 10), (1, u "java/lang/Object")] 113

def k0m0 : Method := { name := "<init>", desc := "()V", sig := { parameters := [], returnType := none }, accessFlags := 1, code := none }
/-- java/lang/Object -/
def k0 : Class := { plain "java/lang/Object" none with
  accessFlags := 33
  interfaces := #[]
  cf := some (fileOf pool0 8 #[] #[{ accessFlags := 1, nameIndex := 5, descriptorIndex := 6, attributes := #[] }] 33 0 #[] #[])
  fields := #[]
  methods := #[k0m0]
  instanceTypes := #[]
  staticTypes := #[]
  resolved := Array.replicate 124 none
  statics := none }

def pool1 : Array CpInfo := pool [(2, .class_ 4), (1, u "java/lang/Object"), (0, u "<init>"), (0, u "()V"), (2, .long 9223372036854513663), (1, .methodref 12 13), (0, .class_ 14), (0, .nameAndType 15 16), (0, u "java/lang/Math"), (0, u "min"), (0, u "(JJ)J"), (0, .long 65535), (1, .long 9223372036854775807), (1, .methodref 22 23), (0, .class_ 24), (0, .nameAndType 25 26), (0, u "com/example/placewright/placewright/engine/PackedSet$Joined"), (0, u "lastStartingBy"), (0, u "([JJ)I"), (0, .class_ 28), (0, u "com/example/placewright/placewright/engine/JoinedLastStartingByPinLaw"), (2, u "law"), (0, u "(JJJI)Z")] 9

def k1m0 : Method := { name := "<init>", desc := "()V", sig := { parameters := [], returnType := none }, accessFlags := 1, code := none }
def k1c1 : Code := { maxStack := 6, maxLocals := 27, code := code, exceptionTable := #[], attributes := #[] }
def k1m1 : Method := { name := "law", desc := "(JJJI)Z", sig := { parameters := [.long, .long, .long, .int], returnType := some .boolean }, accessFlags := 9, code := some k1c1 }
/-- com/example/placewright/placewright/engine/JoinedLastStartingByPinLaw -/
def k1 : Class := { plain "com/example/placewright/placewright/engine/JoinedLastStartingByPinLaw" (some 0) with
  accessFlags := 49
  interfaces := #[]
  cf := some (fileOf pool1 27 #[] #[{ accessFlags := 1, nameIndex := 5, descriptorIndex := 6, attributes := #[] }, { accessFlags := 9, nameIndex := 31, descriptorIndex := 32, attributes := #[] }] 49 2 #[] #[])
  fields := #[]
  methods := #[k1m0, k1m1]
  instanceTypes := #[]
  staticTypes := #[]
  resolved := Array.replicate 42 none
  statics := none }

def pool2 : Array CpInfo := pool [(1, .class_ 2), (0, u "java/lang/Math"), (1, .class_ 6), (1, u "java/lang/Object"), (0, u "<init>"), (0, u "()V"), (89, .class_ 100), (1, u "java/lang/Math$RandomNumberGeneratorHolder"), (20, u "(JJ)J"), (50, u "negativeZeroFloatBits"), (0, u "J"), (2, u "negativeZeroDoubleBits"), (24, u "min"), (43, u "$assertionsDisabled"), (0, u "Z"), (91, u "twoToTheDoubleScaleDown"), (0, u "D"), (4, u "twoToTheDoubleScaleUp"), (9, u "E"), (3, u "PI"), (2, u "TAU"), (2, u "DEGREES_TO_RADIANS"), (0, u "RADIANS_TO_DEGREES")] 94

def k2m0 : Method := { name := "<init>", desc := "()V", sig := { parameters := [], returnType := none }, accessFlags := 2, code := none }
def k2c1 : Code := { maxStack := 4, maxLocals := 4, code := jdk_29_method_70_code, exceptionTable := #[], attributes := #[] }
def k2m1 : Method := { name := "min", desc := "(JJ)J", sig := { parameters := [.long, .long], returnType := some .long }, accessFlags := 9, code := some k2c1 }
/-- java/lang/Math -/
def k2 : Class := { plain "java/lang/Math" (some 0) with
  accessFlags := 49
  interfaces := #[]
  cf := some (fileOf pool2 1 #[.nestMembers #[98]] #[{ accessFlags := 2, nameIndex := 7, descriptorIndex := 8, attributes := #[] }, { accessFlags := 9, nameIndex := 201, descriptorIndex := 121, attributes := #[] }] 49 4 #[] #[{ accessFlags := 25, nameIndex := 354, descriptorIndex := 339, attributes := #[] }, { accessFlags := 25, nameIndex := 358, descriptorIndex := 339, attributes := #[] }, { accessFlags := 25, nameIndex := 361, descriptorIndex := 339, attributes := #[] }, { accessFlags := 26, nameIndex := 364, descriptorIndex := 339, attributes := #[] }, { accessFlags := 26, nameIndex := 365, descriptorIndex := 339, attributes := #[] }, { accessFlags := 26, nameIndex := 172, descriptorIndex := 173, attributes := #[] }, { accessFlags := 26, nameIndex := 176, descriptorIndex := 173, attributes := #[] }, { accessFlags := 8, nameIndex := 344, descriptorIndex := 339, attributes := #[] }, { accessFlags := 8, nameIndex := 338, descriptorIndex := 339, attributes := #[] }, { accessFlags := 4120, nameIndex := 245, descriptorIndex := 246, attributes := #[] }])
  fields := #[{ name := "E", type := .double, accessFlags := 25, slot := 0, constantValue := 0 }, { name := "PI", type := .double, accessFlags := 25, slot := 1, constantValue := 0 }, { name := "TAU", type := .double, accessFlags := 25, slot := 2, constantValue := 0 }, { name := "DEGREES_TO_RADIANS", type := .double, accessFlags := 26, slot := 3, constantValue := 0 }, { name := "RADIANS_TO_DEGREES", type := .double, accessFlags := 26, slot := 4, constantValue := 0 }, { name := "negativeZeroFloatBits", type := .long, accessFlags := 26, slot := 5, constantValue := 0 }, { name := "negativeZeroDoubleBits", type := .long, accessFlags := 26, slot := 6, constantValue := 0 }, { name := "twoToTheDoubleScaleUp", type := .double, accessFlags := 8, slot := 7, constantValue := 0 }, { name := "twoToTheDoubleScaleDown", type := .double, accessFlags := 8, slot := 8, constantValue := 0 }, { name := "$assertionsDisabled", type := .boolean, accessFlags := 4120, slot := 9, constantValue := 0 }]
  methods := #[k2m0, k2m1]
  instanceTypes := #[]
  staticTypes := #[.double, .double, .double, .double, .double, .long, .long, .double, .double, .boolean]
  resolved := Array.replicate 460 none
  statics := none }

def pool3 : Array CpInfo := pool [(2, .class_ 4), (1, u "java/lang/Object"), (3, .class_ 10), (1, u "com/example/placewright/placewright/engine/PackedSet$Joined"), (0, u "sets"), (0, u "Ljava/util/List;"), (8, u "starts"), (0, u "[J"), (4, .class_ 28), (0, u "com/example/placewright/placewright/engine/PackedSet"), (21, u "lastStartingBy"), (0, u "([JJ)I")] 29

def k3c0 : Code := { maxStack := 4, maxLocals := 6, code := prog_56_method_7_code, exceptionTable := #[], attributes := #[] }
def k3m0 : Method := { name := "lastStartingBy", desc := "([JJ)I", sig := { parameters := [(.array .long), .long], returnType := some .int }, accessFlags := 8, code := some k3c0 }
/-- com/example/placewright/placewright/engine/PackedSet$Joined -/
def k3 : Class := { plain "com/example/placewright/placewright/engine/PackedSet$Joined" (some 0) with
  accessFlags := 48
  interfaces := #[]
  cf := some (fileOf pool3 8 #[.nestHost 27] #[{ accessFlags := 8, nameIndex := 50, descriptorIndex := 51, attributes := #[] }] 48 2 #[] #[{ accessFlags := 18, nameIndex := 11, descriptorIndex := 12, attributes := #[] }, { accessFlags := 18, nameIndex := 21, descriptorIndex := 22, attributes := #[] }])
  fields := #[{ name := "sets", type := (.object "java/util/List"), accessFlags := 18, slot := 0, constantValue := 0 }, { name := "starts", type := (.array .long), accessFlags := 18, slot := 1, constantValue := 0 }]
  methods := #[k3m0]
  instanceTypes := #[(.object "java/util/List"), (.array .long)]
  staticTypes := #[]
  resolved := Array.replicate 81 none
  statics := none }

def pool4 : Array CpInfo := pool [(1, u "java/lang/Cloneable"), (0, .class_ 1), (0, u "java/lang/Object"), (0, .class_ 3)] 3

/-- java/lang/Cloneable -/
def k4 : Class := { plain "java/lang/Cloneable" (some 0) with
  accessFlags := 1537
  interfaces := #[]
  cf := some (fileOf pool4 2 #[] #[] 1537 4 #[] #[])
  fields := #[]
  methods := #[]
  instanceTypes := #[]
  staticTypes := #[]
  resolved := Array.replicate 8 none
  statics := none }

def pool5 : Array CpInfo := pool [(1, u "java/io/Serializable"), (0, .class_ 1), (0, u "java/lang/Object"), (0, .class_ 3)] 3

/-- java/io/Serializable -/
def k5 : Class := { plain "java/io/Serializable" (some 0) with
  accessFlags := 1537
  interfaces := #[]
  cf := some (fileOf pool5 2 #[] #[] 1537 4 #[] #[])
  fields := #[]
  methods := #[]
  instanceTypes := #[]
  staticTypes := #[]
  resolved := Array.replicate 8 none
  statics := none }

/-- the primitive byte -/
def k6 : Class := { plain "byte" none with kind := .primitive 'B', accessFlags := 0x411 }
/-- [B -/
def k7 : Class := { plain "[B" (some 0) with kind := .array 6 .byte, interfaces := #[4, 5], accessFlags := 1041 }

/-- the primitive int -/
def k8 : Class := { plain "int" none with kind := .primitive 'I', accessFlags := 0x411 }
/-- [I -/
def k9 : Class := { plain "[I" (some 0) with kind := .array 8 .int, interfaces := #[4, 5], accessFlags := 1041 }

/-- the primitive long -/
def k10 : Class := { plain "long" none with kind := .primitive 'J', accessFlags := 0x411 }
/-- [J -/
def k11 : Class := { plain "[J" (some 0) with kind := .array 10 .long, interfaces := #[4, 5], accessFlags := 1041 }

def heap : Heap := #[]
def classes : Array Class := #[k0, k1, k2, k3, k4, k5, k6, k7, k8, k9, k10, k11]
def interned : List (Array UInt16 × Addr) := []
def slotsUsed : Nat := 0
def theMethod : MethodId := ⟨1, 1⟩
def args0 : Array Value := #[.long 5, .long 65537, .long 7, .int 2]
def aboutOver (below : List Frame) : State where
  vm := { classes := classes, interned := interned.toArray }
  heap := heap
  slotsUsed := slotsUsed
  threads := #[{ frames := .invoking theMethod args0 :: below }]
def below0 : List Frame := [.native { method := ⟨0, 0⟩, args := #[] }]
def about1 : State := aboutOver below0
def p0 : Program := .bare "" "" ""
def e0 : Env := launch0.env 0 0 0
theorem w_frames : about1.frames = Frame.invoking theMethod args0 :: below0 := rfl
set_option maxRecDepth 65536 in
theorem w_args : argsFit about1.vm theMethod args0 = true := by decide +kernel
set_option maxRecDepth 65536 in
theorem w_heap : heapFits about1 = true := by decide +kernel
set_option maxRecDepth 65536 in
theorem w_runnable : about1.curStatus? = some .runnable := by decide +kernel
set_option maxRecDepth 65536 in
theorem w_alone : about1.alone = true := by decide +kernel
set_option maxRecDepth 65536 in
theorem w_named : about1.methodNamed? x = some theMethod := by decide +kernel
set_option maxRecDepth 65536 in
theorem w_hears : about1.hears theMethod below0 = true := by decide +kernel
set_option maxRecDepth 65536 in
theorem w_ripe : about1.ripe theMethod args0 below0 = true := by decide +kernel
theorem w_running : about1.status = .running := rfl
set_option maxRecDepth 65536 in
theorem w_room : about1.hasRoom e0.platform room_1 = true :=
  launch0.hasRoom_least _ room_1 (by decide +kernel) (by decide +kernel) (by decide +kernel) (by decide +kernel) (by decide +kernel) (by decide +kernel)
theorem allAtoms_all (ts : List Jvm.Cond) (a : Array Jvm.Value) (st : Jvm.State) : (allAtoms ts).before a st = ts.all (fun c => c.before a st) := by
  induction ts with
  | nil => rfl
  | cons c t ih =>
    show (Jvm.Cond.and c (allAtoms t)).before a st = _
    rw [Jvm.Cond.before_and, ih, List.all_cons]
def words1 : List Jvm.Cond := Jvm.Cond.code x code maxLocals ret :: tables_1
/-- a 'code' word, met by the world's own term for the bytes: nothing is compared byte by byte -/
theorem code_word {y : MethodName} {bytes : ByteArray} {mx : Nat} {rt : Option FieldType} {a : Array Value} {s : State} {m : MethodId} {meth : Method} {c : Code} (h1 : s.methodNamed? y = some m) (h2 : s.vm.method? m = some meth) (h3 : meth.code = some c) (h4 : c.code = bytes)
    (h5 : (c.maxLocals == mx && c.exceptionTable.isEmpty && decide (c.maxStack ≤ mostOperands) && decide (meth.sig.returnType = rt) && !meth.locks && decide (parseMethodDescriptor y.desc = some meth.sig)) = true) : (Jvm.Cond.code y bytes mx rt).before a s = true := by
  simp only [Bool.and_eq_true, beq_iff_eq, Bool.not_eq_true', decide_eq_true_eq] at h5
  obtain ⟨⟨⟨⟨⟨g1, g2⟩, g3⟩, g4⟩, g5⟩, g6⟩ := h5
  simp [Cond.before, Cond.holds, Cond.value, h1, h2, h3, h4, g1, g2, g3, g4, g5, g6]
def isCode : Jvm.Cond → Bool
  | .code _ _ _ _ => true
  | _ => false
theorem all_split {L : List Jvm.Cond} {P : Jvm.Cond → Bool} (h1 : L.all (fun c => isCode c || P c) = true) (h2 : ∀ c ∈ L.filter isCode, P c = true) : L.all P = true := by
  refine List.all_eq_true.mpr fun c hc => ?_
  have h := List.all_eq_true.mp h1 c hc
  rcases Bool.eq_false_or_eq_true (isCode c) with hi | hi
  · exact h2 c (List.mem_filter.mpr ⟨hc, hi⟩)
  · simpa [hi] using h
set_option maxRecDepth 65536 in
theorem w_c0 : (Jvm.Cond.code x code maxLocals ret).before args0 about1 = true := code_word (m := ⟨1, 1⟩) (meth := k1m1) (c := k1c1) (by decide +kernel) rfl rfl rfl (by decide +kernel)
set_option maxRecDepth 65536 in
theorem w_c1 : (Jvm.Cond.code ({ cls := "java/lang/Math", name := "min", desc := "(JJ)J" } : Jvm.MethodName) jdk_29_method_70_code (4 : Nat) (Option.some Jvm.ClassFile.FieldType.long)).before args0 about1 = true := code_word (m := ⟨2, 1⟩) (meth := k2m1) (c := k2c1) (by decide +kernel) rfl rfl rfl (by decide +kernel)
set_option maxRecDepth 65536 in
theorem w_c2 : (Jvm.Cond.code ({ cls := "com/example/placewright/placewright/engine/PackedSet$Joined", name := "lastStartingBy", desc := "([JJ)I" } : Jvm.MethodName) prog_56_method_7_code (6 : Nat) (Option.some Jvm.ClassFile.FieldType.int)).before args0 about1 = true := code_word (m := ⟨3, 0⟩) (meth := k3m0) (c := k3c0) (by decide +kernel) rfl rfl rfl (by decide +kernel)
def codes1 : List Jvm.Cond := [Jvm.Cond.code x code maxLocals ret, Jvm.Cond.code ({ cls := "java/lang/Math", name := "min", desc := "(JJ)J" } : Jvm.MethodName) jdk_29_method_70_code (4 : Nat) (Option.some Jvm.ClassFile.FieldType.long), Jvm.Cond.code ({ cls := "com/example/placewright/placewright/engine/PackedSet$Joined", name := "lastStartingBy", desc := "([JJ)I" } : Jvm.MethodName) prog_56_method_7_code (6 : Nat) (Option.some Jvm.ClassFile.FieldType.int)]
set_option maxRecDepth 65536 in
theorem codes_eq : words1.filter isCode = codes1 := rfl
theorem w_codes : ∀ c ∈ words1.filter isCode, c.before args0 about1 = true := by
  rw [codes_eq]
  intro c hc
  simp only [codes1, List.mem_cons, List.not_mem_nil, or_false] at hc
  rcases hc with rfl | rfl | rfl
  · exact w_c0
  · exact w_c1
  · exact w_c2
set_option maxRecDepth 65536 in
theorem w_t1 : words1.all (fun c => isCode c || c.before args0 about1) = true := by decide +kernel
theorem w_tables : (allAtoms (Jvm.Cond.code x code maxLocals ret :: tables_1)).before args0 about1 = true := by
  rw [allAtoms_all]
  show words1.all (fun c => c.before args0 about1) = true
  refine all_split ?_ w_codes
  rw [w_t1]
set_option maxRecDepth 65536 in
theorem w_case : (Jvm.Cond.and given_1 narrow_1).before args0 about1 = true := by decide +kernel
theorem w_applies : (headSpec (Jvm.Cond.code x code maxLocals ret :: tables_1) room_1).applies x e0.platform about1 = true :=
  (Spec.applies_iff w_frames).mpr ⟨w_running, w_runnable, w_alone, w_named, w_hears, w_ripe, w_room, w_tables⟩
theorem atStart : AtStart classFile x code maxLocals ret World_1 tables_1 room_1 Calls_1 rest_1 Pre_1 launch0 p0 e0 about1 theMethod args0 below0 :=
  ⟨lists_1, trivial, launch0.admits_env _ _ _, launch0.least_env, fairChoices_fair.cas, fairChoices_fair.clock, w_frames, w_args, w_heap, w_applies, trivial, trivial, w_case⟩
end start1
theorem witness_1 : WitnessClaimed_1 := ⟨start1.p0, start1.e0, start1.about1, start1.theMethod, start1.args0, start1.below0, start1.atStart⟩
end Jvm.Pilot.@@N@@
