import JvmDerived
import JvmDerived.Pilot.@@N@@Statement
import JvmDerived.Pilot.@@N@@Code
set_option linter.unusedVariables false
set_option linter.unusedSimpArgs false
namespace Jvm.RoadKit
open Sem ClassFile Op Lib Jvm.Stand Jvm.Free Jvm.LawKit
section New
variable {p : Program} {l : Launch} {e : Env} {R : Room} {s : State} {m : MethodId} {args : Array Value} {below : List Frame} {meth : Method} {c : Code} {T : State} {locs : List Loc} {cells slots : Nat}
theorem retI (X : Stand p l e R s m args below meth c T locs cells slots) (hx : p.tables.exec = Jvm.exec) {pc : Nat} {Ls : Array Slot} {z : Int32} {rest : List Value} (hret : meth.sig.returnType = some .int) (hd : decode c.code pc = .ok (.ireturn, 1)) {fs : List Frame}
    (hl : ∀ (f : JFrame) (acts : List Action), f.method = m → f.locked = none → f.entered = [] → (doReturn e (T.setTop f) acts (some (.int z))).1 = T.setFrames fs) : Steps p.tables e below (T.setTop (mkF m pc Ls (.int z :: rest))) (T.setFrames fs) := by
  have hm' : T.vm.method? m = some meth := X.method'
  have hn : narrow .int (.int z) = .int z := rfl
  show Steps p.tables e below (T.setTop { method := m, pc := pc, locals := Ls, stack := _ :: rest, locked := none }) _
  jvm_step X.here [X.here.top, hx, hd, hm', hret, hn]
  first | (intro acts; rw [hl _ acts rfl rfl rfl]) | rw [hl _ _ rfl rfl rfl]
  exact Steps.refl _
end New
end Jvm.RoadKit
namespace Jvm.Pilot.@@N@@
open Jvm Jvm.ClassFile Sem Op Lib Jvm.Free Jvm.Stand Jvm.LawKit Jvm.RoadKit Bundle Jvm.Pilot.@@N@@.Jvm.D

section Kit
variable {p : Program} {l : Launch} {e : Env} {R : Room} {s : State} {m : MethodId} {args : Array Value} {below : List Frame} {meth : Method} {c : Code} {T T' : State} {locs : List Loc} {cells slots : Nat} {Z : State} {a0 : Array Value} {h h' : Heap}
/-- from T at the frame g the run comes to a state of which Q holds -/
def WP (p : Program) (e : Env) (below : List Frame) (Q : State → Prop) (T : State) (g : JFrame) : Prop :=
  ∃ t, Steps p.tables e below (T.setTop g) t ∧ Q t
theorem wp {Q : State → Prop} {g g' : JFrame} (h : ∀ t, Steps p.tables e below (T'.setTop g') t → Steps p.tables e below (T.setTop g) t) (k : WP p e below Q T' g') : WP p e below Q T g := by
  obtain ⟨t, a, b⟩ := k
  exact ⟨t, h t a, b⟩
/-- the end that a contract asks -/
def Ends (s : State) (below : List Frame) (q : Option Value → Heap → List Loc → Prop) (Cn Sn : Nat) (t : State) : Prop :=
  ∃ o, t.status = .running ∧ Ended t below o ∧ ∃ v L, o = .returned v ∧ q v t.heap L ∧ FrameEnd s o t L Cn Sn
/-- what a walk knows of its method -/
def Cx (p : Program) (s : State) (m : MethodId) (meth : Method) (c : Code) (Z : State) (a0 : Array Value) (bytes : ByteArray) (ml : Nat) (own nm : String) (ret : Option FieldType) : Prop :=
  p.tables.exec = Jvm.exec ∧ Z.Warmed39 s.vm ∧ (∀ d ∈ tables_1, d.before a0 Z = true) ∧ c.code = bytes ∧ c.maxLocals = ml ∧ s.vm.findClass own = some m.cls ∧ meth.name = nm ∧ meth.sig.returnType = ret ∧ meth.locks = false
/-- a contract: from the heap h, with the arguments as, it returns and q holds -/
def MetQ (l : Launch) (Z : State) (y : MethodName) (bytes : ByteArray) (ml : Nat) (ret : Option FieldType) (ws : List Jvm.Cond) (rm : Room) (as : Array Value) (h : Heap) (q : Option Value → Heap → List Loc → Prop) : Prop :=
  MetFree l y (head1 (Jvm.Cond.code y bytes ml ret :: ws) rm) (fun a U => a = as ∧ Z.Warmed39 U.vm ∧ U.heap = h) (fun _ _ _ _ _ => True) (fun _ U o U' => ∃ v L, o = .returned v ∧ q v U'.heap L ∧ FrameEnd U o U' L rm.cells rm.slots)
theorem metQ {y : MethodName} {bytes : ByteArray} {ml : Nat} {ret : Option FieldType} {ws : List Jvm.Cond} {rm : Room} {as : Array Value} {q : Option Value → Heap → List Loc → Prop} {Ls : Array Slot} (hpl : plainFor y = true) (hw : ∀ d ∈ tables_1, d.before a0 Z = true)
    (hef : ∀ m, entryFrame m as ml = mkF m 0 Ls [])
    (body : ∀ p e s m below meth c s₁, Cx p s m meth c Z a0 bytes ml y.cls y.name ret → Stand p l e rm s m as below meth c s₁ [] 0 0 → s₁.heap = h → WP p e below (Ends s below q rm.cells rm.slots) s₁ (mkF m 0 Ls [])) :
    MetQ l Z y bytes ml ret ws rm as h q := by
  refine MetFree.of_bodySF hpl hisR ?_
  intro p e s m args below meth c s₁ Bd hml0 hP hK
  obtain ⟨rfl, hZ, hh⟩ := hP
  obtain ⟨t, st, o, a, b, d⟩ := body p e s m below meth c s₁ ⟨Bd.exec, hZ, hw, Bd.bytes, hml0, findClass_of_methodNamed Bd.named, (name_of_methodNamed Bd.named Bd.method).1, Bd.returns, Bd.notSynchronized⟩ (Stand.of_body Bd) (by rw [← hh, Bd.state]; rfl)
  exact ⟨t, o, castTop (hef m) st, a, b, d⟩
theorem wp_ret {q : Option Value → Heap → List Loc → Prop} {Cn Sn : Nat} {v : Option Value} {g : JFrame} (X : Stand p l e R s m args below meth c T locs cells slots) (hlk : meth.locks = false) (hv : meth.sig.returnType = none → v = none)
    (hst : ∀ fs, (∀ (f : JFrame) (acts : List Action), f.method = m → f.locked = none → f.entered = [] → (doReturn e (T.setTop f) acts v).1 = T.setFrames fs) → Steps p.tables e below (T.setTop g) (T.setFrames fs)) (hq : q v T.heap locs) (hc : cells ≤ Cn) (hs : slots ≤ Sn) :
    WP p e below (Ends s below q Cn Sn) T g := by
  obtain ⟨fs, hr, hrun, hended, hW, hsame⟩ := X.leave (v := v) hv hlk
  exact ⟨_, hst fs hr, _, hrun, hended, _, _, rfl, hq, ⟨_, rfl⟩, hW, hsame.mono hc hs⟩
theorem wp_ireturn {q : Option Value → Heap → List Loc → Prop} {Cn Sn : Nat} {bytes : ByteArray} {ml pc : Nat} {own nm : String} {Ls : Array Slot} {z : Int32} {rest : List Value} (C : Cx p s m meth c Z a0 bytes ml own nm (some .int)) (X : Stand p l e R s m args below meth c T locs cells slots)
    (hd : decode bytes pc = .ok (.ireturn, 1)) (hq : q (some (.int z)) T.heap locs) (hc : cells ≤ Cn) (hs : slots ≤ Sn) : WP p e below (Ends s below q Cn Sn) T (mkF m pc Ls (.int z :: rest)) := by
  obtain ⟨hx, hZ, hw, hby, hml, hown, hnm, hret, hlk⟩ := C
  exact wp_ret X hlk (fun h => by rw [hret] at h; cases h) (fun fs hr => retI X hx hret (hb hby hd) hr) hq hc hs
theorem wp_zreturn {q : Option Value → Heap → List Loc → Prop} {Cn Sn : Nat} {bytes : ByteArray} {ml pc : Nat} {own nm : String} {t : FieldType} {Ls : Array Slot} {z : Int32} {rest : List Value} (C : Cx p s m meth c Z a0 bytes ml own nm (some t)) (X : Stand p l e R s m args below meth c T locs cells slots)
    (ht : t = .boolean ∨ t = .byte ∨ t = .char ∨ t = .short) (hd : decode bytes pc = .ok (.ireturn, 1)) (hq : q (some (.int (nar t z))) T.heap locs) (hc : cells ≤ Cn) (hs : slots ≤ Sn) : WP p e below (Ends s below q Cn Sn) T (mkF m pc Ls (.int z :: rest)) := by
  obtain ⟨hx, hZ, hw, hby, hml, hown, hnm, hret, hlk⟩ := C
  exact wp_ret X hlk (fun h => by rw [hret] at h; cases h) (fun fs hr => retN X hx hret ht (hb hby hd) hr) hq hc hs
theorem wp_lreturn {q : Option Value → Heap → List Loc → Prop} {Cn Sn : Nat} {bytes : ByteArray} {ml pc : Nat} {own nm : String} {Ls : Array Slot} {z : Int64} {rest : List Value} (C : Cx p s m meth c Z a0 bytes ml own nm (some .long)) (X : Stand p l e R s m args below meth c T locs cells slots)
    (hd : decode bytes pc = .ok (.lreturn, 1)) (hq : q (some (.long z)) T.heap locs) (hc : cells ≤ Cn) (hs : slots ≤ Sn) : WP p e below (Ends s below q Cn Sn) T (mkF m pc Ls (.long z :: rest)) := by
  obtain ⟨hx, hZ, hw, hby, hml, hown, hnm, hret, hlk⟩ := C
  exact wp_ret X hlk (fun h => by rw [hret] at h; cases h) (fun fs hr => retOut X hx hret rfl (Or.inr (Or.inl ⟨rfl, rfl, z, rfl⟩)) (hb hby hd) hr) hq hc hs
theorem wp_dreturn {q : Option Value → Heap → List Loc → Prop} {Cn Sn : Nat} {bytes : ByteArray} {ml pc : Nat} {own nm : String} {Ls : Array Slot} {z : UInt64} {rest : List Value} (C : Cx p s m meth c Z a0 bytes ml own nm (some .double)) (X : Stand p l e R s m args below meth c T locs cells slots)
    (hd : decode bytes pc = .ok (.dreturn, 1)) (hq : q (some (.double z)) T.heap locs) (hc : cells ≤ Cn) (hs : slots ≤ Sn) : WP p e below (Ends s below q Cn Sn) T (mkF m pc Ls (.double z :: rest)) := by
  obtain ⟨hx, hZ, hw, hby, hml, hown, hnm, hret, hlk⟩ := C
  exact wp_ret X hlk (fun h => by rw [hret] at h; cases h) (fun fs hr => retOut X hx hret rfl (Or.inr (Or.inr (Or.inl ⟨rfl, rfl, z, rfl⟩))) (hb hby hd) hr) hq hc hs
theorem wp_vreturn {q : Option Value → Heap → List Loc → Prop} {Cn Sn : Nat} {bytes : ByteArray} {ml pc : Nat} {own nm : String} {Ls : Array Slot} (C : Cx p s m meth c Z a0 bytes ml own nm none) (X : Stand p l e R s m args below meth c T locs cells slots)
    (hd : decode bytes pc = .ok (.return_, 1)) (hq : q none T.heap locs) (hc : cells ≤ Cn) (hs : slots ≤ Sn) : WP p e below (Ends s below q Cn Sn) T (mkF m pc Ls []) := by
  obtain ⟨hx, hZ, hw, hby, hml, hown, hnm, hret, hlk⟩ := C
  exact wp_ret X hlk (fun _ => rfl) (fun fs hr => X.returnOut hx hret (hb hby hd) hr) hq hc hs
/-! calls -/
theorem wp_static {Q : State → Prop} {bytes : ByteArray} {ml : Nat} {own nm : String} {ret : Option FieldType} {y : MethodName} {bytes' : ByteArray} {ml' : Nat} {ret' : Option FieldType} {rm : Room} {index pc : Nat} {Ls : Array Slot} {argsL rest st : List Value} {q : Option Value → Heap → List Loc → Prop}
    (C : Cx p s m meth c Z a0 bytes ml own nm ret) (X : Stand p l e R s m args below meth c T locs cells slots) (e0 : T.heap = h)
    (met : MetQ l Z y bytes' ml' ret' [] rm argsL.toArray h q)
    (w1 : (Jvm.Cond.methodLink own index y).before a0 Z = true) (w2 : (Jvm.Cond.static y).before a0 Z = true) (w3 : (Jvm.Cond.initialized y.cls).before a0 Z = true) (w4 : (Jvm.Cond.code y bytes' ml' ret').before a0 Z = true)
    (hy : y.cls ≠ "java/lang/invoke/MethodHandle" ∧ y.cls ≠ "java/lang/invoke/VarHandle") (hsz : Ls.size = ml) (hlen : ∀ sig, parseMethodDescriptor y.desc = some sig → argsL.length = sig.parameters.length)
    (hd : decode bytes pc = .ok (.invokestatic index, 3)) (hst : st = argsL.reverse ++ rest) (hf : rm.frames + 1 ≤ R.frames) (hl : (rest.map fun v => v.category).sum + (ml' + 11) + rm.locals ≤ R.locals) (hc : cells + rm.cells ≤ R.cells) (hs : slots + rm.slots ≤ R.slots)
    (k : ∀ T' v L, Stand p l e R s m args below meth c T' (locs ++ L) (cells + rm.cells) (slots + rm.slots) → q v T'.heap L → WP p e below Q T' (mkF m (pc + 3) Ls (v.toList ++ rest))) :
    WP p e below Q T (mkF m pc Ls st) := by
  obtain ⟨hx, hZ, hw, hby, hml, hown, hnm, hret, hlk⟩ := C
  obtain ⟨v, _, ⟨T1, L1, k1, n1⟩, -, X1, ⟨Lc1, hQ1, l1, y1, z1⟩, st1⟩ := Jvm.LawKit.callS X hx (y := y) hown (mvT hZ w1) (mvT hZ w2) (mvT hZ w3) (mvT hZ w4) hy (backOf (W := (rest.map fun v => v.category).sum) met hZ w4 w3 hf hl) (g := mkF m pc Ls st) rfl (hsz.trans hml.symm) (argsL := argsL) (rest := rest) hlen hst (Nat.le_of_eq (Nat.zero_add _)) (hb hby hd) (fun _ _ => ⟨rfl, e0, hc, hs⟩)
  dsimp only [Pt.U, Pt.locs, Pt.cells, Pt.slots] at X1 l1 y1 z1 st1 hQ1
  subst l1 y1 z1
  exact wp st1 (k T1 v Lc1 X1 hQ1)
/-- what a callee that writes nothing leaves -/
def PureQ (r : Option Value) (h : Heap) : Option Value → Heap → List Loc → Prop := fun v h' L => v = r ∧ h' = h ∧ L = []
theorem wp_staticP {Q : State → Prop} {bytes : ByteArray} {ml : Nat} {own nm : String} {ret : Option FieldType} {y : MethodName} {bytes' : ByteArray} {ml' : Nat} {ret' : Option FieldType} {rm : Room} {index pc : Nat} {Ls : Array Slot} {argsL rest st : List Value} {r : Option Value}
    (C : Cx p s m meth c Z a0 bytes ml own nm ret) (X : Stand p l e R s m args below meth c T locs cells slots) (e0 : T.heap = h)
    (met : MetQ l Z y bytes' ml' ret' [] rm argsL.toArray h (PureQ r h))
    (w1 : (Jvm.Cond.methodLink own index y).before a0 Z = true) (w2 : (Jvm.Cond.static y).before a0 Z = true) (w3 : (Jvm.Cond.initialized y.cls).before a0 Z = true) (w4 : (Jvm.Cond.code y bytes' ml' ret').before a0 Z = true)
    (hy : y.cls ≠ "java/lang/invoke/MethodHandle" ∧ y.cls ≠ "java/lang/invoke/VarHandle") (hsz : Ls.size = ml) (hlen : ∀ sig, parseMethodDescriptor y.desc = some sig → argsL.length = sig.parameters.length)
    (hd : decode bytes pc = .ok (.invokestatic index, 3)) (hst : st = argsL.reverse ++ rest) (hrc : rm.cells = 0) (hrs : rm.slots = 0) (hf : rm.frames + 1 ≤ R.frames) (hl : (rest.map fun v => v.category).sum + (ml' + 11) + rm.locals ≤ R.locals) (hc : cells ≤ R.cells) (hs : slots ≤ R.slots)
    (k : ∀ T', Stand p l e R s m args below meth c T' locs cells slots → T'.heap = h → WP p e below Q T' (mkF m (pc + 3) Ls (r.toList ++ rest))) :
    WP p e below Q T (mkF m pc Ls st) := by
  refine wp_static C X e0 met w1 w2 w3 w4 hy hsz hlen hd hst hf hl (by rw [hrc]; exact hc) (by rw [hrs]; exact hs) ?_
  rintro T1 v L X1 ⟨rfl, e1, rfl⟩
  rw [hrc, hrs, List.append_nil] at X1
  exact k T1 X1 e1
theorem wp_virtual {Q : State → Prop} {bytes : ByteArray} {ml : Nat} {own nm : String} {ret : Option FieldType} {y : MethodName} {bytes' : ByteArray} {ml' : Nat} {ret' : Option FieldType} {rm : Room} {index pc : Nat} {Ls : Array Slot} {b : Addr} {argsL rest st : List Value} {q : Option Value → Heap → List Loc → Prop}
    (C : Cx p s m meth c Z a0 bytes ml own nm ret) (X : Stand p l e R s m args below meth c T locs cells slots) (e0 : T.heap = h) (E : Exa Z h b y.cls)
    (met : MetQ l Z y bytes' ml' ret' [] rm (.ref b :: argsL).toArray h q)
    (w1 : (Jvm.Cond.methodLink own index y).before a0 Z = true) (w2 : (Jvm.Cond.declares y).before a0 Z = true) (w3 : (Jvm.Cond.selects y.cls y y).before a0 Z = true) (w5 : (Jvm.Cond.instanceMethod y).before a0 Z = true) (w4 : (Jvm.Cond.code y bytes' ml' ret').before a0 Z = true) (w6 : (Jvm.Cond.initialized y.cls).before a0 Z = true)
    (hy : y.cls ≠ "java/lang/invoke/MethodHandle" ∧ y.cls ≠ "java/lang/invoke/VarHandle") (hsz : Ls.size = ml) (hlen : ∀ sig, parseMethodDescriptor y.desc = some sig → argsL.length = sig.parameters.length)
    (hd : decode bytes pc = .ok (.invokevirtual index, 3)) (hst : st = argsL.reverse ++ .ref b :: rest) (hf : rm.frames + 1 ≤ R.frames) (hl : (rest.map fun v => v.category).sum + (ml' + 11) + rm.locals ≤ R.locals) (hc : cells + rm.cells ≤ R.cells) (hs : slots + rm.slots ≤ R.slots)
    (k : ∀ T' v L, Stand p l e R s m args below meth c T' (locs ++ L) (cells + rm.cells) (slots + rm.slots) → q v T'.heap L → WP p e below Q T' (mkF m (pc + 3) Ls (v.toList ++ rest))) :
    WP p e below Q T (mkF m pc Ls st) := by
  obtain ⟨hx, hZ, hw, hby, hml, hown, hnm, hret, hlk⟩ := C
  obtain ⟨cq, kq, qa, qb, qc⟩ := isOf hZ e0 E
  obtain ⟨v, _, ⟨T1, L1, k1, n1⟩, -, X1, ⟨Lc1, hQ1, l1, y1, z1⟩, st1⟩ := X.virtualBack hx (y := y) (z := y) hown (mvT hZ w1) (mvT hZ w2) (notFace_of_selects (args := #[]) (mvT hZ w3)) (mvT hZ w3) (mvT hZ w5) hy (backOf (W := (rest.map fun v => v.category).sum) met hZ w4 w6 hf hl) qa qc (g := mkF m pc Ls st) rfl (hsz.trans hml.symm) (Steps.refl _) (argsL := argsL) (rest := rest) hlen hst (Nat.le_of_eq (Nat.zero_add _)) (hb hby hd) (fun _ _ => ⟨rfl, e0, hc, hs⟩)
  dsimp only [Pt.U, Pt.locs, Pt.cells, Pt.slots] at X1 l1 y1 z1 st1 hQ1
  subst l1 y1 z1
  exact wp (fun _ k => st1.trans k) (k T1 v Lc1 X1 hQ1)
theorem wp_special {Q : State → Prop} {bytes : ByteArray} {ml : Nat} {own nm : String} {ret : Option FieldType} {y : MethodName} {bytes' : ByteArray} {ml' : Nat} {rm : Room} {index pc : Nat} {Ls : Array Slot} {b : Addr} {argsL rest st : List Value} {q : Option Value → Heap → List Loc → Prop}
    (C : Cx p s m meth c Z a0 bytes ml own nm ret) (X : Stand p l e R s m args below meth c T locs cells slots) (e0 : T.heap = h)
    (met : MetQ l Z y bytes' ml' none [] rm (.ref b :: argsL).toArray h q) (hy1 : y.name = "<init>")
    (w1 : (Jvm.Cond.methodLink own index y).before a0 Z = true) (w5 : (Jvm.Cond.instanceMethod y).before a0 Z = true) (w4 : (Jvm.Cond.code y bytes' ml' none).before a0 Z = true) (w6 : (Jvm.Cond.initialized y.cls).before a0 Z = true)
    (hy : y.cls ≠ "java/lang/invoke/MethodHandle" ∧ y.cls ≠ "java/lang/invoke/VarHandle") (hsz : Ls.size = ml) (hlen : ∀ sig, parseMethodDescriptor y.desc = some sig → argsL.length = sig.parameters.length)
    (hd : decode bytes pc = .ok (.invokespecial index, 3)) (hst : st = argsL.reverse ++ .ref b :: rest) (hf : rm.frames + 1 ≤ R.frames) (hl : (rest.map fun v => v.category).sum + (ml' + 11) + rm.locals ≤ R.locals) (hc : cells + rm.cells ≤ R.cells) (hs : slots + rm.slots ≤ R.slots)
    (k : ∀ T' v L, Stand p l e R s m args below meth c T' (locs ++ L) (cells + rm.cells) (slots + rm.slots) → q v T'.heap L → WP p e below Q T' (mkF m (pc + 3) Ls (v.toList ++ rest))) :
    WP p e below Q T (mkF m pc Ls st) := by
  obtain ⟨hx, hZ, hw, hby, hml, hown, hnm, hret, hlk⟩ := C
  obtain ⟨v, _, ⟨T1, L1, k1, n1⟩, -, X1, ⟨Lc1, hQ1, l1, y1, z1⟩, st1⟩ := X.specialBack hx (y := y) hy1 hown (mvT hZ w1) (mvT hZ w5) (mvT hZ w4) hy (backOf (W := (rest.map fun v => v.category).sum) met hZ w4 w6 hf hl) (g := mkF m pc Ls st) rfl (hsz.trans hml.symm) (Steps.refl _) (a := b) (argsL := argsL) (rest := rest) hlen hst (Nat.le_of_eq (Nat.zero_add _)) (hb hby hd) (fun _ _ => ⟨rfl, e0, hc, hs⟩)
  dsimp only [Pt.U, Pt.locs, Pt.cells, Pt.slots] at X1 l1 y1 z1 st1 hQ1
  subst l1 y1 z1
  exact wp (fun _ k => st1.trans k) (k T1 v Lc1 X1 hQ1)
/-! arrays by their places: place j holds f j -/
def Af (Z : State) (h : Heap) (a : Addr) (ty : FieldType) (n : Nat) (f : Nat → Value) : Prop := ∃ cl : Cell, Arr Z h a cl ty ∧ cl.slots.size = n ∧ ∀ j, j < n → cl.slots[j]? = some (f j)
theorem Af.lt {a : Addr} {ty : FieldType} {n : Nat} {f : Nat → Value} (A : Af Z h a ty n f) : a < h.size := by obtain ⟨c, A, -⟩ := A; exact A.lt
theorem Af.ext {a : Addr} {ty : FieldType} {n : Nat} {f : Nat → Value} (A : Af Z h a ty n f) (E : Ext h h') : Af Z h' a ty n f := by obtain ⟨c, A, r⟩ := A; exact ⟨c, A.ext E, r⟩
theorem Af.other {a b : Addr} {ty : FieldType} {n sl : Nat} {v : Value} {f : Nat → Value} (A : Af Z h b ty n f) (W : Wr h h' a sl v) (q : b ≠ a) : Af Z h' b ty n f := by obtain ⟨c, A, r⟩ := A; exact ⟨c, A.other W q, r⟩
theorem Af.keep {a : Addr} {ty : FieldType} {n : Nat} {f : Nat → Value} {ws : List Addr} (A : Af Z h a ty n f) (K : Keep h h' ws) (q : a ∉ ws) : Af Z h' a ty n f := by obtain ⟨c, A, r⟩ := A; exact ⟨c, ⟨K.2.1 a c A.1 q, A.2⟩, r⟩
theorem Af.conv {a : Addr} {ty : FieldType} {n : Nat} {f g : Nat → Value} (A : Af Z h a ty n f) (q : ∀ j, j < n → f j = g j) : Af Z h a ty n g := by obtain ⟨c, A, r1, r2⟩ := A; exact ⟨c, A, r1, fun j hj => by rw [← q j hj]; exact r2 j hj⟩
theorem Af.set {a : Addr} {ty : FieldType} {n i : Nat} {v : Value} {f : Nat → Value} (A : Af Z h a ty n f) (W : Wr h h' a i v) (hi : i < n) : Af Z h' a ty n (fun j => if j = i then v else f j) := by
  obtain ⟨c, A, r1, r2⟩ := A
  refine ⟨_, A.same W, by rw [sz_set]; exact r1, fun j hj => ?_⟩
  show (c.slots.setIfInBounds i v)[j]? = _
  by_cases q : j = i
  · subst q; simp [r1, hi]
  · rw [Array.getElem?_setIfInBounds_ne (Ne.symm q), r2 j hj]; simp [q]
theorem clampNeg {z : Int32} {j : Nat} (hz : z.toInt = (j : Int)) : z.toNatClampNeg = j := by
  rw [Int32.toNatClampNeg, hz]; rfl
theorem idxIn {z : Int32} {j n : Nat} (hz : z.toInt = (j : Int)) (hj : j < n) : ¬ (z < 0 ∨ n ≤ z.toNatClampNeg) := by
  rw [clampNeg hz, Int32.lt_iff_toInt_lt, hz, show (0 : Int32).toInt = 0 from rfl]
  omega
theorem wp_newarray {Q : State → Prop} {bytes : ByteArray} {ml : Nat} {own nm : String} {ret : Option FieldType} {aty : ArrayType} {pc n : Nat} {z : Int32} {Ls : Array Slot} {rest : List Value}
    (C : Cx p s m meth c Z a0 bytes ml own nm ret) (X : Stand p l e R s m args below meth c T locs cells slots) (e0 : T.heap = h) (w : (Jvm.Cond.arrayClass (newarray.typeOf aty)).before a0 Z = true) (hd : decode bytes pc = .ok (.newarray aty, 2)) (hz : z.toInt = (n : Int)) {cap : Nat} (hn : n ≤ cap) (hcap : cap * 8 ≤ 536870912)
    (hc : cells + 1 ≤ R.cells) (hs : slots + cap ≤ R.slots)
    (k : ∀ T' h', Stand p l e R s m args below meth c T' locs (cells + 1) (slots + cap) → T'.heap = h' → Ext h h' → Af Z h' h.size (newarray.typeOf aty) n (fun _ => defaultValue (newarray.typeOf aty)) → WP p e below Q T' (mkF m (pc + 2) Ls (.ref h.size :: rest))) :
    WP p e below Q T (mkF m pc Ls (.int z :: rest)) := by
  obtain ⟨hx, hZ, hw, hby, hml, hown, hnm, hret, hlk⟩ := C
  obtain ⟨T1, h1, k1, X1, e1, E1, A1, st1⟩ := newP X hx hZ w e0 (g := mkF m pc Ls (.int z :: rest)) rfl (hb hby hd) rfl (by rw [Int32.lt_iff_toInt_lt, hz, show (0 : Int32).toInt = 0 from rfl]; omega) (cap := cap) (by rw [clampNeg hz]; exact hn) hcap hc hs
  refine wp st1 (k T1 h1 X1 e1 E1 ⟨_, A1, by rw [sz_new, clampNeg hz], fun j hj => ?_⟩)
  simp [newA, clampNeg hz, hj]
theorem wp_bastore {Q : State → Prop} {bytes : ByteArray} {ml : Nat} {own nm : String} {ret : Option FieldType} {pc n j : Nat} {zj x : Int32} {a : Addr} {f : Nat → Value} {Ls : Array Slot} {rest : List Value}
    (C : Cx p s m meth c Z a0 bytes ml own nm ret) (X : Stand p l e R s m args below meth c T locs cells slots) (e0 : T.heap = h) (A : Af Z h a .byte n f) (hz : zj.toInt = (j : Int)) (hj : j < n) (hd : decode bytes pc = .ok (.bastore, 1))
    (k : ∀ T' h', Stand p l e R s m args below meth c T' (locs ++ [⟨a, zj.toNatClampNeg⟩]) cells slots → T'.heap = h' → Wr h h' a j (.int (nar .byte x)) → Af Z h' a .byte n (fun i => if i = j then .int (nar .byte x) else f i) → WP p e below Q T' (mkF m (pc + 1) Ls rest)) :
    WP p e below Q T (mkF m pc Ls (.int x :: .int zj :: .ref a :: rest)) := by
  obtain ⟨hx, hZ, hw, hby, hml, hown, hnm, hret, hlk⟩ := C
  obtain ⟨cl, Ar, Sz, H⟩ := id A
  obtain ⟨T1, h1, X1, e1, W1, st1⟩ := stB X hx hZ e0 Ar (j := zj) (by rw [Sz]; exact idxIn hz hj) (g := mkF m pc Ls (.int x :: .int zj :: .ref a :: rest)) rfl rfl (hb hby hd)
  rw [clampNeg hz] at W1
  exact wp st1 (k T1 h1 X1 e1 W1 (A.set W1 hj))
theorem wp_iastore {Q : State → Prop} {bytes : ByteArray} {ml : Nat} {own nm : String} {ret : Option FieldType} {pc n j : Nat} {zj x : Int32} {a : Addr} {f : Nat → Value} {Ls : Array Slot} {rest : List Value}
    (C : Cx p s m meth c Z a0 bytes ml own nm ret) (X : Stand p l e R s m args below meth c T locs cells slots) (e0 : T.heap = h) (A : Af Z h a .int n f) (hz : zj.toInt = (j : Int)) (hj : j < n) (hd : decode bytes pc = .ok (.iastore, 1))
    (k : ∀ T' h', Stand p l e R s m args below meth c T' (locs ++ [⟨a, zj.toNatClampNeg⟩]) cells slots → T'.heap = h' → Wr h h' a j (.int x) → Af Z h' a .int n (fun i => if i = j then .int x else f i) → WP p e below Q T' (mkF m (pc + 1) Ls rest)) :
    WP p e below Q T (mkF m pc Ls (.int x :: .int zj :: .ref a :: rest)) := by
  obtain ⟨hx, hZ, hw, hby, hml, hown, hnm, hret, hlk⟩ := C
  obtain ⟨cl, Ar, Sz, H⟩ := id A
  obtain ⟨T1, h1, X1, e1, W1, st1⟩ := stI X hx hZ e0 Ar (j := zj) (by rw [Sz]; exact idxIn hz hj) (g := mkF m pc Ls (.int x :: .int zj :: .ref a :: rest)) rfl rfl (hb hby hd)
  rw [clampNeg hz] at W1
  exact wp st1 (k T1 h1 X1 e1 W1 (A.set W1 hj))
theorem wp_lastore {Q : State → Prop} {bytes : ByteArray} {ml : Nat} {own nm : String} {ret : Option FieldType} {pc n j : Nat} {zj : Int32} {x : Int64} {a : Addr} {f : Nat → Value} {Ls : Array Slot} {rest : List Value}
    (C : Cx p s m meth c Z a0 bytes ml own nm ret) (X : Stand p l e R s m args below meth c T locs cells slots) (e0 : T.heap = h) (A : Af Z h a .long n f) (hz : zj.toInt = (j : Int)) (hj : j < n) (hd : decode bytes pc = .ok (.lastore, 1))
    (k : ∀ T' h', Stand p l e R s m args below meth c T' (locs ++ [⟨a, zj.toNatClampNeg⟩]) cells slots → T'.heap = h' → Wr h h' a j (.long x) → Af Z h' a .long n (fun i => if i = j then .long x else f i) → WP p e below Q T' (mkF m (pc + 1) Ls rest)) :
    WP p e below Q T (mkF m pc Ls (.long x :: .int zj :: .ref a :: rest)) := by
  obtain ⟨hx, hZ, hw, hby, hml, hown, hnm, hret, hlk⟩ := C
  obtain ⟨cl, Ar, Sz, H⟩ := id A
  obtain ⟨T1, h1, X1, e1, W1, st1⟩ := stJ X hx hZ e0 Ar (j := zj) (by rw [Sz]; exact idxIn hz hj) (g := mkF m pc Ls (.long x :: .int zj :: .ref a :: rest)) rfl rfl (hb hby hd)
  rw [clampNeg hz] at W1
  exact wp st1 (k T1 h1 X1 e1 W1 (A.set W1 hj))
theorem wp_baload {Q : State → Prop} {bytes : ByteArray} {ml : Nat} {own nm : String} {ret : Option FieldType} {pc n j : Nat} {zj : Int32} {v : Value} {a : Addr} {f : Nat → Value} {Ls : Array Slot} {rest : List Value}
    (C : Cx p s m meth c Z a0 bytes ml own nm ret) (X : Stand p l e R s m args below meth c T locs cells slots) (e0 : T.heap = h) (A : Af Z h a .byte n f) (hz : zj.toInt = (j : Int)) (hj : j < n) (hv : f j = v) (hd : decode bytes pc = .ok (.baload, 1))
    (k : WP p e below Q T (mkF m (pc + 1) Ls (v :: rest))) : WP p e below Q T (mkF m pc Ls (.int zj :: .ref a :: rest)) := by
  obtain ⟨hx, hZ, hw, hby, hml, hown, hnm, hret, hlk⟩ := C
  obtain ⟨cl, Ar, Sz, H⟩ := A
  exact wp (fun t kt => X.baloadBytes hx (j := zj) (v := v) (by rw [e0]; exact Ar.1) (State.isArrayOf_alike hZ.alike Ar.2.1) Ar.2.2 (by rw [Sz]; exact idxIn hz hj) (by rw [clampNeg hz, H j hj, hv]) (g := mkF m pc Ls (.int zj :: .ref a :: rest)) rfl rfl (hb hby hd) t kt) k
theorem wp_iaload {Q : State → Prop} {bytes : ByteArray} {ml : Nat} {own nm : String} {ret : Option FieldType} {pc n j : Nat} {zj : Int32} {v : Value} {a : Addr} {f : Nat → Value} {Ls : Array Slot} {rest : List Value}
    (C : Cx p s m meth c Z a0 bytes ml own nm ret) (X : Stand p l e R s m args below meth c T locs cells slots) (e0 : T.heap = h) (A : Af Z h a .int n f) (hz : zj.toInt = (j : Int)) (hj : j < n) (hv : f j = v) (hd : decode bytes pc = .ok (.iaload, 1))
    (k : WP p e below Q T (mkF m (pc + 1) Ls (v :: rest))) : WP p e below Q T (mkF m pc Ls (.int zj :: .ref a :: rest)) := by
  obtain ⟨hx, hZ, hw, hby, hml, hown, hnm, hret, hlk⟩ := C
  obtain ⟨cl, Ar, Sz, H⟩ := A
  exact wp (fun t kt => X.iaload hx (j := zj) (v := v) (by rw [e0]; exact Ar.1) (State.isArrayOf_alike hZ.alike Ar.2.1) Ar.2.2 (by rw [Sz]; exact idxIn hz hj) (by rw [clampNeg hz, H j hj, hv]) (g := mkF m pc Ls (.int zj :: .ref a :: rest)) rfl rfl (hb hby hd) t kt) k
theorem wp_laload {Q : State → Prop} {bytes : ByteArray} {ml : Nat} {own nm : String} {ret : Option FieldType} {pc n j : Nat} {zj : Int32} {v : Value} {a : Addr} {f : Nat → Value} {Ls : Array Slot} {rest : List Value}
    (C : Cx p s m meth c Z a0 bytes ml own nm ret) (X : Stand p l e R s m args below meth c T locs cells slots) (e0 : T.heap = h) (A : Af Z h a .long n f) (hz : zj.toInt = (j : Int)) (hj : j < n) (hv : f j = v) (hd : decode bytes pc = .ok (.laload, 1))
    (k : WP p e below Q T (mkF m (pc + 1) Ls (v :: rest))) : WP p e below Q T (mkF m pc Ls (.int zj :: .ref a :: rest)) := by
  obtain ⟨hx, hZ, hw, hby, hml, hown, hnm, hret, hlk⟩ := C
  obtain ⟨cl, Ar, Sz, H⟩ := A
  exact wp (fun t kt => X.laload hx (j := zj) (v := v) (by rw [e0]; exact Ar.1) (State.isArrayOf_alike hZ.alike Ar.2.1) Ar.2.2 (by rw [Sz]; exact idxIn hz hj) (by rw [clampNeg hz, H j hj, hv]) (g := mkF m pc Ls (.int zj :: .ref a :: rest)) rfl rfl (hb hby hd) t kt) k
theorem wp_arraylength {Q : State → Prop} {bytes : ByteArray} {ml : Nat} {own nm : String} {ret : Option FieldType} {pc n : Nat} {a : Addr} {ty : FieldType} {f : Nat → Value} {Ls : Array Slot} {rest : List Value}
    (C : Cx p s m meth c Z a0 bytes ml own nm ret) (X : Stand p l e R s m args below meth c T locs cells slots) (e0 : T.heap = h) (A : Af Z h a ty n f) (hd : decode bytes pc = .ok (.arraylength, 1))
    (k : WP p e below Q T (mkF m (pc + 1) Ls (.int (Int32.ofNat n) :: rest))) : WP p e below Q T (mkF m pc Ls (.ref a :: rest)) := by
  obtain ⟨hx, hZ, hw, hby, hml, hown, hnm, hret, hlk⟩ := C
  obtain ⟨cl, Ar, Sz, H⟩ := A
  refine wp (fun t kt => X.arraylength hx (by rw [e0]; exact Ar.1) (State.isArrayOf_alike hZ.alike Ar.2.1) (g := mkF m pc Ls (.ref a :: rest)) rfl rfl (hb hby hd) t ?_) k
  rw [Sz]
  exact kt
theorem wp_ldc {Q : State → Prop} {bytes : ByteArray} {ml : Nat} {own nm : String} {ret : Option FieldType} {pc index : Nat} {v : Int32} {Ls : Array Slot} {st : List Value}
    (C : Cx p s m meth c Z a0 bytes ml own nm ret) (X : Stand p l e R s m args below meth c T locs cells slots) (w : (Jvm.Cond.constant own index v).before a0 Z = true) (hd : decode bytes pc = .ok (.ldc index, 2))
    (k : WP p e below Q T (mkF m (pc + 2) Ls (.int v :: st))) : WP p e below Q T (mkF m pc Ls st) := by
  obtain ⟨hx, hZ, hw, hby, hml, hown, hnm, hret, hlk⟩ := C
  exact wp (X.ldcInt hx hown (mvT hZ w) (g := mkF m pc Ls st) rfl (hb hby hd)) k
theorem wp_ldc2 {Q : State → Prop} {bytes : ByteArray} {ml : Nat} {own nm : String} {ret : Option FieldType} {pc index : Nat} {v : Int64} {Ls : Array Slot} {st : List Value}
    (C : Cx p s m meth c Z a0 bytes ml own nm ret) (X : Stand p l e R s m args below meth c T locs cells slots) (w : (Jvm.Cond.constantLong own index v).before a0 Z = true) (hd : decode bytes pc = .ok (.ldc2_w index, 3))
    (k : WP p e below Q T (mkF m (pc + 3) Ls (.long v :: st))) : WP p e below Q T (mkF m pc Ls st) := by
  obtain ⟨hx, hZ, hw, hby, hml, hown, hnm, hret, hlk⟩ := C
  exact wp (X.ldc2Long hx hown (mvT hZ w) (g := mkF m pc Ls st) rfl (hb hby hd)) k
theorem Frs {k : Nat} {a : Addr} {sl : Nat} {L : List Loc} (N : Fr k L) (q : k ≤ a) : Fr k (L ++ [⟨a, sl⟩]) := N.app fun y hy => by cases List.mem_singleton.mp hy; exact q
end Kit

section Kit2
variable {p : Program} {l : Launch} {e : Env} {R : Room} {s : State} {m : MethodId} {args : Array Value} {below : List Frame} {meth : Method} {c : Code} {T T' : State} {locs : List Loc} {cells slots : Nat} {Z : State} {a0 : Array Value} {h h' : Heap}
theorem wp_virtualP {Q : State → Prop} {bytes : ByteArray} {ml : Nat} {own nm : String} {ret : Option FieldType} {y : MethodName} {bytes' : ByteArray} {ml' : Nat} {ret' : Option FieldType} {rm : Room} {index pc : Nat} {Ls : Array Slot} {b : Addr} {argsL rest st : List Value} {r : Option Value}
    (C : Cx p s m meth c Z a0 bytes ml own nm ret) (X : Stand p l e R s m args below meth c T locs cells slots) (e0 : T.heap = h) (E : Exa Z h b y.cls)
    (met : MetQ l Z y bytes' ml' ret' [] rm (.ref b :: argsL).toArray h (PureQ r h))
    (w1 : (Jvm.Cond.methodLink own index y).before a0 Z = true) (w2 : (Jvm.Cond.declares y).before a0 Z = true) (w3 : (Jvm.Cond.selects y.cls y y).before a0 Z = true) (w5 : (Jvm.Cond.instanceMethod y).before a0 Z = true) (w4 : (Jvm.Cond.code y bytes' ml' ret').before a0 Z = true) (w6 : (Jvm.Cond.initialized y.cls).before a0 Z = true)
    (hy : y.cls ≠ "java/lang/invoke/MethodHandle" ∧ y.cls ≠ "java/lang/invoke/VarHandle") (hsz : Ls.size = ml) (hlen : ∀ sig, parseMethodDescriptor y.desc = some sig → argsL.length = sig.parameters.length)
    (hd : decode bytes pc = .ok (.invokevirtual index, 3)) (hst : st = argsL.reverse ++ .ref b :: rest) (hrc : rm.cells = 0) (hrs : rm.slots = 0) (hf : rm.frames + 1 ≤ R.frames) (hl : (rest.map fun v => v.category).sum + (ml' + 11) + rm.locals ≤ R.locals) (hc : cells ≤ R.cells) (hs : slots ≤ R.slots)
    (k : ∀ T', Stand p l e R s m args below meth c T' locs cells slots → T'.heap = h → WP p e below Q T' (mkF m (pc + 3) Ls (r.toList ++ rest))) :
    WP p e below Q T (mkF m pc Ls st) := by
  refine wp_virtual C X e0 E met w1 w2 w3 w5 w4 w6 hy hsz hlen hd hst hf hl (by rw [hrc]; exact hc) (by rw [hrs]; exact hs) ?_
  rintro T1 v L X1 ⟨rfl, e1, rfl⟩
  rw [hrc, hrs, List.append_nil] at X1
  exact k T1 X1 e1
theorem wp_getfield {Q : State → Prop} {bytes : ByteArray} {ml : Nat} {own nm : String} {ret : Option FieldType} {O n d : String} {index pc : Nat} {v : Value} {a : Addr} {Ls : Array Slot} {rest : List Value}
    (C : Cx p s m meth c Z a0 bytes ml own nm ret) (X : Stand p l e R s m args below meth c T locs cells slots) (e0 : T.heap = h) (w : (Jvm.Cond.fieldLink own index O n d).before a0 Z = true) (F : Fld Z h a O n d v) (hd : decode bytes pc = .ok (.getfield index, 3))
    (k : ∀ T', Stand p l e R s m args below meth c T' locs cells slots → T'.heap = h → WP p e below Q T' (mkF m (pc + 3) Ls (v :: rest))) : WP p e below Q T (mkF m pc Ls (.ref a :: rest)) := by
  obtain ⟨hx, hZ, hw, hby, hml, hown, hnm, hret, hlk⟩ := C
  obtain ⟨T1, X1, e1, st1⟩ := getF X hx hZ hown (host := "") (Or.inl w) Via.refl e0 F (g := mkF m pc Ls (.ref a :: rest)) rfl rfl (hb hby hd)
  exact wp st1 (k T1 X1 e1)
theorem wp_getstatic {Q : State → Prop} {bytes : ByteArray} {ml : Nat} {own nm : String} {ret : Option FieldType} {O n d : String} {index pc : Nat} {v : Value} {Ls : Array Slot} {st : List Value}
    (C : Cx p s m meth c Z a0 bytes ml own nm ret) (X : Stand p l e R s m args below meth c T locs cells slots) (e0 : T.heap = h) (w : (Jvm.Cond.fieldLink own index O n d).before a0 Z = true) (F : Sta Z h O n d v) (hd : decode bytes pc = .ok (.getstatic index, 3))
    (k : ∀ T', Stand p l e R s m args below meth c T' locs cells slots → T'.heap = h → WP p e below Q T' (mkF m (pc + 3) Ls (v :: st))) : WP p e below Q T (mkF m pc Ls st) := by
  obtain ⟨hx, hZ, hw, hby, hml, hown, hnm, hret, hlk⟩ := C
  obtain ⟨T1, X1, e1, st1⟩ := getS2 X hx hZ hown (host := "") (Or.inl w) Via.refl e0 F (g := mkF m pc Ls st) rfl (hb hby hd)
  exact wp st1 (k T1 X1 e1)
theorem wp_putfield {Q : State → Prop} {bytes : ByteArray} {ml : Nat} {own nm : String} {ret : Option FieldType} {O n d K : String} {index pc kk : Nat} {ty : FieldType} {v old : Value} {a : Addr} {Ls : Array Slot} {rest : List Value}
    (C : Cx p s m meth c Z a0 bytes ml own nm ret) (X : Stand p l e R s m args below meth c T locs cells slots) (e0 : T.heap = h) (w : (Jvm.Cond.fieldLink own index O n d).before a0 Z = true) (F : Fld Z h a O n d old) (E : Exa Z h a K)
    (L : (Jvm.Cond.lays K O n d).before a0 Z = true ∨ ((Jvm.Cond.laysFinal K O n d).before a0 Z = true ∧ own = O ∧ nm = "<init>")) (wi : (Jvm.Cond.instantiable K kk).before a0 Z = true) (hty : parseFieldDescriptor d = some ty) (hn : narrow ty v = v) (hf : fits ty v = true) (hd : decode bytes pc = .ok (.putfield index, 3))
    (k : ∀ T' h', Stand p l e R s m args below meth c T' (locs ++ [⟨a, Jvm.RoadKit.slotOf Z O n d⟩]) cells slots → T'.heap = h' → Wr h h' a (Jvm.RoadKit.slotOf Z O n d) v → WP p e below Q T' (mkF m (pc + 3) Ls rest)) : WP p e below Q T (mkF m pc Ls (v :: .ref a :: rest)) := by
  obtain ⟨hx, hZ, hw, hby, hml, hown, hnm, hret, hlk⟩ := C
  obtain ⟨T1, h1, X1, e1, W1, st1⟩ := putF X hx hZ hown (host := "") (Or.inl w) Via.refl e0 F E (L.imp id fun q => ⟨q.1, q.2.1, hnm.trans q.2.2⟩) wi hty hn hf (g := mkF m pc Ls (v :: .ref a :: rest)) rfl rfl (hb hby hd)
  exact wp st1 (k T1 h1 X1 e1 W1)
theorem wp_new {Q : State → Prop} {bytes : ByteArray} {ml : Nat} {own nm : String} {ret : Option FieldType} {K : String} {index pc n : Nat} {Ls : Array Slot} {st : List Value}
    (C : Cx p s m meth c Z a0 bytes ml own nm ret) (X : Stand p l e R s m args below meth c T locs cells slots) (e0 : T.heap = h) (w : (Jvm.Cond.classLink own index K).before a0 Z = true) (wi : (Jvm.Cond.instantiable K n).before a0 Z = true) (wz : (Jvm.Cond.initialized K).before a0 Z = true) (hd : decode bytes pc = .ok (.new index, 3)) (hc : cells + 1 ≤ R.cells) (hs : slots + n ≤ R.slots)
    (k : ∀ T' h', Stand p l e R s m args below meth c T' locs (cells + 1) (slots + n) → T'.heap = h' → Ext h h' → Exa Z h' h.size K → (∀ {O nm d : String} {ty : FieldType}, Laid Z a0 K O nm d → parseFieldDescriptor d = some ty → Fld Z h' h.size O nm d (defaultValue ty)) → WP p e below Q T' (mkF m (pc + 3) Ls (.ref h.size :: st))) : WP p e below Q T (mkF m pc Ls st) := by
  obtain ⟨hx, hZ, hw, hby, hml, hown, hnm, hret, hlk⟩ := C
  obtain ⟨T1, h1, X1, e1, E1, A1, D1, -, st1⟩ := newO X hx hZ hown w wi wz e0 (g := mkF m pc Ls st) rfl (hb hby hd) hc hs
  exact wp st1 (k T1 h1 X1 e1 E1 A1 D1)
theorem wp_ldcw {Q : State → Prop} {bytes : ByteArray} {ml : Nat} {own nm : String} {ret : Option FieldType} {pc index : Nat} {v : Int32} {Ls : Array Slot} {st : List Value}
    (C : Cx p s m meth c Z a0 bytes ml own nm ret) (X : Stand p l e R s m args below meth c T locs cells slots) (w : (Jvm.Cond.constant own index v).before a0 Z = true) (hd : decode bytes pc = .ok (.ldc_w index, 3))
    (k : WP p e below Q T (mkF m (pc + 3) Ls (.int v :: st))) : WP p e below Q T (mkF m pc Ls st) := by
  obtain ⟨hx, hZ, hw, hby, hml, hown, hnm, hret, hlk⟩ := C
  exact wp (X.ldcwInt hx hown (mvT hZ w) (g := mkF m pc Ls st) rfl (hb hby hd)) k
end Kit2

section Kit3
variable {p : Program} {l : Launch} {e : Env} {R : Room} {s : State} {m : MethodId} {args : Array Value} {below : List Frame} {meth : Method} {c : Code} {T T' : State} {locs : List Loc} {cells slots : Nat} {Z : State} {a0 : Array Value} {h h' : Heap}
theorem own_b53 (x : Int32) : B53 x.toInt64 := by
  have h1 := rng32 x
  unfold B53
  rw [Int32.toInt_toInt64]
  omega
theorem own_dcmp (x y : Int32) (o : CmpOp) : cmpValue (FP.dcmp (FP.i2d x) (FP.i2d y)) o = XT.cmpL x.toInt64 y.toInt64 := by
  rw [i2d_w, i2d_w, dcmpV_w (own_b53 x) (own_b53 y)]
  rfl
theorem own_l64 {x y : Int32} : x.toInt64 < y.toInt64 ↔ x.toInt < y.toInt := by
  rw [Int64.lt_iff_toInt_lt, Int32.toInt_toInt64, Int32.toInt_toInt64]
theorem own_e64 {x y : Int32} : x.toInt64 = y.toInt64 ↔ x.toInt = y.toInt := by
  rw [← Int64.toInt_inj, Int32.toInt_toInt64, Int32.toInt_toInt64]
theorem wp_dcmp {Q : State → Prop} {bytes : ByteArray} {ml : Nat} {own nm : String} {ret : Option FieldType} {pc : Nat} {o : CmpOp} {x y : Int32} {Ls : Array Slot} {rest : List Value}
    (C : Cx p s m meth c Z a0 bytes ml own nm ret) (X : Stand p l e R s m args below meth c T locs cells slots) (hd : decode bytes pc = .ok (.dcmp o, 1))
    (k : WP p e below Q T (mkF m (pc + 1) Ls (.int (XT.cmpL x.toInt64 y.toInt64) :: rest))) : WP p e below Q T (mkF m pc Ls (.double (FP.i2d y) :: .double (FP.i2d x) :: rest)) := by
  obtain ⟨hx, hZ, hw, hby, hml, hown, hnm, hret, hlk⟩ := C
  exact wp (fun _ => XS.dcmpS X.here hx rfl (hb hby hd) rfl (own_dcmp x y o)) k
theorem wp_daload {Q : State → Prop} {bytes : ByteArray} {ml : Nat} {own nm : String} {ret : Option FieldType} {pc n j : Nat} {zj : Int32} {v : Value} {a : Addr} {f : Nat → Value} {Ls : Array Slot} {rest : List Value}
    (C : Cx p s m meth c Z a0 bytes ml own nm ret) (X : Stand p l e R s m args below meth c T locs cells slots) (e0 : T.heap = h) (A : Af Z h a .double n f) (hz : zj.toInt = (j : Int)) (hj : j < n) (hv : f j = v) (hd : decode bytes pc = .ok (.daload, 1))
    (k : WP p e below Q T (mkF m (pc + 1) Ls (v :: rest))) : WP p e below Q T (mkF m pc Ls (.int zj :: .ref a :: rest)) := by
  obtain ⟨hx, hZ, hw, hby, hml, hown, hnm, hret, hlk⟩ := C
  obtain ⟨cl, Ar, Sz, H⟩ := A
  exact wp (fun t kt => X.daload hx (j := zj) (v := v) (by rw [e0]; exact Ar.1) (State.isArrayOf_alike hZ.alike Ar.2.1) Ar.2.2 (by rw [Sz]; exact idxIn hz hj) (by rw [clampNeg hz, H j hj, hv]) (g := mkF m pc Ls (.int zj :: .ref a :: rest)) rfl rfl (hb hby hd) t kt) k
theorem wp_dastore {Q : State → Prop} {bytes : ByteArray} {ml : Nat} {own nm : String} {ret : Option FieldType} {pc n j : Nat} {zj : Int32} {x : UInt64} {a : Addr} {f : Nat → Value} {Ls : Array Slot} {rest : List Value}
    (C : Cx p s m meth c Z a0 bytes ml own nm ret) (X : Stand p l e R s m args below meth c T locs cells slots) (e0 : T.heap = h) (A : Af Z h a .double n f) (hz : zj.toInt = (j : Int)) (hj : j < n) (hd : decode bytes pc = .ok (.dastore, 1))
    (k : ∀ T' h', Stand p l e R s m args below meth c T' (locs ++ [⟨a, zj.toNatClampNeg⟩]) cells slots → T'.heap = h' → Wr h h' a j (.double x) → Af Z h' a .double n (fun i => if i = j then .double x else f i) → WP p e below Q T' (mkF m (pc + 1) Ls rest)) :
    WP p e below Q T (mkF m pc Ls (.double x :: .int zj :: .ref a :: rest)) := by
  obtain ⟨hx, hZ, hw, hby, hml, hown, hnm, hret, hlk⟩ := C
  obtain ⟨cl, Ar, Sz, H⟩ := id A
  obtain ⟨X1, st1⟩ := X.dastore hx (by rw [e0]; exact Ar.1) (State.isArrayOf_alike hZ.alike Ar.2.1) Ar.2.2 (j := zj) (by rw [Sz]; exact idxIn hz hj) (g := mkF m pc Ls (.double x :: .int zj :: .ref a :: rest)) rfl rfl (hb hby hd)
  have W1 : Wr h (T.setCell a (cl.setSlot zj.toNatClampNeg (.double x))).heap a zj.toNatClampNeg (.double x) := ⟨cl, Ar.1, Ar.plain, by rw [Sz, clampNeg hz]; exact hj, by rw [← e0]; rfl⟩
  rw [clampNeg hz] at W1
  exact wp st1 (k _ _ X1 rfl (by rw [clampNeg hz]; exact W1) (by rw [clampNeg hz]; exact A.set W1 hj))
end Kit3

def own_cm (c1 : Int32) (m1 : Int64) (c2 : Int32) (m2 : Int64) : Int32 := if c1.toInt < c2.toInt then 1 else if c2.toInt < c1.toInt then 0 else if m1.toInt < m2.toInt then 1 else 0
def own_pt (c1 t1 : Int32) (m1 : Int64) (c2 t2 : Int32) (m2 : Int64) : Int32 := if t1.toInt < t2.toInt then 1 else if t2.toInt < t1.toInt then 0 else own_cm c1 m1 c2 m2

theorem dpf_0 : decode prog_251_method_6_code 0 = .ok (.aload_n 0, 1) := by decide +kernel
theorem dpf_1 : decode prog_251_method_6_code 1 = .ok (.getstatic 7, 3) := by decide +kernel
theorem dpf_4 : decode prog_251_method_6_code 4 = .ok (.if_acmp .ne 27, 3) := by decide +kernel
theorem dpf_7 : decode prog_251_method_6_code 7 = .ok (.dload_n 3, 1) := by decide +kernel
theorem dpf_8 : decode prog_251_method_6_code 8 = .ok (.dload 9, 2) := by decide +kernel
theorem dpf_10 : decode prog_251_method_6_code 10 = .ok (.dcmp .l, 1) := by decide +kernel
theorem dpf_11 : decode prog_251_method_6_code 11 = .ok (.ifCond .eq 20, 3) := by decide +kernel
theorem dpf_14 : decode prog_251_method_6_code 14 = .ok (.dload_n 3, 1) := by decide +kernel
theorem dpf_15 : decode prog_251_method_6_code 15 = .ok (.dload 9, 2) := by decide +kernel
theorem dpf_17 : decode prog_251_method_6_code 17 = .ok (.dcmp .g, 1) := by decide +kernel
theorem dpf_18 : decode prog_251_method_6_code 18 = .ok (.ifCond .ge 7, 3) := by decide +kernel
theorem dpf_21 : decode prog_251_method_6_code 21 = .ok (.iconst 1, 1) := by decide +kernel
theorem dpf_22 : decode prog_251_method_6_code 22 = .ok (.goto 4, 3) := by decide +kernel
theorem dpf_25 : decode prog_251_method_6_code 25 = .ok (.iconst 0, 1) := by decide +kernel
theorem dpf_26 : decode prog_251_method_6_code 26 = .ok (.istore 13, 2) := by decide +kernel
theorem dpf_28 : decode prog_251_method_6_code 28 = .ok (.goto 32, 3) := by decide +kernel
theorem dpf_31 : decode prog_251_method_6_code 31 = .ok (.dload_n 1, 1) := by decide +kernel
theorem dpf_32 : decode prog_251_method_6_code 32 = .ok (.dload 7, 2) := by decide +kernel
theorem dpf_34 : decode prog_251_method_6_code 34 = .ok (.dcmp .g, 1) := by decide +kernel
theorem dpf_35 : decode prog_251_method_6_code 35 = .ok (.ifCond .lt 18, 3) := by decide +kernel
theorem dpf_38 : decode prog_251_method_6_code 38 = .ok (.dload_n 1, 1) := by decide +kernel
theorem dpf_39 : decode prog_251_method_6_code 39 = .ok (.dload 7, 2) := by decide +kernel
theorem dpf_41 : decode prog_251_method_6_code 41 = .ok (.dcmp .l, 1) := by decide +kernel
theorem dpf_42 : decode prog_251_method_6_code 42 = .ok (.ifCond .ne 15, 3) := by decide +kernel
theorem dpf_45 : decode prog_251_method_6_code 45 = .ok (.lload 5, 2) := by decide +kernel
theorem dpf_47 : decode prog_251_method_6_code 47 = .ok (.lload 11, 2) := by decide +kernel
theorem dpf_49 : decode prog_251_method_6_code 49 = .ok (.lcmp, 1) := by decide +kernel
theorem dpf_50 : decode prog_251_method_6_code 50 = .ok (.ifCond .ge 7, 3) := by decide +kernel
theorem dpf_53 : decode prog_251_method_6_code 53 = .ok (.iconst 1, 1) := by decide +kernel
theorem dpf_54 : decode prog_251_method_6_code 54 = .ok (.goto 4, 3) := by decide +kernel
theorem dpf_57 : decode prog_251_method_6_code 57 = .ok (.iconst 0, 1) := by decide +kernel
theorem dpf_58 : decode prog_251_method_6_code 58 = .ok (.istore 13, 2) := by decide +kernel
theorem dpf_60 : decode prog_251_method_6_code 60 = .ok (.iload 13, 2) := by decide +kernel
theorem dpf_62 : decode prog_251_method_6_code 62 = .ok (.ireturn, 1) := by decide +kernel

theorem pn_pf : plainName "com/example/joinsmith/joinsmith/planner/strategy/Objective" = true := by first | (simp [plainName, overriddenIn]; done) | decide +kernel

theorem pd_pf : parseMethodDescriptor "(DDJDDJ)Z" = some ⟨[.double, .double, .long, .double, .double, .long], some .boolean⟩ := by decide +kernel

theorem dex_0 : decode method_3_code 0 = .ok (.iload_n 0, 1) := by decide +kernel
theorem dex_1 : decode method_3_code 1 = .ok (.ifCond .eq 19, 3) := by decide +kernel
theorem dex_4 : decode method_3_code 4 = .ok (.iload_n 2, 1) := by decide +kernel
theorem dex_5 : decode method_3_code 5 = .ok (.iload 6, 2) := by decide +kernel
theorem dex_7 : decode method_3_code 7 = .ok (.if_icmp .ge 5, 3) := by decide +kernel
theorem dex_10 : decode method_3_code 10 = .ok (.iconst 1, 1) := by decide +kernel
theorem dex_11 : decode method_3_code 11 = .ok (.ireturn, 1) := by decide +kernel
theorem dex_12 : decode method_3_code 12 = .ok (.iload 6, 2) := by decide +kernel
theorem dex_14 : decode method_3_code 14 = .ok (.iload_n 2, 1) := by decide +kernel
theorem dex_15 : decode method_3_code 15 = .ok (.if_icmp .ge 5, 3) := by decide +kernel
theorem dex_18 : decode method_3_code 18 = .ok (.iconst 0, 1) := by decide +kernel
theorem dex_19 : decode method_3_code 19 = .ok (.ireturn, 1) := by decide +kernel
theorem dex_20 : decode method_3_code 20 = .ok (.iload_n 1, 1) := by decide +kernel
theorem dex_21 : decode method_3_code 21 = .ok (.iload 5, 2) := by decide +kernel
theorem dex_23 : decode method_3_code 23 = .ok (.if_icmp .ge 5, 3) := by decide +kernel
theorem dex_26 : decode method_3_code 26 = .ok (.iconst 1, 1) := by decide +kernel
theorem dex_27 : decode method_3_code 27 = .ok (.ireturn, 1) := by decide +kernel
theorem dex_28 : decode method_3_code 28 = .ok (.iload 5, 2) := by decide +kernel
theorem dex_30 : decode method_3_code 30 = .ok (.iload_n 1, 1) := by decide +kernel
theorem dex_31 : decode method_3_code 31 = .ok (.if_icmp .ge 5, 3) := by decide +kernel
theorem dex_34 : decode method_3_code 34 = .ok (.iconst 0, 1) := by decide +kernel
theorem dex_35 : decode method_3_code 35 = .ok (.ireturn, 1) := by decide +kernel
theorem dex_36 : decode method_3_code 36 = .ok (.lload_n 3, 1) := by decide +kernel
theorem dex_37 : decode method_3_code 37 = .ok (.lload 7, 2) := by decide +kernel
theorem dex_39 : decode method_3_code 39 = .ok (.lcmp, 1) := by decide +kernel
theorem dex_40 : decode method_3_code 40 = .ok (.ifCond .ge 7, 3) := by decide +kernel
theorem dex_43 : decode method_3_code 43 = .ok (.iconst 1, 1) := by decide +kernel
theorem dex_44 : decode method_3_code 44 = .ok (.goto 4, 3) := by decide +kernel
theorem dex_47 : decode method_3_code 47 = .ok (.iconst 0, 1) := by decide +kernel
theorem dex_48 : decode method_3_code 48 = .ok (.ireturn, 1) := by decide +kernel

theorem pn_ex : plainName "com/example/joinsmith/joinsmith/planner/strategy/ObjectivePrefersPinLaw" = true := by first | (simp [plainName, overriddenIn]; done) | decide +kernel

theorem pd_ex : parseMethodDescriptor "(ZIIJIIJ)Z" = some ⟨[.boolean, .int, .int, .long, .int, .int, .long], some .boolean⟩ := by decide +kernel

theorem pn_law : plainName "com/example/joinsmith/joinsmith/planner/strategy/ObjectivePrefersPinLaw" = true := by first | (simp [plainName, overriddenIn]; done) | decide +kernel

theorem ef_pf (x0 : Addr) (x1 : UInt64) (x2 : UInt64) (x3 : Int64) (x4 : UInt64) (x5 : UInt64) (x6 : Int64) (m : MethodId) : entryFrame m #[(.ref x0), (.double x1), (.double x2), (.long x3), (.double x4), (.double x5), (.long x6)] 14 = mkF m 0 #[.val (.ref x0), .val (.double x1), .second, .val (.double x2), .second, .val (.long x3), .second, .val (.double x4), .second, .val (.double x5), .second, .val (.long x6), .second, .unset] [] := by first | (simp [entryFrame, mkF, argsToLocals, Value.category]; done) | rfl

theorem ef_ex (x0 : Int32) (x1 : Int32) (x2 : Int32) (x3 : Int64) (x4 : Int32) (x5 : Int32) (x6 : Int64) (m : MethodId) : entryFrame m #[(.int x0), (.int x1), (.int x2), (.long x3), (.int x4), (.int x5), (.long x6)] 9 = mkF m 0 #[.val (.int x0), .val (.int x1), .val (.int x2), .val (.long x3), .second, .val (.int x4), .val (.int x5), .val (.long x6), .second] [] := by first | (simp [entryFrame, mkF, argsToLocals, Value.category]; done) | rfl

theorem ef_law (x0 : Int32) (x1 : Int64) (x2 : Int64) (x3 : Int64) (x4 : Int64) (m : MethodId) : entryFrame m #[(.int x0), (.long x1), (.long x2), (.long x3), (.long x4)] maxLocals = mkF m 0 #[.val (.int x0), .val (.long x1), .second, .val (.long x2), .second, .val (.long x3), .second, .val (.long x4), .second, .unset, .unset, .unset, .unset, .unset, .unset, .unset, .unset, .unset, .unset, .unset, .unset] [] := by first | (simp [entryFrame, mkF, argsToLocals, Value.category, maxLocals]; done) | rfl

theorem own_eq_int {args : Array Value} {s : State} {t : Term} {z : Int32} (h : (Jvm.Cond.eq t (Term.int z)).value args s none s [] = some true) : t.eval args s none [] s = some (.int z) := by
  simp only [Cond.value, Term.eval] at h
  cases ht : t.eval args s none [] s with
  | none => simp [ht] at h
  | some y => cases y <;> simp [ht] at h ⊢ <;> exact h
theorem own_li {x y : Int32} : x < y ↔ x.toInt < y.toInt := Int32.lt_iff_toInt_lt
theorem own_ll {x y : Int64} : x < y ↔ x.toInt < y.toInt := Int64.lt_iff_toInt_lt
set_option maxRecDepth 65536 in
set_option maxHeartbeats 4000000 in
theorem rm_ex1 (l : Launch) (Z : State) (a0 : Array Value) (hw : ∀ d ∈ tables_1, d.before a0 Z = true) (ws : List Jvm.Cond) (c1 t1 : Int32) (m1 : Int64) (c2 t2 : Int32) (m2 : Int64) (h0 : Heap)  :
    MetQ l Z (⟨"com/example/joinsmith/joinsmith/planner/strategy/ObjectivePrefersPinLaw", "expected", "(ZIIJIIJ)Z"⟩ : MethodName) method_3_code 9 (some .boolean) ws ({ frames := 0, cells := 0, slots := 0, locals := 0 } : Room) #[(.int (1 : Int32)), (.int c1), (.int t1), (.long m1), (.int c2), (.int t2), (.long m2)] h0 (PureQ (some (.int (own_pt c1 t1 m1 c2 t2 m2))) h0) := by
  refine metQ (a0 := a0) (plainFor_of_name pn_ex) hw (ef_ex (1 : Int32) c1 t1 m1 c2 t2 m2) ?_
  intro p e s m below meth c T0 C X0 e0
  obtain ⟨hx, hZ, hw, hby, hml, hown, hnm, hret, hlk⟩ := id C
  show WP p e below _ T0 (mkF m 0 #[.val (.int (1 : Int32)), .val (.int c1), .val (.int t1), .val (.long m1), .second, .val (.int c2), .val (.int t2), .val (.long m2), .second] [])
  refine wp (fun _ => XS.iloadN X0.here hx rfl (hb hby dex_0) rfl) ?_
  show WP p e below _ T0 (mkF m 1 #[.val (.int (1 : Int32)), .val (.int c1), .val (.int t1), .val (.long m1), .second, .val (.int c2), .val (.int t2), .val (.long m2), .second] [(.int (1 : Int32))])
  refine wp (fun _ => XS.ifNo X0.here hx rfl (hb hby dex_1) rfl (XT.i0_eq_f (by decide))) ?_
  show WP p e below _ T0 (mkF m 4 #[.val (.int (1 : Int32)), .val (.int c1), .val (.int t1), .val (.long m1), .second, .val (.int c2), .val (.int t2), .val (.long m2), .second] [])
  refine wp (fun _ => XS.iloadN X0.here hx rfl (hb hby dex_4) rfl) ?_
  show WP p e below _ T0 (mkF m 5 #[.val (.int (1 : Int32)), .val (.int c1), .val (.int t1), .val (.long m1), .second, .val (.int c2), .val (.int t2), .val (.long m2), .second] [(.int t1)])
  refine wp (fun _ => XS.iload X0.here hx rfl (hb hby dex_5) rfl) ?_
  show WP p e below _ T0 (mkF m 7 #[.val (.int (1 : Int32)), .val (.int c1), .val (.int t1), .val (.long m1), .second, .val (.int c2), .val (.int t2), .val (.long m2), .second] [(.int t2), (.int t1)])
  by_cases hc1 : t1 < t2
  ·
    have hc1' := own_li.mp hc1
    refine wp (fun _ => XS.icmpNo X0.here hx rfl (hb hby dex_7) rfl (XT.ii_ge_f hc1)) ?_
    show WP p e below _ T0 (mkF m 10 #[.val (.int (1 : Int32)), .val (.int c1), .val (.int t1), .val (.long m1), .second, .val (.int c2), .val (.int t2), .val (.long m2), .second] [])
    refine wp (fun _ => XS.iconst X0.here hx rfl (hb hby dex_10)) ?_
    show WP p e below _ T0 (mkF m 11 #[.val (.int (1 : Int32)), .val (.int c1), .val (.int t1), .val (.long m1), .second, .val (.int c2), .val (.int t2), .val (.long m2), .second] [(.int (1 : Int32))])
    refine wp_zreturn C X0 (Or.inl rfl) dex_11 ⟨?_, e0, rfl⟩ (by decide) (by decide)
    have q : own_pt c1 t1 m1 c2 t2 m2 = (1 : Int32) := by
      unfold own_pt own_cm
      (repeat' split) <;> first | rfl | omega
    rw [q]
    rfl
  ·
    have hc1' := (not_congr own_li).mp hc1
    refine wp (fun _ => XS.icmpYes X0.here hx rfl (pc0 := 7) (pc' := 12) rfl (hb hby dex_7) rfl (XT.ii_ge_t hc1) (by decide) (by decide)) ?_
    show WP p e below _ T0 (mkF m 12 #[.val (.int (1 : Int32)), .val (.int c1), .val (.int t1), .val (.long m1), .second, .val (.int c2), .val (.int t2), .val (.long m2), .second] [])
    refine wp (fun _ => XS.iload X0.here hx rfl (hb hby dex_12) rfl) ?_
    show WP p e below _ T0 (mkF m 14 #[.val (.int (1 : Int32)), .val (.int c1), .val (.int t1), .val (.long m1), .second, .val (.int c2), .val (.int t2), .val (.long m2), .second] [(.int t2)])
    refine wp (fun _ => XS.iloadN X0.here hx rfl (hb hby dex_14) rfl) ?_
    show WP p e below _ T0 (mkF m 15 #[.val (.int (1 : Int32)), .val (.int c1), .val (.int t1), .val (.long m1), .second, .val (.int c2), .val (.int t2), .val (.long m2), .second] [(.int t1), (.int t2)])
    by_cases hc2 : t2 < t1
    ·
      have hc2' := own_li.mp hc2
      refine wp (fun _ => XS.icmpNo X0.here hx rfl (hb hby dex_15) rfl (XT.ii_ge_f hc2)) ?_
      show WP p e below _ T0 (mkF m 18 #[.val (.int (1 : Int32)), .val (.int c1), .val (.int t1), .val (.long m1), .second, .val (.int c2), .val (.int t2), .val (.long m2), .second] [])
      refine wp (fun _ => XS.iconst X0.here hx rfl (hb hby dex_18)) ?_
      show WP p e below _ T0 (mkF m 19 #[.val (.int (1 : Int32)), .val (.int c1), .val (.int t1), .val (.long m1), .second, .val (.int c2), .val (.int t2), .val (.long m2), .second] [(.int (0 : Int32))])
      refine wp_zreturn C X0 (Or.inl rfl) dex_19 ⟨?_, e0, rfl⟩ (by decide) (by decide)
      have q : own_pt c1 t1 m1 c2 t2 m2 = (0 : Int32) := by
        unfold own_pt own_cm
        (repeat' split) <;> first | rfl | omega
      rw [q]
      rfl
    ·
      have hc2' := (not_congr own_li).mp hc2
      refine wp (fun _ => XS.icmpYes X0.here hx rfl (pc0 := 15) (pc' := 20) rfl (hb hby dex_15) rfl (XT.ii_ge_t hc2) (by decide) (by decide)) ?_
      show WP p e below _ T0 (mkF m 20 #[.val (.int (1 : Int32)), .val (.int c1), .val (.int t1), .val (.long m1), .second, .val (.int c2), .val (.int t2), .val (.long m2), .second] [])
      refine wp (fun _ => XS.iloadN X0.here hx rfl (hb hby dex_20) rfl) ?_
      show WP p e below _ T0 (mkF m 21 #[.val (.int (1 : Int32)), .val (.int c1), .val (.int t1), .val (.long m1), .second, .val (.int c2), .val (.int t2), .val (.long m2), .second] [(.int c1)])
      refine wp (fun _ => XS.iload X0.here hx rfl (hb hby dex_21) rfl) ?_
      show WP p e below _ T0 (mkF m 23 #[.val (.int (1 : Int32)), .val (.int c1), .val (.int t1), .val (.long m1), .second, .val (.int c2), .val (.int t2), .val (.long m2), .second] [(.int c2), (.int c1)])
      by_cases hc3 : c1 < c2
      ·
        have hc3' := own_li.mp hc3
        refine wp (fun _ => XS.icmpNo X0.here hx rfl (hb hby dex_23) rfl (XT.ii_ge_f hc3)) ?_
        show WP p e below _ T0 (mkF m 26 #[.val (.int (1 : Int32)), .val (.int c1), .val (.int t1), .val (.long m1), .second, .val (.int c2), .val (.int t2), .val (.long m2), .second] [])
        refine wp (fun _ => XS.iconst X0.here hx rfl (hb hby dex_26)) ?_
        show WP p e below _ T0 (mkF m 27 #[.val (.int (1 : Int32)), .val (.int c1), .val (.int t1), .val (.long m1), .second, .val (.int c2), .val (.int t2), .val (.long m2), .second] [(.int (1 : Int32))])
        refine wp_zreturn C X0 (Or.inl rfl) dex_27 ⟨?_, e0, rfl⟩ (by decide) (by decide)
        have q : own_pt c1 t1 m1 c2 t2 m2 = (1 : Int32) := by
          unfold own_pt own_cm
          (repeat' split) <;> first | rfl | omega
        rw [q]
        rfl
      ·
        have hc3' := (not_congr own_li).mp hc3
        refine wp (fun _ => XS.icmpYes X0.here hx rfl (pc0 := 23) (pc' := 28) rfl (hb hby dex_23) rfl (XT.ii_ge_t hc3) (by decide) (by decide)) ?_
        show WP p e below _ T0 (mkF m 28 #[.val (.int (1 : Int32)), .val (.int c1), .val (.int t1), .val (.long m1), .second, .val (.int c2), .val (.int t2), .val (.long m2), .second] [])
        refine wp (fun _ => XS.iload X0.here hx rfl (hb hby dex_28) rfl) ?_
        show WP p e below _ T0 (mkF m 30 #[.val (.int (1 : Int32)), .val (.int c1), .val (.int t1), .val (.long m1), .second, .val (.int c2), .val (.int t2), .val (.long m2), .second] [(.int c2)])
        refine wp (fun _ => XS.iloadN X0.here hx rfl (hb hby dex_30) rfl) ?_
        show WP p e below _ T0 (mkF m 31 #[.val (.int (1 : Int32)), .val (.int c1), .val (.int t1), .val (.long m1), .second, .val (.int c2), .val (.int t2), .val (.long m2), .second] [(.int c1), (.int c2)])
        by_cases hc4 : c2 < c1
        ·
          have hc4' := own_li.mp hc4
          refine wp (fun _ => XS.icmpNo X0.here hx rfl (hb hby dex_31) rfl (XT.ii_ge_f hc4)) ?_
          show WP p e below _ T0 (mkF m 34 #[.val (.int (1 : Int32)), .val (.int c1), .val (.int t1), .val (.long m1), .second, .val (.int c2), .val (.int t2), .val (.long m2), .second] [])
          refine wp (fun _ => XS.iconst X0.here hx rfl (hb hby dex_34)) ?_
          show WP p e below _ T0 (mkF m 35 #[.val (.int (1 : Int32)), .val (.int c1), .val (.int t1), .val (.long m1), .second, .val (.int c2), .val (.int t2), .val (.long m2), .second] [(.int (0 : Int32))])
          refine wp_zreturn C X0 (Or.inl rfl) dex_35 ⟨?_, e0, rfl⟩ (by decide) (by decide)
          have q : own_pt c1 t1 m1 c2 t2 m2 = (0 : Int32) := by
            unfold own_pt own_cm
            (repeat' split) <;> first | rfl | omega
          rw [q]
          rfl
        ·
          have hc4' := (not_congr own_li).mp hc4
          refine wp (fun _ => XS.icmpYes X0.here hx rfl (pc0 := 31) (pc' := 36) rfl (hb hby dex_31) rfl (XT.ii_ge_t hc4) (by decide) (by decide)) ?_
          show WP p e below _ T0 (mkF m 36 #[.val (.int (1 : Int32)), .val (.int c1), .val (.int t1), .val (.long m1), .second, .val (.int c2), .val (.int t2), .val (.long m2), .second] [])
          refine wp (fun _ => XS.lloadN X0.here hx rfl (hb hby dex_36) rfl) ?_
          show WP p e below _ T0 (mkF m 37 #[.val (.int (1 : Int32)), .val (.int c1), .val (.int t1), .val (.long m1), .second, .val (.int c2), .val (.int t2), .val (.long m2), .second] [(.long m1)])
          refine wp (fun _ => XS.lload X0.here hx rfl (hb hby dex_37) rfl) ?_
          show WP p e below _ T0 (mkF m 39 #[.val (.int (1 : Int32)), .val (.int c1), .val (.int t1), .val (.long m1), .second, .val (.int c2), .val (.int t2), .val (.long m2), .second] [(.long m2), (.long m1)])
          refine wp (fun _ => XT.lcmp X0.here hx rfl (hb hby dex_39) rfl) ?_
          show WP p e below _ T0 (mkF m 40 #[.val (.int (1 : Int32)), .val (.int c1), .val (.int t1), .val (.long m1), .second, .val (.int c2), .val (.int t2), .val (.long m2), .second] [(.int (XT.cmpL m1 m2))])
          by_cases hc5 : m1 < m2
          ·
            have hc5' := own_ll.mp hc5
            refine wp (fun _ => XS.ifNo X0.here hx rfl (hb hby dex_40) rfl (XT.ll_ge_f hc5)) ?_
            show WP p e below _ T0 (mkF m 43 #[.val (.int (1 : Int32)), .val (.int c1), .val (.int t1), .val (.long m1), .second, .val (.int c2), .val (.int t2), .val (.long m2), .second] [])
            refine wp (fun _ => XS.iconst X0.here hx rfl (hb hby dex_43)) ?_
            show WP p e below _ T0 (mkF m 44 #[.val (.int (1 : Int32)), .val (.int c1), .val (.int t1), .val (.long m1), .second, .val (.int c2), .val (.int t2), .val (.long m2), .second] [(.int (1 : Int32))])
            refine wp (fun _ => XS.goto X0.here hx rfl (pc0 := 44) (pc' := 48) rfl (hb hby dex_44) (by decide) (by decide)) ?_
            show WP p e below _ T0 (mkF m 48 #[.val (.int (1 : Int32)), .val (.int c1), .val (.int t1), .val (.long m1), .second, .val (.int c2), .val (.int t2), .val (.long m2), .second] [(.int (1 : Int32))])
            refine wp_zreturn C X0 (Or.inl rfl) dex_48 ⟨?_, e0, rfl⟩ (by decide) (by decide)
            have q : own_pt c1 t1 m1 c2 t2 m2 = (1 : Int32) := by
              unfold own_pt own_cm
              (repeat' split) <;> first | rfl | omega
            rw [q]
            rfl
          ·
            have hc5' := (not_congr own_ll).mp hc5
            refine wp (fun _ => XS.ifYes X0.here hx rfl (pc0 := 40) (pc' := 47) rfl (hb hby dex_40) rfl (XT.ll_ge_t hc5) (by decide) (by decide)) ?_
            show WP p e below _ T0 (mkF m 47 #[.val (.int (1 : Int32)), .val (.int c1), .val (.int t1), .val (.long m1), .second, .val (.int c2), .val (.int t2), .val (.long m2), .second] [])
            refine wp (fun _ => XS.iconst X0.here hx rfl (hb hby dex_47)) ?_
            show WP p e below _ T0 (mkF m 48 #[.val (.int (1 : Int32)), .val (.int c1), .val (.int t1), .val (.long m1), .second, .val (.int c2), .val (.int t2), .val (.long m2), .second] [(.int (0 : Int32))])
            refine wp_zreturn C X0 (Or.inl rfl) dex_48 ⟨?_, e0, rfl⟩ (by decide) (by decide)
            have q : own_pt c1 t1 m1 c2 t2 m2 = (0 : Int32) := by
              unfold own_pt own_cm
              (repeat' split) <;> first | rfl | omega
            rw [q]
            rfl
set_option maxRecDepth 65536 in
set_option maxHeartbeats 4000000 in
theorem rm_ex0 (l : Launch) (Z : State) (a0 : Array Value) (hw : ∀ d ∈ tables_1, d.before a0 Z = true) (ws : List Jvm.Cond) (c1 t1 : Int32) (m1 : Int64) (c2 t2 : Int32) (m2 : Int64) (h0 : Heap)  :
    MetQ l Z (⟨"com/example/joinsmith/joinsmith/planner/strategy/ObjectivePrefersPinLaw", "expected", "(ZIIJIIJ)Z"⟩ : MethodName) method_3_code 9 (some .boolean) ws ({ frames := 0, cells := 0, slots := 0, locals := 0 } : Room) #[(.int (0 : Int32)), (.int c1), (.int t1), (.long m1), (.int c2), (.int t2), (.long m2)] h0 (PureQ (some (.int (own_cm c1 m1 c2 m2))) h0) := by
  refine metQ (a0 := a0) (plainFor_of_name pn_ex) hw (ef_ex (0 : Int32) c1 t1 m1 c2 t2 m2) ?_
  intro p e s m below meth c T0 C X0 e0
  obtain ⟨hx, hZ, hw, hby, hml, hown, hnm, hret, hlk⟩ := id C
  show WP p e below _ T0 (mkF m 0 #[.val (.int (0 : Int32)), .val (.int c1), .val (.int t1), .val (.long m1), .second, .val (.int c2), .val (.int t2), .val (.long m2), .second] [])
  refine wp (fun _ => XS.iloadN X0.here hx rfl (hb hby dex_0) rfl) ?_
  show WP p e below _ T0 (mkF m 1 #[.val (.int (0 : Int32)), .val (.int c1), .val (.int t1), .val (.long m1), .second, .val (.int c2), .val (.int t2), .val (.long m2), .second] [(.int (0 : Int32))])
  refine wp (fun _ => XS.ifYes X0.here hx rfl (pc0 := 1) (pc' := 20) rfl (hb hby dex_1) rfl (XT.i0_eq_t (by decide)) (by decide) (by decide)) ?_
  show WP p e below _ T0 (mkF m 20 #[.val (.int (0 : Int32)), .val (.int c1), .val (.int t1), .val (.long m1), .second, .val (.int c2), .val (.int t2), .val (.long m2), .second] [])
  refine wp (fun _ => XS.iloadN X0.here hx rfl (hb hby dex_20) rfl) ?_
  show WP p e below _ T0 (mkF m 21 #[.val (.int (0 : Int32)), .val (.int c1), .val (.int t1), .val (.long m1), .second, .val (.int c2), .val (.int t2), .val (.long m2), .second] [(.int c1)])
  refine wp (fun _ => XS.iload X0.here hx rfl (hb hby dex_21) rfl) ?_
  show WP p e below _ T0 (mkF m 23 #[.val (.int (0 : Int32)), .val (.int c1), .val (.int t1), .val (.long m1), .second, .val (.int c2), .val (.int t2), .val (.long m2), .second] [(.int c2), (.int c1)])
  by_cases hc6 : c1 < c2
  ·
    have hc6' := own_li.mp hc6
    refine wp (fun _ => XS.icmpNo X0.here hx rfl (hb hby dex_23) rfl (XT.ii_ge_f hc6)) ?_
    show WP p e below _ T0 (mkF m 26 #[.val (.int (0 : Int32)), .val (.int c1), .val (.int t1), .val (.long m1), .second, .val (.int c2), .val (.int t2), .val (.long m2), .second] [])
    refine wp (fun _ => XS.iconst X0.here hx rfl (hb hby dex_26)) ?_
    show WP p e below _ T0 (mkF m 27 #[.val (.int (0 : Int32)), .val (.int c1), .val (.int t1), .val (.long m1), .second, .val (.int c2), .val (.int t2), .val (.long m2), .second] [(.int (1 : Int32))])
    refine wp_zreturn C X0 (Or.inl rfl) dex_27 ⟨?_, e0, rfl⟩ (by decide) (by decide)
    have q : own_cm c1 m1 c2 m2 = (1 : Int32) := by
      unfold own_cm
      (repeat' split) <;> first | rfl | omega
    rw [q]
    rfl
  ·
    have hc6' := (not_congr own_li).mp hc6
    refine wp (fun _ => XS.icmpYes X0.here hx rfl (pc0 := 23) (pc' := 28) rfl (hb hby dex_23) rfl (XT.ii_ge_t hc6) (by decide) (by decide)) ?_
    show WP p e below _ T0 (mkF m 28 #[.val (.int (0 : Int32)), .val (.int c1), .val (.int t1), .val (.long m1), .second, .val (.int c2), .val (.int t2), .val (.long m2), .second] [])
    refine wp (fun _ => XS.iload X0.here hx rfl (hb hby dex_28) rfl) ?_
    show WP p e below _ T0 (mkF m 30 #[.val (.int (0 : Int32)), .val (.int c1), .val (.int t1), .val (.long m1), .second, .val (.int c2), .val (.int t2), .val (.long m2), .second] [(.int c2)])
    refine wp (fun _ => XS.iloadN X0.here hx rfl (hb hby dex_30) rfl) ?_
    show WP p e below _ T0 (mkF m 31 #[.val (.int (0 : Int32)), .val (.int c1), .val (.int t1), .val (.long m1), .second, .val (.int c2), .val (.int t2), .val (.long m2), .second] [(.int c1), (.int c2)])
    by_cases hc7 : c2 < c1
    ·
      have hc7' := own_li.mp hc7
      refine wp (fun _ => XS.icmpNo X0.here hx rfl (hb hby dex_31) rfl (XT.ii_ge_f hc7)) ?_
      show WP p e below _ T0 (mkF m 34 #[.val (.int (0 : Int32)), .val (.int c1), .val (.int t1), .val (.long m1), .second, .val (.int c2), .val (.int t2), .val (.long m2), .second] [])
      refine wp (fun _ => XS.iconst X0.here hx rfl (hb hby dex_34)) ?_
      show WP p e below _ T0 (mkF m 35 #[.val (.int (0 : Int32)), .val (.int c1), .val (.int t1), .val (.long m1), .second, .val (.int c2), .val (.int t2), .val (.long m2), .second] [(.int (0 : Int32))])
      refine wp_zreturn C X0 (Or.inl rfl) dex_35 ⟨?_, e0, rfl⟩ (by decide) (by decide)
      have q : own_cm c1 m1 c2 m2 = (0 : Int32) := by
        unfold own_cm
        (repeat' split) <;> first | rfl | omega
      rw [q]
      rfl
    ·
      have hc7' := (not_congr own_li).mp hc7
      refine wp (fun _ => XS.icmpYes X0.here hx rfl (pc0 := 31) (pc' := 36) rfl (hb hby dex_31) rfl (XT.ii_ge_t hc7) (by decide) (by decide)) ?_
      show WP p e below _ T0 (mkF m 36 #[.val (.int (0 : Int32)), .val (.int c1), .val (.int t1), .val (.long m1), .second, .val (.int c2), .val (.int t2), .val (.long m2), .second] [])
      refine wp (fun _ => XS.lloadN X0.here hx rfl (hb hby dex_36) rfl) ?_
      show WP p e below _ T0 (mkF m 37 #[.val (.int (0 : Int32)), .val (.int c1), .val (.int t1), .val (.long m1), .second, .val (.int c2), .val (.int t2), .val (.long m2), .second] [(.long m1)])
      refine wp (fun _ => XS.lload X0.here hx rfl (hb hby dex_37) rfl) ?_
      show WP p e below _ T0 (mkF m 39 #[.val (.int (0 : Int32)), .val (.int c1), .val (.int t1), .val (.long m1), .second, .val (.int c2), .val (.int t2), .val (.long m2), .second] [(.long m2), (.long m1)])
      refine wp (fun _ => XT.lcmp X0.here hx rfl (hb hby dex_39) rfl) ?_
      show WP p e below _ T0 (mkF m 40 #[.val (.int (0 : Int32)), .val (.int c1), .val (.int t1), .val (.long m1), .second, .val (.int c2), .val (.int t2), .val (.long m2), .second] [(.int (XT.cmpL m1 m2))])
      by_cases hc8 : m1 < m2
      ·
        have hc8' := own_ll.mp hc8
        refine wp (fun _ => XS.ifNo X0.here hx rfl (hb hby dex_40) rfl (XT.ll_ge_f hc8)) ?_
        show WP p e below _ T0 (mkF m 43 #[.val (.int (0 : Int32)), .val (.int c1), .val (.int t1), .val (.long m1), .second, .val (.int c2), .val (.int t2), .val (.long m2), .second] [])
        refine wp (fun _ => XS.iconst X0.here hx rfl (hb hby dex_43)) ?_
        show WP p e below _ T0 (mkF m 44 #[.val (.int (0 : Int32)), .val (.int c1), .val (.int t1), .val (.long m1), .second, .val (.int c2), .val (.int t2), .val (.long m2), .second] [(.int (1 : Int32))])
        refine wp (fun _ => XS.goto X0.here hx rfl (pc0 := 44) (pc' := 48) rfl (hb hby dex_44) (by decide) (by decide)) ?_
        show WP p e below _ T0 (mkF m 48 #[.val (.int (0 : Int32)), .val (.int c1), .val (.int t1), .val (.long m1), .second, .val (.int c2), .val (.int t2), .val (.long m2), .second] [(.int (1 : Int32))])
        refine wp_zreturn C X0 (Or.inl rfl) dex_48 ⟨?_, e0, rfl⟩ (by decide) (by decide)
        have q : own_cm c1 m1 c2 m2 = (1 : Int32) := by
          unfold own_cm
          (repeat' split) <;> first | rfl | omega
        rw [q]
        rfl
      ·
        have hc8' := (not_congr own_ll).mp hc8
        refine wp (fun _ => XS.ifYes X0.here hx rfl (pc0 := 40) (pc' := 47) rfl (hb hby dex_40) rfl (XT.ll_ge_t hc8) (by decide) (by decide)) ?_
        show WP p e below _ T0 (mkF m 47 #[.val (.int (0 : Int32)), .val (.int c1), .val (.int t1), .val (.long m1), .second, .val (.int c2), .val (.int t2), .val (.long m2), .second] [])
        refine wp (fun _ => XS.iconst X0.here hx rfl (hb hby dex_47)) ?_
        show WP p e below _ T0 (mkF m 48 #[.val (.int (0 : Int32)), .val (.int c1), .val (.int t1), .val (.long m1), .second, .val (.int c2), .val (.int t2), .val (.long m2), .second] [(.int (0 : Int32))])
        refine wp_zreturn C X0 (Or.inl rfl) dex_48 ⟨?_, e0, rfl⟩ (by decide) (by decide)
        have q : own_cm c1 m1 c2 m2 = (0 : Int32) := by
          unfold own_cm
          (repeat' split) <;> first | rfl | omega
        rw [q]
        rfl
set_option maxRecDepth 65536 in
set_option maxHeartbeats 4000000 in
theorem rm_pfR (l : Launch) (Z : State) (a0 : Array Value) (hw : ∀ d ∈ tables_1, d.before a0 Z = true) (ws : List Jvm.Cond) (ob rr : Addr) (c1 t1 : Int32) (m1 : Int64) (c2 t2 : Int32) (m2 : Int64) (h0 : Heap) (S0 : Sta Z h0 "com/example/joinsmith/joinsmith/planner/strategy/Objective" "RESPONSE" "Lcom/example/joinsmith/joinsmith/planner/strategy/Objective;" (.ref rr)) (hs : ob = rr) :
    MetQ l Z (⟨"com/example/joinsmith/joinsmith/planner/strategy/Objective", "prefers", "(DDJDDJ)Z"⟩ : MethodName) prog_251_method_6_code 14 (some .boolean) ws ({ frames := 0, cells := 0, slots := 0, locals := 0 } : Room) #[(.ref ob), (.double (FP.i2d c1)), (.double (FP.i2d t1)), (.long m1), (.double (FP.i2d c2)), (.double (FP.i2d t2)), (.long m2)] h0 (PureQ (some (.int (own_pt c1 t1 m1 c2 t2 m2))) h0) := by
  refine metQ (a0 := a0) (plainFor_of_name pn_pf) hw (ef_pf ob (FP.i2d c1) (FP.i2d t1) m1 (FP.i2d c2) (FP.i2d t2) m2) ?_
  intro p e s m below meth c T0 C X0 e0
  obtain ⟨hx, hZ, hw, hby, hml, hown, hnm, hret, hlk⟩ := id C
  show WP p e below _ T0 (mkF m 0 #[.val (.ref ob), .val (.double (FP.i2d c1)), .second, .val (.double (FP.i2d t1)), .second, .val (.long m1), .second, .val (.double (FP.i2d c2)), .second, .val (.double (FP.i2d t2)), .second, .val (.long m2), .second, .unset] [])
  refine wp (fun _ => XS.aloadN X0.here hx rfl (hb hby dpf_0) rfl rfl) ?_
  show WP p e below _ T0 (mkF m 1 #[.val (.ref ob), .val (.double (FP.i2d c1)), .second, .val (.double (FP.i2d t1)), .second, .val (.long m1), .second, .val (.double (FP.i2d c2)), .second, .val (.double (FP.i2d t2)), .second, .val (.long m2), .second, .unset] [(.ref ob)])
  refine wp_getstatic C X0 e0 (hw _ (List.mem_of_getElem? (i := 8) rfl)) S0 dpf_1 ?_
  intro T1 X1 e1
  show WP p e below _ T1 (mkF m 4 #[.val (.ref ob), .val (.double (FP.i2d c1)), .second, .val (.double (FP.i2d t1)), .second, .val (.long m1), .second, .val (.double (FP.i2d c2)), .second, .val (.double (FP.i2d t2)), .second, .val (.long m2), .second, .unset] [(.ref rr), (.ref ob)])
  refine wp (fun _ => Jvm.RoadKit.acmp (g := (mkF m 4 #[.val (.ref ob), .val (.double (FP.i2d c1)), .second, .val (.double (FP.i2d t1)), .second, .val (.long m1), .second, .val (.double (FP.i2d c2)), .second, .val (.double (FP.i2d t2)), .second, .val (.long m2), .second, .unset] [(.ref rr), (.ref ob)])) X1 hx rfl rfl rfl (pc0 := 4) (pc' := 7) (same := true) rfl (hb hby dpf_4) rfl (decide_eq_true (congrArg Value.ref hs)) (by decide) (by decide)) ?_
  show WP p e below _ T1 (mkF m 7 #[.val (.ref ob), .val (.double (FP.i2d c1)), .second, .val (.double (FP.i2d t1)), .second, .val (.long m1), .second, .val (.double (FP.i2d c2)), .second, .val (.double (FP.i2d t2)), .second, .val (.long m2), .second, .unset] [])
  refine wp (fun _ => XS.dloadN X1.here hx rfl (hb hby dpf_7) rfl) ?_
  show WP p e below _ T1 (mkF m 8 #[.val (.ref ob), .val (.double (FP.i2d c1)), .second, .val (.double (FP.i2d t1)), .second, .val (.long m1), .second, .val (.double (FP.i2d c2)), .second, .val (.double (FP.i2d t2)), .second, .val (.long m2), .second, .unset] [(.double (FP.i2d t1))])
  refine wp (fun _ => XS.dload X1.here hx rfl (hb hby dpf_8) rfl) ?_
  show WP p e below _ T1 (mkF m 10 #[.val (.ref ob), .val (.double (FP.i2d c1)), .second, .val (.double (FP.i2d t1)), .second, .val (.long m1), .second, .val (.double (FP.i2d c2)), .second, .val (.double (FP.i2d t2)), .second, .val (.long m2), .second, .unset] [(.double (FP.i2d t2)), (.double (FP.i2d t1))])
  refine wp_dcmp C X1 dpf_10 ?_
  show WP p e below _ T1 (mkF m 11 #[.val (.ref ob), .val (.double (FP.i2d c1)), .second, .val (.double (FP.i2d t1)), .second, .val (.long m1), .second, .val (.double (FP.i2d c2)), .second, .val (.double (FP.i2d t2)), .second, .val (.long m2), .second, .unset] [(.int (XT.cmpL t1.toInt64 t2.toInt64))])
  by_cases hc9 : t1.toInt64 = t2.toInt64
  ·
    have hc9' := own_e64.mp hc9
    refine wp (fun _ => XS.ifYes X1.here hx rfl (pc0 := 11) (pc' := 31) rfl (hb hby dpf_11) rfl (XT.ll_eq_t hc9) (by decide) (by decide)) ?_
    show WP p e below _ T1 (mkF m 31 #[.val (.ref ob), .val (.double (FP.i2d c1)), .second, .val (.double (FP.i2d t1)), .second, .val (.long m1), .second, .val (.double (FP.i2d c2)), .second, .val (.double (FP.i2d t2)), .second, .val (.long m2), .second, .unset] [])
    refine wp (fun _ => XS.dloadN X1.here hx rfl (hb hby dpf_31) rfl) ?_
    show WP p e below _ T1 (mkF m 32 #[.val (.ref ob), .val (.double (FP.i2d c1)), .second, .val (.double (FP.i2d t1)), .second, .val (.long m1), .second, .val (.double (FP.i2d c2)), .second, .val (.double (FP.i2d t2)), .second, .val (.long m2), .second, .unset] [(.double (FP.i2d c1))])
    refine wp (fun _ => XS.dload X1.here hx rfl (hb hby dpf_32) rfl) ?_
    show WP p e below _ T1 (mkF m 34 #[.val (.ref ob), .val (.double (FP.i2d c1)), .second, .val (.double (FP.i2d t1)), .second, .val (.long m1), .second, .val (.double (FP.i2d c2)), .second, .val (.double (FP.i2d t2)), .second, .val (.long m2), .second, .unset] [(.double (FP.i2d c2)), (.double (FP.i2d c1))])
    refine wp_dcmp C X1 dpf_34 ?_
    show WP p e below _ T1 (mkF m 35 #[.val (.ref ob), .val (.double (FP.i2d c1)), .second, .val (.double (FP.i2d t1)), .second, .val (.long m1), .second, .val (.double (FP.i2d c2)), .second, .val (.double (FP.i2d t2)), .second, .val (.long m2), .second, .unset] [(.int (XT.cmpL c1.toInt64 c2.toInt64))])
    by_cases hc10 : c1.toInt64 < c2.toInt64
    ·
      have hc10' := own_l64.mp hc10
      refine wp (fun _ => XS.ifYes X1.here hx rfl (pc0 := 35) (pc' := 53) rfl (hb hby dpf_35) rfl (XT.ll_lt_t hc10) (by decide) (by decide)) ?_
      show WP p e below _ T1 (mkF m 53 #[.val (.ref ob), .val (.double (FP.i2d c1)), .second, .val (.double (FP.i2d t1)), .second, .val (.long m1), .second, .val (.double (FP.i2d c2)), .second, .val (.double (FP.i2d t2)), .second, .val (.long m2), .second, .unset] [])
      refine wp (fun _ => XS.iconst X1.here hx rfl (hb hby dpf_53)) ?_
      show WP p e below _ T1 (mkF m 54 #[.val (.ref ob), .val (.double (FP.i2d c1)), .second, .val (.double (FP.i2d t1)), .second, .val (.long m1), .second, .val (.double (FP.i2d c2)), .second, .val (.double (FP.i2d t2)), .second, .val (.long m2), .second, .unset] [(.int (1 : Int32))])
      refine wp (fun _ => XS.goto X1.here hx rfl (pc0 := 54) (pc' := 58) rfl (hb hby dpf_54) (by decide) (by decide)) ?_
      show WP p e below _ T1 (mkF m 58 #[.val (.ref ob), .val (.double (FP.i2d c1)), .second, .val (.double (FP.i2d t1)), .second, .val (.long m1), .second, .val (.double (FP.i2d c2)), .second, .val (.double (FP.i2d t2)), .second, .val (.long m2), .second, .unset] [(.int (1 : Int32))])
      refine wp (fun _ => XS.istore X1.here hx rfl (hb hby dpf_58) rfl (l' := #[.val (.ref ob), .val (.double (FP.i2d c1)), .second, .val (.double (FP.i2d t1)), .second, .val (.long m1), .second, .val (.double (FP.i2d c2)), .second, .val (.double (FP.i2d t2)), .second, .val (.long m2), .second, .val (.int (1 : Int32))]) rfl) ?_
      show WP p e below _ T1 (mkF m 60 #[.val (.ref ob), .val (.double (FP.i2d c1)), .second, .val (.double (FP.i2d t1)), .second, .val (.long m1), .second, .val (.double (FP.i2d c2)), .second, .val (.double (FP.i2d t2)), .second, .val (.long m2), .second, .val (.int (1 : Int32))] [])
      refine wp (fun _ => XS.iload X1.here hx rfl (hb hby dpf_60) rfl) ?_
      show WP p e below _ T1 (mkF m 62 #[.val (.ref ob), .val (.double (FP.i2d c1)), .second, .val (.double (FP.i2d t1)), .second, .val (.long m1), .second, .val (.double (FP.i2d c2)), .second, .val (.double (FP.i2d t2)), .second, .val (.long m2), .second, .val (.int (1 : Int32))] [(.int (1 : Int32))])
      refine wp_zreturn C X1 (Or.inl rfl) dpf_62 ⟨?_, e1, rfl⟩ (by decide) (by decide)
      have q : own_pt c1 t1 m1 c2 t2 m2 = (1 : Int32) := by
        unfold own_pt own_cm
        (repeat' split) <;> first | rfl | omega
      rw [q]
      rfl
    ·
      have hc10' := (not_congr own_l64).mp hc10
      refine wp (fun _ => XS.ifNo X1.here hx rfl (hb hby dpf_35) rfl (XT.ll_lt_f hc10)) ?_
      show WP p e below _ T1 (mkF m 38 #[.val (.ref ob), .val (.double (FP.i2d c1)), .second, .val (.double (FP.i2d t1)), .second, .val (.long m1), .second, .val (.double (FP.i2d c2)), .second, .val (.double (FP.i2d t2)), .second, .val (.long m2), .second, .unset] [])
      refine wp (fun _ => XS.dloadN X1.here hx rfl (hb hby dpf_38) rfl) ?_
      show WP p e below _ T1 (mkF m 39 #[.val (.ref ob), .val (.double (FP.i2d c1)), .second, .val (.double (FP.i2d t1)), .second, .val (.long m1), .second, .val (.double (FP.i2d c2)), .second, .val (.double (FP.i2d t2)), .second, .val (.long m2), .second, .unset] [(.double (FP.i2d c1))])
      refine wp (fun _ => XS.dload X1.here hx rfl (hb hby dpf_39) rfl) ?_
      show WP p e below _ T1 (mkF m 41 #[.val (.ref ob), .val (.double (FP.i2d c1)), .second, .val (.double (FP.i2d t1)), .second, .val (.long m1), .second, .val (.double (FP.i2d c2)), .second, .val (.double (FP.i2d t2)), .second, .val (.long m2), .second, .unset] [(.double (FP.i2d c2)), (.double (FP.i2d c1))])
      refine wp_dcmp C X1 dpf_41 ?_
      show WP p e below _ T1 (mkF m 42 #[.val (.ref ob), .val (.double (FP.i2d c1)), .second, .val (.double (FP.i2d t1)), .second, .val (.long m1), .second, .val (.double (FP.i2d c2)), .second, .val (.double (FP.i2d t2)), .second, .val (.long m2), .second, .unset] [(.int (XT.cmpL c1.toInt64 c2.toInt64))])
      by_cases hc11 : c1.toInt64 = c2.toInt64
      ·
        have hc11' := own_e64.mp hc11
        refine wp (fun _ => XS.ifNo X1.here hx rfl (hb hby dpf_42) rfl (XT.ll_ne_f hc11)) ?_
        show WP p e below _ T1 (mkF m 45 #[.val (.ref ob), .val (.double (FP.i2d c1)), .second, .val (.double (FP.i2d t1)), .second, .val (.long m1), .second, .val (.double (FP.i2d c2)), .second, .val (.double (FP.i2d t2)), .second, .val (.long m2), .second, .unset] [])
        refine wp (fun _ => XS.lload X1.here hx rfl (hb hby dpf_45) rfl) ?_
        show WP p e below _ T1 (mkF m 47 #[.val (.ref ob), .val (.double (FP.i2d c1)), .second, .val (.double (FP.i2d t1)), .second, .val (.long m1), .second, .val (.double (FP.i2d c2)), .second, .val (.double (FP.i2d t2)), .second, .val (.long m2), .second, .unset] [(.long m1)])
        refine wp (fun _ => XS.lload X1.here hx rfl (hb hby dpf_47) rfl) ?_
        show WP p e below _ T1 (mkF m 49 #[.val (.ref ob), .val (.double (FP.i2d c1)), .second, .val (.double (FP.i2d t1)), .second, .val (.long m1), .second, .val (.double (FP.i2d c2)), .second, .val (.double (FP.i2d t2)), .second, .val (.long m2), .second, .unset] [(.long m2), (.long m1)])
        refine wp (fun _ => XT.lcmp X1.here hx rfl (hb hby dpf_49) rfl) ?_
        show WP p e below _ T1 (mkF m 50 #[.val (.ref ob), .val (.double (FP.i2d c1)), .second, .val (.double (FP.i2d t1)), .second, .val (.long m1), .second, .val (.double (FP.i2d c2)), .second, .val (.double (FP.i2d t2)), .second, .val (.long m2), .second, .unset] [(.int (XT.cmpL m1 m2))])
        by_cases hc12 : m1 < m2
        ·
          have hc12' := own_ll.mp hc12
          refine wp (fun _ => XS.ifNo X1.here hx rfl (hb hby dpf_50) rfl (XT.ll_ge_f hc12)) ?_
          show WP p e below _ T1 (mkF m 53 #[.val (.ref ob), .val (.double (FP.i2d c1)), .second, .val (.double (FP.i2d t1)), .second, .val (.long m1), .second, .val (.double (FP.i2d c2)), .second, .val (.double (FP.i2d t2)), .second, .val (.long m2), .second, .unset] [])
          refine wp (fun _ => XS.iconst X1.here hx rfl (hb hby dpf_53)) ?_
          show WP p e below _ T1 (mkF m 54 #[.val (.ref ob), .val (.double (FP.i2d c1)), .second, .val (.double (FP.i2d t1)), .second, .val (.long m1), .second, .val (.double (FP.i2d c2)), .second, .val (.double (FP.i2d t2)), .second, .val (.long m2), .second, .unset] [(.int (1 : Int32))])
          refine wp (fun _ => XS.goto X1.here hx rfl (pc0 := 54) (pc' := 58) rfl (hb hby dpf_54) (by decide) (by decide)) ?_
          show WP p e below _ T1 (mkF m 58 #[.val (.ref ob), .val (.double (FP.i2d c1)), .second, .val (.double (FP.i2d t1)), .second, .val (.long m1), .second, .val (.double (FP.i2d c2)), .second, .val (.double (FP.i2d t2)), .second, .val (.long m2), .second, .unset] [(.int (1 : Int32))])
          refine wp (fun _ => XS.istore X1.here hx rfl (hb hby dpf_58) rfl (l' := #[.val (.ref ob), .val (.double (FP.i2d c1)), .second, .val (.double (FP.i2d t1)), .second, .val (.long m1), .second, .val (.double (FP.i2d c2)), .second, .val (.double (FP.i2d t2)), .second, .val (.long m2), .second, .val (.int (1 : Int32))]) rfl) ?_
          show WP p e below _ T1 (mkF m 60 #[.val (.ref ob), .val (.double (FP.i2d c1)), .second, .val (.double (FP.i2d t1)), .second, .val (.long m1), .second, .val (.double (FP.i2d c2)), .second, .val (.double (FP.i2d t2)), .second, .val (.long m2), .second, .val (.int (1 : Int32))] [])
          refine wp (fun _ => XS.iload X1.here hx rfl (hb hby dpf_60) rfl) ?_
          show WP p e below _ T1 (mkF m 62 #[.val (.ref ob), .val (.double (FP.i2d c1)), .second, .val (.double (FP.i2d t1)), .second, .val (.long m1), .second, .val (.double (FP.i2d c2)), .second, .val (.double (FP.i2d t2)), .second, .val (.long m2), .second, .val (.int (1 : Int32))] [(.int (1 : Int32))])
          refine wp_zreturn C X1 (Or.inl rfl) dpf_62 ⟨?_, e1, rfl⟩ (by decide) (by decide)
          have q : own_pt c1 t1 m1 c2 t2 m2 = (1 : Int32) := by
            unfold own_pt own_cm
            (repeat' split) <;> first | rfl | omega
          rw [q]
          rfl
        ·
          have hc12' := (not_congr own_ll).mp hc12
          refine wp (fun _ => XS.ifYes X1.here hx rfl (pc0 := 50) (pc' := 57) rfl (hb hby dpf_50) rfl (XT.ll_ge_t hc12) (by decide) (by decide)) ?_
          show WP p e below _ T1 (mkF m 57 #[.val (.ref ob), .val (.double (FP.i2d c1)), .second, .val (.double (FP.i2d t1)), .second, .val (.long m1), .second, .val (.double (FP.i2d c2)), .second, .val (.double (FP.i2d t2)), .second, .val (.long m2), .second, .unset] [])
          refine wp (fun _ => XS.iconst X1.here hx rfl (hb hby dpf_57)) ?_
          show WP p e below _ T1 (mkF m 58 #[.val (.ref ob), .val (.double (FP.i2d c1)), .second, .val (.double (FP.i2d t1)), .second, .val (.long m1), .second, .val (.double (FP.i2d c2)), .second, .val (.double (FP.i2d t2)), .second, .val (.long m2), .second, .unset] [(.int (0 : Int32))])
          refine wp (fun _ => XS.istore X1.here hx rfl (hb hby dpf_58) rfl (l' := #[.val (.ref ob), .val (.double (FP.i2d c1)), .second, .val (.double (FP.i2d t1)), .second, .val (.long m1), .second, .val (.double (FP.i2d c2)), .second, .val (.double (FP.i2d t2)), .second, .val (.long m2), .second, .val (.int (0 : Int32))]) rfl) ?_
          show WP p e below _ T1 (mkF m 60 #[.val (.ref ob), .val (.double (FP.i2d c1)), .second, .val (.double (FP.i2d t1)), .second, .val (.long m1), .second, .val (.double (FP.i2d c2)), .second, .val (.double (FP.i2d t2)), .second, .val (.long m2), .second, .val (.int (0 : Int32))] [])
          refine wp (fun _ => XS.iload X1.here hx rfl (hb hby dpf_60) rfl) ?_
          show WP p e below _ T1 (mkF m 62 #[.val (.ref ob), .val (.double (FP.i2d c1)), .second, .val (.double (FP.i2d t1)), .second, .val (.long m1), .second, .val (.double (FP.i2d c2)), .second, .val (.double (FP.i2d t2)), .second, .val (.long m2), .second, .val (.int (0 : Int32))] [(.int (0 : Int32))])
          refine wp_zreturn C X1 (Or.inl rfl) dpf_62 ⟨?_, e1, rfl⟩ (by decide) (by decide)
          have q : own_pt c1 t1 m1 c2 t2 m2 = (0 : Int32) := by
            unfold own_pt own_cm
            (repeat' split) <;> first | rfl | omega
          rw [q]
          rfl
      ·
        have hc11' := (not_congr own_e64).mp hc11
        refine wp (fun _ => XS.ifYes X1.here hx rfl (pc0 := 42) (pc' := 57) rfl (hb hby dpf_42) rfl (XT.ll_ne_t hc11) (by decide) (by decide)) ?_
        show WP p e below _ T1 (mkF m 57 #[.val (.ref ob), .val (.double (FP.i2d c1)), .second, .val (.double (FP.i2d t1)), .second, .val (.long m1), .second, .val (.double (FP.i2d c2)), .second, .val (.double (FP.i2d t2)), .second, .val (.long m2), .second, .unset] [])
        refine wp (fun _ => XS.iconst X1.here hx rfl (hb hby dpf_57)) ?_
        show WP p e below _ T1 (mkF m 58 #[.val (.ref ob), .val (.double (FP.i2d c1)), .second, .val (.double (FP.i2d t1)), .second, .val (.long m1), .second, .val (.double (FP.i2d c2)), .second, .val (.double (FP.i2d t2)), .second, .val (.long m2), .second, .unset] [(.int (0 : Int32))])
        refine wp (fun _ => XS.istore X1.here hx rfl (hb hby dpf_58) rfl (l' := #[.val (.ref ob), .val (.double (FP.i2d c1)), .second, .val (.double (FP.i2d t1)), .second, .val (.long m1), .second, .val (.double (FP.i2d c2)), .second, .val (.double (FP.i2d t2)), .second, .val (.long m2), .second, .val (.int (0 : Int32))]) rfl) ?_
        show WP p e below _ T1 (mkF m 60 #[.val (.ref ob), .val (.double (FP.i2d c1)), .second, .val (.double (FP.i2d t1)), .second, .val (.long m1), .second, .val (.double (FP.i2d c2)), .second, .val (.double (FP.i2d t2)), .second, .val (.long m2), .second, .val (.int (0 : Int32))] [])
        refine wp (fun _ => XS.iload X1.here hx rfl (hb hby dpf_60) rfl) ?_
        show WP p e below _ T1 (mkF m 62 #[.val (.ref ob), .val (.double (FP.i2d c1)), .second, .val (.double (FP.i2d t1)), .second, .val (.long m1), .second, .val (.double (FP.i2d c2)), .second, .val (.double (FP.i2d t2)), .second, .val (.long m2), .second, .val (.int (0 : Int32))] [(.int (0 : Int32))])
        refine wp_zreturn C X1 (Or.inl rfl) dpf_62 ⟨?_, e1, rfl⟩ (by decide) (by decide)
        have q : own_pt c1 t1 m1 c2 t2 m2 = (0 : Int32) := by
          unfold own_pt own_cm
          (repeat' split) <;> first | rfl | omega
        rw [q]
        rfl
  ·
    have hc9' := (not_congr own_e64).mp hc9
    refine wp (fun _ => XS.ifNo X1.here hx rfl (hb hby dpf_11) rfl (XT.ll_eq_f hc9)) ?_
    show WP p e below _ T1 (mkF m 14 #[.val (.ref ob), .val (.double (FP.i2d c1)), .second, .val (.double (FP.i2d t1)), .second, .val (.long m1), .second, .val (.double (FP.i2d c2)), .second, .val (.double (FP.i2d t2)), .second, .val (.long m2), .second, .unset] [])
    refine wp (fun _ => XS.dloadN X1.here hx rfl (hb hby dpf_14) rfl) ?_
    show WP p e below _ T1 (mkF m 15 #[.val (.ref ob), .val (.double (FP.i2d c1)), .second, .val (.double (FP.i2d t1)), .second, .val (.long m1), .second, .val (.double (FP.i2d c2)), .second, .val (.double (FP.i2d t2)), .second, .val (.long m2), .second, .unset] [(.double (FP.i2d t1))])
    refine wp (fun _ => XS.dload X1.here hx rfl (hb hby dpf_15) rfl) ?_
    show WP p e below _ T1 (mkF m 17 #[.val (.ref ob), .val (.double (FP.i2d c1)), .second, .val (.double (FP.i2d t1)), .second, .val (.long m1), .second, .val (.double (FP.i2d c2)), .second, .val (.double (FP.i2d t2)), .second, .val (.long m2), .second, .unset] [(.double (FP.i2d t2)), (.double (FP.i2d t1))])
    refine wp_dcmp C X1 dpf_17 ?_
    show WP p e below _ T1 (mkF m 18 #[.val (.ref ob), .val (.double (FP.i2d c1)), .second, .val (.double (FP.i2d t1)), .second, .val (.long m1), .second, .val (.double (FP.i2d c2)), .second, .val (.double (FP.i2d t2)), .second, .val (.long m2), .second, .unset] [(.int (XT.cmpL t1.toInt64 t2.toInt64))])
    by_cases hc13 : t1.toInt64 < t2.toInt64
    ·
      have hc13' := own_l64.mp hc13
      refine wp (fun _ => XS.ifNo X1.here hx rfl (hb hby dpf_18) rfl (XT.ll_ge_f hc13)) ?_
      show WP p e below _ T1 (mkF m 21 #[.val (.ref ob), .val (.double (FP.i2d c1)), .second, .val (.double (FP.i2d t1)), .second, .val (.long m1), .second, .val (.double (FP.i2d c2)), .second, .val (.double (FP.i2d t2)), .second, .val (.long m2), .second, .unset] [])
      refine wp (fun _ => XS.iconst X1.here hx rfl (hb hby dpf_21)) ?_
      show WP p e below _ T1 (mkF m 22 #[.val (.ref ob), .val (.double (FP.i2d c1)), .second, .val (.double (FP.i2d t1)), .second, .val (.long m1), .second, .val (.double (FP.i2d c2)), .second, .val (.double (FP.i2d t2)), .second, .val (.long m2), .second, .unset] [(.int (1 : Int32))])
      refine wp (fun _ => XS.goto X1.here hx rfl (pc0 := 22) (pc' := 26) rfl (hb hby dpf_22) (by decide) (by decide)) ?_
      show WP p e below _ T1 (mkF m 26 #[.val (.ref ob), .val (.double (FP.i2d c1)), .second, .val (.double (FP.i2d t1)), .second, .val (.long m1), .second, .val (.double (FP.i2d c2)), .second, .val (.double (FP.i2d t2)), .second, .val (.long m2), .second, .unset] [(.int (1 : Int32))])
      refine wp (fun _ => XS.istore X1.here hx rfl (hb hby dpf_26) rfl (l' := #[.val (.ref ob), .val (.double (FP.i2d c1)), .second, .val (.double (FP.i2d t1)), .second, .val (.long m1), .second, .val (.double (FP.i2d c2)), .second, .val (.double (FP.i2d t2)), .second, .val (.long m2), .second, .val (.int (1 : Int32))]) rfl) ?_
      show WP p e below _ T1 (mkF m 28 #[.val (.ref ob), .val (.double (FP.i2d c1)), .second, .val (.double (FP.i2d t1)), .second, .val (.long m1), .second, .val (.double (FP.i2d c2)), .second, .val (.double (FP.i2d t2)), .second, .val (.long m2), .second, .val (.int (1 : Int32))] [])
      refine wp (fun _ => XS.goto X1.here hx rfl (pc0 := 28) (pc' := 60) rfl (hb hby dpf_28) (by decide) (by decide)) ?_
      show WP p e below _ T1 (mkF m 60 #[.val (.ref ob), .val (.double (FP.i2d c1)), .second, .val (.double (FP.i2d t1)), .second, .val (.long m1), .second, .val (.double (FP.i2d c2)), .second, .val (.double (FP.i2d t2)), .second, .val (.long m2), .second, .val (.int (1 : Int32))] [])
      refine wp (fun _ => XS.iload X1.here hx rfl (hb hby dpf_60) rfl) ?_
      show WP p e below _ T1 (mkF m 62 #[.val (.ref ob), .val (.double (FP.i2d c1)), .second, .val (.double (FP.i2d t1)), .second, .val (.long m1), .second, .val (.double (FP.i2d c2)), .second, .val (.double (FP.i2d t2)), .second, .val (.long m2), .second, .val (.int (1 : Int32))] [(.int (1 : Int32))])
      refine wp_zreturn C X1 (Or.inl rfl) dpf_62 ⟨?_, e1, rfl⟩ (by decide) (by decide)
      have q : own_pt c1 t1 m1 c2 t2 m2 = (1 : Int32) := by
        unfold own_pt own_cm
        (repeat' split) <;> first | rfl | omega
      rw [q]
      rfl
    ·
      have hc13' := (not_congr own_l64).mp hc13
      refine wp (fun _ => XS.ifYes X1.here hx rfl (pc0 := 18) (pc' := 25) rfl (hb hby dpf_18) rfl (XT.ll_ge_t hc13) (by decide) (by decide)) ?_
      show WP p e below _ T1 (mkF m 25 #[.val (.ref ob), .val (.double (FP.i2d c1)), .second, .val (.double (FP.i2d t1)), .second, .val (.long m1), .second, .val (.double (FP.i2d c2)), .second, .val (.double (FP.i2d t2)), .second, .val (.long m2), .second, .unset] [])
      refine wp (fun _ => XS.iconst X1.here hx rfl (hb hby dpf_25)) ?_
      show WP p e below _ T1 (mkF m 26 #[.val (.ref ob), .val (.double (FP.i2d c1)), .second, .val (.double (FP.i2d t1)), .second, .val (.long m1), .second, .val (.double (FP.i2d c2)), .second, .val (.double (FP.i2d t2)), .second, .val (.long m2), .second, .unset] [(.int (0 : Int32))])
      refine wp (fun _ => XS.istore X1.here hx rfl (hb hby dpf_26) rfl (l' := #[.val (.ref ob), .val (.double (FP.i2d c1)), .second, .val (.double (FP.i2d t1)), .second, .val (.long m1), .second, .val (.double (FP.i2d c2)), .second, .val (.double (FP.i2d t2)), .second, .val (.long m2), .second, .val (.int (0 : Int32))]) rfl) ?_
      show WP p e below _ T1 (mkF m 28 #[.val (.ref ob), .val (.double (FP.i2d c1)), .second, .val (.double (FP.i2d t1)), .second, .val (.long m1), .second, .val (.double (FP.i2d c2)), .second, .val (.double (FP.i2d t2)), .second, .val (.long m2), .second, .val (.int (0 : Int32))] [])
      refine wp (fun _ => XS.goto X1.here hx rfl (pc0 := 28) (pc' := 60) rfl (hb hby dpf_28) (by decide) (by decide)) ?_
      show WP p e below _ T1 (mkF m 60 #[.val (.ref ob), .val (.double (FP.i2d c1)), .second, .val (.double (FP.i2d t1)), .second, .val (.long m1), .second, .val (.double (FP.i2d c2)), .second, .val (.double (FP.i2d t2)), .second, .val (.long m2), .second, .val (.int (0 : Int32))] [])
      refine wp (fun _ => XS.iload X1.here hx rfl (hb hby dpf_60) rfl) ?_
      show WP p e below _ T1 (mkF m 62 #[.val (.ref ob), .val (.double (FP.i2d c1)), .second, .val (.double (FP.i2d t1)), .second, .val (.long m1), .second, .val (.double (FP.i2d c2)), .second, .val (.double (FP.i2d t2)), .second, .val (.long m2), .second, .val (.int (0 : Int32))] [(.int (0 : Int32))])
      refine wp_zreturn C X1 (Or.inl rfl) dpf_62 ⟨?_, e1, rfl⟩ (by decide) (by decide)
      have q : own_pt c1 t1 m1 c2 t2 m2 = (0 : Int32) := by
        unfold own_pt own_cm
        (repeat' split) <;> first | rfl | omega
      rw [q]
      rfl
set_option maxRecDepth 65536 in
set_option maxHeartbeats 4000000 in
theorem rm_pfT (l : Launch) (Z : State) (a0 : Array Value) (hw : ∀ d ∈ tables_1, d.before a0 Z = true) (ws : List Jvm.Cond) (ob rr : Addr) (c1 t1 : Int32) (m1 : Int64) (c2 t2 : Int32) (m2 : Int64) (h0 : Heap) (S0 : Sta Z h0 "com/example/joinsmith/joinsmith/planner/strategy/Objective" "RESPONSE" "Lcom/example/joinsmith/joinsmith/planner/strategy/Objective;" (.ref rr)) (hs : ¬ ob = rr) :
    MetQ l Z (⟨"com/example/joinsmith/joinsmith/planner/strategy/Objective", "prefers", "(DDJDDJ)Z"⟩ : MethodName) prog_251_method_6_code 14 (some .boolean) ws ({ frames := 0, cells := 0, slots := 0, locals := 0 } : Room) #[(.ref ob), (.double (FP.i2d c1)), (.double (FP.i2d t1)), (.long m1), (.double (FP.i2d c2)), (.double (FP.i2d t2)), (.long m2)] h0 (PureQ (some (.int (own_cm c1 m1 c2 m2))) h0) := by
  refine metQ (a0 := a0) (plainFor_of_name pn_pf) hw (ef_pf ob (FP.i2d c1) (FP.i2d t1) m1 (FP.i2d c2) (FP.i2d t2) m2) ?_
  intro p e s m below meth c T0 C X0 e0
  obtain ⟨hx, hZ, hw, hby, hml, hown, hnm, hret, hlk⟩ := id C
  show WP p e below _ T0 (mkF m 0 #[.val (.ref ob), .val (.double (FP.i2d c1)), .second, .val (.double (FP.i2d t1)), .second, .val (.long m1), .second, .val (.double (FP.i2d c2)), .second, .val (.double (FP.i2d t2)), .second, .val (.long m2), .second, .unset] [])
  refine wp (fun _ => XS.aloadN X0.here hx rfl (hb hby dpf_0) rfl rfl) ?_
  show WP p e below _ T0 (mkF m 1 #[.val (.ref ob), .val (.double (FP.i2d c1)), .second, .val (.double (FP.i2d t1)), .second, .val (.long m1), .second, .val (.double (FP.i2d c2)), .second, .val (.double (FP.i2d t2)), .second, .val (.long m2), .second, .unset] [(.ref ob)])
  refine wp_getstatic C X0 e0 (hw _ (List.mem_of_getElem? (i := 8) rfl)) S0 dpf_1 ?_
  intro T1 X1 e1
  show WP p e below _ T1 (mkF m 4 #[.val (.ref ob), .val (.double (FP.i2d c1)), .second, .val (.double (FP.i2d t1)), .second, .val (.long m1), .second, .val (.double (FP.i2d c2)), .second, .val (.double (FP.i2d t2)), .second, .val (.long m2), .second, .unset] [(.ref rr), (.ref ob)])
  refine wp (fun _ => Jvm.RoadKit.acmp (g := (mkF m 4 #[.val (.ref ob), .val (.double (FP.i2d c1)), .second, .val (.double (FP.i2d t1)), .second, .val (.long m1), .second, .val (.double (FP.i2d c2)), .second, .val (.double (FP.i2d t2)), .second, .val (.long m2), .second, .unset] [(.ref rr), (.ref ob)])) X1 hx rfl rfl rfl (pc0 := 4) (pc' := 31) (same := false) rfl (hb hby dpf_4) rfl (decide_eq_false fun q => hs (Value.ref.inj q)) (by decide) (by decide)) ?_
  show WP p e below _ T1 (mkF m 31 #[.val (.ref ob), .val (.double (FP.i2d c1)), .second, .val (.double (FP.i2d t1)), .second, .val (.long m1), .second, .val (.double (FP.i2d c2)), .second, .val (.double (FP.i2d t2)), .second, .val (.long m2), .second, .unset] [])
  refine wp (fun _ => XS.dloadN X1.here hx rfl (hb hby dpf_31) rfl) ?_
  show WP p e below _ T1 (mkF m 32 #[.val (.ref ob), .val (.double (FP.i2d c1)), .second, .val (.double (FP.i2d t1)), .second, .val (.long m1), .second, .val (.double (FP.i2d c2)), .second, .val (.double (FP.i2d t2)), .second, .val (.long m2), .second, .unset] [(.double (FP.i2d c1))])
  refine wp (fun _ => XS.dload X1.here hx rfl (hb hby dpf_32) rfl) ?_
  show WP p e below _ T1 (mkF m 34 #[.val (.ref ob), .val (.double (FP.i2d c1)), .second, .val (.double (FP.i2d t1)), .second, .val (.long m1), .second, .val (.double (FP.i2d c2)), .second, .val (.double (FP.i2d t2)), .second, .val (.long m2), .second, .unset] [(.double (FP.i2d c2)), (.double (FP.i2d c1))])
  refine wp_dcmp C X1 dpf_34 ?_
  show WP p e below _ T1 (mkF m 35 #[.val (.ref ob), .val (.double (FP.i2d c1)), .second, .val (.double (FP.i2d t1)), .second, .val (.long m1), .second, .val (.double (FP.i2d c2)), .second, .val (.double (FP.i2d t2)), .second, .val (.long m2), .second, .unset] [(.int (XT.cmpL c1.toInt64 c2.toInt64))])
  by_cases hc14 : c1.toInt64 < c2.toInt64
  ·
    have hc14' := own_l64.mp hc14
    refine wp (fun _ => XS.ifYes X1.here hx rfl (pc0 := 35) (pc' := 53) rfl (hb hby dpf_35) rfl (XT.ll_lt_t hc14) (by decide) (by decide)) ?_
    show WP p e below _ T1 (mkF m 53 #[.val (.ref ob), .val (.double (FP.i2d c1)), .second, .val (.double (FP.i2d t1)), .second, .val (.long m1), .second, .val (.double (FP.i2d c2)), .second, .val (.double (FP.i2d t2)), .second, .val (.long m2), .second, .unset] [])
    refine wp (fun _ => XS.iconst X1.here hx rfl (hb hby dpf_53)) ?_
    show WP p e below _ T1 (mkF m 54 #[.val (.ref ob), .val (.double (FP.i2d c1)), .second, .val (.double (FP.i2d t1)), .second, .val (.long m1), .second, .val (.double (FP.i2d c2)), .second, .val (.double (FP.i2d t2)), .second, .val (.long m2), .second, .unset] [(.int (1 : Int32))])
    refine wp (fun _ => XS.goto X1.here hx rfl (pc0 := 54) (pc' := 58) rfl (hb hby dpf_54) (by decide) (by decide)) ?_
    show WP p e below _ T1 (mkF m 58 #[.val (.ref ob), .val (.double (FP.i2d c1)), .second, .val (.double (FP.i2d t1)), .second, .val (.long m1), .second, .val (.double (FP.i2d c2)), .second, .val (.double (FP.i2d t2)), .second, .val (.long m2), .second, .unset] [(.int (1 : Int32))])
    refine wp (fun _ => XS.istore X1.here hx rfl (hb hby dpf_58) rfl (l' := #[.val (.ref ob), .val (.double (FP.i2d c1)), .second, .val (.double (FP.i2d t1)), .second, .val (.long m1), .second, .val (.double (FP.i2d c2)), .second, .val (.double (FP.i2d t2)), .second, .val (.long m2), .second, .val (.int (1 : Int32))]) rfl) ?_
    show WP p e below _ T1 (mkF m 60 #[.val (.ref ob), .val (.double (FP.i2d c1)), .second, .val (.double (FP.i2d t1)), .second, .val (.long m1), .second, .val (.double (FP.i2d c2)), .second, .val (.double (FP.i2d t2)), .second, .val (.long m2), .second, .val (.int (1 : Int32))] [])
    refine wp (fun _ => XS.iload X1.here hx rfl (hb hby dpf_60) rfl) ?_
    show WP p e below _ T1 (mkF m 62 #[.val (.ref ob), .val (.double (FP.i2d c1)), .second, .val (.double (FP.i2d t1)), .second, .val (.long m1), .second, .val (.double (FP.i2d c2)), .second, .val (.double (FP.i2d t2)), .second, .val (.long m2), .second, .val (.int (1 : Int32))] [(.int (1 : Int32))])
    refine wp_zreturn C X1 (Or.inl rfl) dpf_62 ⟨?_, e1, rfl⟩ (by decide) (by decide)
    have q : own_cm c1 m1 c2 m2 = (1 : Int32) := by
      unfold own_cm
      (repeat' split) <;> first | rfl | omega
    rw [q]
    rfl
  ·
    have hc14' := (not_congr own_l64).mp hc14
    refine wp (fun _ => XS.ifNo X1.here hx rfl (hb hby dpf_35) rfl (XT.ll_lt_f hc14)) ?_
    show WP p e below _ T1 (mkF m 38 #[.val (.ref ob), .val (.double (FP.i2d c1)), .second, .val (.double (FP.i2d t1)), .second, .val (.long m1), .second, .val (.double (FP.i2d c2)), .second, .val (.double (FP.i2d t2)), .second, .val (.long m2), .second, .unset] [])
    refine wp (fun _ => XS.dloadN X1.here hx rfl (hb hby dpf_38) rfl) ?_
    show WP p e below _ T1 (mkF m 39 #[.val (.ref ob), .val (.double (FP.i2d c1)), .second, .val (.double (FP.i2d t1)), .second, .val (.long m1), .second, .val (.double (FP.i2d c2)), .second, .val (.double (FP.i2d t2)), .second, .val (.long m2), .second, .unset] [(.double (FP.i2d c1))])
    refine wp (fun _ => XS.dload X1.here hx rfl (hb hby dpf_39) rfl) ?_
    show WP p e below _ T1 (mkF m 41 #[.val (.ref ob), .val (.double (FP.i2d c1)), .second, .val (.double (FP.i2d t1)), .second, .val (.long m1), .second, .val (.double (FP.i2d c2)), .second, .val (.double (FP.i2d t2)), .second, .val (.long m2), .second, .unset] [(.double (FP.i2d c2)), (.double (FP.i2d c1))])
    refine wp_dcmp C X1 dpf_41 ?_
    show WP p e below _ T1 (mkF m 42 #[.val (.ref ob), .val (.double (FP.i2d c1)), .second, .val (.double (FP.i2d t1)), .second, .val (.long m1), .second, .val (.double (FP.i2d c2)), .second, .val (.double (FP.i2d t2)), .second, .val (.long m2), .second, .unset] [(.int (XT.cmpL c1.toInt64 c2.toInt64))])
    by_cases hc15 : c1.toInt64 = c2.toInt64
    ·
      have hc15' := own_e64.mp hc15
      refine wp (fun _ => XS.ifNo X1.here hx rfl (hb hby dpf_42) rfl (XT.ll_ne_f hc15)) ?_
      show WP p e below _ T1 (mkF m 45 #[.val (.ref ob), .val (.double (FP.i2d c1)), .second, .val (.double (FP.i2d t1)), .second, .val (.long m1), .second, .val (.double (FP.i2d c2)), .second, .val (.double (FP.i2d t2)), .second, .val (.long m2), .second, .unset] [])
      refine wp (fun _ => XS.lload X1.here hx rfl (hb hby dpf_45) rfl) ?_
      show WP p e below _ T1 (mkF m 47 #[.val (.ref ob), .val (.double (FP.i2d c1)), .second, .val (.double (FP.i2d t1)), .second, .val (.long m1), .second, .val (.double (FP.i2d c2)), .second, .val (.double (FP.i2d t2)), .second, .val (.long m2), .second, .unset] [(.long m1)])
      refine wp (fun _ => XS.lload X1.here hx rfl (hb hby dpf_47) rfl) ?_
      show WP p e below _ T1 (mkF m 49 #[.val (.ref ob), .val (.double (FP.i2d c1)), .second, .val (.double (FP.i2d t1)), .second, .val (.long m1), .second, .val (.double (FP.i2d c2)), .second, .val (.double (FP.i2d t2)), .second, .val (.long m2), .second, .unset] [(.long m2), (.long m1)])
      refine wp (fun _ => XT.lcmp X1.here hx rfl (hb hby dpf_49) rfl) ?_
      show WP p e below _ T1 (mkF m 50 #[.val (.ref ob), .val (.double (FP.i2d c1)), .second, .val (.double (FP.i2d t1)), .second, .val (.long m1), .second, .val (.double (FP.i2d c2)), .second, .val (.double (FP.i2d t2)), .second, .val (.long m2), .second, .unset] [(.int (XT.cmpL m1 m2))])
      by_cases hc16 : m1 < m2
      ·
        have hc16' := own_ll.mp hc16
        refine wp (fun _ => XS.ifNo X1.here hx rfl (hb hby dpf_50) rfl (XT.ll_ge_f hc16)) ?_
        show WP p e below _ T1 (mkF m 53 #[.val (.ref ob), .val (.double (FP.i2d c1)), .second, .val (.double (FP.i2d t1)), .second, .val (.long m1), .second, .val (.double (FP.i2d c2)), .second, .val (.double (FP.i2d t2)), .second, .val (.long m2), .second, .unset] [])
        refine wp (fun _ => XS.iconst X1.here hx rfl (hb hby dpf_53)) ?_
        show WP p e below _ T1 (mkF m 54 #[.val (.ref ob), .val (.double (FP.i2d c1)), .second, .val (.double (FP.i2d t1)), .second, .val (.long m1), .second, .val (.double (FP.i2d c2)), .second, .val (.double (FP.i2d t2)), .second, .val (.long m2), .second, .unset] [(.int (1 : Int32))])
        refine wp (fun _ => XS.goto X1.here hx rfl (pc0 := 54) (pc' := 58) rfl (hb hby dpf_54) (by decide) (by decide)) ?_
        show WP p e below _ T1 (mkF m 58 #[.val (.ref ob), .val (.double (FP.i2d c1)), .second, .val (.double (FP.i2d t1)), .second, .val (.long m1), .second, .val (.double (FP.i2d c2)), .second, .val (.double (FP.i2d t2)), .second, .val (.long m2), .second, .unset] [(.int (1 : Int32))])
        refine wp (fun _ => XS.istore X1.here hx rfl (hb hby dpf_58) rfl (l' := #[.val (.ref ob), .val (.double (FP.i2d c1)), .second, .val (.double (FP.i2d t1)), .second, .val (.long m1), .second, .val (.double (FP.i2d c2)), .second, .val (.double (FP.i2d t2)), .second, .val (.long m2), .second, .val (.int (1 : Int32))]) rfl) ?_
        show WP p e below _ T1 (mkF m 60 #[.val (.ref ob), .val (.double (FP.i2d c1)), .second, .val (.double (FP.i2d t1)), .second, .val (.long m1), .second, .val (.double (FP.i2d c2)), .second, .val (.double (FP.i2d t2)), .second, .val (.long m2), .second, .val (.int (1 : Int32))] [])
        refine wp (fun _ => XS.iload X1.here hx rfl (hb hby dpf_60) rfl) ?_
        show WP p e below _ T1 (mkF m 62 #[.val (.ref ob), .val (.double (FP.i2d c1)), .second, .val (.double (FP.i2d t1)), .second, .val (.long m1), .second, .val (.double (FP.i2d c2)), .second, .val (.double (FP.i2d t2)), .second, .val (.long m2), .second, .val (.int (1 : Int32))] [(.int (1 : Int32))])
        refine wp_zreturn C X1 (Or.inl rfl) dpf_62 ⟨?_, e1, rfl⟩ (by decide) (by decide)
        have q : own_cm c1 m1 c2 m2 = (1 : Int32) := by
          unfold own_cm
          (repeat' split) <;> first | rfl | omega
        rw [q]
        rfl
      ·
        have hc16' := (not_congr own_ll).mp hc16
        refine wp (fun _ => XS.ifYes X1.here hx rfl (pc0 := 50) (pc' := 57) rfl (hb hby dpf_50) rfl (XT.ll_ge_t hc16) (by decide) (by decide)) ?_
        show WP p e below _ T1 (mkF m 57 #[.val (.ref ob), .val (.double (FP.i2d c1)), .second, .val (.double (FP.i2d t1)), .second, .val (.long m1), .second, .val (.double (FP.i2d c2)), .second, .val (.double (FP.i2d t2)), .second, .val (.long m2), .second, .unset] [])
        refine wp (fun _ => XS.iconst X1.here hx rfl (hb hby dpf_57)) ?_
        show WP p e below _ T1 (mkF m 58 #[.val (.ref ob), .val (.double (FP.i2d c1)), .second, .val (.double (FP.i2d t1)), .second, .val (.long m1), .second, .val (.double (FP.i2d c2)), .second, .val (.double (FP.i2d t2)), .second, .val (.long m2), .second, .unset] [(.int (0 : Int32))])
        refine wp (fun _ => XS.istore X1.here hx rfl (hb hby dpf_58) rfl (l' := #[.val (.ref ob), .val (.double (FP.i2d c1)), .second, .val (.double (FP.i2d t1)), .second, .val (.long m1), .second, .val (.double (FP.i2d c2)), .second, .val (.double (FP.i2d t2)), .second, .val (.long m2), .second, .val (.int (0 : Int32))]) rfl) ?_
        show WP p e below _ T1 (mkF m 60 #[.val (.ref ob), .val (.double (FP.i2d c1)), .second, .val (.double (FP.i2d t1)), .second, .val (.long m1), .second, .val (.double (FP.i2d c2)), .second, .val (.double (FP.i2d t2)), .second, .val (.long m2), .second, .val (.int (0 : Int32))] [])
        refine wp (fun _ => XS.iload X1.here hx rfl (hb hby dpf_60) rfl) ?_
        show WP p e below _ T1 (mkF m 62 #[.val (.ref ob), .val (.double (FP.i2d c1)), .second, .val (.double (FP.i2d t1)), .second, .val (.long m1), .second, .val (.double (FP.i2d c2)), .second, .val (.double (FP.i2d t2)), .second, .val (.long m2), .second, .val (.int (0 : Int32))] [(.int (0 : Int32))])
        refine wp_zreturn C X1 (Or.inl rfl) dpf_62 ⟨?_, e1, rfl⟩ (by decide) (by decide)
        have q : own_cm c1 m1 c2 m2 = (0 : Int32) := by
          unfold own_cm
          (repeat' split) <;> first | rfl | omega
        rw [q]
        rfl
    ·
      have hc15' := (not_congr own_e64).mp hc15
      refine wp (fun _ => XS.ifYes X1.here hx rfl (pc0 := 42) (pc' := 57) rfl (hb hby dpf_42) rfl (XT.ll_ne_t hc15) (by decide) (by decide)) ?_
      show WP p e below _ T1 (mkF m 57 #[.val (.ref ob), .val (.double (FP.i2d c1)), .second, .val (.double (FP.i2d t1)), .second, .val (.long m1), .second, .val (.double (FP.i2d c2)), .second, .val (.double (FP.i2d t2)), .second, .val (.long m2), .second, .unset] [])
      refine wp (fun _ => XS.iconst X1.here hx rfl (hb hby dpf_57)) ?_
      show WP p e below _ T1 (mkF m 58 #[.val (.ref ob), .val (.double (FP.i2d c1)), .second, .val (.double (FP.i2d t1)), .second, .val (.long m1), .second, .val (.double (FP.i2d c2)), .second, .val (.double (FP.i2d t2)), .second, .val (.long m2), .second, .unset] [(.int (0 : Int32))])
      refine wp (fun _ => XS.istore X1.here hx rfl (hb hby dpf_58) rfl (l' := #[.val (.ref ob), .val (.double (FP.i2d c1)), .second, .val (.double (FP.i2d t1)), .second, .val (.long m1), .second, .val (.double (FP.i2d c2)), .second, .val (.double (FP.i2d t2)), .second, .val (.long m2), .second, .val (.int (0 : Int32))]) rfl) ?_
      show WP p e below _ T1 (mkF m 60 #[.val (.ref ob), .val (.double (FP.i2d c1)), .second, .val (.double (FP.i2d t1)), .second, .val (.long m1), .second, .val (.double (FP.i2d c2)), .second, .val (.double (FP.i2d t2)), .second, .val (.long m2), .second, .val (.int (0 : Int32))] [])
      refine wp (fun _ => XS.iload X1.here hx rfl (hb hby dpf_60) rfl) ?_
      show WP p e below _ T1 (mkF m 62 #[.val (.ref ob), .val (.double (FP.i2d c1)), .second, .val (.double (FP.i2d t1)), .second, .val (.long m1), .second, .val (.double (FP.i2d c2)), .second, .val (.double (FP.i2d t2)), .second, .val (.long m2), .second, .val (.int (0 : Int32))] [(.int (0 : Int32))])
      refine wp_zreturn C X1 (Or.inl rfl) dpf_62 ⟨?_, e1, rfl⟩ (by decide) (by decide)
      have q : own_cm c1 m1 c2 m2 = (0 : Int32) := by
        unfold own_cm
        (repeat' split) <;> first | rfl | omega
      rw [q]
      rfl
section Own
variable {p : Program} {l : Launch} {e : Env} {R : Room} {s : State} {m : MethodId} {args : Array Value} {below : List Frame} {meth : Method} {c : Code} {T0 : State} {locs : List Loc} {cells slots : Nat} {Z : State} {a0 : Array Value} {h0 : Heap} {Q : State → Prop}

set_option maxRecDepth 65536 in
set_option maxHeartbeats 4000000 in
theorem forkC (p0 : Int32) (q1 q2 q3 q4 : Int64) (z9 : Int32) (ob : Addr) (c1 c0 : Int32) (C : Cx p s m meth c Z a0 code 21 "com/example/joinsmith/joinsmith/planner/strategy/ObjectivePrefersPinLaw" "law" (some .boolean)) (X0 : Stand p l e R s m args below meth c T0 locs cells slots)
    (k : ∀ c2 : Int32, WP p e below Q T0 (mkF m 50 #[.val (.int p0), .val (.long q1), .second, .val (.long q2), .second, .val (.long q3), .second, .val (.long q4), .second, .val (.int z9), .val (.ref ob), .val (.int c1), .val (.int c2), .unset, .unset, .unset, .unset, .unset, .unset, .unset, .unset] [])) : WP p e below Q T0 (mkF m 40 #[.val (.int p0), .val (.long q1), .second, .val (.long q2), .second, .val (.long q3), .second, .val (.long q4), .second, .val (.int z9), .val (.ref ob), .val (.int c1), .val (.int c0), .unset, .unset, .unset, .unset, .unset, .unset, .unset, .unset] []) := by
  obtain ⟨hx, hZ, hw, hby, hml, hown, hnm, hret, hlk⟩ := id C
  show WP p e below _ T0 (mkF m 40 #[.val (.int p0), .val (.long q1), .second, .val (.long q2), .second, .val (.long q3), .second, .val (.long q4), .second, .val (.int z9), .val (.ref ob), .val (.int c1), .val (.int c0), .unset, .unset, .unset, .unset, .unset, .unset, .unset, .unset] [])
  refine wp (fun _ => XS.iloadN X0.here hx rfl (hb hby at_40) rfl) ?_
  show WP p e below _ T0 (mkF m 41 #[.val (.int p0), .val (.long q1), .second, .val (.long q2), .second, .val (.long q3), .second, .val (.long q4), .second, .val (.int z9), .val (.ref ob), .val (.int c1), .val (.int c0), .unset, .unset, .unset, .unset, .unset, .unset, .unset, .unset] [(.int p0)])
  refine wp (fun _ => XS.iconst X0.here hx rfl (hb hby at_41)) ?_
  show WP p e below _ T0 (mkF m 42 #[.val (.int p0), .val (.long q1), .second, .val (.long q2), .second, .val (.long q3), .second, .val (.long q4), .second, .val (.int z9), .val (.ref ob), .val (.int c1), .val (.int c0), .unset, .unset, .unset, .unset, .unset, .unset, .unset, .unset] [(.int (2 : Int32)), (.int p0)])
  refine wp (fun _ => XS.iand X0.here hx rfl (hb hby at_42) rfl) ?_
  show WP p e below _ T0 (mkF m 43 #[.val (.int p0), .val (.long q1), .second, .val (.long q2), .second, .val (.long q3), .second, .val (.long q4), .second, .val (.int z9), .val (.ref ob), .val (.int c1), .val (.int c0), .unset, .unset, .unset, .unset, .unset, .unset, .unset, .unset] [(.int (p0 &&& (2 : Int32)))])
  by_cases hc : (p0 &&& (2 : Int32)) = (0 : Int32)
  ·
    refine wp (fun _ => XS.ifYes X0.here hx rfl (pc0 := 43) (pc' := 50) rfl (hb hby at_43) rfl (XT.i0_eq_t hc) (by decide) (by decide)) ?_
    show WP p e below _ T0 (mkF m 50 #[.val (.int p0), .val (.long q1), .second, .val (.long q2), .second, .val (.long q3), .second, .val (.long q4), .second, .val (.int z9), .val (.ref ob), .val (.int c1), .val (.int c0), .unset, .unset, .unset, .unset, .unset, .unset, .unset, .unset] [])
    exact k _
  ·
    refine wp (fun _ => XS.ifNo X0.here hx rfl (hb hby at_43) rfl (XT.i0_eq_f hc)) ?_
    show WP p e below _ T0 (mkF m 46 #[.val (.int p0), .val (.long q1), .second, .val (.long q2), .second, .val (.long q3), .second, .val (.long q4), .second, .val (.int z9), .val (.ref ob), .val (.int c1), .val (.int c0), .unset, .unset, .unset, .unset, .unset, .unset, .unset, .unset] [])
    refine wp (fun _ => XS.iload X0.here hx rfl (hb hby at_46) rfl) ?_
    show WP p e below _ T0 (mkF m 48 #[.val (.int p0), .val (.long q1), .second, .val (.long q2), .second, .val (.long q3), .second, .val (.long q4), .second, .val (.int z9), .val (.ref ob), .val (.int c1), .val (.int c0), .unset, .unset, .unset, .unset, .unset, .unset, .unset, .unset] [(.int c1)])
    refine wp (fun _ => XS.istore X0.here hx rfl (hb hby at_48) rfl (l' := #[.val (.int p0), .val (.long q1), .second, .val (.long q2), .second, .val (.long q3), .second, .val (.long q4), .second, .val (.int z9), .val (.ref ob), .val (.int c1), .val (.int c1), .unset, .unset, .unset, .unset, .unset, .unset, .unset, .unset]) rfl) ?_
    show WP p e below _ T0 (mkF m 50 #[.val (.int p0), .val (.long q1), .second, .val (.long q2), .second, .val (.long q3), .second, .val (.long q4), .second, .val (.int z9), .val (.ref ob), .val (.int c1), .val (.int c1), .unset, .unset, .unset, .unset, .unset, .unset, .unset, .unset] [])
    exact k _
set_option maxRecDepth 65536 in
set_option maxHeartbeats 4000000 in
theorem forkT (p0 : Int32) (q1 q2 q3 q4 : Int64) (z9 : Int32) (ob : Addr) (c1 c2 t1 c0 : Int32) (C : Cx p s m meth c Z a0 code 21 "com/example/joinsmith/joinsmith/planner/strategy/ObjectivePrefersPinLaw" "law" (some .boolean)) (X0 : Stand p l e R s m args below meth c T0 locs cells slots)
    (k : ∀ t2 : Int32, WP p e below Q T0 (mkF m 71 #[.val (.int p0), .val (.long q1), .second, .val (.long q2), .second, .val (.long q3), .second, .val (.long q4), .second, .val (.int z9), .val (.ref ob), .val (.int c1), .val (.int c2), .val (.int t1), .val (.int t2), .unset, .unset, .unset, .unset, .unset, .unset] [])) : WP p e below Q T0 (mkF m 61 #[.val (.int p0), .val (.long q1), .second, .val (.long q2), .second, .val (.long q3), .second, .val (.long q4), .second, .val (.int z9), .val (.ref ob), .val (.int c1), .val (.int c2), .val (.int t1), .val (.int c0), .unset, .unset, .unset, .unset, .unset, .unset] []) := by
  obtain ⟨hx, hZ, hw, hby, hml, hown, hnm, hret, hlk⟩ := id C
  show WP p e below _ T0 (mkF m 61 #[.val (.int p0), .val (.long q1), .second, .val (.long q2), .second, .val (.long q3), .second, .val (.long q4), .second, .val (.int z9), .val (.ref ob), .val (.int c1), .val (.int c2), .val (.int t1), .val (.int c0), .unset, .unset, .unset, .unset, .unset, .unset] [])
  refine wp (fun _ => XS.iloadN X0.here hx rfl (hb hby at_61) rfl) ?_
  show WP p e below _ T0 (mkF m 62 #[.val (.int p0), .val (.long q1), .second, .val (.long q2), .second, .val (.long q3), .second, .val (.long q4), .second, .val (.int z9), .val (.ref ob), .val (.int c1), .val (.int c2), .val (.int t1), .val (.int c0), .unset, .unset, .unset, .unset, .unset, .unset] [(.int p0)])
  refine wp (fun _ => XS.iconst X0.here hx rfl (hb hby at_62)) ?_
  show WP p e below _ T0 (mkF m 63 #[.val (.int p0), .val (.long q1), .second, .val (.long q2), .second, .val (.long q3), .second, .val (.long q4), .second, .val (.int z9), .val (.ref ob), .val (.int c1), .val (.int c2), .val (.int t1), .val (.int c0), .unset, .unset, .unset, .unset, .unset, .unset] [(.int (4 : Int32)), (.int p0)])
  refine wp (fun _ => XS.iand X0.here hx rfl (hb hby at_63) rfl) ?_
  show WP p e below _ T0 (mkF m 64 #[.val (.int p0), .val (.long q1), .second, .val (.long q2), .second, .val (.long q3), .second, .val (.long q4), .second, .val (.int z9), .val (.ref ob), .val (.int c1), .val (.int c2), .val (.int t1), .val (.int c0), .unset, .unset, .unset, .unset, .unset, .unset] [(.int (p0 &&& (4 : Int32)))])
  by_cases hc : (p0 &&& (4 : Int32)) = (0 : Int32)
  ·
    refine wp (fun _ => XS.ifYes X0.here hx rfl (pc0 := 64) (pc' := 71) rfl (hb hby at_64) rfl (XT.i0_eq_t hc) (by decide) (by decide)) ?_
    show WP p e below _ T0 (mkF m 71 #[.val (.int p0), .val (.long q1), .second, .val (.long q2), .second, .val (.long q3), .second, .val (.long q4), .second, .val (.int z9), .val (.ref ob), .val (.int c1), .val (.int c2), .val (.int t1), .val (.int c0), .unset, .unset, .unset, .unset, .unset, .unset] [])
    exact k _
  ·
    refine wp (fun _ => XS.ifNo X0.here hx rfl (hb hby at_64) rfl (XT.i0_eq_f hc)) ?_
    show WP p e below _ T0 (mkF m 67 #[.val (.int p0), .val (.long q1), .second, .val (.long q2), .second, .val (.long q3), .second, .val (.long q4), .second, .val (.int z9), .val (.ref ob), .val (.int c1), .val (.int c2), .val (.int t1), .val (.int c0), .unset, .unset, .unset, .unset, .unset, .unset] [])
    refine wp (fun _ => XS.iload X0.here hx rfl (hb hby at_67) rfl) ?_
    show WP p e below _ T0 (mkF m 69 #[.val (.int p0), .val (.long q1), .second, .val (.long q2), .second, .val (.long q3), .second, .val (.long q4), .second, .val (.int z9), .val (.ref ob), .val (.int c1), .val (.int c2), .val (.int t1), .val (.int c0), .unset, .unset, .unset, .unset, .unset, .unset] [(.int t1)])
    refine wp (fun _ => XS.istore X0.here hx rfl (hb hby at_69) rfl (l' := #[.val (.int p0), .val (.long q1), .second, .val (.long q2), .second, .val (.long q3), .second, .val (.long q4), .second, .val (.int z9), .val (.ref ob), .val (.int c1), .val (.int c2), .val (.int t1), .val (.int t1), .unset, .unset, .unset, .unset, .unset, .unset]) rfl) ?_
    show WP p e below _ T0 (mkF m 71 #[.val (.int p0), .val (.long q1), .second, .val (.long q2), .second, .val (.long q3), .second, .val (.long q4), .second, .val (.int z9), .val (.ref ob), .val (.int c1), .val (.int c2), .val (.int t1), .val (.int t1), .unset, .unset, .unset, .unset, .unset, .unset] [])
    exact k _
set_option maxRecDepth 65536 in
set_option maxHeartbeats 4000000 in
theorem forkM (p0 : Int32) (q1 q2 q3 q4 : Int64) (z9 : Int32) (ob : Addr) (c1 c2 t1 t2 : Int32) (m1 m0 : Int64) (C : Cx p s m meth c Z a0 code 21 "com/example/joinsmith/joinsmith/planner/strategy/ObjectivePrefersPinLaw" "law" (some .boolean)) (X0 : Stand p l e R s m args below meth c T0 locs cells slots)
    (k : ∀ m2 : Int64, WP p e below Q T0 (mkF m 90 #[.val (.int p0), .val (.long q1), .second, .val (.long q2), .second, .val (.long q3), .second, .val (.long q4), .second, .val (.int z9), .val (.ref ob), .val (.int c1), .val (.int c2), .val (.int t1), .val (.int t2), .val (.long m1), .second, .val (.long m2), .second, .unset, .unset] [])) : WP p e below Q T0 (mkF m 79 #[.val (.int p0), .val (.long q1), .second, .val (.long q2), .second, .val (.long q3), .second, .val (.long q4), .second, .val (.int z9), .val (.ref ob), .val (.int c1), .val (.int c2), .val (.int t1), .val (.int t2), .val (.long m1), .second, .val (.long m0), .second, .unset, .unset] []) := by
  obtain ⟨hx, hZ, hw, hby, hml, hown, hnm, hret, hlk⟩ := id C
  show WP p e below _ T0 (mkF m 79 #[.val (.int p0), .val (.long q1), .second, .val (.long q2), .second, .val (.long q3), .second, .val (.long q4), .second, .val (.int z9), .val (.ref ob), .val (.int c1), .val (.int c2), .val (.int t1), .val (.int t2), .val (.long m1), .second, .val (.long m0), .second, .unset, .unset] [])
  refine wp (fun _ => XS.iloadN X0.here hx rfl (hb hby at_79) rfl) ?_
  show WP p e below _ T0 (mkF m 80 #[.val (.int p0), .val (.long q1), .second, .val (.long q2), .second, .val (.long q3), .second, .val (.long q4), .second, .val (.int z9), .val (.ref ob), .val (.int c1), .val (.int c2), .val (.int t1), .val (.int t2), .val (.long m1), .second, .val (.long m0), .second, .unset, .unset] [(.int p0)])
  refine wp (fun _ => XS.bipush X0.here hx rfl (hb hby at_80)) ?_
  show WP p e below _ T0 (mkF m 82 #[.val (.int p0), .val (.long q1), .second, .val (.long q2), .second, .val (.long q3), .second, .val (.long q4), .second, .val (.int z9), .val (.ref ob), .val (.int c1), .val (.int c2), .val (.int t1), .val (.int t2), .val (.long m1), .second, .val (.long m0), .second, .unset, .unset] [(.int (8 : Int32)), (.int p0)])
  refine wp (fun _ => XS.iand X0.here hx rfl (hb hby at_82) rfl) ?_
  show WP p e below _ T0 (mkF m 83 #[.val (.int p0), .val (.long q1), .second, .val (.long q2), .second, .val (.long q3), .second, .val (.long q4), .second, .val (.int z9), .val (.ref ob), .val (.int c1), .val (.int c2), .val (.int t1), .val (.int t2), .val (.long m1), .second, .val (.long m0), .second, .unset, .unset] [(.int (p0 &&& (8 : Int32)))])
  by_cases hc : (p0 &&& (8 : Int32)) = (0 : Int32)
  ·
    refine wp (fun _ => XS.ifYes X0.here hx rfl (pc0 := 83) (pc' := 90) rfl (hb hby at_83) rfl (XT.i0_eq_t hc) (by decide) (by decide)) ?_
    show WP p e below _ T0 (mkF m 90 #[.val (.int p0), .val (.long q1), .second, .val (.long q2), .second, .val (.long q3), .second, .val (.long q4), .second, .val (.int z9), .val (.ref ob), .val (.int c1), .val (.int c2), .val (.int t1), .val (.int t2), .val (.long m1), .second, .val (.long m0), .second, .unset, .unset] [])
    exact k _
  ·
    refine wp (fun _ => XS.ifNo X0.here hx rfl (hb hby at_83) rfl (XT.i0_eq_f hc)) ?_
    show WP p e below _ T0 (mkF m 86 #[.val (.int p0), .val (.long q1), .second, .val (.long q2), .second, .val (.long q3), .second, .val (.long q4), .second, .val (.int z9), .val (.ref ob), .val (.int c1), .val (.int c2), .val (.int t1), .val (.int t2), .val (.long m1), .second, .val (.long m0), .second, .unset, .unset] [])
    refine wp (fun _ => XS.lload X0.here hx rfl (hb hby at_86) rfl) ?_
    show WP p e below _ T0 (mkF m 88 #[.val (.int p0), .val (.long q1), .second, .val (.long q2), .second, .val (.long q3), .second, .val (.long q4), .second, .val (.int z9), .val (.ref ob), .val (.int c1), .val (.int c2), .val (.int t1), .val (.int t2), .val (.long m1), .second, .val (.long m0), .second, .unset, .unset] [(.long m1)])
    refine wp (fun _ => XS.lstore X0.here hx rfl (hb hby at_88) rfl (l' := #[.val (.int p0), .val (.long q1), .second, .val (.long q2), .second, .val (.long q3), .second, .val (.long q4), .second, .val (.int z9), .val (.ref ob), .val (.int c1), .val (.int c2), .val (.int t1), .val (.int t2), .val (.long m1), .second, .val (.long m1), .second, .unset, .unset]) rfl) ?_
    show WP p e below _ T0 (mkF m 90 #[.val (.int p0), .val (.long q1), .second, .val (.long q2), .second, .val (.long q3), .second, .val (.long q4), .second, .val (.int z9), .val (.ref ob), .val (.int c1), .val (.int c2), .val (.int t1), .val (.int t2), .val (.long m1), .second, .val (.long m1), .second, .unset, .unset] [])
    exact k _
set_option maxRecDepth 65536 in
set_option maxHeartbeats 4000000 in
theorem tail_ (p0 : Int32) (q1 q2 q3 q4 : Int64) (z9 : Int32) (ob : Addr) (n0 : Nat) (rf : Int32 → Int32 → Int64 → Int32 → Int32 → Int64 → Int32) (mp : ∀ c1 t1 m1 c2 t2 m2, MetQ l Z (⟨"com/example/joinsmith/joinsmith/planner/strategy/Objective", "prefers", "(DDJDDJ)Z"⟩ : MethodName) prog_251_method_6_code 14 (some .boolean) [] ({ frames := 0, cells := 0, slots := 0, locals := 0 } : Room) #[(.ref ob), (.double (FP.i2d c1)), (.double (FP.i2d t1)), (.long m1), (.double (FP.i2d c2)), (.double (FP.i2d t2)), (.long m2)] h0 (PureQ (some (.int (rf c1 t1 m1 c2 t2 m2))) h0)) (me : ∀ c1 t1 m1 c2 t2 m2, MetQ l Z (⟨"com/example/joinsmith/joinsmith/planner/strategy/ObjectivePrefersPinLaw", "expected", "(ZIIJIIJ)Z"⟩ : MethodName) method_3_code 9 (some .boolean) [] ({ frames := 0, cells := 0, slots := 0, locals := 0 } : Room) #[(.int z9), (.int c1), (.int t1), (.long m1), (.int c2), (.int t2), (.long m2)] h0 (PureQ (some (.int (rf c1 t1 m1 c2 t2 m2))) h0)) (E : Exa Z h0 ob "com/example/joinsmith/joinsmith/planner/strategy/Objective") (C : Cx p s m meth c Z a0 code 21 "com/example/joinsmith/joinsmith/planner/strategy/ObjectivePrefersPinLaw" "law" (some .boolean)) (X0 : Stand p l e room_1 s m args below meth c T0 [] 0 0) (e0 : T0.heap = h0) :
    WP p e below (Ends s below (fun v _ L => v = some (.int (1 : Int32)) ∧ Fr n0 L) 0 0) T0 (mkF m 29 #[.val (.int p0), .val (.long q1), .second, .val (.long q2), .second, .val (.long q3), .second, .val (.long q4), .second, .val (.int z9), .val (.ref ob), .unset, .unset, .unset, .unset, .unset, .unset, .unset, .unset, .unset, .unset] []) := by
  obtain ⟨hx, hZ, hw, hby, hml, hown, hnm, hret, hlk⟩ := id C
  show WP p e below _ T0 (mkF m 29 #[.val (.int p0), .val (.long q1), .second, .val (.long q2), .second, .val (.long q3), .second, .val (.long q4), .second, .val (.int z9), .val (.ref ob), .unset, .unset, .unset, .unset, .unset, .unset, .unset, .unset, .unset, .unset] [])
  refine wp (fun _ => XS.lloadN X0.here hx rfl (hb hby at_29) rfl) ?_
  show WP p e below _ T0 (mkF m 30 #[.val (.int p0), .val (.long q1), .second, .val (.long q2), .second, .val (.long q3), .second, .val (.long q4), .second, .val (.int z9), .val (.ref ob), .unset, .unset, .unset, .unset, .unset, .unset, .unset, .unset, .unset, .unset] [(.long q1)])
  refine wp (fun _ => XS.bipush X0.here hx rfl (hb hby at_30)) ?_
  show WP p e below _ T0 (mkF m 32 #[.val (.int p0), .val (.long q1), .second, .val (.long q2), .second, .val (.long q3), .second, .val (.long q4), .second, .val (.int z9), .val (.ref ob), .unset, .unset, .unset, .unset, .unset, .unset, .unset, .unset, .unset, .unset] [(.int (32 : Int32)), (.long q1)])
  refine wp (fun _ => XS.lshr X0.here hx rfl (hb hby at_32) rfl) ?_
  show WP p e below _ T0 (mkF m 33 #[.val (.int p0), .val (.long q1), .second, .val (.long q2), .second, .val (.long q3), .second, .val (.long q4), .second, .val (.int z9), .val (.ref ob), .unset, .unset, .unset, .unset, .unset, .unset, .unset, .unset, .unset, .unset] [(.long (q1 >>> ((32 : Int32) &&& 0x3f).toInt64))])
  refine wp (fun _ => XS.l2i X0.here hx rfl (hb hby at_33) rfl) ?_
  show WP p e below _ T0 (mkF m 34 #[.val (.int p0), .val (.long q1), .second, .val (.long q2), .second, .val (.long q3), .second, .val (.long q4), .second, .val (.int z9), .val (.ref ob), .unset, .unset, .unset, .unset, .unset, .unset, .unset, .unset, .unset, .unset] [(.int (q1 >>> ((32 : Int32) &&& 0x3f).toInt64).toInt32)])
  generalize (q1 >>> ((32 : Int32) &&& 0x3f).toInt64).toInt32 = c1
  show WP p e below _ T0 (mkF m 34 #[.val (.int p0), .val (.long q1), .second, .val (.long q2), .second, .val (.long q3), .second, .val (.long q4), .second, .val (.int z9), .val (.ref ob), .unset, .unset, .unset, .unset, .unset, .unset, .unset, .unset, .unset, .unset] [(.int c1)])
  refine wp (fun _ => XS.istore X0.here hx rfl (hb hby at_34) rfl (l' := #[.val (.int p0), .val (.long q1), .second, .val (.long q2), .second, .val (.long q3), .second, .val (.long q4), .second, .val (.int z9), .val (.ref ob), .val (.int c1), .unset, .unset, .unset, .unset, .unset, .unset, .unset, .unset, .unset]) rfl) ?_
  show WP p e below _ T0 (mkF m 36 #[.val (.int p0), .val (.long q1), .second, .val (.long q2), .second, .val (.long q3), .second, .val (.long q4), .second, .val (.int z9), .val (.ref ob), .val (.int c1), .unset, .unset, .unset, .unset, .unset, .unset, .unset, .unset, .unset] [])
  refine wp (fun _ => XS.lloadN X0.here hx rfl (hb hby at_36) rfl) ?_
  show WP p e below _ T0 (mkF m 37 #[.val (.int p0), .val (.long q1), .second, .val (.long q2), .second, .val (.long q3), .second, .val (.long q4), .second, .val (.int z9), .val (.ref ob), .val (.int c1), .unset, .unset, .unset, .unset, .unset, .unset, .unset, .unset, .unset] [(.long q1)])
  refine wp (fun _ => XS.l2i X0.here hx rfl (hb hby at_37) rfl) ?_
  show WP p e below _ T0 (mkF m 38 #[.val (.int p0), .val (.long q1), .second, .val (.long q2), .second, .val (.long q3), .second, .val (.long q4), .second, .val (.int z9), .val (.ref ob), .val (.int c1), .unset, .unset, .unset, .unset, .unset, .unset, .unset, .unset, .unset] [(.int q1.toInt32)])
  refine wp (fun _ => XS.istore X0.here hx rfl (hb hby at_38) rfl (l' := #[.val (.int p0), .val (.long q1), .second, .val (.long q2), .second, .val (.long q3), .second, .val (.long q4), .second, .val (.int z9), .val (.ref ob), .val (.int c1), .val (.int q1.toInt32), .unset, .unset, .unset, .unset, .unset, .unset, .unset, .unset]) rfl) ?_
  show WP p e below _ T0 (mkF m 40 #[.val (.int p0), .val (.long q1), .second, .val (.long q2), .second, .val (.long q3), .second, .val (.long q4), .second, .val (.int z9), .val (.ref ob), .val (.int c1), .val (.int q1.toInt32), .unset, .unset, .unset, .unset, .unset, .unset, .unset, .unset] [])
  refine forkC p0 q1 q2 q3 q4 z9 ob c1 _ C X0 ?_
  intro c2
  show WP p e below _ T0 (mkF m 50 #[.val (.int p0), .val (.long q1), .second, .val (.long q2), .second, .val (.long q3), .second, .val (.long q4), .second, .val (.int z9), .val (.ref ob), .val (.int c1), .val (.int c2), .unset, .unset, .unset, .unset, .unset, .unset, .unset, .unset] [])
  refine wp (fun _ => XS.lloadN X0.here hx rfl (hb hby at_50) rfl) ?_
  show WP p e below _ T0 (mkF m 51 #[.val (.int p0), .val (.long q1), .second, .val (.long q2), .second, .val (.long q3), .second, .val (.long q4), .second, .val (.int z9), .val (.ref ob), .val (.int c1), .val (.int c2), .unset, .unset, .unset, .unset, .unset, .unset, .unset, .unset] [(.long q2)])
  refine wp (fun _ => XS.bipush X0.here hx rfl (hb hby at_51)) ?_
  show WP p e below _ T0 (mkF m 53 #[.val (.int p0), .val (.long q1), .second, .val (.long q2), .second, .val (.long q3), .second, .val (.long q4), .second, .val (.int z9), .val (.ref ob), .val (.int c1), .val (.int c2), .unset, .unset, .unset, .unset, .unset, .unset, .unset, .unset] [(.int (32 : Int32)), (.long q2)])
  refine wp (fun _ => XS.lshr X0.here hx rfl (hb hby at_53) rfl) ?_
  show WP p e below _ T0 (mkF m 54 #[.val (.int p0), .val (.long q1), .second, .val (.long q2), .second, .val (.long q3), .second, .val (.long q4), .second, .val (.int z9), .val (.ref ob), .val (.int c1), .val (.int c2), .unset, .unset, .unset, .unset, .unset, .unset, .unset, .unset] [(.long (q2 >>> ((32 : Int32) &&& 0x3f).toInt64))])
  refine wp (fun _ => XS.l2i X0.here hx rfl (hb hby at_54) rfl) ?_
  show WP p e below _ T0 (mkF m 55 #[.val (.int p0), .val (.long q1), .second, .val (.long q2), .second, .val (.long q3), .second, .val (.long q4), .second, .val (.int z9), .val (.ref ob), .val (.int c1), .val (.int c2), .unset, .unset, .unset, .unset, .unset, .unset, .unset, .unset] [(.int (q2 >>> ((32 : Int32) &&& 0x3f).toInt64).toInt32)])
  generalize (q2 >>> ((32 : Int32) &&& 0x3f).toInt64).toInt32 = t1
  show WP p e below _ T0 (mkF m 55 #[.val (.int p0), .val (.long q1), .second, .val (.long q2), .second, .val (.long q3), .second, .val (.long q4), .second, .val (.int z9), .val (.ref ob), .val (.int c1), .val (.int c2), .unset, .unset, .unset, .unset, .unset, .unset, .unset, .unset] [(.int t1)])
  refine wp (fun _ => XS.istore X0.here hx rfl (hb hby at_55) rfl (l' := #[.val (.int p0), .val (.long q1), .second, .val (.long q2), .second, .val (.long q3), .second, .val (.long q4), .second, .val (.int z9), .val (.ref ob), .val (.int c1), .val (.int c2), .val (.int t1), .unset, .unset, .unset, .unset, .unset, .unset, .unset]) rfl) ?_
  show WP p e below _ T0 (mkF m 57 #[.val (.int p0), .val (.long q1), .second, .val (.long q2), .second, .val (.long q3), .second, .val (.long q4), .second, .val (.int z9), .val (.ref ob), .val (.int c1), .val (.int c2), .val (.int t1), .unset, .unset, .unset, .unset, .unset, .unset, .unset] [])
  refine wp (fun _ => XS.lloadN X0.here hx rfl (hb hby at_57) rfl) ?_
  show WP p e below _ T0 (mkF m 58 #[.val (.int p0), .val (.long q1), .second, .val (.long q2), .second, .val (.long q3), .second, .val (.long q4), .second, .val (.int z9), .val (.ref ob), .val (.int c1), .val (.int c2), .val (.int t1), .unset, .unset, .unset, .unset, .unset, .unset, .unset] [(.long q2)])
  refine wp (fun _ => XS.l2i X0.here hx rfl (hb hby at_58) rfl) ?_
  show WP p e below _ T0 (mkF m 59 #[.val (.int p0), .val (.long q1), .second, .val (.long q2), .second, .val (.long q3), .second, .val (.long q4), .second, .val (.int z9), .val (.ref ob), .val (.int c1), .val (.int c2), .val (.int t1), .unset, .unset, .unset, .unset, .unset, .unset, .unset] [(.int q2.toInt32)])
  refine wp (fun _ => XS.istore X0.here hx rfl (hb hby at_59) rfl (l' := #[.val (.int p0), .val (.long q1), .second, .val (.long q2), .second, .val (.long q3), .second, .val (.long q4), .second, .val (.int z9), .val (.ref ob), .val (.int c1), .val (.int c2), .val (.int t1), .val (.int q2.toInt32), .unset, .unset, .unset, .unset, .unset, .unset]) rfl) ?_
  show WP p e below _ T0 (mkF m 61 #[.val (.int p0), .val (.long q1), .second, .val (.long q2), .second, .val (.long q3), .second, .val (.long q4), .second, .val (.int z9), .val (.ref ob), .val (.int c1), .val (.int c2), .val (.int t1), .val (.int q2.toInt32), .unset, .unset, .unset, .unset, .unset, .unset] [])
  refine forkT p0 q1 q2 q3 q4 z9 ob c1 c2 t1 _ C X0 ?_
  intro t2
  show WP p e below _ T0 (mkF m 71 #[.val (.int p0), .val (.long q1), .second, .val (.long q2), .second, .val (.long q3), .second, .val (.long q4), .second, .val (.int z9), .val (.ref ob), .val (.int c1), .val (.int c2), .val (.int t1), .val (.int t2), .unset, .unset, .unset, .unset, .unset, .unset] [])
  refine wp (fun _ => XS.lload X0.here hx rfl (hb hby at_71) rfl) ?_
  show WP p e below _ T0 (mkF m 73 #[.val (.int p0), .val (.long q1), .second, .val (.long q2), .second, .val (.long q3), .second, .val (.long q4), .second, .val (.int z9), .val (.ref ob), .val (.int c1), .val (.int c2), .val (.int t1), .val (.int t2), .unset, .unset, .unset, .unset, .unset, .unset] [(.long q3)])
  refine wp (fun _ => XS.lstore X0.here hx rfl (hb hby at_73) rfl (l' := #[.val (.int p0), .val (.long q1), .second, .val (.long q2), .second, .val (.long q3), .second, .val (.long q4), .second, .val (.int z9), .val (.ref ob), .val (.int c1), .val (.int c2), .val (.int t1), .val (.int t2), .val (.long q3), .second, .unset, .unset, .unset, .unset]) rfl) ?_
  show WP p e below _ T0 (mkF m 75 #[.val (.int p0), .val (.long q1), .second, .val (.long q2), .second, .val (.long q3), .second, .val (.long q4), .second, .val (.int z9), .val (.ref ob), .val (.int c1), .val (.int c2), .val (.int t1), .val (.int t2), .val (.long q3), .second, .unset, .unset, .unset, .unset] [])
  refine wp (fun _ => XS.lload X0.here hx rfl (hb hby at_75) rfl) ?_
  show WP p e below _ T0 (mkF m 77 #[.val (.int p0), .val (.long q1), .second, .val (.long q2), .second, .val (.long q3), .second, .val (.long q4), .second, .val (.int z9), .val (.ref ob), .val (.int c1), .val (.int c2), .val (.int t1), .val (.int t2), .val (.long q3), .second, .unset, .unset, .unset, .unset] [(.long q4)])
  refine wp (fun _ => XS.lstore X0.here hx rfl (hb hby at_77) rfl (l' := #[.val (.int p0), .val (.long q1), .second, .val (.long q2), .second, .val (.long q3), .second, .val (.long q4), .second, .val (.int z9), .val (.ref ob), .val (.int c1), .val (.int c2), .val (.int t1), .val (.int t2), .val (.long q3), .second, .val (.long q4), .second, .unset, .unset]) rfl) ?_
  show WP p e below _ T0 (mkF m 79 #[.val (.int p0), .val (.long q1), .second, .val (.long q2), .second, .val (.long q3), .second, .val (.long q4), .second, .val (.int z9), .val (.ref ob), .val (.int c1), .val (.int c2), .val (.int t1), .val (.int t2), .val (.long q3), .second, .val (.long q4), .second, .unset, .unset] [])
  refine forkM p0 q1 q2 q3 q4 z9 ob c1 c2 t1 t2 _ _ C X0 ?_
  intro m2
  generalize q3 = m1
  show WP p e below _ T0 (mkF m 90 #[.val (.int p0), .val (.long q1), .second, .val (.long q2), .second, .val (.long m1), .second, .val (.long q4), .second, .val (.int z9), .val (.ref ob), .val (.int c1), .val (.int c2), .val (.int t1), .val (.int t2), .val (.long m1), .second, .val (.long m2), .second, .unset, .unset] [])
  refine wp (fun _ => XS.aload X0.here hx rfl (hb hby at_90) rfl rfl) ?_
  show WP p e below _ T0 (mkF m 92 #[.val (.int p0), .val (.long q1), .second, .val (.long q2), .second, .val (.long m1), .second, .val (.long q4), .second, .val (.int z9), .val (.ref ob), .val (.int c1), .val (.int c2), .val (.int t1), .val (.int t2), .val (.long m1), .second, .val (.long m2), .second, .unset, .unset] [(.ref ob)])
  refine wp (fun _ => XS.iload X0.here hx rfl (hb hby at_92) rfl) ?_
  show WP p e below _ T0 (mkF m 94 #[.val (.int p0), .val (.long q1), .second, .val (.long q2), .second, .val (.long m1), .second, .val (.long q4), .second, .val (.int z9), .val (.ref ob), .val (.int c1), .val (.int c2), .val (.int t1), .val (.int t2), .val (.long m1), .second, .val (.long m2), .second, .unset, .unset] [(.int c1), (.ref ob)])
  refine wp (fun _ => XS.i2dS X0.here hx rfl (hb hby at_94) rfl rfl) ?_
  show WP p e below _ T0 (mkF m 95 #[.val (.int p0), .val (.long q1), .second, .val (.long q2), .second, .val (.long m1), .second, .val (.long q4), .second, .val (.int z9), .val (.ref ob), .val (.int c1), .val (.int c2), .val (.int t1), .val (.int t2), .val (.long m1), .second, .val (.long m2), .second, .unset, .unset] [(.double (FP.i2d c1)), (.ref ob)])
  refine wp (fun _ => XS.iload X0.here hx rfl (hb hby at_95) rfl) ?_
  show WP p e below _ T0 (mkF m 97 #[.val (.int p0), .val (.long q1), .second, .val (.long q2), .second, .val (.long m1), .second, .val (.long q4), .second, .val (.int z9), .val (.ref ob), .val (.int c1), .val (.int c2), .val (.int t1), .val (.int t2), .val (.long m1), .second, .val (.long m2), .second, .unset, .unset] [(.int t1), (.double (FP.i2d c1)), (.ref ob)])
  refine wp (fun _ => XS.i2dS X0.here hx rfl (hb hby at_97) rfl rfl) ?_
  show WP p e below _ T0 (mkF m 98 #[.val (.int p0), .val (.long q1), .second, .val (.long q2), .second, .val (.long m1), .second, .val (.long q4), .second, .val (.int z9), .val (.ref ob), .val (.int c1), .val (.int c2), .val (.int t1), .val (.int t2), .val (.long m1), .second, .val (.long m2), .second, .unset, .unset] [(.double (FP.i2d t1)), (.double (FP.i2d c1)), (.ref ob)])
  refine wp (fun _ => XS.lload X0.here hx rfl (hb hby at_98) rfl) ?_
  show WP p e below _ T0 (mkF m 100 #[.val (.int p0), .val (.long q1), .second, .val (.long q2), .second, .val (.long m1), .second, .val (.long q4), .second, .val (.int z9), .val (.ref ob), .val (.int c1), .val (.int c2), .val (.int t1), .val (.int t2), .val (.long m1), .second, .val (.long m2), .second, .unset, .unset] [(.long m1), (.double (FP.i2d t1)), (.double (FP.i2d c1)), (.ref ob)])
  refine wp (fun _ => XS.iload X0.here hx rfl (hb hby at_100) rfl) ?_
  show WP p e below _ T0 (mkF m 102 #[.val (.int p0), .val (.long q1), .second, .val (.long q2), .second, .val (.long m1), .second, .val (.long q4), .second, .val (.int z9), .val (.ref ob), .val (.int c1), .val (.int c2), .val (.int t1), .val (.int t2), .val (.long m1), .second, .val (.long m2), .second, .unset, .unset] [(.int c2), (.long m1), (.double (FP.i2d t1)), (.double (FP.i2d c1)), (.ref ob)])
  refine wp (fun _ => XS.i2dS X0.here hx rfl (hb hby at_102) rfl rfl) ?_
  show WP p e below _ T0 (mkF m 103 #[.val (.int p0), .val (.long q1), .second, .val (.long q2), .second, .val (.long m1), .second, .val (.long q4), .second, .val (.int z9), .val (.ref ob), .val (.int c1), .val (.int c2), .val (.int t1), .val (.int t2), .val (.long m1), .second, .val (.long m2), .second, .unset, .unset] [(.double (FP.i2d c2)), (.long m1), (.double (FP.i2d t1)), (.double (FP.i2d c1)), (.ref ob)])
  refine wp (fun _ => XS.iload X0.here hx rfl (hb hby at_103) rfl) ?_
  show WP p e below _ T0 (mkF m 105 #[.val (.int p0), .val (.long q1), .second, .val (.long q2), .second, .val (.long m1), .second, .val (.long q4), .second, .val (.int z9), .val (.ref ob), .val (.int c1), .val (.int c2), .val (.int t1), .val (.int t2), .val (.long m1), .second, .val (.long m2), .second, .unset, .unset] [(.int t2), (.double (FP.i2d c2)), (.long m1), (.double (FP.i2d t1)), (.double (FP.i2d c1)), (.ref ob)])
  refine wp (fun _ => XS.i2dS X0.here hx rfl (hb hby at_105) rfl rfl) ?_
  show WP p e below _ T0 (mkF m 106 #[.val (.int p0), .val (.long q1), .second, .val (.long q2), .second, .val (.long m1), .second, .val (.long q4), .second, .val (.int z9), .val (.ref ob), .val (.int c1), .val (.int c2), .val (.int t1), .val (.int t2), .val (.long m1), .second, .val (.long m2), .second, .unset, .unset] [(.double (FP.i2d t2)), (.double (FP.i2d c2)), (.long m1), (.double (FP.i2d t1)), (.double (FP.i2d c1)), (.ref ob)])
  refine wp (fun _ => XS.lload X0.here hx rfl (hb hby at_106) rfl) ?_
  show WP p e below _ T0 (mkF m 108 #[.val (.int p0), .val (.long q1), .second, .val (.long q2), .second, .val (.long m1), .second, .val (.long q4), .second, .val (.int z9), .val (.ref ob), .val (.int c1), .val (.int c2), .val (.int t1), .val (.int t2), .val (.long m1), .second, .val (.long m2), .second, .unset, .unset] [(.long m2), (.double (FP.i2d t2)), (.double (FP.i2d c2)), (.long m1), (.double (FP.i2d t1)), (.double (FP.i2d c1)), (.ref ob)])
  refine wp_virtualP C X0 e0 (y := (⟨"com/example/joinsmith/joinsmith/planner/strategy/Objective", "prefers", "(DDJDDJ)Z"⟩ : MethodName)) (b := ob) E (argsL := [(.double (FP.i2d c1)), (.double (FP.i2d t1)), (.long m1), (.double (FP.i2d c2)), (.double (FP.i2d t2)), (.long m2)]) (rest := []) (mp c1 t1 m1 c2 t2 m2) (hw _ (List.mem_of_getElem? (i := 3) rfl)) (hw _ (List.mem_of_getElem? (i := 4) rfl)) (hw _ (List.mem_of_getElem? (i := 6) rfl)) (hw _ (List.mem_of_getElem? (i := 5) rfl)) (hw _ (List.mem_of_getElem? (i := 7) rfl)) (hw _ (List.mem_of_getElem? (i := 1) rfl)) (by decide) rfl (lenOf pd_pf rfl) at_108 rfl rfl rfl (by decide) (Nat.le_of_ble_eq_true rfl) (by decide) (by decide) ?_
  intro T1 X1 e1
  show WP p e below _ T1 (mkF m 111 #[.val (.int p0), .val (.long q1), .second, .val (.long q2), .second, .val (.long m1), .second, .val (.long q4), .second, .val (.int z9), .val (.ref ob), .val (.int c1), .val (.int c2), .val (.int t1), .val (.int t2), .val (.long m1), .second, .val (.long m2), .second, .unset, .unset] [(.int (rf c1 t1 m1 c2 t2 m2))])
  refine wp (fun _ => XS.istore X1.here hx rfl (hb hby at_111) rfl (l' := #[.val (.int p0), .val (.long q1), .second, .val (.long q2), .second, .val (.long m1), .second, .val (.long q4), .second, .val (.int z9), .val (.ref ob), .val (.int c1), .val (.int c2), .val (.int t1), .val (.int t2), .val (.long m1), .second, .val (.long m2), .second, .val (.int (rf c1 t1 m1 c2 t2 m2)), .unset]) rfl) ?_
  show WP p e below _ T1 (mkF m 113 #[.val (.int p0), .val (.long q1), .second, .val (.long q2), .second, .val (.long m1), .second, .val (.long q4), .second, .val (.int z9), .val (.ref ob), .val (.int c1), .val (.int c2), .val (.int t1), .val (.int t2), .val (.long m1), .second, .val (.long m2), .second, .val (.int (rf c1 t1 m1 c2 t2 m2)), .unset] [])
  refine wp (fun _ => XS.aload X1.here hx rfl (hb hby at_113) rfl rfl) ?_
  show WP p e below _ T1 (mkF m 115 #[.val (.int p0), .val (.long q1), .second, .val (.long q2), .second, .val (.long m1), .second, .val (.long q4), .second, .val (.int z9), .val (.ref ob), .val (.int c1), .val (.int c2), .val (.int t1), .val (.int t2), .val (.long m1), .second, .val (.long m2), .second, .val (.int (rf c1 t1 m1 c2 t2 m2)), .unset] [(.ref ob)])
  refine wp (fun _ => XS.iload X1.here hx rfl (hb hby at_115) rfl) ?_
  show WP p e below _ T1 (mkF m 117 #[.val (.int p0), .val (.long q1), .second, .val (.long q2), .second, .val (.long m1), .second, .val (.long q4), .second, .val (.int z9), .val (.ref ob), .val (.int c1), .val (.int c2), .val (.int t1), .val (.int t2), .val (.long m1), .second, .val (.long m2), .second, .val (.int (rf c1 t1 m1 c2 t2 m2)), .unset] [(.int c2), (.ref ob)])
  refine wp (fun _ => XS.i2dS X1.here hx rfl (hb hby at_117) rfl rfl) ?_
  show WP p e below _ T1 (mkF m 118 #[.val (.int p0), .val (.long q1), .second, .val (.long q2), .second, .val (.long m1), .second, .val (.long q4), .second, .val (.int z9), .val (.ref ob), .val (.int c1), .val (.int c2), .val (.int t1), .val (.int t2), .val (.long m1), .second, .val (.long m2), .second, .val (.int (rf c1 t1 m1 c2 t2 m2)), .unset] [(.double (FP.i2d c2)), (.ref ob)])
  refine wp (fun _ => XS.iload X1.here hx rfl (hb hby at_118) rfl) ?_
  show WP p e below _ T1 (mkF m 120 #[.val (.int p0), .val (.long q1), .second, .val (.long q2), .second, .val (.long m1), .second, .val (.long q4), .second, .val (.int z9), .val (.ref ob), .val (.int c1), .val (.int c2), .val (.int t1), .val (.int t2), .val (.long m1), .second, .val (.long m2), .second, .val (.int (rf c1 t1 m1 c2 t2 m2)), .unset] [(.int t2), (.double (FP.i2d c2)), (.ref ob)])
  refine wp (fun _ => XS.i2dS X1.here hx rfl (hb hby at_120) rfl rfl) ?_
  show WP p e below _ T1 (mkF m 121 #[.val (.int p0), .val (.long q1), .second, .val (.long q2), .second, .val (.long m1), .second, .val (.long q4), .second, .val (.int z9), .val (.ref ob), .val (.int c1), .val (.int c2), .val (.int t1), .val (.int t2), .val (.long m1), .second, .val (.long m2), .second, .val (.int (rf c1 t1 m1 c2 t2 m2)), .unset] [(.double (FP.i2d t2)), (.double (FP.i2d c2)), (.ref ob)])
  refine wp (fun _ => XS.lload X1.here hx rfl (hb hby at_121) rfl) ?_
  show WP p e below _ T1 (mkF m 123 #[.val (.int p0), .val (.long q1), .second, .val (.long q2), .second, .val (.long m1), .second, .val (.long q4), .second, .val (.int z9), .val (.ref ob), .val (.int c1), .val (.int c2), .val (.int t1), .val (.int t2), .val (.long m1), .second, .val (.long m2), .second, .val (.int (rf c1 t1 m1 c2 t2 m2)), .unset] [(.long m2), (.double (FP.i2d t2)), (.double (FP.i2d c2)), (.ref ob)])
  refine wp (fun _ => XS.iload X1.here hx rfl (hb hby at_123) rfl) ?_
  show WP p e below _ T1 (mkF m 125 #[.val (.int p0), .val (.long q1), .second, .val (.long q2), .second, .val (.long m1), .second, .val (.long q4), .second, .val (.int z9), .val (.ref ob), .val (.int c1), .val (.int c2), .val (.int t1), .val (.int t2), .val (.long m1), .second, .val (.long m2), .second, .val (.int (rf c1 t1 m1 c2 t2 m2)), .unset] [(.int c1), (.long m2), (.double (FP.i2d t2)), (.double (FP.i2d c2)), (.ref ob)])
  refine wp (fun _ => XS.i2dS X1.here hx rfl (hb hby at_125) rfl rfl) ?_
  show WP p e below _ T1 (mkF m 126 #[.val (.int p0), .val (.long q1), .second, .val (.long q2), .second, .val (.long m1), .second, .val (.long q4), .second, .val (.int z9), .val (.ref ob), .val (.int c1), .val (.int c2), .val (.int t1), .val (.int t2), .val (.long m1), .second, .val (.long m2), .second, .val (.int (rf c1 t1 m1 c2 t2 m2)), .unset] [(.double (FP.i2d c1)), (.long m2), (.double (FP.i2d t2)), (.double (FP.i2d c2)), (.ref ob)])
  refine wp (fun _ => XS.iload X1.here hx rfl (hb hby at_126) rfl) ?_
  show WP p e below _ T1 (mkF m 128 #[.val (.int p0), .val (.long q1), .second, .val (.long q2), .second, .val (.long m1), .second, .val (.long q4), .second, .val (.int z9), .val (.ref ob), .val (.int c1), .val (.int c2), .val (.int t1), .val (.int t2), .val (.long m1), .second, .val (.long m2), .second, .val (.int (rf c1 t1 m1 c2 t2 m2)), .unset] [(.int t1), (.double (FP.i2d c1)), (.long m2), (.double (FP.i2d t2)), (.double (FP.i2d c2)), (.ref ob)])
  refine wp (fun _ => XS.i2dS X1.here hx rfl (hb hby at_128) rfl rfl) ?_
  show WP p e below _ T1 (mkF m 129 #[.val (.int p0), .val (.long q1), .second, .val (.long q2), .second, .val (.long m1), .second, .val (.long q4), .second, .val (.int z9), .val (.ref ob), .val (.int c1), .val (.int c2), .val (.int t1), .val (.int t2), .val (.long m1), .second, .val (.long m2), .second, .val (.int (rf c1 t1 m1 c2 t2 m2)), .unset] [(.double (FP.i2d t1)), (.double (FP.i2d c1)), (.long m2), (.double (FP.i2d t2)), (.double (FP.i2d c2)), (.ref ob)])
  refine wp (fun _ => XS.lload X1.here hx rfl (hb hby at_129) rfl) ?_
  show WP p e below _ T1 (mkF m 131 #[.val (.int p0), .val (.long q1), .second, .val (.long q2), .second, .val (.long m1), .second, .val (.long q4), .second, .val (.int z9), .val (.ref ob), .val (.int c1), .val (.int c2), .val (.int t1), .val (.int t2), .val (.long m1), .second, .val (.long m2), .second, .val (.int (rf c1 t1 m1 c2 t2 m2)), .unset] [(.long m1), (.double (FP.i2d t1)), (.double (FP.i2d c1)), (.long m2), (.double (FP.i2d t2)), (.double (FP.i2d c2)), (.ref ob)])
  refine wp_virtualP C X1 e1 (y := (⟨"com/example/joinsmith/joinsmith/planner/strategy/Objective", "prefers", "(DDJDDJ)Z"⟩ : MethodName)) (b := ob) E (argsL := [(.double (FP.i2d c2)), (.double (FP.i2d t2)), (.long m2), (.double (FP.i2d c1)), (.double (FP.i2d t1)), (.long m1)]) (rest := []) (mp c2 t2 m2 c1 t1 m1) (hw _ (List.mem_of_getElem? (i := 3) rfl)) (hw _ (List.mem_of_getElem? (i := 4) rfl)) (hw _ (List.mem_of_getElem? (i := 6) rfl)) (hw _ (List.mem_of_getElem? (i := 5) rfl)) (hw _ (List.mem_of_getElem? (i := 7) rfl)) (hw _ (List.mem_of_getElem? (i := 1) rfl)) (by decide) rfl (lenOf pd_pf rfl) at_131 rfl rfl rfl (by decide) (Nat.le_of_ble_eq_true rfl) (by decide) (by decide) ?_
  intro T2 X2 e2
  show WP p e below _ T2 (mkF m 134 #[.val (.int p0), .val (.long q1), .second, .val (.long q2), .second, .val (.long m1), .second, .val (.long q4), .second, .val (.int z9), .val (.ref ob), .val (.int c1), .val (.int c2), .val (.int t1), .val (.int t2), .val (.long m1), .second, .val (.long m2), .second, .val (.int (rf c1 t1 m1 c2 t2 m2)), .unset] [(.int (rf c2 t2 m2 c1 t1 m1))])
  refine wp (fun _ => XS.istore X2.here hx rfl (hb hby at_134) rfl (l' := #[.val (.int p0), .val (.long q1), .second, .val (.long q2), .second, .val (.long m1), .second, .val (.long q4), .second, .val (.int z9), .val (.ref ob), .val (.int c1), .val (.int c2), .val (.int t1), .val (.int t2), .val (.long m1), .second, .val (.long m2), .second, .val (.int (rf c1 t1 m1 c2 t2 m2)), .val (.int (rf c2 t2 m2 c1 t1 m1))]) rfl) ?_
  show WP p e below _ T2 (mkF m 136 #[.val (.int p0), .val (.long q1), .second, .val (.long q2), .second, .val (.long m1), .second, .val (.long q4), .second, .val (.int z9), .val (.ref ob), .val (.int c1), .val (.int c2), .val (.int t1), .val (.int t2), .val (.long m1), .second, .val (.long m2), .second, .val (.int (rf c1 t1 m1 c2 t2 m2)), .val (.int (rf c2 t2 m2 c1 t1 m1))] [])
  refine wp (fun _ => XS.iload X2.here hx rfl (hb hby at_136) rfl) ?_
  show WP p e below _ T2 (mkF m 138 #[.val (.int p0), .val (.long q1), .second, .val (.long q2), .second, .val (.long m1), .second, .val (.long q4), .second, .val (.int z9), .val (.ref ob), .val (.int c1), .val (.int c2), .val (.int t1), .val (.int t2), .val (.long m1), .second, .val (.long m2), .second, .val (.int (rf c1 t1 m1 c2 t2 m2)), .val (.int (rf c2 t2 m2 c1 t1 m1))] [(.int (rf c1 t1 m1 c2 t2 m2))])
  refine wp (fun _ => XS.iload X2.here hx rfl (hb hby at_138) rfl) ?_
  show WP p e below _ T2 (mkF m 140 #[.val (.int p0), .val (.long q1), .second, .val (.long q2), .second, .val (.long m1), .second, .val (.long q4), .second, .val (.int z9), .val (.ref ob), .val (.int c1), .val (.int c2), .val (.int t1), .val (.int t2), .val (.long m1), .second, .val (.long m2), .second, .val (.int (rf c1 t1 m1 c2 t2 m2)), .val (.int (rf c2 t2 m2 c1 t1 m1))] [(.int z9), (.int (rf c1 t1 m1 c2 t2 m2))])
  refine wp (fun _ => XS.iload X2.here hx rfl (hb hby at_140) rfl) ?_
  show WP p e below _ T2 (mkF m 142 #[.val (.int p0), .val (.long q1), .second, .val (.long q2), .second, .val (.long m1), .second, .val (.long q4), .second, .val (.int z9), .val (.ref ob), .val (.int c1), .val (.int c2), .val (.int t1), .val (.int t2), .val (.long m1), .second, .val (.long m2), .second, .val (.int (rf c1 t1 m1 c2 t2 m2)), .val (.int (rf c2 t2 m2 c1 t1 m1))] [(.int c1), (.int z9), (.int (rf c1 t1 m1 c2 t2 m2))])
  refine wp (fun _ => XS.iload X2.here hx rfl (hb hby at_142) rfl) ?_
  show WP p e below _ T2 (mkF m 144 #[.val (.int p0), .val (.long q1), .second, .val (.long q2), .second, .val (.long m1), .second, .val (.long q4), .second, .val (.int z9), .val (.ref ob), .val (.int c1), .val (.int c2), .val (.int t1), .val (.int t2), .val (.long m1), .second, .val (.long m2), .second, .val (.int (rf c1 t1 m1 c2 t2 m2)), .val (.int (rf c2 t2 m2 c1 t1 m1))] [(.int t1), (.int c1), (.int z9), (.int (rf c1 t1 m1 c2 t2 m2))])
  refine wp (fun _ => XS.lload X2.here hx rfl (hb hby at_144) rfl) ?_
  show WP p e below _ T2 (mkF m 146 #[.val (.int p0), .val (.long q1), .second, .val (.long q2), .second, .val (.long m1), .second, .val (.long q4), .second, .val (.int z9), .val (.ref ob), .val (.int c1), .val (.int c2), .val (.int t1), .val (.int t2), .val (.long m1), .second, .val (.long m2), .second, .val (.int (rf c1 t1 m1 c2 t2 m2)), .val (.int (rf c2 t2 m2 c1 t1 m1))] [(.long m1), (.int t1), (.int c1), (.int z9), (.int (rf c1 t1 m1 c2 t2 m2))])
  refine wp (fun _ => XS.iload X2.here hx rfl (hb hby at_146) rfl) ?_
  show WP p e below _ T2 (mkF m 148 #[.val (.int p0), .val (.long q1), .second, .val (.long q2), .second, .val (.long m1), .second, .val (.long q4), .second, .val (.int z9), .val (.ref ob), .val (.int c1), .val (.int c2), .val (.int t1), .val (.int t2), .val (.long m1), .second, .val (.long m2), .second, .val (.int (rf c1 t1 m1 c2 t2 m2)), .val (.int (rf c2 t2 m2 c1 t1 m1))] [(.int c2), (.long m1), (.int t1), (.int c1), (.int z9), (.int (rf c1 t1 m1 c2 t2 m2))])
  refine wp (fun _ => XS.iload X2.here hx rfl (hb hby at_148) rfl) ?_
  show WP p e below _ T2 (mkF m 150 #[.val (.int p0), .val (.long q1), .second, .val (.long q2), .second, .val (.long m1), .second, .val (.long q4), .second, .val (.int z9), .val (.ref ob), .val (.int c1), .val (.int c2), .val (.int t1), .val (.int t2), .val (.long m1), .second, .val (.long m2), .second, .val (.int (rf c1 t1 m1 c2 t2 m2)), .val (.int (rf c2 t2 m2 c1 t1 m1))] [(.int t2), (.int c2), (.long m1), (.int t1), (.int c1), (.int z9), (.int (rf c1 t1 m1 c2 t2 m2))])
  refine wp (fun _ => XS.lload X2.here hx rfl (hb hby at_150) rfl) ?_
  show WP p e below _ T2 (mkF m 152 #[.val (.int p0), .val (.long q1), .second, .val (.long q2), .second, .val (.long m1), .second, .val (.long q4), .second, .val (.int z9), .val (.ref ob), .val (.int c1), .val (.int c2), .val (.int t1), .val (.int t2), .val (.long m1), .second, .val (.long m2), .second, .val (.int (rf c1 t1 m1 c2 t2 m2)), .val (.int (rf c2 t2 m2 c1 t1 m1))] [(.long m2), (.int t2), (.int c2), (.long m1), (.int t1), (.int c1), (.int z9), (.int (rf c1 t1 m1 c2 t2 m2))])
  refine wp_staticP C X2 e2 (argsL := [(.int z9), (.int c1), (.int t1), (.long m1), (.int c2), (.int t2), (.long m2)]) (rest := [(.int (rf c1 t1 m1 c2 t2 m2))]) (me c1 t1 m1 c2 t2 m2) (hw _ (List.mem_of_getElem? (i := 10) rfl)) (hw _ (List.mem_of_getElem? (i := 11) rfl)) (hw _ (List.mem_of_getElem? (i := 12) rfl)) (hw _ (List.mem_of_getElem? (i := 13) rfl)) (by decide) rfl (lenOf pd_ex rfl) at_152 rfl rfl rfl (by decide) (Nat.le_of_ble_eq_true rfl) (by decide) (by decide) ?_
  intro T3 X3 e3
  show WP p e below _ T3 (mkF m 155 #[.val (.int p0), .val (.long q1), .second, .val (.long q2), .second, .val (.long m1), .second, .val (.long q4), .second, .val (.int z9), .val (.ref ob), .val (.int c1), .val (.int c2), .val (.int t1), .val (.int t2), .val (.long m1), .second, .val (.long m2), .second, .val (.int (rf c1 t1 m1 c2 t2 m2)), .val (.int (rf c2 t2 m2 c1 t1 m1))] [(.int (rf c1 t1 m1 c2 t2 m2)), (.int (rf c1 t1 m1 c2 t2 m2))])
  refine wp (fun _ => XS.icmpNo X3.here hx rfl (hb hby at_155) rfl (XT.ii_ne_f rfl)) ?_
  show WP p e below _ T3 (mkF m 158 #[.val (.int p0), .val (.long q1), .second, .val (.long q2), .second, .val (.long m1), .second, .val (.long q4), .second, .val (.int z9), .val (.ref ob), .val (.int c1), .val (.int c2), .val (.int t1), .val (.int t2), .val (.long m1), .second, .val (.long m2), .second, .val (.int (rf c1 t1 m1 c2 t2 m2)), .val (.int (rf c2 t2 m2 c1 t1 m1))] [])
  refine wp (fun _ => XS.iload X3.here hx rfl (hb hby at_158) rfl) ?_
  show WP p e below _ T3 (mkF m 160 #[.val (.int p0), .val (.long q1), .second, .val (.long q2), .second, .val (.long m1), .second, .val (.long q4), .second, .val (.int z9), .val (.ref ob), .val (.int c1), .val (.int c2), .val (.int t1), .val (.int t2), .val (.long m1), .second, .val (.long m2), .second, .val (.int (rf c1 t1 m1 c2 t2 m2)), .val (.int (rf c2 t2 m2 c1 t1 m1))] [(.int (rf c2 t2 m2 c1 t1 m1))])
  refine wp (fun _ => XS.iload X3.here hx rfl (hb hby at_160) rfl) ?_
  show WP p e below _ T3 (mkF m 162 #[.val (.int p0), .val (.long q1), .second, .val (.long q2), .second, .val (.long m1), .second, .val (.long q4), .second, .val (.int z9), .val (.ref ob), .val (.int c1), .val (.int c2), .val (.int t1), .val (.int t2), .val (.long m1), .second, .val (.long m2), .second, .val (.int (rf c1 t1 m1 c2 t2 m2)), .val (.int (rf c2 t2 m2 c1 t1 m1))] [(.int z9), (.int (rf c2 t2 m2 c1 t1 m1))])
  refine wp (fun _ => XS.iload X3.here hx rfl (hb hby at_162) rfl) ?_
  show WP p e below _ T3 (mkF m 164 #[.val (.int p0), .val (.long q1), .second, .val (.long q2), .second, .val (.long m1), .second, .val (.long q4), .second, .val (.int z9), .val (.ref ob), .val (.int c1), .val (.int c2), .val (.int t1), .val (.int t2), .val (.long m1), .second, .val (.long m2), .second, .val (.int (rf c1 t1 m1 c2 t2 m2)), .val (.int (rf c2 t2 m2 c1 t1 m1))] [(.int c2), (.int z9), (.int (rf c2 t2 m2 c1 t1 m1))])
  refine wp (fun _ => XS.iload X3.here hx rfl (hb hby at_164) rfl) ?_
  show WP p e below _ T3 (mkF m 166 #[.val (.int p0), .val (.long q1), .second, .val (.long q2), .second, .val (.long m1), .second, .val (.long q4), .second, .val (.int z9), .val (.ref ob), .val (.int c1), .val (.int c2), .val (.int t1), .val (.int t2), .val (.long m1), .second, .val (.long m2), .second, .val (.int (rf c1 t1 m1 c2 t2 m2)), .val (.int (rf c2 t2 m2 c1 t1 m1))] [(.int t2), (.int c2), (.int z9), (.int (rf c2 t2 m2 c1 t1 m1))])
  refine wp (fun _ => XS.lload X3.here hx rfl (hb hby at_166) rfl) ?_
  show WP p e below _ T3 (mkF m 168 #[.val (.int p0), .val (.long q1), .second, .val (.long q2), .second, .val (.long m1), .second, .val (.long q4), .second, .val (.int z9), .val (.ref ob), .val (.int c1), .val (.int c2), .val (.int t1), .val (.int t2), .val (.long m1), .second, .val (.long m2), .second, .val (.int (rf c1 t1 m1 c2 t2 m2)), .val (.int (rf c2 t2 m2 c1 t1 m1))] [(.long m2), (.int t2), (.int c2), (.int z9), (.int (rf c2 t2 m2 c1 t1 m1))])
  refine wp (fun _ => XS.iload X3.here hx rfl (hb hby at_168) rfl) ?_
  show WP p e below _ T3 (mkF m 170 #[.val (.int p0), .val (.long q1), .second, .val (.long q2), .second, .val (.long m1), .second, .val (.long q4), .second, .val (.int z9), .val (.ref ob), .val (.int c1), .val (.int c2), .val (.int t1), .val (.int t2), .val (.long m1), .second, .val (.long m2), .second, .val (.int (rf c1 t1 m1 c2 t2 m2)), .val (.int (rf c2 t2 m2 c1 t1 m1))] [(.int c1), (.long m2), (.int t2), (.int c2), (.int z9), (.int (rf c2 t2 m2 c1 t1 m1))])
  refine wp (fun _ => XS.iload X3.here hx rfl (hb hby at_170) rfl) ?_
  show WP p e below _ T3 (mkF m 172 #[.val (.int p0), .val (.long q1), .second, .val (.long q2), .second, .val (.long m1), .second, .val (.long q4), .second, .val (.int z9), .val (.ref ob), .val (.int c1), .val (.int c2), .val (.int t1), .val (.int t2), .val (.long m1), .second, .val (.long m2), .second, .val (.int (rf c1 t1 m1 c2 t2 m2)), .val (.int (rf c2 t2 m2 c1 t1 m1))] [(.int t1), (.int c1), (.long m2), (.int t2), (.int c2), (.int z9), (.int (rf c2 t2 m2 c1 t1 m1))])
  refine wp (fun _ => XS.lload X3.here hx rfl (hb hby at_172) rfl) ?_
  show WP p e below _ T3 (mkF m 174 #[.val (.int p0), .val (.long q1), .second, .val (.long q2), .second, .val (.long m1), .second, .val (.long q4), .second, .val (.int z9), .val (.ref ob), .val (.int c1), .val (.int c2), .val (.int t1), .val (.int t2), .val (.long m1), .second, .val (.long m2), .second, .val (.int (rf c1 t1 m1 c2 t2 m2)), .val (.int (rf c2 t2 m2 c1 t1 m1))] [(.long m1), (.int t1), (.int c1), (.long m2), (.int t2), (.int c2), (.int z9), (.int (rf c2 t2 m2 c1 t1 m1))])
  refine wp_staticP C X3 e3 (argsL := [(.int z9), (.int c2), (.int t2), (.long m2), (.int c1), (.int t1), (.long m1)]) (rest := [(.int (rf c2 t2 m2 c1 t1 m1))]) (me c2 t2 m2 c1 t1 m1) (hw _ (List.mem_of_getElem? (i := 10) rfl)) (hw _ (List.mem_of_getElem? (i := 11) rfl)) (hw _ (List.mem_of_getElem? (i := 12) rfl)) (hw _ (List.mem_of_getElem? (i := 13) rfl)) (by decide) rfl (lenOf pd_ex rfl) at_174 rfl rfl rfl (by decide) (Nat.le_of_ble_eq_true rfl) (by decide) (by decide) ?_
  intro T4 X4 e4
  show WP p e below _ T4 (mkF m 177 #[.val (.int p0), .val (.long q1), .second, .val (.long q2), .second, .val (.long m1), .second, .val (.long q4), .second, .val (.int z9), .val (.ref ob), .val (.int c1), .val (.int c2), .val (.int t1), .val (.int t2), .val (.long m1), .second, .val (.long m2), .second, .val (.int (rf c1 t1 m1 c2 t2 m2)), .val (.int (rf c2 t2 m2 c1 t1 m1))] [(.int (rf c2 t2 m2 c1 t1 m1)), (.int (rf c2 t2 m2 c1 t1 m1))])
  refine wp (fun _ => XS.icmpNo X4.here hx rfl (hb hby at_177) rfl (XT.ii_ne_f rfl)) ?_
  show WP p e below _ T4 (mkF m 180 #[.val (.int p0), .val (.long q1), .second, .val (.long q2), .second, .val (.long m1), .second, .val (.long q4), .second, .val (.int z9), .val (.ref ob), .val (.int c1), .val (.int c2), .val (.int t1), .val (.int t2), .val (.long m1), .second, .val (.long m2), .second, .val (.int (rf c1 t1 m1 c2 t2 m2)), .val (.int (rf c2 t2 m2 c1 t1 m1))] [])
  refine wp (fun _ => XS.iconst X4.here hx rfl (hb hby at_180)) ?_
  show WP p e below _ T4 (mkF m 181 #[.val (.int p0), .val (.long q1), .second, .val (.long q2), .second, .val (.long m1), .second, .val (.long q4), .second, .val (.int z9), .val (.ref ob), .val (.int c1), .val (.int c2), .val (.int t1), .val (.int t2), .val (.long m1), .second, .val (.long m2), .second, .val (.int (rf c1 t1 m1 c2 t2 m2)), .val (.int (rf c2 t2 m2 c1 t1 m1))] [(.int (1 : Int32))])
  refine wp (fun _ => XS.goto X4.here hx rfl (pc0 := 181) (pc' := 185) rfl (hb hby at_181) (by decide) (by decide)) ?_
  show WP p e below _ T4 (mkF m 185 #[.val (.int p0), .val (.long q1), .second, .val (.long q2), .second, .val (.long m1), .second, .val (.long q4), .second, .val (.int z9), .val (.ref ob), .val (.int c1), .val (.int c2), .val (.int t1), .val (.int t2), .val (.long m1), .second, .val (.long m2), .second, .val (.int (rf c1 t1 m1 c2 t2 m2)), .val (.int (rf c2 t2 m2 c1 t1 m1))] [(.int (1 : Int32))])
  exact wp_zreturn C X4 (Or.inl rfl) at_185 ⟨rfl, Fr.nil n0⟩ (by decide) (by decide)
end Own
set_option maxRecDepth 65536 in
set_option maxHeartbeats 4000000 in
theorem rm_law (l : Launch) (Z : State) (a0 : Array Value) (hw : ∀ d ∈ tables_1, d.before a0 Z = true) (ws : List Jvm.Cond) (p0 : Int32) (q1 q2 q3 q4 : Int64) (h0 : Heap) (n0 : Nat) (Z0 : n0 ≤ h0.size) (tt rr : Addr) (S1 : Sta Z h0 "com/example/joinsmith/joinsmith/planner/strategy/Objective" "TOTAL" "Lcom/example/joinsmith/joinsmith/planner/strategy/Objective;" (.ref tt)) (S2 : Sta Z h0 "com/example/joinsmith/joinsmith/planner/strategy/Objective" "RESPONSE" "Lcom/example/joinsmith/joinsmith/planner/strategy/Objective;" (.ref rr)) (E1 : Exa Z h0 tt "com/example/joinsmith/joinsmith/planner/strategy/Objective") (E2 : Exa Z h0 rr "com/example/joinsmith/joinsmith/planner/strategy/Objective") (ne : ¬ tt = rr) :
    MetQ l Z x code maxLocals ret ws room_1 #[(.int p0), (.long q1), (.long q2), (.long q3), (.long q4)] h0 (fun v _ L => v = some (.int (1 : Int32)) ∧ Fr n0 L) := by
  refine metQ (a0 := a0) (plainFor_of_name pn_law) hw (ef_law p0 q1 q2 q3 q4) ?_
  intro p e s m below meth c T0 C X0 e0
  obtain ⟨hx, hZ, hw, hby, hml, hown, hnm, hret, hlk⟩ := id C
  show WP p e below _ T0 (mkF m 0 #[.val (.int p0), .val (.long q1), .second, .val (.long q2), .second, .val (.long q3), .second, .val (.long q4), .second, .unset, .unset, .unset, .unset, .unset, .unset, .unset, .unset, .unset, .unset, .unset, .unset] [])
  refine wp (fun _ => XS.iloadN X0.here hx rfl (hb hby at_0) rfl) ?_
  show WP p e below _ T0 (mkF m 1 #[.val (.int p0), .val (.long q1), .second, .val (.long q2), .second, .val (.long q3), .second, .val (.long q4), .second, .unset, .unset, .unset, .unset, .unset, .unset, .unset, .unset, .unset, .unset, .unset, .unset] [(.int p0)])
  refine wp (fun _ => XS.iconst X0.here hx rfl (hb hby at_1)) ?_
  show WP p e below _ T0 (mkF m 2 #[.val (.int p0), .val (.long q1), .second, .val (.long q2), .second, .val (.long q3), .second, .val (.long q4), .second, .unset, .unset, .unset, .unset, .unset, .unset, .unset, .unset, .unset, .unset, .unset, .unset] [(.int (1 : Int32)), (.int p0)])
  refine wp (fun _ => XS.iand X0.here hx rfl (hb hby at_2) rfl) ?_
  show WP p e below _ T0 (mkF m 3 #[.val (.int p0), .val (.long q1), .second, .val (.long q2), .second, .val (.long q3), .second, .val (.long q4), .second, .unset, .unset, .unset, .unset, .unset, .unset, .unset, .unset, .unset, .unset, .unset, .unset] [(.int (p0 &&& (1 : Int32)))])
  by_cases hc : (p0 &&& (1 : Int32)) = (0 : Int32)
  ·
    refine wp (fun _ => XS.ifYes X0.here hx rfl (pc0 := 3) (pc' := 10) rfl (hb hby at_3) rfl (XT.i0_eq_t hc) (by decide) (by decide)) ?_
    show WP p e below _ T0 (mkF m 10 #[.val (.int p0), .val (.long q1), .second, .val (.long q2), .second, .val (.long q3), .second, .val (.long q4), .second, .unset, .unset, .unset, .unset, .unset, .unset, .unset, .unset, .unset, .unset, .unset, .unset] [])
    refine wp (fun _ => XS.iconst X0.here hx rfl (hb hby at_10)) ?_
    show WP p e below _ T0 (mkF m 11 #[.val (.int p0), .val (.long q1), .second, .val (.long q2), .second, .val (.long q3), .second, .val (.long q4), .second, .unset, .unset, .unset, .unset, .unset, .unset, .unset, .unset, .unset, .unset, .unset, .unset] [(.int (0 : Int32))])
    refine wp (fun _ => XS.istore X0.here hx rfl (hb hby at_11) rfl (l' := #[.val (.int p0), .val (.long q1), .second, .val (.long q2), .second, .val (.long q3), .second, .val (.long q4), .second, .val (.int (0 : Int32)), .unset, .unset, .unset, .unset, .unset, .unset, .unset, .unset, .unset, .unset, .unset]) rfl) ?_
    show WP p e below _ T0 (mkF m 13 #[.val (.int p0), .val (.long q1), .second, .val (.long q2), .second, .val (.long q3), .second, .val (.long q4), .second, .val (.int (0 : Int32)), .unset, .unset, .unset, .unset, .unset, .unset, .unset, .unset, .unset, .unset, .unset] [])
    refine wp (fun _ => XS.iload X0.here hx rfl (hb hby at_13) rfl) ?_
    show WP p e below _ T0 (mkF m 15 #[.val (.int p0), .val (.long q1), .second, .val (.long q2), .second, .val (.long q3), .second, .val (.long q4), .second, .val (.int (0 : Int32)), .unset, .unset, .unset, .unset, .unset, .unset, .unset, .unset, .unset, .unset, .unset] [(.int (0 : Int32))])
    refine wp (fun _ => XS.ifYes X0.here hx rfl (pc0 := 15) (pc' := 24) rfl (hb hby at_15) rfl (XT.i0_eq_t (by decide)) (by decide) (by decide)) ?_
    show WP p e below _ T0 (mkF m 24 #[.val (.int p0), .val (.long q1), .second, .val (.long q2), .second, .val (.long q3), .second, .val (.long q4), .second, .val (.int (0 : Int32)), .unset, .unset, .unset, .unset, .unset, .unset, .unset, .unset, .unset, .unset, .unset] [])
    refine wp_getstatic C X0 e0 (hw _ (List.mem_of_getElem? (i := 0) rfl)) S1 at_24 ?_
    intro T1 X1 e1
    show WP p e below _ T1 (mkF m 27 #[.val (.int p0), .val (.long q1), .second, .val (.long q2), .second, .val (.long q3), .second, .val (.long q4), .second, .val (.int (0 : Int32)), .unset, .unset, .unset, .unset, .unset, .unset, .unset, .unset, .unset, .unset, .unset] [(.ref tt)])
    refine wp (fun _ => XS.astore X1.here hx rfl (hb hby at_27) rfl rfl (l' := #[.val (.int p0), .val (.long q1), .second, .val (.long q2), .second, .val (.long q3), .second, .val (.long q4), .second, .val (.int (0 : Int32)), .val (.ref tt), .unset, .unset, .unset, .unset, .unset, .unset, .unset, .unset, .unset, .unset]) rfl) ?_
    show WP p e below _ T1 (mkF m 29 #[.val (.int p0), .val (.long q1), .second, .val (.long q2), .second, .val (.long q3), .second, .val (.long q4), .second, .val (.int (0 : Int32)), .val (.ref tt), .unset, .unset, .unset, .unset, .unset, .unset, .unset, .unset, .unset, .unset] [])
    exact tail_ p0 q1 q2 q3 q4 (0 : Int32) tt n0 (fun c1 _ m1 c2 _ m2 => own_cm c1 m1 c2 m2) (fun c1 t1 m1 c2 t2 m2 => rm_pfT l Z a0 hw [] tt rr c1 t1 m1 c2 t2 m2 h0 S2 ne) (fun c1 t1 m1 c2 t2 m2 => rm_ex0 l Z a0 hw [] c1 t1 m1 c2 t2 m2 h0) E1 C X1 e1
  ·
    refine wp (fun _ => XS.ifNo X0.here hx rfl (hb hby at_3) rfl (XT.i0_eq_f hc)) ?_
    show WP p e below _ T0 (mkF m 6 #[.val (.int p0), .val (.long q1), .second, .val (.long q2), .second, .val (.long q3), .second, .val (.long q4), .second, .unset, .unset, .unset, .unset, .unset, .unset, .unset, .unset, .unset, .unset, .unset, .unset] [])
    refine wp (fun _ => XS.iconst X0.here hx rfl (hb hby at_6)) ?_
    show WP p e below _ T0 (mkF m 7 #[.val (.int p0), .val (.long q1), .second, .val (.long q2), .second, .val (.long q3), .second, .val (.long q4), .second, .unset, .unset, .unset, .unset, .unset, .unset, .unset, .unset, .unset, .unset, .unset, .unset] [(.int (1 : Int32))])
    refine wp (fun _ => XS.goto X0.here hx rfl (pc0 := 7) (pc' := 11) rfl (hb hby at_7) (by decide) (by decide)) ?_
    show WP p e below _ T0 (mkF m 11 #[.val (.int p0), .val (.long q1), .second, .val (.long q2), .second, .val (.long q3), .second, .val (.long q4), .second, .unset, .unset, .unset, .unset, .unset, .unset, .unset, .unset, .unset, .unset, .unset, .unset] [(.int (1 : Int32))])
    refine wp (fun _ => XS.istore X0.here hx rfl (hb hby at_11) rfl (l' := #[.val (.int p0), .val (.long q1), .second, .val (.long q2), .second, .val (.long q3), .second, .val (.long q4), .second, .val (.int (1 : Int32)), .unset, .unset, .unset, .unset, .unset, .unset, .unset, .unset, .unset, .unset, .unset]) rfl) ?_
    show WP p e below _ T0 (mkF m 13 #[.val (.int p0), .val (.long q1), .second, .val (.long q2), .second, .val (.long q3), .second, .val (.long q4), .second, .val (.int (1 : Int32)), .unset, .unset, .unset, .unset, .unset, .unset, .unset, .unset, .unset, .unset, .unset] [])
    refine wp (fun _ => XS.iload X0.here hx rfl (hb hby at_13) rfl) ?_
    show WP p e below _ T0 (mkF m 15 #[.val (.int p0), .val (.long q1), .second, .val (.long q2), .second, .val (.long q3), .second, .val (.long q4), .second, .val (.int (1 : Int32)), .unset, .unset, .unset, .unset, .unset, .unset, .unset, .unset, .unset, .unset, .unset] [(.int (1 : Int32))])
    refine wp (fun _ => XS.ifNo X0.here hx rfl (hb hby at_15) rfl (XT.i0_eq_f (by decide))) ?_
    show WP p e below _ T0 (mkF m 18 #[.val (.int p0), .val (.long q1), .second, .val (.long q2), .second, .val (.long q3), .second, .val (.long q4), .second, .val (.int (1 : Int32)), .unset, .unset, .unset, .unset, .unset, .unset, .unset, .unset, .unset, .unset, .unset] [])
    refine wp_getstatic C X0 e0 (hw _ (List.mem_of_getElem? (i := 14) rfl)) S2 at_18 ?_
    intro T1 X1 e1
    show WP p e below _ T1 (mkF m 21 #[.val (.int p0), .val (.long q1), .second, .val (.long q2), .second, .val (.long q3), .second, .val (.long q4), .second, .val (.int (1 : Int32)), .unset, .unset, .unset, .unset, .unset, .unset, .unset, .unset, .unset, .unset, .unset] [(.ref rr)])
    refine wp (fun _ => XS.goto X1.here hx rfl (pc0 := 21) (pc' := 27) rfl (hb hby at_21) (by decide) (by decide)) ?_
    show WP p e below _ T1 (mkF m 27 #[.val (.int p0), .val (.long q1), .second, .val (.long q2), .second, .val (.long q3), .second, .val (.long q4), .second, .val (.int (1 : Int32)), .unset, .unset, .unset, .unset, .unset, .unset, .unset, .unset, .unset, .unset, .unset] [(.ref rr)])
    refine wp (fun _ => XS.astore X1.here hx rfl (hb hby at_27) rfl rfl (l' := #[.val (.int p0), .val (.long q1), .second, .val (.long q2), .second, .val (.long q3), .second, .val (.long q4), .second, .val (.int (1 : Int32)), .val (.ref rr), .unset, .unset, .unset, .unset, .unset, .unset, .unset, .unset, .unset, .unset]) rfl) ?_
    show WP p e below _ T1 (mkF m 29 #[.val (.int p0), .val (.long q1), .second, .val (.long q2), .second, .val (.long q3), .second, .val (.long q4), .second, .val (.int (1 : Int32)), .val (.ref rr), .unset, .unset, .unset, .unset, .unset, .unset, .unset, .unset, .unset, .unset] [])
    exact tail_ p0 q1 q2 q3 q4 (1 : Int32) rr n0 own_pt (fun c1 t1 m1 c2 t2 m2 => rm_pfR l Z a0 hw [] rr rr c1 t1 m1 c2 t2 m2 h0 S2 rfl) (fun c1 t1 m1 c2 t2 m2 => rm_ex1 l Z a0 hw [] c1 t1 m1 c2 t2 m2 h0) E2 C X1 e1
set_option maxRecDepth 65536 in
set_option maxHeartbeats 4000000 in
theorem comes_1 {Post : Tables → Env → Array Value → State → Outcome → State → Prop} (hpost : ∀ tb e args s v u, (limb_1_1.after args s (.returned v) u = true ∧ limb_1_2.after args s (.returned v) u = true ∧ True) → FrameEnd s (.returned v) u (Jvm.fieldLocs frame_1_writes args s ++ Jvm.arrayLocs frame_1_arrays args s ++ Jvm.staticLocs frame_1_statics s) 0 0 → Post tb e args s (.returned v) u) :
    ArmFor flags0 classFile x code maxLocals ret World_1 tables_1 room_1 Calls_1 rest_1 Pre_1 Post := by
  intro l hfl _ _ p e ha hc hk s m args below hf hA hF happ hP
  obtain ⟨hcalls, hrest, hpre⟩ := hP
  obtain ⟨-, -, -, hnamed, -, -, -, hat⟩ := (Spec.applies_iff hf).mp happ
  obtain ⟨hg, hn⟩ := and_e (Cond.before_iff.mp (show (Jvm.Cond.and given_1 narrow_1).before args s = true from hpre))
  obtain ⟨hcount, hr0⟩ := and_e hg
  obtain ⟨ha0, hr1⟩ := and_e hr0
  obtain ⟨ha1, hr2⟩ := and_e hr1
  obtain ⟨ha2, hr3⟩ := and_e hr2
  obtain ⟨ha3, hr4⟩ := and_e hr3
  have ha4 := hr4
  obtain ⟨w0, w1, w2, w3, w4, rfl⟩ : ∃ w0 w1 w2 w3 w4 : Value, args = #[w0, w1, w2, w3, w4] := by
    have hs : args.size = 5 := by simpa [Cond.value, given_1] using hcount
    obtain ⟨L⟩ := args
    match L, hs with
    | [w0, w1, w2, w3, w4], _ => exact ⟨w0, w1, w2, w3, w4, rfl⟩
  have hw := fun d (hd : d ∈ tables_1) => atoms_spec (ws := Jvm.Cond.code x code maxLocals ret :: tables_1) hat d (List.mem_cons_of_mem _ hd)
  obtain ⟨i0, ei0⟩ := is_v ha0
  obtain rfl : w0 = (.int i0) := Option.some.inj ei0
  obtain ⟨i1, ei1⟩ := isL_v ha1
  obtain rfl : w1 = (.long i1) := Option.some.inj ei1
  obtain ⟨i2, ei2⟩ := isL_v ha2
  obtain rfl : w2 = (.long i2) := Option.some.inj ei2
  obtain ⟨i3, ei3⟩ := isL_v ha3
  obtain rfl : w3 = (.long i3) := Option.some.inj ei3
  obtain ⟨i4, ei4⟩ := isL_v ha4
  obtain rfl : w4 = (.long i4) := Option.some.inj ei4
  obtain ⟨n1, hn1⟩ := and_e hn
  obtain ⟨n2, hn2⟩ := and_e hn1
  obtain ⟨n3, n4⟩ := and_e hn2
  obtain ⟨tt, ett⟩ := exa_v n1
  obtain ⟨rr, err⟩ := exa_v n2
  have S1 := Sta.start ett (Or.inr ⟨(hw _ (List.mem_of_getElem? (i := 1) rfl)), (hw _ (List.mem_of_getElem? (i := 2) rfl))⟩)
  have S2 := Sta.start err (Or.inr ⟨(hw _ (List.mem_of_getElem? (i := 1) rfl)), (hw _ (List.mem_of_getElem? (i := 9) rfl))⟩)
  have E1 := Exa.start ett n1
  have E2 := Exa.start err n2
  have ne : ¬ tt = rr := by
    intro q
    subst q
    have k1 := own_eq_int n3
    rw [fld_at ett] at k1
    have k2 := own_eq_int n4
    rw [fld_at err] at k2
    exact absurd (Value.int.inj (Option.some.inj (k1.symm.trans k2))) (by decide)
  obtain ⟨n, o, h1, h2, h3, _, L, rfl, ⟨rfl, N⟩, hq⟩ := rm_law l s _ hw tables_1 i0 i1 i2 i3 i4 s.heap s.heap.size (Nat.le_refl _) tt rr S1 S2 E1 E2 ne p e ha hc hk s m _ below hf ((Spec.applies_iff_loose hf).mp happ).1 ⟨rfl, State.Warmed39.refl s, rfl⟩ trivial
  refine ⟨n, _, h1, h2, h3, hpost _ _ _ _ _ _ ⟨Cond.after_iff.mpr rfl, Cond.after_iff.mpr (eq_i res_at (Term.int_eval (1)) rfl), trivial⟩ ⟨hq.1, hq.2.1, (hq.2.2.sift fun y hy => Or.inr (N y hy)).mono (by decide) (by decide)⟩⟩
theorem main_1_1 : Claimed_1_1 := comes_1 fun _ _ _ _ _ _ h hF => ⟨h.1, hF⟩
theorem main_1_2 : Claimed_1_2 := comes_1 fun _ _ _ _ _ _ h hF => ⟨h.2.1, hF⟩

end Jvm.Pilot.@@N@@
namespace Jvm.Pilot.@@N@@
open Jvm Jvm.ClassFile Sem Op Lib Jvm.Free Jvm.Stand Jvm.Pilot.@@N@@.Jvm.D
/-! MADE BY PROGRAM (witnessworld.py) out of the Statement's table words and the real class files: 12 classes; the members and pool entries that the words name. The judged class is class 1, her method 1. -/
namespace start1
open Jvm.ClassFile
def u (s : String) : CpInfo := .utf8 (stringToUtf16 s)
/-- a pool by its gaps: so many unusable entries, then the entry; so many at the end -/
def gap : Nat → List CpInfo → List CpInfo
  | 0, r => r
  | n + 1, r => .unusable :: gap n r
def poolList (es : List (Nat × CpInfo)) (last : Nat) : List CpInfo := es.foldr (fun e r => gap e.1 (e.2 :: r)) (gap last [])
def pool (es : List (Nat × CpInfo)) (last : Nat) : Array CpInfo := ⟨poolList es last⟩
def fileOf (pool : Array CpInfo) (this : Nat) (attrs : Array Attribute := #[]) (ms : Array MethodInfo := #[]) (fl : Nat := 33) (sup : Nat := 0) (ifs : Array Nat := #[]) (fds : Array FieldInfo := #[]) : ClassFile where
  minorVersion := 0
  majorVersion := 65
  constantPool := pool
  accessFlags := fl
  thisClass := this
  superClass := sup
  interfaces := ifs
  fields := fds
  methods := ms
  attributes := attrs
def plain (name : String) (sup : Option ClassId) : Class where
  name := name
  kind := .ordinary
  loader := none
  accessFlags := 33
  super := sup
  interfaces := #[]
  cf := none
  fields := #[]
  methods := #[]
  instanceTypes := #[]
  staticTypes := #[]
  resolved := #[]
  callSites := []
  init := .initialized
  statics := none
  mirror := none

def pool0 : Array CpInfo := pool [(5, u "<init>"), (0, u "()V"), (1, .class_ 10), (1, u "java/lang/Object")] 113

def k0m0 : Method := { name := "<init>", desc := "()V", sig := { parameters := [], returnType := none }, accessFlags := 1, code := none }
/-- java/lang/Object -/
def k0 : Class := { plain "java/lang/Object" none with
  accessFlags := 33
  interfaces := #[]
  cf := some (fileOf pool0 8 #[] #[{ accessFlags := 1, nameIndex := 5, descriptorIndex := 6, attributes := #[] }] 33 0 #[] #[])
  fields := #[]
  methods := #[k0m0]
  instanceTypes := #[]
  staticTypes := #[]
  resolved := Array.replicate 124 none
  statics := none }

def pool1 : Array CpInfo := pool [(2, .class_ 4), (1, u "java/lang/Object"), (0, u "<init>"), (0, u "()V"), (0, .fieldref 8 9), (0, .class_ 10), (0, .nameAndType 11 12), (0, u "com/example/joinsmith/joinsmith/planner/strategy/Objective"), (0, u "RESPONSE"), (0, u "Lcom/example/joinsmith/joinsmith/planner/strategy/Objective;"), (0, .fieldref 8 14), (0, .nameAndType 15 12), (0, u "TOTAL"), (0, .methodref 8 17), (0, .nameAndType 18 19), (0, u "prefers"), (0, u "(DDJDDJ)Z"), (0, .methodref 21 22), (0, .class_ 23), (0, .nameAndType 24 25), (0, u "com/example/joinsmith/joinsmith/planner/strategy/ObjectivePrefersPinLaw"), (0, u "expected"), (0, u "(ZIIJIIJ)Z"), (2, u "law"), (0, u "(IJJJJ)Z")] 3

def k1m0 : Method := { name := "<init>", desc := "()V", sig := { parameters := [], returnType := none }, accessFlags := 1, code := none }
def k1c1 : Code := { maxStack := 13, maxLocals := 21, code := code, exceptionTable := #[], attributes := #[] }
def k1m1 : Method := { name := "law", desc := "(IJJJJ)Z", sig := { parameters := [.int, .long, .long, .long, .long], returnType := some .boolean }, accessFlags := 9, code := some k1c1 }
def k1c2 : Code := { maxStack := 4, maxLocals := 9, code := method_3_code, exceptionTable := #[], attributes := #[] }
def k1m2 : Method := { name := "expected", desc := "(ZIIJIIJ)Z", sig := { parameters := [.boolean, .int, .int, .long, .int, .int, .long], returnType := some .boolean }, accessFlags := 10, code := some k1c2 }
/-- com/example/joinsmith/joinsmith/planner/strategy/ObjectivePrefersPinLaw -/
def k1 : Class := { plain "com/example/joinsmith/joinsmith/planner/strategy/ObjectivePrefersPinLaw" (some 0) with
  accessFlags := 49
  interfaces := #[]
  cf := some (fileOf pool1 21 #[] #[{ accessFlags := 1, nameIndex := 5, descriptorIndex := 6, attributes := #[] }, { accessFlags := 9, nameIndex := 28, descriptorIndex := 29, attributes := #[] }, { accessFlags := 10, nameIndex := 24, descriptorIndex := 25, attributes := #[] }] 49 2 #[] #[])
  fields := #[]
  methods := #[k1m0, k1m1, k1m2]
  instanceTypes := #[]
  staticTypes := #[]
  resolved := Array.replicate 33 none
  statics := none }

def pool2 : Array CpInfo := pool [(1, .class_ 2), (0, u "java/lang/constant/Constable"), (0, .class_ 4), (0, u "java/lang/Object")] 6

/-- java/lang/constant/Constable -/
def k2 : Class := { plain "java/lang/constant/Constable" (some 0) with
  accessFlags := 1537
  interfaces := #[]
  cf := some (fileOf pool2 1 #[] #[] 1537 3 #[] #[])
  fields := #[]
  methods := #[]
  instanceTypes := #[]
  staticTypes := #[]
  resolved := Array.replicate 11 none
  statics := none }

def pool3 : Array CpInfo := pool [(1, .class_ 2), (0, u "java/lang/Comparable"), (0, .class_ 4), (0, u "java/lang/Object")] 7

/-- java/lang/Comparable -/
def k3 : Class := { plain "java/lang/Comparable" (some 0) with
  accessFlags := 1537
  interfaces := #[]
  cf := some (fileOf pool3 1 #[] #[] 1537 3 #[] #[])
  fields := #[]
  methods := #[]
  instanceTypes := #[]
  staticTypes := #[]
  resolved := Array.replicate 12 none
  statics := none }

def pool4 : Array CpInfo := pool [(1, .class_ 2), (0, u "java/io/Serializable"), (0, .class_ 4), (0, u "java/lang/Object")] 2

/-- java/io/Serializable -/
def k4 : Class := { plain "java/io/Serializable" (some 0) with
  accessFlags := 1537
  interfaces := #[]
  cf := some (fileOf pool4 1 #[] #[] 1537 3 #[] #[])
  fields := #[]
  methods := #[]
  instanceTypes := #[]
  staticTypes := #[]
  resolved := Array.replicate 7 none
  statics := none }

def pool5 : Array CpInfo := pool [(2, .class_ 4), (1, u "java/lang/Enum"), (0, u "name"), (0, u "Ljava/lang/String;"), (2, u "ordinal"), (0, u "I"), (1, .class_ 14), (1, u "java/lang/Object"), (4, u "hash"), (86, .class_ 108), (1, u "java/lang/Enum$EnumDesc"), (2, .class_ 112), (0, u "java/lang/constant/Constable"), (0, .class_ 114), (0, u "java/lang/Comparable"), (0, .class_ 116), (0, u "java/io/Serializable")] 87

/-- java/lang/Enum -/
def k5 : Class := { plain "java/lang/Enum" (some 0) with
  accessFlags := 1057
  interfaces := #[2, 3, 4]
  cf := some (fileOf pool5 2 #[.nestMembers #[106]] #[] 1057 12 #[111, 113, 115] #[{ accessFlags := 18, nameIndex := 5, descriptorIndex := 6, attributes := #[] }, { accessFlags := 18, nameIndex := 9, descriptorIndex := 10, attributes := #[] }, { accessFlags := 2, nameIndex := 19, descriptorIndex := 10, attributes := #[] }])
  fields := #[{ name := "name", type := (.object "java/lang/String"), accessFlags := 18, slot := 0, constantValue := 0 }, { name := "ordinal", type := .int, accessFlags := 18, slot := 1, constantValue := 0 }, { name := "hash", type := .int, accessFlags := 2, slot := 2, constantValue := 0 }]
  methods := #[]
  instanceTypes := #[(.object "java/lang/String"), .int, .int]
  staticTypes := #[]
  resolved := Array.replicate 204 none
  statics := none }

def pool6 : Array CpInfo := pool [(1, .class_ 2), (0, u "com/example/joinsmith/joinsmith/planner/strategy/Objective"), (2, u "TOTAL"), (0, u "Lcom/example/joinsmith/joinsmith/planner/strategy/Objective;"), (0, .fieldref 1 8), (0, .nameAndType 9 6), (0, u "RESPONSE"), (2, u "$VALUES"), (0, u "[Lcom/example/joinsmith/joinsmith/planner/strategy/Objective;"), (6, .class_ 22), (1, u "java/lang/Enum"), (21, u "prefers"), (0, u "(DDJDDJ)Z")] 42

def k6c0 : Code := { maxStack := 4, maxLocals := 14, code := prog_251_method_6_code, exceptionTable := #[], attributes := #[] }
def k6m0 : Method := { name := "prefers", desc := "(DDJDDJ)Z", sig := { parameters := [.double, .double, .long, .double, .double, .long], returnType := some .boolean }, accessFlags := 1, code := some k6c0 }
/-- com/example/joinsmith/joinsmith/planner/strategy/Objective -/
def k6 : Class := { plain "com/example/joinsmith/joinsmith/planner/strategy/Objective" (some 5) with
  accessFlags := 16433
  interfaces := #[]
  cf := some (fileOf pool6 1 #[] #[{ accessFlags := 1, nameIndex := 44, descriptorIndex := 45, attributes := #[] }] 16433 20 #[] #[{ accessFlags := 16409, nameIndex := 5, descriptorIndex := 6, attributes := #[] }, { accessFlags := 16409, nameIndex := 9, descriptorIndex := 6, attributes := #[] }, { accessFlags := 4122, nameIndex := 12, descriptorIndex := 13, attributes := #[] }])
  fields := #[{ name := "TOTAL", type := (.object "com/example/joinsmith/joinsmith/planner/strategy/Objective"), accessFlags := 16409, slot := 0, constantValue := 0 }, { name := "RESPONSE", type := (.object "com/example/joinsmith/joinsmith/planner/strategy/Objective"), accessFlags := 16409, slot := 1, constantValue := 0 }, { name := "$VALUES", type := (.array (.object "com/example/joinsmith/joinsmith/planner/strategy/Objective")), accessFlags := 4122, slot := 2, constantValue := 0 }]
  methods := #[k6m0]
  instanceTypes := #[(.object "java/lang/String"), .int, .int]
  staticTypes := #[(.object "com/example/joinsmith/joinsmith/planner/strategy/Objective"), (.object "com/example/joinsmith/joinsmith/planner/strategy/Objective"), (.array (.object "com/example/joinsmith/joinsmith/planner/strategy/Objective"))]
  resolved := Array.replicate 88 none
  statics := some 0 }

def pool7 : Array CpInfo := pool [(1, u "java/lang/Cloneable"), (0, .class_ 1), (0, u "java/lang/Object"), (0, .class_ 3)] 3

/-- java/lang/Cloneable -/
def k7 : Class := { plain "java/lang/Cloneable" (some 0) with
  accessFlags := 1537
  interfaces := #[]
  cf := some (fileOf pool7 2 #[] #[] 1537 4 #[] #[])
  fields := #[]
  methods := #[]
  instanceTypes := #[]
  staticTypes := #[]
  resolved := Array.replicate 8 none
  statics := none }

/-- the primitive byte -/
def k8 : Class := { plain "byte" none with kind := .primitive 'B', accessFlags := 0x411 }
/-- [B -/
def k9 : Class := { plain "[B" (some 0) with kind := .array 8 .byte, interfaces := #[7, 4], accessFlags := 1041 }

/-- the primitive int -/
def k10 : Class := { plain "int" none with kind := .primitive 'I', accessFlags := 0x411 }
/-- [I -/
def k11 : Class := { plain "[I" (some 0) with kind := .array 10 .int, interfaces := #[7, 4], accessFlags := 1041 }

def heap : Heap := #[{ cls := 6, slots := #[.ref 1, .ref 2, .null], vm := .statics 6 },
  { cls := 6, slots := #[.null, .int 0, .int 0], vm := .none },
  { cls := 6, slots := #[.null, .int 1, .int 0], vm := .none }]
def classes : Array Class := #[k0, k1, k2, k3, k4, k5, k6, k7, k8, k9, k10, k11]
def interned : List (Array UInt16 × Addr) := []
def slotsUsed : Nat := 9
def theMethod : MethodId := ⟨1, 1⟩
def args0 : Array Value := #[.int 1, .long 5, .long 6, .long 7, .long 8]
def aboutOver (below : List Frame) : State where
  vm := { classes := classes, interned := interned.toArray }
  heap := heap
  slotsUsed := slotsUsed
  threads := #[{ frames := .invoking theMethod args0 :: below }]
def below0 : List Frame := [.native { method := ⟨0, 0⟩, args := #[] }]
def about1 : State := aboutOver below0
def p0 : Program := .bare "" "" ""
def e0 : Env := launch0.env 0 0 0
theorem w_frames : about1.frames = Frame.invoking theMethod args0 :: below0 := rfl
set_option maxRecDepth 65536 in
theorem w_args : argsFit about1.vm theMethod args0 = true := by decide +kernel
set_option maxRecDepth 65536 in
theorem w_heap : heapFits about1 = true := by decide +kernel
set_option maxRecDepth 65536 in
theorem w_runnable : about1.curStatus? = some .runnable := by decide +kernel
set_option maxRecDepth 65536 in
theorem w_alone : about1.alone = true := by decide +kernel
set_option maxRecDepth 65536 in
theorem w_named : about1.methodNamed? x = some theMethod := by decide +kernel
set_option maxRecDepth 65536 in
theorem w_hears : about1.hears theMethod below0 = true := by decide +kernel
set_option maxRecDepth 65536 in
theorem w_ripe : about1.ripe theMethod args0 below0 = true := by decide +kernel
theorem w_running : about1.status = .running := rfl
set_option maxRecDepth 65536 in
theorem w_room : about1.hasRoom e0.platform room_1 = true :=
  launch0.hasRoom_least _ room_1 (by decide +kernel) (by decide +kernel) (by decide +kernel) (by decide +kernel) (by decide +kernel) (by decide +kernel)
theorem allAtoms_all (ts : List Jvm.Cond) (a : Array Jvm.Value) (st : Jvm.State) : (allAtoms ts).before a st = ts.all (fun c => c.before a st) := by
  induction ts with
  | nil => rfl
  | cons c t ih =>
    show (Jvm.Cond.and c (allAtoms t)).before a st = _
    rw [Jvm.Cond.before_and, ih, List.all_cons]
def words1 : List Jvm.Cond := Jvm.Cond.code x code maxLocals ret :: tables_1
/-- a 'code' word, met by the world's own term for the bytes: nothing is compared byte by byte -/
theorem code_word {y : MethodName} {bytes : ByteArray} {mx : Nat} {rt : Option FieldType} {a : Array Value} {s : State} {m : MethodId} {meth : Method} {c : Code} (h1 : s.methodNamed? y = some m) (h2 : s.vm.method? m = some meth) (h3 : meth.code = some c) (h4 : c.code = bytes)
    (h5 : (c.maxLocals == mx && c.exceptionTable.isEmpty && decide (c.maxStack ≤ mostOperands) && decide (meth.sig.returnType = rt) && !meth.locks && decide (parseMethodDescriptor y.desc = some meth.sig)) = true) : (Jvm.Cond.code y bytes mx rt).before a s = true := by
  simp only [Bool.and_eq_true, beq_iff_eq, Bool.not_eq_true', decide_eq_true_eq] at h5
  obtain ⟨⟨⟨⟨⟨g1, g2⟩, g3⟩, g4⟩, g5⟩, g6⟩ := h5
  simp [Cond.before, Cond.holds, Cond.value, h1, h2, h3, h4, g1, g2, g3, g4, g5, g6]
def isCode : Jvm.Cond → Bool
  | .code _ _ _ _ => true
  | _ => false
theorem all_split {L : List Jvm.Cond} {P : Jvm.Cond → Bool} (h1 : L.all (fun c => isCode c || P c) = true) (h2 : ∀ c ∈ L.filter isCode, P c = true) : L.all P = true := by
  refine List.all_eq_true.mpr fun c hc => ?_
  have h := List.all_eq_true.mp h1 c hc
  rcases Bool.eq_false_or_eq_true (isCode c) with hi | hi
  · exact h2 c (List.mem_filter.mpr ⟨hc, hi⟩)
  · simpa [hi] using h
set_option maxRecDepth 65536 in
theorem w_c0 : (Jvm.Cond.code x code maxLocals ret).before args0 about1 = true := code_word (m := ⟨1, 1⟩) (meth := k1m1) (c := k1c1) (by decide +kernel) rfl rfl rfl (by decide +kernel)
set_option maxRecDepth 65536 in
theorem w_c1 : (Jvm.Cond.code ({ cls := "com/example/joinsmith/joinsmith/planner/strategy/Objective", name := "prefers", desc := "(DDJDDJ)Z" } : Jvm.MethodName) prog_251_method_6_code (14 : Nat) (Option.some Jvm.ClassFile.FieldType.boolean)).before args0 about1 = true := code_word (m := ⟨6, 0⟩) (meth := k6m0) (c := k6c0) (by decide +kernel) rfl rfl rfl (by decide +kernel)
set_option maxRecDepth 65536 in
theorem w_c2 : (Jvm.Cond.code ({ cls := "com/example/joinsmith/joinsmith/planner/strategy/ObjectivePrefersPinLaw", name := "expected", desc := "(ZIIJIIJ)Z" } : Jvm.MethodName) method_3_code (9 : Nat) (Option.some Jvm.ClassFile.FieldType.boolean)).before args0 about1 = true := code_word (m := ⟨1, 2⟩) (meth := k1m2) (c := k1c2) (by decide +kernel) rfl rfl rfl (by decide +kernel)
def codes1 : List Jvm.Cond := [Jvm.Cond.code x code maxLocals ret, Jvm.Cond.code ({ cls := "com/example/joinsmith/joinsmith/planner/strategy/Objective", name := "prefers", desc := "(DDJDDJ)Z" } : Jvm.MethodName) prog_251_method_6_code (14 : Nat) (Option.some Jvm.ClassFile.FieldType.boolean), Jvm.Cond.code ({ cls := "com/example/joinsmith/joinsmith/planner/strategy/ObjectivePrefersPinLaw", name := "expected", desc := "(ZIIJIIJ)Z" } : Jvm.MethodName) method_3_code (9 : Nat) (Option.some Jvm.ClassFile.FieldType.boolean)]
set_option maxRecDepth 65536 in
theorem codes_eq : words1.filter isCode = codes1 := rfl
theorem w_codes : ∀ c ∈ words1.filter isCode, c.before args0 about1 = true := by
  rw [codes_eq]
  intro c hc
  simp only [codes1, List.mem_cons, List.not_mem_nil, or_false] at hc
  rcases hc with rfl | rfl | rfl
  · exact w_c0
  · exact w_c1
  · exact w_c2
set_option maxRecDepth 65536 in
theorem w_t1 : words1.all (fun c => isCode c || c.before args0 about1) = true := by decide +kernel
theorem w_tables : (allAtoms (Jvm.Cond.code x code maxLocals ret :: tables_1)).before args0 about1 = true := by
  rw [allAtoms_all]
  show words1.all (fun c => c.before args0 about1) = true
  refine all_split ?_ w_codes
  rw [w_t1]
set_option maxRecDepth 65536 in
theorem w_case : (Jvm.Cond.and given_1 narrow_1).before args0 about1 = true := by decide +kernel
theorem w_applies : (headSpec (Jvm.Cond.code x code maxLocals ret :: tables_1) room_1).applies x e0.platform about1 = true :=
  (Spec.applies_iff w_frames).mpr ⟨w_running, w_runnable, w_alone, w_named, w_hears, w_ripe, w_room, w_tables⟩
theorem atStart : AtStart classFile x code maxLocals ret World_1 tables_1 room_1 Calls_1 rest_1 Pre_1 launch0 p0 e0 about1 theMethod args0 below0 :=
  ⟨lists_1, trivial, launch0.admits_env _ _ _, launch0.least_env, fairChoices_fair.cas, fairChoices_fair.clock, w_frames, w_args, w_heap, w_applies, trivial, trivial, w_case⟩
end start1
theorem witness_1 : WitnessClaimed_1 := ⟨start1.p0, start1.e0, start1.about1, start1.theMethod, start1.args0, start1.below0, start1.atStart⟩
end Jvm.Pilot.@@N@@
