import JvmDerived
import JvmDerived.Pilot.@@N@@Statement
import JvmDerived.Pilot.@@N@@Code
set_option linter.unusedVariables false
set_option linter.unusedSimpArgs false
namespace Jvm.RoadKit
open Sem ClassFile Op Lib Jvm.Stand Jvm.Free Jvm.LawKit
section New
variable {p : Program} {l : Launch} {e : Env} {R : Room} {s : State} {m : MethodId} {args : Array Value} {below : List Frame} {meth : Method} {c : Code} {T : State} {locs : List Loc} {cells slots : Nat}
theorem retI (X : Stand p l e R s m args below meth c T locs cells slots) (hx : p.tables.exec = Jvm.exec) {pc : Nat} {Ls : Array Slot} {z : Int32} {rest : List Value} (hret : meth.sig.returnType = some .int) (hd : decode c.code pc = .ok (.ireturn, 1)) {fs : List Frame}
    (hl : ∀ (f : JFrame) (acts : List Action), f.method = m → f.locked = none → f.entered = [] → (doReturn e (T.setTop f) acts (some (.int z))).1 = T.setFrames fs) : Steps p.tables e below (T.setTop (mkF m pc Ls (.int z :: rest))) (T.setFrames fs) := by
  have hm' : T.vm.method? m = some meth := X.method'
  have hn : narrow .int (.int z) = .int z := rfl
  show Steps p.tables e below (T.setTop { method := m, pc := pc, locals := Ls, stack := _ :: rest, locked := none }) _
  jvm_step X.here [X.here.top, hx, hd, hm', hret, hn]
  first | (intro acts; rw [hl _ acts rfl rfl rfl]) | rw [hl _ _ rfl rfl rfl]
  exact Steps.refl _
end New
end Jvm.RoadKit
namespace Jvm.Pilot.@@N@@
open Jvm Jvm.ClassFile Sem Op Lib Jvm.Free Jvm.Stand Jvm.LawKit Jvm.RoadKit Bundle Jvm.Pilot.@@N@@.Jvm.D

section Kit
variable {p : Program} {l : Launch} {e : Env} {R : Room} {s : State} {m : MethodId} {args : Array Value} {below : List Frame} {meth : Method} {c : Code} {T T' : State} {locs : List Loc} {cells slots : Nat} {Z : State} {a0 : Array Value} {h h' : Heap}
/-- from T at the frame g the run comes to a state of which Q holds -/
def WP (p : Program) (e : Env) (below : List Frame) (Q : State → Prop) (T : State) (g : JFrame) : Prop :=
  ∃ t, Steps p.tables e below (T.setTop g) t ∧ Q t
theorem wp {Q : State → Prop} {g g' : JFrame} (h : ∀ t, Steps p.tables e below (T'.setTop g') t → Steps p.tables e below (T.setTop g) t) (k : WP p e below Q T' g') : WP p e below Q T g := by
  obtain ⟨t, a, b⟩ := k
  exact ⟨t, h t a, b⟩
/-- the end that a contract asks -/
def Ends (s : State) (below : List Frame) (q : Option Value → Heap → List Loc → Prop) (Cn Sn : Nat) (t : State) : Prop :=
  ∃ o, t.status = .running ∧ Ended t below o ∧ ∃ v L, o = .returned v ∧ q v t.heap L ∧ FrameEnd s o t L Cn Sn
/-- what a walk knows of its method -/
def Cx (p : Program) (s : State) (m : MethodId) (meth : Method) (c : Code) (Z : State) (a0 : Array Value) (bytes : ByteArray) (ml : Nat) (own nm : String) (ret : Option FieldType) : Prop :=
  p.tables.exec = Jvm.exec ∧ Z.Warmed39 s.vm ∧ (∀ d ∈ tables_1, d.before a0 Z = true) ∧ c.code = bytes ∧ c.maxLocals = ml ∧ s.vm.findClass own = some m.cls ∧ meth.name = nm ∧ meth.sig.returnType = ret ∧ meth.locks = false
/-- a contract: from the heap h, with the arguments as, it returns and q holds -/
def MetQ (l : Launch) (Z : State) (y : MethodName) (bytes : ByteArray) (ml : Nat) (ret : Option FieldType) (ws : List Jvm.Cond) (rm : Room) (as : Array Value) (h : Heap) (q : Option Value → Heap → List Loc → Prop) : Prop :=
  MetFree l y (head1 (Jvm.Cond.code y bytes ml ret :: ws) rm) (fun a U => a = as ∧ Z.Warmed39 U.vm ∧ U.heap = h) (fun _ _ _ _ _ => True) (fun _ U o U' => ∃ v L, o = .returned v ∧ q v U'.heap L ∧ FrameEnd U o U' L rm.cells rm.slots)
theorem metQ {y : MethodName} {bytes : ByteArray} {ml : Nat} {ret : Option FieldType} {ws : List Jvm.Cond} {rm : Room} {as : Array Value} {q : Option Value → Heap → List Loc → Prop} {Ls : Array Slot} (hpl : plainFor y = true) (hw : ∀ d ∈ tables_1, d.before a0 Z = true)
    (hef : ∀ m, entryFrame m as ml = mkF m 0 Ls [])
    (body : ∀ p e s m below meth c s₁, Cx p s m meth c Z a0 bytes ml y.cls y.name ret → Stand p l e rm s m as below meth c s₁ [] 0 0 → s₁.heap = h → WP p e below (Ends s below q rm.cells rm.slots) s₁ (mkF m 0 Ls [])) :
    MetQ l Z y bytes ml ret ws rm as h q := by
  refine MetFree.of_bodySF hpl hisR ?_
  intro p e s m args below meth c s₁ Bd hml0 hP hK
  obtain ⟨rfl, hZ, hh⟩ := hP
  obtain ⟨t, st, o, a, b, d⟩ := body p e s m below meth c s₁ ⟨Bd.exec, hZ, hw, Bd.bytes, hml0, findClass_of_methodNamed Bd.named, (name_of_methodNamed Bd.named Bd.method).1, Bd.returns, Bd.notSynchronized⟩ (Stand.of_body Bd) (by rw [← hh, Bd.state]; rfl)
  exact ⟨t, o, castTop (hef m) st, a, b, d⟩
theorem wp_ret {q : Option Value → Heap → List Loc → Prop} {Cn Sn : Nat} {v : Option Value} {g : JFrame} (X : Stand p l e R s m args below meth c T locs cells slots) (hlk : meth.locks = false) (hv : meth.sig.returnType = none → v = none)
    (hst : ∀ fs, (∀ (f : JFrame) (acts : List Action), f.method = m → f.locked = none → f.entered = [] → (doReturn e (T.setTop f) acts v).1 = T.setFrames fs) → Steps p.tables e below (T.setTop g) (T.setFrames fs)) (hq : q v T.heap locs) (hc : cells ≤ Cn) (hs : slots ≤ Sn) :
    WP p e below (Ends s below q Cn Sn) T g := by
  obtain ⟨fs, hr, hrun, hended, hW, hsame⟩ := X.leave (v := v) hv hlk
  exact ⟨_, hst fs hr, _, hrun, hended, _, _, rfl, hq, ⟨_, rfl⟩, hW, hsame.mono hc hs⟩
theorem wp_ireturn {q : Option Value → Heap → List Loc → Prop} {Cn Sn : Nat} {bytes : ByteArray} {ml pc : Nat} {own nm : String} {Ls : Array Slot} {z : Int32} {rest : List Value} (C : Cx p s m meth c Z a0 bytes ml own nm (some .int)) (X : Stand p l e R s m args below meth c T locs cells slots)
    (hd : decode bytes pc = .ok (.ireturn, 1)) (hq : q (some (.int z)) T.heap locs) (hc : cells ≤ Cn) (hs : slots ≤ Sn) : WP p e below (Ends s below q Cn Sn) T (mkF m pc Ls (.int z :: rest)) := by
  obtain ⟨hx, hZ, hw, hby, hml, hown, hnm, hret, hlk⟩ := C
  exact wp_ret X hlk (fun h => by rw [hret] at h; cases h) (fun fs hr => retI X hx hret (hb hby hd) hr) hq hc hs
theorem wp_zreturn {q : Option Value → Heap → List Loc → Prop} {Cn Sn : Nat} {bytes : ByteArray} {ml pc : Nat} {own nm : String} {t : FieldType} {Ls : Array Slot} {z : Int32} {rest : List Value} (C : Cx p s m meth c Z a0 bytes ml own nm (some t)) (X : Stand p l e R s m args below meth c T locs cells slots)
    (ht : t = .boolean ∨ t = .byte ∨ t = .char ∨ t = .short) (hd : decode bytes pc = .ok (.ireturn, 1)) (hq : q (some (.int (nar t z))) T.heap locs) (hc : cells ≤ Cn) (hs : slots ≤ Sn) : WP p e below (Ends s below q Cn Sn) T (mkF m pc Ls (.int z :: rest)) := by
  obtain ⟨hx, hZ, hw, hby, hml, hown, hnm, hret, hlk⟩ := C
  exact wp_ret X hlk (fun h => by rw [hret] at h; cases h) (fun fs hr => retN X hx hret ht (hb hby hd) hr) hq hc hs
theorem wp_lreturn {q : Option Value → Heap → List Loc → Prop} {Cn Sn : Nat} {bytes : ByteArray} {ml pc : Nat} {own nm : String} {Ls : Array Slot} {z : Int64} {rest : List Value} (C : Cx p s m meth c Z a0 bytes ml own nm (some .long)) (X : Stand p l e R s m args below meth c T locs cells slots)
    (hd : decode bytes pc = .ok (.lreturn, 1)) (hq : q (some (.long z)) T.heap locs) (hc : cells ≤ Cn) (hs : slots ≤ Sn) : WP p e below (Ends s below q Cn Sn) T (mkF m pc Ls (.long z :: rest)) := by
  obtain ⟨hx, hZ, hw, hby, hml, hown, hnm, hret, hlk⟩ := C
  exact wp_ret X hlk (fun h => by rw [hret] at h; cases h) (fun fs hr => retOut X hx hret rfl (Or.inr (Or.inl ⟨rfl, rfl, z, rfl⟩)) (hb hby hd) hr) hq hc hs
theorem wp_dreturn {q : Option Value → Heap → List Loc → Prop} {Cn Sn : Nat} {bytes : ByteArray} {ml pc : Nat} {own nm : String} {Ls : Array Slot} {z : UInt64} {rest : List Value} (C : Cx p s m meth c Z a0 bytes ml own nm (some .double)) (X : Stand p l e R s m args below meth c T locs cells slots)
    (hd : decode bytes pc = .ok (.dreturn, 1)) (hq : q (some (.double z)) T.heap locs) (hc : cells ≤ Cn) (hs : slots ≤ Sn) : WP p e below (Ends s below q Cn Sn) T (mkF m pc Ls (.double z :: rest)) := by
  obtain ⟨hx, hZ, hw, hby, hml, hown, hnm, hret, hlk⟩ := C
  exact wp_ret X hlk (fun h => by rw [hret] at h; cases h) (fun fs hr => retOut X hx hret rfl (Or.inr (Or.inr (Or.inl ⟨rfl, rfl, z, rfl⟩))) (hb hby hd) hr) hq hc hs
theorem wp_vreturn {q : Option Value → Heap → List Loc → Prop} {Cn Sn : Nat} {bytes : ByteArray} {ml pc : Nat} {own nm : String} {Ls : Array Slot} (C : Cx p s m meth c Z a0 bytes ml own nm none) (X : Stand p l e R s m args below meth c T locs cells slots)
    (hd : decode bytes pc = .ok (.return_, 1)) (hq : q none T.heap locs) (hc : cells ≤ Cn) (hs : slots ≤ Sn) : WP p e below (Ends s below q Cn Sn) T (mkF m pc Ls []) := by
  obtain ⟨hx, hZ, hw, hby, hml, hown, hnm, hret, hlk⟩ := C
  exact wp_ret X hlk (fun _ => rfl) (fun fs hr => X.returnOut hx hret (hb hby hd) hr) hq hc hs
/-! calls -/
theorem wp_static {Q : State → Prop} {bytes : ByteArray} {ml : Nat} {own nm : String} {ret : Option FieldType} {y : MethodName} {bytes' : ByteArray} {ml' : Nat} {ret' : Option FieldType} {rm : Room} {index pc : Nat} {Ls : Array Slot} {argsL rest st : List Value} {q : Option Value → Heap → List Loc → Prop}
    (C : Cx p s m meth c Z a0 bytes ml own nm ret) (X : Stand p l e R s m args below meth c T locs cells slots) (e0 : T.heap = h)
    (met : MetQ l Z y bytes' ml' ret' [] rm argsL.toArray h q)
    (w1 : (Jvm.Cond.methodLink own index y).before a0 Z = true) (w2 : (Jvm.Cond.static y).before a0 Z = true) (w3 : (Jvm.Cond.initialized y.cls).before a0 Z = true) (w4 : (Jvm.Cond.code y bytes' ml' ret').before a0 Z = true)
    (hy : y.cls ≠ "java/lang/invoke/MethodHandle" ∧ y.cls ≠ "java/lang/invoke/VarHandle") (hsz : Ls.size = ml) (hlen : ∀ sig, parseMethodDescriptor y.desc = some sig → argsL.length = sig.parameters.length)
    (hd : decode bytes pc = .ok (.invokestatic index, 3)) (hst : st = argsL.reverse ++ rest) (hf : rm.frames + 1 ≤ R.frames) (hl : (rest.map fun v => v.category).sum + (ml' + 11) + rm.locals ≤ R.locals) (hc : cells + rm.cells ≤ R.cells) (hs : slots + rm.slots ≤ R.slots)
    (k : ∀ T' v L, Stand p l e R s m args below meth c T' (locs ++ L) (cells + rm.cells) (slots + rm.slots) → q v T'.heap L → WP p e below Q T' (mkF m (pc + 3) Ls (v.toList ++ rest))) :
    WP p e below Q T (mkF m pc Ls st) := by
  obtain ⟨hx, hZ, hw, hby, hml, hown, hnm, hret, hlk⟩ := C
  obtain ⟨v, _, ⟨T1, L1, k1, n1⟩, -, X1, ⟨Lc1, hQ1, l1, y1, z1⟩, st1⟩ := Jvm.LawKit.callS X hx (y := y) hown (mvT hZ w1) (mvT hZ w2) (mvT hZ w3) (mvT hZ w4) hy (backOf (W := (rest.map fun v => v.category).sum) met hZ w4 w3 hf hl) (g := mkF m pc Ls st) rfl (hsz.trans hml.symm) (argsL := argsL) (rest := rest) hlen hst (Nat.le_of_eq (Nat.zero_add _)) (hb hby hd) (fun _ _ => ⟨rfl, e0, hc, hs⟩)
  dsimp only [Pt.U, Pt.locs, Pt.cells, Pt.slots] at X1 l1 y1 z1 st1 hQ1
  subst l1 y1 z1
  exact wp st1 (k T1 v Lc1 X1 hQ1)
/-- what a callee that writes nothing leaves -/
def PureQ (r : Option Value) (h : Heap) : Option Value → Heap → List Loc → Prop := fun v h' L => v = r ∧ h' = h ∧ L = []
theorem wp_staticP {Q : State → Prop} {bytes : ByteArray} {ml : Nat} {own nm : String} {ret : Option FieldType} {y : MethodName} {bytes' : ByteArray} {ml' : Nat} {ret' : Option FieldType} {rm : Room} {index pc : Nat} {Ls : Array Slot} {argsL rest st : List Value} {r : Option Value}
    (C : Cx p s m meth c Z a0 bytes ml own nm ret) (X : Stand p l e R s m args below meth c T locs cells slots) (e0 : T.heap = h)
    (met : MetQ l Z y bytes' ml' ret' [] rm argsL.toArray h (PureQ r h))
    (w1 : (Jvm.Cond.methodLink own index y).before a0 Z = true) (w2 : (Jvm.Cond.static y).before a0 Z = true) (w3 : (Jvm.Cond.initialized y.cls).before a0 Z = true) (w4 : (Jvm.Cond.code y bytes' ml' ret').before a0 Z = true)
    (hy : y.cls ≠ "java/lang/invoke/MethodHandle" ∧ y.cls ≠ "java/lang/invoke/VarHandle") (hsz : Ls.size = ml) (hlen : ∀ sig, parseMethodDescriptor y.desc = some sig → argsL.length = sig.parameters.length)
    (hd : decode bytes pc = .ok (.invokestatic index, 3)) (hst : st = argsL.reverse ++ rest) (hrc : rm.cells = 0) (hrs : rm.slots = 0) (hf : rm.frames + 1 ≤ R.frames) (hl : (rest.map fun v => v.category).sum + (ml' + 11) + rm.locals ≤ R.locals) (hc : cells ≤ R.cells) (hs : slots ≤ R.slots)
    (k : ∀ T', Stand p l e R s m args below meth c T' locs cells slots → T'.heap = h → WP p e below Q T' (mkF m (pc + 3) Ls (r.toList ++ rest))) :
    WP p e below Q T (mkF m pc Ls st) := by
  refine wp_static C X e0 met w1 w2 w3 w4 hy hsz hlen hd hst hf hl (by rw [hrc]; exact hc) (by rw [hrs]; exact hs) ?_
  rintro T1 v L X1 ⟨rfl, e1, rfl⟩
  rw [hrc, hrs, List.append_nil] at X1
  exact k T1 X1 e1
theorem wp_virtual {Q : State → Prop} {bytes : ByteArray} {ml : Nat} {own nm : String} {ret : Option FieldType} {y : MethodName} {bytes' : ByteArray} {ml' : Nat} {ret' : Option FieldType} {rm : Room} {index pc : Nat} {Ls : Array Slot} {b : Addr} {argsL rest st : List Value} {q : Option Value → Heap → List Loc → Prop}
    (C : Cx p s m meth c Z a0 bytes ml own nm ret) (X : Stand p l e R s m args below meth c T locs cells slots) (e0 : T.heap = h) (E : Exa Z h b y.cls)
    (met : MetQ l Z y bytes' ml' ret' [] rm (.ref b :: argsL).toArray h q)
    (w1 : (Jvm.Cond.methodLink own index y).before a0 Z = true) (w2 : (Jvm.Cond.declares y).before a0 Z = true) (w3 : (Jvm.Cond.selects y.cls y y).before a0 Z = true) (w5 : (Jvm.Cond.instanceMethod y).before a0 Z = true) (w4 : (Jvm.Cond.code y bytes' ml' ret').before a0 Z = true) (w6 : (Jvm.Cond.initialized y.cls).before a0 Z = true)
    (hy : y.cls ≠ "java/lang/invoke/MethodHandle" ∧ y.cls ≠ "java/lang/invoke/VarHandle") (hsz : Ls.size = ml) (hlen : ∀ sig, parseMethodDescriptor y.desc = some sig → argsL.length = sig.parameters.length)
    (hd : decode bytes pc = .ok (.invokevirtual index, 3)) (hst : st = argsL.reverse ++ .ref b :: rest) (hf : rm.frames + 1 ≤ R.frames) (hl : (rest.map fun v => v.category).sum + (ml' + 11) + rm.locals ≤ R.locals) (hc : cells + rm.cells ≤ R.cells) (hs : slots + rm.slots ≤ R.slots)
    (k : ∀ T' v L, Stand p l e R s m args below meth c T' (locs ++ L) (cells + rm.cells) (slots + rm.slots) → q v T'.heap L → WP p e below Q T' (mkF m (pc + 3) Ls (v.toList ++ rest))) :
    WP p e below Q T (mkF m pc Ls st) := by
  obtain ⟨hx, hZ, hw, hby, hml, hown, hnm, hret, hlk⟩ := C
  obtain ⟨cq, kq, qa, qb, qc⟩ := isOf hZ e0 E
  obtain ⟨v, _, ⟨T1, L1, k1, n1⟩, -, X1, ⟨Lc1, hQ1, l1, y1, z1⟩, st1⟩ := X.virtualBack hx (y := y) (z := y) hown (mvT hZ w1) (mvT hZ w2) (notFace_of_selects (args := #[]) (mvT hZ w3)) (mvT hZ w3) (mvT hZ w5) hy (backOf (W := (rest.map fun v => v.category).sum) met hZ w4 w6 hf hl) qa qc (g := mkF m pc Ls st) rfl (hsz.trans hml.symm) (Steps.refl _) (argsL := argsL) (rest := rest) hlen hst (Nat.le_of_eq (Nat.zero_add _)) (hb hby hd) (fun _ _ => ⟨rfl, e0, hc, hs⟩)
  dsimp only [Pt.U, Pt.locs, Pt.cells, Pt.slots] at X1 l1 y1 z1 st1 hQ1
  subst l1 y1 z1
  exact wp (fun _ k => st1.trans k) (k T1 v Lc1 X1 hQ1)
theorem wp_special {Q : State → Prop} {bytes : ByteArray} {ml : Nat} {own nm : String} {ret : Option FieldType} {y : MethodName} {bytes' : ByteArray} {ml' : Nat} {rm : Room} {index pc : Nat} {Ls : Array Slot} {b : Addr} {argsL rest st : List Value} {q : Option Value → Heap → List Loc → Prop}
    (C : Cx p s m meth c Z a0 bytes ml own nm ret) (X : Stand p l e R s m args below meth c T locs cells slots) (e0 : T.heap = h)
    (met : MetQ l Z y bytes' ml' none [] rm (.ref b :: argsL).toArray h q) (hy1 : y.name = "<init>")
    (w1 : (Jvm.Cond.methodLink own index y).before a0 Z = true) (w5 : (Jvm.Cond.instanceMethod y).before a0 Z = true) (w4 : (Jvm.Cond.code y bytes' ml' none).before a0 Z = true) (w6 : (Jvm.Cond.initialized y.cls).before a0 Z = true)
    (hy : y.cls ≠ "java/lang/invoke/MethodHandle" ∧ y.cls ≠ "java/lang/invoke/VarHandle") (hsz : Ls.size = ml) (hlen : ∀ sig, parseMethodDescriptor y.desc = some sig → argsL.length = sig.parameters.length)
    (hd : decode bytes pc = .ok (.invokespecial index, 3)) (hst : st = argsL.reverse ++ .ref b :: rest) (hf : rm.frames + 1 ≤ R.frames) (hl : (rest.map fun v => v.category).sum + (ml' + 11) + rm.locals ≤ R.locals) (hc : cells + rm.cells ≤ R.cells) (hs : slots + rm.slots ≤ R.slots)
    (k : ∀ T' v L, Stand p l e R s m args below meth c T' (locs ++ L) (cells + rm.cells) (slots + rm.slots) → q v T'.heap L → WP p e below Q T' (mkF m (pc + 3) Ls (v.toList ++ rest))) :
    WP p e below Q T (mkF m pc Ls st) := by
  obtain ⟨hx, hZ, hw, hby, hml, hown, hnm, hret, hlk⟩ := C
  obtain ⟨v, _, ⟨T1, L1, k1, n1⟩, -, X1, ⟨Lc1, hQ1, l1, y1, z1⟩, st1⟩ := X.specialBack hx (y := y) hy1 hown (mvT hZ w1) (mvT hZ w5) (mvT hZ w4) hy (backOf (W := (rest.map fun v => v.category).sum) met hZ w4 w6 hf hl) (g := mkF m pc Ls st) rfl (hsz.trans hml.symm) (Steps.refl _) (a := b) (argsL := argsL) (rest := rest) hlen hst (Nat.le_of_eq (Nat.zero_add _)) (hb hby hd) (fun _ _ => ⟨rfl, e0, hc, hs⟩)
  dsimp only [Pt.U, Pt.locs, Pt.cells, Pt.slots] at X1 l1 y1 z1 st1 hQ1
  subst l1 y1 z1
  exact wp (fun _ k => st1.trans k) (k T1 v Lc1 X1 hQ1)
/-! arrays by their places: place j holds f j -/
def Af (Z : State) (h : Heap) (a : Addr) (ty : FieldType) (n : Nat) (f : Nat → Value) : Prop := ∃ cl : Cell, Arr Z h a cl ty ∧ cl.slots.size = n ∧ ∀ j, j < n → cl.slots[j]? = some (f j)
theorem Af.lt {a : Addr} {ty : FieldType} {n : Nat} {f : Nat → Value} (A : Af Z h a ty n f) : a < h.size := by obtain ⟨c, A, -⟩ := A; exact A.lt
theorem Af.ext {a : Addr} {ty : FieldType} {n : Nat} {f : Nat → Value} (A : Af Z h a ty n f) (E : Ext h h') : Af Z h' a ty n f := by obtain ⟨c, A, r⟩ := A; exact ⟨c, A.ext E, r⟩
theorem Af.other {a b : Addr} {ty : FieldType} {n sl : Nat} {v : Value} {f : Nat → Value} (A : Af Z h b ty n f) (W : Wr h h' a sl v) (q : b ≠ a) : Af Z h' b ty n f := by obtain ⟨c, A, r⟩ := A; exact ⟨c, A.other W q, r⟩
theorem Af.keep {a : Addr} {ty : FieldType} {n : Nat} {f : Nat → Value} {ws : List Addr} (A : Af Z h a ty n f) (K : Keep h h' ws) (q : a ∉ ws) : Af Z h' a ty n f := by obtain ⟨c, A, r⟩ := A; exact ⟨c, ⟨K.2.1 a c A.1 q, A.2⟩, r⟩
theorem Af.conv {a : Addr} {ty : FieldType} {n : Nat} {f g : Nat → Value} (A : Af Z h a ty n f) (q : ∀ j, j < n → f j = g j) : Af Z h a ty n g := by obtain ⟨c, A, r1, r2⟩ := A; exact ⟨c, A, r1, fun j hj => by rw [← q j hj]; exact r2 j hj⟩
theorem Af.set {a : Addr} {ty : FieldType} {n i : Nat} {v : Value} {f : Nat → Value} (A : Af Z h a ty n f) (W : Wr h h' a i v) (hi : i < n) : Af Z h' a ty n (fun j => if j = i then v else f j) := by
  obtain ⟨c, A, r1, r2⟩ := A
  refine ⟨_, A.same W, by rw [sz_set]; exact r1, fun j hj => ?_⟩
  show (c.slots.setIfInBounds i v)[j]? = _
  by_cases q : j = i
  · subst q; simp [r1, hi]
  · rw [Array.getElem?_setIfInBounds_ne (Ne.symm q), r2 j hj]; simp [q]
theorem clampNeg {z : Int32} {j : Nat} (hz : z.toInt = (j : Int)) : z.toNatClampNeg = j := by
  rw [Int32.toNatClampNeg, hz]; rfl
theorem idxIn {z : Int32} {j n : Nat} (hz : z.toInt = (j : Int)) (hj : j < n) : ¬ (z < 0 ∨ n ≤ z.toNatClampNeg) := by
  rw [clampNeg hz, Int32.lt_iff_toInt_lt, hz, show (0 : Int32).toInt = 0 from rfl]
  omega
theorem wp_newarray {Q : State → Prop} {bytes : ByteArray} {ml : Nat} {own nm : String} {ret : Option FieldType} {aty : ArrayType} {pc n : Nat} {z : Int32} {Ls : Array Slot} {rest : List Value}
    (C : Cx p s m meth c Z a0 bytes ml own nm ret) (X : Stand p l e R s m args below meth c T locs cells slots) (e0 : T.heap = h) (w : (Jvm.Cond.arrayClass (newarray.typeOf aty)).before a0 Z = true) (hd : decode bytes pc = .ok (.newarray aty, 2)) (hz : z.toInt = (n : Int)) {cap : Nat} (hn : n ≤ cap) (hcap : cap * 8 ≤ 536870912)
    (hc : cells + 1 ≤ R.cells) (hs : slots + cap ≤ R.slots)
    (k : ∀ T' h', Stand p l e R s m args below meth c T' locs (cells + 1) (slots + cap) → T'.heap = h' → Ext h h' → Af Z h' h.size (newarray.typeOf aty) n (fun _ => defaultValue (newarray.typeOf aty)) → WP p e below Q T' (mkF m (pc + 2) Ls (.ref h.size :: rest))) :
    WP p e below Q T (mkF m pc Ls (.int z :: rest)) := by
  obtain ⟨hx, hZ, hw, hby, hml, hown, hnm, hret, hlk⟩ := C
  obtain ⟨T1, h1, k1, X1, e1, E1, A1, st1⟩ := newP X hx hZ w e0 (g := mkF m pc Ls (.int z :: rest)) rfl (hb hby hd) rfl (by rw [Int32.lt_iff_toInt_lt, hz, show (0 : Int32).toInt = 0 from rfl]; omega) (cap := cap) (by rw [clampNeg hz]; exact hn) hcap hc hs
  refine wp st1 (k T1 h1 X1 e1 E1 ⟨_, A1, by rw [sz_new, clampNeg hz], fun j hj => ?_⟩)
  simp [newA, clampNeg hz, hj]
theorem wp_bastore {Q : State → Prop} {bytes : ByteArray} {ml : Nat} {own nm : String} {ret : Option FieldType} {pc n j : Nat} {zj x : Int32} {a : Addr} {f : Nat → Value} {Ls : Array Slot} {rest : List Value}
    (C : Cx p s m meth c Z a0 bytes ml own nm ret) (X : Stand p l e R s m args below meth c T locs cells slots) (e0 : T.heap = h) (A : Af Z h a .byte n f) (hz : zj.toInt = (j : Int)) (hj : j < n) (hd : decode bytes pc = .ok (.bastore, 1))
    (k : ∀ T' h', Stand p l e R s m args below meth c T' (locs ++ [⟨a, zj.toNatClampNeg⟩]) cells slots → T'.heap = h' → Wr h h' a j (.int (nar .byte x)) → Af Z h' a .byte n (fun i => if i = j then .int (nar .byte x) else f i) → WP p e below Q T' (mkF m (pc + 1) Ls rest)) :
    WP p e below Q T (mkF m pc Ls (.int x :: .int zj :: .ref a :: rest)) := by
  obtain ⟨hx, hZ, hw, hby, hml, hown, hnm, hret, hlk⟩ := C
  obtain ⟨cl, Ar, Sz, H⟩ := id A
  obtain ⟨T1, h1, X1, e1, W1, st1⟩ := stB X hx hZ e0 Ar (j := zj) (by rw [Sz]; exact idxIn hz hj) (g := mkF m pc Ls (.int x :: .int zj :: .ref a :: rest)) rfl rfl (hb hby hd)
  rw [clampNeg hz] at W1
  exact wp st1 (k T1 h1 X1 e1 W1 (A.set W1 hj))
theorem wp_iastore {Q : State → Prop} {bytes : ByteArray} {ml : Nat} {own nm : String} {ret : Option FieldType} {pc n j : Nat} {zj x : Int32} {a : Addr} {f : Nat → Value} {Ls : Array Slot} {rest : List Value}
    (C : Cx p s m meth c Z a0 bytes ml own nm ret) (X : Stand p l e R s m args below meth c T locs cells slots) (e0 : T.heap = h) (A : Af Z h a .int n f) (hz : zj.toInt = (j : Int)) (hj : j < n) (hd : decode bytes pc = .ok (.iastore, 1))
    (k : ∀ T' h', Stand p l e R s m args below meth c T' (locs ++ [⟨a, zj.toNatClampNeg⟩]) cells slots → T'.heap = h' → Wr h h' a j (.int x) → Af Z h' a .int n (fun i => if i = j then .int x else f i) → WP p e below Q T' (mkF m (pc + 1) Ls rest)) :
    WP p e below Q T (mkF m pc Ls (.int x :: .int zj :: .ref a :: rest)) := by
  obtain ⟨hx, hZ, hw, hby, hml, hown, hnm, hret, hlk⟩ := C
  obtain ⟨cl, Ar, Sz, H⟩ := id A
  obtain ⟨T1, h1, X1, e1, W1, st1⟩ := stI X hx hZ e0 Ar (j := zj) (by rw [Sz]; exact idxIn hz hj) (g := mkF m pc Ls (.int x :: .int zj :: .ref a :: rest)) rfl rfl (hb hby hd)
  rw [clampNeg hz] at W1
  exact wp st1 (k T1 h1 X1 e1 W1 (A.set W1 hj))
theorem wp_lastore {Q : State → Prop} {bytes : ByteArray} {ml : Nat} {own nm : String} {ret : Option FieldType} {pc n j : Nat} {zj : Int32} {x : Int64} {a : Addr} {f : Nat → Value} {Ls : Array Slot} {rest : List Value}
    (C : Cx p s m meth c Z a0 bytes ml own nm ret) (X : Stand p l e R s m args below meth c T locs cells slots) (e0 : T.heap = h) (A : Af Z h a .long n f) (hz : zj.toInt = (j : Int)) (hj : j < n) (hd : decode bytes pc = .ok (.lastore, 1))
    (k : ∀ T' h', Stand p l e R s m args below meth c T' (locs ++ [⟨a, zj.toNatClampNeg⟩]) cells slots → T'.heap = h' → Wr h h' a j (.long x) → Af Z h' a .long n (fun i => if i = j then .long x else f i) → WP p e below Q T' (mkF m (pc + 1) Ls rest)) :
    WP p e below Q T (mkF m pc Ls (.long x :: .int zj :: .ref a :: rest)) := by
  obtain ⟨hx, hZ, hw, hby, hml, hown, hnm, hret, hlk⟩ := C
  obtain ⟨cl, Ar, Sz, H⟩ := id A
  obtain ⟨T1, h1, X1, e1, W1, st1⟩ := stJ X hx hZ e0 Ar (j := zj) (by rw [Sz]; exact idxIn hz hj) (g := mkF m pc Ls (.long x :: .int zj :: .ref a :: rest)) rfl rfl (hb hby hd)
  rw [clampNeg hz] at W1
  exact wp st1 (k T1 h1 X1 e1 W1 (A.set W1 hj))
theorem wp_baload {Q : State → Prop} {bytes : ByteArray} {ml : Nat} {own nm : String} {ret : Option FieldType} {pc n j : Nat} {zj : Int32} {v : Value} {a : Addr} {f : Nat → Value} {Ls : Array Slot} {rest : List Value}
    (C : Cx p s m meth c Z a0 bytes ml own nm ret) (X : Stand p l e R s m args below meth c T locs cells slots) (e0 : T.heap = h) (A : Af Z h a .byte n f) (hz : zj.toInt = (j : Int)) (hj : j < n) (hv : f j = v) (hd : decode bytes pc = .ok (.baload, 1))
    (k : WP p e below Q T (mkF m (pc + 1) Ls (v :: rest))) : WP p e below Q T (mkF m pc Ls (.int zj :: .ref a :: rest)) := by
  obtain ⟨hx, hZ, hw, hby, hml, hown, hnm, hret, hlk⟩ := C
  obtain ⟨cl, Ar, Sz, H⟩ := A
  exact wp (fun t kt => X.baloadBytes hx (j := zj) (v := v) (by rw [e0]; exact Ar.1) (State.isArrayOf_alike hZ.alike Ar.2.1) Ar.2.2 (by rw [Sz]; exact idxIn hz hj) (by rw [clampNeg hz, H j hj, hv]) (g := mkF m pc Ls (.int zj :: .ref a :: rest)) rfl rfl (hb hby hd) t kt) k
theorem wp_iaload {Q : State → Prop} {bytes : ByteArray} {ml : Nat} {own nm : String} {ret : Option FieldType} {pc n j : Nat} {zj : Int32} {v : Value} {a : Addr} {f : Nat → Value} {Ls : Array Slot} {rest : List Value}
    (C : Cx p s m meth c Z a0 bytes ml own nm ret) (X : Stand p l e R s m args below meth c T locs cells slots) (e0 : T.heap = h) (A : Af Z h a .int n f) (hz : zj.toInt = (j : Int)) (hj : j < n) (hv : f j = v) (hd : decode bytes pc = .ok (.iaload, 1))
    (k : WP p e below Q T (mkF m (pc + 1) Ls (v :: rest))) : WP p e below Q T (mkF m pc Ls (.int zj :: .ref a :: rest)) := by
  obtain ⟨hx, hZ, hw, hby, hml, hown, hnm, hret, hlk⟩ := C
  obtain ⟨cl, Ar, Sz, H⟩ := A
  exact wp (fun t kt => X.iaload hx (j := zj) (v := v) (by rw [e0]; exact Ar.1) (State.isArrayOf_alike hZ.alike Ar.2.1) Ar.2.2 (by rw [Sz]; exact idxIn hz hj) (by rw [clampNeg hz, H j hj, hv]) (g := mkF m pc Ls (.int zj :: .ref a :: rest)) rfl rfl (hb hby hd) t kt) k
theorem wp_laload {Q : State → Prop} {bytes : ByteArray} {ml : Nat} {own nm : String} {ret : Option FieldType} {pc n j : Nat} {zj : Int32} {v : Value} {a : Addr} {f : Nat → Value} {Ls : Array Slot} {rest : List Value}
    (C : Cx p s m meth c Z a0 bytes ml own nm ret) (X : Stand p l e R s m args below meth c T locs cells slots) (e0 : T.heap = h) (A : Af Z h a .long n f) (hz : zj.toInt = (j : Int)) (hj : j < n) (hv : f j = v) (hd : decode bytes pc = .ok (.laload, 1))
    (k : WP p e below Q T (mkF m (pc + 1) Ls (v :: rest))) : WP p e below Q T (mkF m pc Ls (.int zj :: .ref a :: rest)) := by
  obtain ⟨hx, hZ, hw, hby, hml, hown, hnm, hret, hlk⟩ := C
  obtain ⟨cl, Ar, Sz, H⟩ := A
  exact wp (fun t kt => X.laload hx (j := zj) (v := v) (by rw [e0]; exact Ar.1) (State.isArrayOf_alike hZ.alike Ar.2.1) Ar.2.2 (by rw [Sz]; exact idxIn hz hj) (by rw [clampNeg hz, H j hj, hv]) (g := mkF m pc Ls (.int zj :: .ref a :: rest)) rfl rfl (hb hby hd) t kt) k
theorem wp_arraylength {Q : State → Prop} {bytes : ByteArray} {ml : Nat} {own nm : String} {ret : Option FieldType} {pc n : Nat} {a : Addr} {ty : FieldType} {f : Nat → Value} {Ls : Array Slot} {rest : List Value}
    (C : Cx p s m meth c Z a0 bytes ml own nm ret) (X : Stand p l e R s m args below meth c T locs cells slots) (e0 : T.heap = h) (A : Af Z h a ty n f) (hd : decode bytes pc = .ok (.arraylength, 1))
    (k : WP p e below Q T (mkF m (pc + 1) Ls (.int (Int32.ofNat n) :: rest))) : WP p e below Q T (mkF m pc Ls (.ref a :: rest)) := by
  obtain ⟨hx, hZ, hw, hby, hml, hown, hnm, hret, hlk⟩ := C
  obtain ⟨cl, Ar, Sz, H⟩ := A
  refine wp (fun t kt => X.arraylength hx (by rw [e0]; exact Ar.1) (State.isArrayOf_alike hZ.alike Ar.2.1) (g := mkF m pc Ls (.ref a :: rest)) rfl rfl (hb hby hd) t ?_) k
  rw [Sz]
  exact kt
theorem wp_ldc {Q : State → Prop} {bytes : ByteArray} {ml : Nat} {own nm : String} {ret : Option FieldType} {pc index : Nat} {v : Int32} {Ls : Array Slot} {st : List Value}
    (C : Cx p s m meth c Z a0 bytes ml own nm ret) (X : Stand p l e R s m args below meth c T locs cells slots) (w : (Jvm.Cond.constant own index v).before a0 Z = true) (hd : decode bytes pc = .ok (.ldc index, 2))
    (k : WP p e below Q T (mkF m (pc + 2) Ls (.int v :: st))) : WP p e below Q T (mkF m pc Ls st) := by
  obtain ⟨hx, hZ, hw, hby, hml, hown, hnm, hret, hlk⟩ := C
  exact wp (X.ldcInt hx hown (mvT hZ w) (g := mkF m pc Ls st) rfl (hb hby hd)) k
theorem wp_ldc2 {Q : State → Prop} {bytes : ByteArray} {ml : Nat} {own nm : String} {ret : Option FieldType} {pc index : Nat} {v : Int64} {Ls : Array Slot} {st : List Value}
    (C : Cx p s m meth c Z a0 bytes ml own nm ret) (X : Stand p l e R s m args below meth c T locs cells slots) (w : (Jvm.Cond.constantLong own index v).before a0 Z = true) (hd : decode bytes pc = .ok (.ldc2_w index, 3))
    (k : WP p e below Q T (mkF m (pc + 3) Ls (.long v :: st))) : WP p e below Q T (mkF m pc Ls st) := by
  obtain ⟨hx, hZ, hw, hby, hml, hown, hnm, hret, hlk⟩ := C
  exact wp (X.ldc2Long hx hown (mvT hZ w) (g := mkF m pc Ls st) rfl (hb hby hd)) k
theorem Frs {k : Nat} {a : Addr} {sl : Nat} {L : List Loc} (N : Fr k L) (q : k ≤ a) : Fr k (L ++ [⟨a, sl⟩]) := N.app fun y hy => by cases List.mem_singleton.mp hy; exact q
end Kit

/-! numbers -/
theorem own_inc {z : Int32} {j : Nat} (hz : z.toInt = (j : Int)) (hj : j < 1000) : (z + (1 : Int32)).toInt = ((j + 1 : Nat) : Int) := by
  have h1 := c_iadd z 1
  have h2 := rng32 (z + 1)
  have h3 : (1 : Int32).toInt = 1 := rfl
  omega
theorem own_addk {z q : Int32} {j k : Nat} (hz : z.toInt = (j : Int)) (hq : q.toInt = (k : Int)) (hj : j < 1000) (hk : k < 1000) : (z + q).toInt = ((j + k : Nat) : Int) := by
  have h1 := c_iadd z q
  have h2 := rng32 (z + q)
  omega
def own_st (h : Int64) (b : Int32) : Int64 := (h ^^^ (b.toInt64 &&& (255 : Int64))) * (1099511628211 : Int64)
def own_mix (h : Int64) : Int64 := (h ^^^ ((h.toUInt64 >>> ((33 : Int32) &&& 0x3f).toInt64.toUInt64).toInt64)) * (-49064778989728563 : Int64)
def own_fin (h : Int64) : Int32 := (own_mix h ^^^ (((own_mix h).toUInt64 >>> ((33 : Int32) &&& 0x3f).toInt64.toUInt64).toInt64)).toInt32
def own_h (g : Nat → Int32) (F : Nat) : Nat → Int64
  | 0 => (-3750763034362895579 : Int64)
  | k + 1 => own_st (own_h g F k) (g (F + k))
theorem own_and (b : Int32) : (b &&& (255 : Int32)).toInt64 = b.toInt64 &&& (255 : Int64) := by
  rw [Int32.toInt64_and]; rfl
def own_toI : Value → Int32
  | .int x => x
  | _ => 0
theorem own_ints {Z : State} {h : Heap} {a : Addr} {ty : FieldType} {n : Nat} {f : Nat → Value} (A : Af Z h a ty n f) (q : ∀ j, j < n → ∃ x, f j = .int x) : ∃ g : Nat → Int32, Af Z h a ty n (fun j => .int (g j)) :=
  ⟨fun j => own_toI (f j), A.conv fun j hj => by obtain ⟨y, hy⟩ := q j hj; show f j = .int (own_toI (f j)); rw [hy]; rfl⟩

theorem dstep_0 : decode method_2_code 0 = .ok (.iload_n 2, 1) := by decide +kernel
theorem dstep_1 : decode method_2_code 1 = .ok (.i2l, 1) := by decide +kernel
theorem dstep_2 : decode method_2_code 2 = .ok (.ldc2_w 7, 3) := by decide +kernel
theorem dstep_5 : decode method_2_code 5 = .ok (.land, 1) := by decide +kernel
theorem dstep_6 : decode method_2_code 6 = .ok (.lstore_n 3, 1) := by decide +kernel
theorem dstep_7 : decode method_2_code 7 = .ok (.lload_n 0, 1) := by decide +kernel
theorem dstep_8 : decode method_2_code 8 = .ok (.lload_n 3, 1) := by decide +kernel
theorem dstep_9 : decode method_2_code 9 = .ok (.lxor, 1) := by decide +kernel
theorem dstep_10 : decode method_2_code 10 = .ok (.ldc2_w 11, 3) := by decide +kernel
theorem dstep_13 : decode method_2_code 13 = .ok (.lmul, 1) := by decide +kernel
theorem dstep_14 : decode method_2_code 14 = .ok (.lreturn, 1) := by decide +kernel

theorem pn_step : plainName "com/example/joinsmith/joinsmith/engine/stats/KeySetHashPinLaw" = true := by first | (simp [plainName, overriddenIn]; done) | decide +kernel

theorem pd_step : parseMethodDescriptor "(JB)J" = some ⟨[.long, .byte], some .long⟩ := by decide +kernel

theorem dfin_0 : decode method_3_code 0 = .ok (.lload_n 0, 1) := by decide +kernel
theorem dfin_1 : decode method_3_code 1 = .ok (.lload_n 0, 1) := by decide +kernel
theorem dfin_2 : decode method_3_code 2 = .ok (.bipush 33, 2) := by decide +kernel
theorem dfin_4 : decode method_3_code 4 = .ok (.lushr, 1) := by decide +kernel
theorem dfin_5 : decode method_3_code 5 = .ok (.lxor, 1) := by decide +kernel
theorem dfin_6 : decode method_3_code 6 = .ok (.lstore_n 2, 1) := by decide +kernel
theorem dfin_7 : decode method_3_code 7 = .ok (.lload_n 2, 1) := by decide +kernel
theorem dfin_8 : decode method_3_code 8 = .ok (.ldc2_w 13, 3) := by decide +kernel
theorem dfin_11 : decode method_3_code 11 = .ok (.lmul, 1) := by decide +kernel
theorem dfin_12 : decode method_3_code 12 = .ok (.lstore_n 2, 1) := by decide +kernel
theorem dfin_13 : decode method_3_code 13 = .ok (.lload_n 2, 1) := by decide +kernel
theorem dfin_14 : decode method_3_code 14 = .ok (.lload_n 2, 1) := by decide +kernel
theorem dfin_15 : decode method_3_code 15 = .ok (.bipush 33, 2) := by decide +kernel
theorem dfin_17 : decode method_3_code 17 = .ok (.lushr, 1) := by decide +kernel
theorem dfin_18 : decode method_3_code 18 = .ok (.lxor, 1) := by decide +kernel
theorem dfin_19 : decode method_3_code 19 = .ok (.lstore 4, 2) := by decide +kernel
theorem dfin_21 : decode method_3_code 21 = .ok (.lload 4, 2) := by decide +kernel
theorem dfin_23 : decode method_3_code 23 = .ok (.l2i, 1) := by decide +kernel
theorem dfin_24 : decode method_3_code 24 = .ok (.ireturn, 1) := by decide +kernel

theorem pn_fin : plainName "com/example/joinsmith/joinsmith/engine/stats/KeySetHashPinLaw" = true := by first | (simp [plainName, overriddenIn]; done) | decide +kernel

theorem pd_fin : parseMethodDescriptor "(J)I" = some ⟨[.long], some .int⟩ := by decide +kernel

theorem dhash_0 : decode prog_75_method_10_code 0 = .ok (.ldc2_w 122, 3) := by decide +kernel
theorem dhash_3 : decode prog_75_method_10_code 3 = .ok (.lstore_n 3, 1) := by decide +kernel
theorem dhash_4 : decode prog_75_method_10_code 4 = .ok (.iload_n 1, 1) := by decide +kernel
theorem dhash_5 : decode prog_75_method_10_code 5 = .ok (.istore 5, 2) := by decide +kernel
theorem dhash_7 : decode prog_75_method_10_code 7 = .ok (.iload 5, 2) := by decide +kernel
theorem dhash_9 : decode prog_75_method_10_code 9 = .ok (.iload_n 2, 1) := by decide +kernel
theorem dhash_10 : decode prog_75_method_10_code 10 = .ok (.if_icmp .ge 25, 3) := by decide +kernel
theorem dhash_13 : decode prog_75_method_10_code 13 = .ok (.lload_n 3, 1) := by decide +kernel
theorem dhash_14 : decode prog_75_method_10_code 14 = .ok (.aload_n 0, 1) := by decide +kernel
theorem dhash_15 : decode prog_75_method_10_code 15 = .ok (.iload 5, 2) := by decide +kernel
theorem dhash_17 : decode prog_75_method_10_code 17 = .ok (.baload, 1) := by decide +kernel
theorem dhash_18 : decode prog_75_method_10_code 18 = .ok (.sipush 255, 3) := by decide +kernel
theorem dhash_21 : decode prog_75_method_10_code 21 = .ok (.iand, 1) := by decide +kernel
theorem dhash_22 : decode prog_75_method_10_code 22 = .ok (.i2l, 1) := by decide +kernel
theorem dhash_23 : decode prog_75_method_10_code 23 = .ok (.lxor, 1) := by decide +kernel
theorem dhash_24 : decode prog_75_method_10_code 24 = .ok (.ldc2_w 124, 3) := by decide +kernel
theorem dhash_27 : decode prog_75_method_10_code 27 = .ok (.lmul, 1) := by decide +kernel
theorem dhash_28 : decode prog_75_method_10_code 28 = .ok (.lstore_n 3, 1) := by decide +kernel
theorem dhash_29 : decode prog_75_method_10_code 29 = .ok (.iinc 5 1, 3) := by decide +kernel
theorem dhash_32 : decode prog_75_method_10_code 32 = .ok (.goto (-25), 3) := by decide +kernel
theorem dhash_35 : decode prog_75_method_10_code 35 = .ok (.lload_n 3, 1) := by decide +kernel
theorem dhash_36 : decode prog_75_method_10_code 36 = .ok (.lload_n 3, 1) := by decide +kernel
theorem dhash_37 : decode prog_75_method_10_code 37 = .ok (.bipush 33, 2) := by decide +kernel
theorem dhash_39 : decode prog_75_method_10_code 39 = .ok (.lushr, 1) := by decide +kernel
theorem dhash_40 : decode prog_75_method_10_code 40 = .ok (.lxor, 1) := by decide +kernel
theorem dhash_41 : decode prog_75_method_10_code 41 = .ok (.lstore_n 3, 1) := by decide +kernel
theorem dhash_42 : decode prog_75_method_10_code 42 = .ok (.lload_n 3, 1) := by decide +kernel
theorem dhash_43 : decode prog_75_method_10_code 43 = .ok (.ldc2_w 126, 3) := by decide +kernel
theorem dhash_46 : decode prog_75_method_10_code 46 = .ok (.lmul, 1) := by decide +kernel
theorem dhash_47 : decode prog_75_method_10_code 47 = .ok (.lstore_n 3, 1) := by decide +kernel
theorem dhash_48 : decode prog_75_method_10_code 48 = .ok (.lload_n 3, 1) := by decide +kernel
theorem dhash_49 : decode prog_75_method_10_code 49 = .ok (.lload_n 3, 1) := by decide +kernel
theorem dhash_50 : decode prog_75_method_10_code 50 = .ok (.bipush 33, 2) := by decide +kernel
theorem dhash_52 : decode prog_75_method_10_code 52 = .ok (.lushr, 1) := by decide +kernel
theorem dhash_53 : decode prog_75_method_10_code 53 = .ok (.lxor, 1) := by decide +kernel
theorem dhash_54 : decode prog_75_method_10_code 54 = .ok (.l2i, 1) := by decide +kernel
theorem dhash_55 : decode prog_75_method_10_code 55 = .ok (.ireturn, 1) := by decide +kernel

theorem pn_hash : plainName "com/example/joinsmith/joinsmith/engine/stats/KeySet" = true := by first | (simp [plainName, overriddenIn]; done) | decide +kernel

theorem pd_hash : parseMethodDescriptor "([BII)I" = some ⟨[(.array .byte), .int, .int], some .int⟩ := by decide +kernel

theorem pn_law : plainName "com/example/joinsmith/joinsmith/engine/stats/KeySetHashPinLaw" = true := by first | (simp [plainName, overriddenIn]; done) | decide +kernel

theorem ef_step (x0 : Int64) (x1 : Int32) (m : MethodId) : entryFrame m #[(.long x0), (.int x1)] 5 = mkF m 0 #[.val (.long x0), .second, .val (.int x1), .unset, .unset] [] := by first | (simp [entryFrame, mkF, argsToLocals, Value.category]; done) | rfl

theorem ef_fin (x0 : Int64) (m : MethodId) : entryFrame m #[(.long x0)] 6 = mkF m 0 #[.val (.long x0), .second, .unset, .unset, .unset, .unset] [] := by first | (simp [entryFrame, mkF, argsToLocals, Value.category]; done) | rfl

theorem ef_hash (x0 : Addr) (x1 : Int32) (x2 : Int32) (m : MethodId) : entryFrame m #[(.ref x0), (.int x1), (.int x2)] 6 = mkF m 0 #[.val (.ref x0), .val (.int x1), .val (.int x2), .unset, .unset, .unset] [] := by first | (simp [entryFrame, mkF, argsToLocals, Value.category]; done) | rfl

theorem ef_law (x0 : Int64) (x1 : Int32) (m : MethodId) : entryFrame m #[(.long x0), (.int x1)] maxLocals = mkF m 0 #[.val (.long x0), .second, .val (.int x1), .unset, .unset, .unset, .unset, .unset, .unset, .unset] [] := by first | (simp [entryFrame, mkF, argsToLocals, Value.category, maxLocals]; done) | rfl

set_option maxRecDepth 65536 in
set_option maxHeartbeats 4000000 in
theorem rm_step (l : Launch) (Z : State) (a0 : Array Value) (hw : ∀ d ∈ tables_1, d.before a0 Z = true) (ws : List Jvm.Cond) (q : Int64) (b : Int32) (h0 : Heap)  :
    MetQ l Z (⟨"com/example/joinsmith/joinsmith/engine/stats/KeySetHashPinLaw", "step", "(JB)J"⟩ : MethodName) method_2_code 5 (some .long) ws ({ frames := 0, cells := 0, slots := 0, locals := 0 } : Room) #[(.long q), (.int b)] h0 (PureQ (some (.long (own_st q b))) h0) := by
  refine metQ (a0 := a0) (plainFor_of_name pn_step) hw (ef_step q b) ?_
  intro p e s m below meth c T0 C X0 e0
  obtain ⟨hx, hZ, hw, hby, hml, hown, hnm, hret, hlk⟩ := id C
  show WP p e below _ T0 (mkF m 0 #[.val (.long q), .second, .val (.int b), .unset, .unset] [])
  refine wp (fun _ => XS.iloadN X0.here hx rfl (hb hby dstep_0) rfl) ?_
  show WP p e below _ T0 (mkF m 1 #[.val (.long q), .second, .val (.int b), .unset, .unset] [(.int b)])
  refine wp (fun _ => XS.i2l X0.here hx rfl (hb hby dstep_1) rfl) ?_
  show WP p e below _ T0 (mkF m 2 #[.val (.long q), .second, .val (.int b), .unset, .unset] [(.long b.toInt64)])
  refine wp_ldc2 C X0 (hw _ (List.mem_of_getElem? (i := 18) rfl)) dstep_2 ?_
  show WP p e below _ T0 (mkF m 5 #[.val (.long q), .second, .val (.int b), .unset, .unset] [(.long (255 : Int64)), (.long b.toInt64)])
  refine wp (fun _ => XS.land X0.here hx rfl (hb hby dstep_5) rfl) ?_
  show WP p e below _ T0 (mkF m 6 #[.val (.long q), .second, .val (.int b), .unset, .unset] [(.long (b.toInt64 &&& (255 : Int64)))])
  refine wp (fun _ => XS.lstoreN X0.here hx rfl (hb hby dstep_6) rfl (l' := #[.val (.long q), .second, .val (.int b), .val (.long (b.toInt64 &&& (255 : Int64))), .second]) rfl) ?_
  show WP p e below _ T0 (mkF m 7 #[.val (.long q), .second, .val (.int b), .val (.long (b.toInt64 &&& (255 : Int64))), .second] [])
  refine wp (fun _ => XS.lloadN X0.here hx rfl (hb hby dstep_7) rfl) ?_
  show WP p e below _ T0 (mkF m 8 #[.val (.long q), .second, .val (.int b), .val (.long (b.toInt64 &&& (255 : Int64))), .second] [(.long q)])
  refine wp (fun _ => XS.lloadN X0.here hx rfl (hb hby dstep_8) rfl) ?_
  show WP p e below _ T0 (mkF m 9 #[.val (.long q), .second, .val (.int b), .val (.long (b.toInt64 &&& (255 : Int64))), .second] [(.long (b.toInt64 &&& (255 : Int64))), (.long q)])
  refine wp (fun _ => XS.lxor X0.here hx rfl (hb hby dstep_9) rfl) ?_
  show WP p e below _ T0 (mkF m 10 #[.val (.long q), .second, .val (.int b), .val (.long (b.toInt64 &&& (255 : Int64))), .second] [(.long (q ^^^ (b.toInt64 &&& (255 : Int64))))])
  refine wp_ldc2 C X0 (hw _ (List.mem_of_getElem? (i := 19) rfl)) dstep_10 ?_
  show WP p e below _ T0 (mkF m 13 #[.val (.long q), .second, .val (.int b), .val (.long (b.toInt64 &&& (255 : Int64))), .second] [(.long (1099511628211 : Int64)), (.long (q ^^^ (b.toInt64 &&& (255 : Int64))))])
  refine wp (fun _ => XS.lmul X0.here hx rfl (hb hby dstep_13) rfl) ?_
  show WP p e below _ T0 (mkF m 14 #[.val (.long q), .second, .val (.int b), .val (.long (b.toInt64 &&& (255 : Int64))), .second] [(.long ((q ^^^ (b.toInt64 &&& (255 : Int64))) * (1099511628211 : Int64)))])
  exact wp_lreturn C X0 dstep_14 ⟨rfl, e0, rfl⟩ (by decide) (by decide)
set_option maxRecDepth 65536 in
set_option maxHeartbeats 4000000 in
theorem rm_fin (l : Launch) (Z : State) (a0 : Array Value) (hw : ∀ d ∈ tables_1, d.before a0 Z = true) (ws : List Jvm.Cond) (q : Int64) (h0 : Heap)  :
    MetQ l Z (⟨"com/example/joinsmith/joinsmith/engine/stats/KeySetHashPinLaw", "finish", "(J)I"⟩ : MethodName) method_3_code 6 (some .int) ws ({ frames := 0, cells := 0, slots := 0, locals := 0 } : Room) #[(.long q)] h0 (PureQ (some (.int (own_fin q))) h0) := by
  refine metQ (a0 := a0) (plainFor_of_name pn_fin) hw (ef_fin q) ?_
  intro p e s m below meth c T0 C X0 e0
  obtain ⟨hx, hZ, hw, hby, hml, hown, hnm, hret, hlk⟩ := id C
  show WP p e below _ T0 (mkF m 0 #[.val (.long q), .second, .unset, .unset, .unset, .unset] [])
  refine wp (fun _ => XS.lloadN X0.here hx rfl (hb hby dfin_0) rfl) ?_
  show WP p e below _ T0 (mkF m 1 #[.val (.long q), .second, .unset, .unset, .unset, .unset] [(.long q)])
  refine wp (fun _ => XS.lloadN X0.here hx rfl (hb hby dfin_1) rfl) ?_
  show WP p e below _ T0 (mkF m 2 #[.val (.long q), .second, .unset, .unset, .unset, .unset] [(.long q), (.long q)])
  refine wp (fun _ => XS.bipush X0.here hx rfl (hb hby dfin_2)) ?_
  show WP p e below _ T0 (mkF m 4 #[.val (.long q), .second, .unset, .unset, .unset, .unset] [(.int (33 : Int32)), (.long q), (.long q)])
  refine wp (fun _ => XS.lushr X0.here hx rfl (hb hby dfin_4) rfl) ?_
  show WP p e below _ T0 (mkF m 5 #[.val (.long q), .second, .unset, .unset, .unset, .unset] [(.long ((q.toUInt64 >>> ((33 : Int32) &&& 0x3f).toInt64.toUInt64).toInt64)), (.long q)])
  refine wp (fun _ => XS.lxor X0.here hx rfl (hb hby dfin_5) rfl) ?_
  show WP p e below _ T0 (mkF m 6 #[.val (.long q), .second, .unset, .unset, .unset, .unset] [(.long (q ^^^ ((q.toUInt64 >>> ((33 : Int32) &&& 0x3f).toInt64.toUInt64).toInt64)))])
  refine wp (fun _ => XS.lstoreN X0.here hx rfl (hb hby dfin_6) rfl (l' := #[.val (.long q), .second, .val (.long (q ^^^ ((q.toUInt64 >>> ((33 : Int32) &&& 0x3f).toInt64.toUInt64).toInt64))), .second, .unset, .unset]) rfl) ?_
  show WP p e below _ T0 (mkF m 7 #[.val (.long q), .second, .val (.long (q ^^^ ((q.toUInt64 >>> ((33 : Int32) &&& 0x3f).toInt64.toUInt64).toInt64))), .second, .unset, .unset] [])
  refine wp (fun _ => XS.lloadN X0.here hx rfl (hb hby dfin_7) rfl) ?_
  show WP p e below _ T0 (mkF m 8 #[.val (.long q), .second, .val (.long (q ^^^ ((q.toUInt64 >>> ((33 : Int32) &&& 0x3f).toInt64.toUInt64).toInt64))), .second, .unset, .unset] [(.long (q ^^^ ((q.toUInt64 >>> ((33 : Int32) &&& 0x3f).toInt64.toUInt64).toInt64)))])
  refine wp_ldc2 C X0 (hw _ (List.mem_of_getElem? (i := 8) rfl)) dfin_8 ?_
  show WP p e below _ T0 (mkF m 11 #[.val (.long q), .second, .val (.long (q ^^^ ((q.toUInt64 >>> ((33 : Int32) &&& 0x3f).toInt64.toUInt64).toInt64))), .second, .unset, .unset] [(.long (-49064778989728563 : Int64)), (.long (q ^^^ ((q.toUInt64 >>> ((33 : Int32) &&& 0x3f).toInt64.toUInt64).toInt64)))])
  refine wp (fun _ => XS.lmul X0.here hx rfl (hb hby dfin_11) rfl) ?_
  show WP p e below _ T0 (mkF m 12 #[.val (.long q), .second, .val (.long (q ^^^ ((q.toUInt64 >>> ((33 : Int32) &&& 0x3f).toInt64.toUInt64).toInt64))), .second, .unset, .unset] [(.long ((q ^^^ ((q.toUInt64 >>> ((33 : Int32) &&& 0x3f).toInt64.toUInt64).toInt64)) * (-49064778989728563 : Int64)))])
  refine wp (fun _ => XS.lstoreN X0.here hx rfl (hb hby dfin_12) rfl (l' := #[.val (.long q), .second, .val (.long ((q ^^^ ((q.toUInt64 >>> ((33 : Int32) &&& 0x3f).toInt64.toUInt64).toInt64)) * (-49064778989728563 : Int64))), .second, .unset, .unset]) rfl) ?_
  show WP p e below _ T0 (mkF m 13 #[.val (.long q), .second, .val (.long ((q ^^^ ((q.toUInt64 >>> ((33 : Int32) &&& 0x3f).toInt64.toUInt64).toInt64)) * (-49064778989728563 : Int64))), .second, .unset, .unset] [])
  refine wp (fun _ => XS.lloadN X0.here hx rfl (hb hby dfin_13) rfl) ?_
  show WP p e below _ T0 (mkF m 14 #[.val (.long q), .second, .val (.long ((q ^^^ ((q.toUInt64 >>> ((33 : Int32) &&& 0x3f).toInt64.toUInt64).toInt64)) * (-49064778989728563 : Int64))), .second, .unset, .unset] [(.long ((q ^^^ ((q.toUInt64 >>> ((33 : Int32) &&& 0x3f).toInt64.toUInt64).toInt64)) * (-49064778989728563 : Int64)))])
  refine wp (fun _ => XS.lloadN X0.here hx rfl (hb hby dfin_14) rfl) ?_
  show WP p e below _ T0 (mkF m 15 #[.val (.long q), .second, .val (.long ((q ^^^ ((q.toUInt64 >>> ((33 : Int32) &&& 0x3f).toInt64.toUInt64).toInt64)) * (-49064778989728563 : Int64))), .second, .unset, .unset] [(.long ((q ^^^ ((q.toUInt64 >>> ((33 : Int32) &&& 0x3f).toInt64.toUInt64).toInt64)) * (-49064778989728563 : Int64))), (.long ((q ^^^ ((q.toUInt64 >>> ((33 : Int32) &&& 0x3f).toInt64.toUInt64).toInt64)) * (-49064778989728563 : Int64)))])
  refine wp (fun _ => XS.bipush X0.here hx rfl (hb hby dfin_15)) ?_
  show WP p e below _ T0 (mkF m 17 #[.val (.long q), .second, .val (.long ((q ^^^ ((q.toUInt64 >>> ((33 : Int32) &&& 0x3f).toInt64.toUInt64).toInt64)) * (-49064778989728563 : Int64))), .second, .unset, .unset] [(.int (33 : Int32)), (.long ((q ^^^ ((q.toUInt64 >>> ((33 : Int32) &&& 0x3f).toInt64.toUInt64).toInt64)) * (-49064778989728563 : Int64))), (.long ((q ^^^ ((q.toUInt64 >>> ((33 : Int32) &&& 0x3f).toInt64.toUInt64).toInt64)) * (-49064778989728563 : Int64)))])
  refine wp (fun _ => XS.lushr X0.here hx rfl (hb hby dfin_17) rfl) ?_
  show WP p e below _ T0 (mkF m 18 #[.val (.long q), .second, .val (.long ((q ^^^ ((q.toUInt64 >>> ((33 : Int32) &&& 0x3f).toInt64.toUInt64).toInt64)) * (-49064778989728563 : Int64))), .second, .unset, .unset] [(.long ((((q ^^^ ((q.toUInt64 >>> ((33 : Int32) &&& 0x3f).toInt64.toUInt64).toInt64)) * (-49064778989728563 : Int64)).toUInt64 >>> ((33 : Int32) &&& 0x3f).toInt64.toUInt64).toInt64)), (.long ((q ^^^ ((q.toUInt64 >>> ((33 : Int32) &&& 0x3f).toInt64.toUInt64).toInt64)) * (-49064778989728563 : Int64)))])
  refine wp (fun _ => XS.lxor X0.here hx rfl (hb hby dfin_18) rfl) ?_
  show WP p e below _ T0 (mkF m 19 #[.val (.long q), .second, .val (.long ((q ^^^ ((q.toUInt64 >>> ((33 : Int32) &&& 0x3f).toInt64.toUInt64).toInt64)) * (-49064778989728563 : Int64))), .second, .unset, .unset] [(.long (((q ^^^ ((q.toUInt64 >>> ((33 : Int32) &&& 0x3f).toInt64.toUInt64).toInt64)) * (-49064778989728563 : Int64)) ^^^ ((((q ^^^ ((q.toUInt64 >>> ((33 : Int32) &&& 0x3f).toInt64.toUInt64).toInt64)) * (-49064778989728563 : Int64)).toUInt64 >>> ((33 : Int32) &&& 0x3f).toInt64.toUInt64).toInt64)))])
  refine wp (fun _ => XS.lstore X0.here hx rfl (hb hby dfin_19) rfl (l' := #[.val (.long q), .second, .val (.long ((q ^^^ ((q.toUInt64 >>> ((33 : Int32) &&& 0x3f).toInt64.toUInt64).toInt64)) * (-49064778989728563 : Int64))), .second, .val (.long (((q ^^^ ((q.toUInt64 >>> ((33 : Int32) &&& 0x3f).toInt64.toUInt64).toInt64)) * (-49064778989728563 : Int64)) ^^^ ((((q ^^^ ((q.toUInt64 >>> ((33 : Int32) &&& 0x3f).toInt64.toUInt64).toInt64)) * (-49064778989728563 : Int64)).toUInt64 >>> ((33 : Int32) &&& 0x3f).toInt64.toUInt64).toInt64))), .second]) rfl) ?_
  show WP p e below _ T0 (mkF m 21 #[.val (.long q), .second, .val (.long ((q ^^^ ((q.toUInt64 >>> ((33 : Int32) &&& 0x3f).toInt64.toUInt64).toInt64)) * (-49064778989728563 : Int64))), .second, .val (.long (((q ^^^ ((q.toUInt64 >>> ((33 : Int32) &&& 0x3f).toInt64.toUInt64).toInt64)) * (-49064778989728563 : Int64)) ^^^ ((((q ^^^ ((q.toUInt64 >>> ((33 : Int32) &&& 0x3f).toInt64.toUInt64).toInt64)) * (-49064778989728563 : Int64)).toUInt64 >>> ((33 : Int32) &&& 0x3f).toInt64.toUInt64).toInt64))), .second] [])
  refine wp (fun _ => XS.lload X0.here hx rfl (hb hby dfin_21) rfl) ?_
  show WP p e below _ T0 (mkF m 23 #[.val (.long q), .second, .val (.long ((q ^^^ ((q.toUInt64 >>> ((33 : Int32) &&& 0x3f).toInt64.toUInt64).toInt64)) * (-49064778989728563 : Int64))), .second, .val (.long (((q ^^^ ((q.toUInt64 >>> ((33 : Int32) &&& 0x3f).toInt64.toUInt64).toInt64)) * (-49064778989728563 : Int64)) ^^^ ((((q ^^^ ((q.toUInt64 >>> ((33 : Int32) &&& 0x3f).toInt64.toUInt64).toInt64)) * (-49064778989728563 : Int64)).toUInt64 >>> ((33 : Int32) &&& 0x3f).toInt64.toUInt64).toInt64))), .second] [(.long (((q ^^^ ((q.toUInt64 >>> ((33 : Int32) &&& 0x3f).toInt64.toUInt64).toInt64)) * (-49064778989728563 : Int64)) ^^^ ((((q ^^^ ((q.toUInt64 >>> ((33 : Int32) &&& 0x3f).toInt64.toUInt64).toInt64)) * (-49064778989728563 : Int64)).toUInt64 >>> ((33 : Int32) &&& 0x3f).toInt64.toUInt64).toInt64)))])
  refine wp (fun _ => XS.l2i X0.here hx rfl (hb hby dfin_23) rfl) ?_
  show WP p e below _ T0 (mkF m 24 #[.val (.long q), .second, .val (.long ((q ^^^ ((q.toUInt64 >>> ((33 : Int32) &&& 0x3f).toInt64.toUInt64).toInt64)) * (-49064778989728563 : Int64))), .second, .val (.long (((q ^^^ ((q.toUInt64 >>> ((33 : Int32) &&& 0x3f).toInt64.toUInt64).toInt64)) * (-49064778989728563 : Int64)) ^^^ ((((q ^^^ ((q.toUInt64 >>> ((33 : Int32) &&& 0x3f).toInt64.toUInt64).toInt64)) * (-49064778989728563 : Int64)).toUInt64 >>> ((33 : Int32) &&& 0x3f).toInt64.toUInt64).toInt64))), .second] [(.int (((q ^^^ ((q.toUInt64 >>> ((33 : Int32) &&& 0x3f).toInt64.toUInt64).toInt64)) * (-49064778989728563 : Int64)) ^^^ ((((q ^^^ ((q.toUInt64 >>> ((33 : Int32) &&& 0x3f).toInt64.toUInt64).toInt64)) * (-49064778989728563 : Int64)).toUInt64 >>> ((33 : Int32) &&& 0x3f).toInt64.toUInt64).toInt64)).toInt32)])
  exact wp_ireturn C X0 dfin_24 ⟨rfl, e0, rfl⟩ (by decide) (by decide)
section Own
variable {p : Program} {l : Launch} {e : Env} {R : Room} {s : State} {m : MethodId} {args : Array Value} {below : List Frame} {meth : Method} {c : Code} {T0 : State} {locs : List Loc} {cells slots : Nat} {Z : State} {a0 : Array Value} {h0 : Heap} {Q : State → Prop}

set_option maxRecDepth 65536 in
set_option maxHeartbeats 4000000 in
theorem hash_loop (a : Addr) (zF zT : Int32) (F n : Nat) (g : Nat → Int32) (hT : zT.toInt = ((F + n : Nat) : Int)) (hn : F + n ≤ 6) (C : Cx p s m meth c Z a0 prog_75_method_10_code 6 "com/example/joinsmith/joinsmith/engine/stats/KeySet" "hash" (some .int)) (X0 : Stand p l e R s m args below meth c T0 locs cells slots) (e0 : T0.heap = h0) (A : Af Z h0 a .byte 6 (fun j => .int (g j)))
    (k : ∀ z, WP p e below Q T0 (mkF m 35 #[.val (.ref a), .val (.int zF), .val (.int zT), .val (.long (own_h g F n)), .second, .val (.int z)] [])) :
    ∀ (r i : Nat) (zi : Int32), i + r = n → zi.toInt = ((F + i : Nat) : Int) → WP p e below Q T0 (mkF m 7 #[.val (.ref a), .val (.int zF), .val (.int zT), .val (.long (own_h g F i)), .second, .val (.int zi)] []) := by
  obtain ⟨hx, hZ, hw, hby, hml, hown, hnm, hret, hlk⟩ := id C
  intro r
  induction r with
  | zero =>
    intro i zi hi hz
    have hi' : n = i := by omega
    rw [hi'] at k
    refine wp (fun _ => XS.iload X0.here hx rfl (hb hby dhash_7) rfl) ?_
    show WP p e below _ T0 (mkF m 9 #[.val (.ref a), .val (.int zF), .val (.int zT), .val (.long (own_h g F i)), .second, .val (.int zi)] [(.int zi)])
    refine wp (fun _ => XS.iloadN X0.here hx rfl (hb hby dhash_9) rfl) ?_
    show WP p e below _ T0 (mkF m 10 #[.val (.ref a), .val (.int zF), .val (.int zT), .val (.long (own_h g F i)), .second, .val (.int zi)] [(.int zT), (.int zi)])
    have hc : ¬ (zi < zT) := by rw [Int32.lt_iff_toInt_lt]; omega
    refine wp (fun _ => XS.icmpYes X0.here hx rfl (pc0 := 10) (pc' := 35) rfl (hb hby dhash_10) rfl (XT.ii_ge_t hc) (by decide) (by decide)) ?_
    show WP p e below _ T0 (mkF m 35 #[.val (.ref a), .val (.int zF), .val (.int zT), .val (.long (own_h g F i)), .second, .val (.int zi)] [])
    exact k zi
  | succ r ih =>
    intro i zi hi hz
    refine wp (fun _ => XS.iload X0.here hx rfl (hb hby dhash_7) rfl) ?_
    show WP p e below _ T0 (mkF m 9 #[.val (.ref a), .val (.int zF), .val (.int zT), .val (.long (own_h g F i)), .second, .val (.int zi)] [(.int zi)])
    refine wp (fun _ => XS.iloadN X0.here hx rfl (hb hby dhash_9) rfl) ?_
    show WP p e below _ T0 (mkF m 10 #[.val (.ref a), .val (.int zF), .val (.int zT), .val (.long (own_h g F i)), .second, .val (.int zi)] [(.int zT), (.int zi)])
    have hc : zi < zT := by rw [Int32.lt_iff_toInt_lt]; omega
    refine wp (fun _ => XS.icmpNo X0.here hx rfl (hb hby dhash_10) rfl (XT.ii_ge_f hc)) ?_
    show WP p e below _ T0 (mkF m 13 #[.val (.ref a), .val (.int zF), .val (.int zT), .val (.long (own_h g F i)), .second, .val (.int zi)] [])
    refine wp (fun _ => XS.lloadN X0.here hx rfl (hb hby dhash_13) rfl) ?_
    show WP p e below _ T0 (mkF m 14 #[.val (.ref a), .val (.int zF), .val (.int zT), .val (.long (own_h g F i)), .second, .val (.int zi)] [(.long (own_h g F i))])
    refine wp (fun _ => XS.aloadN X0.here hx rfl (hb hby dhash_14) rfl rfl) ?_
    show WP p e below _ T0 (mkF m 15 #[.val (.ref a), .val (.int zF), .val (.int zT), .val (.long (own_h g F i)), .second, .val (.int zi)] [(.ref a), (.long (own_h g F i))])
    refine wp (fun _ => XS.iload X0.here hx rfl (hb hby dhash_15) rfl) ?_
    show WP p e below _ T0 (mkF m 17 #[.val (.ref a), .val (.int zF), .val (.int zT), .val (.long (own_h g F i)), .second, .val (.int zi)] [(.int zi), (.ref a), (.long (own_h g F i))])
    refine wp_baload C X0 e0 A hz (by omega) rfl dhash_17 ?_
    show WP p e below _ T0 (mkF m 18 #[.val (.ref a), .val (.int zF), .val (.int zT), .val (.long (own_h g F i)), .second, .val (.int zi)] [(.int (g (F + i))), (.long (own_h g F i))])
    refine wp (fun _ => XS.sipush X0.here hx rfl (hb hby dhash_18)) ?_
    show WP p e below _ T0 (mkF m 21 #[.val (.ref a), .val (.int zF), .val (.int zT), .val (.long (own_h g F i)), .second, .val (.int zi)] [(.int (255 : Int32)), (.int (g (F + i))), (.long (own_h g F i))])
    refine wp (fun _ => XS.iand X0.here hx rfl (hb hby dhash_21) rfl) ?_
    show WP p e below _ T0 (mkF m 22 #[.val (.ref a), .val (.int zF), .val (.int zT), .val (.long (own_h g F i)), .second, .val (.int zi)] [(.int ((g (F + i)) &&& (255 : Int32))), (.long (own_h g F i))])
    refine wp (fun _ => XS.i2l X0.here hx rfl (hb hby dhash_22) rfl) ?_
    show WP p e below _ T0 (mkF m 23 #[.val (.ref a), .val (.int zF), .val (.int zT), .val (.long (own_h g F i)), .second, .val (.int zi)] [(.long ((g (F + i)) &&& (255 : Int32)).toInt64), (.long (own_h g F i))])
    refine wp (fun _ => XS.lxor X0.here hx rfl (hb hby dhash_23) rfl) ?_
    show WP p e below _ T0 (mkF m 24 #[.val (.ref a), .val (.int zF), .val (.int zT), .val (.long (own_h g F i)), .second, .val (.int zi)] [(.long ((own_h g F i) ^^^ ((g (F + i)) &&& (255 : Int32)).toInt64))])
    refine wp_ldc2 C X0 (hw _ (List.mem_of_getElem? (i := 20) rfl)) dhash_24 ?_
    show WP p e below _ T0 (mkF m 27 #[.val (.ref a), .val (.int zF), .val (.int zT), .val (.long (own_h g F i)), .second, .val (.int zi)] [(.long (1099511628211 : Int64)), (.long ((own_h g F i) ^^^ ((g (F + i)) &&& (255 : Int32)).toInt64))])
    refine wp (fun _ => XS.lmul X0.here hx rfl (hb hby dhash_27) rfl) ?_
    show WP p e below _ T0 (mkF m 28 #[.val (.ref a), .val (.int zF), .val (.int zT), .val (.long (own_h g F i)), .second, .val (.int zi)] [(.long (((own_h g F i) ^^^ ((g (F + i)) &&& (255 : Int32)).toInt64) * (1099511628211 : Int64)))])
    rw [own_and]
    show WP p e below _ T0 (mkF m 28 #[.val (.ref a), .val (.int zF), .val (.int zT), .val (.long (own_h g F i)), .second, .val (.int zi)] [(.long (own_h g F (i + 1)))])
    refine wp (fun _ => XS.lstoreN X0.here hx rfl (hb hby dhash_28) rfl (l' := #[.val (.ref a), .val (.int zF), .val (.int zT), .val (.long (own_h g F (i + 1))), .second, .val (.int zi)]) rfl) ?_
    show WP p e below _ T0 (mkF m 29 #[.val (.ref a), .val (.int zF), .val (.int zT), .val (.long (own_h g F (i + 1))), .second, .val (.int zi)] [])
    refine wp (fun _ => XS.iinc X0.here hx rfl (hb hby dhash_29) rfl (l' := #[.val (.ref a), .val (.int zF), .val (.int zT), .val (.long (own_h g F (i + 1))), .second, .val (.int (zi + (1 : Int32)))]) rfl) ?_
    show WP p e below _ T0 (mkF m 32 #[.val (.ref a), .val (.int zF), .val (.int zT), .val (.long (own_h g F (i + 1))), .second, .val (.int (zi + (1 : Int32)))] [])
    refine wp (fun _ => XS.goto X0.here hx rfl (pc0 := 32) (pc' := 7) rfl (hb hby dhash_32) (by decide) (by decide)) ?_
    show WP p e below _ T0 (mkF m 7 #[.val (.ref a), .val (.int zF), .val (.int zT), .val (.long (own_h g F (i + 1))), .second, .val (.int (zi + (1 : Int32)))] [])
    exact ih (i + 1) _ (by omega) (by have q := own_inc hz (by omega); omega)
end Own
set_option maxRecDepth 65536 in
set_option maxHeartbeats 4000000 in
theorem rm_hash (l : Launch) (Z : State) (a0 : Array Value) (hw : ∀ d ∈ tables_1, d.before a0 Z = true) (ws : List Jvm.Cond) (a : Addr) (zF zT : Int32) (F n : Nat) (g : Nat → Int32) (h0 : Heap) (hF : zF.toInt = (F : Int)) (hT : zT.toInt = ((F + n : Nat) : Int)) (hn : F + n ≤ 6) (A : Af Z h0 a .byte 6 (fun j => .int (g j))) :
    MetQ l Z (⟨"com/example/joinsmith/joinsmith/engine/stats/KeySet", "hash", "([BII)I"⟩ : MethodName) prog_75_method_10_code 6 (some .int) ws ({ frames := 0, cells := 0, slots := 0, locals := 0 } : Room) #[(.ref a), (.int zF), (.int zT)] h0 (PureQ (some (.int (own_fin (own_h g F n)))) h0) := by
  refine metQ (a0 := a0) (plainFor_of_name pn_hash) hw (ef_hash a zF zT) ?_
  intro p e s m below meth c T0 C X0 e0
  obtain ⟨hx, hZ, hw, hby, hml, hown, hnm, hret, hlk⟩ := id C
  show WP p e below _ T0 (mkF m 0 #[.val (.ref a), .val (.int zF), .val (.int zT), .unset, .unset, .unset] [])
  refine wp_ldc2 C X0 (hw _ (List.mem_of_getElem? (i := 13) rfl)) dhash_0 ?_
  show WP p e below _ T0 (mkF m 3 #[.val (.ref a), .val (.int zF), .val (.int zT), .unset, .unset, .unset] [(.long (-3750763034362895579 : Int64))])
  refine wp (fun _ => XS.lstoreN X0.here hx rfl (hb hby dhash_3) rfl (l' := #[.val (.ref a), .val (.int zF), .val (.int zT), .val (.long (-3750763034362895579 : Int64)), .second, .unset]) rfl) ?_
  show WP p e below _ T0 (mkF m 4 #[.val (.ref a), .val (.int zF), .val (.int zT), .val (.long (-3750763034362895579 : Int64)), .second, .unset] [])
  refine wp (fun _ => XS.iloadN X0.here hx rfl (hb hby dhash_4) rfl) ?_
  show WP p e below _ T0 (mkF m 5 #[.val (.ref a), .val (.int zF), .val (.int zT), .val (.long (-3750763034362895579 : Int64)), .second, .unset] [(.int zF)])
  refine wp (fun _ => XS.istore X0.here hx rfl (hb hby dhash_5) rfl (l' := #[.val (.ref a), .val (.int zF), .val (.int zT), .val (.long (-3750763034362895579 : Int64)), .second, .val (.int zF)]) rfl) ?_
  show WP p e below _ T0 (mkF m 7 #[.val (.ref a), .val (.int zF), .val (.int zT), .val (.long (-3750763034362895579 : Int64)), .second, .val (.int zF)] [])
  show WP p e below _ T0 (mkF m 7 #[.val (.ref a), .val (.int zF), .val (.int zT), .val (.long (own_h g F 0)), .second, .val (.int zF)] [])
  refine hash_loop a zF zT F n g hT hn C X0 e0 A ?_ n 0 zF (by omega) hF
  intro z
  show WP p e below _ T0 (mkF m 35 #[.val (.ref a), .val (.int zF), .val (.int zT), .val (.long (own_h g F n)), .second, .val (.int z)] [])
  refine wp (fun _ => XS.lloadN X0.here hx rfl (hb hby dhash_35) rfl) ?_
  show WP p e below _ T0 (mkF m 36 #[.val (.ref a), .val (.int zF), .val (.int zT), .val (.long (own_h g F n)), .second, .val (.int z)] [(.long (own_h g F n))])
  refine wp (fun _ => XS.lloadN X0.here hx rfl (hb hby dhash_36) rfl) ?_
  show WP p e below _ T0 (mkF m 37 #[.val (.ref a), .val (.int zF), .val (.int zT), .val (.long (own_h g F n)), .second, .val (.int z)] [(.long (own_h g F n)), (.long (own_h g F n))])
  refine wp (fun _ => XS.bipush X0.here hx rfl (hb hby dhash_37)) ?_
  show WP p e below _ T0 (mkF m 39 #[.val (.ref a), .val (.int zF), .val (.int zT), .val (.long (own_h g F n)), .second, .val (.int z)] [(.int (33 : Int32)), (.long (own_h g F n)), (.long (own_h g F n))])
  refine wp (fun _ => XS.lushr X0.here hx rfl (hb hby dhash_39) rfl) ?_
  show WP p e below _ T0 (mkF m 40 #[.val (.ref a), .val (.int zF), .val (.int zT), .val (.long (own_h g F n)), .second, .val (.int z)] [(.long (((own_h g F n).toUInt64 >>> ((33 : Int32) &&& 0x3f).toInt64.toUInt64).toInt64)), (.long (own_h g F n))])
  refine wp (fun _ => XS.lxor X0.here hx rfl (hb hby dhash_40) rfl) ?_
  show WP p e below _ T0 (mkF m 41 #[.val (.ref a), .val (.int zF), .val (.int zT), .val (.long (own_h g F n)), .second, .val (.int z)] [(.long ((own_h g F n) ^^^ (((own_h g F n).toUInt64 >>> ((33 : Int32) &&& 0x3f).toInt64.toUInt64).toInt64)))])
  refine wp (fun _ => XS.lstoreN X0.here hx rfl (hb hby dhash_41) rfl (l' := #[.val (.ref a), .val (.int zF), .val (.int zT), .val (.long ((own_h g F n) ^^^ (((own_h g F n).toUInt64 >>> ((33 : Int32) &&& 0x3f).toInt64.toUInt64).toInt64))), .second, .val (.int z)]) rfl) ?_
  show WP p e below _ T0 (mkF m 42 #[.val (.ref a), .val (.int zF), .val (.int zT), .val (.long ((own_h g F n) ^^^ (((own_h g F n).toUInt64 >>> ((33 : Int32) &&& 0x3f).toInt64.toUInt64).toInt64))), .second, .val (.int z)] [])
  refine wp (fun _ => XS.lloadN X0.here hx rfl (hb hby dhash_42) rfl) ?_
  show WP p e below _ T0 (mkF m 43 #[.val (.ref a), .val (.int zF), .val (.int zT), .val (.long ((own_h g F n) ^^^ (((own_h g F n).toUInt64 >>> ((33 : Int32) &&& 0x3f).toInt64.toUInt64).toInt64))), .second, .val (.int z)] [(.long ((own_h g F n) ^^^ (((own_h g F n).toUInt64 >>> ((33 : Int32) &&& 0x3f).toInt64.toUInt64).toInt64)))])
  refine wp_ldc2 C X0 (hw _ (List.mem_of_getElem? (i := 14) rfl)) dhash_43 ?_
  show WP p e below _ T0 (mkF m 46 #[.val (.ref a), .val (.int zF), .val (.int zT), .val (.long ((own_h g F n) ^^^ (((own_h g F n).toUInt64 >>> ((33 : Int32) &&& 0x3f).toInt64.toUInt64).toInt64))), .second, .val (.int z)] [(.long (-49064778989728563 : Int64)), (.long ((own_h g F n) ^^^ (((own_h g F n).toUInt64 >>> ((33 : Int32) &&& 0x3f).toInt64.toUInt64).toInt64)))])
  refine wp (fun _ => XS.lmul X0.here hx rfl (hb hby dhash_46) rfl) ?_
  show WP p e below _ T0 (mkF m 47 #[.val (.ref a), .val (.int zF), .val (.int zT), .val (.long ((own_h g F n) ^^^ (((own_h g F n).toUInt64 >>> ((33 : Int32) &&& 0x3f).toInt64.toUInt64).toInt64))), .second, .val (.int z)] [(.long (((own_h g F n) ^^^ (((own_h g F n).toUInt64 >>> ((33 : Int32) &&& 0x3f).toInt64.toUInt64).toInt64)) * (-49064778989728563 : Int64)))])
  refine wp (fun _ => XS.lstoreN X0.here hx rfl (hb hby dhash_47) rfl (l' := #[.val (.ref a), .val (.int zF), .val (.int zT), .val (.long (((own_h g F n) ^^^ (((own_h g F n).toUInt64 >>> ((33 : Int32) &&& 0x3f).toInt64.toUInt64).toInt64)) * (-49064778989728563 : Int64))), .second, .val (.int z)]) rfl) ?_
  show WP p e below _ T0 (mkF m 48 #[.val (.ref a), .val (.int zF), .val (.int zT), .val (.long (((own_h g F n) ^^^ (((own_h g F n).toUInt64 >>> ((33 : Int32) &&& 0x3f).toInt64.toUInt64).toInt64)) * (-49064778989728563 : Int64))), .second, .val (.int z)] [])
  refine wp (fun _ => XS.lloadN X0.here hx rfl (hb hby dhash_48) rfl) ?_
  show WP p e below _ T0 (mkF m 49 #[.val (.ref a), .val (.int zF), .val (.int zT), .val (.long (((own_h g F n) ^^^ (((own_h g F n).toUInt64 >>> ((33 : Int32) &&& 0x3f).toInt64.toUInt64).toInt64)) * (-49064778989728563 : Int64))), .second, .val (.int z)] [(.long (((own_h g F n) ^^^ (((own_h g F n).toUInt64 >>> ((33 : Int32) &&& 0x3f).toInt64.toUInt64).toInt64)) * (-49064778989728563 : Int64)))])
  refine wp (fun _ => XS.lloadN X0.here hx rfl (hb hby dhash_49) rfl) ?_
  show WP p e below _ T0 (mkF m 50 #[.val (.ref a), .val (.int zF), .val (.int zT), .val (.long (((own_h g F n) ^^^ (((own_h g F n).toUInt64 >>> ((33 : Int32) &&& 0x3f).toInt64.toUInt64).toInt64)) * (-49064778989728563 : Int64))), .second, .val (.int z)] [(.long (((own_h g F n) ^^^ (((own_h g F n).toUInt64 >>> ((33 : Int32) &&& 0x3f).toInt64.toUInt64).toInt64)) * (-49064778989728563 : Int64))), (.long (((own_h g F n) ^^^ (((own_h g F n).toUInt64 >>> ((33 : Int32) &&& 0x3f).toInt64.toUInt64).toInt64)) * (-49064778989728563 : Int64)))])
  refine wp (fun _ => XS.bipush X0.here hx rfl (hb hby dhash_50)) ?_
  show WP p e below _ T0 (mkF m 52 #[.val (.ref a), .val (.int zF), .val (.int zT), .val (.long (((own_h g F n) ^^^ (((own_h g F n).toUInt64 >>> ((33 : Int32) &&& 0x3f).toInt64.toUInt64).toInt64)) * (-49064778989728563 : Int64))), .second, .val (.int z)] [(.int (33 : Int32)), (.long (((own_h g F n) ^^^ (((own_h g F n).toUInt64 >>> ((33 : Int32) &&& 0x3f).toInt64.toUInt64).toInt64)) * (-49064778989728563 : Int64))), (.long (((own_h g F n) ^^^ (((own_h g F n).toUInt64 >>> ((33 : Int32) &&& 0x3f).toInt64.toUInt64).toInt64)) * (-49064778989728563 : Int64)))])
  refine wp (fun _ => XS.lushr X0.here hx rfl (hb hby dhash_52) rfl) ?_
  show WP p e below _ T0 (mkF m 53 #[.val (.ref a), .val (.int zF), .val (.int zT), .val (.long (((own_h g F n) ^^^ (((own_h g F n).toUInt64 >>> ((33 : Int32) &&& 0x3f).toInt64.toUInt64).toInt64)) * (-49064778989728563 : Int64))), .second, .val (.int z)] [(.long (((((own_h g F n) ^^^ (((own_h g F n).toUInt64 >>> ((33 : Int32) &&& 0x3f).toInt64.toUInt64).toInt64)) * (-49064778989728563 : Int64)).toUInt64 >>> ((33 : Int32) &&& 0x3f).toInt64.toUInt64).toInt64)), (.long (((own_h g F n) ^^^ (((own_h g F n).toUInt64 >>> ((33 : Int32) &&& 0x3f).toInt64.toUInt64).toInt64)) * (-49064778989728563 : Int64)))])
  refine wp (fun _ => XS.lxor X0.here hx rfl (hb hby dhash_53) rfl) ?_
  show WP p e below _ T0 (mkF m 54 #[.val (.ref a), .val (.int zF), .val (.int zT), .val (.long (((own_h g F n) ^^^ (((own_h g F n).toUInt64 >>> ((33 : Int32) &&& 0x3f).toInt64.toUInt64).toInt64)) * (-49064778989728563 : Int64))), .second, .val (.int z)] [(.long ((((own_h g F n) ^^^ (((own_h g F n).toUInt64 >>> ((33 : Int32) &&& 0x3f).toInt64.toUInt64).toInt64)) * (-49064778989728563 : Int64)) ^^^ (((((own_h g F n) ^^^ (((own_h g F n).toUInt64 >>> ((33 : Int32) &&& 0x3f).toInt64.toUInt64).toInt64)) * (-49064778989728563 : Int64)).toUInt64 >>> ((33 : Int32) &&& 0x3f).toInt64.toUInt64).toInt64)))])
  refine wp (fun _ => XS.l2i X0.here hx rfl (hb hby dhash_54) rfl) ?_
  show WP p e below _ T0 (mkF m 55 #[.val (.ref a), .val (.int zF), .val (.int zT), .val (.long (((own_h g F n) ^^^ (((own_h g F n).toUInt64 >>> ((33 : Int32) &&& 0x3f).toInt64.toUInt64).toInt64)) * (-49064778989728563 : Int64))), .second, .val (.int z)] [(.int ((((own_h g F n) ^^^ (((own_h g F n).toUInt64 >>> ((33 : Int32) &&& 0x3f).toInt64.toUInt64).toInt64)) * (-49064778989728563 : Int64)) ^^^ (((((own_h g F n) ^^^ (((own_h g F n).toUInt64 >>> ((33 : Int32) &&& 0x3f).toInt64.toUInt64).toInt64)) * (-49064778989728563 : Int64)).toUInt64 >>> ((33 : Int32) &&& 0x3f).toInt64.toUInt64).toInt64)).toInt32)])
  exact wp_ireturn C X0 dhash_55 ⟨rfl, e0, rfl⟩ (by decide) (by decide)
section Own2
variable {p : Program} {l : Launch} {e : Env} {R : Room} {s : State} {m : MethodId} {args : Array Value} {below : List Frame} {meth : Method} {c : Code} {T0 : State} {locs : List Loc} {cells slots : Nat} {Z : State} {a0 : Array Value} {h0 : Heap} {Q : State → Prop}

set_option maxRecDepth 65536 in
set_option maxHeartbeats 4000000 in
theorem seg0 (xx : Int64) (ss : Int32) (a : Addr) (zF zL zT : Int32) (F n : Nat) (g : Nat → Int32) (hF : zF.toInt = (F : Int)) (hL : zL.toInt = (n : Int)) (hT : zT.toInt = ((F + n : Nat) : Int)) (hn : F + n ≤ 6) (C : Cx p s m meth c Z a0 code 10 "com/example/joinsmith/joinsmith/engine/stats/KeySetHashPinLaw" "law" (some .boolean)) (X0 : Stand p l e room_1 s m args below meth c T0 locs 1 6) (e0 : T0.heap = h0) (A : Af Z h0 a .byte 6 (fun j => .int (g j)))
    (k : ∀ T', Stand p l e room_1 s m args below meth c T' locs 1 6 → T'.heap = h0 → WP p e below Q T' (mkF m 108 #[.val (.long xx), .second, .val (.int ss), .val (.ref a), .val (.int zF), .val (.int zL), .val (.int zT), .val (.long (own_h g F (min 1 n))), .second, .unset] [])) : WP p e below Q T0 (mkF m 92 #[.val (.long xx), .second, .val (.int ss), .val (.ref a), .val (.int zF), .val (.int zL), .val (.int zT), .val (.long (own_h g F (min 0 n))), .second, .unset] []) := by
  obtain ⟨hx, hZ, hw, hby, hml, hown, hnm, hret, hlk⟩ := id C
  refine wp (fun _ => XS.iload X0.here hx rfl (hb hby at_92) rfl) ?_
  show WP p e below _ T0 (mkF m 94 #[.val (.long xx), .second, .val (.int ss), .val (.ref a), .val (.int zF), .val (.int zL), .val (.int zT), .val (.long (own_h g F (min 0 n))), .second, .unset] [(.int zL)])
  have h3 : (0 : Int32).toInt = ((0 : Nat) : Int) := rfl
  by_cases hc : (0 : Int32) < zL
  · have hk : 0 < n := by rw [Int32.lt_iff_toInt_lt] at hc; omega
    have m1 : min 0 n = 0 := by omega
    have m2 : min 1 n = 1 := by omega
    rw [m2] at k
    rw [m1]
    show WP p e below _ T0 (mkF m 94 #[.val (.long xx), .second, .val (.int ss), .val (.ref a), .val (.int zF), .val (.int zL), .val (.int zT), .val (.long (own_h g F 0)), .second, .unset] [(.int zL)])
    refine wp (fun _ => XS.ifNo X0.here hx rfl (hb hby at_94) rfl (XT.i0_le_f hc)) ?_
    show WP p e below _ T0 (mkF m 97 #[.val (.long xx), .second, .val (.int ss), .val (.ref a), .val (.int zF), .val (.int zL), .val (.int zT), .val (.long (own_h g F 0)), .second, .unset] [])
    refine wp (fun _ => XS.lload X0.here hx rfl (hb hby at_97) rfl) ?_
    show WP p e below _ T0 (mkF m 99 #[.val (.long xx), .second, .val (.int ss), .val (.ref a), .val (.int zF), .val (.int zL), .val (.int zT), .val (.long (own_h g F 0)), .second, .unset] [(.long (own_h g F 0))])
    refine wp (fun _ => XS.aloadN X0.here hx rfl (hb hby at_99) rfl rfl) ?_
    show WP p e below _ T0 (mkF m 100 #[.val (.long xx), .second, .val (.int ss), .val (.ref a), .val (.int zF), .val (.int zL), .val (.int zT), .val (.long (own_h g F 0)), .second, .unset] [(.ref a), (.long (own_h g F 0))])
    refine wp (fun _ => XS.iload X0.here hx rfl (hb hby at_100) rfl) ?_
    show WP p e below _ T0 (mkF m 102 #[.val (.long xx), .second, .val (.int ss), .val (.ref a), .val (.int zF), .val (.int zL), .val (.int zT), .val (.long (own_h g F 0)), .second, .unset] [(.int zF), (.ref a), (.long (own_h g F 0))])
    refine wp_baload C X0 e0 A hF (by omega) rfl at_102 ?_
    show WP p e below _ T0 (mkF m 103 #[.val (.long xx), .second, .val (.int ss), .val (.ref a), .val (.int zF), .val (.int zL), .val (.int zT), .val (.long (own_h g F 0)), .second, .unset] [(.int (g F)), (.long (own_h g F 0))])
    refine wp_staticP C X0 e0 (argsL := [(.long (own_h g F 0)), (.int (g F))]) (rest := []) (rm_step l Z a0 hw [] (own_h g F 0) (g F) h0) (hw _ (List.mem_of_getElem? (i := 15) rfl)) (hw _ (List.mem_of_getElem? (i := 16) rfl)) (hw _ (List.mem_of_getElem? (i := 6) rfl)) (hw _ (List.mem_of_getElem? (i := 17) rfl)) (by decide) rfl (lenOf pd_step rfl) at_103 rfl rfl rfl (by decide) (Nat.le_of_ble_eq_true rfl) (by decide) (by decide) ?_
    intro T1 X1 e1
    show WP p e below _ T1 (mkF m 106 #[.val (.long xx), .second, .val (.int ss), .val (.ref a), .val (.int zF), .val (.int zL), .val (.int zT), .val (.long (own_h g F 0)), .second, .unset] [(.long (own_h g F 1))])
    refine wp (fun _ => XS.lstore X1.here hx rfl (hb hby at_106) rfl (l' := #[.val (.long xx), .second, .val (.int ss), .val (.ref a), .val (.int zF), .val (.int zL), .val (.int zT), .val (.long (own_h g F 1)), .second, .unset]) rfl) ?_
    show WP p e below _ T1 (mkF m 108 #[.val (.long xx), .second, .val (.int ss), .val (.ref a), .val (.int zF), .val (.int zL), .val (.int zT), .val (.long (own_h g F 1)), .second, .unset] [])
    exact k _ X1 e1
  · have hk : n ≤ 0 := by rw [Int32.lt_iff_toInt_lt] at hc; omega
    have m1 : min 0 n = n := by omega
    have m2 : min 1 n = n := by omega
    rw [m2] at k
    rw [m1]
    show WP p e below _ T0 (mkF m 94 #[.val (.long xx), .second, .val (.int ss), .val (.ref a), .val (.int zF), .val (.int zL), .val (.int zT), .val (.long (own_h g F n)), .second, .unset] [(.int zL)])
    refine wp (fun _ => XS.ifYes X0.here hx rfl (pc0 := 94) (pc' := 108) rfl (hb hby at_94) rfl (XT.i0_le_t hc) (by decide) (by decide)) ?_
    show WP p e below _ T0 (mkF m 108 #[.val (.long xx), .second, .val (.int ss), .val (.ref a), .val (.int zF), .val (.int zL), .val (.int zT), .val (.long (own_h g F n)), .second, .unset] [])
    exact k _ X0 e0
set_option maxRecDepth 65536 in
set_option maxHeartbeats 4000000 in
theorem seg1 (xx : Int64) (ss : Int32) (a : Addr) (zF zL zT : Int32) (F n : Nat) (g : Nat → Int32) (hF : zF.toInt = (F : Int)) (hL : zL.toInt = (n : Int)) (hT : zT.toInt = ((F + n : Nat) : Int)) (hn : F + n ≤ 6) (C : Cx p s m meth c Z a0 code 10 "com/example/joinsmith/joinsmith/engine/stats/KeySetHashPinLaw" "law" (some .boolean)) (X0 : Stand p l e room_1 s m args below meth c T0 locs 1 6) (e0 : T0.heap = h0) (A : Af Z h0 a .byte 6 (fun j => .int (g j)))
    (k : ∀ T', Stand p l e room_1 s m args below meth c T' locs 1 6 → T'.heap = h0 → WP p e below Q T' (mkF m 127 #[.val (.long xx), .second, .val (.int ss), .val (.ref a), .val (.int zF), .val (.int zL), .val (.int zT), .val (.long (own_h g F (min 2 n))), .second, .unset] [])) : WP p e below Q T0 (mkF m 108 #[.val (.long xx), .second, .val (.int ss), .val (.ref a), .val (.int zF), .val (.int zL), .val (.int zT), .val (.long (own_h g F (min 1 n))), .second, .unset] []) := by
  obtain ⟨hx, hZ, hw, hby, hml, hown, hnm, hret, hlk⟩ := id C
  refine wp (fun _ => XS.iload X0.here hx rfl (hb hby at_108) rfl) ?_
  show WP p e below _ T0 (mkF m 110 #[.val (.long xx), .second, .val (.int ss), .val (.ref a), .val (.int zF), .val (.int zL), .val (.int zT), .val (.long (own_h g F (min 1 n))), .second, .unset] [(.int zL)])
  refine wp (fun _ => XS.iconst X0.here hx rfl (hb hby at_110)) ?_
  show WP p e below _ T0 (mkF m 111 #[.val (.long xx), .second, .val (.int ss), .val (.ref a), .val (.int zF), .val (.int zL), .val (.int zT), .val (.long (own_h g F (min 1 n))), .second, .unset] [(.int (1 : Int32)), (.int zL)])
  have h3 : (1 : Int32).toInt = ((1 : Nat) : Int) := rfl
  by_cases hc : (1 : Int32) < zL
  · have hk : 1 < n := by rw [Int32.lt_iff_toInt_lt] at hc; omega
    have m1 : min 1 n = 1 := by omega
    have m2 : min 2 n = 2 := by omega
    rw [m2] at k
    rw [m1]
    show WP p e below _ T0 (mkF m 111 #[.val (.long xx), .second, .val (.int ss), .val (.ref a), .val (.int zF), .val (.int zL), .val (.int zT), .val (.long (own_h g F 1)), .second, .unset] [(.int (1 : Int32)), (.int zL)])
    refine wp (fun _ => XS.icmpNo X0.here hx rfl (hb hby at_111) rfl (XT.ii_le_f hc)) ?_
    show WP p e below _ T0 (mkF m 114 #[.val (.long xx), .second, .val (.int ss), .val (.ref a), .val (.int zF), .val (.int zL), .val (.int zT), .val (.long (own_h g F 1)), .second, .unset] [])
    refine wp (fun _ => XS.lload X0.here hx rfl (hb hby at_114) rfl) ?_
    show WP p e below _ T0 (mkF m 116 #[.val (.long xx), .second, .val (.int ss), .val (.ref a), .val (.int zF), .val (.int zL), .val (.int zT), .val (.long (own_h g F 1)), .second, .unset] [(.long (own_h g F 1))])
    refine wp (fun _ => XS.aloadN X0.here hx rfl (hb hby at_116) rfl rfl) ?_
    show WP p e below _ T0 (mkF m 117 #[.val (.long xx), .second, .val (.int ss), .val (.ref a), .val (.int zF), .val (.int zL), .val (.int zT), .val (.long (own_h g F 1)), .second, .unset] [(.ref a), (.long (own_h g F 1))])
    refine wp (fun _ => XS.iload X0.here hx rfl (hb hby at_117) rfl) ?_
    show WP p e below _ T0 (mkF m 119 #[.val (.long xx), .second, .val (.int ss), .val (.ref a), .val (.int zF), .val (.int zL), .val (.int zT), .val (.long (own_h g F 1)), .second, .unset] [(.int zF), (.ref a), (.long (own_h g F 1))])
    refine wp (fun _ => XS.iconst X0.here hx rfl (hb hby at_119)) ?_
    show WP p e below _ T0 (mkF m 120 #[.val (.long xx), .second, .val (.int ss), .val (.ref a), .val (.int zF), .val (.int zL), .val (.int zT), .val (.long (own_h g F 1)), .second, .unset] [(.int (1 : Int32)), (.int zF), (.ref a), (.long (own_h g F 1))])
    refine wp (fun _ => XS.iadd X0.here hx rfl (hb hby at_120) rfl) ?_
    show WP p e below _ T0 (mkF m 121 #[.val (.long xx), .second, .val (.int ss), .val (.ref a), .val (.int zF), .val (.int zL), .val (.int zT), .val (.long (own_h g F 1)), .second, .unset] [(.int (zF + (1 : Int32))), (.ref a), (.long (own_h g F 1))])
    refine wp_baload C X0 e0 A (own_addk hF h3 (by omega) (by omega)) (by omega) rfl at_121 ?_
    show WP p e below _ T0 (mkF m 122 #[.val (.long xx), .second, .val (.int ss), .val (.ref a), .val (.int zF), .val (.int zL), .val (.int zT), .val (.long (own_h g F 1)), .second, .unset] [(.int (g (F + 1))), (.long (own_h g F 1))])
    refine wp_staticP C X0 e0 (argsL := [(.long (own_h g F 1)), (.int (g (F + 1)))]) (rest := []) (rm_step l Z a0 hw [] (own_h g F 1) (g (F + 1)) h0) (hw _ (List.mem_of_getElem? (i := 15) rfl)) (hw _ (List.mem_of_getElem? (i := 16) rfl)) (hw _ (List.mem_of_getElem? (i := 6) rfl)) (hw _ (List.mem_of_getElem? (i := 17) rfl)) (by decide) rfl (lenOf pd_step rfl) at_122 rfl rfl rfl (by decide) (Nat.le_of_ble_eq_true rfl) (by decide) (by decide) ?_
    intro T1 X1 e1
    show WP p e below _ T1 (mkF m 125 #[.val (.long xx), .second, .val (.int ss), .val (.ref a), .val (.int zF), .val (.int zL), .val (.int zT), .val (.long (own_h g F 1)), .second, .unset] [(.long (own_h g F 2))])
    refine wp (fun _ => XS.lstore X1.here hx rfl (hb hby at_125) rfl (l' := #[.val (.long xx), .second, .val (.int ss), .val (.ref a), .val (.int zF), .val (.int zL), .val (.int zT), .val (.long (own_h g F 2)), .second, .unset]) rfl) ?_
    show WP p e below _ T1 (mkF m 127 #[.val (.long xx), .second, .val (.int ss), .val (.ref a), .val (.int zF), .val (.int zL), .val (.int zT), .val (.long (own_h g F 2)), .second, .unset] [])
    exact k _ X1 e1
  · have hk : n ≤ 1 := by rw [Int32.lt_iff_toInt_lt] at hc; omega
    have m1 : min 1 n = n := by omega
    have m2 : min 2 n = n := by omega
    rw [m2] at k
    rw [m1]
    show WP p e below _ T0 (mkF m 111 #[.val (.long xx), .second, .val (.int ss), .val (.ref a), .val (.int zF), .val (.int zL), .val (.int zT), .val (.long (own_h g F n)), .second, .unset] [(.int (1 : Int32)), (.int zL)])
    refine wp (fun _ => XS.icmpYes X0.here hx rfl (pc0 := 111) (pc' := 127) rfl (hb hby at_111) rfl (XT.ii_le_t hc) (by decide) (by decide)) ?_
    show WP p e below _ T0 (mkF m 127 #[.val (.long xx), .second, .val (.int ss), .val (.ref a), .val (.int zF), .val (.int zL), .val (.int zT), .val (.long (own_h g F n)), .second, .unset] [])
    exact k _ X0 e0
set_option maxRecDepth 65536 in
set_option maxHeartbeats 4000000 in
theorem seg2 (xx : Int64) (ss : Int32) (a : Addr) (zF zL zT : Int32) (F n : Nat) (g : Nat → Int32) (hF : zF.toInt = (F : Int)) (hL : zL.toInt = (n : Int)) (hT : zT.toInt = ((F + n : Nat) : Int)) (hn : F + n ≤ 6) (C : Cx p s m meth c Z a0 code 10 "com/example/joinsmith/joinsmith/engine/stats/KeySetHashPinLaw" "law" (some .boolean)) (X0 : Stand p l e room_1 s m args below meth c T0 locs 1 6) (e0 : T0.heap = h0) (A : Af Z h0 a .byte 6 (fun j => .int (g j)))
    (k : ∀ T', Stand p l e room_1 s m args below meth c T' locs 1 6 → T'.heap = h0 → WP p e below Q T' (mkF m 146 #[.val (.long xx), .second, .val (.int ss), .val (.ref a), .val (.int zF), .val (.int zL), .val (.int zT), .val (.long (own_h g F (min 3 n))), .second, .unset] [])) : WP p e below Q T0 (mkF m 127 #[.val (.long xx), .second, .val (.int ss), .val (.ref a), .val (.int zF), .val (.int zL), .val (.int zT), .val (.long (own_h g F (min 2 n))), .second, .unset] []) := by
  obtain ⟨hx, hZ, hw, hby, hml, hown, hnm, hret, hlk⟩ := id C
  refine wp (fun _ => XS.iload X0.here hx rfl (hb hby at_127) rfl) ?_
  show WP p e below _ T0 (mkF m 129 #[.val (.long xx), .second, .val (.int ss), .val (.ref a), .val (.int zF), .val (.int zL), .val (.int zT), .val (.long (own_h g F (min 2 n))), .second, .unset] [(.int zL)])
  refine wp (fun _ => XS.iconst X0.here hx rfl (hb hby at_129)) ?_
  show WP p e below _ T0 (mkF m 130 #[.val (.long xx), .second, .val (.int ss), .val (.ref a), .val (.int zF), .val (.int zL), .val (.int zT), .val (.long (own_h g F (min 2 n))), .second, .unset] [(.int (2 : Int32)), (.int zL)])
  have h3 : (2 : Int32).toInt = ((2 : Nat) : Int) := rfl
  by_cases hc : (2 : Int32) < zL
  · have hk : 2 < n := by rw [Int32.lt_iff_toInt_lt] at hc; omega
    have m1 : min 2 n = 2 := by omega
    have m2 : min 3 n = 3 := by omega
    rw [m2] at k
    rw [m1]
    show WP p e below _ T0 (mkF m 130 #[.val (.long xx), .second, .val (.int ss), .val (.ref a), .val (.int zF), .val (.int zL), .val (.int zT), .val (.long (own_h g F 2)), .second, .unset] [(.int (2 : Int32)), (.int zL)])
    refine wp (fun _ => XS.icmpNo X0.here hx rfl (hb hby at_130) rfl (XT.ii_le_f hc)) ?_
    show WP p e below _ T0 (mkF m 133 #[.val (.long xx), .second, .val (.int ss), .val (.ref a), .val (.int zF), .val (.int zL), .val (.int zT), .val (.long (own_h g F 2)), .second, .unset] [])
    refine wp (fun _ => XS.lload X0.here hx rfl (hb hby at_133) rfl) ?_
    show WP p e below _ T0 (mkF m 135 #[.val (.long xx), .second, .val (.int ss), .val (.ref a), .val (.int zF), .val (.int zL), .val (.int zT), .val (.long (own_h g F 2)), .second, .unset] [(.long (own_h g F 2))])
    refine wp (fun _ => XS.aloadN X0.here hx rfl (hb hby at_135) rfl rfl) ?_
    show WP p e below _ T0 (mkF m 136 #[.val (.long xx), .second, .val (.int ss), .val (.ref a), .val (.int zF), .val (.int zL), .val (.int zT), .val (.long (own_h g F 2)), .second, .unset] [(.ref a), (.long (own_h g F 2))])
    refine wp (fun _ => XS.iload X0.here hx rfl (hb hby at_136) rfl) ?_
    show WP p e below _ T0 (mkF m 138 #[.val (.long xx), .second, .val (.int ss), .val (.ref a), .val (.int zF), .val (.int zL), .val (.int zT), .val (.long (own_h g F 2)), .second, .unset] [(.int zF), (.ref a), (.long (own_h g F 2))])
    refine wp (fun _ => XS.iconst X0.here hx rfl (hb hby at_138)) ?_
    show WP p e below _ T0 (mkF m 139 #[.val (.long xx), .second, .val (.int ss), .val (.ref a), .val (.int zF), .val (.int zL), .val (.int zT), .val (.long (own_h g F 2)), .second, .unset] [(.int (2 : Int32)), (.int zF), (.ref a), (.long (own_h g F 2))])
    refine wp (fun _ => XS.iadd X0.here hx rfl (hb hby at_139) rfl) ?_
    show WP p e below _ T0 (mkF m 140 #[.val (.long xx), .second, .val (.int ss), .val (.ref a), .val (.int zF), .val (.int zL), .val (.int zT), .val (.long (own_h g F 2)), .second, .unset] [(.int (zF + (2 : Int32))), (.ref a), (.long (own_h g F 2))])
    refine wp_baload C X0 e0 A (own_addk hF h3 (by omega) (by omega)) (by omega) rfl at_140 ?_
    show WP p e below _ T0 (mkF m 141 #[.val (.long xx), .second, .val (.int ss), .val (.ref a), .val (.int zF), .val (.int zL), .val (.int zT), .val (.long (own_h g F 2)), .second, .unset] [(.int (g (F + 2))), (.long (own_h g F 2))])
    refine wp_staticP C X0 e0 (argsL := [(.long (own_h g F 2)), (.int (g (F + 2)))]) (rest := []) (rm_step l Z a0 hw [] (own_h g F 2) (g (F + 2)) h0) (hw _ (List.mem_of_getElem? (i := 15) rfl)) (hw _ (List.mem_of_getElem? (i := 16) rfl)) (hw _ (List.mem_of_getElem? (i := 6) rfl)) (hw _ (List.mem_of_getElem? (i := 17) rfl)) (by decide) rfl (lenOf pd_step rfl) at_141 rfl rfl rfl (by decide) (Nat.le_of_ble_eq_true rfl) (by decide) (by decide) ?_
    intro T1 X1 e1
    show WP p e below _ T1 (mkF m 144 #[.val (.long xx), .second, .val (.int ss), .val (.ref a), .val (.int zF), .val (.int zL), .val (.int zT), .val (.long (own_h g F 2)), .second, .unset] [(.long (own_h g F 3))])
    refine wp (fun _ => XS.lstore X1.here hx rfl (hb hby at_144) rfl (l' := #[.val (.long xx), .second, .val (.int ss), .val (.ref a), .val (.int zF), .val (.int zL), .val (.int zT), .val (.long (own_h g F 3)), .second, .unset]) rfl) ?_
    show WP p e below _ T1 (mkF m 146 #[.val (.long xx), .second, .val (.int ss), .val (.ref a), .val (.int zF), .val (.int zL), .val (.int zT), .val (.long (own_h g F 3)), .second, .unset] [])
    exact k _ X1 e1
  · have hk : n ≤ 2 := by rw [Int32.lt_iff_toInt_lt] at hc; omega
    have m1 : min 2 n = n := by omega
    have m2 : min 3 n = n := by omega
    rw [m2] at k
    rw [m1]
    show WP p e below _ T0 (mkF m 130 #[.val (.long xx), .second, .val (.int ss), .val (.ref a), .val (.int zF), .val (.int zL), .val (.int zT), .val (.long (own_h g F n)), .second, .unset] [(.int (2 : Int32)), (.int zL)])
    refine wp (fun _ => XS.icmpYes X0.here hx rfl (pc0 := 130) (pc' := 146) rfl (hb hby at_130) rfl (XT.ii_le_t hc) (by decide) (by decide)) ?_
    show WP p e below _ T0 (mkF m 146 #[.val (.long xx), .second, .val (.int ss), .val (.ref a), .val (.int zF), .val (.int zL), .val (.int zT), .val (.long (own_h g F n)), .second, .unset] [])
    exact k _ X0 e0
set_option maxRecDepth 65536 in
set_option maxHeartbeats 4000000 in
theorem seg3 (xx : Int64) (ss : Int32) (a : Addr) (zF zL zT : Int32) (F n : Nat) (g : Nat → Int32) (hF : zF.toInt = (F : Int)) (hL : zL.toInt = (n : Int)) (hT : zT.toInt = ((F + n : Nat) : Int)) (hn : F + n ≤ 6) (C : Cx p s m meth c Z a0 code 10 "com/example/joinsmith/joinsmith/engine/stats/KeySetHashPinLaw" "law" (some .boolean)) (X0 : Stand p l e room_1 s m args below meth c T0 locs 1 6) (e0 : T0.heap = h0) (A : Af Z h0 a .byte 6 (fun j => .int (g j)))
    (k : ∀ T', Stand p l e room_1 s m args below meth c T' locs 1 6 → T'.heap = h0 → WP p e below Q T' (mkF m 165 #[.val (.long xx), .second, .val (.int ss), .val (.ref a), .val (.int zF), .val (.int zL), .val (.int zT), .val (.long (own_h g F (min 4 n))), .second, .unset] [])) : WP p e below Q T0 (mkF m 146 #[.val (.long xx), .second, .val (.int ss), .val (.ref a), .val (.int zF), .val (.int zL), .val (.int zT), .val (.long (own_h g F (min 3 n))), .second, .unset] []) := by
  obtain ⟨hx, hZ, hw, hby, hml, hown, hnm, hret, hlk⟩ := id C
  refine wp (fun _ => XS.iload X0.here hx rfl (hb hby at_146) rfl) ?_
  show WP p e below _ T0 (mkF m 148 #[.val (.long xx), .second, .val (.int ss), .val (.ref a), .val (.int zF), .val (.int zL), .val (.int zT), .val (.long (own_h g F (min 3 n))), .second, .unset] [(.int zL)])
  refine wp (fun _ => XS.iconst X0.here hx rfl (hb hby at_148)) ?_
  show WP p e below _ T0 (mkF m 149 #[.val (.long xx), .second, .val (.int ss), .val (.ref a), .val (.int zF), .val (.int zL), .val (.int zT), .val (.long (own_h g F (min 3 n))), .second, .unset] [(.int (3 : Int32)), (.int zL)])
  have h3 : (3 : Int32).toInt = ((3 : Nat) : Int) := rfl
  by_cases hc : (3 : Int32) < zL
  · have hk : 3 < n := by rw [Int32.lt_iff_toInt_lt] at hc; omega
    have m1 : min 3 n = 3 := by omega
    have m2 : min 4 n = 4 := by omega
    rw [m2] at k
    rw [m1]
    show WP p e below _ T0 (mkF m 149 #[.val (.long xx), .second, .val (.int ss), .val (.ref a), .val (.int zF), .val (.int zL), .val (.int zT), .val (.long (own_h g F 3)), .second, .unset] [(.int (3 : Int32)), (.int zL)])
    refine wp (fun _ => XS.icmpNo X0.here hx rfl (hb hby at_149) rfl (XT.ii_le_f hc)) ?_
    show WP p e below _ T0 (mkF m 152 #[.val (.long xx), .second, .val (.int ss), .val (.ref a), .val (.int zF), .val (.int zL), .val (.int zT), .val (.long (own_h g F 3)), .second, .unset] [])
    refine wp (fun _ => XS.lload X0.here hx rfl (hb hby at_152) rfl) ?_
    show WP p e below _ T0 (mkF m 154 #[.val (.long xx), .second, .val (.int ss), .val (.ref a), .val (.int zF), .val (.int zL), .val (.int zT), .val (.long (own_h g F 3)), .second, .unset] [(.long (own_h g F 3))])
    refine wp (fun _ => XS.aloadN X0.here hx rfl (hb hby at_154) rfl rfl) ?_
    show WP p e below _ T0 (mkF m 155 #[.val (.long xx), .second, .val (.int ss), .val (.ref a), .val (.int zF), .val (.int zL), .val (.int zT), .val (.long (own_h g F 3)), .second, .unset] [(.ref a), (.long (own_h g F 3))])
    refine wp (fun _ => XS.iload X0.here hx rfl (hb hby at_155) rfl) ?_
    show WP p e below _ T0 (mkF m 157 #[.val (.long xx), .second, .val (.int ss), .val (.ref a), .val (.int zF), .val (.int zL), .val (.int zT), .val (.long (own_h g F 3)), .second, .unset] [(.int zF), (.ref a), (.long (own_h g F 3))])
    refine wp (fun _ => XS.iconst X0.here hx rfl (hb hby at_157)) ?_
    show WP p e below _ T0 (mkF m 158 #[.val (.long xx), .second, .val (.int ss), .val (.ref a), .val (.int zF), .val (.int zL), .val (.int zT), .val (.long (own_h g F 3)), .second, .unset] [(.int (3 : Int32)), (.int zF), (.ref a), (.long (own_h g F 3))])
    refine wp (fun _ => XS.iadd X0.here hx rfl (hb hby at_158) rfl) ?_
    show WP p e below _ T0 (mkF m 159 #[.val (.long xx), .second, .val (.int ss), .val (.ref a), .val (.int zF), .val (.int zL), .val (.int zT), .val (.long (own_h g F 3)), .second, .unset] [(.int (zF + (3 : Int32))), (.ref a), (.long (own_h g F 3))])
    refine wp_baload C X0 e0 A (own_addk hF h3 (by omega) (by omega)) (by omega) rfl at_159 ?_
    show WP p e below _ T0 (mkF m 160 #[.val (.long xx), .second, .val (.int ss), .val (.ref a), .val (.int zF), .val (.int zL), .val (.int zT), .val (.long (own_h g F 3)), .second, .unset] [(.int (g (F + 3))), (.long (own_h g F 3))])
    refine wp_staticP C X0 e0 (argsL := [(.long (own_h g F 3)), (.int (g (F + 3)))]) (rest := []) (rm_step l Z a0 hw [] (own_h g F 3) (g (F + 3)) h0) (hw _ (List.mem_of_getElem? (i := 15) rfl)) (hw _ (List.mem_of_getElem? (i := 16) rfl)) (hw _ (List.mem_of_getElem? (i := 6) rfl)) (hw _ (List.mem_of_getElem? (i := 17) rfl)) (by decide) rfl (lenOf pd_step rfl) at_160 rfl rfl rfl (by decide) (Nat.le_of_ble_eq_true rfl) (by decide) (by decide) ?_
    intro T1 X1 e1
    show WP p e below _ T1 (mkF m 163 #[.val (.long xx), .second, .val (.int ss), .val (.ref a), .val (.int zF), .val (.int zL), .val (.int zT), .val (.long (own_h g F 3)), .second, .unset] [(.long (own_h g F 4))])
    refine wp (fun _ => XS.lstore X1.here hx rfl (hb hby at_163) rfl (l' := #[.val (.long xx), .second, .val (.int ss), .val (.ref a), .val (.int zF), .val (.int zL), .val (.int zT), .val (.long (own_h g F 4)), .second, .unset]) rfl) ?_
    show WP p e below _ T1 (mkF m 165 #[.val (.long xx), .second, .val (.int ss), .val (.ref a), .val (.int zF), .val (.int zL), .val (.int zT), .val (.long (own_h g F 4)), .second, .unset] [])
    exact k _ X1 e1
  · have hk : n ≤ 3 := by rw [Int32.lt_iff_toInt_lt] at hc; omega
    have m1 : min 3 n = n := by omega
    have m2 : min 4 n = n := by omega
    rw [m2] at k
    rw [m1]
    show WP p e below _ T0 (mkF m 149 #[.val (.long xx), .second, .val (.int ss), .val (.ref a), .val (.int zF), .val (.int zL), .val (.int zT), .val (.long (own_h g F n)), .second, .unset] [(.int (3 : Int32)), (.int zL)])
    refine wp (fun _ => XS.icmpYes X0.here hx rfl (pc0 := 149) (pc' := 165) rfl (hb hby at_149) rfl (XT.ii_le_t hc) (by decide) (by decide)) ?_
    show WP p e below _ T0 (mkF m 165 #[.val (.long xx), .second, .val (.int ss), .val (.ref a), .val (.int zF), .val (.int zL), .val (.int zT), .val (.long (own_h g F n)), .second, .unset] [])
    exact k _ X0 e0
set_option maxRecDepth 65536 in
set_option maxHeartbeats 4000000 in
theorem seg4 (xx : Int64) (ss : Int32) (a : Addr) (zF zL zT : Int32) (F n : Nat) (g : Nat → Int32) (hF : zF.toInt = (F : Int)) (hL : zL.toInt = (n : Int)) (hT : zT.toInt = ((F + n : Nat) : Int)) (hn : F + n ≤ 6) (C : Cx p s m meth c Z a0 code 10 "com/example/joinsmith/joinsmith/engine/stats/KeySetHashPinLaw" "law" (some .boolean)) (X0 : Stand p l e room_1 s m args below meth c T0 locs 1 6) (e0 : T0.heap = h0) (A : Af Z h0 a .byte 6 (fun j => .int (g j)))
    (k : ∀ T', Stand p l e room_1 s m args below meth c T' locs 1 6 → T'.heap = h0 → WP p e below Q T' (mkF m 184 #[.val (.long xx), .second, .val (.int ss), .val (.ref a), .val (.int zF), .val (.int zL), .val (.int zT), .val (.long (own_h g F (min 5 n))), .second, .unset] [])) : WP p e below Q T0 (mkF m 165 #[.val (.long xx), .second, .val (.int ss), .val (.ref a), .val (.int zF), .val (.int zL), .val (.int zT), .val (.long (own_h g F (min 4 n))), .second, .unset] []) := by
  obtain ⟨hx, hZ, hw, hby, hml, hown, hnm, hret, hlk⟩ := id C
  refine wp (fun _ => XS.iload X0.here hx rfl (hb hby at_165) rfl) ?_
  show WP p e below _ T0 (mkF m 167 #[.val (.long xx), .second, .val (.int ss), .val (.ref a), .val (.int zF), .val (.int zL), .val (.int zT), .val (.long (own_h g F (min 4 n))), .second, .unset] [(.int zL)])
  refine wp (fun _ => XS.iconst X0.here hx rfl (hb hby at_167)) ?_
  show WP p e below _ T0 (mkF m 168 #[.val (.long xx), .second, .val (.int ss), .val (.ref a), .val (.int zF), .val (.int zL), .val (.int zT), .val (.long (own_h g F (min 4 n))), .second, .unset] [(.int (4 : Int32)), (.int zL)])
  have h3 : (4 : Int32).toInt = ((4 : Nat) : Int) := rfl
  by_cases hc : (4 : Int32) < zL
  · have hk : 4 < n := by rw [Int32.lt_iff_toInt_lt] at hc; omega
    have m1 : min 4 n = 4 := by omega
    have m2 : min 5 n = 5 := by omega
    rw [m2] at k
    rw [m1]
    show WP p e below _ T0 (mkF m 168 #[.val (.long xx), .second, .val (.int ss), .val (.ref a), .val (.int zF), .val (.int zL), .val (.int zT), .val (.long (own_h g F 4)), .second, .unset] [(.int (4 : Int32)), (.int zL)])
    refine wp (fun _ => XS.icmpNo X0.here hx rfl (hb hby at_168) rfl (XT.ii_le_f hc)) ?_
    show WP p e below _ T0 (mkF m 171 #[.val (.long xx), .second, .val (.int ss), .val (.ref a), .val (.int zF), .val (.int zL), .val (.int zT), .val (.long (own_h g F 4)), .second, .unset] [])
    refine wp (fun _ => XS.lload X0.here hx rfl (hb hby at_171) rfl) ?_
    show WP p e below _ T0 (mkF m 173 #[.val (.long xx), .second, .val (.int ss), .val (.ref a), .val (.int zF), .val (.int zL), .val (.int zT), .val (.long (own_h g F 4)), .second, .unset] [(.long (own_h g F 4))])
    refine wp (fun _ => XS.aloadN X0.here hx rfl (hb hby at_173) rfl rfl) ?_
    show WP p e below _ T0 (mkF m 174 #[.val (.long xx), .second, .val (.int ss), .val (.ref a), .val (.int zF), .val (.int zL), .val (.int zT), .val (.long (own_h g F 4)), .second, .unset] [(.ref a), (.long (own_h g F 4))])
    refine wp (fun _ => XS.iload X0.here hx rfl (hb hby at_174) rfl) ?_
    show WP p e below _ T0 (mkF m 176 #[.val (.long xx), .second, .val (.int ss), .val (.ref a), .val (.int zF), .val (.int zL), .val (.int zT), .val (.long (own_h g F 4)), .second, .unset] [(.int zF), (.ref a), (.long (own_h g F 4))])
    refine wp (fun _ => XS.iconst X0.here hx rfl (hb hby at_176)) ?_
    show WP p e below _ T0 (mkF m 177 #[.val (.long xx), .second, .val (.int ss), .val (.ref a), .val (.int zF), .val (.int zL), .val (.int zT), .val (.long (own_h g F 4)), .second, .unset] [(.int (4 : Int32)), (.int zF), (.ref a), (.long (own_h g F 4))])
    refine wp (fun _ => XS.iadd X0.here hx rfl (hb hby at_177) rfl) ?_
    show WP p e below _ T0 (mkF m 178 #[.val (.long xx), .second, .val (.int ss), .val (.ref a), .val (.int zF), .val (.int zL), .val (.int zT), .val (.long (own_h g F 4)), .second, .unset] [(.int (zF + (4 : Int32))), (.ref a), (.long (own_h g F 4))])
    refine wp_baload C X0 e0 A (own_addk hF h3 (by omega) (by omega)) (by omega) rfl at_178 ?_
    show WP p e below _ T0 (mkF m 179 #[.val (.long xx), .second, .val (.int ss), .val (.ref a), .val (.int zF), .val (.int zL), .val (.int zT), .val (.long (own_h g F 4)), .second, .unset] [(.int (g (F + 4))), (.long (own_h g F 4))])
    refine wp_staticP C X0 e0 (argsL := [(.long (own_h g F 4)), (.int (g (F + 4)))]) (rest := []) (rm_step l Z a0 hw [] (own_h g F 4) (g (F + 4)) h0) (hw _ (List.mem_of_getElem? (i := 15) rfl)) (hw _ (List.mem_of_getElem? (i := 16) rfl)) (hw _ (List.mem_of_getElem? (i := 6) rfl)) (hw _ (List.mem_of_getElem? (i := 17) rfl)) (by decide) rfl (lenOf pd_step rfl) at_179 rfl rfl rfl (by decide) (Nat.le_of_ble_eq_true rfl) (by decide) (by decide) ?_
    intro T1 X1 e1
    show WP p e below _ T1 (mkF m 182 #[.val (.long xx), .second, .val (.int ss), .val (.ref a), .val (.int zF), .val (.int zL), .val (.int zT), .val (.long (own_h g F 4)), .second, .unset] [(.long (own_h g F 5))])
    refine wp (fun _ => XS.lstore X1.here hx rfl (hb hby at_182) rfl (l' := #[.val (.long xx), .second, .val (.int ss), .val (.ref a), .val (.int zF), .val (.int zL), .val (.int zT), .val (.long (own_h g F 5)), .second, .unset]) rfl) ?_
    show WP p e below _ T1 (mkF m 184 #[.val (.long xx), .second, .val (.int ss), .val (.ref a), .val (.int zF), .val (.int zL), .val (.int zT), .val (.long (own_h g F 5)), .second, .unset] [])
    exact k _ X1 e1
  · have hk : n ≤ 4 := by rw [Int32.lt_iff_toInt_lt] at hc; omega
    have m1 : min 4 n = n := by omega
    have m2 : min 5 n = n := by omega
    rw [m2] at k
    rw [m1]
    show WP p e below _ T0 (mkF m 168 #[.val (.long xx), .second, .val (.int ss), .val (.ref a), .val (.int zF), .val (.int zL), .val (.int zT), .val (.long (own_h g F n)), .second, .unset] [(.int (4 : Int32)), (.int zL)])
    refine wp (fun _ => XS.icmpYes X0.here hx rfl (pc0 := 168) (pc' := 184) rfl (hb hby at_168) rfl (XT.ii_le_t hc) (by decide) (by decide)) ?_
    show WP p e below _ T0 (mkF m 184 #[.val (.long xx), .second, .val (.int ss), .val (.ref a), .val (.int zF), .val (.int zL), .val (.int zT), .val (.long (own_h g F n)), .second, .unset] [])
    exact k _ X0 e0
set_option maxRecDepth 65536 in
set_option maxHeartbeats 4000000 in
theorem seg5 (xx : Int64) (ss : Int32) (a : Addr) (zF zL zT : Int32) (F n : Nat) (g : Nat → Int32) (hF : zF.toInt = (F : Int)) (hL : zL.toInt = (n : Int)) (hT : zT.toInt = ((F + n : Nat) : Int)) (hn : F + n ≤ 6) (C : Cx p s m meth c Z a0 code 10 "com/example/joinsmith/joinsmith/engine/stats/KeySetHashPinLaw" "law" (some .boolean)) (X0 : Stand p l e room_1 s m args below meth c T0 locs 1 6) (e0 : T0.heap = h0) (A : Af Z h0 a .byte 6 (fun j => .int (g j)))
    (k : ∀ T', Stand p l e room_1 s m args below meth c T' locs 1 6 → T'.heap = h0 → WP p e below Q T' (mkF m 203 #[.val (.long xx), .second, .val (.int ss), .val (.ref a), .val (.int zF), .val (.int zL), .val (.int zT), .val (.long (own_h g F (min 6 n))), .second, .unset] [])) : WP p e below Q T0 (mkF m 184 #[.val (.long xx), .second, .val (.int ss), .val (.ref a), .val (.int zF), .val (.int zL), .val (.int zT), .val (.long (own_h g F (min 5 n))), .second, .unset] []) := by
  obtain ⟨hx, hZ, hw, hby, hml, hown, hnm, hret, hlk⟩ := id C
  refine wp (fun _ => XS.iload X0.here hx rfl (hb hby at_184) rfl) ?_
  show WP p e below _ T0 (mkF m 186 #[.val (.long xx), .second, .val (.int ss), .val (.ref a), .val (.int zF), .val (.int zL), .val (.int zT), .val (.long (own_h g F (min 5 n))), .second, .unset] [(.int zL)])
  refine wp (fun _ => XS.iconst X0.here hx rfl (hb hby at_186)) ?_
  show WP p e below _ T0 (mkF m 187 #[.val (.long xx), .second, .val (.int ss), .val (.ref a), .val (.int zF), .val (.int zL), .val (.int zT), .val (.long (own_h g F (min 5 n))), .second, .unset] [(.int (5 : Int32)), (.int zL)])
  have h3 : (5 : Int32).toInt = ((5 : Nat) : Int) := rfl
  by_cases hc : (5 : Int32) < zL
  · have hk : 5 < n := by rw [Int32.lt_iff_toInt_lt] at hc; omega
    have m1 : min 5 n = 5 := by omega
    have m2 : min 6 n = 6 := by omega
    rw [m2] at k
    rw [m1]
    show WP p e below _ T0 (mkF m 187 #[.val (.long xx), .second, .val (.int ss), .val (.ref a), .val (.int zF), .val (.int zL), .val (.int zT), .val (.long (own_h g F 5)), .second, .unset] [(.int (5 : Int32)), (.int zL)])
    refine wp (fun _ => XS.icmpNo X0.here hx rfl (hb hby at_187) rfl (XT.ii_le_f hc)) ?_
    show WP p e below _ T0 (mkF m 190 #[.val (.long xx), .second, .val (.int ss), .val (.ref a), .val (.int zF), .val (.int zL), .val (.int zT), .val (.long (own_h g F 5)), .second, .unset] [])
    refine wp (fun _ => XS.lload X0.here hx rfl (hb hby at_190) rfl) ?_
    show WP p e below _ T0 (mkF m 192 #[.val (.long xx), .second, .val (.int ss), .val (.ref a), .val (.int zF), .val (.int zL), .val (.int zT), .val (.long (own_h g F 5)), .second, .unset] [(.long (own_h g F 5))])
    refine wp (fun _ => XS.aloadN X0.here hx rfl (hb hby at_192) rfl rfl) ?_
    show WP p e below _ T0 (mkF m 193 #[.val (.long xx), .second, .val (.int ss), .val (.ref a), .val (.int zF), .val (.int zL), .val (.int zT), .val (.long (own_h g F 5)), .second, .unset] [(.ref a), (.long (own_h g F 5))])
    refine wp (fun _ => XS.iload X0.here hx rfl (hb hby at_193) rfl) ?_
    show WP p e below _ T0 (mkF m 195 #[.val (.long xx), .second, .val (.int ss), .val (.ref a), .val (.int zF), .val (.int zL), .val (.int zT), .val (.long (own_h g F 5)), .second, .unset] [(.int zF), (.ref a), (.long (own_h g F 5))])
    refine wp (fun _ => XS.iconst X0.here hx rfl (hb hby at_195)) ?_
    show WP p e below _ T0 (mkF m 196 #[.val (.long xx), .second, .val (.int ss), .val (.ref a), .val (.int zF), .val (.int zL), .val (.int zT), .val (.long (own_h g F 5)), .second, .unset] [(.int (5 : Int32)), (.int zF), (.ref a), (.long (own_h g F 5))])
    refine wp (fun _ => XS.iadd X0.here hx rfl (hb hby at_196) rfl) ?_
    show WP p e below _ T0 (mkF m 197 #[.val (.long xx), .second, .val (.int ss), .val (.ref a), .val (.int zF), .val (.int zL), .val (.int zT), .val (.long (own_h g F 5)), .second, .unset] [(.int (zF + (5 : Int32))), (.ref a), (.long (own_h g F 5))])
    refine wp_baload C X0 e0 A (own_addk hF h3 (by omega) (by omega)) (by omega) rfl at_197 ?_
    show WP p e below _ T0 (mkF m 198 #[.val (.long xx), .second, .val (.int ss), .val (.ref a), .val (.int zF), .val (.int zL), .val (.int zT), .val (.long (own_h g F 5)), .second, .unset] [(.int (g (F + 5))), (.long (own_h g F 5))])
    refine wp_staticP C X0 e0 (argsL := [(.long (own_h g F 5)), (.int (g (F + 5)))]) (rest := []) (rm_step l Z a0 hw [] (own_h g F 5) (g (F + 5)) h0) (hw _ (List.mem_of_getElem? (i := 15) rfl)) (hw _ (List.mem_of_getElem? (i := 16) rfl)) (hw _ (List.mem_of_getElem? (i := 6) rfl)) (hw _ (List.mem_of_getElem? (i := 17) rfl)) (by decide) rfl (lenOf pd_step rfl) at_198 rfl rfl rfl (by decide) (Nat.le_of_ble_eq_true rfl) (by decide) (by decide) ?_
    intro T1 X1 e1
    show WP p e below _ T1 (mkF m 201 #[.val (.long xx), .second, .val (.int ss), .val (.ref a), .val (.int zF), .val (.int zL), .val (.int zT), .val (.long (own_h g F 5)), .second, .unset] [(.long (own_h g F 6))])
    refine wp (fun _ => XS.lstore X1.here hx rfl (hb hby at_201) rfl (l' := #[.val (.long xx), .second, .val (.int ss), .val (.ref a), .val (.int zF), .val (.int zL), .val (.int zT), .val (.long (own_h g F 6)), .second, .unset]) rfl) ?_
    show WP p e below _ T1 (mkF m 203 #[.val (.long xx), .second, .val (.int ss), .val (.ref a), .val (.int zF), .val (.int zL), .val (.int zT), .val (.long (own_h g F 6)), .second, .unset] [])
    exact k _ X1 e1
  · have hk : n ≤ 5 := by rw [Int32.lt_iff_toInt_lt] at hc; omega
    have m1 : min 5 n = n := by omega
    have m2 : min 6 n = n := by omega
    rw [m2] at k
    rw [m1]
    show WP p e below _ T0 (mkF m 187 #[.val (.long xx), .second, .val (.int ss), .val (.ref a), .val (.int zF), .val (.int zL), .val (.int zT), .val (.long (own_h g F n)), .second, .unset] [(.int (5 : Int32)), (.int zL)])
    refine wp (fun _ => XS.icmpYes X0.here hx rfl (pc0 := 187) (pc' := 203) rfl (hb hby at_187) rfl (XT.ii_le_t hc) (by decide) (by decide)) ?_
    show WP p e below _ T0 (mkF m 203 #[.val (.long xx), .second, .val (.int ss), .val (.ref a), .val (.int zF), .val (.int zL), .val (.int zT), .val (.long (own_h g F n)), .second, .unset] [])
    exact k _ X0 e0
end Own2
theorem own_fromS (s : Int32) : ∃ F : Nat, F ≤ 6 ∧ ((s &&& (2147483647 : Int32)) % (7 : Int32)).toInt = (F : Int) := by
  have h1 := c_and s 2147483647 (by decide)
  have h2 := (c_iremV (s &&& 2147483647) 7).1 h1.1 (by decide)
  have h3 : (7 : Int32).toInt = 7 := rfl
  exact ⟨((s &&& (2147483647 : Int32)) % (7 : Int32)).toInt.toNat, by omega, by omega⟩
theorem own_seven {zF : Int32} {F : Nat} (hF : zF.toInt = (F : Int)) (h6 : F ≤ 6) : ((7 : Int32) - zF).toInt = ((7 - F : Nat) : Int) := by
  have h1 := c_isub 7 zF
  have h2 := rng32 ((7 : Int32) - zF)
  have h3 : (7 : Int32).toInt = 7 := rfl
  omega
theorem own_lenS (q zF : Int32) {F : Nat} (hF : zF.toInt = (F : Int)) (h6 : F ≤ 6) : ∃ n : Nat, F + n ≤ 6 ∧ ((q &&& (16777215 : Int32)) % ((7 : Int32) - zF)).toInt = (n : Int) := by
  have h0 := own_seven hF h6
  have h1 := c_and q 16777215 (by decide)
  have h2 := (c_iremV (q &&& 16777215) ((7 : Int32) - zF)).1 h1.1 (by omega)
  exact ⟨((q &&& (16777215 : Int32)) % ((7 : Int32) - zF)).toInt.toNat, by omega, by omega⟩

set_option maxRecDepth 65536 in
set_option maxHeartbeats 4000000 in
theorem rm_law (l : Launch) (Z : State) (a0 : Array Value) (hw : ∀ d ∈ tables_1, d.before a0 Z = true) (ws : List Jvm.Cond) (xx : Int64) (ss : Int32) (h0 : Heap) (n0 : Nat) (Z0 : n0 ≤ h0.size) :
    MetQ l Z x code maxLocals ret ws room_1 #[(.long xx), (.int ss)] h0 (fun v _ L => v = some (.int (1 : Int32)) ∧ Fr n0 L) := by
  refine metQ (a0 := a0) (plainFor_of_name pn_law) hw (ef_law xx ss) ?_
  intro p e s m below meth c T0 C X0 e0
  obtain ⟨hx, hZ, hw, hby, hml, hown, hnm, hret, hlk⟩ := id C
  show WP p e below _ T0 (mkF m 0 #[.val (.long xx), .second, .val (.int ss), .unset, .unset, .unset, .unset, .unset, .unset, .unset] [])
  refine wp (fun _ => XS.bipush X0.here hx rfl (hb hby at_0)) ?_
  show WP p e below _ T0 (mkF m 2 #[.val (.long xx), .second, .val (.int ss), .unset, .unset, .unset, .unset, .unset, .unset, .unset] [(.int (6 : Int32))])
  refine wp_newarray C X0 e0 (hw _ (List.mem_of_getElem? (i := 0) rfl)) at_2 (n := 6) rfl (cap := 6) (by decide) (by decide) (by decide) (by decide) ?_
  intro T1 h1 X1 e1 E1 A1
  obtain ⟨a, ga⟩ : ∃ z, z = h0.size := ⟨_, rfl⟩
  rw [← ga] at A1 ⊢
  have ga' : n0 ≤ a := by rw [ga]; exact Z0
  have N1 := Fr.nil n0
  show WP p e below _ T1 (mkF m 4 #[.val (.long xx), .second, .val (.int ss), .unset, .unset, .unset, .unset, .unset, .unset, .unset] [(.ref a)])
  refine wp (fun _ => XS.astoreN X1.here hx rfl (hb hby at_4) rfl rfl (l' := #[.val (.long xx), .second, .val (.int ss), .val (.ref a), .unset, .unset, .unset, .unset, .unset, .unset]) rfl) ?_
  show WP p e below _ T1 (mkF m 5 #[.val (.long xx), .second, .val (.int ss), .val (.ref a), .unset, .unset, .unset, .unset, .unset, .unset] [])
  refine wp (fun _ => XS.aloadN X1.here hx rfl (hb hby at_5) rfl rfl) ?_
  show WP p e below _ T1 (mkF m 6 #[.val (.long xx), .second, .val (.int ss), .val (.ref a), .unset, .unset, .unset, .unset, .unset, .unset] [(.ref a)])
  refine wp (fun _ => XS.iconst X1.here hx rfl (hb hby at_6)) ?_
  show WP p e below _ T1 (mkF m 7 #[.val (.long xx), .second, .val (.int ss), .val (.ref a), .unset, .unset, .unset, .unset, .unset, .unset] [(.int (0 : Int32)), (.ref a)])
  refine wp (fun _ => XS.lloadN X1.here hx rfl (hb hby at_7) rfl) ?_
  show WP p e below _ T1 (mkF m 8 #[.val (.long xx), .second, .val (.int ss), .val (.ref a), .unset, .unset, .unset, .unset, .unset, .unset] [(.long xx), (.int (0 : Int32)), (.ref a)])
  refine wp (fun _ => XS.l2i X1.here hx rfl (hb hby at_8) rfl) ?_
  show WP p e below _ T1 (mkF m 9 #[.val (.long xx), .second, .val (.int ss), .val (.ref a), .unset, .unset, .unset, .unset, .unset, .unset] [(.int xx.toInt32), (.int (0 : Int32)), (.ref a)])
  refine wp (fun _ => XS.i2b X1.here hx rfl (hb hby at_9) rfl) ?_
  show WP p e below _ T1 (mkF m 10 #[.val (.long xx), .second, .val (.int ss), .val (.ref a), .unset, .unset, .unset, .unset, .unset, .unset] [(.int xx.toInt32.toInt8.toInt32), (.int (0 : Int32)), (.ref a)])
  refine wp_bastore C X1 e1 A1 (j := 0) rfl (by decide) at_10 ?_
  intro T2 h2 X2 e2 W2 A2
  have N2 := Frs (a := a) (sl := (0 : Int32).toNatClampNeg) N1 ga'
  show WP p e below _ T2 (mkF m 11 #[.val (.long xx), .second, .val (.int ss), .val (.ref a), .unset, .unset, .unset, .unset, .unset, .unset] [])
  refine wp (fun _ => XS.aloadN X2.here hx rfl (hb hby at_11) rfl rfl) ?_
  show WP p e below _ T2 (mkF m 12 #[.val (.long xx), .second, .val (.int ss), .val (.ref a), .unset, .unset, .unset, .unset, .unset, .unset] [(.ref a)])
  refine wp (fun _ => XS.iconst X2.here hx rfl (hb hby at_12)) ?_
  show WP p e below _ T2 (mkF m 13 #[.val (.long xx), .second, .val (.int ss), .val (.ref a), .unset, .unset, .unset, .unset, .unset, .unset] [(.int (1 : Int32)), (.ref a)])
  refine wp (fun _ => XS.lloadN X2.here hx rfl (hb hby at_13) rfl) ?_
  show WP p e below _ T2 (mkF m 14 #[.val (.long xx), .second, .val (.int ss), .val (.ref a), .unset, .unset, .unset, .unset, .unset, .unset] [(.long xx), (.int (1 : Int32)), (.ref a)])
  refine wp (fun _ => XS.bipush X2.here hx rfl (hb hby at_14)) ?_
  show WP p e below _ T2 (mkF m 16 #[.val (.long xx), .second, .val (.int ss), .val (.ref a), .unset, .unset, .unset, .unset, .unset, .unset] [(.int (8 : Int32)), (.long xx), (.int (1 : Int32)), (.ref a)])
  refine wp (fun _ => XS.lushr X2.here hx rfl (hb hby at_16) rfl) ?_
  show WP p e below _ T2 (mkF m 17 #[.val (.long xx), .second, .val (.int ss), .val (.ref a), .unset, .unset, .unset, .unset, .unset, .unset] [(.long ((xx.toUInt64 >>> ((8 : Int32) &&& 0x3f).toInt64.toUInt64).toInt64)), (.int (1 : Int32)), (.ref a)])
  refine wp (fun _ => XS.l2i X2.here hx rfl (hb hby at_17) rfl) ?_
  show WP p e below _ T2 (mkF m 18 #[.val (.long xx), .second, .val (.int ss), .val (.ref a), .unset, .unset, .unset, .unset, .unset, .unset] [(.int ((xx.toUInt64 >>> ((8 : Int32) &&& 0x3f).toInt64.toUInt64).toInt64).toInt32), (.int (1 : Int32)), (.ref a)])
  refine wp (fun _ => XS.i2b X2.here hx rfl (hb hby at_18) rfl) ?_
  show WP p e below _ T2 (mkF m 19 #[.val (.long xx), .second, .val (.int ss), .val (.ref a), .unset, .unset, .unset, .unset, .unset, .unset] [(.int ((xx.toUInt64 >>> ((8 : Int32) &&& 0x3f).toInt64.toUInt64).toInt64).toInt32.toInt8.toInt32), (.int (1 : Int32)), (.ref a)])
  refine wp_bastore C X2 e2 A2 (j := 1) rfl (by decide) at_19 ?_
  intro T3 h3 X3 e3 W3 A3
  have N3 := Frs (a := a) (sl := (1 : Int32).toNatClampNeg) N2 ga'
  show WP p e below _ T3 (mkF m 20 #[.val (.long xx), .second, .val (.int ss), .val (.ref a), .unset, .unset, .unset, .unset, .unset, .unset] [])
  refine wp (fun _ => XS.aloadN X3.here hx rfl (hb hby at_20) rfl rfl) ?_
  show WP p e below _ T3 (mkF m 21 #[.val (.long xx), .second, .val (.int ss), .val (.ref a), .unset, .unset, .unset, .unset, .unset, .unset] [(.ref a)])
  refine wp (fun _ => XS.iconst X3.here hx rfl (hb hby at_21)) ?_
  show WP p e below _ T3 (mkF m 22 #[.val (.long xx), .second, .val (.int ss), .val (.ref a), .unset, .unset, .unset, .unset, .unset, .unset] [(.int (2 : Int32)), (.ref a)])
  refine wp (fun _ => XS.lloadN X3.here hx rfl (hb hby at_22) rfl) ?_
  show WP p e below _ T3 (mkF m 23 #[.val (.long xx), .second, .val (.int ss), .val (.ref a), .unset, .unset, .unset, .unset, .unset, .unset] [(.long xx), (.int (2 : Int32)), (.ref a)])
  refine wp (fun _ => XS.bipush X3.here hx rfl (hb hby at_23)) ?_
  show WP p e below _ T3 (mkF m 25 #[.val (.long xx), .second, .val (.int ss), .val (.ref a), .unset, .unset, .unset, .unset, .unset, .unset] [(.int (16 : Int32)), (.long xx), (.int (2 : Int32)), (.ref a)])
  refine wp (fun _ => XS.lushr X3.here hx rfl (hb hby at_25) rfl) ?_
  show WP p e below _ T3 (mkF m 26 #[.val (.long xx), .second, .val (.int ss), .val (.ref a), .unset, .unset, .unset, .unset, .unset, .unset] [(.long ((xx.toUInt64 >>> ((16 : Int32) &&& 0x3f).toInt64.toUInt64).toInt64)), (.int (2 : Int32)), (.ref a)])
  refine wp (fun _ => XS.l2i X3.here hx rfl (hb hby at_26) rfl) ?_
  show WP p e below _ T3 (mkF m 27 #[.val (.long xx), .second, .val (.int ss), .val (.ref a), .unset, .unset, .unset, .unset, .unset, .unset] [(.int ((xx.toUInt64 >>> ((16 : Int32) &&& 0x3f).toInt64.toUInt64).toInt64).toInt32), (.int (2 : Int32)), (.ref a)])
  refine wp (fun _ => XS.i2b X3.here hx rfl (hb hby at_27) rfl) ?_
  show WP p e below _ T3 (mkF m 28 #[.val (.long xx), .second, .val (.int ss), .val (.ref a), .unset, .unset, .unset, .unset, .unset, .unset] [(.int ((xx.toUInt64 >>> ((16 : Int32) &&& 0x3f).toInt64.toUInt64).toInt64).toInt32.toInt8.toInt32), (.int (2 : Int32)), (.ref a)])
  refine wp_bastore C X3 e3 A3 (j := 2) rfl (by decide) at_28 ?_
  intro T4 h4 X4 e4 W4 A4
  have N4 := Frs (a := a) (sl := (2 : Int32).toNatClampNeg) N3 ga'
  show WP p e below _ T4 (mkF m 29 #[.val (.long xx), .second, .val (.int ss), .val (.ref a), .unset, .unset, .unset, .unset, .unset, .unset] [])
  refine wp (fun _ => XS.aloadN X4.here hx rfl (hb hby at_29) rfl rfl) ?_
  show WP p e below _ T4 (mkF m 30 #[.val (.long xx), .second, .val (.int ss), .val (.ref a), .unset, .unset, .unset, .unset, .unset, .unset] [(.ref a)])
  refine wp (fun _ => XS.iconst X4.here hx rfl (hb hby at_30)) ?_
  show WP p e below _ T4 (mkF m 31 #[.val (.long xx), .second, .val (.int ss), .val (.ref a), .unset, .unset, .unset, .unset, .unset, .unset] [(.int (3 : Int32)), (.ref a)])
  refine wp (fun _ => XS.lloadN X4.here hx rfl (hb hby at_31) rfl) ?_
  show WP p e below _ T4 (mkF m 32 #[.val (.long xx), .second, .val (.int ss), .val (.ref a), .unset, .unset, .unset, .unset, .unset, .unset] [(.long xx), (.int (3 : Int32)), (.ref a)])
  refine wp (fun _ => XS.bipush X4.here hx rfl (hb hby at_32)) ?_
  show WP p e below _ T4 (mkF m 34 #[.val (.long xx), .second, .val (.int ss), .val (.ref a), .unset, .unset, .unset, .unset, .unset, .unset] [(.int (24 : Int32)), (.long xx), (.int (3 : Int32)), (.ref a)])
  refine wp (fun _ => XS.lushr X4.here hx rfl (hb hby at_34) rfl) ?_
  show WP p e below _ T4 (mkF m 35 #[.val (.long xx), .second, .val (.int ss), .val (.ref a), .unset, .unset, .unset, .unset, .unset, .unset] [(.long ((xx.toUInt64 >>> ((24 : Int32) &&& 0x3f).toInt64.toUInt64).toInt64)), (.int (3 : Int32)), (.ref a)])
  refine wp (fun _ => XS.l2i X4.here hx rfl (hb hby at_35) rfl) ?_
  show WP p e below _ T4 (mkF m 36 #[.val (.long xx), .second, .val (.int ss), .val (.ref a), .unset, .unset, .unset, .unset, .unset, .unset] [(.int ((xx.toUInt64 >>> ((24 : Int32) &&& 0x3f).toInt64.toUInt64).toInt64).toInt32), (.int (3 : Int32)), (.ref a)])
  refine wp (fun _ => XS.i2b X4.here hx rfl (hb hby at_36) rfl) ?_
  show WP p e below _ T4 (mkF m 37 #[.val (.long xx), .second, .val (.int ss), .val (.ref a), .unset, .unset, .unset, .unset, .unset, .unset] [(.int ((xx.toUInt64 >>> ((24 : Int32) &&& 0x3f).toInt64.toUInt64).toInt64).toInt32.toInt8.toInt32), (.int (3 : Int32)), (.ref a)])
  refine wp_bastore C X4 e4 A4 (j := 3) rfl (by decide) at_37 ?_
  intro T5 h5 X5 e5 W5 A5
  have N5 := Frs (a := a) (sl := (3 : Int32).toNatClampNeg) N4 ga'
  show WP p e below _ T5 (mkF m 38 #[.val (.long xx), .second, .val (.int ss), .val (.ref a), .unset, .unset, .unset, .unset, .unset, .unset] [])
  refine wp (fun _ => XS.aloadN X5.here hx rfl (hb hby at_38) rfl rfl) ?_
  show WP p e below _ T5 (mkF m 39 #[.val (.long xx), .second, .val (.int ss), .val (.ref a), .unset, .unset, .unset, .unset, .unset, .unset] [(.ref a)])
  refine wp (fun _ => XS.iconst X5.here hx rfl (hb hby at_39)) ?_
  show WP p e below _ T5 (mkF m 40 #[.val (.long xx), .second, .val (.int ss), .val (.ref a), .unset, .unset, .unset, .unset, .unset, .unset] [(.int (4 : Int32)), (.ref a)])
  refine wp (fun _ => XS.lloadN X5.here hx rfl (hb hby at_40) rfl) ?_
  show WP p e below _ T5 (mkF m 41 #[.val (.long xx), .second, .val (.int ss), .val (.ref a), .unset, .unset, .unset, .unset, .unset, .unset] [(.long xx), (.int (4 : Int32)), (.ref a)])
  refine wp (fun _ => XS.bipush X5.here hx rfl (hb hby at_41)) ?_
  show WP p e below _ T5 (mkF m 43 #[.val (.long xx), .second, .val (.int ss), .val (.ref a), .unset, .unset, .unset, .unset, .unset, .unset] [(.int (32 : Int32)), (.long xx), (.int (4 : Int32)), (.ref a)])
  refine wp (fun _ => XS.lushr X5.here hx rfl (hb hby at_43) rfl) ?_
  show WP p e below _ T5 (mkF m 44 #[.val (.long xx), .second, .val (.int ss), .val (.ref a), .unset, .unset, .unset, .unset, .unset, .unset] [(.long ((xx.toUInt64 >>> ((32 : Int32) &&& 0x3f).toInt64.toUInt64).toInt64)), (.int (4 : Int32)), (.ref a)])
  refine wp (fun _ => XS.l2i X5.here hx rfl (hb hby at_44) rfl) ?_
  show WP p e below _ T5 (mkF m 45 #[.val (.long xx), .second, .val (.int ss), .val (.ref a), .unset, .unset, .unset, .unset, .unset, .unset] [(.int ((xx.toUInt64 >>> ((32 : Int32) &&& 0x3f).toInt64.toUInt64).toInt64).toInt32), (.int (4 : Int32)), (.ref a)])
  refine wp (fun _ => XS.i2b X5.here hx rfl (hb hby at_45) rfl) ?_
  show WP p e below _ T5 (mkF m 46 #[.val (.long xx), .second, .val (.int ss), .val (.ref a), .unset, .unset, .unset, .unset, .unset, .unset] [(.int ((xx.toUInt64 >>> ((32 : Int32) &&& 0x3f).toInt64.toUInt64).toInt64).toInt32.toInt8.toInt32), (.int (4 : Int32)), (.ref a)])
  refine wp_bastore C X5 e5 A5 (j := 4) rfl (by decide) at_46 ?_
  intro T6 h6 X6 e6 W6 A6
  have N6 := Frs (a := a) (sl := (4 : Int32).toNatClampNeg) N5 ga'
  show WP p e below _ T6 (mkF m 47 #[.val (.long xx), .second, .val (.int ss), .val (.ref a), .unset, .unset, .unset, .unset, .unset, .unset] [])
  refine wp (fun _ => XS.aloadN X6.here hx rfl (hb hby at_47) rfl rfl) ?_
  show WP p e below _ T6 (mkF m 48 #[.val (.long xx), .second, .val (.int ss), .val (.ref a), .unset, .unset, .unset, .unset, .unset, .unset] [(.ref a)])
  refine wp (fun _ => XS.iconst X6.here hx rfl (hb hby at_48)) ?_
  show WP p e below _ T6 (mkF m 49 #[.val (.long xx), .second, .val (.int ss), .val (.ref a), .unset, .unset, .unset, .unset, .unset, .unset] [(.int (5 : Int32)), (.ref a)])
  refine wp (fun _ => XS.lloadN X6.here hx rfl (hb hby at_49) rfl) ?_
  show WP p e below _ T6 (mkF m 50 #[.val (.long xx), .second, .val (.int ss), .val (.ref a), .unset, .unset, .unset, .unset, .unset, .unset] [(.long xx), (.int (5 : Int32)), (.ref a)])
  refine wp (fun _ => XS.bipush X6.here hx rfl (hb hby at_50)) ?_
  show WP p e below _ T6 (mkF m 52 #[.val (.long xx), .second, .val (.int ss), .val (.ref a), .unset, .unset, .unset, .unset, .unset, .unset] [(.int (40 : Int32)), (.long xx), (.int (5 : Int32)), (.ref a)])
  refine wp (fun _ => XS.lushr X6.here hx rfl (hb hby at_52) rfl) ?_
  show WP p e below _ T6 (mkF m 53 #[.val (.long xx), .second, .val (.int ss), .val (.ref a), .unset, .unset, .unset, .unset, .unset, .unset] [(.long ((xx.toUInt64 >>> ((40 : Int32) &&& 0x3f).toInt64.toUInt64).toInt64)), (.int (5 : Int32)), (.ref a)])
  refine wp (fun _ => XS.l2i X6.here hx rfl (hb hby at_53) rfl) ?_
  show WP p e below _ T6 (mkF m 54 #[.val (.long xx), .second, .val (.int ss), .val (.ref a), .unset, .unset, .unset, .unset, .unset, .unset] [(.int ((xx.toUInt64 >>> ((40 : Int32) &&& 0x3f).toInt64.toUInt64).toInt64).toInt32), (.int (5 : Int32)), (.ref a)])
  refine wp (fun _ => XS.i2b X6.here hx rfl (hb hby at_54) rfl) ?_
  show WP p e below _ T6 (mkF m 55 #[.val (.long xx), .second, .val (.int ss), .val (.ref a), .unset, .unset, .unset, .unset, .unset, .unset] [(.int ((xx.toUInt64 >>> ((40 : Int32) &&& 0x3f).toInt64.toUInt64).toInt64).toInt32.toInt8.toInt32), (.int (5 : Int32)), (.ref a)])
  refine wp_bastore C X6 e6 A6 (j := 5) rfl (by decide) at_55 ?_
  intro T7 h7 X7 e7 W7 A7
  have N7 := Frs (a := a) (sl := (5 : Int32).toNatClampNeg) N6 ga'
  show WP p e below _ T7 (mkF m 56 #[.val (.long xx), .second, .val (.int ss), .val (.ref a), .unset, .unset, .unset, .unset, .unset, .unset] [])
  obtain ⟨g, A⟩ := own_ints A7 (fun j hj => by (repeat' split) <;> exact ⟨_, rfl⟩)
  obtain ⟨F, f6, hF⟩ := own_fromS ss
  refine wp (fun _ => XS.iloadN X7.here hx rfl (hb hby at_56) rfl) ?_
  show WP p e below _ T7 (mkF m 57 #[.val (.long xx), .second, .val (.int ss), .val (.ref a), .unset, .unset, .unset, .unset, .unset, .unset] [(.int ss)])
  refine wp_ldc C X7 (hw _ (List.mem_of_getElem? (i := 1) rfl)) at_57 ?_
  show WP p e below _ T7 (mkF m 59 #[.val (.long xx), .second, .val (.int ss), .val (.ref a), .unset, .unset, .unset, .unset, .unset, .unset] [(.int (2147483647 : Int32)), (.int ss)])
  refine wp (fun _ => XS.iand X7.here hx rfl (hb hby at_59) rfl) ?_
  show WP p e below _ T7 (mkF m 60 #[.val (.long xx), .second, .val (.int ss), .val (.ref a), .unset, .unset, .unset, .unset, .unset, .unset] [(.int (ss &&& (2147483647 : Int32)))])
  refine wp (fun _ => XS.bipush X7.here hx rfl (hb hby at_60)) ?_
  show WP p e below _ T7 (mkF m 62 #[.val (.long xx), .second, .val (.int ss), .val (.ref a), .unset, .unset, .unset, .unset, .unset, .unset] [(.int (7 : Int32)), (.int (ss &&& (2147483647 : Int32)))])
  refine wp (fun _ => iremM X7 hx rfl (hb hby at_62) rfl (by decide)) ?_
  show WP p e below _ T7 (mkF m 63 #[.val (.long xx), .second, .val (.int ss), .val (.ref a), .unset, .unset, .unset, .unset, .unset, .unset] [(.int ((ss &&& (2147483647 : Int32)) % (7 : Int32)))])
  generalize ((ss &&& (2147483647 : Int32)) % (7 : Int32)) = zF at hF ⊢
  show WP p e below _ T7 (mkF m 63 #[.val (.long xx), .second, .val (.int ss), .val (.ref a), .unset, .unset, .unset, .unset, .unset, .unset] [(.int zF)])
  refine wp (fun _ => XS.istore X7.here hx rfl (hb hby at_63) rfl (l' := #[.val (.long xx), .second, .val (.int ss), .val (.ref a), .val (.int zF), .unset, .unset, .unset, .unset, .unset]) rfl) ?_
  show WP p e below _ T7 (mkF m 65 #[.val (.long xx), .second, .val (.int ss), .val (.ref a), .val (.int zF), .unset, .unset, .unset, .unset, .unset] [])
  refine wp (fun _ => XS.iloadN X7.here hx rfl (hb hby at_65) rfl) ?_
  show WP p e below _ T7 (mkF m 66 #[.val (.long xx), .second, .val (.int ss), .val (.ref a), .val (.int zF), .unset, .unset, .unset, .unset, .unset] [(.int ss)])
  refine wp (fun _ => XS.bipush X7.here hx rfl (hb hby at_66)) ?_
  show WP p e below _ T7 (mkF m 68 #[.val (.long xx), .second, .val (.int ss), .val (.ref a), .val (.int zF), .unset, .unset, .unset, .unset, .unset] [(.int (8 : Int32)), (.int ss)])
  refine wp (fun _ => XS.iushr X7.here hx rfl (hb hby at_68) rfl) ?_
  show WP p e below _ T7 (mkF m 69 #[.val (.long xx), .second, .val (.int ss), .val (.ref a), .val (.int zF), .unset, .unset, .unset, .unset, .unset] [(.int ((ss.toUInt32 >>> ((8 : Int32) &&& 31).toUInt32).toInt32))])
  refine wp_ldc C X7 (hw _ (List.mem_of_getElem? (i := 2) rfl)) at_69 ?_
  show WP p e below _ T7 (mkF m 71 #[.val (.long xx), .second, .val (.int ss), .val (.ref a), .val (.int zF), .unset, .unset, .unset, .unset, .unset] [(.int (16777215 : Int32)), (.int ((ss.toUInt32 >>> ((8 : Int32) &&& 31).toUInt32).toInt32))])
  refine wp (fun _ => XS.iand X7.here hx rfl (hb hby at_71) rfl) ?_
  show WP p e below _ T7 (mkF m 72 #[.val (.long xx), .second, .val (.int ss), .val (.ref a), .val (.int zF), .unset, .unset, .unset, .unset, .unset] [(.int (((ss.toUInt32 >>> ((8 : Int32) &&& 31).toUInt32).toInt32) &&& (16777215 : Int32)))])
  refine wp (fun _ => XS.bipush X7.here hx rfl (hb hby at_72)) ?_
  show WP p e below _ T7 (mkF m 74 #[.val (.long xx), .second, .val (.int ss), .val (.ref a), .val (.int zF), .unset, .unset, .unset, .unset, .unset] [(.int (7 : Int32)), (.int (((ss.toUInt32 >>> ((8 : Int32) &&& 31).toUInt32).toInt32) &&& (16777215 : Int32)))])
  refine wp (fun _ => XS.iload X7.here hx rfl (hb hby at_74) rfl) ?_
  show WP p e below _ T7 (mkF m 76 #[.val (.long xx), .second, .val (.int ss), .val (.ref a), .val (.int zF), .unset, .unset, .unset, .unset, .unset] [(.int zF), (.int (7 : Int32)), (.int (((ss.toUInt32 >>> ((8 : Int32) &&& 31).toUInt32).toInt32) &&& (16777215 : Int32)))])
  refine wp (fun _ => XS.isub X7.here hx rfl (hb hby at_76) rfl) ?_
  show WP p e below _ T7 (mkF m 77 #[.val (.long xx), .second, .val (.int ss), .val (.ref a), .val (.int zF), .unset, .unset, .unset, .unset, .unset] [(.int ((7 : Int32) - zF)), (.int (((ss.toUInt32 >>> ((8 : Int32) &&& 31).toUInt32).toInt32) &&& (16777215 : Int32)))])
  have f7 := own_seven hF f6
  obtain ⟨n, hn, hL⟩ := own_lenS ((ss.toUInt32 >>> ((8 : Int32) &&& 31).toUInt32).toInt32) zF hF f6
  refine wp (fun _ => iremM X7 hx rfl (hb hby at_77) rfl (fun q => by rw [q] at f7; have : (0 : Int32).toInt = 0 := rfl; omega)) ?_
  show WP p e below _ T7 (mkF m 78 #[.val (.long xx), .second, .val (.int ss), .val (.ref a), .val (.int zF), .unset, .unset, .unset, .unset, .unset] [(.int ((((ss.toUInt32 >>> ((8 : Int32) &&& 31).toUInt32).toInt32) &&& (16777215 : Int32)) % ((7 : Int32) - zF)))])
  generalize ((((ss.toUInt32 >>> ((8 : Int32) &&& 31).toUInt32).toInt32) &&& (16777215 : Int32)) % ((7 : Int32) - zF)) = zL at hL ⊢
  show WP p e below _ T7 (mkF m 78 #[.val (.long xx), .second, .val (.int ss), .val (.ref a), .val (.int zF), .unset, .unset, .unset, .unset, .unset] [(.int zL)])
  refine wp (fun _ => XS.istore X7.here hx rfl (hb hby at_78) rfl (l' := #[.val (.long xx), .second, .val (.int ss), .val (.ref a), .val (.int zF), .val (.int zL), .unset, .unset, .unset, .unset]) rfl) ?_
  show WP p e below _ T7 (mkF m 80 #[.val (.long xx), .second, .val (.int ss), .val (.ref a), .val (.int zF), .val (.int zL), .unset, .unset, .unset, .unset] [])
  refine wp (fun _ => XS.iload X7.here hx rfl (hb hby at_80) rfl) ?_
  show WP p e below _ T7 (mkF m 82 #[.val (.long xx), .second, .val (.int ss), .val (.ref a), .val (.int zF), .val (.int zL), .unset, .unset, .unset, .unset] [(.int zF)])
  refine wp (fun _ => XS.iload X7.here hx rfl (hb hby at_82) rfl) ?_
  show WP p e below _ T7 (mkF m 84 #[.val (.long xx), .second, .val (.int ss), .val (.ref a), .val (.int zF), .val (.int zL), .unset, .unset, .unset, .unset] [(.int zL), (.int zF)])
  refine wp (fun _ => XS.iadd X7.here hx rfl (hb hby at_84) rfl) ?_
  show WP p e below _ T7 (mkF m 85 #[.val (.long xx), .second, .val (.int ss), .val (.ref a), .val (.int zF), .val (.int zL), .unset, .unset, .unset, .unset] [(.int (zF + zL))])
  have hT := own_addk hF hL (by omega) (by omega)
  generalize (zF + zL) = zT at hT ⊢
  show WP p e below _ T7 (mkF m 85 #[.val (.long xx), .second, .val (.int ss), .val (.ref a), .val (.int zF), .val (.int zL), .unset, .unset, .unset, .unset] [(.int zT)])
  refine wp (fun _ => XS.istore X7.here hx rfl (hb hby at_85) rfl (l' := #[.val (.long xx), .second, .val (.int ss), .val (.ref a), .val (.int zF), .val (.int zL), .val (.int zT), .unset, .unset, .unset]) rfl) ?_
  show WP p e below _ T7 (mkF m 87 #[.val (.long xx), .second, .val (.int ss), .val (.ref a), .val (.int zF), .val (.int zL), .val (.int zT), .unset, .unset, .unset] [])
  refine wp_ldc2 C X7 (hw _ (List.mem_of_getElem? (i := 3) rfl)) at_87 ?_
  show WP p e below _ T7 (mkF m 90 #[.val (.long xx), .second, .val (.int ss), .val (.ref a), .val (.int zF), .val (.int zL), .val (.int zT), .unset, .unset, .unset] [(.long (-3750763034362895579 : Int64))])
  refine wp (fun _ => XS.lstore X7.here hx rfl (hb hby at_90) rfl (l' := #[.val (.long xx), .second, .val (.int ss), .val (.ref a), .val (.int zF), .val (.int zL), .val (.int zT), .val (.long (-3750763034362895579 : Int64)), .second, .unset]) rfl) ?_
  show WP p e below _ T7 (mkF m 92 #[.val (.long xx), .second, .val (.int ss), .val (.ref a), .val (.int zF), .val (.int zL), .val (.int zT), .val (.long (-3750763034362895579 : Int64)), .second, .unset] [])
  have m0 : min 0 n = 0 := by omega
  rw [show (-3750763034362895579 : Int64) = own_h g F (min 0 n) by rw [m0]; rfl]
  show WP p e below _ T7 (mkF m 92 #[.val (.long xx), .second, .val (.int ss), .val (.ref a), .val (.int zF), .val (.int zL), .val (.int zT), .val (.long (own_h g F (min 0 n))), .second, .unset] [])
  refine seg0 xx ss a zF zL zT F n g hF hL hT hn C X7 e7 A ?_
  intro T8 X8 e8
  refine seg1 xx ss a zF zL zT F n g hF hL hT hn C X8 e8 A ?_
  intro T9 X9 e9
  refine seg2 xx ss a zF zL zT F n g hF hL hT hn C X9 e9 A ?_
  intro T10 X10 e10
  refine seg3 xx ss a zF zL zT F n g hF hL hT hn C X10 e10 A ?_
  intro T11 X11 e11
  refine seg4 xx ss a zF zL zT F n g hF hL hT hn C X11 e11 A ?_
  intro T12 X12 e12
  refine seg5 xx ss a zF zL zT F n g hF hL hT hn C X12 e12 A ?_
  intro T13 X13 e13
  rw [show min 6 n = n by omega]
  show WP p e below _ T13 (mkF m 203 #[.val (.long xx), .second, .val (.int ss), .val (.ref a), .val (.int zF), .val (.int zL), .val (.int zT), .val (.long (own_h g F n)), .second, .unset] [])
  refine wp (fun _ => XS.lload X13.here hx rfl (hb hby at_203) rfl) ?_
  show WP p e below _ T13 (mkF m 205 #[.val (.long xx), .second, .val (.int ss), .val (.ref a), .val (.int zF), .val (.int zL), .val (.int zT), .val (.long (own_h g F n)), .second, .unset] [(.long (own_h g F n))])
  refine wp_staticP C X13 e13 (argsL := [(.long (own_h g F n))]) (rest := []) (rm_fin l Z a0 hw [] (own_h g F n) h7) (hw _ (List.mem_of_getElem? (i := 4) rfl)) (hw _ (List.mem_of_getElem? (i := 5) rfl)) (hw _ (List.mem_of_getElem? (i := 6) rfl)) (hw _ (List.mem_of_getElem? (i := 7) rfl)) (by decide) rfl (lenOf pd_fin rfl) at_205 rfl rfl rfl (by decide) (Nat.le_of_ble_eq_true rfl) (by decide) (by decide) ?_
  intro T14 X14 e14
  show WP p e below _ T14 (mkF m 208 #[.val (.long xx), .second, .val (.int ss), .val (.ref a), .val (.int zF), .val (.int zL), .val (.int zT), .val (.long (own_h g F n)), .second, .unset] [(.int (own_fin (own_h g F n)))])
  refine wp (fun _ => XS.istore X14.here hx rfl (hb hby at_208) rfl (l' := #[.val (.long xx), .second, .val (.int ss), .val (.ref a), .val (.int zF), .val (.int zL), .val (.int zT), .val (.long (own_h g F n)), .second, .val (.int (own_fin (own_h g F n)))]) rfl) ?_
  show WP p e below _ T14 (mkF m 210 #[.val (.long xx), .second, .val (.int ss), .val (.ref a), .val (.int zF), .val (.int zL), .val (.int zT), .val (.long (own_h g F n)), .second, .val (.int (own_fin (own_h g F n)))] [])
  refine wp (fun _ => XS.aloadN X14.here hx rfl (hb hby at_210) rfl rfl) ?_
  show WP p e below _ T14 (mkF m 211 #[.val (.long xx), .second, .val (.int ss), .val (.ref a), .val (.int zF), .val (.int zL), .val (.int zT), .val (.long (own_h g F n)), .second, .val (.int (own_fin (own_h g F n)))] [(.ref a)])
  refine wp (fun _ => XS.iload X14.here hx rfl (hb hby at_211) rfl) ?_
  show WP p e below _ T14 (mkF m 213 #[.val (.long xx), .second, .val (.int ss), .val (.ref a), .val (.int zF), .val (.int zL), .val (.int zT), .val (.long (own_h g F n)), .second, .val (.int (own_fin (own_h g F n)))] [(.int zF), (.ref a)])
  refine wp (fun _ => XS.iload X14.here hx rfl (hb hby at_213) rfl) ?_
  show WP p e below _ T14 (mkF m 215 #[.val (.long xx), .second, .val (.int ss), .val (.ref a), .val (.int zF), .val (.int zL), .val (.int zT), .val (.long (own_h g F n)), .second, .val (.int (own_fin (own_h g F n)))] [(.int zT), (.int zF), (.ref a)])
  refine wp_staticP C X14 e14 (argsL := [(.ref a), (.int zF), (.int zT)]) (rest := []) (rm_hash l Z a0 hw [] a zF zT F n g h7 hF hT hn A) (hw _ (List.mem_of_getElem? (i := 9) rfl)) (hw _ (List.mem_of_getElem? (i := 10) rfl)) (hw _ (List.mem_of_getElem? (i := 11) rfl)) (hw _ (List.mem_of_getElem? (i := 12) rfl)) (by decide) rfl (lenOf pd_hash rfl) at_215 rfl rfl rfl (by decide) (Nat.le_of_ble_eq_true rfl) (by decide) (by decide) ?_
  intro T15 X15 e15
  show WP p e below _ T15 (mkF m 218 #[.val (.long xx), .second, .val (.int ss), .val (.ref a), .val (.int zF), .val (.int zL), .val (.int zT), .val (.long (own_h g F n)), .second, .val (.int (own_fin (own_h g F n)))] [(.int (own_fin (own_h g F n)))])
  refine wp (fun _ => XS.iload X15.here hx rfl (hb hby at_218) rfl) ?_
  show WP p e below _ T15 (mkF m 220 #[.val (.long xx), .second, .val (.int ss), .val (.ref a), .val (.int zF), .val (.int zL), .val (.int zT), .val (.long (own_h g F n)), .second, .val (.int (own_fin (own_h g F n)))] [(.int (own_fin (own_h g F n))), (.int (own_fin (own_h g F n)))])
  refine wp (fun _ => XS.icmpNo X15.here hx rfl (hb hby at_220) rfl (XT.ii_ne_f rfl)) ?_
  show WP p e below _ T15 (mkF m 223 #[.val (.long xx), .second, .val (.int ss), .val (.ref a), .val (.int zF), .val (.int zL), .val (.int zT), .val (.long (own_h g F n)), .second, .val (.int (own_fin (own_h g F n)))] [])
  refine wp (fun _ => XS.iconst X15.here hx rfl (hb hby at_223)) ?_
  show WP p e below _ T15 (mkF m 224 #[.val (.long xx), .second, .val (.int ss), .val (.ref a), .val (.int zF), .val (.int zL), .val (.int zT), .val (.long (own_h g F n)), .second, .val (.int (own_fin (own_h g F n)))] [(.int (1 : Int32))])
  refine wp (fun _ => XS.goto X15.here hx rfl (pc0 := 224) (pc' := 228) rfl (hb hby at_224) (by decide) (by decide)) ?_
  show WP p e below _ T15 (mkF m 228 #[.val (.long xx), .second, .val (.int ss), .val (.ref a), .val (.int zF), .val (.int zL), .val (.int zT), .val (.long (own_h g F n)), .second, .val (.int (own_fin (own_h g F n)))] [(.int (1 : Int32))])
  exact wp_zreturn C X15 (Or.inl rfl) at_228 ⟨rfl, N7⟩ (by decide) (by decide)
set_option maxRecDepth 65536 in
set_option maxHeartbeats 4000000 in
theorem comes_1 {Post : Tables → Env → Array Value → State → Outcome → State → Prop} (hpost : ∀ tb e args s v u, (limb_1_1.after args s (.returned v) u = true ∧ limb_1_2.after args s (.returned v) u = true ∧ True) → FrameEnd s (.returned v) u (Jvm.fieldLocs frame_1_writes args s ++ Jvm.arrayLocs frame_1_arrays args s ++ Jvm.staticLocs frame_1_statics s) 16 128 → Post tb e args s (.returned v) u) :
    ArmFor flags0 classFile x code maxLocals ret World_1 tables_1 room_1 Calls_1 rest_1 Pre_1 Post := by
  intro l hfl _ _ p e ha hc hk s m args below hf hA hF happ hP
  obtain ⟨hcalls, hrest, hpre⟩ := hP
  obtain ⟨-, -, -, hnamed, -, -, -, hat⟩ := (Spec.applies_iff hf).mp happ
  obtain ⟨hg, hn⟩ := and_e (Cond.before_iff.mp (show (Jvm.Cond.and given_1 narrow_1).before args s = true from hpre))
  obtain ⟨hcount, hr0⟩ := and_e hg
  obtain ⟨ha0, hr1⟩ := and_e hr0
  have ha1 := hr1
  obtain ⟨w0, w1, rfl⟩ : ∃ w0 w1 : Value, args = #[w0, w1] := by
    have hs : args.size = 2 := by simpa [Cond.value, given_1] using hcount
    obtain ⟨L⟩ := args
    match L, hs with
    | [w0, w1], _ => exact ⟨w0, w1, rfl⟩
  have hw := fun d (hd : d ∈ tables_1) => atoms_spec (ws := Jvm.Cond.code x code maxLocals ret :: tables_1) hat d (List.mem_cons_of_mem _ hd)
  obtain ⟨i0, ei0⟩ := isL_v ha0
  obtain rfl : w0 = (.long i0) := Option.some.inj ei0
  obtain ⟨i1, ei1⟩ := is_v ha1
  obtain rfl : w1 = (.int i1) := Option.some.inj ei1
  obtain ⟨n, o, h1, h2, h3, _, L, rfl, ⟨rfl, N⟩, hq⟩ := rm_law l s _ hw tables_1 i0 i1 s.heap s.heap.size (Nat.le_refl _) p e ha hc hk s m _ below hf ((Spec.applies_iff_loose hf).mp happ).1 ⟨rfl, State.Warmed39.refl s, rfl⟩ trivial
  refine ⟨n, _, h1, h2, h3, hpost _ _ _ _ _ _ ⟨Cond.after_iff.mpr rfl, Cond.after_iff.mpr (eq_i res_at (Term.int_eval (1)) rfl), trivial⟩ ⟨hq.1, hq.2.1, (hq.2.2.sift fun y hy => Or.inr (N y hy)).mono (by decide) (by decide)⟩⟩
theorem main_1_1 : Claimed_1_1 := comes_1 fun _ _ _ _ _ _ h hF => ⟨h.1, hF⟩
theorem main_1_2 : Claimed_1_2 := comes_1 fun _ _ _ _ _ _ h hF => ⟨h.2.1, hF⟩

end Jvm.Pilot.@@N@@
namespace Jvm.Pilot.@@N@@
open Jvm Jvm.ClassFile Sem Op Lib Jvm.Free Jvm.Stand Jvm.Pilot.@@N@@.Jvm.D
/-! MADE BY PROGRAM (witnessworld.py) out of the Statement's table words and the real class files: 9 classes; the members and pool entries that the words name. The judged class is class 1, her method 3. -/
namespace start1
open Jvm.ClassFile
def u (s : String) : CpInfo := .utf8 (stringToUtf16 s)
/-- a pool by its gaps: so many unusable entries, then the entry; so many at the end -/
def gap : Nat → List CpInfo → List CpInfo
  | 0, r => r
  | n + 1, r => .unusable :: gap n r
def poolList (es : List (Nat × CpInfo)) (last : Nat) : List CpInfo := es.foldr (fun e r => gap e.1 (e.2 :: r)) (gap last [])
def pool (es : List (Nat × CpInfo)) (last : Nat) : Array CpInfo := ⟨poolList es last⟩
def fileOf (pool : Array CpInfo) (this : Nat) (attrs : Array Attribute := #[]) (ms : Array MethodInfo := #[]) (fl : Nat := 33) (sup : Nat := 0) (ifs : Array Nat := #[]) (fds : Array FieldInfo := #[]) : ClassFile where
  minorVersion := 0
  majorVersion := 65
  constantPool := pool
  accessFlags := fl
  thisClass := this
  superClass := sup
  interfaces := ifs
  fields := fds
  methods := ms
  attributes := attrs
def plain (name : String) (sup : Option ClassId) : Class where
  name := name
  kind := .ordinary
  loader := none
  accessFlags := 33
  super := sup
  interfaces := #[]
  cf := none
  fields := #[]
  methods := #[]
  instanceTypes := #[]
  staticTypes := #[]
  resolved := #[]
  callSites := []
  init := .initialized
  statics := none
  mirror := none

def pool0 : Array CpInfo := pool [(5, u "<init>"), (0, u "()V"), (1, .class_ 10), (1, u "java/lang/Object")] 113

def k0m0 : Method := { name := "<init>", desc := "()V", sig := { parameters := [], returnType := none }, accessFlags := 1, code := none }
/-- java/lang/Object -/
def k0 : Class := { plain "java/lang/Object" none with
  accessFlags := 33
  interfaces := #[]
  cf := some (fileOf pool0 8 #[] #[{ accessFlags := 1, nameIndex := 5, descriptorIndex := 6, attributes := #[] }] 33 0 #[] #[])
  fields := #[]
  methods := #[k0m0]
  instanceTypes := #[]
  staticTypes := #[]
  resolved := Array.replicate 124 none
  statics := none }

def pool1 : Array CpInfo := pool [(2, .class_ 4), (1, u "java/lang/Object"), (0, u "<init>"), (0, u "()V"), (0, .long 255), (1, .class_ 10), (0, u "com/example/joinsmith/joinsmith/engine/stats/KeySetHashPinLaw"), (0, .long 1099511628211), (1, .long 18397679294719823053), (1, .integer 2147483647), (0, .integer 16777215), (0, .long 14695981039346656037), (1, .methodref 9 20), (0, .nameAndType 21 22), (0, u "step"), (0, u "(JB)J"), (0, .methodref 9 24), (0, .nameAndType 25 26), (0, u "finish"), (0, u "(J)I"), (0, .methodref 28 29), (0, .class_ 30), (0, .nameAndType 31 32), (0, u "com/example/joinsmith/joinsmith/engine/stats/KeySet"), (0, u "hash"), (0, u "([BII)I"), (0, u "BASIS"), (0, u "J"), (1, u "PRIME"), (0, u "MIX"), (2, u "law"), (0, u "(JI)Z")] 5

def k1m0 : Method := { name := "<init>", desc := "()V", sig := { parameters := [], returnType := none }, accessFlags := 1, code := none }
def k1c1 : Code := { maxStack := 4, maxLocals := 5, code := method_2_code, exceptionTable := #[], attributes := #[] }
def k1m1 : Method := { name := "step", desc := "(JB)J", sig := { parameters := [.long, .byte], returnType := some .long }, accessFlags := 10, code := some k1c1 }
def k1c2 : Code := { maxStack := 5, maxLocals := 6, code := method_3_code, exceptionTable := #[], attributes := #[] }
def k1m2 : Method := { name := "finish", desc := "(J)I", sig := { parameters := [.long], returnType := some .int }, accessFlags := 10, code := some k1c2 }
def k1c3 : Code := { maxStack := 5, maxLocals := 10, code := code, exceptionTable := #[], attributes := #[] }
def k1m3 : Method := { name := "law", desc := "(JI)Z", sig := { parameters := [.long, .int], returnType := some .boolean }, accessFlags := 9, code := some k1c3 }
/-- com/example/joinsmith/joinsmith/engine/stats/KeySetHashPinLaw -/
def k1 : Class := { plain "com/example/joinsmith/joinsmith/engine/stats/KeySetHashPinLaw" (some 0) with
  accessFlags := 49
  interfaces := #[]
  cf := some (fileOf pool1 9 #[] #[{ accessFlags := 1, nameIndex := 5, descriptorIndex := 6, attributes := #[] }, { accessFlags := 10, nameIndex := 21, descriptorIndex := 22, attributes := #[] }, { accessFlags := 10, nameIndex := 25, descriptorIndex := 26, attributes := #[] }, { accessFlags := 9, nameIndex := 40, descriptorIndex := 41, attributes := #[] }] 49 2 #[] #[{ accessFlags := 26, nameIndex := 33, descriptorIndex := 34, attributes := #[] }, { accessFlags := 26, nameIndex := 36, descriptorIndex := 34, attributes := #[] }, { accessFlags := 26, nameIndex := 37, descriptorIndex := 34, attributes := #[] }])
  fields := #[{ name := "BASIS", type := .long, accessFlags := 26, slot := 0, constantValue := 0 }, { name := "PRIME", type := .long, accessFlags := 26, slot := 1, constantValue := 0 }, { name := "MIX", type := .long, accessFlags := 26, slot := 2, constantValue := 0 }]
  methods := #[k1m0, k1m1, k1m2, k1m3]
  instanceTypes := #[]
  staticTypes := #[.long, .long, .long]
  resolved := Array.replicate 47 none
  statics := none }

def pool2 : Array CpInfo := pool [(2, .class_ 4), (1, u "java/lang/Object"), (6, .class_ 13), (1, u "com/example/joinsmith/joinsmith/engine/stats/KeySet"), (0, u "keys"), (0, u "Lcom/example/joinsmith/joinsmith/engine/stats/KeyStore;"), (6, u "slots"), (0, u "Lcom/example/joinsmith/joinsmith/engine/stats/PagedInts;"), (2, u "mayGrow"), (0, u "Ljava/util/function/LongPredicate;"), (2, u "hash"), (0, u "([BII)I"), (12, u "size"), (0, u "I"), (76, .long 14695981039346656037), (1, .long 1099511628211), (1, .long 18397679294719823053), (1, u "INITIAL_SLOTS"), (2, u "FREE")] 27

def k2c0 : Code := { maxStack := 5, maxLocals := 6, code := prog_75_method_10_code, exceptionTable := #[], attributes := #[] }
def k2m0 : Method := { name := "hash", desc := "([BII)I", sig := { parameters := [(.array .byte), .int, .int], returnType := some .int }, accessFlags := 8, code := some k2c0 }
/-- com/example/joinsmith/joinsmith/engine/stats/KeySet -/
def k2 : Class := { plain "com/example/joinsmith/joinsmith/engine/stats/KeySet" (some 0) with
  accessFlags := 48
  interfaces := #[]
  cf := some (fileOf pool2 11 #[] #[{ accessFlags := 8, nameIndex := 30, descriptorIndex := 31, attributes := #[] }] 48 2 #[] #[{ accessFlags := 26, nameIndex := 128, descriptorIndex := 45, attributes := #[] }, { accessFlags := 26, nameIndex := 131, descriptorIndex := 45, attributes := #[] }, { accessFlags := 18, nameIndex := 26, descriptorIndex := 27, attributes := #[] }, { accessFlags := 2, nameIndex := 14, descriptorIndex := 15, attributes := #[] }, { accessFlags := 2, nameIndex := 22, descriptorIndex := 23, attributes := #[] }, { accessFlags := 2, nameIndex := 44, descriptorIndex := 45, attributes := #[] }])
  fields := #[{ name := "INITIAL_SLOTS", type := .int, accessFlags := 26, slot := 0, constantValue := 0 }, { name := "FREE", type := .int, accessFlags := 26, slot := 1, constantValue := 0 }, { name := "mayGrow", type := (.object "java/util/function/LongPredicate"), accessFlags := 18, slot := 0, constantValue := 0 }, { name := "keys", type := (.object "com/example/joinsmith/joinsmith/engine/stats/KeyStore"), accessFlags := 2, slot := 1, constantValue := 0 }, { name := "slots", type := (.object "com/example/joinsmith/joinsmith/engine/stats/PagedInts"), accessFlags := 2, slot := 2, constantValue := 0 }, { name := "size", type := .int, accessFlags := 2, slot := 3, constantValue := 0 }]
  methods := #[k2m0]
  instanceTypes := #[(.object "java/util/function/LongPredicate"), (.object "com/example/joinsmith/joinsmith/engine/stats/KeyStore"), (.object "com/example/joinsmith/joinsmith/engine/stats/PagedInts"), .int]
  staticTypes := #[.int, .int]
  resolved := Array.replicate 159 none
  statics := none }

def pool3 : Array CpInfo := pool [(1, u "java/lang/Cloneable"), (0, .class_ 1), (0, u "java/lang/Object"), (0, .class_ 3)] 3

/-- java/lang/Cloneable -/
def k3 : Class := { plain "java/lang/Cloneable" (some 0) with
  accessFlags := 1537
  interfaces := #[]
  cf := some (fileOf pool3 2 #[] #[] 1537 4 #[] #[])
  fields := #[]
  methods := #[]
  instanceTypes := #[]
  staticTypes := #[]
  resolved := Array.replicate 8 none
  statics := none }

def pool4 : Array CpInfo := pool [(1, u "java/io/Serializable"), (0, .class_ 1), (0, u "java/lang/Object"), (0, .class_ 3)] 3

/-- java/io/Serializable -/
def k4 : Class := { plain "java/io/Serializable" (some 0) with
  accessFlags := 1537
  interfaces := #[]
  cf := some (fileOf pool4 2 #[] #[] 1537 4 #[] #[])
  fields := #[]
  methods := #[]
  instanceTypes := #[]
  staticTypes := #[]
  resolved := Array.replicate 8 none
  statics := none }

/-- the primitive byte -/
def k5 : Class := { plain "byte" none with kind := .primitive 'B', accessFlags := 0x411 }
/-- [B -/
def k6 : Class := { plain "[B" (some 0) with kind := .array 5 .byte, interfaces := #[3, 4], accessFlags := 1041 }

/-- the primitive int -/
def k7 : Class := { plain "int" none with kind := .primitive 'I', accessFlags := 0x411 }
/-- [I -/
def k8 : Class := { plain "[I" (some 0) with kind := .array 7 .int, interfaces := #[3, 4], accessFlags := 1041 }

def heap : Heap := #[]
def classes : Array Class := #[k0, k1, k2, k3, k4, k5, k6, k7, k8]
def interned : List (Array UInt16 × Addr) := []
def slotsUsed : Nat := 0
def theMethod : MethodId := ⟨1, 3⟩
def args0 : Array Value := #[.long 5, .int 300]
def aboutOver (below : List Frame) : State where
  vm := { classes := classes, interned := interned.toArray }
  heap := heap
  slotsUsed := slotsUsed
  threads := #[{ frames := .invoking theMethod args0 :: below }]
def below0 : List Frame := [.native { method := ⟨0, 0⟩, args := #[] }]
def about1 : State := aboutOver below0
def p0 : Program := .bare "" "" ""
def e0 : Env := launch0.env 0 0 0
theorem w_frames : about1.frames = Frame.invoking theMethod args0 :: below0 := rfl
set_option maxRecDepth 65536 in
theorem w_args : argsFit about1.vm theMethod args0 = true := by decide +kernel
set_option maxRecDepth 65536 in
theorem w_heap : heapFits about1 = true := by decide +kernel
set_option maxRecDepth 65536 in
theorem w_runnable : about1.curStatus? = some .runnable := by decide +kernel
set_option maxRecDepth 65536 in
theorem w_alone : about1.alone = true := by decide +kernel
set_option maxRecDepth 65536 in
theorem w_named : about1.methodNamed? x = some theMethod := by decide +kernel
set_option maxRecDepth 65536 in
theorem w_hears : about1.hears theMethod below0 = true := by decide +kernel
set_option maxRecDepth 65536 in
theorem w_ripe : about1.ripe theMethod args0 below0 = true := by decide +kernel
theorem w_running : about1.status = .running := rfl
set_option maxRecDepth 65536 in
theorem w_room : about1.hasRoom e0.platform room_1 = true :=
  launch0.hasRoom_least _ room_1 (by decide +kernel) (by decide +kernel) (by decide +kernel) (by decide +kernel) (by decide +kernel) (by decide +kernel)
theorem allAtoms_all (ts : List Jvm.Cond) (a : Array Jvm.Value) (st : Jvm.State) : (allAtoms ts).before a st = ts.all (fun c => c.before a st) := by
  induction ts with
  | nil => rfl
  | cons c t ih =>
    show (Jvm.Cond.and c (allAtoms t)).before a st = _
    rw [Jvm.Cond.before_and, ih, List.all_cons]
def words1 : List Jvm.Cond := Jvm.Cond.code x code maxLocals ret :: tables_1
/-- a 'code' word, met by the world's own term for the bytes: nothing is compared byte by byte -/
theorem code_word {y : MethodName} {bytes : ByteArray} {mx : Nat} {rt : Option FieldType} {a : Array Value} {s : State} {m : MethodId} {meth : Method} {c : Code} (h1 : s.methodNamed? y = some m) (h2 : s.vm.method? m = some meth) (h3 : meth.code = some c) (h4 : c.code = bytes)
    (h5 : (c.maxLocals == mx && c.exceptionTable.isEmpty && decide (c.maxStack ≤ mostOperands) && decide (meth.sig.returnType = rt) && !meth.locks && decide (parseMethodDescriptor y.desc = some meth.sig)) = true) : (Jvm.Cond.code y bytes mx rt).before a s = true := by
  simp only [Bool.and_eq_true, beq_iff_eq, Bool.not_eq_true', decide_eq_true_eq] at h5
  obtain ⟨⟨⟨⟨⟨g1, g2⟩, g3⟩, g4⟩, g5⟩, g6⟩ := h5
  simp [Cond.before, Cond.holds, Cond.value, h1, h2, h3, h4, g1, g2, g3, g4, g5, g6]
def isCode : Jvm.Cond → Bool
  | .code _ _ _ _ => true
  | _ => false
theorem all_split {L : List Jvm.Cond} {P : Jvm.Cond → Bool} (h1 : L.all (fun c => isCode c || P c) = true) (h2 : ∀ c ∈ L.filter isCode, P c = true) : L.all P = true := by
  refine List.all_eq_true.mpr fun c hc => ?_
  have h := List.all_eq_true.mp h1 c hc
  rcases Bool.eq_false_or_eq_true (isCode c) with hi | hi
  · exact h2 c (List.mem_filter.mpr ⟨hc, hi⟩)
  · simpa [hi] using h
set_option maxRecDepth 65536 in
theorem w_c0 : (Jvm.Cond.code x code maxLocals ret).before args0 about1 = true := code_word (m := ⟨1, 3⟩) (meth := k1m3) (c := k1c3) (by decide +kernel) rfl rfl rfl (by decide +kernel)
set_option maxRecDepth 65536 in
theorem w_c1 : (Jvm.Cond.code ({ cls := "com/example/joinsmith/joinsmith/engine/stats/KeySetHashPinLaw", name := "finish", desc := "(J)I" } : Jvm.MethodName) method_3_code (6 : Nat) (Option.some Jvm.ClassFile.FieldType.int)).before args0 about1 = true := code_word (m := ⟨1, 2⟩) (meth := k1m2) (c := k1c2) (by decide +kernel) rfl rfl rfl (by decide +kernel)
set_option maxRecDepth 65536 in
theorem w_c2 : (Jvm.Cond.code ({ cls := "com/example/joinsmith/joinsmith/engine/stats/KeySet", name := "hash", desc := "([BII)I" } : Jvm.MethodName) prog_75_method_10_code (6 : Nat) (Option.some Jvm.ClassFile.FieldType.int)).before args0 about1 = true := code_word (m := ⟨2, 0⟩) (meth := k2m0) (c := k2c0) (by decide +kernel) rfl rfl rfl (by decide +kernel)
set_option maxRecDepth 65536 in
theorem w_c3 : (Jvm.Cond.code ({ cls := "com/example/joinsmith/joinsmith/engine/stats/KeySetHashPinLaw", name := "step", desc := "(JB)J" } : Jvm.MethodName) method_2_code (5 : Nat) (Option.some Jvm.ClassFile.FieldType.long)).before args0 about1 = true := code_word (m := ⟨1, 1⟩) (meth := k1m1) (c := k1c1) (by decide +kernel) rfl rfl rfl (by decide +kernel)
def codes1 : List Jvm.Cond := [Jvm.Cond.code x code maxLocals ret, Jvm.Cond.code ({ cls := "com/example/joinsmith/joinsmith/engine/stats/KeySetHashPinLaw", name := "finish", desc := "(J)I" } : Jvm.MethodName) method_3_code (6 : Nat) (Option.some Jvm.ClassFile.FieldType.int), Jvm.Cond.code ({ cls := "com/example/joinsmith/joinsmith/engine/stats/KeySet", name := "hash", desc := "([BII)I" } : Jvm.MethodName) prog_75_method_10_code (6 : Nat) (Option.some Jvm.ClassFile.FieldType.int), Jvm.Cond.code ({ cls := "com/example/joinsmith/joinsmith/engine/stats/KeySetHashPinLaw", name := "step", desc := "(JB)J" } : Jvm.MethodName) method_2_code (5 : Nat) (Option.some Jvm.ClassFile.FieldType.long)]
set_option maxRecDepth 65536 in
theorem codes_eq : words1.filter isCode = codes1 := rfl
theorem w_codes : ∀ c ∈ words1.filter isCode, c.before args0 about1 = true := by
  rw [codes_eq]
  intro c hc
  simp only [codes1, List.mem_cons, List.not_mem_nil, or_false] at hc
  rcases hc with rfl | rfl | rfl | rfl
  · exact w_c0
  · exact w_c1
  · exact w_c2
  · exact w_c3
set_option maxRecDepth 65536 in
theorem w_t1 : words1.all (fun c => isCode c || c.before args0 about1) = true := by decide +kernel
theorem w_tables : (allAtoms (Jvm.Cond.code x code maxLocals ret :: tables_1)).before args0 about1 = true := by
  rw [allAtoms_all]
  show words1.all (fun c => c.before args0 about1) = true
  refine all_split ?_ w_codes
  rw [w_t1]
set_option maxRecDepth 65536 in
theorem w_case : (Jvm.Cond.and given_1 narrow_1).before args0 about1 = true := by decide +kernel
theorem w_applies : (headSpec (Jvm.Cond.code x code maxLocals ret :: tables_1) room_1).applies x e0.platform about1 = true :=
  (Spec.applies_iff w_frames).mpr ⟨w_running, w_runnable, w_alone, w_named, w_hears, w_ripe, w_room, w_tables⟩
theorem atStart : AtStart classFile x code maxLocals ret World_1 tables_1 room_1 Calls_1 rest_1 Pre_1 launch0 p0 e0 about1 theMethod args0 below0 :=
  ⟨lists_1, trivial, launch0.admits_env _ _ _, launch0.least_env, fairChoices_fair.cas, fairChoices_fair.clock, w_frames, w_args, w_heap, w_applies, trivial, trivial, w_case⟩
end start1
theorem witness_1 : WitnessClaimed_1 := ⟨start1.p0, start1.e0, start1.about1, start1.theMethod, start1.args0, start1.below0, start1.atStart⟩
end Jvm.Pilot.@@N@@
