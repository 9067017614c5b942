import JvmDerived
import JvmDerived.Pilot.@@N@@Statement
import JvmDerived.Pilot.@@N@@Code
set_option linter.unusedVariables false
set_option linter.unusedSimpArgs false
namespace Jvm.RoadKit
open Sem ClassFile Op Lib Jvm.Stand Jvm.Free Jvm.LawKit
section New
variable {p : Program} {l : Launch} {e : Env} {R : Room} {s : State} {m : MethodId} {args : Array Value} {below : List Frame} {meth : Method} {c : Code} {T : State} {locs : List Loc} {cells slots : Nat}
theorem retI (X : Stand p l e R s m args below meth c T locs cells slots) (hx : p.tables.exec = Jvm.exec) {pc : Nat} {Ls : Array Slot} {z : Int32} {rest : List Value} (hret : meth.sig.returnType = some .int) (hd : decode c.code pc = .ok (.ireturn, 1)) {fs : List Frame}
    (hl : ∀ (f : JFrame) (acts : List Action), f.method = m → f.locked = none → f.entered = [] → (doReturn e (T.setTop f) acts (some (.int z))).1 = T.setFrames fs) : Steps p.tables e below (T.setTop (mkF m pc Ls (.int z :: rest))) (T.setFrames fs) := by
  have hm' : T.vm.method? m = some meth := X.method'
  have hn : narrow .int (.int z) = .int z := rfl
  show Steps p.tables e below (T.setTop { method := m, pc := pc, locals := Ls, stack := _ :: rest, locked := none }) _
  jvm_step X.here [X.here.top, hx, hd, hm', hret, hn]
  first | (intro acts; rw [hl _ acts rfl rfl rfl]) | rw [hl _ _ rfl rfl rfl]
  exact Steps.refl _
end New
end Jvm.RoadKit
namespace Jvm.Pilot.@@N@@
open Jvm Jvm.ClassFile Sem Op Lib Jvm.Free Jvm.Stand Jvm.LawKit Jvm.RoadKit Bundle Jvm.Pilot.@@N@@.Jvm.D

section Kit
variable {p : Program} {l : Launch} {e : Env} {R : Room} {s : State} {m : MethodId} {args : Array Value} {below : List Frame} {meth : Method} {c : Code} {T T' : State} {locs : List Loc} {cells slots : Nat} {Z : State} {a0 : Array Value} {h h' : Heap}
/-- from T at the frame g the run comes to a state of which Q holds -/
def WP (p : Program) (e : Env) (below : List Frame) (Q : State → Prop) (T : State) (g : JFrame) : Prop :=
  ∃ t, Steps p.tables e below (T.setTop g) t ∧ Q t
theorem wp {Q : State → Prop} {g g' : JFrame} (h : ∀ t, Steps p.tables e below (T'.setTop g') t → Steps p.tables e below (T.setTop g) t) (k : WP p e below Q T' g') : WP p e below Q T g := by
  obtain ⟨t, a, b⟩ := k
  exact ⟨t, h t a, b⟩
/-- the end that a contract asks -/
def Ends (s : State) (below : List Frame) (q : Option Value → Heap → List Loc → Prop) (Cn Sn : Nat) (t : State) : Prop :=
  ∃ o, t.status = .running ∧ Ended t below o ∧ ∃ v L, o = .returned v ∧ q v t.heap L ∧ FrameEnd s o t L Cn Sn
/-- what a walk knows of its method -/
def Cx (p : Program) (s : State) (m : MethodId) (meth : Method) (c : Code) (Z : State) (a0 : Array Value) (bytes : ByteArray) (ml : Nat) (own nm : String) (ret : Option FieldType) : Prop :=
  p.tables.exec = Jvm.exec ∧ Z.Warmed39 s.vm ∧ (∀ d ∈ tables_1, d.before a0 Z = true) ∧ c.code = bytes ∧ c.maxLocals = ml ∧ s.vm.findClass own = some m.cls ∧ meth.name = nm ∧ meth.sig.returnType = ret ∧ meth.locks = false
/-- a contract: from the heap h, with the arguments as, it returns and q holds -/
def MetQ (l : Launch) (Z : State) (y : MethodName) (bytes : ByteArray) (ml : Nat) (ret : Option FieldType) (ws : List Jvm.Cond) (rm : Room) (as : Array Value) (h : Heap) (q : Option Value → Heap → List Loc → Prop) : Prop :=
  MetFree l y (head1 (Jvm.Cond.code y bytes ml ret :: ws) rm) (fun a U => a = as ∧ Z.Warmed39 U.vm ∧ U.heap = h) (fun _ _ _ _ _ => True) (fun _ U o U' => ∃ v L, o = .returned v ∧ q v U'.heap L ∧ FrameEnd U o U' L rm.cells rm.slots)
theorem metQ {y : MethodName} {bytes : ByteArray} {ml : Nat} {ret : Option FieldType} {ws : List Jvm.Cond} {rm : Room} {as : Array Value} {q : Option Value → Heap → List Loc → Prop} {Ls : Array Slot} (hpl : plainFor y = true) (hw : ∀ d ∈ tables_1, d.before a0 Z = true)
    (hef : ∀ m, entryFrame m as ml = mkF m 0 Ls [])
    (body : ∀ p e s m below meth c s₁, Cx p s m meth c Z a0 bytes ml y.cls y.name ret → Stand p l e rm s m as below meth c s₁ [] 0 0 → s₁.heap = h → WP p e below (Ends s below q rm.cells rm.slots) s₁ (mkF m 0 Ls [])) :
    MetQ l Z y bytes ml ret ws rm as h q := by
  refine MetFree.of_bodySF hpl hisR ?_
  intro p e s m args below meth c s₁ Bd hml0 hP hK
  obtain ⟨rfl, hZ, hh⟩ := hP
  obtain ⟨t, st, o, a, b, d⟩ := body p e s m below meth c s₁ ⟨Bd.exec, hZ, hw, Bd.bytes, hml0, findClass_of_methodNamed Bd.named, (name_of_methodNamed Bd.named Bd.method).1, Bd.returns, Bd.notSynchronized⟩ (Stand.of_body Bd) (by rw [← hh, Bd.state]; rfl)
  exact ⟨t, o, castTop (hef m) st, a, b, d⟩
theorem wp_ret {q : Option Value → Heap → List Loc → Prop} {Cn Sn : Nat} {v : Option Value} {g : JFrame} (X : Stand p l e R s m args below meth c T locs cells slots) (hlk : meth.locks = false) (hv : meth.sig.returnType = none → v = none)
    (hst : ∀ fs, (∀ (f : JFrame) (acts : List Action), f.method = m → f.locked = none → f.entered = [] → (doReturn e (T.setTop f) acts v).1 = T.setFrames fs) → Steps p.tables e below (T.setTop g) (T.setFrames fs)) (hq : q v T.heap locs) (hc : cells ≤ Cn) (hs : slots ≤ Sn) :
    WP p e below (Ends s below q Cn Sn) T g := by
  obtain ⟨fs, hr, hrun, hended, hW, hsame⟩ := X.leave (v := v) hv hlk
  exact ⟨_, hst fs hr, _, hrun, hended, _, _, rfl, hq, ⟨_, rfl⟩, hW, hsame.mono hc hs⟩
theorem wp_ireturn {q : Option Value → Heap → List Loc → Prop} {Cn Sn : Nat} {bytes : ByteArray} {ml pc : Nat} {own nm : String} {Ls : Array Slot} {z : Int32} {rest : List Value} (C : Cx p s m meth c Z a0 bytes ml own nm (some .int)) (X : Stand p l e R s m args below meth c T locs cells slots)
    (hd : decode bytes pc = .ok (.ireturn, 1)) (hq : q (some (.int z)) T.heap locs) (hc : cells ≤ Cn) (hs : slots ≤ Sn) : WP p e below (Ends s below q Cn Sn) T (mkF m pc Ls (.int z :: rest)) := by
  obtain ⟨hx, hZ, hw, hby, hml, hown, hnm, hret, hlk⟩ := C
  exact wp_ret X hlk (fun h => by rw [hret] at h; cases h) (fun fs hr => retI X hx hret (hb hby hd) hr) hq hc hs
theorem wp_zreturn {q : Option Value → Heap → List Loc → Prop} {Cn Sn : Nat} {bytes : ByteArray} {ml pc : Nat} {own nm : String} {t : FieldType} {Ls : Array Slot} {z : Int32} {rest : List Value} (C : Cx p s m meth c Z a0 bytes ml own nm (some t)) (X : Stand p l e R s m args below meth c T locs cells slots)
    (ht : t = .boolean ∨ t = .byte ∨ t = .char ∨ t = .short) (hd : decode bytes pc = .ok (.ireturn, 1)) (hq : q (some (.int (nar t z))) T.heap locs) (hc : cells ≤ Cn) (hs : slots ≤ Sn) : WP p e below (Ends s below q Cn Sn) T (mkF m pc Ls (.int z :: rest)) := by
  obtain ⟨hx, hZ, hw, hby, hml, hown, hnm, hret, hlk⟩ := C
  exact wp_ret X hlk (fun h => by rw [hret] at h; cases h) (fun fs hr => retN X hx hret ht (hb hby hd) hr) hq hc hs
theorem wp_lreturn {q : Option Value → Heap → List Loc → Prop} {Cn Sn : Nat} {bytes : ByteArray} {ml pc : Nat} {own nm : String} {Ls : Array Slot} {z : Int64} {rest : List Value} (C : Cx p s m meth c Z a0 bytes ml own nm (some .long)) (X : Stand p l e R s m args below meth c T locs cells slots)
    (hd : decode bytes pc = .ok (.lreturn, 1)) (hq : q (some (.long z)) T.heap locs) (hc : cells ≤ Cn) (hs : slots ≤ Sn) : WP p e below (Ends s below q Cn Sn) T (mkF m pc Ls (.long z :: rest)) := by
  obtain ⟨hx, hZ, hw, hby, hml, hown, hnm, hret, hlk⟩ := C
  exact wp_ret X hlk (fun h => by rw [hret] at h; cases h) (fun fs hr => retOut X hx hret rfl (Or.inr (Or.inl ⟨rfl, rfl, z, rfl⟩)) (hb hby hd) hr) hq hc hs
theorem wp_dreturn {q : Option Value → Heap → List Loc → Prop} {Cn Sn : Nat} {bytes : ByteArray} {ml pc : Nat} {own nm : String} {Ls : Array Slot} {z : UInt64} {rest : List Value} (C : Cx p s m meth c Z a0 bytes ml own nm (some .double)) (X : Stand p l e R s m args below meth c T locs cells slots)
    (hd : decode bytes pc = .ok (.dreturn, 1)) (hq : q (some (.double z)) T.heap locs) (hc : cells ≤ Cn) (hs : slots ≤ Sn) : WP p e below (Ends s below q Cn Sn) T (mkF m pc Ls (.double z :: rest)) := by
  obtain ⟨hx, hZ, hw, hby, hml, hown, hnm, hret, hlk⟩ := C
  exact wp_ret X hlk (fun h => by rw [hret] at h; cases h) (fun fs hr => retOut X hx hret rfl (Or.inr (Or.inr (Or.inl ⟨rfl, rfl, z, rfl⟩))) (hb hby hd) hr) hq hc hs
theorem wp_vreturn {q : Option Value → Heap → List Loc → Prop} {Cn Sn : Nat} {bytes : ByteArray} {ml pc : Nat} {own nm : String} {Ls : Array Slot} (C : Cx p s m meth c Z a0 bytes ml own nm none) (X : Stand p l e R s m args below meth c T locs cells slots)
    (hd : decode bytes pc = .ok (.return_, 1)) (hq : q none T.heap locs) (hc : cells ≤ Cn) (hs : slots ≤ Sn) : WP p e below (Ends s below q Cn Sn) T (mkF m pc Ls []) := by
  obtain ⟨hx, hZ, hw, hby, hml, hown, hnm, hret, hlk⟩ := C
  exact wp_ret X hlk (fun _ => rfl) (fun fs hr => X.returnOut hx hret (hb hby hd) hr) hq hc hs
/-! calls -/
theorem wp_static {Q : State → Prop} {bytes : ByteArray} {ml : Nat} {own nm : String} {ret : Option FieldType} {y : MethodName} {bytes' : ByteArray} {ml' : Nat} {ret' : Option FieldType} {rm : Room} {index pc : Nat} {Ls : Array Slot} {argsL rest st : List Value} {q : Option Value → Heap → List Loc → Prop}
    (C : Cx p s m meth c Z a0 bytes ml own nm ret) (X : Stand p l e R s m args below meth c T locs cells slots) (e0 : T.heap = h)
    (met : MetQ l Z y bytes' ml' ret' [] rm argsL.toArray h q)
    (w1 : (Jvm.Cond.methodLink own index y).before a0 Z = true) (w2 : (Jvm.Cond.static y).before a0 Z = true) (w3 : (Jvm.Cond.initialized y.cls).before a0 Z = true) (w4 : (Jvm.Cond.code y bytes' ml' ret').before a0 Z = true)
    (hy : y.cls ≠ "java/lang/invoke/MethodHandle" ∧ y.cls ≠ "java/lang/invoke/VarHandle") (hsz : Ls.size = ml) (hlen : ∀ sig, parseMethodDescriptor y.desc = some sig → argsL.length = sig.parameters.length)
    (hd : decode bytes pc = .ok (.invokestatic index, 3)) (hst : st = argsL.reverse ++ rest) (hf : rm.frames + 1 ≤ R.frames) (hl : (rest.map fun v => v.category).sum + (ml' + 11) + rm.locals ≤ R.locals) (hc : cells + rm.cells ≤ R.cells) (hs : slots + rm.slots ≤ R.slots)
    (k : ∀ T' v L, Stand p l e R s m args below meth c T' (locs ++ L) (cells + rm.cells) (slots + rm.slots) → q v T'.heap L → WP p e below Q T' (mkF m (pc + 3) Ls (v.toList ++ rest))) :
    WP p e below Q T (mkF m pc Ls st) := by
  obtain ⟨hx, hZ, hw, hby, hml, hown, hnm, hret, hlk⟩ := C
  obtain ⟨v, _, ⟨T1, L1, k1, n1⟩, -, X1, ⟨Lc1, hQ1, l1, y1, z1⟩, st1⟩ := Jvm.LawKit.callS X hx (y := y) hown (mvT hZ w1) (mvT hZ w2) (mvT hZ w3) (mvT hZ w4) hy (backOf (W := (rest.map fun v => v.category).sum) met hZ w4 w3 hf hl) (g := mkF m pc Ls st) rfl (hsz.trans hml.symm) (argsL := argsL) (rest := rest) hlen hst (Nat.le_of_eq (Nat.zero_add _)) (hb hby hd) (fun _ _ => ⟨rfl, e0, hc, hs⟩)
  dsimp only [Pt.U, Pt.locs, Pt.cells, Pt.slots] at X1 l1 y1 z1 st1 hQ1
  subst l1 y1 z1
  exact wp st1 (k T1 v Lc1 X1 hQ1)
/-- what a callee that writes nothing leaves -/
def PureQ (r : Option Value) (h : Heap) : Option Value → Heap → List Loc → Prop := fun v h' L => v = r ∧ h' = h ∧ L = []
theorem wp_staticP {Q : State → Prop} {bytes : ByteArray} {ml : Nat} {own nm : String} {ret : Option FieldType} {y : MethodName} {bytes' : ByteArray} {ml' : Nat} {ret' : Option FieldType} {rm : Room} {index pc : Nat} {Ls : Array Slot} {argsL rest st : List Value} {r : Option Value}
    (C : Cx p s m meth c Z a0 bytes ml own nm ret) (X : Stand p l e R s m args below meth c T locs cells slots) (e0 : T.heap = h)
    (met : MetQ l Z y bytes' ml' ret' [] rm argsL.toArray h (PureQ r h))
    (w1 : (Jvm.Cond.methodLink own index y).before a0 Z = true) (w2 : (Jvm.Cond.static y).before a0 Z = true) (w3 : (Jvm.Cond.initialized y.cls).before a0 Z = true) (w4 : (Jvm.Cond.code y bytes' ml' ret').before a0 Z = true)
    (hy : y.cls ≠ "java/lang/invoke/MethodHandle" ∧ y.cls ≠ "java/lang/invoke/VarHandle") (hsz : Ls.size = ml) (hlen : ∀ sig, parseMethodDescriptor y.desc = some sig → argsL.length = sig.parameters.length)
    (hd : decode bytes pc = .ok (.invokestatic index, 3)) (hst : st = argsL.reverse ++ rest) (hrc : rm.cells = 0) (hrs : rm.slots = 0) (hf : rm.frames + 1 ≤ R.frames) (hl : (rest.map fun v => v.category).sum + (ml' + 11) + rm.locals ≤ R.locals) (hc : cells ≤ R.cells) (hs : slots ≤ R.slots)
    (k : ∀ T', Stand p l e R s m args below meth c T' locs cells slots → T'.heap = h → WP p e below Q T' (mkF m (pc + 3) Ls (r.toList ++ rest))) :
    WP p e below Q T (mkF m pc Ls st) := by
  refine wp_static C X e0 met w1 w2 w3 w4 hy hsz hlen hd hst hf hl (by rw [hrc]; exact hc) (by rw [hrs]; exact hs) ?_
  rintro T1 v L X1 ⟨rfl, e1, rfl⟩
  rw [hrc, hrs, List.append_nil] at X1
  exact k T1 X1 e1
theorem wp_virtual {Q : State → Prop} {bytes : ByteArray} {ml : Nat} {own nm : String} {ret : Option FieldType} {y : MethodName} {bytes' : ByteArray} {ml' : Nat} {ret' : Option FieldType} {rm : Room} {index pc : Nat} {Ls : Array Slot} {b : Addr} {argsL rest st : List Value} {q : Option Value → Heap → List Loc → Prop}
    (C : Cx p s m meth c Z a0 bytes ml own nm ret) (X : Stand p l e R s m args below meth c T locs cells slots) (e0 : T.heap = h) (E : Exa Z h b y.cls)
    (met : MetQ l Z y bytes' ml' ret' [] rm (.ref b :: argsL).toArray h q)
    (w1 : (Jvm.Cond.methodLink own index y).before a0 Z = true) (w2 : (Jvm.Cond.declares y).before a0 Z = true) (w3 : (Jvm.Cond.selects y.cls y y).before a0 Z = true) (w5 : (Jvm.Cond.instanceMethod y).before a0 Z = true) (w4 : (Jvm.Cond.code y bytes' ml' ret').before a0 Z = true) (w6 : (Jvm.Cond.initialized y.cls).before a0 Z = true)
    (hy : y.cls ≠ "java/lang/invoke/MethodHandle" ∧ y.cls ≠ "java/lang/invoke/VarHandle") (hsz : Ls.size = ml) (hlen : ∀ sig, parseMethodDescriptor y.desc = some sig → argsL.length = sig.parameters.length)
    (hd : decode bytes pc = .ok (.invokevirtual index, 3)) (hst : st = argsL.reverse ++ .ref b :: rest) (hf : rm.frames + 1 ≤ R.frames) (hl : (rest.map fun v => v.category).sum + (ml' + 11) + rm.locals ≤ R.locals) (hc : cells + rm.cells ≤ R.cells) (hs : slots + rm.slots ≤ R.slots)
    (k : ∀ T' v L, Stand p l e R s m args below meth c T' (locs ++ L) (cells + rm.cells) (slots + rm.slots) → q v T'.heap L → WP p e below Q T' (mkF m (pc + 3) Ls (v.toList ++ rest))) :
    WP p e below Q T (mkF m pc Ls st) := by
  obtain ⟨hx, hZ, hw, hby, hml, hown, hnm, hret, hlk⟩ := C
  obtain ⟨cq, kq, qa, qb, qc⟩ := isOf hZ e0 E
  obtain ⟨v, _, ⟨T1, L1, k1, n1⟩, -, X1, ⟨Lc1, hQ1, l1, y1, z1⟩, st1⟩ := X.virtualBack hx (y := y) (z := y) hown (mvT hZ w1) (mvT hZ w2) (notFace_of_selects (args := #[]) (mvT hZ w3)) (mvT hZ w3) (mvT hZ w5) hy (backOf (W := (rest.map fun v => v.category).sum) met hZ w4 w6 hf hl) qa qc (g := mkF m pc Ls st) rfl (hsz.trans hml.symm) (Steps.refl _) (argsL := argsL) (rest := rest) hlen hst (Nat.le_of_eq (Nat.zero_add _)) (hb hby hd) (fun _ _ => ⟨rfl, e0, hc, hs⟩)
  dsimp only [Pt.U, Pt.locs, Pt.cells, Pt.slots] at X1 l1 y1 z1 st1 hQ1
  subst l1 y1 z1
  exact wp (fun _ k => st1.trans k) (k T1 v Lc1 X1 hQ1)
theorem wp_special {Q : State → Prop} {bytes : ByteArray} {ml : Nat} {own nm : String} {ret : Option FieldType} {y : MethodName} {bytes' : ByteArray} {ml' : Nat} {rm : Room} {index pc : Nat} {Ls : Array Slot} {b : Addr} {argsL rest st : List Value} {q : Option Value → Heap → List Loc → Prop}
    (C : Cx p s m meth c Z a0 bytes ml own nm ret) (X : Stand p l e R s m args below meth c T locs cells slots) (e0 : T.heap = h)
    (met : MetQ l Z y bytes' ml' none [] rm (.ref b :: argsL).toArray h q) (hy1 : y.name = "<init>")
    (w1 : (Jvm.Cond.methodLink own index y).before a0 Z = true) (w5 : (Jvm.Cond.instanceMethod y).before a0 Z = true) (w4 : (Jvm.Cond.code y bytes' ml' none).before a0 Z = true) (w6 : (Jvm.Cond.initialized y.cls).before a0 Z = true)
    (hy : y.cls ≠ "java/lang/invoke/MethodHandle" ∧ y.cls ≠ "java/lang/invoke/VarHandle") (hsz : Ls.size = ml) (hlen : ∀ sig, parseMethodDescriptor y.desc = some sig → argsL.length = sig.parameters.length)
    (hd : decode bytes pc = .ok (.invokespecial index, 3)) (hst : st = argsL.reverse ++ .ref b :: rest) (hf : rm.frames + 1 ≤ R.frames) (hl : (rest.map fun v => v.category).sum + (ml' + 11) + rm.locals ≤ R.locals) (hc : cells + rm.cells ≤ R.cells) (hs : slots + rm.slots ≤ R.slots)
    (k : ∀ T' v L, Stand p l e R s m args below meth c T' (locs ++ L) (cells + rm.cells) (slots + rm.slots) → q v T'.heap L → WP p e below Q T' (mkF m (pc + 3) Ls (v.toList ++ rest))) :
    WP p e below Q T (mkF m pc Ls st) := by
  obtain ⟨hx, hZ, hw, hby, hml, hown, hnm, hret, hlk⟩ := C
  obtain ⟨v, _, ⟨T1, L1, k1, n1⟩, -, X1, ⟨Lc1, hQ1, l1, y1, z1⟩, st1⟩ := X.specialBack hx (y := y) hy1 hown (mvT hZ w1) (mvT hZ w5) (mvT hZ w4) hy (backOf (W := (rest.map fun v => v.category).sum) met hZ w4 w6 hf hl) (g := mkF m pc Ls st) rfl (hsz.trans hml.symm) (Steps.refl _) (a := b) (argsL := argsL) (rest := rest) hlen hst (Nat.le_of_eq (Nat.zero_add _)) (hb hby hd) (fun _ _ => ⟨rfl, e0, hc, hs⟩)
  dsimp only [Pt.U, Pt.locs, Pt.cells, Pt.slots] at X1 l1 y1 z1 st1 hQ1
  subst l1 y1 z1
  exact wp (fun _ k => st1.trans k) (k T1 v Lc1 X1 hQ1)
/-! arrays by their places: place j holds f j -/
def Af (Z : State) (h : Heap) (a : Addr) (ty : FieldType) (n : Nat) (f : Nat → Value) : Prop := ∃ cl : Cell, Arr Z h a cl ty ∧ cl.slots.size = n ∧ ∀ j, j < n → cl.slots[j]? = some (f j)
theorem Af.lt {a : Addr} {ty : FieldType} {n : Nat} {f : Nat → Value} (A : Af Z h a ty n f) : a < h.size := by obtain ⟨c, A, -⟩ := A; exact A.lt
theorem Af.ext {a : Addr} {ty : FieldType} {n : Nat} {f : Nat → Value} (A : Af Z h a ty n f) (E : Ext h h') : Af Z h' a ty n f := by obtain ⟨c, A, r⟩ := A; exact ⟨c, A.ext E, r⟩
theorem Af.other {a b : Addr} {ty : FieldType} {n sl : Nat} {v : Value} {f : Nat → Value} (A : Af Z h b ty n f) (W : Wr h h' a sl v) (q : b ≠ a) : Af Z h' b ty n f := by obtain ⟨c, A, r⟩ := A; exact ⟨c, A.other W q, r⟩
theorem Af.keep {a : Addr} {ty : FieldType} {n : Nat} {f : Nat → Value} {ws : List Addr} (A : Af Z h a ty n f) (K : Keep h h' ws) (q : a ∉ ws) : Af Z h' a ty n f := by obtain ⟨c, A, r⟩ := A; exact ⟨c, ⟨K.2.1 a c A.1 q, A.2⟩, r⟩
theorem Af.conv {a : Addr} {ty : FieldType} {n : Nat} {f g : Nat → Value} (A : Af Z h a ty n f) (q : ∀ j, j < n → f j = g j) : Af Z h a ty n g := by obtain ⟨c, A, r1, r2⟩ := A; exact ⟨c, A, r1, fun j hj => by rw [← q j hj]; exact r2 j hj⟩
theorem Af.set {a : Addr} {ty : FieldType} {n i : Nat} {v : Value} {f : Nat → Value} (A : Af Z h a ty n f) (W : Wr h h' a i v) (hi : i < n) : Af Z h' a ty n (fun j => if j = i then v else f j) := by
  obtain ⟨c, A, r1, r2⟩ := A
  refine ⟨_, A.same W, by rw [sz_set]; exact r1, fun j hj => ?_⟩
  show (c.slots.setIfInBounds i v)[j]? = _
  by_cases q : j = i
  · subst q; simp [r1, hi]
  · rw [Array.getElem?_setIfInBounds_ne (Ne.symm q), r2 j hj]; simp [q]
theorem clampNeg {z : Int32} {j : Nat} (hz : z.toInt = (j : Int)) : z.toNatClampNeg = j := by
  rw [Int32.toNatClampNeg, hz]; rfl
theorem idxIn {z : Int32} {j n : Nat} (hz : z.toInt = (j : Int)) (hj : j < n) : ¬ (z < 0 ∨ n ≤ z.toNatClampNeg) := by
  rw [clampNeg hz, Int32.lt_iff_toInt_lt, hz, show (0 : Int32).toInt = 0 from rfl]
  omega
theorem wp_newarray {Q : State → Prop} {bytes : ByteArray} {ml : Nat} {own nm : String} {ret : Option FieldType} {aty : ArrayType} {pc n : Nat} {z : Int32} {Ls : Array Slot} {rest : List Value}
    (C : Cx p s m meth c Z a0 bytes ml own nm ret) (X : Stand p l e R s m args below meth c T locs cells slots) (e0 : T.heap = h) (w : (Jvm.Cond.arrayClass (newarray.typeOf aty)).before a0 Z = true) (hd : decode bytes pc = .ok (.newarray aty, 2)) (hz : z.toInt = (n : Int)) {cap : Nat} (hn : n ≤ cap) (hcap : cap * 8 ≤ 536870912)
    (hc : cells + 1 ≤ R.cells) (hs : slots + cap ≤ R.slots)
    (k : ∀ T' h', Stand p l e R s m args below meth c T' locs (cells + 1) (slots + cap) → T'.heap = h' → Ext h h' → Af Z h' h.size (newarray.typeOf aty) n (fun _ => defaultValue (newarray.typeOf aty)) → WP p e below Q T' (mkF m (pc + 2) Ls (.ref h.size :: rest))) :
    WP p e below Q T (mkF m pc Ls (.int z :: rest)) := by
  obtain ⟨hx, hZ, hw, hby, hml, hown, hnm, hret, hlk⟩ := C
  obtain ⟨T1, h1, k1, X1, e1, E1, A1, st1⟩ := newP X hx hZ w e0 (g := mkF m pc Ls (.int z :: rest)) rfl (hb hby hd) rfl (by rw [Int32.lt_iff_toInt_lt, hz, show (0 : Int32).toInt = 0 from rfl]; omega) (cap := cap) (by rw [clampNeg hz]; exact hn) hcap hc hs
  refine wp st1 (k T1 h1 X1 e1 E1 ⟨_, A1, by rw [sz_new, clampNeg hz], fun j hj => ?_⟩)
  simp [newA, clampNeg hz, hj]
theorem wp_bastore {Q : State → Prop} {bytes : ByteArray} {ml : Nat} {own nm : String} {ret : Option FieldType} {pc n j : Nat} {zj x : Int32} {a : Addr} {f : Nat → Value} {Ls : Array Slot} {rest : List Value}
    (C : Cx p s m meth c Z a0 bytes ml own nm ret) (X : Stand p l e R s m args below meth c T locs cells slots) (e0 : T.heap = h) (A : Af Z h a .byte n f) (hz : zj.toInt = (j : Int)) (hj : j < n) (hd : decode bytes pc = .ok (.bastore, 1))
    (k : ∀ T' h', Stand p l e R s m args below meth c T' (locs ++ [⟨a, zj.toNatClampNeg⟩]) cells slots → T'.heap = h' → Wr h h' a j (.int (nar .byte x)) → Af Z h' a .byte n (fun i => if i = j then .int (nar .byte x) else f i) → WP p e below Q T' (mkF m (pc + 1) Ls rest)) :
    WP p e below Q T (mkF m pc Ls (.int x :: .int zj :: .ref a :: rest)) := by
  obtain ⟨hx, hZ, hw, hby, hml, hown, hnm, hret, hlk⟩ := C
  obtain ⟨cl, Ar, Sz, H⟩ := id A
  obtain ⟨T1, h1, X1, e1, W1, st1⟩ := stB X hx hZ e0 Ar (j := zj) (by rw [Sz]; exact idxIn hz hj) (g := mkF m pc Ls (.int x :: .int zj :: .ref a :: rest)) rfl rfl (hb hby hd)
  rw [clampNeg hz] at W1
  exact wp st1 (k T1 h1 X1 e1 W1 (A.set W1 hj))
theorem wp_iastore {Q : State → Prop} {bytes : ByteArray} {ml : Nat} {own nm : String} {ret : Option FieldType} {pc n j : Nat} {zj x : Int32} {a : Addr} {f : Nat → Value} {Ls : Array Slot} {rest : List Value}
    (C : Cx p s m meth c Z a0 bytes ml own nm ret) (X : Stand p l e R s m args below meth c T locs cells slots) (e0 : T.heap = h) (A : Af Z h a .int n f) (hz : zj.toInt = (j : Int)) (hj : j < n) (hd : decode bytes pc = .ok (.iastore, 1))
    (k : ∀ T' h', Stand p l e R s m args below meth c T' (locs ++ [⟨a, zj.toNatClampNeg⟩]) cells slots → T'.heap = h' → Wr h h' a j (.int x) → Af Z h' a .int n (fun i => if i = j then .int x else f i) → WP p e below Q T' (mkF m (pc + 1) Ls rest)) :
    WP p e below Q T (mkF m pc Ls (.int x :: .int zj :: .ref a :: rest)) := by
  obtain ⟨hx, hZ, hw, hby, hml, hown, hnm, hret, hlk⟩ := C
  obtain ⟨cl, Ar, Sz, H⟩ := id A
  obtain ⟨T1, h1, X1, e1, W1, st1⟩ := stI X hx hZ e0 Ar (j := zj) (by rw [Sz]; exact idxIn hz hj) (g := mkF m pc Ls (.int x :: .int zj :: .ref a :: rest)) rfl rfl (hb hby hd)
  rw [clampNeg hz] at W1
  exact wp st1 (k T1 h1 X1 e1 W1 (A.set W1 hj))
theorem wp_lastore {Q : State → Prop} {bytes : ByteArray} {ml : Nat} {own nm : String} {ret : Option FieldType} {pc n j : Nat} {zj : Int32} {x : Int64} {a : Addr} {f : Nat → Value} {Ls : Array Slot} {rest : List Value}
    (C : Cx p s m meth c Z a0 bytes ml own nm ret) (X : Stand p l e R s m args below meth c T locs cells slots) (e0 : T.heap = h) (A : Af Z h a .long n f) (hz : zj.toInt = (j : Int)) (hj : j < n) (hd : decode bytes pc = .ok (.lastore, 1))
    (k : ∀ T' h', Stand p l e R s m args below meth c T' (locs ++ [⟨a, zj.toNatClampNeg⟩]) cells slots → T'.heap = h' → Wr h h' a j (.long x) → Af Z h' a .long n (fun i => if i = j then .long x else f i) → WP p e below Q T' (mkF m (pc + 1) Ls rest)) :
    WP p e below Q T (mkF m pc Ls (.long x :: .int zj :: .ref a :: rest)) := by
  obtain ⟨hx, hZ, hw, hby, hml, hown, hnm, hret, hlk⟩ := C
  obtain ⟨cl, Ar, Sz, H⟩ := id A
  obtain ⟨T1, h1, X1, e1, W1, st1⟩ := stJ X hx hZ e0 Ar (j := zj) (by rw [Sz]; exact idxIn hz hj) (g := mkF m pc Ls (.long x :: .int zj :: .ref a :: rest)) rfl rfl (hb hby hd)
  rw [clampNeg hz] at W1
  exact wp st1 (k T1 h1 X1 e1 W1 (A.set W1 hj))
theorem wp_baload {Q : State → Prop} {bytes : ByteArray} {ml : Nat} {own nm : String} {ret : Option FieldType} {pc n j : Nat} {zj : Int32} {v : Value} {a : Addr} {f : Nat → Value} {Ls : Array Slot} {rest : List Value}
    (C : Cx p s m meth c Z a0 bytes ml own nm ret) (X : Stand p l e R s m args below meth c T locs cells slots) (e0 : T.heap = h) (A : Af Z h a .byte n f) (hz : zj.toInt = (j : Int)) (hj : j < n) (hv : f j = v) (hd : decode bytes pc = .ok (.baload, 1))
    (k : WP p e below Q T (mkF m (pc + 1) Ls (v :: rest))) : WP p e below Q T (mkF m pc Ls (.int zj :: .ref a :: rest)) := by
  obtain ⟨hx, hZ, hw, hby, hml, hown, hnm, hret, hlk⟩ := C
  obtain ⟨cl, Ar, Sz, H⟩ := A
  exact wp (fun t kt => X.baloadBytes hx (j := zj) (v := v) (by rw [e0]; exact Ar.1) (State.isArrayOf_alike hZ.alike Ar.2.1) Ar.2.2 (by rw [Sz]; exact idxIn hz hj) (by rw [clampNeg hz, H j hj, hv]) (g := mkF m pc Ls (.int zj :: .ref a :: rest)) rfl rfl (hb hby hd) t kt) k
theorem wp_iaload {Q : State → Prop} {bytes : ByteArray} {ml : Nat} {own nm : String} {ret : Option FieldType} {pc n j : Nat} {zj : Int32} {v : Value} {a : Addr} {f : Nat → Value} {Ls : Array Slot} {rest : List Value}
    (C : Cx p s m meth c Z a0 bytes ml own nm ret) (X : Stand p l e R s m args below meth c T locs cells slots) (e0 : T.heap = h) (A : Af Z h a .int n f) (hz : zj.toInt = (j : Int)) (hj : j < n) (hv : f j = v) (hd : decode bytes pc = .ok (.iaload, 1))
    (k : WP p e below Q T (mkF m (pc + 1) Ls (v :: rest))) : WP p e below Q T (mkF m pc Ls (.int zj :: .ref a :: rest)) := by
  obtain ⟨hx, hZ, hw, hby, hml, hown, hnm, hret, hlk⟩ := C
  obtain ⟨cl, Ar, Sz, H⟩ := A
  exact wp (fun t kt => X.iaload hx (j := zj) (v := v) (by rw [e0]; exact Ar.1) (State.isArrayOf_alike hZ.alike Ar.2.1) Ar.2.2 (by rw [Sz]; exact idxIn hz hj) (by rw [clampNeg hz, H j hj, hv]) (g := mkF m pc Ls (.int zj :: .ref a :: rest)) rfl rfl (hb hby hd) t kt) k
theorem wp_laload {Q : State → Prop} {bytes : ByteArray} {ml : Nat} {own nm : String} {ret : Option FieldType} {pc n j : Nat} {zj : Int32} {v : Value} {a : Addr} {f : Nat → Value} {Ls : Array Slot} {rest : List Value}
    (C : Cx p s m meth c Z a0 bytes ml own nm ret) (X : Stand p l e R s m args below meth c T locs cells slots) (e0 : T.heap = h) (A : Af Z h a .long n f) (hz : zj.toInt = (j : Int)) (hj : j < n) (hv : f j = v) (hd : decode bytes pc = .ok (.laload, 1))
    (k : WP p e below Q T (mkF m (pc + 1) Ls (v :: rest))) : WP p e below Q T (mkF m pc Ls (.int zj :: .ref a :: rest)) := by
  obtain ⟨hx, hZ, hw, hby, hml, hown, hnm, hret, hlk⟩ := C
  obtain ⟨cl, Ar, Sz, H⟩ := A
  exact wp (fun t kt => X.laload hx (j := zj) (v := v) (by rw [e0]; exact Ar.1) (State.isArrayOf_alike hZ.alike Ar.2.1) Ar.2.2 (by rw [Sz]; exact idxIn hz hj) (by rw [clampNeg hz, H j hj, hv]) (g := mkF m pc Ls (.int zj :: .ref a :: rest)) rfl rfl (hb hby hd) t kt) k
theorem wp_arraylength {Q : State → Prop} {bytes : ByteArray} {ml : Nat} {own nm : String} {ret : Option FieldType} {pc n : Nat} {a : Addr} {ty : FieldType} {f : Nat → Value} {Ls : Array Slot} {rest : List Value}
    (C : Cx p s m meth c Z a0 bytes ml own nm ret) (X : Stand p l e R s m args below meth c T locs cells slots) (e0 : T.heap = h) (A : Af Z h a ty n f) (hd : decode bytes pc = .ok (.arraylength, 1))
    (k : WP p e below Q T (mkF m (pc + 1) Ls (.int (Int32.ofNat n) :: rest))) : WP p e below Q T (mkF m pc Ls (.ref a :: rest)) := by
  obtain ⟨hx, hZ, hw, hby, hml, hown, hnm, hret, hlk⟩ := C
  obtain ⟨cl, Ar, Sz, H⟩ := A
  refine wp (fun t kt => X.arraylength hx (by rw [e0]; exact Ar.1) (State.isArrayOf_alike hZ.alike Ar.2.1) (g := mkF m pc Ls (.ref a :: rest)) rfl rfl (hb hby hd) t ?_) k
  rw [Sz]
  exact kt
theorem wp_ldc {Q : State → Prop} {bytes : ByteArray} {ml : Nat} {own nm : String} {ret : Option FieldType} {pc index : Nat} {v : Int32} {Ls : Array Slot} {st : List Value}
    (C : Cx p s m meth c Z a0 bytes ml own nm ret) (X : Stand p l e R s m args below meth c T locs cells slots) (w : (Jvm.Cond.constant own index v).before a0 Z = true) (hd : decode bytes pc = .ok (.ldc index, 2))
    (k : WP p e below Q T (mkF m (pc + 2) Ls (.int v :: st))) : WP p e below Q T (mkF m pc Ls st) := by
  obtain ⟨hx, hZ, hw, hby, hml, hown, hnm, hret, hlk⟩ := C
  exact wp (X.ldcInt hx hown (mvT hZ w) (g := mkF m pc Ls st) rfl (hb hby hd)) k
theorem wp_ldc2 {Q : State → Prop} {bytes : ByteArray} {ml : Nat} {own nm : String} {ret : Option FieldType} {pc index : Nat} {v : Int64} {Ls : Array Slot} {st : List Value}
    (C : Cx p s m meth c Z a0 bytes ml own nm ret) (X : Stand p l e R s m args below meth c T locs cells slots) (w : (Jvm.Cond.constantLong own index v).before a0 Z = true) (hd : decode bytes pc = .ok (.ldc2_w index, 3))
    (k : WP p e below Q T (mkF m (pc + 3) Ls (.long v :: st))) : WP p e below Q T (mkF m pc Ls st) := by
  obtain ⟨hx, hZ, hw, hby, hml, hown, hnm, hret, hlk⟩ := C
  exact wp (X.ldc2Long hx hown (mvT hZ w) (g := mkF m pc Ls st) rfl (hb hby hd)) k
theorem Frs {k : Nat} {a : Addr} {sl : Nat} {L : List Loc} (N : Fr k L) (q : k ≤ a) : Fr k (L ++ [⟨a, sl⟩]) := N.app fun y hy => by cases List.mem_singleton.mp hy; exact q
end Kit

/-! numbers -/
theorem own_z {z : Int32} {k : Nat} (hz : z.toInt = (k : Int)) (hk : k < 2147483648) : z = Int32.ofNat k := by
  rw [← Int32.toInt_inj, hz, Int32.toInt_ofNat_of_lt hk]
theorem own_addk {z q : Int32} {j k : Nat} (hz : z.toInt = (j : Int)) (hq : q.toInt = (k : Int)) (hj : j < 1000) (hk : k < 1000) : (z + q).toInt = ((j + k : Nat) : Int) := by
  have h1 := c_iadd z q
  have h2 := rng32 (z + q)
  omega
def own_sh (v : Int64) (k : Nat) : Int64 := Int64.ofBitVec (v.toBitVec >>> k)
theorem own_t7 (v : Int64) : ((v.toUInt64 >>> ((7 : Int32) &&& 0x3f).toInt64.toUInt64).toInt64) = own_sh v 7 := rfl
theorem own_sh_sh (v : Int64) (a b : Nat) : own_sh (own_sh v a) b = own_sh v (a + b) := by
  simp [own_sh, BitVec.shiftRight_add]
theorem own_sh_zero (v : Int64) : own_sh v 0 = v := by simp [own_sh]
theorem own_shN : ∀ k, k < 64 → (Int32.ofNat k &&& 0x3f).toInt64.toBitVec = BitVec.ofNat 64 k := by decide +kernel
theorem own_shz (v : Int64) {z : Int32} {k : Nat} (hz : z.toInt = (k : Int)) (hk : k < 64) : ((v.toUInt64 >>> (z &&& 0x3f).toInt64.toUInt64).toInt64) = own_sh v k := by
  rw [own_z hz (by omega)]
  apply Int64.toBitVec_inj.1
  have e : ((v.toUInt64 >>> (Int32.ofNat k &&& 0x3f).toInt64.toUInt64).toInt64).toBitVec = v.toBitVec >>> ((Int32.ofNat k &&& 0x3f).toInt64.toBitVec % 64#64) := rfl
  rw [e, own_shN k hk]
  apply BitVec.eq_of_toNat_eq
  show v.toBitVec.toNat >>> ((BitVec.ofNat 64 k) % 64#64).toNat = v.toBitVec.toNat >>> k
  congr 1
  simp
  omega
theorem own_sh_nat (v : Int64) (k : Nat) : (own_sh v k).toBitVec.toNat = v.toBitVec.toNat / 2 ^ k := by
  simp [own_sh, Nat.shiftRight_eq_div_pow]
theorem own_sh_eq0 (v : Int64) (k : Nat) : own_sh v k = 0 ↔ v.toBitVec.toNat < 2 ^ k := by
  unfold own_sh
  rw [← Int64.toBitVec_inj, ← BitVec.toNat_inj]
  simp [Nat.shiftRight_eq_div_pow, Nat.div_eq_zero_iff]
theorem own_split (x c : BitVec 64) : x &&& ~~~ c = 0#64 ↔ x = x &&& c := by
  constructor
  · intro h
    apply BitVec.eq_of_getLsbD_eq
    intro i hi
    have := congrArg (fun y => y.getLsbD i) h
    simp [hi] at this ⊢
    exact this
  · intro h
    rw [h]
    apply BitVec.eq_of_getLsbD_eq
    intro i hi
    simp [hi]
theorem own_m128 (r : Int64) : r &&& (-128 : Int64) = 0 ↔ r.toBitVec.toNat < 128 := by
  rw [← Int64.toBitVec_inj]
  have h : (r &&& (-128 : Int64)).toBitVec = r.toBitVec &&& (~~~ 127#64) := rfl
  rw [h]
  show _ = 0#64 ↔ _
  rw [own_split]
  generalize r.toBitVec = x
  constructor
  · intro h
    rw [h]
    have := @Nat.and_le_right x.toNat 127
    simp only [BitVec.toNat_and]
    show x.toNat &&& 127 < 128
    omega
  · intro h
    apply BitVec.eq_of_toNat_eq
    simp only [BitVec.toNat_and]
    show _ = x.toNat &&& (2^7 - 1)
    rw [Nat.and_two_pow_sub_one_eq_mod]
    omega
theorem own_more (v : Int64) (i : Nat) : own_sh v (7 * i) &&& (-128 : Int64) = 0 ↔ v.toBitVec.toNat < 2 ^ (7 * (i + 1)) := by
  rw [own_m128, own_sh_nat, Nat.div_lt_iff_lt_mul (Nat.two_pow_pos _), Nat.mul_add, Nat.pow_add, Nat.mul_comm]
def own_N (U : Nat) : Nat → Nat
  | 0 => 1
  | k + 1 => if 2 ^ (7 * (k + 1)) ≤ U then k + 2 else own_N U k
theorem own_N_spec (U : Nat) (hU : U < 2 ^ 64) : 1 ≤ own_N U 9 ∧ own_N U 9 ≤ 10 ∧ U < 2 ^ (7 * own_N U 9) := by
  simp only [own_N]
  repeat' split
  all_goals (refine ⟨by omega, by omega, ?_⟩)
  all_goals (simp at *; omega)
theorem own_N_small (U : Nat) (i : Nat) (h : i + 1 < own_N U 9) : 2 ^ (7 * (i + 1)) ≤ U := by
  have h2 : own_N U 9 = 1 ∨ 2 ^ (7 * (own_N U 9 - 1)) ≤ U := by
    simp only [own_N]
    repeat' split
    all_goals first | (exact Or.inl rfl) | (right; assumption)
  rcases h2 with h2 | h2
  · omega
  · exact Nat.le_trans (Nat.pow_le_pow_right (by decide) (by omega)) h2
theorem own_i8 (x : Int32) : x.toInt8.toInt32.toInt8.toInt32 = x.toInt8.toInt32 := by simp
def own_enc (r : Int64) : Int32 := ((r &&& (127 : Int64)) ||| (128 : Int64)).toInt32.toInt8.toInt32
def own_last (r : Int64) : Int32 := r.toInt32.toInt8.toInt32
theorem own_enc_nar (r : Int64) : nar .byte (own_enc r) = own_enc r := own_i8 _
theorem own_last_nar (r : Int64) : nar .byte (own_last r) = own_last r := own_i8 _
def own_e (v : Int64) (n i : Nat) : Int32 := if i < n - 1 then own_enc (own_sh v (7 * i)) else own_last (own_sh v (7 * i))
def own_x (v : Int64) (n A0 j : Nat) (fl : Int32) : Int32 := if A0 ≤ j ∧ j < A0 + n then own_e v n (j - A0) else nar .byte fl

theorem dwr_0 : decode prog_101_method_3_code 0 = .ok (.lload_n 0, 1) := by decide +kernel
theorem dwr_1 : decode prog_101_method_3_code 1 = .ok (.lstore 4, 2) := by decide +kernel
theorem dwr_3 : decode prog_101_method_3_code 3 = .ok (.lload 4, 2) := by decide +kernel
theorem dwr_5 : decode prog_101_method_3_code 5 = .ok (.ldc2_w 7, 3) := by decide +kernel
theorem dwr_8 : decode prog_101_method_3_code 8 = .ok (.land, 1) := by decide +kernel
theorem dwr_9 : decode prog_101_method_3_code 9 = .ok (.lconst 0, 1) := by decide +kernel
theorem dwr_10 : decode prog_101_method_3_code 10 = .ok (.lcmp, 1) := by decide +kernel
theorem dwr_11 : decode prog_101_method_3_code 11 = .ok (.ifCond .eq 31, 3) := by decide +kernel
theorem dwr_14 : decode prog_101_method_3_code 14 = .ok (.aload_n 2, 1) := by decide +kernel
theorem dwr_15 : decode prog_101_method_3_code 15 = .ok (.iload_n 3, 1) := by decide +kernel
theorem dwr_16 : decode prog_101_method_3_code 16 = .ok (.iinc 3 1, 3) := by decide +kernel
theorem dwr_19 : decode prog_101_method_3_code 19 = .ok (.lload 4, 2) := by decide +kernel
theorem dwr_21 : decode prog_101_method_3_code 21 = .ok (.ldc2_w 9, 3) := by decide +kernel
theorem dwr_24 : decode prog_101_method_3_code 24 = .ok (.land, 1) := by decide +kernel
theorem dwr_25 : decode prog_101_method_3_code 25 = .ok (.ldc2_w 11, 3) := by decide +kernel
theorem dwr_28 : decode prog_101_method_3_code 28 = .ok (.lor, 1) := by decide +kernel
theorem dwr_29 : decode prog_101_method_3_code 29 = .ok (.l2i, 1) := by decide +kernel
theorem dwr_30 : decode prog_101_method_3_code 30 = .ok (.i2b, 1) := by decide +kernel
theorem dwr_31 : decode prog_101_method_3_code 31 = .ok (.bastore, 1) := by decide +kernel
theorem dwr_32 : decode prog_101_method_3_code 32 = .ok (.lload 4, 2) := by decide +kernel
theorem dwr_34 : decode prog_101_method_3_code 34 = .ok (.bipush 7, 2) := by decide +kernel
theorem dwr_36 : decode prog_101_method_3_code 36 = .ok (.lushr, 1) := by decide +kernel
theorem dwr_37 : decode prog_101_method_3_code 37 = .ok (.lstore 4, 2) := by decide +kernel
theorem dwr_39 : decode prog_101_method_3_code 39 = .ok (.goto (-36), 3) := by decide +kernel
theorem dwr_42 : decode prog_101_method_3_code 42 = .ok (.aload_n 2, 1) := by decide +kernel
theorem dwr_43 : decode prog_101_method_3_code 43 = .ok (.iload_n 3, 1) := by decide +kernel
theorem dwr_44 : decode prog_101_method_3_code 44 = .ok (.iinc 3 1, 3) := by decide +kernel
theorem dwr_47 : decode prog_101_method_3_code 47 = .ok (.lload 4, 2) := by decide +kernel
theorem dwr_49 : decode prog_101_method_3_code 49 = .ok (.l2i, 1) := by decide +kernel
theorem dwr_50 : decode prog_101_method_3_code 50 = .ok (.i2b, 1) := by decide +kernel
theorem dwr_51 : decode prog_101_method_3_code 51 = .ok (.bastore, 1) := by decide +kernel
theorem dwr_52 : decode prog_101_method_3_code 52 = .ok (.iload_n 3, 1) := by decide +kernel
theorem dwr_53 : decode prog_101_method_3_code 53 = .ok (.ireturn, 1) := by decide +kernel

theorem pn_wr : plainName "com/example/joinsmith/joinsmith/engine/stats/Varint" = true := by first | (simp [plainName, overriddenIn]; done) | decide +kernel

theorem pd_wr : parseMethodDescriptor "(J[BI)I" = some ⟨[.long, (.array .byte), .int], some .int⟩ := by decide +kernel

theorem dcell_0 : decode method_3_code 0 = .ok (.aload_n 0, 1) := by decide +kernel
theorem dcell_1 : decode method_3_code 1 = .ok (.iload_n 1, 1) := by decide +kernel
theorem dcell_2 : decode method_3_code 2 = .ok (.baload, 1) := by decide +kernel
theorem dcell_3 : decode method_3_code 3 = .ok (.iload_n 1, 1) := by decide +kernel
theorem dcell_4 : decode method_3_code 4 = .ok (.iload_n 2, 1) := by decide +kernel
theorem dcell_5 : decode method_3_code 5 = .ok (.lload_n 3, 1) := by decide +kernel
theorem dcell_6 : decode method_3_code 6 = .ok (.iload 5, 2) := by decide +kernel
theorem dcell_8 : decode method_3_code 8 = .ok (.iload 6, 2) := by decide +kernel
theorem dcell_10 : decode method_3_code 10 = .ok (.invokestatic 11, 3) := by decide +kernel
theorem dcell_13 : decode method_3_code 13 = .ok (.if_icmp .ne 7, 3) := by decide +kernel
theorem dcell_16 : decode method_3_code 16 = .ok (.iconst 1, 1) := by decide +kernel
theorem dcell_17 : decode method_3_code 17 = .ok (.goto 4, 3) := by decide +kernel
theorem dcell_20 : decode method_3_code 20 = .ok (.iconst 0, 1) := by decide +kernel
theorem dcell_21 : decode method_3_code 21 = .ok (.ireturn, 1) := by decide +kernel

theorem pn_cell : plainName "com/example/joinsmith/joinsmith/engine/stats/VarintWritePinLaw" = true := by first | (simp [plainName, overriddenIn]; done) | decide +kernel

theorem pd_cell : parseMethodDescriptor "([BIIJIB)Z" = some ⟨[(.array .byte), .int, .int, .long, .int, .byte], some .boolean⟩ := by decide +kernel

theorem dexp_0 : decode method_2_code 0 = .ok (.iload_n 0, 1) := by decide +kernel
theorem dexp_1 : decode method_2_code 1 = .ok (.iload_n 1, 1) := by decide +kernel
theorem dexp_2 : decode method_2_code 2 = .ok (.isub, 1) := by decide +kernel
theorem dexp_3 : decode method_2_code 3 = .ok (.istore 6, 2) := by decide +kernel
theorem dexp_5 : decode method_2_code 5 = .ok (.iload 6, 2) := by decide +kernel
theorem dexp_7 : decode method_2_code 7 = .ok (.ifCond .lt 10, 3) := by decide +kernel
theorem dexp_10 : decode method_2_code 10 = .ok (.iload 6, 2) := by decide +kernel
theorem dexp_12 : decode method_2_code 12 = .ok (.iload 4, 2) := by decide +kernel
theorem dexp_14 : decode method_2_code 14 = .ok (.if_icmp .lt 6, 3) := by decide +kernel
theorem dexp_17 : decode method_2_code 17 = .ok (.iload 5, 2) := by decide +kernel
theorem dexp_19 : decode method_2_code 19 = .ok (.ireturn, 1) := by decide +kernel
theorem dexp_20 : decode method_2_code 20 = .ok (.iload 6, 2) := by decide +kernel
theorem dexp_22 : decode method_2_code 22 = .ok (.iload 4, 2) := by decide +kernel
theorem dexp_24 : decode method_2_code 24 = .ok (.iconst 1, 1) := by decide +kernel
theorem dexp_25 : decode method_2_code 25 = .ok (.isub, 1) := by decide +kernel
theorem dexp_26 : decode method_2_code 26 = .ok (.if_icmp .ge 21, 3) := by decide +kernel
theorem dexp_29 : decode method_2_code 29 = .ok (.lload_n 2, 1) := by decide +kernel
theorem dexp_30 : decode method_2_code 30 = .ok (.bipush 7, 2) := by decide +kernel
theorem dexp_32 : decode method_2_code 32 = .ok (.iload 6, 2) := by decide +kernel
theorem dexp_34 : decode method_2_code 34 = .ok (.imul, 1) := by decide +kernel
theorem dexp_35 : decode method_2_code 35 = .ok (.lushr, 1) := by decide +kernel
theorem dexp_36 : decode method_2_code 36 = .ok (.ldc2_w 7, 3) := by decide +kernel
theorem dexp_39 : decode method_2_code 39 = .ok (.land, 1) := by decide +kernel
theorem dexp_40 : decode method_2_code 40 = .ok (.ldc2_w 9, 3) := by decide +kernel
theorem dexp_43 : decode method_2_code 43 = .ok (.lor, 1) := by decide +kernel
theorem dexp_44 : decode method_2_code 44 = .ok (.l2i, 1) := by decide +kernel
theorem dexp_45 : decode method_2_code 45 = .ok (.i2b, 1) := by decide +kernel
theorem dexp_46 : decode method_2_code 46 = .ok (.ireturn, 1) := by decide +kernel
theorem dexp_47 : decode method_2_code 47 = .ok (.lload_n 2, 1) := by decide +kernel
theorem dexp_48 : decode method_2_code 48 = .ok (.bipush 7, 2) := by decide +kernel
theorem dexp_50 : decode method_2_code 50 = .ok (.iload 6, 2) := by decide +kernel
theorem dexp_52 : decode method_2_code 52 = .ok (.imul, 1) := by decide +kernel
theorem dexp_53 : decode method_2_code 53 = .ok (.lushr, 1) := by decide +kernel
theorem dexp_54 : decode method_2_code 54 = .ok (.l2i, 1) := by decide +kernel
theorem dexp_55 : decode method_2_code 55 = .ok (.i2b, 1) := by decide +kernel
theorem dexp_56 : decode method_2_code 56 = .ok (.ireturn, 1) := by decide +kernel

theorem pn_exp : plainName "com/example/joinsmith/joinsmith/engine/stats/VarintWritePinLaw" = true := by first | (simp [plainName, overriddenIn]; done) | decide +kernel

theorem pd_exp : parseMethodDescriptor "(IIJIB)B" = some ⟨[.int, .int, .long, .int, .byte], some .byte⟩ := by decide +kernel

theorem pn_law : plainName "com/example/joinsmith/joinsmith/engine/stats/VarintWritePinLaw" = true := by first | (simp [plainName, overriddenIn]; done) | decide +kernel

theorem ef_wr (x0 : Int64) (x1 : Addr) (x2 : Int32) (m : MethodId) : entryFrame m #[(.long x0), (.ref x1), (.int x2)] 6 = mkF m 0 #[.val (.long x0), .second, .val (.ref x1), .val (.int x2), .unset, .unset] [] := by first | (simp [entryFrame, mkF, argsToLocals, Value.category]; done) | rfl

theorem ef_cell (x0 : Addr) (x1 : Int32) (x2 : Int32) (x3 : Int64) (x4 : Int32) (x5 : Int32) (m : MethodId) : entryFrame m #[(.ref x0), (.int x1), (.int x2), (.long x3), (.int x4), (.int x5)] 7 = mkF m 0 #[.val (.ref x0), .val (.int x1), .val (.int x2), .val (.long x3), .second, .val (.int x4), .val (.int x5)] [] := by first | (simp [entryFrame, mkF, argsToLocals, Value.category]; done) | rfl

theorem ef_exp (x0 : Int32) (x1 : Int32) (x2 : Int64) (x3 : Int32) (x4 : Int32) (m : MethodId) : entryFrame m #[(.int x0), (.int x1), (.long x2), (.int x3), (.int x4)] 7 = mkF m 0 #[.val (.int x0), .val (.int x1), .val (.long x2), .second, .val (.int x3), .val (.int x4), .unset] [] := by first | (simp [entryFrame, mkF, argsToLocals, Value.category]; done) | rfl

theorem ef_law (x0 : Int64) (x1 : Int32) (x2 : Int32) (x3 : Int32) (m : MethodId) : entryFrame m #[(.long x0), (.int x1), (.int x2), (.int x3)] maxLocals = mkF m 0 #[.val (.long x0), .second, .val (.int x1), .val (.int x2), .val (.int x3), .unset, .unset, .unset, .unset, .unset, .unset, .unset, .unset] [] := by first | (simp [entryFrame, mkF, argsToLocals, Value.category, maxLocals]; done) | rfl

section Own
variable {p : Program} {l : Launch} {e : Env} {R : Room} {s : State} {m : MethodId} {args : Array Value} {below : List Frame} {meth : Method} {c : Code} {T0 : State} {locs : List Loc} {cells slots : Nat} {Z : State} {a0 : Array Value} {h0 : Heap} {Q : State → Prop}

set_option maxRecDepth 65536 in
set_option maxHeartbeats 4000000 in
theorem wr_loop (a : Addr) (v : Int64) (A0 n n0 : Nat) (f : Nat → Value) (hAn : A0 + n ≤ 14) (hlow : ∀ i, i + 1 < n → 2 ^ (7 * (i + 1)) ≤ v.toBitVec.toNat) (hhigh : v.toBitVec.toNat < 2 ^ (7 * n)) (ga : n0 ≤ a) (C : Cx p s m meth c Z a0 prog_101_method_3_code 6 "com/example/joinsmith/joinsmith/engine/stats/Varint" "write" (some .int))
    (k : ∀ T' h' locs' z, Stand p l e R s m args below meth c T' locs' cells slots → T'.heap = h' → Fr n0 locs' → Keep h0 h' [a] → Af Z h' a .byte 14 (fun j => if A0 ≤ j ∧ j < A0 + (n - 1) then .int (own_enc (own_sh v (7 * (j - A0)))) else f j) → z.toInt = ((A0 + (n - 1) : Nat) : Int) → WP p e below Q T' (mkF m 42 #[.val (.long v), .second, .val (.ref a), .val (.int z), .val (.long (own_sh v (7 * (n - 1)))), .second] [])) :
    ∀ (r i : Nat) (T0 : State) (h : Heap) (locs : List Loc) (z : Int32), i + r + 1 = n → Stand p l e R s m args below meth c T0 locs cells slots → T0.heap = h → Fr n0 locs → Keep h0 h [a] → Af Z h a .byte 14 (fun j => if A0 ≤ j ∧ j < A0 + i then .int (own_enc (own_sh v (7 * (j - A0)))) else f j) → z.toInt = ((A0 + i : Nat) : Int) → WP p e below Q T0 (mkF m 3 #[.val (.long v), .second, .val (.ref a), .val (.int z), .val (.long (own_sh v (7 * i))), .second] []) := by
  obtain ⟨hx, hZ, hw, hby, hml, hown, hnm, hret, hlk⟩ := id C
  intro r
  induction r with
  | zero =>
    intro i T0 h locs z hi X0 e0 N0 K0 A hz
    have hi' : n - 1 = i := by omega
    rw [hi'] at k
    refine wp (fun _ => XS.lload X0.here hx rfl (hb hby dwr_3) rfl) ?_
    show WP p e below _ T0 (mkF m 5 #[.val (.long v), .second, .val (.ref a), .val (.int z), .val (.long (own_sh v (7 * i))), .second] [(.long (own_sh v (7 * i)))])
    refine wp_ldc2 C X0 (hw _ (List.mem_of_getElem? (i := 5) rfl)) dwr_5 ?_
    show WP p e below _ T0 (mkF m 8 #[.val (.long v), .second, .val (.ref a), .val (.int z), .val (.long (own_sh v (7 * i))), .second] [(.long (-128 : Int64)), (.long (own_sh v (7 * i)))])
    refine wp (fun _ => XS.land X0.here hx rfl (hb hby dwr_8) rfl) ?_
    show WP p e below _ T0 (mkF m 9 #[.val (.long v), .second, .val (.ref a), .val (.int z), .val (.long (own_sh v (7 * i))), .second] [(.long ((own_sh v (7 * i)) &&& (-128 : Int64)))])
    refine wp (fun _ => XS.lconst X0.here hx rfl (hb hby dwr_9)) ?_
    show WP p e below _ T0 (mkF m 10 #[.val (.long v), .second, .val (.ref a), .val (.int z), .val (.long (own_sh v (7 * i))), .second] [(.long (0 : Int64)), (.long ((own_sh v (7 * i)) &&& (-128 : Int64)))])
    refine wp (fun _ => XT.lcmp X0.here hx rfl (hb hby dwr_10) rfl) ?_
    show WP p e below _ T0 (mkF m 11 #[.val (.long v), .second, .val (.ref a), .val (.int z), .val (.long (own_sh v (7 * i))), .second] [(.int (XT.cmpL ((own_sh v (7 * i)) &&& (-128 : Int64)) (0 : Int64)))])
    have hc : ((own_sh v (7 * i)) &&& (-128 : Int64)) = (0 : Int64) := (own_more v i).mpr (by rw [show i + 1 = n by omega]; exact hhigh)
    refine wp (fun _ => XS.ifYes X0.here hx rfl (pc0 := 11) (pc' := 42) rfl (hb hby dwr_11) rfl (XT.ll_eq_t hc) (by decide) (by decide)) ?_
    show WP p e below _ T0 (mkF m 42 #[.val (.long v), .second, .val (.ref a), .val (.int z), .val (.long (own_sh v (7 * i))), .second] [])
    exact k T0 h locs z X0 e0 N0 K0 A hz
  | succ r ih =>
    intro i T0 h locs z hi X0 e0 N0 K0 A hz
    refine wp (fun _ => XS.lload X0.here hx rfl (hb hby dwr_3) rfl) ?_
    show WP p e below _ T0 (mkF m 5 #[.val (.long v), .second, .val (.ref a), .val (.int z), .val (.long (own_sh v (7 * i))), .second] [(.long (own_sh v (7 * i)))])
    refine wp_ldc2 C X0 (hw _ (List.mem_of_getElem? (i := 5) rfl)) dwr_5 ?_
    show WP p e below _ T0 (mkF m 8 #[.val (.long v), .second, .val (.ref a), .val (.int z), .val (.long (own_sh v (7 * i))), .second] [(.long (-128 : Int64)), (.long (own_sh v (7 * i)))])
    refine wp (fun _ => XS.land X0.here hx rfl (hb hby dwr_8) rfl) ?_
    show WP p e below _ T0 (mkF m 9 #[.val (.long v), .second, .val (.ref a), .val (.int z), .val (.long (own_sh v (7 * i))), .second] [(.long ((own_sh v (7 * i)) &&& (-128 : Int64)))])
    refine wp (fun _ => XS.lconst X0.here hx rfl (hb hby dwr_9)) ?_
    show WP p e below _ T0 (mkF m 10 #[.val (.long v), .second, .val (.ref a), .val (.int z), .val (.long (own_sh v (7 * i))), .second] [(.long (0 : Int64)), (.long ((own_sh v (7 * i)) &&& (-128 : Int64)))])
    refine wp (fun _ => XT.lcmp X0.here hx rfl (hb hby dwr_10) rfl) ?_
    show WP p e below _ T0 (mkF m 11 #[.val (.long v), .second, .val (.ref a), .val (.int z), .val (.long (own_sh v (7 * i))), .second] [(.int (XT.cmpL ((own_sh v (7 * i)) &&& (-128 : Int64)) (0 : Int64)))])
    have hc : ¬ (((own_sh v (7 * i)) &&& (-128 : Int64)) = (0 : Int64)) := fun q => absurd ((own_more v i).mp q) (Nat.not_lt.mpr (hlow i (by omega)))
    refine wp (fun _ => XS.ifNo X0.here hx rfl (hb hby dwr_11) rfl (XT.ll_eq_f hc)) ?_
    show WP p e below _ T0 (mkF m 14 #[.val (.long v), .second, .val (.ref a), .val (.int z), .val (.long (own_sh v (7 * i))), .second] [])
    refine wp (fun _ => XS.aloadN X0.here hx rfl (hb hby dwr_14) rfl rfl) ?_
    show WP p e below _ T0 (mkF m 15 #[.val (.long v), .second, .val (.ref a), .val (.int z), .val (.long (own_sh v (7 * i))), .second] [(.ref a)])
    refine wp (fun _ => XS.iloadN X0.here hx rfl (hb hby dwr_15) rfl) ?_
    show WP p e below _ T0 (mkF m 16 #[.val (.long v), .second, .val (.ref a), .val (.int z), .val (.long (own_sh v (7 * i))), .second] [(.int z), (.ref a)])
    refine wp (fun _ => XS.iinc X0.here hx rfl (hb hby dwr_16) rfl (l' := #[.val (.long v), .second, .val (.ref a), .val (.int (z + (1 : Int32))), .val (.long (own_sh v (7 * i))), .second]) rfl) ?_
    show WP p e below _ T0 (mkF m 19 #[.val (.long v), .second, .val (.ref a), .val (.int (z + (1 : Int32))), .val (.long (own_sh v (7 * i))), .second] [(.int z), (.ref a)])
    refine wp (fun _ => XS.lload X0.here hx rfl (hb hby dwr_19) rfl) ?_
    show WP p e below _ T0 (mkF m 21 #[.val (.long v), .second, .val (.ref a), .val (.int (z + (1 : Int32))), .val (.long (own_sh v (7 * i))), .second] [(.long (own_sh v (7 * i))), (.int z), (.ref a)])
    refine wp_ldc2 C X0 (hw _ (List.mem_of_getElem? (i := 13) rfl)) dwr_21 ?_
    show WP p e below _ T0 (mkF m 24 #[.val (.long v), .second, .val (.ref a), .val (.int (z + (1 : Int32))), .val (.long (own_sh v (7 * i))), .second] [(.long (127 : Int64)), (.long (own_sh v (7 * i))), (.int z), (.ref a)])
    refine wp (fun _ => XS.land X0.here hx rfl (hb hby dwr_24) rfl) ?_
    show WP p e below _ T0 (mkF m 25 #[.val (.long v), .second, .val (.ref a), .val (.int (z + (1 : Int32))), .val (.long (own_sh v (7 * i))), .second] [(.long ((own_sh v (7 * i)) &&& (127 : Int64))), (.int z), (.ref a)])
    refine wp_ldc2 C X0 (hw _ (List.mem_of_getElem? (i := 14) rfl)) dwr_25 ?_
    show WP p e below _ T0 (mkF m 28 #[.val (.long v), .second, .val (.ref a), .val (.int (z + (1 : Int32))), .val (.long (own_sh v (7 * i))), .second] [(.long (128 : Int64)), (.long ((own_sh v (7 * i)) &&& (127 : Int64))), (.int z), (.ref a)])
    refine wp (fun _ => XS.lor X0.here hx rfl (hb hby dwr_28) rfl) ?_
    show WP p e below _ T0 (mkF m 29 #[.val (.long v), .second, .val (.ref a), .val (.int (z + (1 : Int32))), .val (.long (own_sh v (7 * i))), .second] [(.long (((own_sh v (7 * i)) &&& (127 : Int64)) ||| (128 : Int64))), (.int z), (.ref a)])
    refine wp (fun _ => XS.l2i X0.here hx rfl (hb hby dwr_29) rfl) ?_
    show WP p e below _ T0 (mkF m 30 #[.val (.long v), .second, .val (.ref a), .val (.int (z + (1 : Int32))), .val (.long (own_sh v (7 * i))), .second] [(.int (((own_sh v (7 * i)) &&& (127 : Int64)) ||| (128 : Int64)).toInt32), (.int z), (.ref a)])
    refine wp (fun _ => XS.i2b X0.here hx rfl (hb hby dwr_30) rfl) ?_
    show WP p e below _ T0 (mkF m 31 #[.val (.long v), .second, .val (.ref a), .val (.int (z + (1 : Int32))), .val (.long (own_sh v (7 * i))), .second] [(.int (((own_sh v (7 * i)) &&& (127 : Int64)) ||| (128 : Int64)).toInt32.toInt8.toInt32), (.int z), (.ref a)])
    refine wp_bastore C X0 e0 A hz (by omega) dwr_31 ?_
    intro T1 h1 X1 e1 W1 A1
    have N1 := Frs (a := a) (sl := z.toNatClampNeg) N0 ga
    have K1 : Keep h0 h1 [a] := K0.wr W1 (Or.inl (List.mem_singleton.mpr rfl))
    have A2 : Af Z h1 a .byte 14 (fun j => if A0 ≤ j ∧ j < A0 + (i + 1) then .int (own_enc (own_sh v (7 * (j - A0)))) else f j) := A1.conv fun j hj => by
      by_cases q : j = A0 + i
      · rw [if_pos q, if_pos (by omega), show j - A0 = i by omega]
        exact congrArg Value.int (own_enc_nar (own_sh v (7 * i)))
      · rw [if_neg q]
        by_cases q2 : A0 ≤ j ∧ j < A0 + i
        · rw [if_pos q2, if_pos (by omega)]
        · rw [if_neg q2, if_neg (by omega)]
    show WP p e below _ T1 (mkF m 32 #[.val (.long v), .second, .val (.ref a), .val (.int (z + (1 : Int32))), .val (.long (own_sh v (7 * i))), .second] [])
    refine wp (fun _ => XS.lload X1.here hx rfl (hb hby dwr_32) rfl) ?_
    show WP p e below _ T1 (mkF m 34 #[.val (.long v), .second, .val (.ref a), .val (.int (z + (1 : Int32))), .val (.long (own_sh v (7 * i))), .second] [(.long (own_sh v (7 * i)))])
    refine wp (fun _ => XS.bipush X1.here hx rfl (hb hby dwr_34)) ?_
    show WP p e below _ T1 (mkF m 36 #[.val (.long v), .second, .val (.ref a), .val (.int (z + (1 : Int32))), .val (.long (own_sh v (7 * i))), .second] [(.int (7 : Int32)), (.long (own_sh v (7 * i)))])
    refine wp (fun _ => XS.lushr X1.here hx rfl (hb hby dwr_36) rfl) ?_
    show WP p e below _ T1 (mkF m 37 #[.val (.long v), .second, .val (.ref a), .val (.int (z + (1 : Int32))), .val (.long (own_sh v (7 * i))), .second] [(.long (((own_sh v (7 * i)).toUInt64 >>> ((7 : Int32) &&& 0x3f).toInt64.toUInt64).toInt64))])
    rw [own_t7, own_sh_sh]
    show WP p e below _ T1 (mkF m 37 #[.val (.long v), .second, .val (.ref a), .val (.int (z + (1 : Int32))), .val (.long (own_sh v (7 * i))), .second] [(.long (own_sh v (7 * (i + 1))))])
    refine wp (fun _ => XS.lstore X1.here hx rfl (hb hby dwr_37) rfl (l' := #[.val (.long v), .second, .val (.ref a), .val (.int (z + (1 : Int32))), .val (.long (own_sh v (7 * (i + 1)))), .second]) rfl) ?_
    show WP p e below _ T1 (mkF m 39 #[.val (.long v), .second, .val (.ref a), .val (.int (z + (1 : Int32))), .val (.long (own_sh v (7 * (i + 1)))), .second] [])
    refine wp (fun _ => XS.goto X1.here hx rfl (pc0 := 39) (pc' := 3) rfl (hb hby dwr_39) (by decide) (by decide)) ?_
    show WP p e below _ T1 (mkF m 3 #[.val (.long v), .second, .val (.ref a), .val (.int (z + (1 : Int32))), .val (.long (own_sh v (7 * (i + 1)))), .second] [])
    exact ih (i + 1) T1 h1 _ _ (by omega) X1 e1 N1 K1 A2 (by have q := own_addk (q := 1) (k := 1) hz rfl (by omega) (by decide); omega)
end Own
def QW (Z : State) (a : Addr) (v : Int64) (A0 n : Nat) (f : Nat → Value) (h0 : Heap) (n0 : Nat) : Option Value → Heap → List Loc → Prop := fun r h L => ∃ z : Int32, r = some (.int z) ∧ z.toInt = ((A0 + n : Nat) : Int) ∧ Fr n0 L ∧ Keep h0 h [a] ∧ Af Z h a .byte 14 (fun j => if A0 ≤ j ∧ j < A0 + n then .int (own_e v n (j - A0)) else f j)
set_option maxRecDepth 65536 in
set_option maxHeartbeats 4000000 in
theorem rm_wr (l : Launch) (Z : State) (a0 : Array Value) (hw : ∀ d ∈ tables_1, d.before a0 Z = true) (ws : List Jvm.Cond) (v : Int64) (a : Addr) (zA : Int32) (A0 n n0 : Nat) (f : Nat → Value) (h0 : Heap) (hA : zA.toInt = (A0 : Int)) (hn1 : 1 ≤ n) (hAn : A0 + n ≤ 14) (hlow : ∀ i, i + 1 < n → 2 ^ (7 * (i + 1)) ≤ v.toBitVec.toNat) (hhigh : v.toBitVec.toNat < 2 ^ (7 * n)) (ga : n0 ≤ a) (A : Af Z h0 a .byte 14 f) :
    MetQ l Z (⟨"com/example/joinsmith/joinsmith/engine/stats/Varint", "write", "(J[BI)I"⟩ : MethodName) prog_101_method_3_code 6 (some .int) ws ({ frames := 0, cells := 0, slots := 0, locals := 0 } : Room) #[(.long v), (.ref a), (.int zA)] h0 (QW Z a v A0 n f h0 n0) := by
  refine metQ (a0 := a0) (plainFor_of_name pn_wr) hw (ef_wr v a zA) ?_
  intro p e s m below meth c T0 C X0 e0
  obtain ⟨hx, hZ, hw, hby, hml, hown, hnm, hret, hlk⟩ := id C
  show WP p e below _ T0 (mkF m 0 #[.val (.long v), .second, .val (.ref a), .val (.int zA), .unset, .unset] [])
  refine wp (fun _ => XS.lloadN X0.here hx rfl (hb hby dwr_0) rfl) ?_
  show WP p e below _ T0 (mkF m 1 #[.val (.long v), .second, .val (.ref a), .val (.int zA), .unset, .unset] [(.long v)])
  refine wp (fun _ => XS.lstore X0.here hx rfl (hb hby dwr_1) rfl (l' := #[.val (.long v), .second, .val (.ref a), .val (.int zA), .val (.long v), .second]) rfl) ?_
  show WP p e below _ T0 (mkF m 3 #[.val (.long v), .second, .val (.ref a), .val (.int zA), .val (.long v), .second] [])
  have A' : Af Z h0 a .byte 14 (fun j => if A0 ≤ j ∧ j < A0 + 0 then .int (own_enc (own_sh v (7 * (j - A0)))) else f j) := A.conv fun j hj => by rw [if_neg (by omega)]
  refine wr_loop a v A0 n n0 f hAn hlow hhigh ga C ?_ (n - 1) 0 T0 h0 [] zA (by omega) X0 e0 (Fr.nil n0) (Keep.refl h0 [a]) A' hA
  intro T1 h1 L1 z X1 e1 N1 K1 A1 hz
  show WP p e below _ T1 (mkF m 42 #[.val (.long v), .second, .val (.ref a), .val (.int z), .val (.long (own_sh v (7 * (n - 1)))), .second] [])
  refine wp (fun _ => XS.aloadN X1.here hx rfl (hb hby dwr_42) rfl rfl) ?_
  show WP p e below _ T1 (mkF m 43 #[.val (.long v), .second, .val (.ref a), .val (.int z), .val (.long (own_sh v (7 * (n - 1)))), .second] [(.ref a)])
  refine wp (fun _ => XS.iloadN X1.here hx rfl (hb hby dwr_43) rfl) ?_
  show WP p e below _ T1 (mkF m 44 #[.val (.long v), .second, .val (.ref a), .val (.int z), .val (.long (own_sh v (7 * (n - 1)))), .second] [(.int z), (.ref a)])
  refine wp (fun _ => XS.iinc X1.here hx rfl (hb hby dwr_44) rfl (l' := #[.val (.long v), .second, .val (.ref a), .val (.int (z + (1 : Int32))), .val (.long (own_sh v (7 * (n - 1)))), .second]) rfl) ?_
  show WP p e below _ T1 (mkF m 47 #[.val (.long v), .second, .val (.ref a), .val (.int (z + (1 : Int32))), .val (.long (own_sh v (7 * (n - 1)))), .second] [(.int z), (.ref a)])
  refine wp (fun _ => XS.lload X1.here hx rfl (hb hby dwr_47) rfl) ?_
  show WP p e below _ T1 (mkF m 49 #[.val (.long v), .second, .val (.ref a), .val (.int (z + (1 : Int32))), .val (.long (own_sh v (7 * (n - 1)))), .second] [(.long (own_sh v (7 * (n - 1)))), (.int z), (.ref a)])
  refine wp (fun _ => XS.l2i X1.here hx rfl (hb hby dwr_49) rfl) ?_
  show WP p e below _ T1 (mkF m 50 #[.val (.long v), .second, .val (.ref a), .val (.int (z + (1 : Int32))), .val (.long (own_sh v (7 * (n - 1)))), .second] [(.int (own_sh v (7 * (n - 1))).toInt32), (.int z), (.ref a)])
  refine wp (fun _ => XS.i2b X1.here hx rfl (hb hby dwr_50) rfl) ?_
  show WP p e below _ T1 (mkF m 51 #[.val (.long v), .second, .val (.ref a), .val (.int (z + (1 : Int32))), .val (.long (own_sh v (7 * (n - 1)))), .second] [(.int (own_sh v (7 * (n - 1))).toInt32.toInt8.toInt32), (.int z), (.ref a)])
  refine wp_bastore C X1 e1 A1 hz (by omega) dwr_51 ?_
  intro T2 h2 X2 e2 W2 A2
  have N2 := Frs (a := a) (sl := z.toNatClampNeg) N1 ga
  have K2 : Keep h0 h2 [a] := K1.wr W2 (Or.inl (List.mem_singleton.mpr rfl))
  have A3 : Af Z h2 a .byte 14 (fun j => if A0 ≤ j ∧ j < A0 + n then .int (own_e v n (j - A0)) else f j) := A2.conv fun j hj => by
    by_cases q : j = A0 + (n - 1)
    · rw [if_pos q, if_pos (by omega), show j - A0 = n - 1 by omega, own_e, if_neg (by omega)]
      exact congrArg Value.int (own_last_nar (own_sh v (7 * (n - 1))))
    · rw [if_neg q]
      by_cases q2 : A0 ≤ j ∧ j < A0 + (n - 1)
      · rw [if_pos q2, if_pos (by omega), own_e, if_pos (by omega)]
      · rw [if_neg q2, if_neg (by omega)]
  show WP p e below _ T2 (mkF m 52 #[.val (.long v), .second, .val (.ref a), .val (.int (z + (1 : Int32))), .val (.long (own_sh v (7 * (n - 1)))), .second] [])
  refine wp (fun _ => XS.iloadN X2.here hx rfl (hb hby dwr_52) rfl) ?_
  show WP p e below _ T2 (mkF m 53 #[.val (.long v), .second, .val (.ref a), .val (.int (z + (1 : Int32))), .val (.long (own_sh v (7 * (n - 1)))), .second] [(.int (z + (1 : Int32)))])
  exact wp_ireturn C X2 dwr_53 ⟨_, rfl, by have q := own_addk (q := 1) (k := 1) hz rfl (by omega) (by decide); omega, N2, by rw [e2]; exact K2, by rw [e2]; exact A3⟩ (by decide) (by decide)
set_option maxRecDepth 65536 in
set_option maxHeartbeats 4000000 in
theorem rm_exp (l : Launch) (Z : State) (a0 : Array Value) (hw : ∀ d ∈ tables_1, d.before a0 Z = true) (ws : List Jvm.Cond) (zP zA : Int32) (v : Int64) (zn fl : Int32) (j A0 n : Nat) (h0 : Heap) (hP : zP.toInt = (j : Int)) (hA : zA.toInt = (A0 : Int)) (hN : zn.toInt = (n : Int)) (hj : j < 14) (hAn : A0 < 14) (hn : n ≤ 10) (hn1 : 1 ≤ n) :
    MetQ l Z (⟨"com/example/joinsmith/joinsmith/engine/stats/VarintWritePinLaw", "expected", "(IIJIB)B"⟩ : MethodName) method_2_code 7 (some .byte) ws ({ frames := 0, cells := 0, slots := 0, locals := 0 } : Room) #[(.int zP), (.int zA), (.long v), (.int zn), (.int fl)] h0 (PureQ (some (.int (own_x v n A0 j fl))) h0) := by
  refine metQ (a0 := a0) (plainFor_of_name pn_exp) hw (ef_exp zP zA v zn fl) ?_
  intro p e s m below meth c T0 C X0 e0
  obtain ⟨hx, hZ, hw, hby, hml, hown, hnm, hret, hlk⟩ := id C
  have hi : (zP - zA).toInt = (j : Int) - (A0 : Int) := by
    have h1 := c_isub zP zA
    have h2 := rng32 (zP - zA)
    omega
  have hn' : (zn - (1 : Int32)).toInt = (n : Int) - 1 := by
    have h1 := c_isub zn 1
    have h2 := rng32 (zn - 1)
    have h3 : (1 : Int32).toInt = 1 := rfl
    omega
  have z0 : (0 : Int32).toInt = 0 := rfl
  have L0 := @Int32.lt_iff_toInt_lt
  show WP p e below _ T0 (mkF m 0 #[.val (.int zP), .val (.int zA), .val (.long v), .second, .val (.int zn), .val (.int fl), .unset] [])
  refine wp (fun _ => XS.iloadN X0.here hx rfl (hb hby dexp_0) rfl) ?_
  show WP p e below _ T0 (mkF m 1 #[.val (.int zP), .val (.int zA), .val (.long v), .second, .val (.int zn), .val (.int fl), .unset] [(.int zP)])
  refine wp (fun _ => XS.iloadN X0.here hx rfl (hb hby dexp_1) rfl) ?_
  show WP p e below _ T0 (mkF m 2 #[.val (.int zP), .val (.int zA), .val (.long v), .second, .val (.int zn), .val (.int fl), .unset] [(.int zA), (.int zP)])
  refine wp (fun _ => XS.isub X0.here hx rfl (hb hby dexp_2) rfl) ?_
  show WP p e below _ T0 (mkF m 3 #[.val (.int zP), .val (.int zA), .val (.long v), .second, .val (.int zn), .val (.int fl), .unset] [(.int (zP - zA))])
  refine wp (fun _ => XS.istore X0.here hx rfl (hb hby dexp_3) rfl (l' := #[.val (.int zP), .val (.int zA), .val (.long v), .second, .val (.int zn), .val (.int fl), .val (.int (zP - zA))]) rfl) ?_
  show WP p e below _ T0 (mkF m 5 #[.val (.int zP), .val (.int zA), .val (.long v), .second, .val (.int zn), .val (.int fl), .val (.int (zP - zA))] [])
  refine wp (fun _ => XS.iload X0.here hx rfl (hb hby dexp_5) rfl) ?_
  show WP p e below _ T0 (mkF m 7 #[.val (.int zP), .val (.int zA), .val (.long v), .second, .val (.int zn), .val (.int fl), .val (.int (zP - zA))] [(.int (zP - zA))])
  by_cases h1 : (zP - zA) < (0 : Int32)
  · rw [L0] at h1
    refine wp (fun _ => XS.ifYes X0.here hx rfl (pc0 := 7) (pc' := 17) rfl (hb hby dexp_7) rfl (XT.i0_lt_t (L0.mpr h1)) (by decide) (by decide)) ?_
    show WP p e below _ T0 (mkF m 17 #[.val (.int zP), .val (.int zA), .val (.long v), .second, .val (.int zn), .val (.int fl), .val (.int (zP - zA))] [])
    refine wp (fun _ => XS.iload X0.here hx rfl (hb hby dexp_17) rfl) ?_
    show WP p e below _ T0 (mkF m 19 #[.val (.int zP), .val (.int zA), .val (.long v), .second, .val (.int zn), .val (.int fl), .val (.int (zP - zA))] [(.int fl)])
    exact wp_zreturn C X0 (Or.inr (Or.inl rfl)) dexp_19 ⟨by rw [own_x, if_neg (by omega)], e0, rfl⟩ (by decide) (by decide)
  · rw [L0] at h1
    refine wp (fun _ => XS.ifNo X0.here hx rfl (hb hby dexp_7) rfl (XT.i0_lt_f (fun q => h1 (L0.mp q)))) ?_
    show WP p e below _ T0 (mkF m 10 #[.val (.int zP), .val (.int zA), .val (.long v), .second, .val (.int zn), .val (.int fl), .val (.int (zP - zA))] [])
    refine wp (fun _ => XS.iload X0.here hx rfl (hb hby dexp_10) rfl) ?_
    show WP p e below _ T0 (mkF m 12 #[.val (.int zP), .val (.int zA), .val (.long v), .second, .val (.int zn), .val (.int fl), .val (.int (zP - zA))] [(.int (zP - zA))])
    refine wp (fun _ => XS.iload X0.here hx rfl (hb hby dexp_12) rfl) ?_
    show WP p e below _ T0 (mkF m 14 #[.val (.int zP), .val (.int zA), .val (.long v), .second, .val (.int zn), .val (.int fl), .val (.int (zP - zA))] [(.int zn), (.int (zP - zA))])
    by_cases h2 : (zP - zA) < zn
    · rw [L0] at h2
      refine wp (fun _ => XS.icmpYes X0.here hx rfl (pc0 := 14) (pc' := 20) rfl (hb hby dexp_14) rfl (XT.ii_lt_t (L0.mpr h2)) (by decide) (by decide)) ?_
      show WP p e below _ T0 (mkF m 20 #[.val (.int zP), .val (.int zA), .val (.long v), .second, .val (.int zn), .val (.int fl), .val (.int (zP - zA))] [])
      refine wp (fun _ => XS.iload X0.here hx rfl (hb hby dexp_20) rfl) ?_
      show WP p e below _ T0 (mkF m 22 #[.val (.int zP), .val (.int zA), .val (.long v), .second, .val (.int zn), .val (.int fl), .val (.int (zP - zA))] [(.int (zP - zA))])
      refine wp (fun _ => XS.iload X0.here hx rfl (hb hby dexp_22) rfl) ?_
      show WP p e below _ T0 (mkF m 24 #[.val (.int zP), .val (.int zA), .val (.long v), .second, .val (.int zn), .val (.int fl), .val (.int (zP - zA))] [(.int zn), (.int (zP - zA))])
      refine wp (fun _ => XS.iconst X0.here hx rfl (hb hby dexp_24)) ?_
      show WP p e below _ T0 (mkF m 25 #[.val (.int zP), .val (.int zA), .val (.long v), .second, .val (.int zn), .val (.int fl), .val (.int (zP - zA))] [(.int (1 : Int32)), (.int zn), (.int (zP - zA))])
      refine wp (fun _ => XS.isub X0.here hx rfl (hb hby dexp_25) rfl) ?_
      show WP p e below _ T0 (mkF m 26 #[.val (.int zP), .val (.int zA), .val (.long v), .second, .val (.int zn), .val (.int fl), .val (.int (zP - zA))] [(.int (zn - (1 : Int32))), (.int (zP - zA))])
      have e7 : ((7 : Int32) * (zP - zA)).toInt = ((7 * (j - A0) : Nat) : Int) := by
        have q1 := c_imul 7 (zP - zA)
        have q2 := rng32 ((7 : Int32) * (zP - zA))
        have q3 : (7 : Int32).toInt = 7 := rfl
        rw [q3] at q1
        omega
      by_cases h3 : (zP - zA) < (zn - (1 : Int32))
      · rw [L0] at h3
        refine wp (fun _ => XS.icmpNo X0.here hx rfl (hb hby dexp_26) rfl (XT.ii_ge_f (L0.mpr h3))) ?_
        show WP p e below _ T0 (mkF m 29 #[.val (.int zP), .val (.int zA), .val (.long v), .second, .val (.int zn), .val (.int fl), .val (.int (zP - zA))] [])
        refine wp (fun _ => XS.lloadN X0.here hx rfl (hb hby dexp_29) rfl) ?_
        show WP p e below _ T0 (mkF m 30 #[.val (.int zP), .val (.int zA), .val (.long v), .second, .val (.int zn), .val (.int fl), .val (.int (zP - zA))] [(.long v)])
        refine wp (fun _ => XS.bipush X0.here hx rfl (hb hby dexp_30)) ?_
        show WP p e below _ T0 (mkF m 32 #[.val (.int zP), .val (.int zA), .val (.long v), .second, .val (.int zn), .val (.int fl), .val (.int (zP - zA))] [(.int (7 : Int32)), (.long v)])
        refine wp (fun _ => XS.iload X0.here hx rfl (hb hby dexp_32) rfl) ?_
        show WP p e below _ T0 (mkF m 34 #[.val (.int zP), .val (.int zA), .val (.long v), .second, .val (.int zn), .val (.int fl), .val (.int (zP - zA))] [(.int (zP - zA)), (.int (7 : Int32)), (.long v)])
        refine wp (fun _ => XS.imul X0.here hx rfl (hb hby dexp_34) rfl) ?_
        show WP p e below _ T0 (mkF m 35 #[.val (.int zP), .val (.int zA), .val (.long v), .second, .val (.int zn), .val (.int fl), .val (.int (zP - zA))] [(.int ((7 : Int32) * (zP - zA))), (.long v)])
        refine wp (fun _ => XS.lushr X0.here hx rfl (hb hby dexp_35) rfl) ?_
        show WP p e below _ T0 (mkF m 36 #[.val (.int zP), .val (.int zA), .val (.long v), .second, .val (.int zn), .val (.int fl), .val (.int (zP - zA))] [(.long ((v.toUInt64 >>> (((7 : Int32) * (zP - zA)) &&& 0x3f).toInt64.toUInt64).toInt64))])
        rw [own_shz v e7 (by omega)]
        show WP p e below _ T0 (mkF m 36 #[.val (.int zP), .val (.int zA), .val (.long v), .second, .val (.int zn), .val (.int fl), .val (.int (zP - zA))] [(.long (own_sh v (7 * (j - A0))))])
        refine wp_ldc2 C X0 (hw _ (List.mem_of_getElem? (i := 15) rfl)) dexp_36 ?_
        show WP p e below _ T0 (mkF m 39 #[.val (.int zP), .val (.int zA), .val (.long v), .second, .val (.int zn), .val (.int fl), .val (.int (zP - zA))] [(.long (127 : Int64)), (.long (own_sh v (7 * (j - A0))))])
        refine wp (fun _ => XS.land X0.here hx rfl (hb hby dexp_39) rfl) ?_
        show WP p e below _ T0 (mkF m 40 #[.val (.int zP), .val (.int zA), .val (.long v), .second, .val (.int zn), .val (.int fl), .val (.int (zP - zA))] [(.long ((own_sh v (7 * (j - A0))) &&& (127 : Int64)))])
        refine wp_ldc2 C X0 (hw _ (List.mem_of_getElem? (i := 16) rfl)) dexp_40 ?_
        show WP p e below _ T0 (mkF m 43 #[.val (.int zP), .val (.int zA), .val (.long v), .second, .val (.int zn), .val (.int fl), .val (.int (zP - zA))] [(.long (128 : Int64)), (.long ((own_sh v (7 * (j - A0))) &&& (127 : Int64)))])
        refine wp (fun _ => XS.lor X0.here hx rfl (hb hby dexp_43) rfl) ?_
        show WP p e below _ T0 (mkF m 44 #[.val (.int zP), .val (.int zA), .val (.long v), .second, .val (.int zn), .val (.int fl), .val (.int (zP - zA))] [(.long (((own_sh v (7 * (j - A0))) &&& (127 : Int64)) ||| (128 : Int64)))])
        refine wp (fun _ => XS.l2i X0.here hx rfl (hb hby dexp_44) rfl) ?_
        show WP p e below _ T0 (mkF m 45 #[.val (.int zP), .val (.int zA), .val (.long v), .second, .val (.int zn), .val (.int fl), .val (.int (zP - zA))] [(.int (((own_sh v (7 * (j - A0))) &&& (127 : Int64)) ||| (128 : Int64)).toInt32)])
        refine wp (fun _ => XS.i2b X0.here hx rfl (hb hby dexp_45) rfl) ?_
        show WP p e below _ T0 (mkF m 46 #[.val (.int zP), .val (.int zA), .val (.long v), .second, .val (.int zn), .val (.int fl), .val (.int (zP - zA))] [(.int (((own_sh v (7 * (j - A0))) &&& (127 : Int64)) ||| (128 : Int64)).toInt32.toInt8.toInt32)])
        exact wp_zreturn C X0 (Or.inr (Or.inl rfl)) dexp_46 ⟨by rw [own_x, if_pos (by omega), own_e, if_pos (by omega)]; exact congrArg (fun q => some (Value.int q)) (own_enc_nar _), e0, rfl⟩ (by decide) (by decide)
      · rw [L0] at h3
        refine wp (fun _ => XS.icmpYes X0.here hx rfl (pc0 := 26) (pc' := 47) rfl (hb hby dexp_26) rfl (XT.ii_ge_t (fun q => h3 (L0.mp q))) (by decide) (by decide)) ?_
        show WP p e below _ T0 (mkF m 47 #[.val (.int zP), .val (.int zA), .val (.long v), .second, .val (.int zn), .val (.int fl), .val (.int (zP - zA))] [])
        refine wp (fun _ => XS.lloadN X0.here hx rfl (hb hby dexp_47) rfl) ?_
        show WP p e below _ T0 (mkF m 48 #[.val (.int zP), .val (.int zA), .val (.long v), .second, .val (.int zn), .val (.int fl), .val (.int (zP - zA))] [(.long v)])
        refine wp (fun _ => XS.bipush X0.here hx rfl (hb hby dexp_48)) ?_
        show WP p e below _ T0 (mkF m 50 #[.val (.int zP), .val (.int zA), .val (.long v), .second, .val (.int zn), .val (.int fl), .val (.int (zP - zA))] [(.int (7 : Int32)), (.long v)])
        refine wp (fun _ => XS.iload X0.here hx rfl (hb hby dexp_50) rfl) ?_
        show WP p e below _ T0 (mkF m 52 #[.val (.int zP), .val (.int zA), .val (.long v), .second, .val (.int zn), .val (.int fl), .val (.int (zP - zA))] [(.int (zP - zA)), (.int (7 : Int32)), (.long v)])
        refine wp (fun _ => XS.imul X0.here hx rfl (hb hby dexp_52) rfl) ?_
        show WP p e below _ T0 (mkF m 53 #[.val (.int zP), .val (.int zA), .val (.long v), .second, .val (.int zn), .val (.int fl), .val (.int (zP - zA))] [(.int ((7 : Int32) * (zP - zA))), (.long v)])
        refine wp (fun _ => XS.lushr X0.here hx rfl (hb hby dexp_53) rfl) ?_
        show WP p e below _ T0 (mkF m 54 #[.val (.int zP), .val (.int zA), .val (.long v), .second, .val (.int zn), .val (.int fl), .val (.int (zP - zA))] [(.long ((v.toUInt64 >>> (((7 : Int32) * (zP - zA)) &&& 0x3f).toInt64.toUInt64).toInt64))])
        rw [own_shz v e7 (by omega)]
        show WP p e below _ T0 (mkF m 54 #[.val (.int zP), .val (.int zA), .val (.long v), .second, .val (.int zn), .val (.int fl), .val (.int (zP - zA))] [(.long (own_sh v (7 * (j - A0))))])
        refine wp (fun _ => XS.l2i X0.here hx rfl (hb hby dexp_54) rfl) ?_
        show WP p e below _ T0 (mkF m 55 #[.val (.int zP), .val (.int zA), .val (.long v), .second, .val (.int zn), .val (.int fl), .val (.int (zP - zA))] [(.int (own_sh v (7 * (j - A0))).toInt32)])
        refine wp (fun _ => XS.i2b X0.here hx rfl (hb hby dexp_55) rfl) ?_
        show WP p e below _ T0 (mkF m 56 #[.val (.int zP), .val (.int zA), .val (.long v), .second, .val (.int zn), .val (.int fl), .val (.int (zP - zA))] [(.int (own_sh v (7 * (j - A0))).toInt32.toInt8.toInt32)])
        exact wp_zreturn C X0 (Or.inr (Or.inl rfl)) dexp_56 ⟨by rw [own_x, if_pos (by omega), own_e, if_neg (by omega)]; exact congrArg (fun q => some (Value.int q)) (own_last_nar _), e0, rfl⟩ (by decide) (by decide)
    · rw [L0] at h2
      refine wp (fun _ => XS.icmpNo X0.here hx rfl (hb hby dexp_14) rfl (XT.ii_lt_f (fun q => h2 (L0.mp q)))) ?_
      show WP p e below _ T0 (mkF m 17 #[.val (.int zP), .val (.int zA), .val (.long v), .second, .val (.int zn), .val (.int fl), .val (.int (zP - zA))] [])
      refine wp (fun _ => XS.iload X0.here hx rfl (hb hby dexp_17) rfl) ?_
      show WP p e below _ T0 (mkF m 19 #[.val (.int zP), .val (.int zA), .val (.long v), .second, .val (.int zn), .val (.int fl), .val (.int (zP - zA))] [(.int fl)])
      exact wp_zreturn C X0 (Or.inr (Or.inl rfl)) dexp_19 ⟨by rw [own_x, if_neg (by omega)], e0, rfl⟩ (by decide) (by decide)
set_option maxRecDepth 65536 in
set_option maxHeartbeats 4000000 in
theorem rm_cell (l : Launch) (Z : State) (a0 : Array Value) (hw : ∀ d ∈ tables_1, d.before a0 Z = true) (ws : List Jvm.Cond) (a : Addr) (zP zA : Int32) (v : Int64) (zn fl : Int32) (j A0 n : Nat) (h0 : Heap) (hP : zP.toInt = (j : Int)) (hA : zA.toInt = (A0 : Int)) (hN : zn.toInt = (n : Int)) (hj : j < 14) (hAn : A0 < 14) (hn : n ≤ 10) (hn1 : 1 ≤ n) (A : Af Z h0 a .byte 14 (fun j => .int (own_x v n A0 j fl))) :
    MetQ l Z (⟨"com/example/joinsmith/joinsmith/engine/stats/VarintWritePinLaw", "cell", "([BIIJIB)Z"⟩ : MethodName) method_3_code 7 (some .boolean) ws ({ frames := 1, cells := 0, slots := 0, locals := 19 } : Room) #[(.ref a), (.int zP), (.int zA), (.long v), (.int zn), (.int fl)] h0 (PureQ (some (.int (1 : Int32))) h0) := by
  refine metQ (a0 := a0) (plainFor_of_name pn_cell) hw (ef_cell a zP zA v zn fl) ?_
  intro p e s m below meth c T0 C X0 e0
  obtain ⟨hx, hZ, hw, hby, hml, hown, hnm, hret, hlk⟩ := id C
  show WP p e below _ T0 (mkF m 0 #[.val (.ref a), .val (.int zP), .val (.int zA), .val (.long v), .second, .val (.int zn), .val (.int fl)] [])
  refine wp (fun _ => XS.aloadN X0.here hx rfl (hb hby dcell_0) rfl rfl) ?_
  show WP p e below _ T0 (mkF m 1 #[.val (.ref a), .val (.int zP), .val (.int zA), .val (.long v), .second, .val (.int zn), .val (.int fl)] [(.ref a)])
  refine wp (fun _ => XS.iloadN X0.here hx rfl (hb hby dcell_1) rfl) ?_
  show WP p e below _ T0 (mkF m 2 #[.val (.ref a), .val (.int zP), .val (.int zA), .val (.long v), .second, .val (.int zn), .val (.int fl)] [(.int zP), (.ref a)])
  refine wp_baload C X0 e0 A hP hj rfl dcell_2 ?_
  show WP p e below _ T0 (mkF m 3 #[.val (.ref a), .val (.int zP), .val (.int zA), .val (.long v), .second, .val (.int zn), .val (.int fl)] [(.int (own_x v n A0 j fl))])
  refine wp (fun _ => XS.iloadN X0.here hx rfl (hb hby dcell_3) rfl) ?_
  show WP p e below _ T0 (mkF m 4 #[.val (.ref a), .val (.int zP), .val (.int zA), .val (.long v), .second, .val (.int zn), .val (.int fl)] [(.int zP), (.int (own_x v n A0 j fl))])
  refine wp (fun _ => XS.iloadN X0.here hx rfl (hb hby dcell_4) rfl) ?_
  show WP p e below _ T0 (mkF m 5 #[.val (.ref a), .val (.int zP), .val (.int zA), .val (.long v), .second, .val (.int zn), .val (.int fl)] [(.int zA), (.int zP), (.int (own_x v n A0 j fl))])
  refine wp (fun _ => XS.lloadN X0.here hx rfl (hb hby dcell_5) rfl) ?_
  show WP p e below _ T0 (mkF m 6 #[.val (.ref a), .val (.int zP), .val (.int zA), .val (.long v), .second, .val (.int zn), .val (.int fl)] [(.long v), (.int zA), (.int zP), (.int (own_x v n A0 j fl))])
  refine wp (fun _ => XS.iload X0.here hx rfl (hb hby dcell_6) rfl) ?_
  show WP p e below _ T0 (mkF m 8 #[.val (.ref a), .val (.int zP), .val (.int zA), .val (.long v), .second, .val (.int zn), .val (.int fl)] [(.int zn), (.long v), (.int zA), (.int zP), (.int (own_x v n A0 j fl))])
  refine wp (fun _ => XS.iload X0.here hx rfl (hb hby dcell_8) rfl) ?_
  show WP p e below _ T0 (mkF m 10 #[.val (.ref a), .val (.int zP), .val (.int zA), .val (.long v), .second, .val (.int zn), .val (.int fl)] [(.int fl), (.int zn), (.long v), (.int zA), (.int zP), (.int (own_x v n A0 j fl))])
  refine wp_staticP C X0 e0 (argsL := [(.int zP), (.int zA), (.long v), (.int zn), (.int fl)]) (rest := [(.int (own_x v n A0 j fl))]) (rm_exp l Z a0 hw [] zP zA v zn fl j A0 n h0 hP hA hN hj hAn hn hn1) (hw _ (List.mem_of_getElem? (i := 10) rfl)) (hw _ (List.mem_of_getElem? (i := 11) rfl)) (hw _ (List.mem_of_getElem? (i := 8) rfl)) (hw _ (List.mem_of_getElem? (i := 12) rfl)) (by decide) rfl (lenOf pd_exp rfl) dcell_10 rfl rfl rfl (by decide) (Nat.le_of_ble_eq_true rfl) (by decide) (by decide) ?_
  intro T1 X1 e1
  show WP p e below _ T1 (mkF m 13 #[.val (.ref a), .val (.int zP), .val (.int zA), .val (.long v), .second, .val (.int zn), .val (.int fl)] [(.int (own_x v n A0 j fl)), (.int (own_x v n A0 j fl))])
  refine wp (fun _ => XS.icmpNo X1.here hx rfl (hb hby dcell_13) rfl (XT.ii_ne_f rfl)) ?_
  show WP p e below _ T1 (mkF m 16 #[.val (.ref a), .val (.int zP), .val (.int zA), .val (.long v), .second, .val (.int zn), .val (.int fl)] [])
  refine wp (fun _ => XS.iconst X1.here hx rfl (hb hby dcell_16)) ?_
  show WP p e below _ T1 (mkF m 17 #[.val (.ref a), .val (.int zP), .val (.int zA), .val (.long v), .second, .val (.int zn), .val (.int fl)] [(.int (1 : Int32))])
  refine wp (fun _ => XS.goto X1.here hx rfl (pc0 := 17) (pc' := 21) rfl (hb hby dcell_17) (by decide) (by decide)) ?_
  show WP p e below _ T1 (mkF m 21 #[.val (.ref a), .val (.int zP), .val (.int zA), .val (.long v), .second, .val (.int zn), .val (.int fl)] [(.int (1 : Int32))])
  exact wp_zreturn C X1 (Or.inl rfl) dcell_21 ⟨rfl, e1, rfl⟩ (by decide) (by decide)
section Own2
variable {p : Program} {l : Launch} {e : Env} {R : Room} {s : State} {m : MethodId} {args : Array Value} {below : List Frame} {meth : Method} {c : Code} {T0 : State} {locs : List Loc} {cells slots : Nat} {Z : State} {a0 : Array Value} {h0 : Heap} {Q : State → Prop}

set_option maxRecDepth 65536 in
set_option maxHeartbeats 4000000 in
theorem segN1 (xx : Int64) (p1 p2 p3 : Int32) (v : Int64) (zA fl : Int32) (a : Addr) (C : Cx p s m meth c Z a0 code 13 "com/example/joinsmith/joinsmith/engine/stats/VarintWritePinLaw" "law" (some .boolean)) (X0 : Stand p l e R s m args below meth c T0 locs cells slots)
    (k : WP p e below Q T0 (mkF m 132 #[.val (.long xx), .second, .val (.int p1), .val (.int p2), .val (.int p3), .val (.long v), .second, .val (.int zA), .val (.int fl), .val (.ref a), .val (.int (Int32.ofNat (own_N v.toBitVec.toNat 1))), .unset, .unset] [])) : WP p e below Q T0 (mkF m 119 #[.val (.long xx), .second, .val (.int p1), .val (.int p2), .val (.int p3), .val (.long v), .second, .val (.int zA), .val (.int fl), .val (.ref a), .val (.int (Int32.ofNat (own_N v.toBitVec.toNat 0))), .unset, .unset] []) := by
  obtain ⟨hx, hZ, hw, hby, hml, hown, hnm, hret, hlk⟩ := id C
  refine wp (fun _ => XS.lload X0.here hx rfl (hb hby at_119) rfl) ?_
  show WP p e below _ T0 (mkF m 121 #[.val (.long xx), .second, .val (.int p1), .val (.int p2), .val (.int p3), .val (.long v), .second, .val (.int zA), .val (.int fl), .val (.ref a), .val (.int (Int32.ofNat (own_N v.toBitVec.toNat 0))), .unset, .unset] [(.long v)])
  refine wp (fun _ => XS.bipush X0.here hx rfl (hb hby at_121)) ?_
  show WP p e below _ T0 (mkF m 123 #[.val (.long xx), .second, .val (.int p1), .val (.int p2), .val (.int p3), .val (.long v), .second, .val (.int zA), .val (.int fl), .val (.ref a), .val (.int (Int32.ofNat (own_N v.toBitVec.toNat 0))), .unset, .unset] [(.int (7 : Int32)), (.long v)])
  refine wp (fun _ => XS.lushr X0.here hx rfl (hb hby at_123) rfl) ?_
  show WP p e below _ T0 (mkF m 124 #[.val (.long xx), .second, .val (.int p1), .val (.int p2), .val (.int p3), .val (.long v), .second, .val (.int zA), .val (.int fl), .val (.ref a), .val (.int (Int32.ofNat (own_N v.toBitVec.toNat 0))), .unset, .unset] [(.long ((v.toUInt64 >>> ((7 : Int32) &&& 0x3f).toInt64.toUInt64).toInt64))])
  show WP p e below _ T0 (mkF m 124 #[.val (.long xx), .second, .val (.int p1), .val (.int p2), .val (.int p3), .val (.long v), .second, .val (.int zA), .val (.int fl), .val (.ref a), .val (.int (Int32.ofNat (own_N v.toBitVec.toNat 0))), .unset, .unset] [(.long (own_sh v 7))])
  refine wp (fun _ => XS.lconst X0.here hx rfl (hb hby at_124)) ?_
  show WP p e below _ T0 (mkF m 125 #[.val (.long xx), .second, .val (.int p1), .val (.int p2), .val (.int p3), .val (.long v), .second, .val (.int zA), .val (.int fl), .val (.ref a), .val (.int (Int32.ofNat (own_N v.toBitVec.toNat 0))), .unset, .unset] [(.long (0 : Int64)), (.long (own_sh v 7))])
  refine wp (fun _ => XT.lcmp X0.here hx rfl (hb hby at_125) rfl) ?_
  show WP p e below _ T0 (mkF m 126 #[.val (.long xx), .second, .val (.int p1), .val (.int p2), .val (.int p3), .val (.long v), .second, .val (.int zA), .val (.int fl), .val (.ref a), .val (.int (Int32.ofNat (own_N v.toBitVec.toNat 0))), .unset, .unset] [(.int (XT.cmpL (own_sh v 7) (0 : Int64)))])
  by_cases hc : (own_sh v 7) = (0 : Int64)
  · have eN : own_N v.toBitVec.toNat 1 = own_N v.toBitVec.toNat 0 := if_neg (Nat.not_le.mpr ((own_sh_eq0 v 7).mp hc))
    rw [eN] at k
    refine wp (fun _ => XS.ifYes X0.here hx rfl (pc0 := 126) (pc' := 132) rfl (hb hby at_126) rfl (XT.ll_eq_t hc) (by decide) (by decide)) ?_
    show WP p e below _ T0 (mkF m 132 #[.val (.long xx), .second, .val (.int p1), .val (.int p2), .val (.int p3), .val (.long v), .second, .val (.int zA), .val (.int fl), .val (.ref a), .val (.int (Int32.ofNat (own_N v.toBitVec.toNat 0))), .unset, .unset] [])
    exact k
  · have eN : own_N v.toBitVec.toNat 1 = 2 := if_pos (Nat.not_lt.mp fun q => hc ((own_sh_eq0 v 7).mpr q))
    rw [eN] at k
    refine wp (fun _ => XS.ifNo X0.here hx rfl (hb hby at_126) rfl (XT.ll_eq_f hc)) ?_
    show WP p e below _ T0 (mkF m 129 #[.val (.long xx), .second, .val (.int p1), .val (.int p2), .val (.int p3), .val (.long v), .second, .val (.int zA), .val (.int fl), .val (.ref a), .val (.int (Int32.ofNat (own_N v.toBitVec.toNat 0))), .unset, .unset] [])
    refine wp (fun _ => XS.iconst X0.here hx rfl (hb hby at_129)) ?_
    show WP p e below _ T0 (mkF m 130 #[.val (.long xx), .second, .val (.int p1), .val (.int p2), .val (.int p3), .val (.long v), .second, .val (.int zA), .val (.int fl), .val (.ref a), .val (.int (Int32.ofNat (own_N v.toBitVec.toNat 0))), .unset, .unset] [(.int (2 : Int32))])
    refine wp (fun _ => XS.istore X0.here hx rfl (hb hby at_130) rfl (l' := #[.val (.long xx), .second, .val (.int p1), .val (.int p2), .val (.int p3), .val (.long v), .second, .val (.int zA), .val (.int fl), .val (.ref a), .val (.int (2 : Int32)), .unset, .unset]) rfl) ?_
    show WP p e below _ T0 (mkF m 132 #[.val (.long xx), .second, .val (.int p1), .val (.int p2), .val (.int p3), .val (.long v), .second, .val (.int zA), .val (.int fl), .val (.ref a), .val (.int (2 : Int32)), .unset, .unset] [])
    exact k
set_option maxRecDepth 65536 in
set_option maxHeartbeats 4000000 in
theorem segN2 (xx : Int64) (p1 p2 p3 : Int32) (v : Int64) (zA fl : Int32) (a : Addr) (C : Cx p s m meth c Z a0 code 13 "com/example/joinsmith/joinsmith/engine/stats/VarintWritePinLaw" "law" (some .boolean)) (X0 : Stand p l e R s m args below meth c T0 locs cells slots)
    (k : WP p e below Q T0 (mkF m 145 #[.val (.long xx), .second, .val (.int p1), .val (.int p2), .val (.int p3), .val (.long v), .second, .val (.int zA), .val (.int fl), .val (.ref a), .val (.int (Int32.ofNat (own_N v.toBitVec.toNat 2))), .unset, .unset] [])) : WP p e below Q T0 (mkF m 132 #[.val (.long xx), .second, .val (.int p1), .val (.int p2), .val (.int p3), .val (.long v), .second, .val (.int zA), .val (.int fl), .val (.ref a), .val (.int (Int32.ofNat (own_N v.toBitVec.toNat 1))), .unset, .unset] []) := by
  obtain ⟨hx, hZ, hw, hby, hml, hown, hnm, hret, hlk⟩ := id C
  refine wp (fun _ => XS.lload X0.here hx rfl (hb hby at_132) rfl) ?_
  show WP p e below _ T0 (mkF m 134 #[.val (.long xx), .second, .val (.int p1), .val (.int p2), .val (.int p3), .val (.long v), .second, .val (.int zA), .val (.int fl), .val (.ref a), .val (.int (Int32.ofNat (own_N v.toBitVec.toNat 1))), .unset, .unset] [(.long v)])
  refine wp (fun _ => XS.bipush X0.here hx rfl (hb hby at_134)) ?_
  show WP p e below _ T0 (mkF m 136 #[.val (.long xx), .second, .val (.int p1), .val (.int p2), .val (.int p3), .val (.long v), .second, .val (.int zA), .val (.int fl), .val (.ref a), .val (.int (Int32.ofNat (own_N v.toBitVec.toNat 1))), .unset, .unset] [(.int (14 : Int32)), (.long v)])
  refine wp (fun _ => XS.lushr X0.here hx rfl (hb hby at_136) rfl) ?_
  show WP p e below _ T0 (mkF m 137 #[.val (.long xx), .second, .val (.int p1), .val (.int p2), .val (.int p3), .val (.long v), .second, .val (.int zA), .val (.int fl), .val (.ref a), .val (.int (Int32.ofNat (own_N v.toBitVec.toNat 1))), .unset, .unset] [(.long ((v.toUInt64 >>> ((14 : Int32) &&& 0x3f).toInt64.toUInt64).toInt64))])
  show WP p e below _ T0 (mkF m 137 #[.val (.long xx), .second, .val (.int p1), .val (.int p2), .val (.int p3), .val (.long v), .second, .val (.int zA), .val (.int fl), .val (.ref a), .val (.int (Int32.ofNat (own_N v.toBitVec.toNat 1))), .unset, .unset] [(.long (own_sh v 14))])
  refine wp (fun _ => XS.lconst X0.here hx rfl (hb hby at_137)) ?_
  show WP p e below _ T0 (mkF m 138 #[.val (.long xx), .second, .val (.int p1), .val (.int p2), .val (.int p3), .val (.long v), .second, .val (.int zA), .val (.int fl), .val (.ref a), .val (.int (Int32.ofNat (own_N v.toBitVec.toNat 1))), .unset, .unset] [(.long (0 : Int64)), (.long (own_sh v 14))])
  refine wp (fun _ => XT.lcmp X0.here hx rfl (hb hby at_138) rfl) ?_
  show WP p e below _ T0 (mkF m 139 #[.val (.long xx), .second, .val (.int p1), .val (.int p2), .val (.int p3), .val (.long v), .second, .val (.int zA), .val (.int fl), .val (.ref a), .val (.int (Int32.ofNat (own_N v.toBitVec.toNat 1))), .unset, .unset] [(.int (XT.cmpL (own_sh v 14) (0 : Int64)))])
  by_cases hc : (own_sh v 14) = (0 : Int64)
  · have eN : own_N v.toBitVec.toNat 2 = own_N v.toBitVec.toNat 1 := if_neg (Nat.not_le.mpr ((own_sh_eq0 v 14).mp hc))
    rw [eN] at k
    refine wp (fun _ => XS.ifYes X0.here hx rfl (pc0 := 139) (pc' := 145) rfl (hb hby at_139) rfl (XT.ll_eq_t hc) (by decide) (by decide)) ?_
    show WP p e below _ T0 (mkF m 145 #[.val (.long xx), .second, .val (.int p1), .val (.int p2), .val (.int p3), .val (.long v), .second, .val (.int zA), .val (.int fl), .val (.ref a), .val (.int (Int32.ofNat (own_N v.toBitVec.toNat 1))), .unset, .unset] [])
    exact k
  · have eN : own_N v.toBitVec.toNat 2 = 3 := if_pos (Nat.not_lt.mp fun q => hc ((own_sh_eq0 v 14).mpr q))
    rw [eN] at k
    refine wp (fun _ => XS.ifNo X0.here hx rfl (hb hby at_139) rfl (XT.ll_eq_f hc)) ?_
    show WP p e below _ T0 (mkF m 142 #[.val (.long xx), .second, .val (.int p1), .val (.int p2), .val (.int p3), .val (.long v), .second, .val (.int zA), .val (.int fl), .val (.ref a), .val (.int (Int32.ofNat (own_N v.toBitVec.toNat 1))), .unset, .unset] [])
    refine wp (fun _ => XS.iconst X0.here hx rfl (hb hby at_142)) ?_
    show WP p e below _ T0 (mkF m 143 #[.val (.long xx), .second, .val (.int p1), .val (.int p2), .val (.int p3), .val (.long v), .second, .val (.int zA), .val (.int fl), .val (.ref a), .val (.int (Int32.ofNat (own_N v.toBitVec.toNat 1))), .unset, .unset] [(.int (3 : Int32))])
    refine wp (fun _ => XS.istore X0.here hx rfl (hb hby at_143) rfl (l' := #[.val (.long xx), .second, .val (.int p1), .val (.int p2), .val (.int p3), .val (.long v), .second, .val (.int zA), .val (.int fl), .val (.ref a), .val (.int (3 : Int32)), .unset, .unset]) rfl) ?_
    show WP p e below _ T0 (mkF m 145 #[.val (.long xx), .second, .val (.int p1), .val (.int p2), .val (.int p3), .val (.long v), .second, .val (.int zA), .val (.int fl), .val (.ref a), .val (.int (3 : Int32)), .unset, .unset] [])
    exact k
set_option maxRecDepth 65536 in
set_option maxHeartbeats 4000000 in
theorem segN3 (xx : Int64) (p1 p2 p3 : Int32) (v : Int64) (zA fl : Int32) (a : Addr) (C : Cx p s m meth c Z a0 code 13 "com/example/joinsmith/joinsmith/engine/stats/VarintWritePinLaw" "law" (some .boolean)) (X0 : Stand p l e R s m args below meth c T0 locs cells slots)
    (k : WP p e below Q T0 (mkF m 158 #[.val (.long xx), .second, .val (.int p1), .val (.int p2), .val (.int p3), .val (.long v), .second, .val (.int zA), .val (.int fl), .val (.ref a), .val (.int (Int32.ofNat (own_N v.toBitVec.toNat 3))), .unset, .unset] [])) : WP p e below Q T0 (mkF m 145 #[.val (.long xx), .second, .val (.int p1), .val (.int p2), .val (.int p3), .val (.long v), .second, .val (.int zA), .val (.int fl), .val (.ref a), .val (.int (Int32.ofNat (own_N v.toBitVec.toNat 2))), .unset, .unset] []) := by
  obtain ⟨hx, hZ, hw, hby, hml, hown, hnm, hret, hlk⟩ := id C
  refine wp (fun _ => XS.lload X0.here hx rfl (hb hby at_145) rfl) ?_
  show WP p e below _ T0 (mkF m 147 #[.val (.long xx), .second, .val (.int p1), .val (.int p2), .val (.int p3), .val (.long v), .second, .val (.int zA), .val (.int fl), .val (.ref a), .val (.int (Int32.ofNat (own_N v.toBitVec.toNat 2))), .unset, .unset] [(.long v)])
  refine wp (fun _ => XS.bipush X0.here hx rfl (hb hby at_147)) ?_
  show WP p e below _ T0 (mkF m 149 #[.val (.long xx), .second, .val (.int p1), .val (.int p2), .val (.int p3), .val (.long v), .second, .val (.int zA), .val (.int fl), .val (.ref a), .val (.int (Int32.ofNat (own_N v.toBitVec.toNat 2))), .unset, .unset] [(.int (21 : Int32)), (.long v)])
  refine wp (fun _ => XS.lushr X0.here hx rfl (hb hby at_149) rfl) ?_
  show WP p e below _ T0 (mkF m 150 #[.val (.long xx), .second, .val (.int p1), .val (.int p2), .val (.int p3), .val (.long v), .second, .val (.int zA), .val (.int fl), .val (.ref a), .val (.int (Int32.ofNat (own_N v.toBitVec.toNat 2))), .unset, .unset] [(.long ((v.toUInt64 >>> ((21 : Int32) &&& 0x3f).toInt64.toUInt64).toInt64))])
  show WP p e below _ T0 (mkF m 150 #[.val (.long xx), .second, .val (.int p1), .val (.int p2), .val (.int p3), .val (.long v), .second, .val (.int zA), .val (.int fl), .val (.ref a), .val (.int (Int32.ofNat (own_N v.toBitVec.toNat 2))), .unset, .unset] [(.long (own_sh v 21))])
  refine wp (fun _ => XS.lconst X0.here hx rfl (hb hby at_150)) ?_
  show WP p e below _ T0 (mkF m 151 #[.val (.long xx), .second, .val (.int p1), .val (.int p2), .val (.int p3), .val (.long v), .second, .val (.int zA), .val (.int fl), .val (.ref a), .val (.int (Int32.ofNat (own_N v.toBitVec.toNat 2))), .unset, .unset] [(.long (0 : Int64)), (.long (own_sh v 21))])
  refine wp (fun _ => XT.lcmp X0.here hx rfl (hb hby at_151) rfl) ?_
  show WP p e below _ T0 (mkF m 152 #[.val (.long xx), .second, .val (.int p1), .val (.int p2), .val (.int p3), .val (.long v), .second, .val (.int zA), .val (.int fl), .val (.ref a), .val (.int (Int32.ofNat (own_N v.toBitVec.toNat 2))), .unset, .unset] [(.int (XT.cmpL (own_sh v 21) (0 : Int64)))])
  by_cases hc : (own_sh v 21) = (0 : Int64)
  · have eN : own_N v.toBitVec.toNat 3 = own_N v.toBitVec.toNat 2 := if_neg (Nat.not_le.mpr ((own_sh_eq0 v 21).mp hc))
    rw [eN] at k
    refine wp (fun _ => XS.ifYes X0.here hx rfl (pc0 := 152) (pc' := 158) rfl (hb hby at_152) rfl (XT.ll_eq_t hc) (by decide) (by decide)) ?_
    show WP p e below _ T0 (mkF m 158 #[.val (.long xx), .second, .val (.int p1), .val (.int p2), .val (.int p3), .val (.long v), .second, .val (.int zA), .val (.int fl), .val (.ref a), .val (.int (Int32.ofNat (own_N v.toBitVec.toNat 2))), .unset, .unset] [])
    exact k
  · have eN : own_N v.toBitVec.toNat 3 = 4 := if_pos (Nat.not_lt.mp fun q => hc ((own_sh_eq0 v 21).mpr q))
    rw [eN] at k
    refine wp (fun _ => XS.ifNo X0.here hx rfl (hb hby at_152) rfl (XT.ll_eq_f hc)) ?_
    show WP p e below _ T0 (mkF m 155 #[.val (.long xx), .second, .val (.int p1), .val (.int p2), .val (.int p3), .val (.long v), .second, .val (.int zA), .val (.int fl), .val (.ref a), .val (.int (Int32.ofNat (own_N v.toBitVec.toNat 2))), .unset, .unset] [])
    refine wp (fun _ => XS.iconst X0.here hx rfl (hb hby at_155)) ?_
    show WP p e below _ T0 (mkF m 156 #[.val (.long xx), .second, .val (.int p1), .val (.int p2), .val (.int p3), .val (.long v), .second, .val (.int zA), .val (.int fl), .val (.ref a), .val (.int (Int32.ofNat (own_N v.toBitVec.toNat 2))), .unset, .unset] [(.int (4 : Int32))])
    refine wp (fun _ => XS.istore X0.here hx rfl (hb hby at_156) rfl (l' := #[.val (.long xx), .second, .val (.int p1), .val (.int p2), .val (.int p3), .val (.long v), .second, .val (.int zA), .val (.int fl), .val (.ref a), .val (.int (4 : Int32)), .unset, .unset]) rfl) ?_
    show WP p e below _ T0 (mkF m 158 #[.val (.long xx), .second, .val (.int p1), .val (.int p2), .val (.int p3), .val (.long v), .second, .val (.int zA), .val (.int fl), .val (.ref a), .val (.int (4 : Int32)), .unset, .unset] [])
    exact k
set_option maxRecDepth 65536 in
set_option maxHeartbeats 4000000 in
theorem segN4 (xx : Int64) (p1 p2 p3 : Int32) (v : Int64) (zA fl : Int32) (a : Addr) (C : Cx p s m meth c Z a0 code 13 "com/example/joinsmith/joinsmith/engine/stats/VarintWritePinLaw" "law" (some .boolean)) (X0 : Stand p l e R s m args below meth c T0 locs cells slots)
    (k : WP p e below Q T0 (mkF m 171 #[.val (.long xx), .second, .val (.int p1), .val (.int p2), .val (.int p3), .val (.long v), .second, .val (.int zA), .val (.int fl), .val (.ref a), .val (.int (Int32.ofNat (own_N v.toBitVec.toNat 4))), .unset, .unset] [])) : WP p e below Q T0 (mkF m 158 #[.val (.long xx), .second, .val (.int p1), .val (.int p2), .val (.int p3), .val (.long v), .second, .val (.int zA), .val (.int fl), .val (.ref a), .val (.int (Int32.ofNat (own_N v.toBitVec.toNat 3))), .unset, .unset] []) := by
  obtain ⟨hx, hZ, hw, hby, hml, hown, hnm, hret, hlk⟩ := id C
  refine wp (fun _ => XS.lload X0.here hx rfl (hb hby at_158) rfl) ?_
  show WP p e below _ T0 (mkF m 160 #[.val (.long xx), .second, .val (.int p1), .val (.int p2), .val (.int p3), .val (.long v), .second, .val (.int zA), .val (.int fl), .val (.ref a), .val (.int (Int32.ofNat (own_N v.toBitVec.toNat 3))), .unset, .unset] [(.long v)])
  refine wp (fun _ => XS.bipush X0.here hx rfl (hb hby at_160)) ?_
  show WP p e below _ T0 (mkF m 162 #[.val (.long xx), .second, .val (.int p1), .val (.int p2), .val (.int p3), .val (.long v), .second, .val (.int zA), .val (.int fl), .val (.ref a), .val (.int (Int32.ofNat (own_N v.toBitVec.toNat 3))), .unset, .unset] [(.int (28 : Int32)), (.long v)])
  refine wp (fun _ => XS.lushr X0.here hx rfl (hb hby at_162) rfl) ?_
  show WP p e below _ T0 (mkF m 163 #[.val (.long xx), .second, .val (.int p1), .val (.int p2), .val (.int p3), .val (.long v), .second, .val (.int zA), .val (.int fl), .val (.ref a), .val (.int (Int32.ofNat (own_N v.toBitVec.toNat 3))), .unset, .unset] [(.long ((v.toUInt64 >>> ((28 : Int32) &&& 0x3f).toInt64.toUInt64).toInt64))])
  show WP p e below _ T0 (mkF m 163 #[.val (.long xx), .second, .val (.int p1), .val (.int p2), .val (.int p3), .val (.long v), .second, .val (.int zA), .val (.int fl), .val (.ref a), .val (.int (Int32.ofNat (own_N v.toBitVec.toNat 3))), .unset, .unset] [(.long (own_sh v 28))])
  refine wp (fun _ => XS.lconst X0.here hx rfl (hb hby at_163)) ?_
  show WP p e below _ T0 (mkF m 164 #[.val (.long xx), .second, .val (.int p1), .val (.int p2), .val (.int p3), .val (.long v), .second, .val (.int zA), .val (.int fl), .val (.ref a), .val (.int (Int32.ofNat (own_N v.toBitVec.toNat 3))), .unset, .unset] [(.long (0 : Int64)), (.long (own_sh v 28))])
  refine wp (fun _ => XT.lcmp X0.here hx rfl (hb hby at_164) rfl) ?_
  show WP p e below _ T0 (mkF m 165 #[.val (.long xx), .second, .val (.int p1), .val (.int p2), .val (.int p3), .val (.long v), .second, .val (.int zA), .val (.int fl), .val (.ref a), .val (.int (Int32.ofNat (own_N v.toBitVec.toNat 3))), .unset, .unset] [(.int (XT.cmpL (own_sh v 28) (0 : Int64)))])
  by_cases hc : (own_sh v 28) = (0 : Int64)
  · have eN : own_N v.toBitVec.toNat 4 = own_N v.toBitVec.toNat 3 := if_neg (Nat.not_le.mpr ((own_sh_eq0 v 28).mp hc))
    rw [eN] at k
    refine wp (fun _ => XS.ifYes X0.here hx rfl (pc0 := 165) (pc' := 171) rfl (hb hby at_165) rfl (XT.ll_eq_t hc) (by decide) (by decide)) ?_
    show WP p e below _ T0 (mkF m 171 #[.val (.long xx), .second, .val (.int p1), .val (.int p2), .val (.int p3), .val (.long v), .second, .val (.int zA), .val (.int fl), .val (.ref a), .val (.int (Int32.ofNat (own_N v.toBitVec.toNat 3))), .unset, .unset] [])
    exact k
  · have eN : own_N v.toBitVec.toNat 4 = 5 := if_pos (Nat.not_lt.mp fun q => hc ((own_sh_eq0 v 28).mpr q))
    rw [eN] at k
    refine wp (fun _ => XS.ifNo X0.here hx rfl (hb hby at_165) rfl (XT.ll_eq_f hc)) ?_
    show WP p e below _ T0 (mkF m 168 #[.val (.long xx), .second, .val (.int p1), .val (.int p2), .val (.int p3), .val (.long v), .second, .val (.int zA), .val (.int fl), .val (.ref a), .val (.int (Int32.ofNat (own_N v.toBitVec.toNat 3))), .unset, .unset] [])
    refine wp (fun _ => XS.iconst X0.here hx rfl (hb hby at_168)) ?_
    show WP p e below _ T0 (mkF m 169 #[.val (.long xx), .second, .val (.int p1), .val (.int p2), .val (.int p3), .val (.long v), .second, .val (.int zA), .val (.int fl), .val (.ref a), .val (.int (Int32.ofNat (own_N v.toBitVec.toNat 3))), .unset, .unset] [(.int (5 : Int32))])
    refine wp (fun _ => XS.istore X0.here hx rfl (hb hby at_169) rfl (l' := #[.val (.long xx), .second, .val (.int p1), .val (.int p2), .val (.int p3), .val (.long v), .second, .val (.int zA), .val (.int fl), .val (.ref a), .val (.int (5 : Int32)), .unset, .unset]) rfl) ?_
    show WP p e below _ T0 (mkF m 171 #[.val (.long xx), .second, .val (.int p1), .val (.int p2), .val (.int p3), .val (.long v), .second, .val (.int zA), .val (.int fl), .val (.ref a), .val (.int (5 : Int32)), .unset, .unset] [])
    exact k
set_option maxRecDepth 65536 in
set_option maxHeartbeats 4000000 in
theorem segN5 (xx : Int64) (p1 p2 p3 : Int32) (v : Int64) (zA fl : Int32) (a : Addr) (C : Cx p s m meth c Z a0 code 13 "com/example/joinsmith/joinsmith/engine/stats/VarintWritePinLaw" "law" (some .boolean)) (X0 : Stand p l e R s m args below meth c T0 locs cells slots)
    (k : WP p e below Q T0 (mkF m 185 #[.val (.long xx), .second, .val (.int p1), .val (.int p2), .val (.int p3), .val (.long v), .second, .val (.int zA), .val (.int fl), .val (.ref a), .val (.int (Int32.ofNat (own_N v.toBitVec.toNat 5))), .unset, .unset] [])) : WP p e below Q T0 (mkF m 171 #[.val (.long xx), .second, .val (.int p1), .val (.int p2), .val (.int p3), .val (.long v), .second, .val (.int zA), .val (.int fl), .val (.ref a), .val (.int (Int32.ofNat (own_N v.toBitVec.toNat 4))), .unset, .unset] []) := by
  obtain ⟨hx, hZ, hw, hby, hml, hown, hnm, hret, hlk⟩ := id C
  refine wp (fun _ => XS.lload X0.here hx rfl (hb hby at_171) rfl) ?_
  show WP p e below _ T0 (mkF m 173 #[.val (.long xx), .second, .val (.int p1), .val (.int p2), .val (.int p3), .val (.long v), .second, .val (.int zA), .val (.int fl), .val (.ref a), .val (.int (Int32.ofNat (own_N v.toBitVec.toNat 4))), .unset, .unset] [(.long v)])
  refine wp (fun _ => XS.bipush X0.here hx rfl (hb hby at_173)) ?_
  show WP p e below _ T0 (mkF m 175 #[.val (.long xx), .second, .val (.int p1), .val (.int p2), .val (.int p3), .val (.long v), .second, .val (.int zA), .val (.int fl), .val (.ref a), .val (.int (Int32.ofNat (own_N v.toBitVec.toNat 4))), .unset, .unset] [(.int (35 : Int32)), (.long v)])
  refine wp (fun _ => XS.lushr X0.here hx rfl (hb hby at_175) rfl) ?_
  show WP p e below _ T0 (mkF m 176 #[.val (.long xx), .second, .val (.int p1), .val (.int p2), .val (.int p3), .val (.long v), .second, .val (.int zA), .val (.int fl), .val (.ref a), .val (.int (Int32.ofNat (own_N v.toBitVec.toNat 4))), .unset, .unset] [(.long ((v.toUInt64 >>> ((35 : Int32) &&& 0x3f).toInt64.toUInt64).toInt64))])
  show WP p e below _ T0 (mkF m 176 #[.val (.long xx), .second, .val (.int p1), .val (.int p2), .val (.int p3), .val (.long v), .second, .val (.int zA), .val (.int fl), .val (.ref a), .val (.int (Int32.ofNat (own_N v.toBitVec.toNat 4))), .unset, .unset] [(.long (own_sh v 35))])
  refine wp (fun _ => XS.lconst X0.here hx rfl (hb hby at_176)) ?_
  show WP p e below _ T0 (mkF m 177 #[.val (.long xx), .second, .val (.int p1), .val (.int p2), .val (.int p3), .val (.long v), .second, .val (.int zA), .val (.int fl), .val (.ref a), .val (.int (Int32.ofNat (own_N v.toBitVec.toNat 4))), .unset, .unset] [(.long (0 : Int64)), (.long (own_sh v 35))])
  refine wp (fun _ => XT.lcmp X0.here hx rfl (hb hby at_177) rfl) ?_
  show WP p e below _ T0 (mkF m 178 #[.val (.long xx), .second, .val (.int p1), .val (.int p2), .val (.int p3), .val (.long v), .second, .val (.int zA), .val (.int fl), .val (.ref a), .val (.int (Int32.ofNat (own_N v.toBitVec.toNat 4))), .unset, .unset] [(.int (XT.cmpL (own_sh v 35) (0 : Int64)))])
  by_cases hc : (own_sh v 35) = (0 : Int64)
  · have eN : own_N v.toBitVec.toNat 5 = own_N v.toBitVec.toNat 4 := if_neg (Nat.not_le.mpr ((own_sh_eq0 v 35).mp hc))
    rw [eN] at k
    refine wp (fun _ => XS.ifYes X0.here hx rfl (pc0 := 178) (pc' := 185) rfl (hb hby at_178) rfl (XT.ll_eq_t hc) (by decide) (by decide)) ?_
    show WP p e below _ T0 (mkF m 185 #[.val (.long xx), .second, .val (.int p1), .val (.int p2), .val (.int p3), .val (.long v), .second, .val (.int zA), .val (.int fl), .val (.ref a), .val (.int (Int32.ofNat (own_N v.toBitVec.toNat 4))), .unset, .unset] [])
    exact k
  · have eN : own_N v.toBitVec.toNat 5 = 6 := if_pos (Nat.not_lt.mp fun q => hc ((own_sh_eq0 v 35).mpr q))
    rw [eN] at k
    refine wp (fun _ => XS.ifNo X0.here hx rfl (hb hby at_178) rfl (XT.ll_eq_f hc)) ?_
    show WP p e below _ T0 (mkF m 181 #[.val (.long xx), .second, .val (.int p1), .val (.int p2), .val (.int p3), .val (.long v), .second, .val (.int zA), .val (.int fl), .val (.ref a), .val (.int (Int32.ofNat (own_N v.toBitVec.toNat 4))), .unset, .unset] [])
    refine wp (fun _ => XS.bipush X0.here hx rfl (hb hby at_181)) ?_
    show WP p e below _ T0 (mkF m 183 #[.val (.long xx), .second, .val (.int p1), .val (.int p2), .val (.int p3), .val (.long v), .second, .val (.int zA), .val (.int fl), .val (.ref a), .val (.int (Int32.ofNat (own_N v.toBitVec.toNat 4))), .unset, .unset] [(.int (6 : Int32))])
    refine wp (fun _ => XS.istore X0.here hx rfl (hb hby at_183) rfl (l' := #[.val (.long xx), .second, .val (.int p1), .val (.int p2), .val (.int p3), .val (.long v), .second, .val (.int zA), .val (.int fl), .val (.ref a), .val (.int (6 : Int32)), .unset, .unset]) rfl) ?_
    show WP p e below _ T0 (mkF m 185 #[.val (.long xx), .second, .val (.int p1), .val (.int p2), .val (.int p3), .val (.long v), .second, .val (.int zA), .val (.int fl), .val (.ref a), .val (.int (6 : Int32)), .unset, .unset] [])
    exact k
set_option maxRecDepth 65536 in
set_option maxHeartbeats 4000000 in
theorem segN6 (xx : Int64) (p1 p2 p3 : Int32) (v : Int64) (zA fl : Int32) (a : Addr) (C : Cx p s m meth c Z a0 code 13 "com/example/joinsmith/joinsmith/engine/stats/VarintWritePinLaw" "law" (some .boolean)) (X0 : Stand p l e R s m args below meth c T0 locs cells slots)
    (k : WP p e below Q T0 (mkF m 199 #[.val (.long xx), .second, .val (.int p1), .val (.int p2), .val (.int p3), .val (.long v), .second, .val (.int zA), .val (.int fl), .val (.ref a), .val (.int (Int32.ofNat (own_N v.toBitVec.toNat 6))), .unset, .unset] [])) : WP p e below Q T0 (mkF m 185 #[.val (.long xx), .second, .val (.int p1), .val (.int p2), .val (.int p3), .val (.long v), .second, .val (.int zA), .val (.int fl), .val (.ref a), .val (.int (Int32.ofNat (own_N v.toBitVec.toNat 5))), .unset, .unset] []) := by
  obtain ⟨hx, hZ, hw, hby, hml, hown, hnm, hret, hlk⟩ := id C
  refine wp (fun _ => XS.lload X0.here hx rfl (hb hby at_185) rfl) ?_
  show WP p e below _ T0 (mkF m 187 #[.val (.long xx), .second, .val (.int p1), .val (.int p2), .val (.int p3), .val (.long v), .second, .val (.int zA), .val (.int fl), .val (.ref a), .val (.int (Int32.ofNat (own_N v.toBitVec.toNat 5))), .unset, .unset] [(.long v)])
  refine wp (fun _ => XS.bipush X0.here hx rfl (hb hby at_187)) ?_
  show WP p e below _ T0 (mkF m 189 #[.val (.long xx), .second, .val (.int p1), .val (.int p2), .val (.int p3), .val (.long v), .second, .val (.int zA), .val (.int fl), .val (.ref a), .val (.int (Int32.ofNat (own_N v.toBitVec.toNat 5))), .unset, .unset] [(.int (42 : Int32)), (.long v)])
  refine wp (fun _ => XS.lushr X0.here hx rfl (hb hby at_189) rfl) ?_
  show WP p e below _ T0 (mkF m 190 #[.val (.long xx), .second, .val (.int p1), .val (.int p2), .val (.int p3), .val (.long v), .second, .val (.int zA), .val (.int fl), .val (.ref a), .val (.int (Int32.ofNat (own_N v.toBitVec.toNat 5))), .unset, .unset] [(.long ((v.toUInt64 >>> ((42 : Int32) &&& 0x3f).toInt64.toUInt64).toInt64))])
  show WP p e below _ T0 (mkF m 190 #[.val (.long xx), .second, .val (.int p1), .val (.int p2), .val (.int p3), .val (.long v), .second, .val (.int zA), .val (.int fl), .val (.ref a), .val (.int (Int32.ofNat (own_N v.toBitVec.toNat 5))), .unset, .unset] [(.long (own_sh v 42))])
  refine wp (fun _ => XS.lconst X0.here hx rfl (hb hby at_190)) ?_
  show WP p e below _ T0 (mkF m 191 #[.val (.long xx), .second, .val (.int p1), .val (.int p2), .val (.int p3), .val (.long v), .second, .val (.int zA), .val (.int fl), .val (.ref a), .val (.int (Int32.ofNat (own_N v.toBitVec.toNat 5))), .unset, .unset] [(.long (0 : Int64)), (.long (own_sh v 42))])
  refine wp (fun _ => XT.lcmp X0.here hx rfl (hb hby at_191) rfl) ?_
  show WP p e below _ T0 (mkF m 192 #[.val (.long xx), .second, .val (.int p1), .val (.int p2), .val (.int p3), .val (.long v), .second, .val (.int zA), .val (.int fl), .val (.ref a), .val (.int (Int32.ofNat (own_N v.toBitVec.toNat 5))), .unset, .unset] [(.int (XT.cmpL (own_sh v 42) (0 : Int64)))])
  by_cases hc : (own_sh v 42) = (0 : Int64)
  · have eN : own_N v.toBitVec.toNat 6 = own_N v.toBitVec.toNat 5 := if_neg (Nat.not_le.mpr ((own_sh_eq0 v 42).mp hc))
    rw [eN] at k
    refine wp (fun _ => XS.ifYes X0.here hx rfl (pc0 := 192) (pc' := 199) rfl (hb hby at_192) rfl (XT.ll_eq_t hc) (by decide) (by decide)) ?_
    show WP p e below _ T0 (mkF m 199 #[.val (.long xx), .second, .val (.int p1), .val (.int p2), .val (.int p3), .val (.long v), .second, .val (.int zA), .val (.int fl), .val (.ref a), .val (.int (Int32.ofNat (own_N v.toBitVec.toNat 5))), .unset, .unset] [])
    exact k
  · have eN : own_N v.toBitVec.toNat 6 = 7 := if_pos (Nat.not_lt.mp fun q => hc ((own_sh_eq0 v 42).mpr q))
    rw [eN] at k
    refine wp (fun _ => XS.ifNo X0.here hx rfl (hb hby at_192) rfl (XT.ll_eq_f hc)) ?_
    show WP p e below _ T0 (mkF m 195 #[.val (.long xx), .second, .val (.int p1), .val (.int p2), .val (.int p3), .val (.long v), .second, .val (.int zA), .val (.int fl), .val (.ref a), .val (.int (Int32.ofNat (own_N v.toBitVec.toNat 5))), .unset, .unset] [])
    refine wp (fun _ => XS.bipush X0.here hx rfl (hb hby at_195)) ?_
    show WP p e below _ T0 (mkF m 197 #[.val (.long xx), .second, .val (.int p1), .val (.int p2), .val (.int p3), .val (.long v), .second, .val (.int zA), .val (.int fl), .val (.ref a), .val (.int (Int32.ofNat (own_N v.toBitVec.toNat 5))), .unset, .unset] [(.int (7 : Int32))])
    refine wp (fun _ => XS.istore X0.here hx rfl (hb hby at_197) rfl (l' := #[.val (.long xx), .second, .val (.int p1), .val (.int p2), .val (.int p3), .val (.long v), .second, .val (.int zA), .val (.int fl), .val (.ref a), .val (.int (7 : Int32)), .unset, .unset]) rfl) ?_
    show WP p e below _ T0 (mkF m 199 #[.val (.long xx), .second, .val (.int p1), .val (.int p2), .val (.int p3), .val (.long v), .second, .val (.int zA), .val (.int fl), .val (.ref a), .val (.int (7 : Int32)), .unset, .unset] [])
    exact k
set_option maxRecDepth 65536 in
set_option maxHeartbeats 4000000 in
theorem segN7 (xx : Int64) (p1 p2 p3 : Int32) (v : Int64) (zA fl : Int32) (a : Addr) (C : Cx p s m meth c Z a0 code 13 "com/example/joinsmith/joinsmith/engine/stats/VarintWritePinLaw" "law" (some .boolean)) (X0 : Stand p l e R s m args below meth c T0 locs cells slots)
    (k : WP p e below Q T0 (mkF m 213 #[.val (.long xx), .second, .val (.int p1), .val (.int p2), .val (.int p3), .val (.long v), .second, .val (.int zA), .val (.int fl), .val (.ref a), .val (.int (Int32.ofNat (own_N v.toBitVec.toNat 7))), .unset, .unset] [])) : WP p e below Q T0 (mkF m 199 #[.val (.long xx), .second, .val (.int p1), .val (.int p2), .val (.int p3), .val (.long v), .second, .val (.int zA), .val (.int fl), .val (.ref a), .val (.int (Int32.ofNat (own_N v.toBitVec.toNat 6))), .unset, .unset] []) := by
  obtain ⟨hx, hZ, hw, hby, hml, hown, hnm, hret, hlk⟩ := id C
  refine wp (fun _ => XS.lload X0.here hx rfl (hb hby at_199) rfl) ?_
  show WP p e below _ T0 (mkF m 201 #[.val (.long xx), .second, .val (.int p1), .val (.int p2), .val (.int p3), .val (.long v), .second, .val (.int zA), .val (.int fl), .val (.ref a), .val (.int (Int32.ofNat (own_N v.toBitVec.toNat 6))), .unset, .unset] [(.long v)])
  refine wp (fun _ => XS.bipush X0.here hx rfl (hb hby at_201)) ?_
  show WP p e below _ T0 (mkF m 203 #[.val (.long xx), .second, .val (.int p1), .val (.int p2), .val (.int p3), .val (.long v), .second, .val (.int zA), .val (.int fl), .val (.ref a), .val (.int (Int32.ofNat (own_N v.toBitVec.toNat 6))), .unset, .unset] [(.int (49 : Int32)), (.long v)])
  refine wp (fun _ => XS.lushr X0.here hx rfl (hb hby at_203) rfl) ?_
  show WP p e below _ T0 (mkF m 204 #[.val (.long xx), .second, .val (.int p1), .val (.int p2), .val (.int p3), .val (.long v), .second, .val (.int zA), .val (.int fl), .val (.ref a), .val (.int (Int32.ofNat (own_N v.toBitVec.toNat 6))), .unset, .unset] [(.long ((v.toUInt64 >>> ((49 : Int32) &&& 0x3f).toInt64.toUInt64).toInt64))])
  show WP p e below _ T0 (mkF m 204 #[.val (.long xx), .second, .val (.int p1), .val (.int p2), .val (.int p3), .val (.long v), .second, .val (.int zA), .val (.int fl), .val (.ref a), .val (.int (Int32.ofNat (own_N v.toBitVec.toNat 6))), .unset, .unset] [(.long (own_sh v 49))])
  refine wp (fun _ => XS.lconst X0.here hx rfl (hb hby at_204)) ?_
  show WP p e below _ T0 (mkF m 205 #[.val (.long xx), .second, .val (.int p1), .val (.int p2), .val (.int p3), .val (.long v), .second, .val (.int zA), .val (.int fl), .val (.ref a), .val (.int (Int32.ofNat (own_N v.toBitVec.toNat 6))), .unset, .unset] [(.long (0 : Int64)), (.long (own_sh v 49))])
  refine wp (fun _ => XT.lcmp X0.here hx rfl (hb hby at_205) rfl) ?_
  show WP p e below _ T0 (mkF m 206 #[.val (.long xx), .second, .val (.int p1), .val (.int p2), .val (.int p3), .val (.long v), .second, .val (.int zA), .val (.int fl), .val (.ref a), .val (.int (Int32.ofNat (own_N v.toBitVec.toNat 6))), .unset, .unset] [(.int (XT.cmpL (own_sh v 49) (0 : Int64)))])
  by_cases hc : (own_sh v 49) = (0 : Int64)
  · have eN : own_N v.toBitVec.toNat 7 = own_N v.toBitVec.toNat 6 := if_neg (Nat.not_le.mpr ((own_sh_eq0 v 49).mp hc))
    rw [eN] at k
    refine wp (fun _ => XS.ifYes X0.here hx rfl (pc0 := 206) (pc' := 213) rfl (hb hby at_206) rfl (XT.ll_eq_t hc) (by decide) (by decide)) ?_
    show WP p e below _ T0 (mkF m 213 #[.val (.long xx), .second, .val (.int p1), .val (.int p2), .val (.int p3), .val (.long v), .second, .val (.int zA), .val (.int fl), .val (.ref a), .val (.int (Int32.ofNat (own_N v.toBitVec.toNat 6))), .unset, .unset] [])
    exact k
  · have eN : own_N v.toBitVec.toNat 7 = 8 := if_pos (Nat.not_lt.mp fun q => hc ((own_sh_eq0 v 49).mpr q))
    rw [eN] at k
    refine wp (fun _ => XS.ifNo X0.here hx rfl (hb hby at_206) rfl (XT.ll_eq_f hc)) ?_
    show WP p e below _ T0 (mkF m 209 #[.val (.long xx), .second, .val (.int p1), .val (.int p2), .val (.int p3), .val (.long v), .second, .val (.int zA), .val (.int fl), .val (.ref a), .val (.int (Int32.ofNat (own_N v.toBitVec.toNat 6))), .unset, .unset] [])
    refine wp (fun _ => XS.bipush X0.here hx rfl (hb hby at_209)) ?_
    show WP p e below _ T0 (mkF m 211 #[.val (.long xx), .second, .val (.int p1), .val (.int p2), .val (.int p3), .val (.long v), .second, .val (.int zA), .val (.int fl), .val (.ref a), .val (.int (Int32.ofNat (own_N v.toBitVec.toNat 6))), .unset, .unset] [(.int (8 : Int32))])
    refine wp (fun _ => XS.istore X0.here hx rfl (hb hby at_211) rfl (l' := #[.val (.long xx), .second, .val (.int p1), .val (.int p2), .val (.int p3), .val (.long v), .second, .val (.int zA), .val (.int fl), .val (.ref a), .val (.int (8 : Int32)), .unset, .unset]) rfl) ?_
    show WP p e below _ T0 (mkF m 213 #[.val (.long xx), .second, .val (.int p1), .val (.int p2), .val (.int p3), .val (.long v), .second, .val (.int zA), .val (.int fl), .val (.ref a), .val (.int (8 : Int32)), .unset, .unset] [])
    exact k
set_option maxRecDepth 65536 in
set_option maxHeartbeats 4000000 in
theorem segN8 (xx : Int64) (p1 p2 p3 : Int32) (v : Int64) (zA fl : Int32) (a : Addr) (C : Cx p s m meth c Z a0 code 13 "com/example/joinsmith/joinsmith/engine/stats/VarintWritePinLaw" "law" (some .boolean)) (X0 : Stand p l e R s m args below meth c T0 locs cells slots)
    (k : WP p e below Q T0 (mkF m 227 #[.val (.long xx), .second, .val (.int p1), .val (.int p2), .val (.int p3), .val (.long v), .second, .val (.int zA), .val (.int fl), .val (.ref a), .val (.int (Int32.ofNat (own_N v.toBitVec.toNat 8))), .unset, .unset] [])) : WP p e below Q T0 (mkF m 213 #[.val (.long xx), .second, .val (.int p1), .val (.int p2), .val (.int p3), .val (.long v), .second, .val (.int zA), .val (.int fl), .val (.ref a), .val (.int (Int32.ofNat (own_N v.toBitVec.toNat 7))), .unset, .unset] []) := by
  obtain ⟨hx, hZ, hw, hby, hml, hown, hnm, hret, hlk⟩ := id C
  refine wp (fun _ => XS.lload X0.here hx rfl (hb hby at_213) rfl) ?_
  show WP p e below _ T0 (mkF m 215 #[.val (.long xx), .second, .val (.int p1), .val (.int p2), .val (.int p3), .val (.long v), .second, .val (.int zA), .val (.int fl), .val (.ref a), .val (.int (Int32.ofNat (own_N v.toBitVec.toNat 7))), .unset, .unset] [(.long v)])
  refine wp (fun _ => XS.bipush X0.here hx rfl (hb hby at_215)) ?_
  show WP p e below _ T0 (mkF m 217 #[.val (.long xx), .second, .val (.int p1), .val (.int p2), .val (.int p3), .val (.long v), .second, .val (.int zA), .val (.int fl), .val (.ref a), .val (.int (Int32.ofNat (own_N v.toBitVec.toNat 7))), .unset, .unset] [(.int (56 : Int32)), (.long v)])
  refine wp (fun _ => XS.lushr X0.here hx rfl (hb hby at_217) rfl) ?_
  show WP p e below _ T0 (mkF m 218 #[.val (.long xx), .second, .val (.int p1), .val (.int p2), .val (.int p3), .val (.long v), .second, .val (.int zA), .val (.int fl), .val (.ref a), .val (.int (Int32.ofNat (own_N v.toBitVec.toNat 7))), .unset, .unset] [(.long ((v.toUInt64 >>> ((56 : Int32) &&& 0x3f).toInt64.toUInt64).toInt64))])
  show WP p e below _ T0 (mkF m 218 #[.val (.long xx), .second, .val (.int p1), .val (.int p2), .val (.int p3), .val (.long v), .second, .val (.int zA), .val (.int fl), .val (.ref a), .val (.int (Int32.ofNat (own_N v.toBitVec.toNat 7))), .unset, .unset] [(.long (own_sh v 56))])
  refine wp (fun _ => XS.lconst X0.here hx rfl (hb hby at_218)) ?_
  show WP p e below _ T0 (mkF m 219 #[.val (.long xx), .second, .val (.int p1), .val (.int p2), .val (.int p3), .val (.long v), .second, .val (.int zA), .val (.int fl), .val (.ref a), .val (.int (Int32.ofNat (own_N v.toBitVec.toNat 7))), .unset, .unset] [(.long (0 : Int64)), (.long (own_sh v 56))])
  refine wp (fun _ => XT.lcmp X0.here hx rfl (hb hby at_219) rfl) ?_
  show WP p e below _ T0 (mkF m 220 #[.val (.long xx), .second, .val (.int p1), .val (.int p2), .val (.int p3), .val (.long v), .second, .val (.int zA), .val (.int fl), .val (.ref a), .val (.int (Int32.ofNat (own_N v.toBitVec.toNat 7))), .unset, .unset] [(.int (XT.cmpL (own_sh v 56) (0 : Int64)))])
  by_cases hc : (own_sh v 56) = (0 : Int64)
  · have eN : own_N v.toBitVec.toNat 8 = own_N v.toBitVec.toNat 7 := if_neg (Nat.not_le.mpr ((own_sh_eq0 v 56).mp hc))
    rw [eN] at k
    refine wp (fun _ => XS.ifYes X0.here hx rfl (pc0 := 220) (pc' := 227) rfl (hb hby at_220) rfl (XT.ll_eq_t hc) (by decide) (by decide)) ?_
    show WP p e below _ T0 (mkF m 227 #[.val (.long xx), .second, .val (.int p1), .val (.int p2), .val (.int p3), .val (.long v), .second, .val (.int zA), .val (.int fl), .val (.ref a), .val (.int (Int32.ofNat (own_N v.toBitVec.toNat 7))), .unset, .unset] [])
    exact k
  · have eN : own_N v.toBitVec.toNat 8 = 9 := if_pos (Nat.not_lt.mp fun q => hc ((own_sh_eq0 v 56).mpr q))
    rw [eN] at k
    refine wp (fun _ => XS.ifNo X0.here hx rfl (hb hby at_220) rfl (XT.ll_eq_f hc)) ?_
    show WP p e below _ T0 (mkF m 223 #[.val (.long xx), .second, .val (.int p1), .val (.int p2), .val (.int p3), .val (.long v), .second, .val (.int zA), .val (.int fl), .val (.ref a), .val (.int (Int32.ofNat (own_N v.toBitVec.toNat 7))), .unset, .unset] [])
    refine wp (fun _ => XS.bipush X0.here hx rfl (hb hby at_223)) ?_
    show WP p e below _ T0 (mkF m 225 #[.val (.long xx), .second, .val (.int p1), .val (.int p2), .val (.int p3), .val (.long v), .second, .val (.int zA), .val (.int fl), .val (.ref a), .val (.int (Int32.ofNat (own_N v.toBitVec.toNat 7))), .unset, .unset] [(.int (9 : Int32))])
    refine wp (fun _ => XS.istore X0.here hx rfl (hb hby at_225) rfl (l' := #[.val (.long xx), .second, .val (.int p1), .val (.int p2), .val (.int p3), .val (.long v), .second, .val (.int zA), .val (.int fl), .val (.ref a), .val (.int (9 : Int32)), .unset, .unset]) rfl) ?_
    show WP p e below _ T0 (mkF m 227 #[.val (.long xx), .second, .val (.int p1), .val (.int p2), .val (.int p3), .val (.long v), .second, .val (.int zA), .val (.int fl), .val (.ref a), .val (.int (9 : Int32)), .unset, .unset] [])
    exact k
set_option maxRecDepth 65536 in
set_option maxHeartbeats 4000000 in
theorem segN9 (xx : Int64) (p1 p2 p3 : Int32) (v : Int64) (zA fl : Int32) (a : Addr) (C : Cx p s m meth c Z a0 code 13 "com/example/joinsmith/joinsmith/engine/stats/VarintWritePinLaw" "law" (some .boolean)) (X0 : Stand p l e R s m args below meth c T0 locs cells slots)
    (k : WP p e below Q T0 (mkF m 241 #[.val (.long xx), .second, .val (.int p1), .val (.int p2), .val (.int p3), .val (.long v), .second, .val (.int zA), .val (.int fl), .val (.ref a), .val (.int (Int32.ofNat (own_N v.toBitVec.toNat 9))), .unset, .unset] [])) : WP p e below Q T0 (mkF m 227 #[.val (.long xx), .second, .val (.int p1), .val (.int p2), .val (.int p3), .val (.long v), .second, .val (.int zA), .val (.int fl), .val (.ref a), .val (.int (Int32.ofNat (own_N v.toBitVec.toNat 8))), .unset, .unset] []) := by
  obtain ⟨hx, hZ, hw, hby, hml, hown, hnm, hret, hlk⟩ := id C
  refine wp (fun _ => XS.lload X0.here hx rfl (hb hby at_227) rfl) ?_
  show WP p e below _ T0 (mkF m 229 #[.val (.long xx), .second, .val (.int p1), .val (.int p2), .val (.int p3), .val (.long v), .second, .val (.int zA), .val (.int fl), .val (.ref a), .val (.int (Int32.ofNat (own_N v.toBitVec.toNat 8))), .unset, .unset] [(.long v)])
  refine wp (fun _ => XS.bipush X0.here hx rfl (hb hby at_229)) ?_
  show WP p e below _ T0 (mkF m 231 #[.val (.long xx), .second, .val (.int p1), .val (.int p2), .val (.int p3), .val (.long v), .second, .val (.int zA), .val (.int fl), .val (.ref a), .val (.int (Int32.ofNat (own_N v.toBitVec.toNat 8))), .unset, .unset] [(.int (63 : Int32)), (.long v)])
  refine wp (fun _ => XS.lushr X0.here hx rfl (hb hby at_231) rfl) ?_
  show WP p e below _ T0 (mkF m 232 #[.val (.long xx), .second, .val (.int p1), .val (.int p2), .val (.int p3), .val (.long v), .second, .val (.int zA), .val (.int fl), .val (.ref a), .val (.int (Int32.ofNat (own_N v.toBitVec.toNat 8))), .unset, .unset] [(.long ((v.toUInt64 >>> ((63 : Int32) &&& 0x3f).toInt64.toUInt64).toInt64))])
  show WP p e below _ T0 (mkF m 232 #[.val (.long xx), .second, .val (.int p1), .val (.int p2), .val (.int p3), .val (.long v), .second, .val (.int zA), .val (.int fl), .val (.ref a), .val (.int (Int32.ofNat (own_N v.toBitVec.toNat 8))), .unset, .unset] [(.long (own_sh v 63))])
  refine wp (fun _ => XS.lconst X0.here hx rfl (hb hby at_232)) ?_
  show WP p e below _ T0 (mkF m 233 #[.val (.long xx), .second, .val (.int p1), .val (.int p2), .val (.int p3), .val (.long v), .second, .val (.int zA), .val (.int fl), .val (.ref a), .val (.int (Int32.ofNat (own_N v.toBitVec.toNat 8))), .unset, .unset] [(.long (0 : Int64)), (.long (own_sh v 63))])
  refine wp (fun _ => XT.lcmp X0.here hx rfl (hb hby at_233) rfl) ?_
  show WP p e below _ T0 (mkF m 234 #[.val (.long xx), .second, .val (.int p1), .val (.int p2), .val (.int p3), .val (.long v), .second, .val (.int zA), .val (.int fl), .val (.ref a), .val (.int (Int32.ofNat (own_N v.toBitVec.toNat 8))), .unset, .unset] [(.int (XT.cmpL (own_sh v 63) (0 : Int64)))])
  by_cases hc : (own_sh v 63) = (0 : Int64)
  · have eN : own_N v.toBitVec.toNat 9 = own_N v.toBitVec.toNat 8 := if_neg (Nat.not_le.mpr ((own_sh_eq0 v 63).mp hc))
    rw [eN] at k
    refine wp (fun _ => XS.ifYes X0.here hx rfl (pc0 := 234) (pc' := 241) rfl (hb hby at_234) rfl (XT.ll_eq_t hc) (by decide) (by decide)) ?_
    show WP p e below _ T0 (mkF m 241 #[.val (.long xx), .second, .val (.int p1), .val (.int p2), .val (.int p3), .val (.long v), .second, .val (.int zA), .val (.int fl), .val (.ref a), .val (.int (Int32.ofNat (own_N v.toBitVec.toNat 8))), .unset, .unset] [])
    exact k
  · have eN : own_N v.toBitVec.toNat 9 = 10 := if_pos (Nat.not_lt.mp fun q => hc ((own_sh_eq0 v 63).mpr q))
    rw [eN] at k
    refine wp (fun _ => XS.ifNo X0.here hx rfl (hb hby at_234) rfl (XT.ll_eq_f hc)) ?_
    show WP p e below _ T0 (mkF m 237 #[.val (.long xx), .second, .val (.int p1), .val (.int p2), .val (.int p3), .val (.long v), .second, .val (.int zA), .val (.int fl), .val (.ref a), .val (.int (Int32.ofNat (own_N v.toBitVec.toNat 8))), .unset, .unset] [])
    refine wp (fun _ => XS.bipush X0.here hx rfl (hb hby at_237)) ?_
    show WP p e below _ T0 (mkF m 239 #[.val (.long xx), .second, .val (.int p1), .val (.int p2), .val (.int p3), .val (.long v), .second, .val (.int zA), .val (.int fl), .val (.ref a), .val (.int (Int32.ofNat (own_N v.toBitVec.toNat 8))), .unset, .unset] [(.int (10 : Int32))])
    refine wp (fun _ => XS.istore X0.here hx rfl (hb hby at_239) rfl (l' := #[.val (.long xx), .second, .val (.int p1), .val (.int p2), .val (.int p3), .val (.long v), .second, .val (.int zA), .val (.int fl), .val (.ref a), .val (.int (10 : Int32)), .unset, .unset]) rfl) ?_
    show WP p e below _ T0 (mkF m 241 #[.val (.long xx), .second, .val (.int p1), .val (.int p2), .val (.int p3), .val (.long v), .second, .val (.int zA), .val (.int fl), .val (.ref a), .val (.int (10 : Int32)), .unset, .unset] [])
    exact k
set_option maxRecDepth 65536 in
set_option maxHeartbeats 4000000 in
theorem segC0 (xx : Int64) (p1 p2 p3 : Int32) (v : Int64) (zA fl : Int32) (a : Addr) (zn zE : Int32) (A0 n : Nat) (hA : zA.toInt = (A0 : Int)) (hN : zn.toInt = (n : Int)) (hAn : A0 < 14) (hn : n ≤ 10) (hn1 : 1 ≤ n) (A : Af Z h0 a .byte 14 (fun j => .int (own_x v n A0 j fl))) (C : Cx p s m meth c Z a0 code 13 "com/example/joinsmith/joinsmith/engine/stats/VarintWritePinLaw" "law" (some .boolean)) (X0 : Stand p l e room_1 s m args below meth c T0 locs 1 14) (e0 : T0.heap = h0)
    (k : ∀ T', Stand p l e room_1 s m args below meth c T' locs 1 14 → T'.heap = h0 → WP p e below Q T' (mkF m 288 #[.val (.long xx), .second, .val (.int p1), .val (.int p2), .val (.int p3), .val (.long v), .second, .val (.int zA), .val (.int fl), .val (.ref a), .val (.int zn), .val (.int zE), .val (.int (1 : Int32))] [])) : WP p e below Q T0 (mkF m 269 #[.val (.long xx), .second, .val (.int p1), .val (.int p2), .val (.int p3), .val (.long v), .second, .val (.int zA), .val (.int fl), .val (.ref a), .val (.int zn), .val (.int zE), .val (.int (1 : Int32))] []) := by
  obtain ⟨hx, hZ, hw, hby, hml, hown, hnm, hret, hlk⟩ := id C
  show WP p e below _ T0 (mkF m 269 #[.val (.long xx), .second, .val (.int p1), .val (.int p2), .val (.int p3), .val (.long v), .second, .val (.int zA), .val (.int fl), .val (.ref a), .val (.int zn), .val (.int zE), .val (.int (1 : Int32))] [])
  refine wp (fun _ => XS.iload X0.here hx rfl (hb hby at_269) rfl) ?_
  show WP p e below _ T0 (mkF m 271 #[.val (.long xx), .second, .val (.int p1), .val (.int p2), .val (.int p3), .val (.long v), .second, .val (.int zA), .val (.int fl), .val (.ref a), .val (.int zn), .val (.int zE), .val (.int (1 : Int32))] [(.int (1 : Int32))])
  refine wp (fun _ => XS.aload X0.here hx rfl (hb hby at_271) rfl rfl) ?_
  show WP p e below _ T0 (mkF m 273 #[.val (.long xx), .second, .val (.int p1), .val (.int p2), .val (.int p3), .val (.long v), .second, .val (.int zA), .val (.int fl), .val (.ref a), .val (.int zn), .val (.int zE), .val (.int (1 : Int32))] [(.ref a), (.int (1 : Int32))])
  refine wp (fun _ => XS.iconst X0.here hx rfl (hb hby at_273)) ?_
  show WP p e below _ T0 (mkF m 274 #[.val (.long xx), .second, .val (.int p1), .val (.int p2), .val (.int p3), .val (.long v), .second, .val (.int zA), .val (.int fl), .val (.ref a), .val (.int zn), .val (.int zE), .val (.int (1 : Int32))] [(.int (0 : Int32)), (.ref a), (.int (1 : Int32))])
  refine wp (fun _ => XS.iload X0.here hx rfl (hb hby at_274) rfl) ?_
  show WP p e below _ T0 (mkF m 276 #[.val (.long xx), .second, .val (.int p1), .val (.int p2), .val (.int p3), .val (.long v), .second, .val (.int zA), .val (.int fl), .val (.ref a), .val (.int zn), .val (.int zE), .val (.int (1 : Int32))] [(.int zA), (.int (0 : Int32)), (.ref a), (.int (1 : Int32))])
  refine wp (fun _ => XS.lload X0.here hx rfl (hb hby at_276) rfl) ?_
  show WP p e below _ T0 (mkF m 278 #[.val (.long xx), .second, .val (.int p1), .val (.int p2), .val (.int p3), .val (.long v), .second, .val (.int zA), .val (.int fl), .val (.ref a), .val (.int zn), .val (.int zE), .val (.int (1 : Int32))] [(.long v), (.int zA), (.int (0 : Int32)), (.ref a), (.int (1 : Int32))])
  refine wp (fun _ => XS.iload X0.here hx rfl (hb hby at_278) rfl) ?_
  show WP p e below _ T0 (mkF m 280 #[.val (.long xx), .second, .val (.int p1), .val (.int p2), .val (.int p3), .val (.long v), .second, .val (.int zA), .val (.int fl), .val (.ref a), .val (.int zn), .val (.int zE), .val (.int (1 : Int32))] [(.int zn), (.long v), (.int zA), (.int (0 : Int32)), (.ref a), (.int (1 : Int32))])
  refine wp (fun _ => XS.iload X0.here hx rfl (hb hby at_280) rfl) ?_
  show WP p e below _ T0 (mkF m 282 #[.val (.long xx), .second, .val (.int p1), .val (.int p2), .val (.int p3), .val (.long v), .second, .val (.int zA), .val (.int fl), .val (.ref a), .val (.int zn), .val (.int zE), .val (.int (1 : Int32))] [(.int fl), (.int zn), (.long v), (.int zA), (.int (0 : Int32)), (.ref a), (.int (1 : Int32))])
  refine wp_staticP C X0 e0 (argsL := [(.ref a), (.int (0 : Int32)), (.int zA), (.long v), (.int zn), (.int fl)]) (rest := [(.int (1 : Int32))]) (rm_cell l Z a0 hw [] a (0 : Int32) zA v zn fl 0 A0 n h0 rfl hA hN (by decide) hAn hn hn1 A) (hw _ (List.mem_of_getElem? (i := 6) rfl)) (hw _ (List.mem_of_getElem? (i := 7) rfl)) (hw _ (List.mem_of_getElem? (i := 8) rfl)) (hw _ (List.mem_of_getElem? (i := 9) rfl)) (by decide) rfl (lenOf pd_cell rfl) at_282 rfl rfl rfl (by decide) (Nat.le_of_ble_eq_true rfl) (by decide) (by decide) ?_
  intro T1 X1 e1
  show WP p e below _ T1 (mkF m 285 #[.val (.long xx), .second, .val (.int p1), .val (.int p2), .val (.int p3), .val (.long v), .second, .val (.int zA), .val (.int fl), .val (.ref a), .val (.int zn), .val (.int zE), .val (.int (1 : Int32))] [(.int (1 : Int32)), (.int (1 : Int32))])
  refine wp (fun _ => XS.iand X1.here hx rfl (hb hby at_285) rfl) ?_
  show WP p e below _ T1 (mkF m 286 #[.val (.long xx), .second, .val (.int p1), .val (.int p2), .val (.int p3), .val (.long v), .second, .val (.int zA), .val (.int fl), .val (.ref a), .val (.int zn), .val (.int zE), .val (.int (1 : Int32))] [(.int ((1 : Int32) &&& (1 : Int32)))])
  show WP p e below _ T1 (mkF m 286 #[.val (.long xx), .second, .val (.int p1), .val (.int p2), .val (.int p3), .val (.long v), .second, .val (.int zA), .val (.int fl), .val (.ref a), .val (.int zn), .val (.int zE), .val (.int (1 : Int32))] [(.int (1 : Int32))])
  refine wp (fun _ => XS.istore X1.here hx rfl (hb hby at_286) rfl (l' := #[.val (.long xx), .second, .val (.int p1), .val (.int p2), .val (.int p3), .val (.long v), .second, .val (.int zA), .val (.int fl), .val (.ref a), .val (.int zn), .val (.int zE), .val (.int (1 : Int32))]) rfl) ?_
  show WP p e below _ T1 (mkF m 288 #[.val (.long xx), .second, .val (.int p1), .val (.int p2), .val (.int p3), .val (.long v), .second, .val (.int zA), .val (.int fl), .val (.ref a), .val (.int zn), .val (.int zE), .val (.int (1 : Int32))] [])
  exact k _ X1 e1
set_option maxRecDepth 65536 in
set_option maxHeartbeats 4000000 in
theorem segC1 (xx : Int64) (p1 p2 p3 : Int32) (v : Int64) (zA fl : Int32) (a : Addr) (zn zE : Int32) (A0 n : Nat) (hA : zA.toInt = (A0 : Int)) (hN : zn.toInt = (n : Int)) (hAn : A0 < 14) (hn : n ≤ 10) (hn1 : 1 ≤ n) (A : Af Z h0 a .byte 14 (fun j => .int (own_x v n A0 j fl))) (C : Cx p s m meth c Z a0 code 13 "com/example/joinsmith/joinsmith/engine/stats/VarintWritePinLaw" "law" (some .boolean)) (X0 : Stand p l e room_1 s m args below meth c T0 locs 1 14) (e0 : T0.heap = h0)
    (k : ∀ T', Stand p l e room_1 s m args below meth c T' locs 1 14 → T'.heap = h0 → WP p e below Q T' (mkF m 307 #[.val (.long xx), .second, .val (.int p1), .val (.int p2), .val (.int p3), .val (.long v), .second, .val (.int zA), .val (.int fl), .val (.ref a), .val (.int zn), .val (.int zE), .val (.int (1 : Int32))] [])) : WP p e below Q T0 (mkF m 288 #[.val (.long xx), .second, .val (.int p1), .val (.int p2), .val (.int p3), .val (.long v), .second, .val (.int zA), .val (.int fl), .val (.ref a), .val (.int zn), .val (.int zE), .val (.int (1 : Int32))] []) := by
  obtain ⟨hx, hZ, hw, hby, hml, hown, hnm, hret, hlk⟩ := id C
  show WP p e below _ T0 (mkF m 288 #[.val (.long xx), .second, .val (.int p1), .val (.int p2), .val (.int p3), .val (.long v), .second, .val (.int zA), .val (.int fl), .val (.ref a), .val (.int zn), .val (.int zE), .val (.int (1 : Int32))] [])
  refine wp (fun _ => XS.iload X0.here hx rfl (hb hby at_288) rfl) ?_
  show WP p e below _ T0 (mkF m 290 #[.val (.long xx), .second, .val (.int p1), .val (.int p2), .val (.int p3), .val (.long v), .second, .val (.int zA), .val (.int fl), .val (.ref a), .val (.int zn), .val (.int zE), .val (.int (1 : Int32))] [(.int (1 : Int32))])
  refine wp (fun _ => XS.aload X0.here hx rfl (hb hby at_290) rfl rfl) ?_
  show WP p e below _ T0 (mkF m 292 #[.val (.long xx), .second, .val (.int p1), .val (.int p2), .val (.int p3), .val (.long v), .second, .val (.int zA), .val (.int fl), .val (.ref a), .val (.int zn), .val (.int zE), .val (.int (1 : Int32))] [(.ref a), (.int (1 : Int32))])
  refine wp (fun _ => XS.iconst X0.here hx rfl (hb hby at_292)) ?_
  show WP p e below _ T0 (mkF m 293 #[.val (.long xx), .second, .val (.int p1), .val (.int p2), .val (.int p3), .val (.long v), .second, .val (.int zA), .val (.int fl), .val (.ref a), .val (.int zn), .val (.int zE), .val (.int (1 : Int32))] [(.int (1 : Int32)), (.ref a), (.int (1 : Int32))])
  refine wp (fun _ => XS.iload X0.here hx rfl (hb hby at_293) rfl) ?_
  show WP p e below _ T0 (mkF m 295 #[.val (.long xx), .second, .val (.int p1), .val (.int p2), .val (.int p3), .val (.long v), .second, .val (.int zA), .val (.int fl), .val (.ref a), .val (.int zn), .val (.int zE), .val (.int (1 : Int32))] [(.int zA), (.int (1 : Int32)), (.ref a), (.int (1 : Int32))])
  refine wp (fun _ => XS.lload X0.here hx rfl (hb hby at_295) rfl) ?_
  show WP p e below _ T0 (mkF m 297 #[.val (.long xx), .second, .val (.int p1), .val (.int p2), .val (.int p3), .val (.long v), .second, .val (.int zA), .val (.int fl), .val (.ref a), .val (.int zn), .val (.int zE), .val (.int (1 : Int32))] [(.long v), (.int zA), (.int (1 : Int32)), (.ref a), (.int (1 : Int32))])
  refine wp (fun _ => XS.iload X0.here hx rfl (hb hby at_297) rfl) ?_
  show WP p e below _ T0 (mkF m 299 #[.val (.long xx), .second, .val (.int p1), .val (.int p2), .val (.int p3), .val (.long v), .second, .val (.int zA), .val (.int fl), .val (.ref a), .val (.int zn), .val (.int zE), .val (.int (1 : Int32))] [(.int zn), (.long v), (.int zA), (.int (1 : Int32)), (.ref a), (.int (1 : Int32))])
  refine wp (fun _ => XS.iload X0.here hx rfl (hb hby at_299) rfl) ?_
  show WP p e below _ T0 (mkF m 301 #[.val (.long xx), .second, .val (.int p1), .val (.int p2), .val (.int p3), .val (.long v), .second, .val (.int zA), .val (.int fl), .val (.ref a), .val (.int zn), .val (.int zE), .val (.int (1 : Int32))] [(.int fl), (.int zn), (.long v), (.int zA), (.int (1 : Int32)), (.ref a), (.int (1 : Int32))])
  refine wp_staticP C X0 e0 (argsL := [(.ref a), (.int (1 : Int32)), (.int zA), (.long v), (.int zn), (.int fl)]) (rest := [(.int (1 : Int32))]) (rm_cell l Z a0 hw [] a (1 : Int32) zA v zn fl 1 A0 n h0 rfl hA hN (by decide) hAn hn hn1 A) (hw _ (List.mem_of_getElem? (i := 6) rfl)) (hw _ (List.mem_of_getElem? (i := 7) rfl)) (hw _ (List.mem_of_getElem? (i := 8) rfl)) (hw _ (List.mem_of_getElem? (i := 9) rfl)) (by decide) rfl (lenOf pd_cell rfl) at_301 rfl rfl rfl (by decide) (Nat.le_of_ble_eq_true rfl) (by decide) (by decide) ?_
  intro T1 X1 e1
  show WP p e below _ T1 (mkF m 304 #[.val (.long xx), .second, .val (.int p1), .val (.int p2), .val (.int p3), .val (.long v), .second, .val (.int zA), .val (.int fl), .val (.ref a), .val (.int zn), .val (.int zE), .val (.int (1 : Int32))] [(.int (1 : Int32)), (.int (1 : Int32))])
  refine wp (fun _ => XS.iand X1.here hx rfl (hb hby at_304) rfl) ?_
  show WP p e below _ T1 (mkF m 305 #[.val (.long xx), .second, .val (.int p1), .val (.int p2), .val (.int p3), .val (.long v), .second, .val (.int zA), .val (.int fl), .val (.ref a), .val (.int zn), .val (.int zE), .val (.int (1 : Int32))] [(.int ((1 : Int32) &&& (1 : Int32)))])
  show WP p e below _ T1 (mkF m 305 #[.val (.long xx), .second, .val (.int p1), .val (.int p2), .val (.int p3), .val (.long v), .second, .val (.int zA), .val (.int fl), .val (.ref a), .val (.int zn), .val (.int zE), .val (.int (1 : Int32))] [(.int (1 : Int32))])
  refine wp (fun _ => XS.istore X1.here hx rfl (hb hby at_305) rfl (l' := #[.val (.long xx), .second, .val (.int p1), .val (.int p2), .val (.int p3), .val (.long v), .second, .val (.int zA), .val (.int fl), .val (.ref a), .val (.int zn), .val (.int zE), .val (.int (1 : Int32))]) rfl) ?_
  show WP p e below _ T1 (mkF m 307 #[.val (.long xx), .second, .val (.int p1), .val (.int p2), .val (.int p3), .val (.long v), .second, .val (.int zA), .val (.int fl), .val (.ref a), .val (.int zn), .val (.int zE), .val (.int (1 : Int32))] [])
  exact k _ X1 e1
set_option maxRecDepth 65536 in
set_option maxHeartbeats 4000000 in
theorem segC2 (xx : Int64) (p1 p2 p3 : Int32) (v : Int64) (zA fl : Int32) (a : Addr) (zn zE : Int32) (A0 n : Nat) (hA : zA.toInt = (A0 : Int)) (hN : zn.toInt = (n : Int)) (hAn : A0 < 14) (hn : n ≤ 10) (hn1 : 1 ≤ n) (A : Af Z h0 a .byte 14 (fun j => .int (own_x v n A0 j fl))) (C : Cx p s m meth c Z a0 code 13 "com/example/joinsmith/joinsmith/engine/stats/VarintWritePinLaw" "law" (some .boolean)) (X0 : Stand p l e room_1 s m args below meth c T0 locs 1 14) (e0 : T0.heap = h0)
    (k : ∀ T', Stand p l e room_1 s m args below meth c T' locs 1 14 → T'.heap = h0 → WP p e below Q T' (mkF m 326 #[.val (.long xx), .second, .val (.int p1), .val (.int p2), .val (.int p3), .val (.long v), .second, .val (.int zA), .val (.int fl), .val (.ref a), .val (.int zn), .val (.int zE), .val (.int (1 : Int32))] [])) : WP p e below Q T0 (mkF m 307 #[.val (.long xx), .second, .val (.int p1), .val (.int p2), .val (.int p3), .val (.long v), .second, .val (.int zA), .val (.int fl), .val (.ref a), .val (.int zn), .val (.int zE), .val (.int (1 : Int32))] []) := by
  obtain ⟨hx, hZ, hw, hby, hml, hown, hnm, hret, hlk⟩ := id C
  show WP p e below _ T0 (mkF m 307 #[.val (.long xx), .second, .val (.int p1), .val (.int p2), .val (.int p3), .val (.long v), .second, .val (.int zA), .val (.int fl), .val (.ref a), .val (.int zn), .val (.int zE), .val (.int (1 : Int32))] [])
  refine wp (fun _ => XS.iload X0.here hx rfl (hb hby at_307) rfl) ?_
  show WP p e below _ T0 (mkF m 309 #[.val (.long xx), .second, .val (.int p1), .val (.int p2), .val (.int p3), .val (.long v), .second, .val (.int zA), .val (.int fl), .val (.ref a), .val (.int zn), .val (.int zE), .val (.int (1 : Int32))] [(.int (1 : Int32))])
  refine wp (fun _ => XS.aload X0.here hx rfl (hb hby at_309) rfl rfl) ?_
  show WP p e below _ T0 (mkF m 311 #[.val (.long xx), .second, .val (.int p1), .val (.int p2), .val (.int p3), .val (.long v), .second, .val (.int zA), .val (.int fl), .val (.ref a), .val (.int zn), .val (.int zE), .val (.int (1 : Int32))] [(.ref a), (.int (1 : Int32))])
  refine wp (fun _ => XS.iconst X0.here hx rfl (hb hby at_311)) ?_
  show WP p e below _ T0 (mkF m 312 #[.val (.long xx), .second, .val (.int p1), .val (.int p2), .val (.int p3), .val (.long v), .second, .val (.int zA), .val (.int fl), .val (.ref a), .val (.int zn), .val (.int zE), .val (.int (1 : Int32))] [(.int (2 : Int32)), (.ref a), (.int (1 : Int32))])
  refine wp (fun _ => XS.iload X0.here hx rfl (hb hby at_312) rfl) ?_
  show WP p e below _ T0 (mkF m 314 #[.val (.long xx), .second, .val (.int p1), .val (.int p2), .val (.int p3), .val (.long v), .second, .val (.int zA), .val (.int fl), .val (.ref a), .val (.int zn), .val (.int zE), .val (.int (1 : Int32))] [(.int zA), (.int (2 : Int32)), (.ref a), (.int (1 : Int32))])
  refine wp (fun _ => XS.lload X0.here hx rfl (hb hby at_314) rfl) ?_
  show WP p e below _ T0 (mkF m 316 #[.val (.long xx), .second, .val (.int p1), .val (.int p2), .val (.int p3), .val (.long v), .second, .val (.int zA), .val (.int fl), .val (.ref a), .val (.int zn), .val (.int zE), .val (.int (1 : Int32))] [(.long v), (.int zA), (.int (2 : Int32)), (.ref a), (.int (1 : Int32))])
  refine wp (fun _ => XS.iload X0.here hx rfl (hb hby at_316) rfl) ?_
  show WP p e below _ T0 (mkF m 318 #[.val (.long xx), .second, .val (.int p1), .val (.int p2), .val (.int p3), .val (.long v), .second, .val (.int zA), .val (.int fl), .val (.ref a), .val (.int zn), .val (.int zE), .val (.int (1 : Int32))] [(.int zn), (.long v), (.int zA), (.int (2 : Int32)), (.ref a), (.int (1 : Int32))])
  refine wp (fun _ => XS.iload X0.here hx rfl (hb hby at_318) rfl) ?_
  show WP p e below _ T0 (mkF m 320 #[.val (.long xx), .second, .val (.int p1), .val (.int p2), .val (.int p3), .val (.long v), .second, .val (.int zA), .val (.int fl), .val (.ref a), .val (.int zn), .val (.int zE), .val (.int (1 : Int32))] [(.int fl), (.int zn), (.long v), (.int zA), (.int (2 : Int32)), (.ref a), (.int (1 : Int32))])
  refine wp_staticP C X0 e0 (argsL := [(.ref a), (.int (2 : Int32)), (.int zA), (.long v), (.int zn), (.int fl)]) (rest := [(.int (1 : Int32))]) (rm_cell l Z a0 hw [] a (2 : Int32) zA v zn fl 2 A0 n h0 rfl hA hN (by decide) hAn hn hn1 A) (hw _ (List.mem_of_getElem? (i := 6) rfl)) (hw _ (List.mem_of_getElem? (i := 7) rfl)) (hw _ (List.mem_of_getElem? (i := 8) rfl)) (hw _ (List.mem_of_getElem? (i := 9) rfl)) (by decide) rfl (lenOf pd_cell rfl) at_320 rfl rfl rfl (by decide) (Nat.le_of_ble_eq_true rfl) (by decide) (by decide) ?_
  intro T1 X1 e1
  show WP p e below _ T1 (mkF m 323 #[.val (.long xx), .second, .val (.int p1), .val (.int p2), .val (.int p3), .val (.long v), .second, .val (.int zA), .val (.int fl), .val (.ref a), .val (.int zn), .val (.int zE), .val (.int (1 : Int32))] [(.int (1 : Int32)), (.int (1 : Int32))])
  refine wp (fun _ => XS.iand X1.here hx rfl (hb hby at_323) rfl) ?_
  show WP p e below _ T1 (mkF m 324 #[.val (.long xx), .second, .val (.int p1), .val (.int p2), .val (.int p3), .val (.long v), .second, .val (.int zA), .val (.int fl), .val (.ref a), .val (.int zn), .val (.int zE), .val (.int (1 : Int32))] [(.int ((1 : Int32) &&& (1 : Int32)))])
  show WP p e below _ T1 (mkF m 324 #[.val (.long xx), .second, .val (.int p1), .val (.int p2), .val (.int p3), .val (.long v), .second, .val (.int zA), .val (.int fl), .val (.ref a), .val (.int zn), .val (.int zE), .val (.int (1 : Int32))] [(.int (1 : Int32))])
  refine wp (fun _ => XS.istore X1.here hx rfl (hb hby at_324) rfl (l' := #[.val (.long xx), .second, .val (.int p1), .val (.int p2), .val (.int p3), .val (.long v), .second, .val (.int zA), .val (.int fl), .val (.ref a), .val (.int zn), .val (.int zE), .val (.int (1 : Int32))]) rfl) ?_
  show WP p e below _ T1 (mkF m 326 #[.val (.long xx), .second, .val (.int p1), .val (.int p2), .val (.int p3), .val (.long v), .second, .val (.int zA), .val (.int fl), .val (.ref a), .val (.int zn), .val (.int zE), .val (.int (1 : Int32))] [])
  exact k _ X1 e1
set_option maxRecDepth 65536 in
set_option maxHeartbeats 4000000 in
theorem segC3 (xx : Int64) (p1 p2 p3 : Int32) (v : Int64) (zA fl : Int32) (a : Addr) (zn zE : Int32) (A0 n : Nat) (hA : zA.toInt = (A0 : Int)) (hN : zn.toInt = (n : Int)) (hAn : A0 < 14) (hn : n ≤ 10) (hn1 : 1 ≤ n) (A : Af Z h0 a .byte 14 (fun j => .int (own_x v n A0 j fl))) (C : Cx p s m meth c Z a0 code 13 "com/example/joinsmith/joinsmith/engine/stats/VarintWritePinLaw" "law" (some .boolean)) (X0 : Stand p l e room_1 s m args below meth c T0 locs 1 14) (e0 : T0.heap = h0)
    (k : ∀ T', Stand p l e room_1 s m args below meth c T' locs 1 14 → T'.heap = h0 → WP p e below Q T' (mkF m 345 #[.val (.long xx), .second, .val (.int p1), .val (.int p2), .val (.int p3), .val (.long v), .second, .val (.int zA), .val (.int fl), .val (.ref a), .val (.int zn), .val (.int zE), .val (.int (1 : Int32))] [])) : WP p e below Q T0 (mkF m 326 #[.val (.long xx), .second, .val (.int p1), .val (.int p2), .val (.int p3), .val (.long v), .second, .val (.int zA), .val (.int fl), .val (.ref a), .val (.int zn), .val (.int zE), .val (.int (1 : Int32))] []) := by
  obtain ⟨hx, hZ, hw, hby, hml, hown, hnm, hret, hlk⟩ := id C
  show WP p e below _ T0 (mkF m 326 #[.val (.long xx), .second, .val (.int p1), .val (.int p2), .val (.int p3), .val (.long v), .second, .val (.int zA), .val (.int fl), .val (.ref a), .val (.int zn), .val (.int zE), .val (.int (1 : Int32))] [])
  refine wp (fun _ => XS.iload X0.here hx rfl (hb hby at_326) rfl) ?_
  show WP p e below _ T0 (mkF m 328 #[.val (.long xx), .second, .val (.int p1), .val (.int p2), .val (.int p3), .val (.long v), .second, .val (.int zA), .val (.int fl), .val (.ref a), .val (.int zn), .val (.int zE), .val (.int (1 : Int32))] [(.int (1 : Int32))])
  refine wp (fun _ => XS.aload X0.here hx rfl (hb hby at_328) rfl rfl) ?_
  show WP p e below _ T0 (mkF m 330 #[.val (.long xx), .second, .val (.int p1), .val (.int p2), .val (.int p3), .val (.long v), .second, .val (.int zA), .val (.int fl), .val (.ref a), .val (.int zn), .val (.int zE), .val (.int (1 : Int32))] [(.ref a), (.int (1 : Int32))])
  refine wp (fun _ => XS.iconst X0.here hx rfl (hb hby at_330)) ?_
  show WP p e below _ T0 (mkF m 331 #[.val (.long xx), .second, .val (.int p1), .val (.int p2), .val (.int p3), .val (.long v), .second, .val (.int zA), .val (.int fl), .val (.ref a), .val (.int zn), .val (.int zE), .val (.int (1 : Int32))] [(.int (3 : Int32)), (.ref a), (.int (1 : Int32))])
  refine wp (fun _ => XS.iload X0.here hx rfl (hb hby at_331) rfl) ?_
  show WP p e below _ T0 (mkF m 333 #[.val (.long xx), .second, .val (.int p1), .val (.int p2), .val (.int p3), .val (.long v), .second, .val (.int zA), .val (.int fl), .val (.ref a), .val (.int zn), .val (.int zE), .val (.int (1 : Int32))] [(.int zA), (.int (3 : Int32)), (.ref a), (.int (1 : Int32))])
  refine wp (fun _ => XS.lload X0.here hx rfl (hb hby at_333) rfl) ?_
  show WP p e below _ T0 (mkF m 335 #[.val (.long xx), .second, .val (.int p1), .val (.int p2), .val (.int p3), .val (.long v), .second, .val (.int zA), .val (.int fl), .val (.ref a), .val (.int zn), .val (.int zE), .val (.int (1 : Int32))] [(.long v), (.int zA), (.int (3 : Int32)), (.ref a), (.int (1 : Int32))])
  refine wp (fun _ => XS.iload X0.here hx rfl (hb hby at_335) rfl) ?_
  show WP p e below _ T0 (mkF m 337 #[.val (.long xx), .second, .val (.int p1), .val (.int p2), .val (.int p3), .val (.long v), .second, .val (.int zA), .val (.int fl), .val (.ref a), .val (.int zn), .val (.int zE), .val (.int (1 : Int32))] [(.int zn), (.long v), (.int zA), (.int (3 : Int32)), (.ref a), (.int (1 : Int32))])
  refine wp (fun _ => XS.iload X0.here hx rfl (hb hby at_337) rfl) ?_
  show WP p e below _ T0 (mkF m 339 #[.val (.long xx), .second, .val (.int p1), .val (.int p2), .val (.int p3), .val (.long v), .second, .val (.int zA), .val (.int fl), .val (.ref a), .val (.int zn), .val (.int zE), .val (.int (1 : Int32))] [(.int fl), (.int zn), (.long v), (.int zA), (.int (3 : Int32)), (.ref a), (.int (1 : Int32))])
  refine wp_staticP C X0 e0 (argsL := [(.ref a), (.int (3 : Int32)), (.int zA), (.long v), (.int zn), (.int fl)]) (rest := [(.int (1 : Int32))]) (rm_cell l Z a0 hw [] a (3 : Int32) zA v zn fl 3 A0 n h0 rfl hA hN (by decide) hAn hn hn1 A) (hw _ (List.mem_of_getElem? (i := 6) rfl)) (hw _ (List.mem_of_getElem? (i := 7) rfl)) (hw _ (List.mem_of_getElem? (i := 8) rfl)) (hw _ (List.mem_of_getElem? (i := 9) rfl)) (by decide) rfl (lenOf pd_cell rfl) at_339 rfl rfl rfl (by decide) (Nat.le_of_ble_eq_true rfl) (by decide) (by decide) ?_
  intro T1 X1 e1
  show WP p e below _ T1 (mkF m 342 #[.val (.long xx), .second, .val (.int p1), .val (.int p2), .val (.int p3), .val (.long v), .second, .val (.int zA), .val (.int fl), .val (.ref a), .val (.int zn), .val (.int zE), .val (.int (1 : Int32))] [(.int (1 : Int32)), (.int (1 : Int32))])
  refine wp (fun _ => XS.iand X1.here hx rfl (hb hby at_342) rfl) ?_
  show WP p e below _ T1 (mkF m 343 #[.val (.long xx), .second, .val (.int p1), .val (.int p2), .val (.int p3), .val (.long v), .second, .val (.int zA), .val (.int fl), .val (.ref a), .val (.int zn), .val (.int zE), .val (.int (1 : Int32))] [(.int ((1 : Int32) &&& (1 : Int32)))])
  show WP p e below _ T1 (mkF m 343 #[.val (.long xx), .second, .val (.int p1), .val (.int p2), .val (.int p3), .val (.long v), .second, .val (.int zA), .val (.int fl), .val (.ref a), .val (.int zn), .val (.int zE), .val (.int (1 : Int32))] [(.int (1 : Int32))])
  refine wp (fun _ => XS.istore X1.here hx rfl (hb hby at_343) rfl (l' := #[.val (.long xx), .second, .val (.int p1), .val (.int p2), .val (.int p3), .val (.long v), .second, .val (.int zA), .val (.int fl), .val (.ref a), .val (.int zn), .val (.int zE), .val (.int (1 : Int32))]) rfl) ?_
  show WP p e below _ T1 (mkF m 345 #[.val (.long xx), .second, .val (.int p1), .val (.int p2), .val (.int p3), .val (.long v), .second, .val (.int zA), .val (.int fl), .val (.ref a), .val (.int zn), .val (.int zE), .val (.int (1 : Int32))] [])
  exact k _ X1 e1
set_option maxRecDepth 65536 in
set_option maxHeartbeats 4000000 in
theorem segC4 (xx : Int64) (p1 p2 p3 : Int32) (v : Int64) (zA fl : Int32) (a : Addr) (zn zE : Int32) (A0 n : Nat) (hA : zA.toInt = (A0 : Int)) (hN : zn.toInt = (n : Int)) (hAn : A0 < 14) (hn : n ≤ 10) (hn1 : 1 ≤ n) (A : Af Z h0 a .byte 14 (fun j => .int (own_x v n A0 j fl))) (C : Cx p s m meth c Z a0 code 13 "com/example/joinsmith/joinsmith/engine/stats/VarintWritePinLaw" "law" (some .boolean)) (X0 : Stand p l e room_1 s m args below meth c T0 locs 1 14) (e0 : T0.heap = h0)
    (k : ∀ T', Stand p l e room_1 s m args below meth c T' locs 1 14 → T'.heap = h0 → WP p e below Q T' (mkF m 364 #[.val (.long xx), .second, .val (.int p1), .val (.int p2), .val (.int p3), .val (.long v), .second, .val (.int zA), .val (.int fl), .val (.ref a), .val (.int zn), .val (.int zE), .val (.int (1 : Int32))] [])) : WP p e below Q T0 (mkF m 345 #[.val (.long xx), .second, .val (.int p1), .val (.int p2), .val (.int p3), .val (.long v), .second, .val (.int zA), .val (.int fl), .val (.ref a), .val (.int zn), .val (.int zE), .val (.int (1 : Int32))] []) := by
  obtain ⟨hx, hZ, hw, hby, hml, hown, hnm, hret, hlk⟩ := id C
  show WP p e below _ T0 (mkF m 345 #[.val (.long xx), .second, .val (.int p1), .val (.int p2), .val (.int p3), .val (.long v), .second, .val (.int zA), .val (.int fl), .val (.ref a), .val (.int zn), .val (.int zE), .val (.int (1 : Int32))] [])
  refine wp (fun _ => XS.iload X0.here hx rfl (hb hby at_345) rfl) ?_
  show WP p e below _ T0 (mkF m 347 #[.val (.long xx), .second, .val (.int p1), .val (.int p2), .val (.int p3), .val (.long v), .second, .val (.int zA), .val (.int fl), .val (.ref a), .val (.int zn), .val (.int zE), .val (.int (1 : Int32))] [(.int (1 : Int32))])
  refine wp (fun _ => XS.aload X0.here hx rfl (hb hby at_347) rfl rfl) ?_
  show WP p e below _ T0 (mkF m 349 #[.val (.long xx), .second, .val (.int p1), .val (.int p2), .val (.int p3), .val (.long v), .second, .val (.int zA), .val (.int fl), .val (.ref a), .val (.int zn), .val (.int zE), .val (.int (1 : Int32))] [(.ref a), (.int (1 : Int32))])
  refine wp (fun _ => XS.iconst X0.here hx rfl (hb hby at_349)) ?_
  show WP p e below _ T0 (mkF m 350 #[.val (.long xx), .second, .val (.int p1), .val (.int p2), .val (.int p3), .val (.long v), .second, .val (.int zA), .val (.int fl), .val (.ref a), .val (.int zn), .val (.int zE), .val (.int (1 : Int32))] [(.int (4 : Int32)), (.ref a), (.int (1 : Int32))])
  refine wp (fun _ => XS.iload X0.here hx rfl (hb hby at_350) rfl) ?_
  show WP p e below _ T0 (mkF m 352 #[.val (.long xx), .second, .val (.int p1), .val (.int p2), .val (.int p3), .val (.long v), .second, .val (.int zA), .val (.int fl), .val (.ref a), .val (.int zn), .val (.int zE), .val (.int (1 : Int32))] [(.int zA), (.int (4 : Int32)), (.ref a), (.int (1 : Int32))])
  refine wp (fun _ => XS.lload X0.here hx rfl (hb hby at_352) rfl) ?_
  show WP p e below _ T0 (mkF m 354 #[.val (.long xx), .second, .val (.int p1), .val (.int p2), .val (.int p3), .val (.long v), .second, .val (.int zA), .val (.int fl), .val (.ref a), .val (.int zn), .val (.int zE), .val (.int (1 : Int32))] [(.long v), (.int zA), (.int (4 : Int32)), (.ref a), (.int (1 : Int32))])
  refine wp (fun _ => XS.iload X0.here hx rfl (hb hby at_354) rfl) ?_
  show WP p e below _ T0 (mkF m 356 #[.val (.long xx), .second, .val (.int p1), .val (.int p2), .val (.int p3), .val (.long v), .second, .val (.int zA), .val (.int fl), .val (.ref a), .val (.int zn), .val (.int zE), .val (.int (1 : Int32))] [(.int zn), (.long v), (.int zA), (.int (4 : Int32)), (.ref a), (.int (1 : Int32))])
  refine wp (fun _ => XS.iload X0.here hx rfl (hb hby at_356) rfl) ?_
  show WP p e below _ T0 (mkF m 358 #[.val (.long xx), .second, .val (.int p1), .val (.int p2), .val (.int p3), .val (.long v), .second, .val (.int zA), .val (.int fl), .val (.ref a), .val (.int zn), .val (.int zE), .val (.int (1 : Int32))] [(.int fl), (.int zn), (.long v), (.int zA), (.int (4 : Int32)), (.ref a), (.int (1 : Int32))])
  refine wp_staticP C X0 e0 (argsL := [(.ref a), (.int (4 : Int32)), (.int zA), (.long v), (.int zn), (.int fl)]) (rest := [(.int (1 : Int32))]) (rm_cell l Z a0 hw [] a (4 : Int32) zA v zn fl 4 A0 n h0 rfl hA hN (by decide) hAn hn hn1 A) (hw _ (List.mem_of_getElem? (i := 6) rfl)) (hw _ (List.mem_of_getElem? (i := 7) rfl)) (hw _ (List.mem_of_getElem? (i := 8) rfl)) (hw _ (List.mem_of_getElem? (i := 9) rfl)) (by decide) rfl (lenOf pd_cell rfl) at_358 rfl rfl rfl (by decide) (Nat.le_of_ble_eq_true rfl) (by decide) (by decide) ?_
  intro T1 X1 e1
  show WP p e below _ T1 (mkF m 361 #[.val (.long xx), .second, .val (.int p1), .val (.int p2), .val (.int p3), .val (.long v), .second, .val (.int zA), .val (.int fl), .val (.ref a), .val (.int zn), .val (.int zE), .val (.int (1 : Int32))] [(.int (1 : Int32)), (.int (1 : Int32))])
  refine wp (fun _ => XS.iand X1.here hx rfl (hb hby at_361) rfl) ?_
  show WP p e below _ T1 (mkF m 362 #[.val (.long xx), .second, .val (.int p1), .val (.int p2), .val (.int p3), .val (.long v), .second, .val (.int zA), .val (.int fl), .val (.ref a), .val (.int zn), .val (.int zE), .val (.int (1 : Int32))] [(.int ((1 : Int32) &&& (1 : Int32)))])
  show WP p e below _ T1 (mkF m 362 #[.val (.long xx), .second, .val (.int p1), .val (.int p2), .val (.int p3), .val (.long v), .second, .val (.int zA), .val (.int fl), .val (.ref a), .val (.int zn), .val (.int zE), .val (.int (1 : Int32))] [(.int (1 : Int32))])
  refine wp (fun _ => XS.istore X1.here hx rfl (hb hby at_362) rfl (l' := #[.val (.long xx), .second, .val (.int p1), .val (.int p2), .val (.int p3), .val (.long v), .second, .val (.int zA), .val (.int fl), .val (.ref a), .val (.int zn), .val (.int zE), .val (.int (1 : Int32))]) rfl) ?_
  show WP p e below _ T1 (mkF m 364 #[.val (.long xx), .second, .val (.int p1), .val (.int p2), .val (.int p3), .val (.long v), .second, .val (.int zA), .val (.int fl), .val (.ref a), .val (.int zn), .val (.int zE), .val (.int (1 : Int32))] [])
  exact k _ X1 e1
set_option maxRecDepth 65536 in
set_option maxHeartbeats 4000000 in
theorem segC5 (xx : Int64) (p1 p2 p3 : Int32) (v : Int64) (zA fl : Int32) (a : Addr) (zn zE : Int32) (A0 n : Nat) (hA : zA.toInt = (A0 : Int)) (hN : zn.toInt = (n : Int)) (hAn : A0 < 14) (hn : n ≤ 10) (hn1 : 1 ≤ n) (A : Af Z h0 a .byte 14 (fun j => .int (own_x v n A0 j fl))) (C : Cx p s m meth c Z a0 code 13 "com/example/joinsmith/joinsmith/engine/stats/VarintWritePinLaw" "law" (some .boolean)) (X0 : Stand p l e room_1 s m args below meth c T0 locs 1 14) (e0 : T0.heap = h0)
    (k : ∀ T', Stand p l e room_1 s m args below meth c T' locs 1 14 → T'.heap = h0 → WP p e below Q T' (mkF m 383 #[.val (.long xx), .second, .val (.int p1), .val (.int p2), .val (.int p3), .val (.long v), .second, .val (.int zA), .val (.int fl), .val (.ref a), .val (.int zn), .val (.int zE), .val (.int (1 : Int32))] [])) : WP p e below Q T0 (mkF m 364 #[.val (.long xx), .second, .val (.int p1), .val (.int p2), .val (.int p3), .val (.long v), .second, .val (.int zA), .val (.int fl), .val (.ref a), .val (.int zn), .val (.int zE), .val (.int (1 : Int32))] []) := by
  obtain ⟨hx, hZ, hw, hby, hml, hown, hnm, hret, hlk⟩ := id C
  show WP p e below _ T0 (mkF m 364 #[.val (.long xx), .second, .val (.int p1), .val (.int p2), .val (.int p3), .val (.long v), .second, .val (.int zA), .val (.int fl), .val (.ref a), .val (.int zn), .val (.int zE), .val (.int (1 : Int32))] [])
  refine wp (fun _ => XS.iload X0.here hx rfl (hb hby at_364) rfl) ?_
  show WP p e below _ T0 (mkF m 366 #[.val (.long xx), .second, .val (.int p1), .val (.int p2), .val (.int p3), .val (.long v), .second, .val (.int zA), .val (.int fl), .val (.ref a), .val (.int zn), .val (.int zE), .val (.int (1 : Int32))] [(.int (1 : Int32))])
  refine wp (fun _ => XS.aload X0.here hx rfl (hb hby at_366) rfl rfl) ?_
  show WP p e below _ T0 (mkF m 368 #[.val (.long xx), .second, .val (.int p1), .val (.int p2), .val (.int p3), .val (.long v), .second, .val (.int zA), .val (.int fl), .val (.ref a), .val (.int zn), .val (.int zE), .val (.int (1 : Int32))] [(.ref a), (.int (1 : Int32))])
  refine wp (fun _ => XS.iconst X0.here hx rfl (hb hby at_368)) ?_
  show WP p e below _ T0 (mkF m 369 #[.val (.long xx), .second, .val (.int p1), .val (.int p2), .val (.int p3), .val (.long v), .second, .val (.int zA), .val (.int fl), .val (.ref a), .val (.int zn), .val (.int zE), .val (.int (1 : Int32))] [(.int (5 : Int32)), (.ref a), (.int (1 : Int32))])
  refine wp (fun _ => XS.iload X0.here hx rfl (hb hby at_369) rfl) ?_
  show WP p e below _ T0 (mkF m 371 #[.val (.long xx), .second, .val (.int p1), .val (.int p2), .val (.int p3), .val (.long v), .second, .val (.int zA), .val (.int fl), .val (.ref a), .val (.int zn), .val (.int zE), .val (.int (1 : Int32))] [(.int zA), (.int (5 : Int32)), (.ref a), (.int (1 : Int32))])
  refine wp (fun _ => XS.lload X0.here hx rfl (hb hby at_371) rfl) ?_
  show WP p e below _ T0 (mkF m 373 #[.val (.long xx), .second, .val (.int p1), .val (.int p2), .val (.int p3), .val (.long v), .second, .val (.int zA), .val (.int fl), .val (.ref a), .val (.int zn), .val (.int zE), .val (.int (1 : Int32))] [(.long v), (.int zA), (.int (5 : Int32)), (.ref a), (.int (1 : Int32))])
  refine wp (fun _ => XS.iload X0.here hx rfl (hb hby at_373) rfl) ?_
  show WP p e below _ T0 (mkF m 375 #[.val (.long xx), .second, .val (.int p1), .val (.int p2), .val (.int p3), .val (.long v), .second, .val (.int zA), .val (.int fl), .val (.ref a), .val (.int zn), .val (.int zE), .val (.int (1 : Int32))] [(.int zn), (.long v), (.int zA), (.int (5 : Int32)), (.ref a), (.int (1 : Int32))])
  refine wp (fun _ => XS.iload X0.here hx rfl (hb hby at_375) rfl) ?_
  show WP p e below _ T0 (mkF m 377 #[.val (.long xx), .second, .val (.int p1), .val (.int p2), .val (.int p3), .val (.long v), .second, .val (.int zA), .val (.int fl), .val (.ref a), .val (.int zn), .val (.int zE), .val (.int (1 : Int32))] [(.int fl), (.int zn), (.long v), (.int zA), (.int (5 : Int32)), (.ref a), (.int (1 : Int32))])
  refine wp_staticP C X0 e0 (argsL := [(.ref a), (.int (5 : Int32)), (.int zA), (.long v), (.int zn), (.int fl)]) (rest := [(.int (1 : Int32))]) (rm_cell l Z a0 hw [] a (5 : Int32) zA v zn fl 5 A0 n h0 rfl hA hN (by decide) hAn hn hn1 A) (hw _ (List.mem_of_getElem? (i := 6) rfl)) (hw _ (List.mem_of_getElem? (i := 7) rfl)) (hw _ (List.mem_of_getElem? (i := 8) rfl)) (hw _ (List.mem_of_getElem? (i := 9) rfl)) (by decide) rfl (lenOf pd_cell rfl) at_377 rfl rfl rfl (by decide) (Nat.le_of_ble_eq_true rfl) (by decide) (by decide) ?_
  intro T1 X1 e1
  show WP p e below _ T1 (mkF m 380 #[.val (.long xx), .second, .val (.int p1), .val (.int p2), .val (.int p3), .val (.long v), .second, .val (.int zA), .val (.int fl), .val (.ref a), .val (.int zn), .val (.int zE), .val (.int (1 : Int32))] [(.int (1 : Int32)), (.int (1 : Int32))])
  refine wp (fun _ => XS.iand X1.here hx rfl (hb hby at_380) rfl) ?_
  show WP p e below _ T1 (mkF m 381 #[.val (.long xx), .second, .val (.int p1), .val (.int p2), .val (.int p3), .val (.long v), .second, .val (.int zA), .val (.int fl), .val (.ref a), .val (.int zn), .val (.int zE), .val (.int (1 : Int32))] [(.int ((1 : Int32) &&& (1 : Int32)))])
  show WP p e below _ T1 (mkF m 381 #[.val (.long xx), .second, .val (.int p1), .val (.int p2), .val (.int p3), .val (.long v), .second, .val (.int zA), .val (.int fl), .val (.ref a), .val (.int zn), .val (.int zE), .val (.int (1 : Int32))] [(.int (1 : Int32))])
  refine wp (fun _ => XS.istore X1.here hx rfl (hb hby at_381) rfl (l' := #[.val (.long xx), .second, .val (.int p1), .val (.int p2), .val (.int p3), .val (.long v), .second, .val (.int zA), .val (.int fl), .val (.ref a), .val (.int zn), .val (.int zE), .val (.int (1 : Int32))]) rfl) ?_
  show WP p e below _ T1 (mkF m 383 #[.val (.long xx), .second, .val (.int p1), .val (.int p2), .val (.int p3), .val (.long v), .second, .val (.int zA), .val (.int fl), .val (.ref a), .val (.int zn), .val (.int zE), .val (.int (1 : Int32))] [])
  exact k _ X1 e1
set_option maxRecDepth 65536 in
set_option maxHeartbeats 4000000 in
theorem segC6 (xx : Int64) (p1 p2 p3 : Int32) (v : Int64) (zA fl : Int32) (a : Addr) (zn zE : Int32) (A0 n : Nat) (hA : zA.toInt = (A0 : Int)) (hN : zn.toInt = (n : Int)) (hAn : A0 < 14) (hn : n ≤ 10) (hn1 : 1 ≤ n) (A : Af Z h0 a .byte 14 (fun j => .int (own_x v n A0 j fl))) (C : Cx p s m meth c Z a0 code 13 "com/example/joinsmith/joinsmith/engine/stats/VarintWritePinLaw" "law" (some .boolean)) (X0 : Stand p l e room_1 s m args below meth c T0 locs 1 14) (e0 : T0.heap = h0)
    (k : ∀ T', Stand p l e room_1 s m args below meth c T' locs 1 14 → T'.heap = h0 → WP p e below Q T' (mkF m 403 #[.val (.long xx), .second, .val (.int p1), .val (.int p2), .val (.int p3), .val (.long v), .second, .val (.int zA), .val (.int fl), .val (.ref a), .val (.int zn), .val (.int zE), .val (.int (1 : Int32))] [])) : WP p e below Q T0 (mkF m 383 #[.val (.long xx), .second, .val (.int p1), .val (.int p2), .val (.int p3), .val (.long v), .second, .val (.int zA), .val (.int fl), .val (.ref a), .val (.int zn), .val (.int zE), .val (.int (1 : Int32))] []) := by
  obtain ⟨hx, hZ, hw, hby, hml, hown, hnm, hret, hlk⟩ := id C
  show WP p e below _ T0 (mkF m 383 #[.val (.long xx), .second, .val (.int p1), .val (.int p2), .val (.int p3), .val (.long v), .second, .val (.int zA), .val (.int fl), .val (.ref a), .val (.int zn), .val (.int zE), .val (.int (1 : Int32))] [])
  refine wp (fun _ => XS.iload X0.here hx rfl (hb hby at_383) rfl) ?_
  show WP p e below _ T0 (mkF m 385 #[.val (.long xx), .second, .val (.int p1), .val (.int p2), .val (.int p3), .val (.long v), .second, .val (.int zA), .val (.int fl), .val (.ref a), .val (.int zn), .val (.int zE), .val (.int (1 : Int32))] [(.int (1 : Int32))])
  refine wp (fun _ => XS.aload X0.here hx rfl (hb hby at_385) rfl rfl) ?_
  show WP p e below _ T0 (mkF m 387 #[.val (.long xx), .second, .val (.int p1), .val (.int p2), .val (.int p3), .val (.long v), .second, .val (.int zA), .val (.int fl), .val (.ref a), .val (.int zn), .val (.int zE), .val (.int (1 : Int32))] [(.ref a), (.int (1 : Int32))])
  refine wp (fun _ => XS.bipush X0.here hx rfl (hb hby at_387)) ?_
  show WP p e below _ T0 (mkF m 389 #[.val (.long xx), .second, .val (.int p1), .val (.int p2), .val (.int p3), .val (.long v), .second, .val (.int zA), .val (.int fl), .val (.ref a), .val (.int zn), .val (.int zE), .val (.int (1 : Int32))] [(.int (6 : Int32)), (.ref a), (.int (1 : Int32))])
  refine wp (fun _ => XS.iload X0.here hx rfl (hb hby at_389) rfl) ?_
  show WP p e below _ T0 (mkF m 391 #[.val (.long xx), .second, .val (.int p1), .val (.int p2), .val (.int p3), .val (.long v), .second, .val (.int zA), .val (.int fl), .val (.ref a), .val (.int zn), .val (.int zE), .val (.int (1 : Int32))] [(.int zA), (.int (6 : Int32)), (.ref a), (.int (1 : Int32))])
  refine wp (fun _ => XS.lload X0.here hx rfl (hb hby at_391) rfl) ?_
  show WP p e below _ T0 (mkF m 393 #[.val (.long xx), .second, .val (.int p1), .val (.int p2), .val (.int p3), .val (.long v), .second, .val (.int zA), .val (.int fl), .val (.ref a), .val (.int zn), .val (.int zE), .val (.int (1 : Int32))] [(.long v), (.int zA), (.int (6 : Int32)), (.ref a), (.int (1 : Int32))])
  refine wp (fun _ => XS.iload X0.here hx rfl (hb hby at_393) rfl) ?_
  show WP p e below _ T0 (mkF m 395 #[.val (.long xx), .second, .val (.int p1), .val (.int p2), .val (.int p3), .val (.long v), .second, .val (.int zA), .val (.int fl), .val (.ref a), .val (.int zn), .val (.int zE), .val (.int (1 : Int32))] [(.int zn), (.long v), (.int zA), (.int (6 : Int32)), (.ref a), (.int (1 : Int32))])
  refine wp (fun _ => XS.iload X0.here hx rfl (hb hby at_395) rfl) ?_
  show WP p e below _ T0 (mkF m 397 #[.val (.long xx), .second, .val (.int p1), .val (.int p2), .val (.int p3), .val (.long v), .second, .val (.int zA), .val (.int fl), .val (.ref a), .val (.int zn), .val (.int zE), .val (.int (1 : Int32))] [(.int fl), (.int zn), (.long v), (.int zA), (.int (6 : Int32)), (.ref a), (.int (1 : Int32))])
  refine wp_staticP C X0 e0 (argsL := [(.ref a), (.int (6 : Int32)), (.int zA), (.long v), (.int zn), (.int fl)]) (rest := [(.int (1 : Int32))]) (rm_cell l Z a0 hw [] a (6 : Int32) zA v zn fl 6 A0 n h0 rfl hA hN (by decide) hAn hn hn1 A) (hw _ (List.mem_of_getElem? (i := 6) rfl)) (hw _ (List.mem_of_getElem? (i := 7) rfl)) (hw _ (List.mem_of_getElem? (i := 8) rfl)) (hw _ (List.mem_of_getElem? (i := 9) rfl)) (by decide) rfl (lenOf pd_cell rfl) at_397 rfl rfl rfl (by decide) (Nat.le_of_ble_eq_true rfl) (by decide) (by decide) ?_
  intro T1 X1 e1
  show WP p e below _ T1 (mkF m 400 #[.val (.long xx), .second, .val (.int p1), .val (.int p2), .val (.int p3), .val (.long v), .second, .val (.int zA), .val (.int fl), .val (.ref a), .val (.int zn), .val (.int zE), .val (.int (1 : Int32))] [(.int (1 : Int32)), (.int (1 : Int32))])
  refine wp (fun _ => XS.iand X1.here hx rfl (hb hby at_400) rfl) ?_
  show WP p e below _ T1 (mkF m 401 #[.val (.long xx), .second, .val (.int p1), .val (.int p2), .val (.int p3), .val (.long v), .second, .val (.int zA), .val (.int fl), .val (.ref a), .val (.int zn), .val (.int zE), .val (.int (1 : Int32))] [(.int ((1 : Int32) &&& (1 : Int32)))])
  show WP p e below _ T1 (mkF m 401 #[.val (.long xx), .second, .val (.int p1), .val (.int p2), .val (.int p3), .val (.long v), .second, .val (.int zA), .val (.int fl), .val (.ref a), .val (.int zn), .val (.int zE), .val (.int (1 : Int32))] [(.int (1 : Int32))])
  refine wp (fun _ => XS.istore X1.here hx rfl (hb hby at_401) rfl (l' := #[.val (.long xx), .second, .val (.int p1), .val (.int p2), .val (.int p3), .val (.long v), .second, .val (.int zA), .val (.int fl), .val (.ref a), .val (.int zn), .val (.int zE), .val (.int (1 : Int32))]) rfl) ?_
  show WP p e below _ T1 (mkF m 403 #[.val (.long xx), .second, .val (.int p1), .val (.int p2), .val (.int p3), .val (.long v), .second, .val (.int zA), .val (.int fl), .val (.ref a), .val (.int zn), .val (.int zE), .val (.int (1 : Int32))] [])
  exact k _ X1 e1
set_option maxRecDepth 65536 in
set_option maxHeartbeats 4000000 in
theorem segC7 (xx : Int64) (p1 p2 p3 : Int32) (v : Int64) (zA fl : Int32) (a : Addr) (zn zE : Int32) (A0 n : Nat) (hA : zA.toInt = (A0 : Int)) (hN : zn.toInt = (n : Int)) (hAn : A0 < 14) (hn : n ≤ 10) (hn1 : 1 ≤ n) (A : Af Z h0 a .byte 14 (fun j => .int (own_x v n A0 j fl))) (C : Cx p s m meth c Z a0 code 13 "com/example/joinsmith/joinsmith/engine/stats/VarintWritePinLaw" "law" (some .boolean)) (X0 : Stand p l e room_1 s m args below meth c T0 locs 1 14) (e0 : T0.heap = h0)
    (k : ∀ T', Stand p l e room_1 s m args below meth c T' locs 1 14 → T'.heap = h0 → WP p e below Q T' (mkF m 423 #[.val (.long xx), .second, .val (.int p1), .val (.int p2), .val (.int p3), .val (.long v), .second, .val (.int zA), .val (.int fl), .val (.ref a), .val (.int zn), .val (.int zE), .val (.int (1 : Int32))] [])) : WP p e below Q T0 (mkF m 403 #[.val (.long xx), .second, .val (.int p1), .val (.int p2), .val (.int p3), .val (.long v), .second, .val (.int zA), .val (.int fl), .val (.ref a), .val (.int zn), .val (.int zE), .val (.int (1 : Int32))] []) := by
  obtain ⟨hx, hZ, hw, hby, hml, hown, hnm, hret, hlk⟩ := id C
  show WP p e below _ T0 (mkF m 403 #[.val (.long xx), .second, .val (.int p1), .val (.int p2), .val (.int p3), .val (.long v), .second, .val (.int zA), .val (.int fl), .val (.ref a), .val (.int zn), .val (.int zE), .val (.int (1 : Int32))] [])
  refine wp (fun _ => XS.iload X0.here hx rfl (hb hby at_403) rfl) ?_
  show WP p e below _ T0 (mkF m 405 #[.val (.long xx), .second, .val (.int p1), .val (.int p2), .val (.int p3), .val (.long v), .second, .val (.int zA), .val (.int fl), .val (.ref a), .val (.int zn), .val (.int zE), .val (.int (1 : Int32))] [(.int (1 : Int32))])
  refine wp (fun _ => XS.aload X0.here hx rfl (hb hby at_405) rfl rfl) ?_
  show WP p e below _ T0 (mkF m 407 #[.val (.long xx), .second, .val (.int p1), .val (.int p2), .val (.int p3), .val (.long v), .second, .val (.int zA), .val (.int fl), .val (.ref a), .val (.int zn), .val (.int zE), .val (.int (1 : Int32))] [(.ref a), (.int (1 : Int32))])
  refine wp (fun _ => XS.bipush X0.here hx rfl (hb hby at_407)) ?_
  show WP p e below _ T0 (mkF m 409 #[.val (.long xx), .second, .val (.int p1), .val (.int p2), .val (.int p3), .val (.long v), .second, .val (.int zA), .val (.int fl), .val (.ref a), .val (.int zn), .val (.int zE), .val (.int (1 : Int32))] [(.int (7 : Int32)), (.ref a), (.int (1 : Int32))])
  refine wp (fun _ => XS.iload X0.here hx rfl (hb hby at_409) rfl) ?_
  show WP p e below _ T0 (mkF m 411 #[.val (.long xx), .second, .val (.int p1), .val (.int p2), .val (.int p3), .val (.long v), .second, .val (.int zA), .val (.int fl), .val (.ref a), .val (.int zn), .val (.int zE), .val (.int (1 : Int32))] [(.int zA), (.int (7 : Int32)), (.ref a), (.int (1 : Int32))])
  refine wp (fun _ => XS.lload X0.here hx rfl (hb hby at_411) rfl) ?_
  show WP p e below _ T0 (mkF m 413 #[.val (.long xx), .second, .val (.int p1), .val (.int p2), .val (.int p3), .val (.long v), .second, .val (.int zA), .val (.int fl), .val (.ref a), .val (.int zn), .val (.int zE), .val (.int (1 : Int32))] [(.long v), (.int zA), (.int (7 : Int32)), (.ref a), (.int (1 : Int32))])
  refine wp (fun _ => XS.iload X0.here hx rfl (hb hby at_413) rfl) ?_
  show WP p e below _ T0 (mkF m 415 #[.val (.long xx), .second, .val (.int p1), .val (.int p2), .val (.int p3), .val (.long v), .second, .val (.int zA), .val (.int fl), .val (.ref a), .val (.int zn), .val (.int zE), .val (.int (1 : Int32))] [(.int zn), (.long v), (.int zA), (.int (7 : Int32)), (.ref a), (.int (1 : Int32))])
  refine wp (fun _ => XS.iload X0.here hx rfl (hb hby at_415) rfl) ?_
  show WP p e below _ T0 (mkF m 417 #[.val (.long xx), .second, .val (.int p1), .val (.int p2), .val (.int p3), .val (.long v), .second, .val (.int zA), .val (.int fl), .val (.ref a), .val (.int zn), .val (.int zE), .val (.int (1 : Int32))] [(.int fl), (.int zn), (.long v), (.int zA), (.int (7 : Int32)), (.ref a), (.int (1 : Int32))])
  refine wp_staticP C X0 e0 (argsL := [(.ref a), (.int (7 : Int32)), (.int zA), (.long v), (.int zn), (.int fl)]) (rest := [(.int (1 : Int32))]) (rm_cell l Z a0 hw [] a (7 : Int32) zA v zn fl 7 A0 n h0 rfl hA hN (by decide) hAn hn hn1 A) (hw _ (List.mem_of_getElem? (i := 6) rfl)) (hw _ (List.mem_of_getElem? (i := 7) rfl)) (hw _ (List.mem_of_getElem? (i := 8) rfl)) (hw _ (List.mem_of_getElem? (i := 9) rfl)) (by decide) rfl (lenOf pd_cell rfl) at_417 rfl rfl rfl (by decide) (Nat.le_of_ble_eq_true rfl) (by decide) (by decide) ?_
  intro T1 X1 e1
  show WP p e below _ T1 (mkF m 420 #[.val (.long xx), .second, .val (.int p1), .val (.int p2), .val (.int p3), .val (.long v), .second, .val (.int zA), .val (.int fl), .val (.ref a), .val (.int zn), .val (.int zE), .val (.int (1 : Int32))] [(.int (1 : Int32)), (.int (1 : Int32))])
  refine wp (fun _ => XS.iand X1.here hx rfl (hb hby at_420) rfl) ?_
  show WP p e below _ T1 (mkF m 421 #[.val (.long xx), .second, .val (.int p1), .val (.int p2), .val (.int p3), .val (.long v), .second, .val (.int zA), .val (.int fl), .val (.ref a), .val (.int zn), .val (.int zE), .val (.int (1 : Int32))] [(.int ((1 : Int32) &&& (1 : Int32)))])
  show WP p e below _ T1 (mkF m 421 #[.val (.long xx), .second, .val (.int p1), .val (.int p2), .val (.int p3), .val (.long v), .second, .val (.int zA), .val (.int fl), .val (.ref a), .val (.int zn), .val (.int zE), .val (.int (1 : Int32))] [(.int (1 : Int32))])
  refine wp (fun _ => XS.istore X1.here hx rfl (hb hby at_421) rfl (l' := #[.val (.long xx), .second, .val (.int p1), .val (.int p2), .val (.int p3), .val (.long v), .second, .val (.int zA), .val (.int fl), .val (.ref a), .val (.int zn), .val (.int zE), .val (.int (1 : Int32))]) rfl) ?_
  show WP p e below _ T1 (mkF m 423 #[.val (.long xx), .second, .val (.int p1), .val (.int p2), .val (.int p3), .val (.long v), .second, .val (.int zA), .val (.int fl), .val (.ref a), .val (.int zn), .val (.int zE), .val (.int (1 : Int32))] [])
  exact k _ X1 e1
set_option maxRecDepth 65536 in
set_option maxHeartbeats 4000000 in
theorem segC8 (xx : Int64) (p1 p2 p3 : Int32) (v : Int64) (zA fl : Int32) (a : Addr) (zn zE : Int32) (A0 n : Nat) (hA : zA.toInt = (A0 : Int)) (hN : zn.toInt = (n : Int)) (hAn : A0 < 14) (hn : n ≤ 10) (hn1 : 1 ≤ n) (A : Af Z h0 a .byte 14 (fun j => .int (own_x v n A0 j fl))) (C : Cx p s m meth c Z a0 code 13 "com/example/joinsmith/joinsmith/engine/stats/VarintWritePinLaw" "law" (some .boolean)) (X0 : Stand p l e room_1 s m args below meth c T0 locs 1 14) (e0 : T0.heap = h0)
    (k : ∀ T', Stand p l e room_1 s m args below meth c T' locs 1 14 → T'.heap = h0 → WP p e below Q T' (mkF m 443 #[.val (.long xx), .second, .val (.int p1), .val (.int p2), .val (.int p3), .val (.long v), .second, .val (.int zA), .val (.int fl), .val (.ref a), .val (.int zn), .val (.int zE), .val (.int (1 : Int32))] [])) : WP p e below Q T0 (mkF m 423 #[.val (.long xx), .second, .val (.int p1), .val (.int p2), .val (.int p3), .val (.long v), .second, .val (.int zA), .val (.int fl), .val (.ref a), .val (.int zn), .val (.int zE), .val (.int (1 : Int32))] []) := by
  obtain ⟨hx, hZ, hw, hby, hml, hown, hnm, hret, hlk⟩ := id C
  show WP p e below _ T0 (mkF m 423 #[.val (.long xx), .second, .val (.int p1), .val (.int p2), .val (.int p3), .val (.long v), .second, .val (.int zA), .val (.int fl), .val (.ref a), .val (.int zn), .val (.int zE), .val (.int (1 : Int32))] [])
  refine wp (fun _ => XS.iload X0.here hx rfl (hb hby at_423) rfl) ?_
  show WP p e below _ T0 (mkF m 425 #[.val (.long xx), .second, .val (.int p1), .val (.int p2), .val (.int p3), .val (.long v), .second, .val (.int zA), .val (.int fl), .val (.ref a), .val (.int zn), .val (.int zE), .val (.int (1 : Int32))] [(.int (1 : Int32))])
  refine wp (fun _ => XS.aload X0.here hx rfl (hb hby at_425) rfl rfl) ?_
  show WP p e below _ T0 (mkF m 427 #[.val (.long xx), .second, .val (.int p1), .val (.int p2), .val (.int p3), .val (.long v), .second, .val (.int zA), .val (.int fl), .val (.ref a), .val (.int zn), .val (.int zE), .val (.int (1 : Int32))] [(.ref a), (.int (1 : Int32))])
  refine wp (fun _ => XS.bipush X0.here hx rfl (hb hby at_427)) ?_
  show WP p e below _ T0 (mkF m 429 #[.val (.long xx), .second, .val (.int p1), .val (.int p2), .val (.int p3), .val (.long v), .second, .val (.int zA), .val (.int fl), .val (.ref a), .val (.int zn), .val (.int zE), .val (.int (1 : Int32))] [(.int (8 : Int32)), (.ref a), (.int (1 : Int32))])
  refine wp (fun _ => XS.iload X0.here hx rfl (hb hby at_429) rfl) ?_
  show WP p e below _ T0 (mkF m 431 #[.val (.long xx), .second, .val (.int p1), .val (.int p2), .val (.int p3), .val (.long v), .second, .val (.int zA), .val (.int fl), .val (.ref a), .val (.int zn), .val (.int zE), .val (.int (1 : Int32))] [(.int zA), (.int (8 : Int32)), (.ref a), (.int (1 : Int32))])
  refine wp (fun _ => XS.lload X0.here hx rfl (hb hby at_431) rfl) ?_
  show WP p e below _ T0 (mkF m 433 #[.val (.long xx), .second, .val (.int p1), .val (.int p2), .val (.int p3), .val (.long v), .second, .val (.int zA), .val (.int fl), .val (.ref a), .val (.int zn), .val (.int zE), .val (.int (1 : Int32))] [(.long v), (.int zA), (.int (8 : Int32)), (.ref a), (.int (1 : Int32))])
  refine wp (fun _ => XS.iload X0.here hx rfl (hb hby at_433) rfl) ?_
  show WP p e below _ T0 (mkF m 435 #[.val (.long xx), .second, .val (.int p1), .val (.int p2), .val (.int p3), .val (.long v), .second, .val (.int zA), .val (.int fl), .val (.ref a), .val (.int zn), .val (.int zE), .val (.int (1 : Int32))] [(.int zn), (.long v), (.int zA), (.int (8 : Int32)), (.ref a), (.int (1 : Int32))])
  refine wp (fun _ => XS.iload X0.here hx rfl (hb hby at_435) rfl) ?_
  show WP p e below _ T0 (mkF m 437 #[.val (.long xx), .second, .val (.int p1), .val (.int p2), .val (.int p3), .val (.long v), .second, .val (.int zA), .val (.int fl), .val (.ref a), .val (.int zn), .val (.int zE), .val (.int (1 : Int32))] [(.int fl), (.int zn), (.long v), (.int zA), (.int (8 : Int32)), (.ref a), (.int (1 : Int32))])
  refine wp_staticP C X0 e0 (argsL := [(.ref a), (.int (8 : Int32)), (.int zA), (.long v), (.int zn), (.int fl)]) (rest := [(.int (1 : Int32))]) (rm_cell l Z a0 hw [] a (8 : Int32) zA v zn fl 8 A0 n h0 rfl hA hN (by decide) hAn hn hn1 A) (hw _ (List.mem_of_getElem? (i := 6) rfl)) (hw _ (List.mem_of_getElem? (i := 7) rfl)) (hw _ (List.mem_of_getElem? (i := 8) rfl)) (hw _ (List.mem_of_getElem? (i := 9) rfl)) (by decide) rfl (lenOf pd_cell rfl) at_437 rfl rfl rfl (by decide) (Nat.le_of_ble_eq_true rfl) (by decide) (by decide) ?_
  intro T1 X1 e1
  show WP p e below _ T1 (mkF m 440 #[.val (.long xx), .second, .val (.int p1), .val (.int p2), .val (.int p3), .val (.long v), .second, .val (.int zA), .val (.int fl), .val (.ref a), .val (.int zn), .val (.int zE), .val (.int (1 : Int32))] [(.int (1 : Int32)), (.int (1 : Int32))])
  refine wp (fun _ => XS.iand X1.here hx rfl (hb hby at_440) rfl) ?_
  show WP p e below _ T1 (mkF m 441 #[.val (.long xx), .second, .val (.int p1), .val (.int p2), .val (.int p3), .val (.long v), .second, .val (.int zA), .val (.int fl), .val (.ref a), .val (.int zn), .val (.int zE), .val (.int (1 : Int32))] [(.int ((1 : Int32) &&& (1 : Int32)))])
  show WP p e below _ T1 (mkF m 441 #[.val (.long xx), .second, .val (.int p1), .val (.int p2), .val (.int p3), .val (.long v), .second, .val (.int zA), .val (.int fl), .val (.ref a), .val (.int zn), .val (.int zE), .val (.int (1 : Int32))] [(.int (1 : Int32))])
  refine wp (fun _ => XS.istore X1.here hx rfl (hb hby at_441) rfl (l' := #[.val (.long xx), .second, .val (.int p1), .val (.int p2), .val (.int p3), .val (.long v), .second, .val (.int zA), .val (.int fl), .val (.ref a), .val (.int zn), .val (.int zE), .val (.int (1 : Int32))]) rfl) ?_
  show WP p e below _ T1 (mkF m 443 #[.val (.long xx), .second, .val (.int p1), .val (.int p2), .val (.int p3), .val (.long v), .second, .val (.int zA), .val (.int fl), .val (.ref a), .val (.int zn), .val (.int zE), .val (.int (1 : Int32))] [])
  exact k _ X1 e1
set_option maxRecDepth 65536 in
set_option maxHeartbeats 4000000 in
theorem segC9 (xx : Int64) (p1 p2 p3 : Int32) (v : Int64) (zA fl : Int32) (a : Addr) (zn zE : Int32) (A0 n : Nat) (hA : zA.toInt = (A0 : Int)) (hN : zn.toInt = (n : Int)) (hAn : A0 < 14) (hn : n ≤ 10) (hn1 : 1 ≤ n) (A : Af Z h0 a .byte 14 (fun j => .int (own_x v n A0 j fl))) (C : Cx p s m meth c Z a0 code 13 "com/example/joinsmith/joinsmith/engine/stats/VarintWritePinLaw" "law" (some .boolean)) (X0 : Stand p l e room_1 s m args below meth c T0 locs 1 14) (e0 : T0.heap = h0)
    (k : ∀ T', Stand p l e room_1 s m args below meth c T' locs 1 14 → T'.heap = h0 → WP p e below Q T' (mkF m 463 #[.val (.long xx), .second, .val (.int p1), .val (.int p2), .val (.int p3), .val (.long v), .second, .val (.int zA), .val (.int fl), .val (.ref a), .val (.int zn), .val (.int zE), .val (.int (1 : Int32))] [])) : WP p e below Q T0 (mkF m 443 #[.val (.long xx), .second, .val (.int p1), .val (.int p2), .val (.int p3), .val (.long v), .second, .val (.int zA), .val (.int fl), .val (.ref a), .val (.int zn), .val (.int zE), .val (.int (1 : Int32))] []) := by
  obtain ⟨hx, hZ, hw, hby, hml, hown, hnm, hret, hlk⟩ := id C
  show WP p e below _ T0 (mkF m 443 #[.val (.long xx), .second, .val (.int p1), .val (.int p2), .val (.int p3), .val (.long v), .second, .val (.int zA), .val (.int fl), .val (.ref a), .val (.int zn), .val (.int zE), .val (.int (1 : Int32))] [])
  refine wp (fun _ => XS.iload X0.here hx rfl (hb hby at_443) rfl) ?_
  show WP p e below _ T0 (mkF m 445 #[.val (.long xx), .second, .val (.int p1), .val (.int p2), .val (.int p3), .val (.long v), .second, .val (.int zA), .val (.int fl), .val (.ref a), .val (.int zn), .val (.int zE), .val (.int (1 : Int32))] [(.int (1 : Int32))])
  refine wp (fun _ => XS.aload X0.here hx rfl (hb hby at_445) rfl rfl) ?_
  show WP p e below _ T0 (mkF m 447 #[.val (.long xx), .second, .val (.int p1), .val (.int p2), .val (.int p3), .val (.long v), .second, .val (.int zA), .val (.int fl), .val (.ref a), .val (.int zn), .val (.int zE), .val (.int (1 : Int32))] [(.ref a), (.int (1 : Int32))])
  refine wp (fun _ => XS.bipush X0.here hx rfl (hb hby at_447)) ?_
  show WP p e below _ T0 (mkF m 449 #[.val (.long xx), .second, .val (.int p1), .val (.int p2), .val (.int p3), .val (.long v), .second, .val (.int zA), .val (.int fl), .val (.ref a), .val (.int zn), .val (.int zE), .val (.int (1 : Int32))] [(.int (9 : Int32)), (.ref a), (.int (1 : Int32))])
  refine wp (fun _ => XS.iload X0.here hx rfl (hb hby at_449) rfl) ?_
  show WP p e below _ T0 (mkF m 451 #[.val (.long xx), .second, .val (.int p1), .val (.int p2), .val (.int p3), .val (.long v), .second, .val (.int zA), .val (.int fl), .val (.ref a), .val (.int zn), .val (.int zE), .val (.int (1 : Int32))] [(.int zA), (.int (9 : Int32)), (.ref a), (.int (1 : Int32))])
  refine wp (fun _ => XS.lload X0.here hx rfl (hb hby at_451) rfl) ?_
  show WP p e below _ T0 (mkF m 453 #[.val (.long xx), .second, .val (.int p1), .val (.int p2), .val (.int p3), .val (.long v), .second, .val (.int zA), .val (.int fl), .val (.ref a), .val (.int zn), .val (.int zE), .val (.int (1 : Int32))] [(.long v), (.int zA), (.int (9 : Int32)), (.ref a), (.int (1 : Int32))])
  refine wp (fun _ => XS.iload X0.here hx rfl (hb hby at_453) rfl) ?_
  show WP p e below _ T0 (mkF m 455 #[.val (.long xx), .second, .val (.int p1), .val (.int p2), .val (.int p3), .val (.long v), .second, .val (.int zA), .val (.int fl), .val (.ref a), .val (.int zn), .val (.int zE), .val (.int (1 : Int32))] [(.int zn), (.long v), (.int zA), (.int (9 : Int32)), (.ref a), (.int (1 : Int32))])
  refine wp (fun _ => XS.iload X0.here hx rfl (hb hby at_455) rfl) ?_
  show WP p e below _ T0 (mkF m 457 #[.val (.long xx), .second, .val (.int p1), .val (.int p2), .val (.int p3), .val (.long v), .second, .val (.int zA), .val (.int fl), .val (.ref a), .val (.int zn), .val (.int zE), .val (.int (1 : Int32))] [(.int fl), (.int zn), (.long v), (.int zA), (.int (9 : Int32)), (.ref a), (.int (1 : Int32))])
  refine wp_staticP C X0 e0 (argsL := [(.ref a), (.int (9 : Int32)), (.int zA), (.long v), (.int zn), (.int fl)]) (rest := [(.int (1 : Int32))]) (rm_cell l Z a0 hw [] a (9 : Int32) zA v zn fl 9 A0 n h0 rfl hA hN (by decide) hAn hn hn1 A) (hw _ (List.mem_of_getElem? (i := 6) rfl)) (hw _ (List.mem_of_getElem? (i := 7) rfl)) (hw _ (List.mem_of_getElem? (i := 8) rfl)) (hw _ (List.mem_of_getElem? (i := 9) rfl)) (by decide) rfl (lenOf pd_cell rfl) at_457 rfl rfl rfl (by decide) (Nat.le_of_ble_eq_true rfl) (by decide) (by decide) ?_
  intro T1 X1 e1
  show WP p e below _ T1 (mkF m 460 #[.val (.long xx), .second, .val (.int p1), .val (.int p2), .val (.int p3), .val (.long v), .second, .val (.int zA), .val (.int fl), .val (.ref a), .val (.int zn), .val (.int zE), .val (.int (1 : Int32))] [(.int (1 : Int32)), (.int (1 : Int32))])
  refine wp (fun _ => XS.iand X1.here hx rfl (hb hby at_460) rfl) ?_
  show WP p e below _ T1 (mkF m 461 #[.val (.long xx), .second, .val (.int p1), .val (.int p2), .val (.int p3), .val (.long v), .second, .val (.int zA), .val (.int fl), .val (.ref a), .val (.int zn), .val (.int zE), .val (.int (1 : Int32))] [(.int ((1 : Int32) &&& (1 : Int32)))])
  show WP p e below _ T1 (mkF m 461 #[.val (.long xx), .second, .val (.int p1), .val (.int p2), .val (.int p3), .val (.long v), .second, .val (.int zA), .val (.int fl), .val (.ref a), .val (.int zn), .val (.int zE), .val (.int (1 : Int32))] [(.int (1 : Int32))])
  refine wp (fun _ => XS.istore X1.here hx rfl (hb hby at_461) rfl (l' := #[.val (.long xx), .second, .val (.int p1), .val (.int p2), .val (.int p3), .val (.long v), .second, .val (.int zA), .val (.int fl), .val (.ref a), .val (.int zn), .val (.int zE), .val (.int (1 : Int32))]) rfl) ?_
  show WP p e below _ T1 (mkF m 463 #[.val (.long xx), .second, .val (.int p1), .val (.int p2), .val (.int p3), .val (.long v), .second, .val (.int zA), .val (.int fl), .val (.ref a), .val (.int zn), .val (.int zE), .val (.int (1 : Int32))] [])
  exact k _ X1 e1
set_option maxRecDepth 65536 in
set_option maxHeartbeats 4000000 in
theorem segC10 (xx : Int64) (p1 p2 p3 : Int32) (v : Int64) (zA fl : Int32) (a : Addr) (zn zE : Int32) (A0 n : Nat) (hA : zA.toInt = (A0 : Int)) (hN : zn.toInt = (n : Int)) (hAn : A0 < 14) (hn : n ≤ 10) (hn1 : 1 ≤ n) (A : Af Z h0 a .byte 14 (fun j => .int (own_x v n A0 j fl))) (C : Cx p s m meth c Z a0 code 13 "com/example/joinsmith/joinsmith/engine/stats/VarintWritePinLaw" "law" (some .boolean)) (X0 : Stand p l e room_1 s m args below meth c T0 locs 1 14) (e0 : T0.heap = h0)
    (k : ∀ T', Stand p l e room_1 s m args below meth c T' locs 1 14 → T'.heap = h0 → WP p e below Q T' (mkF m 483 #[.val (.long xx), .second, .val (.int p1), .val (.int p2), .val (.int p3), .val (.long v), .second, .val (.int zA), .val (.int fl), .val (.ref a), .val (.int zn), .val (.int zE), .val (.int (1 : Int32))] [])) : WP p e below Q T0 (mkF m 463 #[.val (.long xx), .second, .val (.int p1), .val (.int p2), .val (.int p3), .val (.long v), .second, .val (.int zA), .val (.int fl), .val (.ref a), .val (.int zn), .val (.int zE), .val (.int (1 : Int32))] []) := by
  obtain ⟨hx, hZ, hw, hby, hml, hown, hnm, hret, hlk⟩ := id C
  show WP p e below _ T0 (mkF m 463 #[.val (.long xx), .second, .val (.int p1), .val (.int p2), .val (.int p3), .val (.long v), .second, .val (.int zA), .val (.int fl), .val (.ref a), .val (.int zn), .val (.int zE), .val (.int (1 : Int32))] [])
  refine wp (fun _ => XS.iload X0.here hx rfl (hb hby at_463) rfl) ?_
  show WP p e below _ T0 (mkF m 465 #[.val (.long xx), .second, .val (.int p1), .val (.int p2), .val (.int p3), .val (.long v), .second, .val (.int zA), .val (.int fl), .val (.ref a), .val (.int zn), .val (.int zE), .val (.int (1 : Int32))] [(.int (1 : Int32))])
  refine wp (fun _ => XS.aload X0.here hx rfl (hb hby at_465) rfl rfl) ?_
  show WP p e below _ T0 (mkF m 467 #[.val (.long xx), .second, .val (.int p1), .val (.int p2), .val (.int p3), .val (.long v), .second, .val (.int zA), .val (.int fl), .val (.ref a), .val (.int zn), .val (.int zE), .val (.int (1 : Int32))] [(.ref a), (.int (1 : Int32))])
  refine wp (fun _ => XS.bipush X0.here hx rfl (hb hby at_467)) ?_
  show WP p e below _ T0 (mkF m 469 #[.val (.long xx), .second, .val (.int p1), .val (.int p2), .val (.int p3), .val (.long v), .second, .val (.int zA), .val (.int fl), .val (.ref a), .val (.int zn), .val (.int zE), .val (.int (1 : Int32))] [(.int (10 : Int32)), (.ref a), (.int (1 : Int32))])
  refine wp (fun _ => XS.iload X0.here hx rfl (hb hby at_469) rfl) ?_
  show WP p e below _ T0 (mkF m 471 #[.val (.long xx), .second, .val (.int p1), .val (.int p2), .val (.int p3), .val (.long v), .second, .val (.int zA), .val (.int fl), .val (.ref a), .val (.int zn), .val (.int zE), .val (.int (1 : Int32))] [(.int zA), (.int (10 : Int32)), (.ref a), (.int (1 : Int32))])
  refine wp (fun _ => XS.lload X0.here hx rfl (hb hby at_471) rfl) ?_
  show WP p e below _ T0 (mkF m 473 #[.val (.long xx), .second, .val (.int p1), .val (.int p2), .val (.int p3), .val (.long v), .second, .val (.int zA), .val (.int fl), .val (.ref a), .val (.int zn), .val (.int zE), .val (.int (1 : Int32))] [(.long v), (.int zA), (.int (10 : Int32)), (.ref a), (.int (1 : Int32))])
  refine wp (fun _ => XS.iload X0.here hx rfl (hb hby at_473) rfl) ?_
  show WP p e below _ T0 (mkF m 475 #[.val (.long xx), .second, .val (.int p1), .val (.int p2), .val (.int p3), .val (.long v), .second, .val (.int zA), .val (.int fl), .val (.ref a), .val (.int zn), .val (.int zE), .val (.int (1 : Int32))] [(.int zn), (.long v), (.int zA), (.int (10 : Int32)), (.ref a), (.int (1 : Int32))])
  refine wp (fun _ => XS.iload X0.here hx rfl (hb hby at_475) rfl) ?_
  show WP p e below _ T0 (mkF m 477 #[.val (.long xx), .second, .val (.int p1), .val (.int p2), .val (.int p3), .val (.long v), .second, .val (.int zA), .val (.int fl), .val (.ref a), .val (.int zn), .val (.int zE), .val (.int (1 : Int32))] [(.int fl), (.int zn), (.long v), (.int zA), (.int (10 : Int32)), (.ref a), (.int (1 : Int32))])
  refine wp_staticP C X0 e0 (argsL := [(.ref a), (.int (10 : Int32)), (.int zA), (.long v), (.int zn), (.int fl)]) (rest := [(.int (1 : Int32))]) (rm_cell l Z a0 hw [] a (10 : Int32) zA v zn fl 10 A0 n h0 rfl hA hN (by decide) hAn hn hn1 A) (hw _ (List.mem_of_getElem? (i := 6) rfl)) (hw _ (List.mem_of_getElem? (i := 7) rfl)) (hw _ (List.mem_of_getElem? (i := 8) rfl)) (hw _ (List.mem_of_getElem? (i := 9) rfl)) (by decide) rfl (lenOf pd_cell rfl) at_477 rfl rfl rfl (by decide) (Nat.le_of_ble_eq_true rfl) (by decide) (by decide) ?_
  intro T1 X1 e1
  show WP p e below _ T1 (mkF m 480 #[.val (.long xx), .second, .val (.int p1), .val (.int p2), .val (.int p3), .val (.long v), .second, .val (.int zA), .val (.int fl), .val (.ref a), .val (.int zn), .val (.int zE), .val (.int (1 : Int32))] [(.int (1 : Int32)), (.int (1 : Int32))])
  refine wp (fun _ => XS.iand X1.here hx rfl (hb hby at_480) rfl) ?_
  show WP p e below _ T1 (mkF m 481 #[.val (.long xx), .second, .val (.int p1), .val (.int p2), .val (.int p3), .val (.long v), .second, .val (.int zA), .val (.int fl), .val (.ref a), .val (.int zn), .val (.int zE), .val (.int (1 : Int32))] [(.int ((1 : Int32) &&& (1 : Int32)))])
  show WP p e below _ T1 (mkF m 481 #[.val (.long xx), .second, .val (.int p1), .val (.int p2), .val (.int p3), .val (.long v), .second, .val (.int zA), .val (.int fl), .val (.ref a), .val (.int zn), .val (.int zE), .val (.int (1 : Int32))] [(.int (1 : Int32))])
  refine wp (fun _ => XS.istore X1.here hx rfl (hb hby at_481) rfl (l' := #[.val (.long xx), .second, .val (.int p1), .val (.int p2), .val (.int p3), .val (.long v), .second, .val (.int zA), .val (.int fl), .val (.ref a), .val (.int zn), .val (.int zE), .val (.int (1 : Int32))]) rfl) ?_
  show WP p e below _ T1 (mkF m 483 #[.val (.long xx), .second, .val (.int p1), .val (.int p2), .val (.int p3), .val (.long v), .second, .val (.int zA), .val (.int fl), .val (.ref a), .val (.int zn), .val (.int zE), .val (.int (1 : Int32))] [])
  exact k _ X1 e1
set_option maxRecDepth 65536 in
set_option maxHeartbeats 4000000 in
theorem segC11 (xx : Int64) (p1 p2 p3 : Int32) (v : Int64) (zA fl : Int32) (a : Addr) (zn zE : Int32) (A0 n : Nat) (hA : zA.toInt = (A0 : Int)) (hN : zn.toInt = (n : Int)) (hAn : A0 < 14) (hn : n ≤ 10) (hn1 : 1 ≤ n) (A : Af Z h0 a .byte 14 (fun j => .int (own_x v n A0 j fl))) (C : Cx p s m meth c Z a0 code 13 "com/example/joinsmith/joinsmith/engine/stats/VarintWritePinLaw" "law" (some .boolean)) (X0 : Stand p l e room_1 s m args below meth c T0 locs 1 14) (e0 : T0.heap = h0)
    (k : ∀ T', Stand p l e room_1 s m args below meth c T' locs 1 14 → T'.heap = h0 → WP p e below Q T' (mkF m 503 #[.val (.long xx), .second, .val (.int p1), .val (.int p2), .val (.int p3), .val (.long v), .second, .val (.int zA), .val (.int fl), .val (.ref a), .val (.int zn), .val (.int zE), .val (.int (1 : Int32))] [])) : WP p e below Q T0 (mkF m 483 #[.val (.long xx), .second, .val (.int p1), .val (.int p2), .val (.int p3), .val (.long v), .second, .val (.int zA), .val (.int fl), .val (.ref a), .val (.int zn), .val (.int zE), .val (.int (1 : Int32))] []) := by
  obtain ⟨hx, hZ, hw, hby, hml, hown, hnm, hret, hlk⟩ := id C
  show WP p e below _ T0 (mkF m 483 #[.val (.long xx), .second, .val (.int p1), .val (.int p2), .val (.int p3), .val (.long v), .second, .val (.int zA), .val (.int fl), .val (.ref a), .val (.int zn), .val (.int zE), .val (.int (1 : Int32))] [])
  refine wp (fun _ => XS.iload X0.here hx rfl (hb hby at_483) rfl) ?_
  show WP p e below _ T0 (mkF m 485 #[.val (.long xx), .second, .val (.int p1), .val (.int p2), .val (.int p3), .val (.long v), .second, .val (.int zA), .val (.int fl), .val (.ref a), .val (.int zn), .val (.int zE), .val (.int (1 : Int32))] [(.int (1 : Int32))])
  refine wp (fun _ => XS.aload X0.here hx rfl (hb hby at_485) rfl rfl) ?_
  show WP p e below _ T0 (mkF m 487 #[.val (.long xx), .second, .val (.int p1), .val (.int p2), .val (.int p3), .val (.long v), .second, .val (.int zA), .val (.int fl), .val (.ref a), .val (.int zn), .val (.int zE), .val (.int (1 : Int32))] [(.ref a), (.int (1 : Int32))])
  refine wp (fun _ => XS.bipush X0.here hx rfl (hb hby at_487)) ?_
  show WP p e below _ T0 (mkF m 489 #[.val (.long xx), .second, .val (.int p1), .val (.int p2), .val (.int p3), .val (.long v), .second, .val (.int zA), .val (.int fl), .val (.ref a), .val (.int zn), .val (.int zE), .val (.int (1 : Int32))] [(.int (11 : Int32)), (.ref a), (.int (1 : Int32))])
  refine wp (fun _ => XS.iload X0.here hx rfl (hb hby at_489) rfl) ?_
  show WP p e below _ T0 (mkF m 491 #[.val (.long xx), .second, .val (.int p1), .val (.int p2), .val (.int p3), .val (.long v), .second, .val (.int zA), .val (.int fl), .val (.ref a), .val (.int zn), .val (.int zE), .val (.int (1 : Int32))] [(.int zA), (.int (11 : Int32)), (.ref a), (.int (1 : Int32))])
  refine wp (fun _ => XS.lload X0.here hx rfl (hb hby at_491) rfl) ?_
  show WP p e below _ T0 (mkF m 493 #[.val (.long xx), .second, .val (.int p1), .val (.int p2), .val (.int p3), .val (.long v), .second, .val (.int zA), .val (.int fl), .val (.ref a), .val (.int zn), .val (.int zE), .val (.int (1 : Int32))] [(.long v), (.int zA), (.int (11 : Int32)), (.ref a), (.int (1 : Int32))])
  refine wp (fun _ => XS.iload X0.here hx rfl (hb hby at_493) rfl) ?_
  show WP p e below _ T0 (mkF m 495 #[.val (.long xx), .second, .val (.int p1), .val (.int p2), .val (.int p3), .val (.long v), .second, .val (.int zA), .val (.int fl), .val (.ref a), .val (.int zn), .val (.int zE), .val (.int (1 : Int32))] [(.int zn), (.long v), (.int zA), (.int (11 : Int32)), (.ref a), (.int (1 : Int32))])
  refine wp (fun _ => XS.iload X0.here hx rfl (hb hby at_495) rfl) ?_
  show WP p e below _ T0 (mkF m 497 #[.val (.long xx), .second, .val (.int p1), .val (.int p2), .val (.int p3), .val (.long v), .second, .val (.int zA), .val (.int fl), .val (.ref a), .val (.int zn), .val (.int zE), .val (.int (1 : Int32))] [(.int fl), (.int zn), (.long v), (.int zA), (.int (11 : Int32)), (.ref a), (.int (1 : Int32))])
  refine wp_staticP C X0 e0 (argsL := [(.ref a), (.int (11 : Int32)), (.int zA), (.long v), (.int zn), (.int fl)]) (rest := [(.int (1 : Int32))]) (rm_cell l Z a0 hw [] a (11 : Int32) zA v zn fl 11 A0 n h0 rfl hA hN (by decide) hAn hn hn1 A) (hw _ (List.mem_of_getElem? (i := 6) rfl)) (hw _ (List.mem_of_getElem? (i := 7) rfl)) (hw _ (List.mem_of_getElem? (i := 8) rfl)) (hw _ (List.mem_of_getElem? (i := 9) rfl)) (by decide) rfl (lenOf pd_cell rfl) at_497 rfl rfl rfl (by decide) (Nat.le_of_ble_eq_true rfl) (by decide) (by decide) ?_
  intro T1 X1 e1
  show WP p e below _ T1 (mkF m 500 #[.val (.long xx), .second, .val (.int p1), .val (.int p2), .val (.int p3), .val (.long v), .second, .val (.int zA), .val (.int fl), .val (.ref a), .val (.int zn), .val (.int zE), .val (.int (1 : Int32))] [(.int (1 : Int32)), (.int (1 : Int32))])
  refine wp (fun _ => XS.iand X1.here hx rfl (hb hby at_500) rfl) ?_
  show WP p e below _ T1 (mkF m 501 #[.val (.long xx), .second, .val (.int p1), .val (.int p2), .val (.int p3), .val (.long v), .second, .val (.int zA), .val (.int fl), .val (.ref a), .val (.int zn), .val (.int zE), .val (.int (1 : Int32))] [(.int ((1 : Int32) &&& (1 : Int32)))])
  show WP p e below _ T1 (mkF m 501 #[.val (.long xx), .second, .val (.int p1), .val (.int p2), .val (.int p3), .val (.long v), .second, .val (.int zA), .val (.int fl), .val (.ref a), .val (.int zn), .val (.int zE), .val (.int (1 : Int32))] [(.int (1 : Int32))])
  refine wp (fun _ => XS.istore X1.here hx rfl (hb hby at_501) rfl (l' := #[.val (.long xx), .second, .val (.int p1), .val (.int p2), .val (.int p3), .val (.long v), .second, .val (.int zA), .val (.int fl), .val (.ref a), .val (.int zn), .val (.int zE), .val (.int (1 : Int32))]) rfl) ?_
  show WP p e below _ T1 (mkF m 503 #[.val (.long xx), .second, .val (.int p1), .val (.int p2), .val (.int p3), .val (.long v), .second, .val (.int zA), .val (.int fl), .val (.ref a), .val (.int zn), .val (.int zE), .val (.int (1 : Int32))] [])
  exact k _ X1 e1
set_option maxRecDepth 65536 in
set_option maxHeartbeats 4000000 in
theorem segC12 (xx : Int64) (p1 p2 p3 : Int32) (v : Int64) (zA fl : Int32) (a : Addr) (zn zE : Int32) (A0 n : Nat) (hA : zA.toInt = (A0 : Int)) (hN : zn.toInt = (n : Int)) (hAn : A0 < 14) (hn : n ≤ 10) (hn1 : 1 ≤ n) (A : Af Z h0 a .byte 14 (fun j => .int (own_x v n A0 j fl))) (C : Cx p s m meth c Z a0 code 13 "com/example/joinsmith/joinsmith/engine/stats/VarintWritePinLaw" "law" (some .boolean)) (X0 : Stand p l e room_1 s m args below meth c T0 locs 1 14) (e0 : T0.heap = h0)
    (k : ∀ T', Stand p l e room_1 s m args below meth c T' locs 1 14 → T'.heap = h0 → WP p e below Q T' (mkF m 523 #[.val (.long xx), .second, .val (.int p1), .val (.int p2), .val (.int p3), .val (.long v), .second, .val (.int zA), .val (.int fl), .val (.ref a), .val (.int zn), .val (.int zE), .val (.int (1 : Int32))] [])) : WP p e below Q T0 (mkF m 503 #[.val (.long xx), .second, .val (.int p1), .val (.int p2), .val (.int p3), .val (.long v), .second, .val (.int zA), .val (.int fl), .val (.ref a), .val (.int zn), .val (.int zE), .val (.int (1 : Int32))] []) := by
  obtain ⟨hx, hZ, hw, hby, hml, hown, hnm, hret, hlk⟩ := id C
  show WP p e below _ T0 (mkF m 503 #[.val (.long xx), .second, .val (.int p1), .val (.int p2), .val (.int p3), .val (.long v), .second, .val (.int zA), .val (.int fl), .val (.ref a), .val (.int zn), .val (.int zE), .val (.int (1 : Int32))] [])
  refine wp (fun _ => XS.iload X0.here hx rfl (hb hby at_503) rfl) ?_
  show WP p e below _ T0 (mkF m 505 #[.val (.long xx), .second, .val (.int p1), .val (.int p2), .val (.int p3), .val (.long v), .second, .val (.int zA), .val (.int fl), .val (.ref a), .val (.int zn), .val (.int zE), .val (.int (1 : Int32))] [(.int (1 : Int32))])
  refine wp (fun _ => XS.aload X0.here hx rfl (hb hby at_505) rfl rfl) ?_
  show WP p e below _ T0 (mkF m 507 #[.val (.long xx), .second, .val (.int p1), .val (.int p2), .val (.int p3), .val (.long v), .second, .val (.int zA), .val (.int fl), .val (.ref a), .val (.int zn), .val (.int zE), .val (.int (1 : Int32))] [(.ref a), (.int (1 : Int32))])
  refine wp (fun _ => XS.bipush X0.here hx rfl (hb hby at_507)) ?_
  show WP p e below _ T0 (mkF m 509 #[.val (.long xx), .second, .val (.int p1), .val (.int p2), .val (.int p3), .val (.long v), .second, .val (.int zA), .val (.int fl), .val (.ref a), .val (.int zn), .val (.int zE), .val (.int (1 : Int32))] [(.int (12 : Int32)), (.ref a), (.int (1 : Int32))])
  refine wp (fun _ => XS.iload X0.here hx rfl (hb hby at_509) rfl) ?_
  show WP p e below _ T0 (mkF m 511 #[.val (.long xx), .second, .val (.int p1), .val (.int p2), .val (.int p3), .val (.long v), .second, .val (.int zA), .val (.int fl), .val (.ref a), .val (.int zn), .val (.int zE), .val (.int (1 : Int32))] [(.int zA), (.int (12 : Int32)), (.ref a), (.int (1 : Int32))])
  refine wp (fun _ => XS.lload X0.here hx rfl (hb hby at_511) rfl) ?_
  show WP p e below _ T0 (mkF m 513 #[.val (.long xx), .second, .val (.int p1), .val (.int p2), .val (.int p3), .val (.long v), .second, .val (.int zA), .val (.int fl), .val (.ref a), .val (.int zn), .val (.int zE), .val (.int (1 : Int32))] [(.long v), (.int zA), (.int (12 : Int32)), (.ref a), (.int (1 : Int32))])
  refine wp (fun _ => XS.iload X0.here hx rfl (hb hby at_513) rfl) ?_
  show WP p e below _ T0 (mkF m 515 #[.val (.long xx), .second, .val (.int p1), .val (.int p2), .val (.int p3), .val (.long v), .second, .val (.int zA), .val (.int fl), .val (.ref a), .val (.int zn), .val (.int zE), .val (.int (1 : Int32))] [(.int zn), (.long v), (.int zA), (.int (12 : Int32)), (.ref a), (.int (1 : Int32))])
  refine wp (fun _ => XS.iload X0.here hx rfl (hb hby at_515) rfl) ?_
  show WP p e below _ T0 (mkF m 517 #[.val (.long xx), .second, .val (.int p1), .val (.int p2), .val (.int p3), .val (.long v), .second, .val (.int zA), .val (.int fl), .val (.ref a), .val (.int zn), .val (.int zE), .val (.int (1 : Int32))] [(.int fl), (.int zn), (.long v), (.int zA), (.int (12 : Int32)), (.ref a), (.int (1 : Int32))])
  refine wp_staticP C X0 e0 (argsL := [(.ref a), (.int (12 : Int32)), (.int zA), (.long v), (.int zn), (.int fl)]) (rest := [(.int (1 : Int32))]) (rm_cell l Z a0 hw [] a (12 : Int32) zA v zn fl 12 A0 n h0 rfl hA hN (by decide) hAn hn hn1 A) (hw _ (List.mem_of_getElem? (i := 6) rfl)) (hw _ (List.mem_of_getElem? (i := 7) rfl)) (hw _ (List.mem_of_getElem? (i := 8) rfl)) (hw _ (List.mem_of_getElem? (i := 9) rfl)) (by decide) rfl (lenOf pd_cell rfl) at_517 rfl rfl rfl (by decide) (Nat.le_of_ble_eq_true rfl) (by decide) (by decide) ?_
  intro T1 X1 e1
  show WP p e below _ T1 (mkF m 520 #[.val (.long xx), .second, .val (.int p1), .val (.int p2), .val (.int p3), .val (.long v), .second, .val (.int zA), .val (.int fl), .val (.ref a), .val (.int zn), .val (.int zE), .val (.int (1 : Int32))] [(.int (1 : Int32)), (.int (1 : Int32))])
  refine wp (fun _ => XS.iand X1.here hx rfl (hb hby at_520) rfl) ?_
  show WP p e below _ T1 (mkF m 521 #[.val (.long xx), .second, .val (.int p1), .val (.int p2), .val (.int p3), .val (.long v), .second, .val (.int zA), .val (.int fl), .val (.ref a), .val (.int zn), .val (.int zE), .val (.int (1 : Int32))] [(.int ((1 : Int32) &&& (1 : Int32)))])
  show WP p e below _ T1 (mkF m 521 #[.val (.long xx), .second, .val (.int p1), .val (.int p2), .val (.int p3), .val (.long v), .second, .val (.int zA), .val (.int fl), .val (.ref a), .val (.int zn), .val (.int zE), .val (.int (1 : Int32))] [(.int (1 : Int32))])
  refine wp (fun _ => XS.istore X1.here hx rfl (hb hby at_521) rfl (l' := #[.val (.long xx), .second, .val (.int p1), .val (.int p2), .val (.int p3), .val (.long v), .second, .val (.int zA), .val (.int fl), .val (.ref a), .val (.int zn), .val (.int zE), .val (.int (1 : Int32))]) rfl) ?_
  show WP p e below _ T1 (mkF m 523 #[.val (.long xx), .second, .val (.int p1), .val (.int p2), .val (.int p3), .val (.long v), .second, .val (.int zA), .val (.int fl), .val (.ref a), .val (.int zn), .val (.int zE), .val (.int (1 : Int32))] [])
  exact k _ X1 e1
set_option maxRecDepth 65536 in
set_option maxHeartbeats 4000000 in
theorem segC13 (xx : Int64) (p1 p2 p3 : Int32) (v : Int64) (zA fl : Int32) (a : Addr) (zn zE : Int32) (A0 n : Nat) (hA : zA.toInt = (A0 : Int)) (hN : zn.toInt = (n : Int)) (hAn : A0 < 14) (hn : n ≤ 10) (hn1 : 1 ≤ n) (A : Af Z h0 a .byte 14 (fun j => .int (own_x v n A0 j fl))) (C : Cx p s m meth c Z a0 code 13 "com/example/joinsmith/joinsmith/engine/stats/VarintWritePinLaw" "law" (some .boolean)) (X0 : Stand p l e room_1 s m args below meth c T0 locs 1 14) (e0 : T0.heap = h0)
    (k : ∀ T', Stand p l e room_1 s m args below meth c T' locs 1 14 → T'.heap = h0 → WP p e below Q T' (mkF m 543 #[.val (.long xx), .second, .val (.int p1), .val (.int p2), .val (.int p3), .val (.long v), .second, .val (.int zA), .val (.int fl), .val (.ref a), .val (.int zn), .val (.int zE), .val (.int (1 : Int32))] [])) : WP p e below Q T0 (mkF m 523 #[.val (.long xx), .second, .val (.int p1), .val (.int p2), .val (.int p3), .val (.long v), .second, .val (.int zA), .val (.int fl), .val (.ref a), .val (.int zn), .val (.int zE), .val (.int (1 : Int32))] []) := by
  obtain ⟨hx, hZ, hw, hby, hml, hown, hnm, hret, hlk⟩ := id C
  show WP p e below _ T0 (mkF m 523 #[.val (.long xx), .second, .val (.int p1), .val (.int p2), .val (.int p3), .val (.long v), .second, .val (.int zA), .val (.int fl), .val (.ref a), .val (.int zn), .val (.int zE), .val (.int (1 : Int32))] [])
  refine wp (fun _ => XS.iload X0.here hx rfl (hb hby at_523) rfl) ?_
  show WP p e below _ T0 (mkF m 525 #[.val (.long xx), .second, .val (.int p1), .val (.int p2), .val (.int p3), .val (.long v), .second, .val (.int zA), .val (.int fl), .val (.ref a), .val (.int zn), .val (.int zE), .val (.int (1 : Int32))] [(.int (1 : Int32))])
  refine wp (fun _ => XS.aload X0.here hx rfl (hb hby at_525) rfl rfl) ?_
  show WP p e below _ T0 (mkF m 527 #[.val (.long xx), .second, .val (.int p1), .val (.int p2), .val (.int p3), .val (.long v), .second, .val (.int zA), .val (.int fl), .val (.ref a), .val (.int zn), .val (.int zE), .val (.int (1 : Int32))] [(.ref a), (.int (1 : Int32))])
  refine wp (fun _ => XS.bipush X0.here hx rfl (hb hby at_527)) ?_
  show WP p e below _ T0 (mkF m 529 #[.val (.long xx), .second, .val (.int p1), .val (.int p2), .val (.int p3), .val (.long v), .second, .val (.int zA), .val (.int fl), .val (.ref a), .val (.int zn), .val (.int zE), .val (.int (1 : Int32))] [(.int (13 : Int32)), (.ref a), (.int (1 : Int32))])
  refine wp (fun _ => XS.iload X0.here hx rfl (hb hby at_529) rfl) ?_
  show WP p e below _ T0 (mkF m 531 #[.val (.long xx), .second, .val (.int p1), .val (.int p2), .val (.int p3), .val (.long v), .second, .val (.int zA), .val (.int fl), .val (.ref a), .val (.int zn), .val (.int zE), .val (.int (1 : Int32))] [(.int zA), (.int (13 : Int32)), (.ref a), (.int (1 : Int32))])
  refine wp (fun _ => XS.lload X0.here hx rfl (hb hby at_531) rfl) ?_
  show WP p e below _ T0 (mkF m 533 #[.val (.long xx), .second, .val (.int p1), .val (.int p2), .val (.int p3), .val (.long v), .second, .val (.int zA), .val (.int fl), .val (.ref a), .val (.int zn), .val (.int zE), .val (.int (1 : Int32))] [(.long v), (.int zA), (.int (13 : Int32)), (.ref a), (.int (1 : Int32))])
  refine wp (fun _ => XS.iload X0.here hx rfl (hb hby at_533) rfl) ?_
  show WP p e below _ T0 (mkF m 535 #[.val (.long xx), .second, .val (.int p1), .val (.int p2), .val (.int p3), .val (.long v), .second, .val (.int zA), .val (.int fl), .val (.ref a), .val (.int zn), .val (.int zE), .val (.int (1 : Int32))] [(.int zn), (.long v), (.int zA), (.int (13 : Int32)), (.ref a), (.int (1 : Int32))])
  refine wp (fun _ => XS.iload X0.here hx rfl (hb hby at_535) rfl) ?_
  show WP p e below _ T0 (mkF m 537 #[.val (.long xx), .second, .val (.int p1), .val (.int p2), .val (.int p3), .val (.long v), .second, .val (.int zA), .val (.int fl), .val (.ref a), .val (.int zn), .val (.int zE), .val (.int (1 : Int32))] [(.int fl), (.int zn), (.long v), (.int zA), (.int (13 : Int32)), (.ref a), (.int (1 : Int32))])
  refine wp_staticP C X0 e0 (argsL := [(.ref a), (.int (13 : Int32)), (.int zA), (.long v), (.int zn), (.int fl)]) (rest := [(.int (1 : Int32))]) (rm_cell l Z a0 hw [] a (13 : Int32) zA v zn fl 13 A0 n h0 rfl hA hN (by decide) hAn hn hn1 A) (hw _ (List.mem_of_getElem? (i := 6) rfl)) (hw _ (List.mem_of_getElem? (i := 7) rfl)) (hw _ (List.mem_of_getElem? (i := 8) rfl)) (hw _ (List.mem_of_getElem? (i := 9) rfl)) (by decide) rfl (lenOf pd_cell rfl) at_537 rfl rfl rfl (by decide) (Nat.le_of_ble_eq_true rfl) (by decide) (by decide) ?_
  intro T1 X1 e1
  show WP p e below _ T1 (mkF m 540 #[.val (.long xx), .second, .val (.int p1), .val (.int p2), .val (.int p3), .val (.long v), .second, .val (.int zA), .val (.int fl), .val (.ref a), .val (.int zn), .val (.int zE), .val (.int (1 : Int32))] [(.int (1 : Int32)), (.int (1 : Int32))])
  refine wp (fun _ => XS.iand X1.here hx rfl (hb hby at_540) rfl) ?_
  show WP p e below _ T1 (mkF m 541 #[.val (.long xx), .second, .val (.int p1), .val (.int p2), .val (.int p3), .val (.long v), .second, .val (.int zA), .val (.int fl), .val (.ref a), .val (.int zn), .val (.int zE), .val (.int (1 : Int32))] [(.int ((1 : Int32) &&& (1 : Int32)))])
  show WP p e below _ T1 (mkF m 541 #[.val (.long xx), .second, .val (.int p1), .val (.int p2), .val (.int p3), .val (.long v), .second, .val (.int zA), .val (.int fl), .val (.ref a), .val (.int zn), .val (.int zE), .val (.int (1 : Int32))] [(.int (1 : Int32))])
  refine wp (fun _ => XS.istore X1.here hx rfl (hb hby at_541) rfl (l' := #[.val (.long xx), .second, .val (.int p1), .val (.int p2), .val (.int p3), .val (.long v), .second, .val (.int zA), .val (.int fl), .val (.ref a), .val (.int zn), .val (.int zE), .val (.int (1 : Int32))]) rfl) ?_
  show WP p e below _ T1 (mkF m 543 #[.val (.long xx), .second, .val (.int p1), .val (.int p2), .val (.int p3), .val (.long v), .second, .val (.int zA), .val (.int fl), .val (.ref a), .val (.int zn), .val (.int zE), .val (.int (1 : Int32))] [])
  exact k _ X1 e1
set_option maxRecDepth 65536 in
set_option maxHeartbeats 4000000 in
theorem segF (xx : Int64) (p1 p2 p3 : Int32) (v : Int64) (zA fl : Int32) (a : Addr) (n0 : Nat) (ga : n0 ≤ a) (hfl : nar .byte fl = fl) (f : Nat → Value) (A0 : Af Z h0 a .byte 14 f) (N0 : Fr n0 locs) (C : Cx p s m meth c Z a0 code 13 "com/example/joinsmith/joinsmith/engine/stats/VarintWritePinLaw" "law" (some .boolean)) (X0 : Stand p l e R s m args below meth c T0 locs cells slots) (e0 : T0.heap = h0)
    (k : ∀ T' h' locs', Stand p l e R s m args below meth c T' locs' cells slots → T'.heap = h' → h'.size = h0.size → Fr n0 locs' → Af Z h' a .byte 14 (fun _ => .int fl) → WP p e below Q T' (mkF m 116 #[.val (.long xx), .second, .val (.int p1), .val (.int p2), .val (.int p3), .val (.long v), .second, .val (.int zA), .val (.int fl), .val (.ref a), .unset, .unset, .unset] [])) : WP p e below Q T0 (mkF m 24 #[.val (.long xx), .second, .val (.int p1), .val (.int p2), .val (.int p3), .val (.long v), .second, .val (.int zA), .val (.int fl), .val (.ref a), .unset, .unset, .unset] []) := by
  obtain ⟨hx, hZ, hw, hby, hml, hown, hnm, hret, hlk⟩ := id C
  show WP p e below _ T0 (mkF m 24 #[.val (.long xx), .second, .val (.int p1), .val (.int p2), .val (.int p3), .val (.long v), .second, .val (.int zA), .val (.int fl), .val (.ref a), .unset, .unset, .unset] [])
  have B0 : Af Z h0 a .byte 14 (fun j => if j < 0 then .int fl else f j) := A0.conv fun j hj => by rw [if_neg (by omega)]
  refine wp (fun _ => XS.aload X0.here hx rfl (hb hby at_24) rfl rfl) ?_
  show WP p e below _ T0 (mkF m 26 #[.val (.long xx), .second, .val (.int p1), .val (.int p2), .val (.int p3), .val (.long v), .second, .val (.int zA), .val (.int fl), .val (.ref a), .unset, .unset, .unset] [(.ref a)])
  refine wp (fun _ => XS.iconst X0.here hx rfl (hb hby at_26)) ?_
  show WP p e below _ T0 (mkF m 27 #[.val (.long xx), .second, .val (.int p1), .val (.int p2), .val (.int p3), .val (.long v), .second, .val (.int zA), .val (.int fl), .val (.ref a), .unset, .unset, .unset] [(.int (0 : Int32)), (.ref a)])
  refine wp (fun _ => XS.iload X0.here hx rfl (hb hby at_27) rfl) ?_
  show WP p e below _ T0 (mkF m 29 #[.val (.long xx), .second, .val (.int p1), .val (.int p2), .val (.int p3), .val (.long v), .second, .val (.int zA), .val (.int fl), .val (.ref a), .unset, .unset, .unset] [(.int fl), (.int (0 : Int32)), (.ref a)])
  refine wp_bastore C X0 e0 B0 (j := 0) rfl (by decide) at_29 ?_
  intro T1 h1 X1 e1 W1 A1
  have N1 := Frs (a := a) (sl := (0 : Int32).toNatClampNeg) N0 ga
  have B1 : Af Z h1 a .byte 14 (fun j => if j < 1 then .int fl else f j) := A1.conv fun j hj => by
    by_cases q : j = 0
    · rw [if_pos q, if_pos (by omega), hfl]
    · rw [if_neg q]
      by_cases q2 : j < 0
      · rw [if_pos q2, if_pos (by omega)]
      · rw [if_neg q2, if_neg (by omega)]
  show WP p e below _ T1 (mkF m 30 #[.val (.long xx), .second, .val (.int p1), .val (.int p2), .val (.int p3), .val (.long v), .second, .val (.int zA), .val (.int fl), .val (.ref a), .unset, .unset, .unset] [])
  refine wp (fun _ => XS.aload X1.here hx rfl (hb hby at_30) rfl rfl) ?_
  show WP p e below _ T1 (mkF m 32 #[.val (.long xx), .second, .val (.int p1), .val (.int p2), .val (.int p3), .val (.long v), .second, .val (.int zA), .val (.int fl), .val (.ref a), .unset, .unset, .unset] [(.ref a)])
  refine wp (fun _ => XS.iconst X1.here hx rfl (hb hby at_32)) ?_
  show WP p e below _ T1 (mkF m 33 #[.val (.long xx), .second, .val (.int p1), .val (.int p2), .val (.int p3), .val (.long v), .second, .val (.int zA), .val (.int fl), .val (.ref a), .unset, .unset, .unset] [(.int (1 : Int32)), (.ref a)])
  refine wp (fun _ => XS.iload X1.here hx rfl (hb hby at_33) rfl) ?_
  show WP p e below _ T1 (mkF m 35 #[.val (.long xx), .second, .val (.int p1), .val (.int p2), .val (.int p3), .val (.long v), .second, .val (.int zA), .val (.int fl), .val (.ref a), .unset, .unset, .unset] [(.int fl), (.int (1 : Int32)), (.ref a)])
  refine wp_bastore C X1 e1 B1 (j := 1) rfl (by decide) at_35 ?_
  intro T2 h2 X2 e2 W2 A2
  have N2 := Frs (a := a) (sl := (1 : Int32).toNatClampNeg) N1 ga
  have B2 : Af Z h2 a .byte 14 (fun j => if j < 2 then .int fl else f j) := A2.conv fun j hj => by
    by_cases q : j = 1
    · rw [if_pos q, if_pos (by omega), hfl]
    · rw [if_neg q]
      by_cases q2 : j < 1
      · rw [if_pos q2, if_pos (by omega)]
      · rw [if_neg q2, if_neg (by omega)]
  show WP p e below _ T2 (mkF m 36 #[.val (.long xx), .second, .val (.int p1), .val (.int p2), .val (.int p3), .val (.long v), .second, .val (.int zA), .val (.int fl), .val (.ref a), .unset, .unset, .unset] [])
  refine wp (fun _ => XS.aload X2.here hx rfl (hb hby at_36) rfl rfl) ?_
  show WP p e below _ T2 (mkF m 38 #[.val (.long xx), .second, .val (.int p1), .val (.int p2), .val (.int p3), .val (.long v), .second, .val (.int zA), .val (.int fl), .val (.ref a), .unset, .unset, .unset] [(.ref a)])
  refine wp (fun _ => XS.iconst X2.here hx rfl (hb hby at_38)) ?_
  show WP p e below _ T2 (mkF m 39 #[.val (.long xx), .second, .val (.int p1), .val (.int p2), .val (.int p3), .val (.long v), .second, .val (.int zA), .val (.int fl), .val (.ref a), .unset, .unset, .unset] [(.int (2 : Int32)), (.ref a)])
  refine wp (fun _ => XS.iload X2.here hx rfl (hb hby at_39) rfl) ?_
  show WP p e below _ T2 (mkF m 41 #[.val (.long xx), .second, .val (.int p1), .val (.int p2), .val (.int p3), .val (.long v), .second, .val (.int zA), .val (.int fl), .val (.ref a), .unset, .unset, .unset] [(.int fl), (.int (2 : Int32)), (.ref a)])
  refine wp_bastore C X2 e2 B2 (j := 2) rfl (by decide) at_41 ?_
  intro T3 h3 X3 e3 W3 A3
  have N3 := Frs (a := a) (sl := (2 : Int32).toNatClampNeg) N2 ga
  have B3 : Af Z h3 a .byte 14 (fun j => if j < 3 then .int fl else f j) := A3.conv fun j hj => by
    by_cases q : j = 2
    · rw [if_pos q, if_pos (by omega), hfl]
    · rw [if_neg q]
      by_cases q2 : j < 2
      · rw [if_pos q2, if_pos (by omega)]
      · rw [if_neg q2, if_neg (by omega)]
  show WP p e below _ T3 (mkF m 42 #[.val (.long xx), .second, .val (.int p1), .val (.int p2), .val (.int p3), .val (.long v), .second, .val (.int zA), .val (.int fl), .val (.ref a), .unset, .unset, .unset] [])
  refine wp (fun _ => XS.aload X3.here hx rfl (hb hby at_42) rfl rfl) ?_
  show WP p e below _ T3 (mkF m 44 #[.val (.long xx), .second, .val (.int p1), .val (.int p2), .val (.int p3), .val (.long v), .second, .val (.int zA), .val (.int fl), .val (.ref a), .unset, .unset, .unset] [(.ref a)])
  refine wp (fun _ => XS.iconst X3.here hx rfl (hb hby at_44)) ?_
  show WP p e below _ T3 (mkF m 45 #[.val (.long xx), .second, .val (.int p1), .val (.int p2), .val (.int p3), .val (.long v), .second, .val (.int zA), .val (.int fl), .val (.ref a), .unset, .unset, .unset] [(.int (3 : Int32)), (.ref a)])
  refine wp (fun _ => XS.iload X3.here hx rfl (hb hby at_45) rfl) ?_
  show WP p e below _ T3 (mkF m 47 #[.val (.long xx), .second, .val (.int p1), .val (.int p2), .val (.int p3), .val (.long v), .second, .val (.int zA), .val (.int fl), .val (.ref a), .unset, .unset, .unset] [(.int fl), (.int (3 : Int32)), (.ref a)])
  refine wp_bastore C X3 e3 B3 (j := 3) rfl (by decide) at_47 ?_
  intro T4 h4 X4 e4 W4 A4
  have N4 := Frs (a := a) (sl := (3 : Int32).toNatClampNeg) N3 ga
  have B4 : Af Z h4 a .byte 14 (fun j => if j < 4 then .int fl else f j) := A4.conv fun j hj => by
    by_cases q : j = 3
    · rw [if_pos q, if_pos (by omega), hfl]
    · rw [if_neg q]
      by_cases q2 : j < 3
      · rw [if_pos q2, if_pos (by omega)]
      · rw [if_neg q2, if_neg (by omega)]
  show WP p e below _ T4 (mkF m 48 #[.val (.long xx), .second, .val (.int p1), .val (.int p2), .val (.int p3), .val (.long v), .second, .val (.int zA), .val (.int fl), .val (.ref a), .unset, .unset, .unset] [])
  refine wp (fun _ => XS.aload X4.here hx rfl (hb hby at_48) rfl rfl) ?_
  show WP p e below _ T4 (mkF m 50 #[.val (.long xx), .second, .val (.int p1), .val (.int p2), .val (.int p3), .val (.long v), .second, .val (.int zA), .val (.int fl), .val (.ref a), .unset, .unset, .unset] [(.ref a)])
  refine wp (fun _ => XS.iconst X4.here hx rfl (hb hby at_50)) ?_
  show WP p e below _ T4 (mkF m 51 #[.val (.long xx), .second, .val (.int p1), .val (.int p2), .val (.int p3), .val (.long v), .second, .val (.int zA), .val (.int fl), .val (.ref a), .unset, .unset, .unset] [(.int (4 : Int32)), (.ref a)])
  refine wp (fun _ => XS.iload X4.here hx rfl (hb hby at_51) rfl) ?_
  show WP p e below _ T4 (mkF m 53 #[.val (.long xx), .second, .val (.int p1), .val (.int p2), .val (.int p3), .val (.long v), .second, .val (.int zA), .val (.int fl), .val (.ref a), .unset, .unset, .unset] [(.int fl), (.int (4 : Int32)), (.ref a)])
  refine wp_bastore C X4 e4 B4 (j := 4) rfl (by decide) at_53 ?_
  intro T5 h5 X5 e5 W5 A5
  have N5 := Frs (a := a) (sl := (4 : Int32).toNatClampNeg) N4 ga
  have B5 : Af Z h5 a .byte 14 (fun j => if j < 5 then .int fl else f j) := A5.conv fun j hj => by
    by_cases q : j = 4
    · rw [if_pos q, if_pos (by omega), hfl]
    · rw [if_neg q]
      by_cases q2 : j < 4
      · rw [if_pos q2, if_pos (by omega)]
      · rw [if_neg q2, if_neg (by omega)]
  show WP p e below _ T5 (mkF m 54 #[.val (.long xx), .second, .val (.int p1), .val (.int p2), .val (.int p3), .val (.long v), .second, .val (.int zA), .val (.int fl), .val (.ref a), .unset, .unset, .unset] [])
  refine wp (fun _ => XS.aload X5.here hx rfl (hb hby at_54) rfl rfl) ?_
  show WP p e below _ T5 (mkF m 56 #[.val (.long xx), .second, .val (.int p1), .val (.int p2), .val (.int p3), .val (.long v), .second, .val (.int zA), .val (.int fl), .val (.ref a), .unset, .unset, .unset] [(.ref a)])
  refine wp (fun _ => XS.iconst X5.here hx rfl (hb hby at_56)) ?_
  show WP p e below _ T5 (mkF m 57 #[.val (.long xx), .second, .val (.int p1), .val (.int p2), .val (.int p3), .val (.long v), .second, .val (.int zA), .val (.int fl), .val (.ref a), .unset, .unset, .unset] [(.int (5 : Int32)), (.ref a)])
  refine wp (fun _ => XS.iload X5.here hx rfl (hb hby at_57) rfl) ?_
  show WP p e below _ T5 (mkF m 59 #[.val (.long xx), .second, .val (.int p1), .val (.int p2), .val (.int p3), .val (.long v), .second, .val (.int zA), .val (.int fl), .val (.ref a), .unset, .unset, .unset] [(.int fl), (.int (5 : Int32)), (.ref a)])
  refine wp_bastore C X5 e5 B5 (j := 5) rfl (by decide) at_59 ?_
  intro T6 h6 X6 e6 W6 A6
  have N6 := Frs (a := a) (sl := (5 : Int32).toNatClampNeg) N5 ga
  have B6 : Af Z h6 a .byte 14 (fun j => if j < 6 then .int fl else f j) := A6.conv fun j hj => by
    by_cases q : j = 5
    · rw [if_pos q, if_pos (by omega), hfl]
    · rw [if_neg q]
      by_cases q2 : j < 5
      · rw [if_pos q2, if_pos (by omega)]
      · rw [if_neg q2, if_neg (by omega)]
  show WP p e below _ T6 (mkF m 60 #[.val (.long xx), .second, .val (.int p1), .val (.int p2), .val (.int p3), .val (.long v), .second, .val (.int zA), .val (.int fl), .val (.ref a), .unset, .unset, .unset] [])
  refine wp (fun _ => XS.aload X6.here hx rfl (hb hby at_60) rfl rfl) ?_
  show WP p e below _ T6 (mkF m 62 #[.val (.long xx), .second, .val (.int p1), .val (.int p2), .val (.int p3), .val (.long v), .second, .val (.int zA), .val (.int fl), .val (.ref a), .unset, .unset, .unset] [(.ref a)])
  refine wp (fun _ => XS.bipush X6.here hx rfl (hb hby at_62)) ?_
  show WP p e below _ T6 (mkF m 64 #[.val (.long xx), .second, .val (.int p1), .val (.int p2), .val (.int p3), .val (.long v), .second, .val (.int zA), .val (.int fl), .val (.ref a), .unset, .unset, .unset] [(.int (6 : Int32)), (.ref a)])
  refine wp (fun _ => XS.iload X6.here hx rfl (hb hby at_64) rfl) ?_
  show WP p e below _ T6 (mkF m 66 #[.val (.long xx), .second, .val (.int p1), .val (.int p2), .val (.int p3), .val (.long v), .second, .val (.int zA), .val (.int fl), .val (.ref a), .unset, .unset, .unset] [(.int fl), (.int (6 : Int32)), (.ref a)])
  refine wp_bastore C X6 e6 B6 (j := 6) rfl (by decide) at_66 ?_
  intro T7 h7 X7 e7 W7 A7
  have N7 := Frs (a := a) (sl := (6 : Int32).toNatClampNeg) N6 ga
  have B7 : Af Z h7 a .byte 14 (fun j => if j < 7 then .int fl else f j) := A7.conv fun j hj => by
    by_cases q : j = 6
    · rw [if_pos q, if_pos (by omega), hfl]
    · rw [if_neg q]
      by_cases q2 : j < 6
      · rw [if_pos q2, if_pos (by omega)]
      · rw [if_neg q2, if_neg (by omega)]
  show WP p e below _ T7 (mkF m 67 #[.val (.long xx), .second, .val (.int p1), .val (.int p2), .val (.int p3), .val (.long v), .second, .val (.int zA), .val (.int fl), .val (.ref a), .unset, .unset, .unset] [])
  refine wp (fun _ => XS.aload X7.here hx rfl (hb hby at_67) rfl rfl) ?_
  show WP p e below _ T7 (mkF m 69 #[.val (.long xx), .second, .val (.int p1), .val (.int p2), .val (.int p3), .val (.long v), .second, .val (.int zA), .val (.int fl), .val (.ref a), .unset, .unset, .unset] [(.ref a)])
  refine wp (fun _ => XS.bipush X7.here hx rfl (hb hby at_69)) ?_
  show WP p e below _ T7 (mkF m 71 #[.val (.long xx), .second, .val (.int p1), .val (.int p2), .val (.int p3), .val (.long v), .second, .val (.int zA), .val (.int fl), .val (.ref a), .unset, .unset, .unset] [(.int (7 : Int32)), (.ref a)])
  refine wp (fun _ => XS.iload X7.here hx rfl (hb hby at_71) rfl) ?_
  show WP p e below _ T7 (mkF m 73 #[.val (.long xx), .second, .val (.int p1), .val (.int p2), .val (.int p3), .val (.long v), .second, .val (.int zA), .val (.int fl), .val (.ref a), .unset, .unset, .unset] [(.int fl), (.int (7 : Int32)), (.ref a)])
  refine wp_bastore C X7 e7 B7 (j := 7) rfl (by decide) at_73 ?_
  intro T8 h8 X8 e8 W8 A8
  have N8 := Frs (a := a) (sl := (7 : Int32).toNatClampNeg) N7 ga
  have B8 : Af Z h8 a .byte 14 (fun j => if j < 8 then .int fl else f j) := A8.conv fun j hj => by
    by_cases q : j = 7
    · rw [if_pos q, if_pos (by omega), hfl]
    · rw [if_neg q]
      by_cases q2 : j < 7
      · rw [if_pos q2, if_pos (by omega)]
      · rw [if_neg q2, if_neg (by omega)]
  show WP p e below _ T8 (mkF m 74 #[.val (.long xx), .second, .val (.int p1), .val (.int p2), .val (.int p3), .val (.long v), .second, .val (.int zA), .val (.int fl), .val (.ref a), .unset, .unset, .unset] [])
  refine wp (fun _ => XS.aload X8.here hx rfl (hb hby at_74) rfl rfl) ?_
  show WP p e below _ T8 (mkF m 76 #[.val (.long xx), .second, .val (.int p1), .val (.int p2), .val (.int p3), .val (.long v), .second, .val (.int zA), .val (.int fl), .val (.ref a), .unset, .unset, .unset] [(.ref a)])
  refine wp (fun _ => XS.bipush X8.here hx rfl (hb hby at_76)) ?_
  show WP p e below _ T8 (mkF m 78 #[.val (.long xx), .second, .val (.int p1), .val (.int p2), .val (.int p3), .val (.long v), .second, .val (.int zA), .val (.int fl), .val (.ref a), .unset, .unset, .unset] [(.int (8 : Int32)), (.ref a)])
  refine wp (fun _ => XS.iload X8.here hx rfl (hb hby at_78) rfl) ?_
  show WP p e below _ T8 (mkF m 80 #[.val (.long xx), .second, .val (.int p1), .val (.int p2), .val (.int p3), .val (.long v), .second, .val (.int zA), .val (.int fl), .val (.ref a), .unset, .unset, .unset] [(.int fl), (.int (8 : Int32)), (.ref a)])
  refine wp_bastore C X8 e8 B8 (j := 8) rfl (by decide) at_80 ?_
  intro T9 h9 X9 e9 W9 A9
  have N9 := Frs (a := a) (sl := (8 : Int32).toNatClampNeg) N8 ga
  have B9 : Af Z h9 a .byte 14 (fun j => if j < 9 then .int fl else f j) := A9.conv fun j hj => by
    by_cases q : j = 8
    · rw [if_pos q, if_pos (by omega), hfl]
    · rw [if_neg q]
      by_cases q2 : j < 8
      · rw [if_pos q2, if_pos (by omega)]
      · rw [if_neg q2, if_neg (by omega)]
  show WP p e below _ T9 (mkF m 81 #[.val (.long xx), .second, .val (.int p1), .val (.int p2), .val (.int p3), .val (.long v), .second, .val (.int zA), .val (.int fl), .val (.ref a), .unset, .unset, .unset] [])
  refine wp (fun _ => XS.aload X9.here hx rfl (hb hby at_81) rfl rfl) ?_
  show WP p e below _ T9 (mkF m 83 #[.val (.long xx), .second, .val (.int p1), .val (.int p2), .val (.int p3), .val (.long v), .second, .val (.int zA), .val (.int fl), .val (.ref a), .unset, .unset, .unset] [(.ref a)])
  refine wp (fun _ => XS.bipush X9.here hx rfl (hb hby at_83)) ?_
  show WP p e below _ T9 (mkF m 85 #[.val (.long xx), .second, .val (.int p1), .val (.int p2), .val (.int p3), .val (.long v), .second, .val (.int zA), .val (.int fl), .val (.ref a), .unset, .unset, .unset] [(.int (9 : Int32)), (.ref a)])
  refine wp (fun _ => XS.iload X9.here hx rfl (hb hby at_85) rfl) ?_
  show WP p e below _ T9 (mkF m 87 #[.val (.long xx), .second, .val (.int p1), .val (.int p2), .val (.int p3), .val (.long v), .second, .val (.int zA), .val (.int fl), .val (.ref a), .unset, .unset, .unset] [(.int fl), (.int (9 : Int32)), (.ref a)])
  refine wp_bastore C X9 e9 B9 (j := 9) rfl (by decide) at_87 ?_
  intro T10 h10 X10 e10 W10 A10
  have N10 := Frs (a := a) (sl := (9 : Int32).toNatClampNeg) N9 ga
  have B10 : Af Z h10 a .byte 14 (fun j => if j < 10 then .int fl else f j) := A10.conv fun j hj => by
    by_cases q : j = 9
    · rw [if_pos q, if_pos (by omega), hfl]
    · rw [if_neg q]
      by_cases q2 : j < 9
      · rw [if_pos q2, if_pos (by omega)]
      · rw [if_neg q2, if_neg (by omega)]
  show WP p e below _ T10 (mkF m 88 #[.val (.long xx), .second, .val (.int p1), .val (.int p2), .val (.int p3), .val (.long v), .second, .val (.int zA), .val (.int fl), .val (.ref a), .unset, .unset, .unset] [])
  refine wp (fun _ => XS.aload X10.here hx rfl (hb hby at_88) rfl rfl) ?_
  show WP p e below _ T10 (mkF m 90 #[.val (.long xx), .second, .val (.int p1), .val (.int p2), .val (.int p3), .val (.long v), .second, .val (.int zA), .val (.int fl), .val (.ref a), .unset, .unset, .unset] [(.ref a)])
  refine wp (fun _ => XS.bipush X10.here hx rfl (hb hby at_90)) ?_
  show WP p e below _ T10 (mkF m 92 #[.val (.long xx), .second, .val (.int p1), .val (.int p2), .val (.int p3), .val (.long v), .second, .val (.int zA), .val (.int fl), .val (.ref a), .unset, .unset, .unset] [(.int (10 : Int32)), (.ref a)])
  refine wp (fun _ => XS.iload X10.here hx rfl (hb hby at_92) rfl) ?_
  show WP p e below _ T10 (mkF m 94 #[.val (.long xx), .second, .val (.int p1), .val (.int p2), .val (.int p3), .val (.long v), .second, .val (.int zA), .val (.int fl), .val (.ref a), .unset, .unset, .unset] [(.int fl), (.int (10 : Int32)), (.ref a)])
  refine wp_bastore C X10 e10 B10 (j := 10) rfl (by decide) at_94 ?_
  intro T11 h11 X11 e11 W11 A11
  have N11 := Frs (a := a) (sl := (10 : Int32).toNatClampNeg) N10 ga
  have B11 : Af Z h11 a .byte 14 (fun j => if j < 11 then .int fl else f j) := A11.conv fun j hj => by
    by_cases q : j = 10
    · rw [if_pos q, if_pos (by omega), hfl]
    · rw [if_neg q]
      by_cases q2 : j < 10
      · rw [if_pos q2, if_pos (by omega)]
      · rw [if_neg q2, if_neg (by omega)]
  show WP p e below _ T11 (mkF m 95 #[.val (.long xx), .second, .val (.int p1), .val (.int p2), .val (.int p3), .val (.long v), .second, .val (.int zA), .val (.int fl), .val (.ref a), .unset, .unset, .unset] [])
  refine wp (fun _ => XS.aload X11.here hx rfl (hb hby at_95) rfl rfl) ?_
  show WP p e below _ T11 (mkF m 97 #[.val (.long xx), .second, .val (.int p1), .val (.int p2), .val (.int p3), .val (.long v), .second, .val (.int zA), .val (.int fl), .val (.ref a), .unset, .unset, .unset] [(.ref a)])
  refine wp (fun _ => XS.bipush X11.here hx rfl (hb hby at_97)) ?_
  show WP p e below _ T11 (mkF m 99 #[.val (.long xx), .second, .val (.int p1), .val (.int p2), .val (.int p3), .val (.long v), .second, .val (.int zA), .val (.int fl), .val (.ref a), .unset, .unset, .unset] [(.int (11 : Int32)), (.ref a)])
  refine wp (fun _ => XS.iload X11.here hx rfl (hb hby at_99) rfl) ?_
  show WP p e below _ T11 (mkF m 101 #[.val (.long xx), .second, .val (.int p1), .val (.int p2), .val (.int p3), .val (.long v), .second, .val (.int zA), .val (.int fl), .val (.ref a), .unset, .unset, .unset] [(.int fl), (.int (11 : Int32)), (.ref a)])
  refine wp_bastore C X11 e11 B11 (j := 11) rfl (by decide) at_101 ?_
  intro T12 h12 X12 e12 W12 A12
  have N12 := Frs (a := a) (sl := (11 : Int32).toNatClampNeg) N11 ga
  have B12 : Af Z h12 a .byte 14 (fun j => if j < 12 then .int fl else f j) := A12.conv fun j hj => by
    by_cases q : j = 11
    · rw [if_pos q, if_pos (by omega), hfl]
    · rw [if_neg q]
      by_cases q2 : j < 11
      · rw [if_pos q2, if_pos (by omega)]
      · rw [if_neg q2, if_neg (by omega)]
  show WP p e below _ T12 (mkF m 102 #[.val (.long xx), .second, .val (.int p1), .val (.int p2), .val (.int p3), .val (.long v), .second, .val (.int zA), .val (.int fl), .val (.ref a), .unset, .unset, .unset] [])
  refine wp (fun _ => XS.aload X12.here hx rfl (hb hby at_102) rfl rfl) ?_
  show WP p e below _ T12 (mkF m 104 #[.val (.long xx), .second, .val (.int p1), .val (.int p2), .val (.int p3), .val (.long v), .second, .val (.int zA), .val (.int fl), .val (.ref a), .unset, .unset, .unset] [(.ref a)])
  refine wp (fun _ => XS.bipush X12.here hx rfl (hb hby at_104)) ?_
  show WP p e below _ T12 (mkF m 106 #[.val (.long xx), .second, .val (.int p1), .val (.int p2), .val (.int p3), .val (.long v), .second, .val (.int zA), .val (.int fl), .val (.ref a), .unset, .unset, .unset] [(.int (12 : Int32)), (.ref a)])
  refine wp (fun _ => XS.iload X12.here hx rfl (hb hby at_106) rfl) ?_
  show WP p e below _ T12 (mkF m 108 #[.val (.long xx), .second, .val (.int p1), .val (.int p2), .val (.int p3), .val (.long v), .second, .val (.int zA), .val (.int fl), .val (.ref a), .unset, .unset, .unset] [(.int fl), (.int (12 : Int32)), (.ref a)])
  refine wp_bastore C X12 e12 B12 (j := 12) rfl (by decide) at_108 ?_
  intro T13 h13 X13 e13 W13 A13
  have N13 := Frs (a := a) (sl := (12 : Int32).toNatClampNeg) N12 ga
  have B13 : Af Z h13 a .byte 14 (fun j => if j < 13 then .int fl else f j) := A13.conv fun j hj => by
    by_cases q : j = 12
    · rw [if_pos q, if_pos (by omega), hfl]
    · rw [if_neg q]
      by_cases q2 : j < 12
      · rw [if_pos q2, if_pos (by omega)]
      · rw [if_neg q2, if_neg (by omega)]
  show WP p e below _ T13 (mkF m 109 #[.val (.long xx), .second, .val (.int p1), .val (.int p2), .val (.int p3), .val (.long v), .second, .val (.int zA), .val (.int fl), .val (.ref a), .unset, .unset, .unset] [])
  refine wp (fun _ => XS.aload X13.here hx rfl (hb hby at_109) rfl rfl) ?_
  show WP p e below _ T13 (mkF m 111 #[.val (.long xx), .second, .val (.int p1), .val (.int p2), .val (.int p3), .val (.long v), .second, .val (.int zA), .val (.int fl), .val (.ref a), .unset, .unset, .unset] [(.ref a)])
  refine wp (fun _ => XS.bipush X13.here hx rfl (hb hby at_111)) ?_
  show WP p e below _ T13 (mkF m 113 #[.val (.long xx), .second, .val (.int p1), .val (.int p2), .val (.int p3), .val (.long v), .second, .val (.int zA), .val (.int fl), .val (.ref a), .unset, .unset, .unset] [(.int (13 : Int32)), (.ref a)])
  refine wp (fun _ => XS.iload X13.here hx rfl (hb hby at_113) rfl) ?_
  show WP p e below _ T13 (mkF m 115 #[.val (.long xx), .second, .val (.int p1), .val (.int p2), .val (.int p3), .val (.long v), .second, .val (.int zA), .val (.int fl), .val (.ref a), .unset, .unset, .unset] [(.int fl), (.int (13 : Int32)), (.ref a)])
  refine wp_bastore C X13 e13 B13 (j := 13) rfl (by decide) at_115 ?_
  intro T14 h14 X14 e14 W14 A14
  have N14 := Frs (a := a) (sl := (13 : Int32).toNatClampNeg) N13 ga
  have B14 : Af Z h14 a .byte 14 (fun j => if j < 14 then .int fl else f j) := A14.conv fun j hj => by
    by_cases q : j = 13
    · rw [if_pos q, if_pos (by omega), hfl]
    · rw [if_neg q]
      by_cases q2 : j < 13
      · rw [if_pos q2, if_pos (by omega)]
      · rw [if_neg q2, if_neg (by omega)]
  show WP p e below _ T14 (mkF m 116 #[.val (.long xx), .second, .val (.int p1), .val (.int p2), .val (.int p3), .val (.long v), .second, .val (.int zA), .val (.int fl), .val (.ref a), .unset, .unset, .unset] [])
  exact k T14 h14 _ X14 e14 (by rw [W14.size, W13.size, W12.size, W11.size, W10.size, W9.size, W8.size, W7.size, W6.size, W5.size, W4.size, W3.size, W2.size, W1.size]) N14 (B14.conv fun j hj => by rw [if_pos hj])
end Own2
theorem own_at (q : Int32) : ∃ A0 : Nat, A0 ≤ 3 ∧ (q &&& (3 : Int32)).toInt = (A0 : Int) := by
  have h1 := c_and q 3 (by decide)
  have h3 : (3 : Int32).toInt = 3 := rfl
  exact ⟨(q &&& (3 : Int32)).toInt.toNat, by omega, by omega⟩

set_option maxRecDepth 65536 in
set_option maxHeartbeats 4000000 in
theorem rm_law (l : Launch) (Z : State) (a0 : Array Value) (hw : ∀ d ∈ tables_1, d.before a0 Z = true) (ws : List Jvm.Cond) (xx : Int64) (p1 p2 p3 : Int32) (h0 : Heap) (n0 : Nat) (Z0 : n0 ≤ h0.size) :
    MetQ l Z x code maxLocals ret ws room_1 #[(.long xx), (.int p1), (.int p2), (.int p3)] h0 (fun v _ L => v = some (.int (1 : Int32)) ∧ Fr n0 L) := by
  refine metQ (a0 := a0) (plainFor_of_name pn_law) hw (ef_law xx p1 p2 p3) ?_
  intro p e s m below meth c T0 C X0 e0
  obtain ⟨hx, hZ, hw, hby, hml, hown, hnm, hret, hlk⟩ := id C
  show WP p e below _ T0 (mkF m 0 #[.val (.long xx), .second, .val (.int p1), .val (.int p2), .val (.int p3), .unset, .unset, .unset, .unset, .unset, .unset, .unset, .unset] [])
  refine wp (fun _ => XS.lloadN X0.here hx rfl (hb hby at_0) rfl) ?_
  show WP p e below _ T0 (mkF m 1 #[.val (.long xx), .second, .val (.int p1), .val (.int p2), .val (.int p3), .unset, .unset, .unset, .unset, .unset, .unset, .unset, .unset] [(.long xx)])
  refine wp (fun _ => XS.iloadN X0.here hx rfl (hb hby at_1) rfl) ?_
  show WP p e below _ T0 (mkF m 2 #[.val (.long xx), .second, .val (.int p1), .val (.int p2), .val (.int p3), .unset, .unset, .unset, .unset, .unset, .unset, .unset, .unset] [(.int p1), (.long xx)])
  refine wp (fun _ => XS.bipush X0.here hx rfl (hb hby at_2)) ?_
  show WP p e below _ T0 (mkF m 4 #[.val (.long xx), .second, .val (.int p1), .val (.int p2), .val (.int p3), .unset, .unset, .unset, .unset, .unset, .unset, .unset, .unset] [(.int (63 : Int32)), (.int p1), (.long xx)])
  refine wp (fun _ => XS.iand X0.here hx rfl (hb hby at_4) rfl) ?_
  show WP p e below _ T0 (mkF m 5 #[.val (.long xx), .second, .val (.int p1), .val (.int p2), .val (.int p3), .unset, .unset, .unset, .unset, .unset, .unset, .unset, .unset] [(.int (p1 &&& (63 : Int32))), (.long xx)])
  refine wp (fun _ => XS.lushr X0.here hx rfl (hb hby at_5) rfl) ?_
  show WP p e below _ T0 (mkF m 6 #[.val (.long xx), .second, .val (.int p1), .val (.int p2), .val (.int p3), .unset, .unset, .unset, .unset, .unset, .unset, .unset, .unset] [(.long ((xx.toUInt64 >>> ((p1 &&& (63 : Int32)) &&& 0x3f).toInt64.toUInt64).toInt64))])
  generalize ((xx.toUInt64 >>> ((p1 &&& (63 : Int32)) &&& 0x3f).toInt64.toUInt64).toInt64) = v
  show WP p e below _ T0 (mkF m 6 #[.val (.long xx), .second, .val (.int p1), .val (.int p2), .val (.int p3), .unset, .unset, .unset, .unset, .unset, .unset, .unset, .unset] [(.long v)])
  refine wp (fun _ => XS.lstore X0.here hx rfl (hb hby at_6) rfl (l' := #[.val (.long xx), .second, .val (.int p1), .val (.int p2), .val (.int p3), .val (.long v), .second, .unset, .unset, .unset, .unset, .unset, .unset]) rfl) ?_
  show WP p e below _ T0 (mkF m 8 #[.val (.long xx), .second, .val (.int p1), .val (.int p2), .val (.int p3), .val (.long v), .second, .unset, .unset, .unset, .unset, .unset, .unset] [])
  refine wp (fun _ => XS.iloadN X0.here hx rfl (hb hby at_8) rfl) ?_
  show WP p e below _ T0 (mkF m 9 #[.val (.long xx), .second, .val (.int p1), .val (.int p2), .val (.int p3), .val (.long v), .second, .unset, .unset, .unset, .unset, .unset, .unset] [(.int p2)])
  refine wp (fun _ => XS.iconst X0.here hx rfl (hb hby at_9)) ?_
  show WP p e below _ T0 (mkF m 10 #[.val (.long xx), .second, .val (.int p1), .val (.int p2), .val (.int p3), .val (.long v), .second, .unset, .unset, .unset, .unset, .unset, .unset] [(.int (3 : Int32)), (.int p2)])
  refine wp (fun _ => XS.iand X0.here hx rfl (hb hby at_10) rfl) ?_
  show WP p e below _ T0 (mkF m 11 #[.val (.long xx), .second, .val (.int p1), .val (.int p2), .val (.int p3), .val (.long v), .second, .unset, .unset, .unset, .unset, .unset, .unset] [(.int (p2 &&& (3 : Int32)))])
  obtain ⟨A0, hA3, hA⟩ := own_at p2
  generalize (p2 &&& (3 : Int32)) = zA at hA ⊢
  show WP p e below _ T0 (mkF m 11 #[.val (.long xx), .second, .val (.int p1), .val (.int p2), .val (.int p3), .val (.long v), .second, .unset, .unset, .unset, .unset, .unset, .unset] [(.int zA)])
  refine wp (fun _ => XS.istore X0.here hx rfl (hb hby at_11) rfl (l' := #[.val (.long xx), .second, .val (.int p1), .val (.int p2), .val (.int p3), .val (.long v), .second, .val (.int zA), .unset, .unset, .unset, .unset, .unset]) rfl) ?_
  show WP p e below _ T0 (mkF m 13 #[.val (.long xx), .second, .val (.int p1), .val (.int p2), .val (.int p3), .val (.long v), .second, .val (.int zA), .unset, .unset, .unset, .unset, .unset] [])
  refine wp (fun _ => XS.iload X0.here hx rfl (hb hby at_13) rfl) ?_
  show WP p e below _ T0 (mkF m 15 #[.val (.long xx), .second, .val (.int p1), .val (.int p2), .val (.int p3), .val (.long v), .second, .val (.int zA), .unset, .unset, .unset, .unset, .unset] [(.int p3)])
  refine wp (fun _ => XS.i2b X0.here hx rfl (hb hby at_15) rfl) ?_
  show WP p e below _ T0 (mkF m 16 #[.val (.long xx), .second, .val (.int p1), .val (.int p2), .val (.int p3), .val (.long v), .second, .val (.int zA), .unset, .unset, .unset, .unset, .unset] [(.int p3.toInt8.toInt32)])
  have hfl : nar .byte p3.toInt8.toInt32 = p3.toInt8.toInt32 := own_i8 p3
  generalize p3.toInt8.toInt32 = fl at hfl ⊢
  show WP p e below _ T0 (mkF m 16 #[.val (.long xx), .second, .val (.int p1), .val (.int p2), .val (.int p3), .val (.long v), .second, .val (.int zA), .unset, .unset, .unset, .unset, .unset] [(.int fl)])
  refine wp (fun _ => XS.istore X0.here hx rfl (hb hby at_16) rfl (l' := #[.val (.long xx), .second, .val (.int p1), .val (.int p2), .val (.int p3), .val (.long v), .second, .val (.int zA), .val (.int fl), .unset, .unset, .unset, .unset]) rfl) ?_
  show WP p e below _ T0 (mkF m 18 #[.val (.long xx), .second, .val (.int p1), .val (.int p2), .val (.int p3), .val (.long v), .second, .val (.int zA), .val (.int fl), .unset, .unset, .unset, .unset] [])
  refine wp (fun _ => XS.bipush X0.here hx rfl (hb hby at_18)) ?_
  show WP p e below _ T0 (mkF m 20 #[.val (.long xx), .second, .val (.int p1), .val (.int p2), .val (.int p3), .val (.long v), .second, .val (.int zA), .val (.int fl), .unset, .unset, .unset, .unset] [(.int (14 : Int32))])
  refine wp_newarray C X0 e0 (hw _ (List.mem_of_getElem? (i := 0) rfl)) at_20 (n := 14) rfl (cap := 14) (by decide) (by decide) (by decide) (by decide) ?_
  intro T1 h1 X1 e1 E1 A1
  obtain ⟨a, ga⟩ : ∃ z, z = h0.size := ⟨_, rfl⟩
  rw [← ga] at A1 ⊢
  have ga' : n0 ≤ a := by rw [ga]; exact Z0
  show WP p e below _ T1 (mkF m 22 #[.val (.long xx), .second, .val (.int p1), .val (.int p2), .val (.int p3), .val (.long v), .second, .val (.int zA), .val (.int fl), .unset, .unset, .unset, .unset] [(.ref a)])
  refine wp (fun _ => XS.astore X1.here hx rfl (hb hby at_22) rfl rfl (l' := #[.val (.long xx), .second, .val (.int p1), .val (.int p2), .val (.int p3), .val (.long v), .second, .val (.int zA), .val (.int fl), .val (.ref a), .unset, .unset, .unset]) rfl) ?_
  show WP p e below _ T1 (mkF m 24 #[.val (.long xx), .second, .val (.int p1), .val (.int p2), .val (.int p3), .val (.long v), .second, .val (.int zA), .val (.int fl), .val (.ref a), .unset, .unset, .unset] [])
  refine segF xx p1 p2 p3 v zA fl a n0 ga' hfl _ A1 (Fr.nil n0) C X1 e1 ?_
  intro T2 h2 L2 X2 e2 S2 N2 A2
  show WP p e below _ T2 (mkF m 116 #[.val (.long xx), .second, .val (.int p1), .val (.int p2), .val (.int p3), .val (.long v), .second, .val (.int zA), .val (.int fl), .val (.ref a), .unset, .unset, .unset] [])
  refine wp (fun _ => XS.iconst X2.here hx rfl (hb hby at_116)) ?_
  show WP p e below _ T2 (mkF m 117 #[.val (.long xx), .second, .val (.int p1), .val (.int p2), .val (.int p3), .val (.long v), .second, .val (.int zA), .val (.int fl), .val (.ref a), .unset, .unset, .unset] [(.int (1 : Int32))])
  refine wp (fun _ => XS.istore X2.here hx rfl (hb hby at_117) rfl (l' := #[.val (.long xx), .second, .val (.int p1), .val (.int p2), .val (.int p3), .val (.long v), .second, .val (.int zA), .val (.int fl), .val (.ref a), .val (.int (1 : Int32)), .unset, .unset]) rfl) ?_
  show WP p e below _ T2 (mkF m 119 #[.val (.long xx), .second, .val (.int p1), .val (.int p2), .val (.int p3), .val (.long v), .second, .val (.int zA), .val (.int fl), .val (.ref a), .val (.int (1 : Int32)), .unset, .unset] [])
  show WP p e below _ T2 (mkF m 119 #[.val (.long xx), .second, .val (.int p1), .val (.int p2), .val (.int p3), .val (.long v), .second, .val (.int zA), .val (.int fl), .val (.ref a), .val (.int (Int32.ofNat (own_N v.toBitVec.toNat 0))), .unset, .unset] [])
  refine segN1 xx p1 p2 p3 v zA fl a C X2 ?_
  refine segN2 xx p1 p2 p3 v zA fl a C X2 ?_
  refine segN3 xx p1 p2 p3 v zA fl a C X2 ?_
  refine segN4 xx p1 p2 p3 v zA fl a C X2 ?_
  refine segN5 xx p1 p2 p3 v zA fl a C X2 ?_
  refine segN6 xx p1 p2 p3 v zA fl a C X2 ?_
  refine segN7 xx p1 p2 p3 v zA fl a C X2 ?_
  refine segN8 xx p1 p2 p3 v zA fl a C X2 ?_
  refine segN9 xx p1 p2 p3 v zA fl a C X2 ?_
  show WP p e below _ T2 (mkF m 241 #[.val (.long xx), .second, .val (.int p1), .val (.int p2), .val (.int p3), .val (.long v), .second, .val (.int zA), .val (.int fl), .val (.ref a), .val (.int (Int32.ofNat (own_N v.toBitVec.toNat 9))), .unset, .unset] [])
  obtain ⟨hn1, hn10, hhigh⟩ := own_N_spec v.toBitVec.toNat v.toBitVec.isLt
  have hlow := own_N_small v.toBitVec.toNat
  have hN : (Int32.ofNat (own_N v.toBitVec.toNat 9)).toInt = ((own_N v.toBitVec.toNat 9 : Nat) : Int) := Int32.toInt_ofNat_of_lt (by omega)
  generalize own_N v.toBitVec.toNat 9 = n at hn1 hn10 hhigh hlow hN ⊢
  generalize Int32.ofNat n = zn at hN ⊢
  show WP p e below _ T2 (mkF m 241 #[.val (.long xx), .second, .val (.int p1), .val (.int p2), .val (.int p3), .val (.long v), .second, .val (.int zA), .val (.int fl), .val (.ref a), .val (.int zn), .unset, .unset] [])
  refine wp (fun _ => XS.lload X2.here hx rfl (hb hby at_241) rfl) ?_
  show WP p e below _ T2 (mkF m 243 #[.val (.long xx), .second, .val (.int p1), .val (.int p2), .val (.int p3), .val (.long v), .second, .val (.int zA), .val (.int fl), .val (.ref a), .val (.int zn), .unset, .unset] [(.long v)])
  refine wp (fun _ => XS.aload X2.here hx rfl (hb hby at_243) rfl rfl) ?_
  show WP p e below _ T2 (mkF m 245 #[.val (.long xx), .second, .val (.int p1), .val (.int p2), .val (.int p3), .val (.long v), .second, .val (.int zA), .val (.int fl), .val (.ref a), .val (.int zn), .unset, .unset] [(.ref a), (.long v)])
  refine wp (fun _ => XS.iload X2.here hx rfl (hb hby at_245) rfl) ?_
  show WP p e below _ T2 (mkF m 247 #[.val (.long xx), .second, .val (.int p1), .val (.int p2), .val (.int p3), .val (.long v), .second, .val (.int zA), .val (.int fl), .val (.ref a), .val (.int zn), .unset, .unset] [(.int zA), (.ref a), (.long v)])
  refine wp_static C X2 e2 (argsL := [(.long v), (.ref a), (.int zA)]) (rest := []) (rm_wr l Z a0 hw [] v a zA A0 n n0 _ h2 hA hn1 (by omega) hlow hhigh ga' A2) (hw _ (List.mem_of_getElem? (i := 1) rfl)) (hw _ (List.mem_of_getElem? (i := 2) rfl)) (hw _ (List.mem_of_getElem? (i := 3) rfl)) (hw _ (List.mem_of_getElem? (i := 4) rfl)) (by decide) rfl (lenOf pd_wr rfl) at_247 rfl (by decide) (Nat.le_of_ble_eq_true rfl) (by decide) (by decide) ?_
  rintro T3 _ L3 X3 ⟨zE, rfl, hE, N3, K3, A3⟩
  have A4 : Af Z T3.heap a .byte 14 (fun j => .int (own_x v n A0 j fl)) := A3.conv fun j hj => by
    by_cases q : A0 ≤ j ∧ j < A0 + n
    · rw [if_pos q, own_x, if_pos q]
    · rw [if_neg q, own_x, if_neg q, hfl]
  have N4 := Fr.app N2 N3
  show WP p e below _ T3 (mkF m 250 #[.val (.long xx), .second, .val (.int p1), .val (.int p2), .val (.int p3), .val (.long v), .second, .val (.int zA), .val (.int fl), .val (.ref a), .val (.int zn), .unset, .unset] [(.int zE)])
  refine wp (fun _ => XS.istore X3.here hx rfl (hb hby at_250) rfl (l' := #[.val (.long xx), .second, .val (.int p1), .val (.int p2), .val (.int p3), .val (.long v), .second, .val (.int zA), .val (.int fl), .val (.ref a), .val (.int zn), .val (.int zE), .unset]) rfl) ?_
  show WP p e below _ T3 (mkF m 252 #[.val (.long xx), .second, .val (.int p1), .val (.int p2), .val (.int p3), .val (.long v), .second, .val (.int zA), .val (.int fl), .val (.ref a), .val (.int zn), .val (.int zE), .unset] [])
  refine wp (fun _ => XS.iload X3.here hx rfl (hb hby at_252) rfl) ?_
  show WP p e below _ T3 (mkF m 254 #[.val (.long xx), .second, .val (.int p1), .val (.int p2), .val (.int p3), .val (.long v), .second, .val (.int zA), .val (.int fl), .val (.ref a), .val (.int zn), .val (.int zE), .unset] [(.int zE)])
  refine wp (fun _ => XS.iload X3.here hx rfl (hb hby at_254) rfl) ?_
  show WP p e below _ T3 (mkF m 256 #[.val (.long xx), .second, .val (.int p1), .val (.int p2), .val (.int p3), .val (.long v), .second, .val (.int zA), .val (.int fl), .val (.ref a), .val (.int zn), .val (.int zE), .unset] [(.int zA), (.int zE)])
  refine wp (fun _ => XS.iload X3.here hx rfl (hb hby at_256) rfl) ?_
  show WP p e below _ T3 (mkF m 258 #[.val (.long xx), .second, .val (.int p1), .val (.int p2), .val (.int p3), .val (.long v), .second, .val (.int zA), .val (.int fl), .val (.ref a), .val (.int zn), .val (.int zE), .unset] [(.int zn), (.int zA), (.int zE)])
  refine wp (fun _ => XS.iadd X3.here hx rfl (hb hby at_258) rfl) ?_
  show WP p e below _ T3 (mkF m 259 #[.val (.long xx), .second, .val (.int p1), .val (.int p2), .val (.int p3), .val (.long v), .second, .val (.int zA), .val (.int fl), .val (.ref a), .val (.int zn), .val (.int zE), .unset] [(.int (zA + zn)), (.int zE)])
  have hEq : zE = zA + zn := by rw [← Int32.toInt_inj, hE, own_addk hA hN (by omega) (by omega)]
  refine wp (fun _ => XS.icmpNo X3.here hx rfl (hb hby at_259) rfl (XT.ii_ne_f hEq)) ?_
  show WP p e below _ T3 (mkF m 262 #[.val (.long xx), .second, .val (.int p1), .val (.int p2), .val (.int p3), .val (.long v), .second, .val (.int zA), .val (.int fl), .val (.ref a), .val (.int zn), .val (.int zE), .unset] [])
  refine wp (fun _ => XS.iconst X3.here hx rfl (hb hby at_262)) ?_
  show WP p e below _ T3 (mkF m 263 #[.val (.long xx), .second, .val (.int p1), .val (.int p2), .val (.int p3), .val (.long v), .second, .val (.int zA), .val (.int fl), .val (.ref a), .val (.int zn), .val (.int zE), .unset] [(.int (1 : Int32))])
  refine wp (fun _ => XS.goto X3.here hx rfl (pc0 := 263) (pc' := 267) rfl (hb hby at_263) (by decide) (by decide)) ?_
  show WP p e below _ T3 (mkF m 267 #[.val (.long xx), .second, .val (.int p1), .val (.int p2), .val (.int p3), .val (.long v), .second, .val (.int zA), .val (.int fl), .val (.ref a), .val (.int zn), .val (.int zE), .unset] [(.int (1 : Int32))])
  refine wp (fun _ => XS.istore X3.here hx rfl (hb hby at_267) rfl (l' := #[.val (.long xx), .second, .val (.int p1), .val (.int p2), .val (.int p3), .val (.long v), .second, .val (.int zA), .val (.int fl), .val (.ref a), .val (.int zn), .val (.int zE), .val (.int (1 : Int32))]) rfl) ?_
  show WP p e below _ T3 (mkF m 269 #[.val (.long xx), .second, .val (.int p1), .val (.int p2), .val (.int p3), .val (.long v), .second, .val (.int zA), .val (.int fl), .val (.ref a), .val (.int zn), .val (.int zE), .val (.int (1 : Int32))] [])
  show WP p e below _ T3 (mkF m 269 #[.val (.long xx), .second, .val (.int p1), .val (.int p2), .val (.int p3), .val (.long v), .second, .val (.int zA), .val (.int fl), .val (.ref a), .val (.int zn), .val (.int zE), .val (.int (1 : Int32))] [])
  refine segC0 xx p1 p2 p3 v zA fl a zn zE A0 n hA hN (by omega) (by omega) hn1 A4 C X3 rfl ?_
  intro T4 X4 e4
  refine segC1 xx p1 p2 p3 v zA fl a zn zE A0 n hA hN (by omega) (by omega) hn1 A4 C X4 e4 ?_
  intro T5 X5 e5
  refine segC2 xx p1 p2 p3 v zA fl a zn zE A0 n hA hN (by omega) (by omega) hn1 A4 C X5 e5 ?_
  intro T6 X6 e6
  refine segC3 xx p1 p2 p3 v zA fl a zn zE A0 n hA hN (by omega) (by omega) hn1 A4 C X6 e6 ?_
  intro T7 X7 e7
  refine segC4 xx p1 p2 p3 v zA fl a zn zE A0 n hA hN (by omega) (by omega) hn1 A4 C X7 e7 ?_
  intro T8 X8 e8
  refine segC5 xx p1 p2 p3 v zA fl a zn zE A0 n hA hN (by omega) (by omega) hn1 A4 C X8 e8 ?_
  intro T9 X9 e9
  refine segC6 xx p1 p2 p3 v zA fl a zn zE A0 n hA hN (by omega) (by omega) hn1 A4 C X9 e9 ?_
  intro T10 X10 e10
  refine segC7 xx p1 p2 p3 v zA fl a zn zE A0 n hA hN (by omega) (by omega) hn1 A4 C X10 e10 ?_
  intro T11 X11 e11
  refine segC8 xx p1 p2 p3 v zA fl a zn zE A0 n hA hN (by omega) (by omega) hn1 A4 C X11 e11 ?_
  intro T12 X12 e12
  refine segC9 xx p1 p2 p3 v zA fl a zn zE A0 n hA hN (by omega) (by omega) hn1 A4 C X12 e12 ?_
  intro T13 X13 e13
  refine segC10 xx p1 p2 p3 v zA fl a zn zE A0 n hA hN (by omega) (by omega) hn1 A4 C X13 e13 ?_
  intro T14 X14 e14
  refine segC11 xx p1 p2 p3 v zA fl a zn zE A0 n hA hN (by omega) (by omega) hn1 A4 C X14 e14 ?_
  intro T15 X15 e15
  refine segC12 xx p1 p2 p3 v zA fl a zn zE A0 n hA hN (by omega) (by omega) hn1 A4 C X15 e15 ?_
  intro T16 X16 e16
  refine segC13 xx p1 p2 p3 v zA fl a zn zE A0 n hA hN (by omega) (by omega) hn1 A4 C X16 e16 ?_
  intro T17 X17 e17
  show WP p e below _ T17 (mkF m 543 #[.val (.long xx), .second, .val (.int p1), .val (.int p2), .val (.int p3), .val (.long v), .second, .val (.int zA), .val (.int fl), .val (.ref a), .val (.int zn), .val (.int zE), .val (.int (1 : Int32))] [])
  refine wp (fun _ => XS.iload X17.here hx rfl (hb hby at_543) rfl) ?_
  show WP p e below _ T17 (mkF m 545 #[.val (.long xx), .second, .val (.int p1), .val (.int p2), .val (.int p3), .val (.long v), .second, .val (.int zA), .val (.int fl), .val (.ref a), .val (.int zn), .val (.int zE), .val (.int (1 : Int32))] [(.int (1 : Int32))])
  exact wp_zreturn C X17 (Or.inl rfl) at_545 ⟨rfl, N4⟩ (by decide) (by decide)
set_option maxRecDepth 65536 in
set_option maxHeartbeats 4000000 in
theorem comes_1 {Post : Tables → Env → Array Value → State → Outcome → State → Prop} (hpost : ∀ tb e args s v u, (limb_1_1.after args s (.returned v) u = true ∧ limb_1_2.after args s (.returned v) u = true ∧ True) → FrameEnd s (.returned v) u (Jvm.fieldLocs frame_1_writes args s ++ Jvm.arrayLocs frame_1_arrays args s ++ Jvm.staticLocs frame_1_statics s) 16 128 → Post tb e args s (.returned v) u) :
    ArmFor flags0 classFile x code maxLocals ret World_1 tables_1 room_1 Calls_1 rest_1 Pre_1 Post := by
  intro l hfl _ _ p e ha hc hk s m args below hf hA hF happ hP
  obtain ⟨hcalls, hrest, hpre⟩ := hP
  obtain ⟨-, -, -, hnamed, -, -, -, hat⟩ := (Spec.applies_iff hf).mp happ
  obtain ⟨hg, hn⟩ := and_e (Cond.before_iff.mp (show (Jvm.Cond.and given_1 narrow_1).before args s = true from hpre))
  obtain ⟨hcount, hr0⟩ := and_e hg
  obtain ⟨ha0, hr1⟩ := and_e hr0
  obtain ⟨ha1, hr2⟩ := and_e hr1
  obtain ⟨ha2, hr3⟩ := and_e hr2
  have ha3 := hr3
  obtain ⟨w0, w1, w2, w3, rfl⟩ : ∃ w0 w1 w2 w3 : Value, args = #[w0, w1, w2, w3] := by
    have hs : args.size = 4 := by simpa [Cond.value, given_1] using hcount
    obtain ⟨L⟩ := args
    match L, hs with
    | [w0, w1, w2, w3], _ => exact ⟨w0, w1, w2, w3, rfl⟩
  have hw := fun d (hd : d ∈ tables_1) => atoms_spec (ws := Jvm.Cond.code x code maxLocals ret :: tables_1) hat d (List.mem_cons_of_mem _ hd)
  obtain ⟨i0, ei0⟩ := isL_v ha0
  obtain rfl : w0 = (.long i0) := Option.some.inj ei0
  obtain ⟨i1, ei1⟩ := is_v ha1
  obtain rfl : w1 = (.int i1) := Option.some.inj ei1
  obtain ⟨i2, ei2⟩ := is_v ha2
  obtain rfl : w2 = (.int i2) := Option.some.inj ei2
  obtain ⟨i3, ei3⟩ := is_v ha3
  obtain rfl : w3 = (.int i3) := Option.some.inj ei3
  obtain ⟨n, o, h1, h2, h3, _, L, rfl, ⟨rfl, N⟩, hq⟩ := rm_law l s _ hw tables_1 i0 i1 i2 i3 s.heap s.heap.size (Nat.le_refl _) p e ha hc hk s m _ below hf ((Spec.applies_iff_loose hf).mp happ).1 ⟨rfl, State.Warmed39.refl s, rfl⟩ trivial
  refine ⟨n, _, h1, h2, h3, hpost _ _ _ _ _ _ ⟨Cond.after_iff.mpr rfl, Cond.after_iff.mpr (eq_i res_at (Term.int_eval (1)) rfl), trivial⟩ ⟨hq.1, hq.2.1, (hq.2.2.sift fun y hy => Or.inr (N y hy)).mono (by decide) (by decide)⟩⟩
theorem main_1_1 : Claimed_1_1 := comes_1 fun _ _ _ _ _ _ h hF => ⟨h.1, hF⟩
theorem main_1_2 : Claimed_1_2 := comes_1 fun _ _ _ _ _ _ h hF => ⟨h.2.1, hF⟩

end Jvm.Pilot.@@N@@
namespace Jvm.Pilot.@@N@@
open Jvm Jvm.ClassFile Sem Op Lib Jvm.Free Jvm.Stand Jvm.Pilot.@@N@@.Jvm.D
/-! MADE BY PROGRAM (witnessworld.py) out of the Statement's table words and the real class files: 9 classes; the members and pool entries that the words name. The judged class is class 1, her method 3. -/
namespace start1
open Jvm.ClassFile
def u (s : String) : CpInfo := .utf8 (stringToUtf16 s)
/-- a pool by its gaps: so many unusable entries, then the entry; so many at the end -/
def gap : Nat → List CpInfo → List CpInfo
  | 0, r => r
  | n + 1, r => .unusable :: gap n r
def poolList (es : List (Nat × CpInfo)) (last : Nat) : List CpInfo := es.foldr (fun e r => gap e.1 (e.2 :: r)) (gap last [])
def pool (es : List (Nat × CpInfo)) (last : Nat) : Array CpInfo := ⟨poolList es last⟩
def fileOf (pool : Array CpInfo) (this : Nat) (attrs : Array Attribute := #[]) (ms : Array MethodInfo := #[]) (fl : Nat := 33) (sup : Nat := 0) (ifs : Array Nat := #[]) (fds : Array FieldInfo := #[]) : ClassFile where
  minorVersion := 0
  majorVersion := 65
  constantPool := pool
  accessFlags := fl
  thisClass := this
  superClass := sup
  interfaces := ifs
  fields := fds
  methods := ms
  attributes := attrs
def plain (name : String) (sup : Option ClassId) : Class where
  name := name
  kind := .ordinary
  loader := none
  accessFlags := 33
  super := sup
  interfaces := #[]
  cf := none
  fields := #[]
  methods := #[]
  instanceTypes := #[]
  staticTypes := #[]
  resolved := #[]
  callSites := []
  init := .initialized
  statics := none
  mirror := none

def pool0 : Array CpInfo := pool [(5, u "<init>"), (0, u "()V"), (1, .class_ 10), (1, u "java/lang/Object")] 113

def k0m0 : Method := { name := "<init>", desc := "()V", sig := { parameters := [], returnType := none }, accessFlags := 1, code := none }
/-- java/lang/Object -/
def k0 : Class := { plain "java/lang/Object" none with
  accessFlags := 33
  interfaces := #[]
  cf := some (fileOf pool0 8 #[] #[{ accessFlags := 1, nameIndex := 5, descriptorIndex := 6, attributes := #[] }] 33 0 #[] #[])
  fields := #[]
  methods := #[k0m0]
  instanceTypes := #[]
  staticTypes := #[]
  resolved := Array.replicate 124 none
  statics := none }

def pool1 : Array CpInfo := pool [(2, .class_ 4), (1, u "java/lang/Object"), (0, u "<init>"), (0, u "()V"), (0, .long 127), (1, .long 128), (1, .methodref 12 13), (0, .class_ 14), (0, .nameAndType 15 16), (0, u "com/example/joinsmith/joinsmith/engine/stats/VarintWritePinLaw"), (0, u "expected"), (0, u "(IIJIB)B"), (0, .methodref 18 19), (0, .class_ 20), (0, .nameAndType 21 22), (0, u "com/example/joinsmith/joinsmith/engine/stats/Varint"), (0, u "write"), (0, u "(J[BI)I"), (0, .methodref 12 24), (0, .nameAndType 25 26), (0, u "cell"), (0, u "([BIIJIB)Z"), (3, u "law"), (0, u "(JIII)Z")] 4

def k1m0 : Method := { name := "<init>", desc := "()V", sig := { parameters := [], returnType := none }, accessFlags := 1, code := none }
def k1c1 : Code := { maxStack := 4, maxLocals := 7, code := method_2_code, exceptionTable := #[], attributes := #[] }
def k1m1 : Method := { name := "expected", desc := "(IIJIB)B", sig := { parameters := [.int, .int, .long, .int, .byte], returnType := some .byte }, accessFlags := 10, code := some k1c1 }
def k1c2 : Code := { maxStack := 7, maxLocals := 7, code := method_3_code, exceptionTable := #[], attributes := #[] }
def k1m2 : Method := { name := "cell", desc := "([BIIJIB)Z", sig := { parameters := [(.array .byte), .int, .int, .long, .int, .byte], returnType := some .boolean }, accessFlags := 10, code := some k1c2 }
def k1c3 : Code := { maxStack := 8, maxLocals := 13, code := code, exceptionTable := #[], attributes := #[] }
def k1m3 : Method := { name := "law", desc := "(JIII)Z", sig := { parameters := [.long, .int, .int, .int], returnType := some .boolean }, accessFlags := 9, code := some k1c3 }
/-- com/example/joinsmith/joinsmith/engine/stats/VarintWritePinLaw -/
def k1 : Class := { plain "com/example/joinsmith/joinsmith/engine/stats/VarintWritePinLaw" (some 0) with
  accessFlags := 49
  interfaces := #[]
  cf := some (fileOf pool1 12 #[] #[{ accessFlags := 1, nameIndex := 5, descriptorIndex := 6, attributes := #[] }, { accessFlags := 10, nameIndex := 15, descriptorIndex := 16, attributes := #[] }, { accessFlags := 10, nameIndex := 25, descriptorIndex := 26, attributes := #[] }, { accessFlags := 9, nameIndex := 30, descriptorIndex := 31, attributes := #[] }] 49 2 #[] #[])
  fields := #[]
  methods := #[k1m0, k1m1, k1m2, k1m3]
  instanceTypes := #[]
  staticTypes := #[]
  resolved := Array.replicate 36 none
  statics := none }

def pool2 : Array CpInfo := pool [(2, .class_ 4), (1, u "java/lang/Object"), (0, u "<init>"), (0, u "()V"), (0, .long 18446744073709551488), (1, .long 127), (1, .long 128), (1, .class_ 14), (0, u "com/example/joinsmith/joinsmith/engine/stats/Varint"), (0, u "MAX_SIZE"), (0, u "I"), (7, u "write"), (0, u "(J[BI)I")] 6

def k2m0 : Method := { name := "<init>", desc := "()V", sig := { parameters := [], returnType := none }, accessFlags := 2, code := none }
def k2c1 : Code := { maxStack := 6, maxLocals := 6, code := prog_101_method_3_code, exceptionTable := #[], attributes := #[] }
def k2m1 : Method := { name := "write", desc := "(J[BI)I", sig := { parameters := [.long, (.array .byte), .int], returnType := some .int }, accessFlags := 8, code := some k2c1 }
/-- com/example/joinsmith/joinsmith/engine/stats/Varint -/
def k2 : Class := { plain "com/example/joinsmith/joinsmith/engine/stats/Varint" (some 0) with
  accessFlags := 48
  interfaces := #[]
  cf := some (fileOf pool2 13 #[] #[{ accessFlags := 2, nameIndex := 5, descriptorIndex := 6, attributes := #[] }, { accessFlags := 8, nameIndex := 24, descriptorIndex := 25, attributes := #[] }] 48 2 #[] #[{ accessFlags := 24, nameIndex := 15, descriptorIndex := 16, attributes := #[] }])
  fields := #[{ name := "MAX_SIZE", type := .int, accessFlags := 24, slot := 0, constantValue := 0 }]
  methods := #[k2m0, k2m1]
  instanceTypes := #[]
  staticTypes := #[.int]
  resolved := Array.replicate 32 none
  statics := none }

def pool3 : Array CpInfo := pool [(1, u "java/lang/Cloneable"), (0, .class_ 1), (0, u "java/lang/Object"), (0, .class_ 3)] 3

/-- java/lang/Cloneable -/
def k3 : Class := { plain "java/lang/Cloneable" (some 0) with
  accessFlags := 1537
  interfaces := #[]
  cf := some (fileOf pool3 2 #[] #[] 1537 4 #[] #[])
  fields := #[]
  methods := #[]
  instanceTypes := #[]
  staticTypes := #[]
  resolved := Array.replicate 8 none
  statics := none }

def pool4 : Array CpInfo := pool [(1, u "java/io/Serializable"), (0, .class_ 1), (0, u "java/lang/Object"), (0, .class_ 3)] 3

/-- java/io/Serializable -/
def k4 : Class := { plain "java/io/Serializable" (some 0) with
  accessFlags := 1537
  interfaces := #[]
  cf := some (fileOf pool4 2 #[] #[] 1537 4 #[] #[])
  fields := #[]
  methods := #[]
  instanceTypes := #[]
  staticTypes := #[]
  resolved := Array.replicate 8 none
  statics := none }

/-- the primitive byte -/
def k5 : Class := { plain "byte" none with kind := .primitive 'B', accessFlags := 0x411 }
/-- [B -/
def k6 : Class := { plain "[B" (some 0) with kind := .array 5 .byte, interfaces := #[3, 4], accessFlags := 1041 }

/-- the primitive int -/
def k7 : Class := { plain "int" none with kind := .primitive 'I', accessFlags := 0x411 }
/-- [I -/
def k8 : Class := { plain "[I" (some 0) with kind := .array 7 .int, interfaces := #[3, 4], accessFlags := 1041 }

def heap : Heap := #[]
def classes : Array Class := #[k0, k1, k2, k3, k4, k5, k6, k7, k8]
def interned : List (Array UInt16 × Addr) := []
def slotsUsed : Nat := 0
def theMethod : MethodId := ⟨1, 3⟩
def args0 : Array Value := #[.long 300, .int 5, .int 2, .int 7]
def aboutOver (below : List Frame) : State where
  vm := { classes := classes, interned := interned.toArray }
  heap := heap
  slotsUsed := slotsUsed
  threads := #[{ frames := .invoking theMethod args0 :: below }]
def below0 : List Frame := [.native { method := ⟨0, 0⟩, args := #[] }]
def about1 : State := aboutOver below0
def p0 : Program := .bare "" "" ""
def e0 : Env := launch0.env 0 0 0
theorem w_frames : about1.frames = Frame.invoking theMethod args0 :: below0 := rfl
set_option maxRecDepth 65536 in
theorem w_args : argsFit about1.vm theMethod args0 = true := by decide +kernel
set_option maxRecDepth 65536 in
theorem w_heap : heapFits about1 = true := by decide +kernel
set_option maxRecDepth 65536 in
theorem w_runnable : about1.curStatus? = some .runnable := by decide +kernel
set_option maxRecDepth 65536 in
theorem w_alone : about1.alone = true := by decide +kernel
set_option maxRecDepth 65536 in
theorem w_named : about1.methodNamed? x = some theMethod := by decide +kernel
set_option maxRecDepth 65536 in
theorem w_hears : about1.hears theMethod below0 = true := by decide +kernel
set_option maxRecDepth 65536 in
theorem w_ripe : about1.ripe theMethod args0 below0 = true := by decide +kernel
theorem w_running : about1.status = .running := rfl
set_option maxRecDepth 65536 in
theorem w_room : about1.hasRoom e0.platform room_1 = true :=
  launch0.hasRoom_least _ room_1 (by decide +kernel) (by decide +kernel) (by decide +kernel) (by decide +kernel) (by decide +kernel) (by decide +kernel)
theorem allAtoms_all (ts : List Jvm.Cond) (a : Array Jvm.Value) (st : Jvm.State) : (allAtoms ts).before a st = ts.all (fun c => c.before a st) := by
  induction ts with
  | nil => rfl
  | cons c t ih =>
    show (Jvm.Cond.and c (allAtoms t)).before a st = _
    rw [Jvm.Cond.before_and, ih, List.all_cons]
def words1 : List Jvm.Cond := Jvm.Cond.code x code maxLocals ret :: tables_1
/-- a 'code' word, met by the world's own term for the bytes: nothing is compared byte by byte -/
theorem code_word {y : MethodName} {bytes : ByteArray} {mx : Nat} {rt : Option FieldType} {a : Array Value} {s : State} {m : MethodId} {meth : Method} {c : Code} (h1 : s.methodNamed? y = some m) (h2 : s.vm.method? m = some meth) (h3 : meth.code = some c) (h4 : c.code = bytes)
    (h5 : (c.maxLocals == mx && c.exceptionTable.isEmpty && decide (c.maxStack ≤ mostOperands) && decide (meth.sig.returnType = rt) && !meth.locks && decide (parseMethodDescriptor y.desc = some meth.sig)) = true) : (Jvm.Cond.code y bytes mx rt).before a s = true := by
  simp only [Bool.and_eq_true, beq_iff_eq, Bool.not_eq_true', decide_eq_true_eq] at h5
  obtain ⟨⟨⟨⟨⟨g1, g2⟩, g3⟩, g4⟩, g5⟩, g6⟩ := h5
  simp [Cond.before, Cond.holds, Cond.value, h1, h2, h3, h4, g1, g2, g3, g4, g5, g6]
def isCode : Jvm.Cond → Bool
  | .code _ _ _ _ => true
  | _ => false
theorem all_split {L : List Jvm.Cond} {P : Jvm.Cond → Bool} (h1 : L.all (fun c => isCode c || P c) = true) (h2 : ∀ c ∈ L.filter isCode, P c = true) : L.all P = true := by
  refine List.all_eq_true.mpr fun c hc => ?_
  have h := List.all_eq_true.mp h1 c hc
  rcases Bool.eq_false_or_eq_true (isCode c) with hi | hi
  · exact h2 c (List.mem_filter.mpr ⟨hc, hi⟩)
  · simpa [hi] using h
set_option maxRecDepth 65536 in
theorem w_c0 : (Jvm.Cond.code x code maxLocals ret).before args0 about1 = true := code_word (m := ⟨1, 3⟩) (meth := k1m3) (c := k1c3) (by decide +kernel) rfl rfl rfl (by decide +kernel)
set_option maxRecDepth 65536 in
theorem w_c1 : (Jvm.Cond.code ({ cls := "com/example/joinsmith/joinsmith/engine/stats/Varint", name := "write", desc := "(J[BI)I" } : Jvm.MethodName) prog_101_method_3_code (6 : Nat) (Option.some Jvm.ClassFile.FieldType.int)).before args0 about1 = true := code_word (m := ⟨2, 1⟩) (meth := k2m1) (c := k2c1) (by decide +kernel) rfl rfl rfl (by decide +kernel)
set_option maxRecDepth 65536 in
theorem w_c2 : (Jvm.Cond.code ({ cls := "com/example/joinsmith/joinsmith/engine/stats/VarintWritePinLaw", name := "cell", desc := "([BIIJIB)Z" } : Jvm.MethodName) method_3_code (7 : Nat) (Option.some Jvm.ClassFile.FieldType.boolean)).before args0 about1 = true := code_word (m := ⟨1, 2⟩) (meth := k1m2) (c := k1c2) (by decide +kernel) rfl rfl rfl (by decide +kernel)
set_option maxRecDepth 65536 in
theorem w_c3 : (Jvm.Cond.code ({ cls := "com/example/joinsmith/joinsmith/engine/stats/VarintWritePinLaw", name := "expected", desc := "(IIJIB)B" } : Jvm.MethodName) method_2_code (7 : Nat) (Option.some Jvm.ClassFile.FieldType.byte)).before args0 about1 = true := code_word (m := ⟨1, 1⟩) (meth := k1m1) (c := k1c1) (by decide +kernel) rfl rfl rfl (by decide +kernel)
def codes1 : List Jvm.Cond := [Jvm.Cond.code x code maxLocals ret, Jvm.Cond.code ({ cls := "com/example/joinsmith/joinsmith/engine/stats/Varint", name := "write", desc := "(J[BI)I" } : Jvm.MethodName) prog_101_method_3_code (6 : Nat) (Option.some Jvm.ClassFile.FieldType.int), Jvm.Cond.code ({ cls := "com/example/joinsmith/joinsmith/engine/stats/VarintWritePinLaw", name := "cell", desc := "([BIIJIB)Z" } : Jvm.MethodName) method_3_code (7 : Nat) (Option.some Jvm.ClassFile.FieldType.boolean), Jvm.Cond.code ({ cls := "com/example/joinsmith/joinsmith/engine/stats/VarintWritePinLaw", name := "expected", desc := "(IIJIB)B" } : Jvm.MethodName) method_2_code (7 : Nat) (Option.some Jvm.ClassFile.FieldType.byte)]
set_option maxRecDepth 65536 in
theorem codes_eq : words1.filter isCode = codes1 := rfl
theorem w_codes : ∀ c ∈ words1.filter isCode, c.before args0 about1 = true := by
  rw [codes_eq]
  intro c hc
  simp only [codes1, List.mem_cons, List.not_mem_nil, or_false] at hc
  rcases hc with rfl | rfl | rfl | rfl
  · exact w_c0
  · exact w_c1
  · exact w_c2
  · exact w_c3
set_option maxRecDepth 65536 in
theorem w_t1 : words1.all (fun c => isCode c || c.before args0 about1) = true := by decide +kernel
theorem w_tables : (allAtoms (Jvm.Cond.code x code maxLocals ret :: tables_1)).before args0 about1 = true := by
  rw [allAtoms_all]
  show words1.all (fun c => c.before args0 about1) = true
  refine all_split ?_ w_codes
  rw [w_t1]
set_option maxRecDepth 65536 in
theorem w_case : (Jvm.Cond.and given_1 narrow_1).before args0 about1 = true := by decide +kernel
theorem w_applies : (headSpec (Jvm.Cond.code x code maxLocals ret :: tables_1) room_1).applies x e0.platform about1 = true :=
  (Spec.applies_iff w_frames).mpr ⟨w_running, w_runnable, w_alone, w_named, w_hears, w_ripe, w_room, w_tables⟩
theorem atStart : AtStart classFile x code maxLocals ret World_1 tables_1 room_1 Calls_1 rest_1 Pre_1 launch0 p0 e0 about1 theMethod args0 below0 :=
  ⟨lists_1, trivial, launch0.admits_env _ _ _, launch0.least_env, fairChoices_fair.cas, fairChoices_fair.clock, w_frames, w_args, w_heap, w_applies, trivial, trivial, w_case⟩
end start1
theorem witness_1 : WitnessClaimed_1 := ⟨start1.p0, start1.e0, start1.about1, start1.theMethod, start1.args0, start1.below0, start1.atStart⟩
end Jvm.Pilot.@@N@@
