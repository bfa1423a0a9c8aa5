import JvmDerived
import JvmDerived.Pilot.@@N@@Statement
import JvmDerived.Pilot.@@N@@Code
set_option linter.unusedVariables false
set_option linter.unusedSimpArgs false
set_option maxRecDepth 65536
set_option maxHeartbeats 40000000
namespace Jvm.RoadKit
open Sem ClassFile Op Lib Jvm.Stand Jvm.Free Jvm.LawKit
section OwnKit
variable {p : Program} {l : Launch} {e : Env} {R : Room} {s : State} {m : MethodId} {args : Array Value} {below : List Frame} {meth : Method} {c : Code} {T : State} {locs : List Loc} {cells slots : Nat} {Z : State} {a0 : Array Value} {h : Heap}
abbrev OwnP : Type := Option Value → Heap → List Loc → Prop
/-- from the state A the run comes back with what P says -/
def OwnG (tb : Tables) (e : Env) (below : List Frame) (s : State) (P : OwnP) (rc rs : Nat) (A : State) : Prop :=
  ∃ s₂ o, Steps tb e below A s₂ ∧ s₂.status = .running ∧ Ended s₂ below o ∧ ∃ v L, o = .returned v ∧ P v s₂.heap L ∧ FrameEnd s o s₂ L rc rs
theorem oG {tb : Tables} {P : OwnP} {rc rs : Nat} {A : State} (T' : State) (m' : MethodId) (pc : Nat) (Ls : Array Slot) (st : List Value) (f : ∀ t, Steps tb e below (T'.setTop (mkF m' pc Ls st)) t → Steps tb e below A t) (k : OwnG tb e below s P rc rs (T'.setTop (mkF m' pc Ls st))) : OwnG tb e below s P rc rs A := by
  obtain ⟨s₂, o, h1, h2⟩ := k
  exact ⟨s₂, o, f _ h1, h2⟩
theorem own_mono {tb : Tables} {P P' : OwnP} {rc rs : Nat} {A : State} (f : ∀ v h L, P v h L → P' v h L) (k : OwnG tb e below s P rc rs A) : OwnG tb e below s P' rc rs A := by
  obtain ⟨s₂, o, h1, h2, h3, v, L, h4, h5, h6⟩ := k
  exact ⟨s₂, o, h1, h2, h3, v, L, h4, f _ _ _ h5, h6⟩
/-- what a walk knows of the body -/
def OwnX (Z : State) (p : Program) (s : State) (m : MethodId) (meth : Method) (c : Code) (bytes : ByteArray) (maxL : Nat) (ret : Option FieldType) (own nm : String) : Prop :=
  p.tables.exec = Jvm.exec ∧ c.code = bytes ∧ c.maxLocals = maxL ∧ s.vm.findClass own = some m.cls ∧ meth.name = nm ∧ meth.sig.returnType = ret ∧ meth.locks = false ∧ Z.Warmed39 s.vm
/-- a body's contract -/
abbrev OwnC (l : Launch) (Z : State) (y : MethodName) (bytes : ByteArray) (maxL : Nat) (ret : Option FieldType) (ws : List Cond) (rm : Room) (as' : Array Value) (h0 : Heap) (P : OwnP) : Prop :=
  MetFree l y (head1 (Cond.code y bytes maxL ret :: ws) rm) (fun a U => a = as' ∧ Z.Warmed39 U.vm ∧ U.heap = h0) (fun _ _ _ _ _ => True) (fun _ U o U' => ∃ v L, o = .returned v ∧ P v U'.heap L ∧ FrameEnd U o U' L rm.cells rm.slots)
theorem own_entry {y : MethodName} {bytes : ByteArray} {maxL : Nat} {ret : Option FieldType} {ws : List Cond} {rm : Room} {as' : Array Value} {h0 : Heap} {P : OwnP} {Ls : Array Slot} (hpl : plainFor y = true) (ef : ∀ m, entryFrame m as' maxL = mkF m 0 Ls [])
    (body : ∀ (p : Program) (e : Env) (s : State) (m : MethodId) (below : List Frame) (meth : Method) (c : Code) (T : State), Stand p l e rm s m as' below meth c T [] 0 0 → OwnX Z p s m meth c bytes maxL ret y.cls y.name → T.heap = h0 → OwnG p.tables e below s P rm.cells rm.slots (T.setTop (mkF m 0 Ls []))) :
    OwnC l Z y bytes maxL ret ws rm as' h0 P := by
  refine MetFree.of_bodySF hpl hisR ?_
  intro p e s m args below meth c s₁ Bd hml0 hP hK
  obtain ⟨rfl, hZ, hh⟩ := hP
  have e0 : s₁.heap = h0 := by rw [← hh, Bd.state]; rfl
  obtain ⟨s₂, o, h1, h2⟩ := body p e s m below meth c s₁ (Stand.of_body Bd) ⟨Bd.exec, Bd.bytes, hml0, findClass_of_methodNamed Bd.named, (name_of_methodNamed Bd.named Bd.method).1, Bd.returns, Bd.notSynchronized, hZ⟩ e0
  exact ⟨s₂, o, castTop (ef m) h1, h2⟩
theorem own_ret {P : OwnP} {rc rs : Nat} (X : Stand p l e R s m args below meth c T locs cells slots) (hx : p.tables.exec = Jvm.exec) (hlk : meth.locks = false) {pc : Nat} {Ls : Array Slot} {w : Value} {t : FieldType} {i : Instr} {rest : List Value} (hret : meth.sig.returnType = some t) (hn : narrow t w = w)
    (hi : (i = .ireturn ∧ (t = .int ∨ t = .boolean ∨ t = .byte ∨ t = .char ∨ t = .short) ∧ ∃ z, w = .int z) ∨ (i = .lreturn ∧ t = .long ∧ ∃ z, w = .long z) ∨ (i = .dreturn ∧ t = .double ∧ ∃ z, w = .double z) ∨ (i = .freturn ∧ t = .float ∧ ∃ z, w = .float z) ∨ (i = .areturn ∧ t.isReference = true ∧ w.isRef = true))
    (hd : decode c.code pc = .ok (i, 1)) (hc : cells ≤ rc) (hs : slots ≤ rs) (hP : P (some w) T.heap locs) : OwnG p.tables e below s P rc rs (T.setTop (mkF m pc Ls (w :: rest))) := by
  obtain ⟨fs, hr, hrun, hended, hW, hsame⟩ := X.leave (v := some w) (fun h => by rw [hret] at h; cases h) hlk
  exact ⟨_, _, retOut X hx hret hn hi hd hr, hrun, hended, _, _, rfl, hP, ⟨_, rfl⟩, hW, hsame.mono hc hs⟩
theorem own_retI {P : OwnP} {rc rs : Nat} (X : Stand p l e R s m args below meth c T locs cells slots) (hx : p.tables.exec = Jvm.exec) (hlk : meth.locks = false) {pc : Nat} {Ls : Array Slot} {z : Int32} {rest : List Value} (hret : meth.sig.returnType = some .int)
    (hd : decode c.code pc = .ok (.ireturn, 1)) (hc : cells ≤ rc) (hs : slots ≤ rs) (hP : P (some (.int z)) T.heap locs) : OwnG p.tables e below s P rc rs (T.setTop (mkF m pc Ls (.int z :: rest))) :=
  own_ret X hx hlk hret rfl (Or.inl ⟨rfl, Or.inl rfl, z, rfl⟩) hd hc hs hP
theorem own_retZ {P : OwnP} {rc rs : Nat} (X : Stand p l e R s m args below meth c T locs cells slots) (hx : p.tables.exec = Jvm.exec) (hlk : meth.locks = false) {pc : Nat} {Ls : Array Slot} {z : Int32} {rest : List Value} (hret : meth.sig.returnType = some .boolean) (hz : z = 0 ∨ z = 1)
    (hd : decode c.code pc = .ok (.ireturn, 1)) (hc : cells ≤ rc) (hs : slots ≤ rs) (hP : P (some (.int z)) T.heap locs) : OwnG p.tables e below s P rc rs (T.setTop (mkF m pc Ls (.int z :: rest))) :=
  own_ret X hx hlk hret (by rcases hz with rfl | rfl <;> rfl) (Or.inl ⟨rfl, Or.inr (Or.inl rfl), z, rfl⟩) hd hc hs hP
theorem own_retB {P : OwnP} {rc rs : Nat} (X : Stand p l e R s m args below meth c T locs cells slots) (hx : p.tables.exec = Jvm.exec) (hlk : meth.locks = false) {pc : Nat} {Ls : Array Slot} {z : Int32} {rest : List Value} (hret : meth.sig.returnType = some .byte) (hz : narrow .byte (.int z) = .int z)
    (hd : decode c.code pc = .ok (.ireturn, 1)) (hc : cells ≤ rc) (hs : slots ≤ rs) (hP : P (some (.int z)) T.heap locs) : OwnG p.tables e below s P rc rs (T.setTop (mkF m pc Ls (.int z :: rest))) :=
  own_ret X hx hlk hret hz (Or.inl ⟨rfl, Or.inr (Or.inr (Or.inl rfl)), z, rfl⟩) hd hc hs hP
theorem own_retJ {P : OwnP} {rc rs : Nat} (X : Stand p l e R s m args below meth c T locs cells slots) (hx : p.tables.exec = Jvm.exec) (hlk : meth.locks = false) {pc : Nat} {Ls : Array Slot} {z : Int64} {rest : List Value} (hret : meth.sig.returnType = some .long)
    (hd : decode c.code pc = .ok (.lreturn, 1)) (hc : cells ≤ rc) (hs : slots ≤ rs) (hP : P (some (.long z)) T.heap locs) : OwnG p.tables e below s P rc rs (T.setTop (mkF m pc Ls (.long z :: rest))) :=
  own_ret X hx hlk hret rfl (Or.inr (Or.inl ⟨rfl, rfl, z, rfl⟩)) hd hc hs hP
theorem own_retA {P : OwnP} {rc rs : Nat} (X : Stand p l e R s m args below meth c T locs cells slots) (hx : p.tables.exec = Jvm.exec) (hlk : meth.locks = false) {pc : Nat} {Ls : Array Slot} {w : Value} {t : FieldType} {rest : List Value} (hret : meth.sig.returnType = some t) (hn : narrow t w = w) (ht : t.isReference = true) (hw : w.isRef = true)
    (hd : decode c.code pc = .ok (.areturn, 1)) (hc : cells ≤ rc) (hs : slots ≤ rs) (hP : P (some w) T.heap locs) : OwnG p.tables e below s P rc rs (T.setTop (mkF m pc Ls (w :: rest))) :=
  own_ret X hx hlk hret hn (Or.inr (Or.inr (Or.inr (Or.inr ⟨rfl, ht, hw⟩)))) hd hc hs hP
theorem own_retV {P : OwnP} {rc rs : Nat} (X : Stand p l e R s m args below meth c T locs cells slots) (hx : p.tables.exec = Jvm.exec) (hlk : meth.locks = false) {pc : Nat} {Ls : Array Slot} (hret : meth.sig.returnType = none)
    (hd : decode c.code pc = .ok (.return_, 1)) (hc : cells ≤ rc) (hs : slots ≤ rs) (hP : P none T.heap locs) : OwnG p.tables e below s P rc rs (T.setTop (mkF m pc Ls [])) := by
  obtain ⟨fs, hr, hrun, hended, hW, hsame⟩ := X.leave (v := none) (fun _ => rfl) hlk
  exact ⟨_, _, X.returnOut hx hret hd hr, hrun, hended, _, _, rfl, hP, ⟨_, rfl⟩, hW, hsame.mono hc hs⟩
theorem own_static (X : Stand p l e R s m args below meth c T locs cells slots) (hx : p.tables.exec = Jvm.exec) (hZ : Z.Warmed39 s.vm) {own : String} {index : Nat} {y : MethodName} {bytes : ByteArray} {maxL : Nat} {ret : Option FieldType} {rm : Room} {as' : Array Value} {P : OwnP}
    (hown : s.vm.findClass own = some m.cls) (w1 : (Cond.methodLink own index y).before a0 Z = true) (w2 : (Cond.static y).before a0 Z = true) (w3 : (Cond.initialized y.cls).before a0 Z = true) (w4 : (Cond.code y bytes maxL ret).before a0 Z = true) (hy : y.cls ≠ "java/lang/invoke/MethodHandle" ∧ y.cls ≠ "java/lang/invoke/VarHandle")
    (hM : OwnC l Z y bytes maxL ret [] rm as' h P) (eT : T.heap = h) {pc : Nat} {Ls : Array Slot} {argsL rest : List Value} (W : Nat) {st : List Value} (hsz : Ls.size = c.maxLocals) (hlen : ∀ sig, parseMethodDescriptor y.desc = some sig → argsL.length = sig.parameters.length) (has : argsL.toArray = as') (hst : st = argsL.reverse ++ rest) (hW : (rest.map fun v => v.category).sum ≤ W)
    (hd : decode c.code pc = .ok (.invokestatic index, 3)) (hf : rm.frames + 1 ≤ R.frames) (hl : W + (maxL + 11) + rm.locals ≤ R.locals) (hc : cells + rm.cells ≤ R.cells) (hs : slots + rm.slots ≤ R.slots) :
    ∃ v T' L, Stand p l e R s m args below meth c T' (locs ++ L) (cells + rm.cells) (slots + rm.slots) ∧ P v T'.heap L ∧ ∀ t, Steps p.tables e below (T'.setTop (mkF m (pc + 3) Ls (v.toList ++ rest))) t → Steps p.tables e below (T.setTop (mkF m pc Ls st)) t := by
  obtain ⟨v, vm₁, ⟨T', L', k', n'⟩, -, X', ⟨L, hQ, l1, l2, l3⟩, stp⟩ := Jvm.LawKit.callS X hx hown (mvT hZ w1) (mvT hZ w2) (mvT hZ w3) (mvT hZ w4) hy (backOf (W := W) hM hZ w4 w3 hf hl) (g := mkF m pc Ls st) rfl hsz (argsL := argsL) (rest := rest) hlen hst (by show 2 * 0 + _ ≤ _; omega) hd (fun _ _ => ⟨has, eT, hc, hs⟩)
  dsimp only [Pt.U, Pt.locs, Pt.cells, Pt.slots] at X' l1 l2 l3 stp hQ
  subst l1 l2 l3
  exact ⟨v, T', L, X', hQ, stp⟩
theorem own_init (X : Stand p l e R s m args below meth c T locs cells slots) (hx : p.tables.exec = Jvm.exec) (hZ : Z.Warmed39 s.vm) {own : String} {index : Nat} {y : MethodName} {bytes : ByteArray} {maxL : Nat} {rm : Room} {as' : Array Value} {P : OwnP} (hy1 : y.name = "<init>")
    (hown : s.vm.findClass own = some m.cls) (w1 : (Cond.methodLink own index y).before a0 Z = true) (w2 : (Cond.instanceMethod y).before a0 Z = true) (w3 : (Cond.initialized y.cls).before a0 Z = true) (w4 : (Cond.code y bytes maxL none).before a0 Z = true) (hy : y.cls ≠ "java/lang/invoke/MethodHandle" ∧ y.cls ≠ "java/lang/invoke/VarHandle")
    (hM : OwnC l Z y bytes maxL none [] rm as' h P) (eT : T.heap = h) {pc : Nat} {Ls : Array Slot} {a : Addr} {argsL rest : List Value} (W : Nat) {st : List Value} (hsz : Ls.size = c.maxLocals) (hlen : ∀ sig, parseMethodDescriptor y.desc = some sig → argsL.length = sig.parameters.length) (has : (.ref a :: argsL).toArray = as') (hst : st = argsL.reverse ++ .ref a :: rest) (hW : (rest.map fun v => v.category).sum ≤ W)
    (hd : decode c.code pc = .ok (.invokespecial index, 3)) (hf : rm.frames + 1 ≤ R.frames) (hl : W + (maxL + 11) + rm.locals ≤ R.locals) (hc : cells + rm.cells ≤ R.cells) (hs : slots + rm.slots ≤ R.slots) :
    ∃ v T' L, Stand p l e R s m args below meth c T' (locs ++ L) (cells + rm.cells) (slots + rm.slots) ∧ P v T'.heap L ∧ ∀ t, Steps p.tables e below (T'.setTop (mkF m (pc + 3) Ls (v.toList ++ rest))) t → Steps p.tables e below (T.setTop (mkF m pc Ls st)) t := by
  obtain ⟨v, vm₁, ⟨T', L', k', n'⟩, -, X', ⟨L, hQ, l1, l2, l3⟩, stp⟩ := X.specialBack hx hy1 hown (mvT hZ w1) (mvT hZ w2) (mvT hZ w4) hy (backOf (W := W) hM hZ w4 w3 hf hl) (g := mkF m pc Ls st) rfl hsz (Steps.refl _) (a := a) (argsL := argsL) (rest := rest) hlen hst (by show 2 * 0 + _ ≤ _; omega) hd (fun _ _ => ⟨has, eT, hc, hs⟩)
  dsimp only [Pt.U, Pt.locs, Pt.cells, Pt.slots] at X' l1 l2 l3 stp hQ
  subst l1 l2 l3
  exact ⟨v, T', L, X', hQ, fun t k => stp.trans k⟩
theorem own_virtual (X : Stand p l e R s m args below meth c T locs cells slots) (hx : p.tables.exec = Jvm.exec) (hZ : Z.Warmed39 s.vm) {own C : String} {index : Nat} {y z : MethodName} {bytes : ByteArray} {maxL : Nat} {ret : Option FieldType} {rm : Room} {as' : Array Value} {P : OwnP}
    (hown : s.vm.findClass own = some m.cls) (w1 : (Cond.methodLink own index y).before a0 Z = true) (w2 : (Cond.declares y).before a0 Z = true) (hnf : NotFace s y) (w5 : (Cond.selects C y z).before a0 Z = true) (w6 : (Cond.instanceMethod z).before a0 Z = true) (w3 : (Cond.initialized z.cls).before a0 Z = true) (w4 : (Cond.code z bytes maxL ret).before a0 Z = true) (hy : y.cls ≠ "java/lang/invoke/MethodHandle" ∧ y.cls ≠ "java/lang/invoke/VarHandle")
    (hM : OwnC l Z z bytes maxL ret [] rm as' h P) (eT : T.heap = h) {a : Addr} (E : Exa Z h a C) {pc : Nat} {Ls : Array Slot} {argsL rest : List Value} (W : Nat) {st : List Value} (hsz : Ls.size = c.maxLocals) (hlen : ∀ sig, parseMethodDescriptor y.desc = some sig → argsL.length = sig.parameters.length) (has : (.ref a :: argsL).toArray = as') (hst : st = argsL.reverse ++ .ref a :: rest) (hW : (rest.map fun v => v.category).sum ≤ W)
    (hd : decode c.code pc = .ok (.invokevirtual index, 3)) (hf : rm.frames + 1 ≤ R.frames) (hl : W + (maxL + 11) + rm.locals ≤ R.locals) (hc : cells + rm.cells ≤ R.cells) (hs : slots + rm.slots ≤ R.slots) :
    ∃ v T' L, Stand p l e R s m args below meth c T' (locs ++ L) (cells + rm.cells) (slots + rm.slots) ∧ P v T'.heap L ∧ ∀ t, Steps p.tables e below (T'.setTop (mkF m (pc + 3) Ls (v.toList ++ rest))) t → Steps p.tables e below (T.setTop (mkF m pc Ls st)) t := by
  obtain ⟨cq, kq, qa, qb, qc⟩ := isOf hZ eT E
  obtain ⟨v, vm₁, ⟨T', L', k', n'⟩, -, X', ⟨L, hQ, l1, l2, l3⟩, stp⟩ := X.virtualBack hx (y := y) (z := z) hown (mvT hZ w1) (mvT hZ w2) hnf (mvT hZ w5) (mvT hZ w6) hy (backOf (W := W) hM hZ w4 w3 hf hl) qa qc (g := mkF m pc Ls st) rfl hsz (Steps.refl _) (argsL := argsL) (rest := rest) hlen hst (by show 2 * 0 + _ ≤ _; omega) hd (fun _ _ => ⟨has, eT, hc, hs⟩)
  dsimp only [Pt.U, Pt.locs, Pt.cells, Pt.slots] at X' l1 l2 l3 stp hQ
  subst l1 l2 l3
  exact ⟨v, T', L, X', hQ, fun t k => stp.trans k⟩
/-- a body that writes nothing and makes nothing -/
def OwnPure (w : Value) (h0 : Heap) : OwnP := fun v h L => v = some w ∧ h = h0 ∧ L = []
theorem own_nil (X : Stand p l e R s m args below meth c T (locs ++ []) cells slots) : Stand p l e R s m args below meth c T locs cells slots := by rwa [List.append_nil] at X
theorem own_iaload (X : Stand p l e R s m args below meth c T locs cells slots) (hx : p.tables.exec = Jvm.exec) (hZ : Z.Warmed39 s.vm) (eT : T.heap = h) {a : Addr} {k : ClassId} {n : Int32} {vs : List Value} {dv : Value} (V : Arv Z h a k .int n vs dv) {j x : Int32} (hj : ¬ j < 0 ∧ j < n) (hv : vs.getD j.toNatClampNeg dv = .int x)
    {pc : Nat} {Ls : Array Slot} {rest : List Value} (hd : decode c.code pc = .ok (.iaload, 1)) : ∀ t, Steps p.tables e below (T.setTop (mkF m (pc + 1) Ls (.int x :: rest))) t → Steps p.tables e below (T.setTop (mkF m pc Ls (.int j :: .ref a :: rest))) t := by
  obtain ⟨cl, A, -, S, -, H, -⟩ := V
  exact fun t k => X.iaload hx (by rw [eT]; exact A.1) (State.isArrayOf_alike hZ.alike A.2.1) A.2.2 (inb_of S hj) (H.at (inb_of S hj) hv) (g := mkF m pc Ls (.int j :: .ref a :: rest)) rfl rfl hd t k
theorem own_baload (X : Stand p l e R s m args below meth c T locs cells slots) (hx : p.tables.exec = Jvm.exec) (hZ : Z.Warmed39 s.vm) (eT : T.heap = h) {a : Addr} {k : ClassId} {n : Int32} {vs : List Value} {dv : Value} (V : Arv Z h a k .byte n vs dv) {j x : Int32} (hj : ¬ j < 0 ∧ j < n) (hv : vs.getD j.toNatClampNeg dv = .int x)
    {pc : Nat} {Ls : Array Slot} {rest : List Value} (hd : decode c.code pc = .ok (.baload, 1)) : ∀ t, Steps p.tables e below (T.setTop (mkF m (pc + 1) Ls (.int x :: rest))) t → Steps p.tables e below (T.setTop (mkF m pc Ls (.int j :: .ref a :: rest))) t := by
  obtain ⟨cl, A, -, S, -, H, -⟩ := V
  exact fun t k => X.baloadBytes hx (by rw [eT]; exact A.1) (State.isArrayOf_alike hZ.alike A.2.1) A.2.2 (inb_of S hj) (H.at (inb_of S hj) hv) (g := mkF m pc Ls (.int j :: .ref a :: rest)) rfl rfl hd t k
theorem own_aaload (X : Stand p l e R s m args below meth c T locs cells slots) (hx : p.tables.exec = Jvm.exec) (hZ : Z.Warmed39 s.vm) (eT : T.heap = h) {a : Addr} {k : ClassId} {ty : FieldType} {n : Int32} {vs : List Value} {dv : Value} (V : Arv Z h a k ty n vs dv) (hty : ty.isReference = true) {j : Int32} {w : Value} (hj : ¬ j < 0 ∧ j < n) (hv : vs.getD j.toNatClampNeg dv = w)
    {pc : Nat} {Ls : Array Slot} {rest : List Value} (hd : decode c.code pc = .ok (.aaload, 1)) : ∀ t, Steps p.tables e below (T.setTop (mkF m (pc + 1) Ls (w :: rest))) t → Steps p.tables e below (T.setTop (mkF m pc Ls (.int j :: .ref a :: rest))) t := by
  obtain ⟨cl, A, -, S, -, H, -⟩ := V
  exact fun t k => X.aaload hx (by rw [eT]; exact A.1) (State.isArrayOf_alike hZ.alike A.2.1) hty A.2.2 (inb_of S hj) (H.at (inb_of S hj) hv) (g := mkF m pc Ls (.int j :: .ref a :: rest)) rfl rfl hd t k
theorem own_alen (X : Stand p l e R s m args below meth c T locs cells slots) (hx : p.tables.exec = Jvm.exec) (hZ : Z.Warmed39 s.vm) (eT : T.heap = h) {a : Addr} {k : ClassId} {ty : FieldType} {n : Int32} {vs : List Value} {dv : Value} (V : Arv Z h a k ty n vs dv)
    {pc : Nat} {Ls : Array Slot} {rest : List Value} (hd : decode c.code pc = .ok (.arraylength, 1)) : ∀ t, Steps p.tables e below (T.setTop (mkF m (pc + 1) Ls (.int n :: rest))) t → Steps p.tables e below (T.setTop (mkF m pc Ls (.ref a :: rest))) t := by
  obtain ⟨cl, A, -, S, N, H, -⟩ := V
  intro t q
  refine X.arraylength hx (by rw [eT]; exact A.1) (State.isArrayOf_alike hZ.alike A.2.1) (g := mkF m pc Ls (.ref a :: rest)) rfl rfl hd t ?_
  rw [len_of S N]
  exact q
theorem own_iastore (X : Stand p l e R s m args below meth c T locs cells slots) (hx : p.tables.exec = Jvm.exec) (hZ : Z.Warmed39 s.vm) (eT : T.heap = h) {a : Addr} {k : ClassId} {n : Int32} {vs : List Value} {dv : Value} (V : Arv Z h a k .int n vs dv) {j x : Int32} (hj : ¬ j < 0 ∧ j < n) (i : Nat) (hi : j.toNatClampNeg = i) (hl : i < vs.length)
    {pc : Nat} {Ls : Array Slot} {rest : List Value} (hd : decode c.code pc = .ok (.iastore, 1)) : ∃ T' h', Stand p l e R s m args below meth c T' (locs ++ [⟨a, i⟩]) cells slots ∧ T'.heap = h' ∧ Wr h h' a i (.int x) ∧ Arv Z h' a k .int n (vs.set i (.int x)) dv ∧ ∀ t, Steps p.tables e below (T'.setTop (mkF m (pc + 1) Ls rest)) t → Steps p.tables e below (T.setTop (mkF m pc Ls (.int x :: .int j :: .ref a :: rest))) t := by
  obtain ⟨cl, A, q1, S, N, H, G⟩ := V
  obtain ⟨T', h', X', e', W', st⟩ := stI X hx hZ eT A (j := j) (x := x) (inb_of S hj) (g := mkF m pc Ls (.int x :: .int j :: .ref a :: rest)) rfl rfl hd
  have V' := Arv.set A q1 S N H G (v := .int x) rfl W' i hi hl
  rw [hi] at X' W'
  exact ⟨T', h', X', e', W', V', st⟩
theorem own_bastore (X : Stand p l e R s m args below meth c T locs cells slots) (hx : p.tables.exec = Jvm.exec) (hZ : Z.Warmed39 s.vm) (eT : T.heap = h) {a : Addr} {k : ClassId} {n : Int32} {vs : List Value} {dv : Value} (V : Arv Z h a k .byte n vs dv) {j x : Int32} (hj : ¬ j < 0 ∧ j < n) (i : Nat) (hi : j.toNatClampNeg = i) (hl : i < vs.length)
    {pc : Nat} {Ls : Array Slot} {rest : List Value} (hd : decode c.code pc = .ok (.bastore, 1)) : ∃ T' h', Stand p l e R s m args below meth c T' (locs ++ [⟨a, i⟩]) cells slots ∧ T'.heap = h' ∧ Wr h h' a i (.int x.toInt8.toInt32) ∧ Arv Z h' a k .byte n (vs.set i (.int x.toInt8.toInt32)) dv ∧ ∀ t, Steps p.tables e below (T'.setTop (mkF m (pc + 1) Ls rest)) t → Steps p.tables e below (T.setTop (mkF m pc Ls (.int x :: .int j :: .ref a :: rest))) t := by
  obtain ⟨cl, A, q1, S, N, H, G⟩ := V
  obtain ⟨T', h', X', e', W', st⟩ := stB X hx hZ eT A (j := j) (x := x) (inb_of S hj) (g := mkF m pc Ls (.int x :: .int j :: .ref a :: rest)) rfl rfl hd
  have V' := Arv.set A q1 S N H G (v := .int x.toInt8.toInt32) (fits_nar_byte x) W' i hi hl
  rw [hi] at X' W'
  exact ⟨T', h', X', e', W', V', st⟩
theorem own_aastore (X : Stand p l e R s m args below meth c T locs cells slots) (hx : p.tables.exec = Jvm.exec) (hZ : Z.Warmed39 s.vm) (eT : T.heap = h) {a : Addr} {k : ClassId} {ty : FieldType} {n : Int32} {vs : List Value} {dv : Value} (V : Arv Z h a k ty n vs dv) (hty : ty.isReference = true) {C : String} (O : Ovr Z k C) {y : Addr} (I : Ins Z h y C true) {j : Int32} (hj : ¬ j < 0 ∧ j < n) (i : Nat) (hi : j.toNatClampNeg = i) (hl : i < vs.length)
    {pc : Nat} {Ls : Array Slot} {rest : List Value} (hd : decode c.code pc = .ok (.aastore, 1)) : ∃ T' h', Stand p l e R s m args below meth c T' (locs ++ [⟨a, i⟩]) cells slots ∧ T'.heap = h' ∧ Wr h h' a i (.ref y) ∧ Arv Z h' a k ty n (vs.set i (.ref y)) dv ∧ ∀ t, Steps p.tables e below (T'.setTop (mkF m (pc + 1) Ls rest)) t → Steps p.tables e below (T.setTop (mkF m pc Ls (.ref y :: .int j :: .ref a :: rest))) t := by
  obtain ⟨cl, A, q1, S, N, H, G⟩ := V
  obtain ⟨T', h', X', e', W', st⟩ := stR X hx hZ eT A (j := j) (v := .ref y) (inb_of S hj) hty (Sto.ofV A q1 O I) (g := mkF m pc Ls (.ref y :: .int j :: .ref a :: rest)) rfl rfl hd
  have V' := Arv.set A q1 S N H G (v := .ref y) (by cases ty <;> first | rfl | (simp [FieldType.isReference] at hty)) W' i hi hl
  rw [hi] at X' W'
  exact ⟨T', h', X', e', W', V', st⟩
theorem own_lt_eq {x y : Int64} (h : x = y) : lcmpW x y = 0 := (lw_eq x y).mpr h
theorem own_rem_ne {x y : Int32} {target : State} {g : JFrame} (X : Stand p l e R s m args below meth c T locs cells slots) (hx : p.tables.exec = Jvm.exec) (hg : g.method = m) {rest : List Value} (hd : decode c.code g.pc = .ok (.irem, 1)) (hs : g.stack = .int y :: .int x :: rest) (hy : y ≠ 0)
    (hr : Steps p.tables e below (T.setTop { g with pc := g.pc + 1, stack := .int (x % y) :: rest }) target) : Steps p.tables e below (T.setTop g) target := iremM X hx hg hd hs hy hr
theorem own_lrem {x y : Int64} {target : State} {g : JFrame} (X : Stand p l e R s m args below meth c T locs cells slots) (hx : p.tables.exec = Jvm.exec) (hg : g.method = m) {rest : List Value} (hd : decode c.code g.pc = .ok (.lrem, 1)) (hs : g.stack = .long y :: .long x :: rest) (hy : y ≠ 0)
    (hr : Steps p.tables e below (T.setTop { g with pc := g.pc + 1, stack := .long (x % y) :: rest }) target) : Steps p.tables e below (T.setTop g) target := by
  refine XS.lrem X.here hx hg hd hs hy ?_
  rw [lrem_mod]
  exact hr
theorem own_fld_int {args : Array Value} {t : Term} {C n d : String} {k : Int32} {a : Addr} (ev : t.eval args Z none [] Z = some (.ref a)) (h : (Cond.eq (Term.field t C n d) (Term.int k)).value args Z none Z [] = some true) : Fld Z Z.heap a C n d (.int k) := by
  obtain ⟨x, y, h1, h2, h3, h4⟩ := cmp_v (Or.inl h)
  have hy : y = .int k := by rw [Term.int_eval] at h2; exact (Option.some.inj h2).symm
  subst hy
  obtain ⟨z, rfl⟩ : ∃ z, x = .int z := h4
  have hz : z = k := by simpa [Cond.value, h1, h2] using h
  subst hz
  rw [fld_at ev] at h1
  exact Fld.start h1
theorem own_sta_keep {C n d : String} {v : Value} {h' : Heap} (F : Sta Z h C n d v) (K : Keep h h' []) : Sta Z h' C n d v := by
  obtain ⟨cf, i, k, f, st, cell, h1, h2, h3, h4, h5, h6⟩ := F
  exact ⟨cf, i, k, f, st, cell, h1, h2, h3, h4, K.2.1 _ _ h5 nin0, h6⟩
/-- the objects of C are no K: C's superclasses are named, K is a class that has objects -/
theorem own_nsroot {O K : String} {n : Nat} (w : (Cond.noSuperclass O).before a0 Z = true) (wk : (Cond.instantiable K n).before a0 Z = true) (hn : O ≠ K) : NS Z O K := by
  obtain ⟨c, k, h1, h2, h3, -, -⟩ := Cond.noSuperclass_spec w
  obtain ⟨t, kt, g1, -⟩ := Cond.instantiable_spec wk
  have ne := ids_ne h1 g1 hn
  refine ⟨c, t, h1, g1, fun fuel => ?_⟩
  cases fuel with
  | zero => rfl
  | succ f => simp [Vm.isSubclassAux, ne, h2, h3]
theorem own_nsno {C S K : String} {n : Nat} (w : (Cond.superclass C S).before a0 Z = true) (wk : (Cond.instantiable K n).before a0 Z = true) (q : NS Z C K) (hn : C ≠ K) : ∃ c t, Z.vm.findClass C = some c ∧ Z.vm.findClass K = some t ∧ Z.vm.assignable c t = false := by
  obtain ⟨c, t, h0, g0, n3⟩ := q
  obtain ⟨p, k, kp, h1, h2, h3, h4, h5, -, h7⟩ := Cond.superclass_spec h0 w
  obtain ⟨t', kt, g1, g2, g3, g4, -⟩ := Cond.instantiable_spec wk
  cases g0.symm.trans g1
  have g5 : kt.isInterface = false := by
    cases hq : kt.isInterface with
    | false => rfl
    | true => rw [hq] at g4; simp at g4
  have ne := ids_ne h0 g0 hn
  refine ⟨c, t, h0, g0, ?_⟩
  show Z.vm.assignableAux (255 + 1) c t = false
  simp [Vm.assignableAux, ne, h2, g2, h5, g3, g5, Vm.isSubclass, n3]
theorem own_s16 (x : Int32) : x.toInt16.toInt32.toInt16.toInt32 = x.toInt16.toInt32 := by simp
theorem own_virtualUp (X : Stand p l e R s m args below meth c T locs cells slots) (hx : p.tables.exec = Jvm.exec) (hZ : Z.Warmed39 s.vm) {own C owner : String} {index : Nat} {x y : MethodName} {bytes : ByteArray} {maxL : Nat} {ret : Option FieldType} {rm : Room} {as' : Array Value} {P : OwnP}
    (hown : s.vm.findClass own = some m.cls) (w1 : (Cond.methodLink own index x).before a0 Z = true) (w2 : (Cond.sameMethod x.cls owner x.name x.desc).before a0 Z = true) (w7 : (Cond.declares ⟨owner, x.name, x.desc⟩).before a0 Z = true) (hy : owner ≠ "java/lang/invoke/MethodHandle" ∧ owner ≠ "java/lang/invoke/VarHandle") (w5 : (Cond.selects C x y).before a0 Z = true) (w6 : (Cond.instanceMethod y).before a0 Z = true) (w3 : (Cond.initialized y.cls).before a0 Z = true) (w4 : (Cond.code y bytes maxL ret).before a0 Z = true)
    (hM : OwnC l Z y bytes maxL ret [] rm as' h P) (eT : T.heap = h) {a : Addr} (E : Exa Z h a C) {pc : Nat} {Ls : Array Slot} {argsL rest : List Value} (W : Nat) {st : List Value} (hsz : Ls.size = c.maxLocals) (hlen : ∀ sig, parseMethodDescriptor x.desc = some sig → argsL.length = sig.parameters.length) (has : (.ref a :: argsL).toArray = as') (hst : st = argsL.reverse ++ .ref a :: rest) (hW : (rest.map fun v => v.category).sum ≤ W)
    (hd : decode c.code pc = .ok (.invokevirtual index, 3)) (hf : rm.frames + 1 ≤ R.frames) (hl : W + (maxL + 11) + rm.locals ≤ R.locals) (hc : cells + rm.cells ≤ R.cells) (hs : slots + rm.slots ≤ R.slots) :
    ∃ v T' L, Stand p l e R s m args below meth c T' (locs ++ L) (cells + rm.cells) (slots + rm.slots) ∧ P v T'.heap L ∧ ∀ t, Steps p.tables e below (T'.setTop (mkF m (pc + 3) Ls (v.toList ++ rest))) t → Steps p.tables e below (T.setTop (mkF m pc Ls st)) t := by
  obtain ⟨cq, kq, qa, qb, qc⟩ := isOf hZ eT E
  obtain ⟨v, vm₁, ⟨T', L', k', n'⟩, -, X', ⟨L, hQ, l1, l2, l3⟩, stp⟩ := X.virtualBackUp hx (x := x) (y := y) hown (mvT hZ w1) (mvT hZ w2) (mvT hZ w7) hy (mvT hZ w5) (mvT hZ w6) (backOf (W := W) hM hZ w4 w3 hf hl) qa qc (g := mkF m pc Ls st) rfl hsz (Steps.refl _) (argsL := argsL) (rest := rest) hlen hst (by show 2 * 0 + _ ≤ _; omega) hd (fun _ _ => ⟨has, eT, hc, hs⟩)
  dsimp only [Pt.U, Pt.locs, Pt.cells, Pt.slots] at X' l1 l2 l3 stp hQ
  subst l1 l2 l3
  exact ⟨v, T', L, X', hQ, fun t k => stp.trans k⟩
theorem own_castore (X : Stand p l e R s m args below meth c T locs cells slots) (hx : p.tables.exec = Jvm.exec) (hZ : Z.Warmed39 s.vm) (eT : T.heap = h) {a : Addr} {k : ClassId} {n : Int32} {vs : List Value} {dv : Value} (V : Arv Z h a k .char n vs dv) {j x : Int32} (hj : ¬ j < 0 ∧ j < n) (i : Nat) (hi : j.toNatClampNeg = i) (hl : i < vs.length)
    {pc : Nat} {Ls : Array Slot} {rest : List Value} (hd : decode c.code pc = .ok (.castore, 1)) : ∃ T' h', Stand p l e R s m args below meth c T' (locs ++ [⟨a, i⟩]) cells slots ∧ T'.heap = h' ∧ Wr h h' a i (.int x.toUInt32.toUInt16.toUInt32.toInt32) ∧ Arv Z h' a k .char n (vs.set i (.int x.toUInt32.toUInt16.toUInt32.toInt32)) dv ∧ ∀ t, Steps p.tables e below (T'.setTop (mkF m (pc + 1) Ls rest)) t → Steps p.tables e below (T.setTop (mkF m pc Ls (.int x :: .int j :: .ref a :: rest))) t := by
  obtain ⟨cl, A, q1, S, N, H, G⟩ := V
  obtain ⟨T', h', X', e', W', st⟩ := stC X hx hZ eT A (j := j) (x := x) (inb_of S hj) (g := mkF m pc Ls (.int x :: .int j :: .ref a :: rest)) rfl rfl hd
  have V' := Arv.set A q1 S N H G (v := .int x.toUInt32.toUInt16.toUInt32.toInt32) (fits_nar_char x) W' i hi hl
  rw [hi] at X' W'
  exact ⟨T', h', X', e', W', V', st⟩
theorem own_sta_keep1 {C n d C' : String} {v : Value} {h' : Heap} {a : Addr} (F : Sta Z h C n d v) (K : Keep h h' [a]) (E : Exa Z h a C') : Sta Z h' C n d v := by
  obtain ⟨cf, i, k, f, st, cell, h1, h2, h3, h4, h5, h6, h7⟩ := F
  obtain ⟨cell', k', e1, -, -, e4, -⟩ := E
  have hne : st ≠ a := fun q => by
    subst q
    cases h5.symm.trans e1
    rw [h6] at e4
    cases e4
  exact ⟨cf, i, k, f, st, cell, h1, h2, h3, h4, K.2.1 _ _ h5 (ninS hne nin0), h6, h7⟩
theorem own_private (X : Stand p l e R s m args below meth c T locs cells slots) (hx : p.tables.exec = Jvm.exec) (hZ : Z.Warmed39 s.vm) {own C : String} {index n : Nat} {y : MethodName} {bytes : ByteArray} {maxL : Nat} {ret : Option FieldType} {rm : Room} {as' : Array Value} {P : OwnP}
    (hown : s.vm.findClass own = some m.cls) (w1 : (Cond.methodLink own index y).before a0 Z = true) (w2 : (Cond.instanceMethod y).before a0 Z = true) (wp : (Cond.privateMethod y).before a0 Z = true) (wi : (Cond.instantiable y.cls n).before a0 Z = true) (w3 : (Cond.initialized y.cls).before a0 Z = true) (w4 : (Cond.code y bytes maxL ret).before a0 Z = true) (hy : y.cls ≠ "java/lang/invoke/MethodHandle" ∧ y.cls ≠ "java/lang/invoke/VarHandle")
    (hM : OwnC l Z y bytes maxL ret [] rm as' h P) (eT : T.heap = h) {a : Addr} (E : Exa Z h a C) {pc : Nat} {Ls : Array Slot} {argsL rest : List Value} (W : Nat) {st : List Value} (hsz : Ls.size = c.maxLocals) (hlen : ∀ sig, parseMethodDescriptor y.desc = some sig → argsL.length = sig.parameters.length) (has : (.ref a :: argsL).toArray = as') (hst : st = argsL.reverse ++ .ref a :: rest) (hW : (rest.map fun v => v.category).sum ≤ W)
    (hd : decode c.code pc = .ok (.invokevirtual index, 3)) (hf : rm.frames + 1 ≤ R.frames) (hl : W + (maxL + 11) + rm.locals ≤ R.locals) (hc : cells + rm.cells ≤ R.cells) (hs : slots + rm.slots ≤ R.slots) :
    ∃ v T' L, Stand p l e R s m args below meth c T' (locs ++ L) (cells + rm.cells) (slots + rm.slots) ∧ P v T'.heap L ∧ ∀ t, Steps p.tables e below (T'.setTop (mkF m (pc + 3) Ls (v.toList ++ rest))) t → Steps p.tables e below (T.setTop (mkF m pc Ls st)) t := by
  obtain ⟨cell, hcell, hobj⟩ := E.cell
  have hpriv := Cond.privateMethod_at (mvP hZ wp (args := args))
  obtain ⟨ci, ki, i1, i2, i3, i4, -⟩ := Cond.instantiable_spec (show (Cond.instantiable y.cls n).before args s = true from mvT hZ wi)
  have hni : ki.isInterface = false := by
    cases hq : ki.isInterface with
    | false => rfl
    | true => rw [hq] at i4; simp at i4
  have hsel := selects_self_of_private (args := args) i1 i2 hni hpriv (mvT hZ w2) hy
  obtain ⟨v, vm₁, ⟨T', L', k', n'⟩, -, X', ⟨L, hQ, l1, l2, l3⟩, stp⟩ := X.privateBack hx (y := y) hown (mvT hZ w1) (mvT hZ w2) hsel hpriv (mvT hZ w4) hy (backOf (W := W) hM hZ w4 w3 hf hl) (g := mkF m pc Ls st) rfl hsz (Steps.refl _) (a := a) (by rw [eT]; exact hcell) hobj (argsL := argsL) (rest := rest) hlen hst (by show 2 * 0 + _ ≤ _; omega) hd (fun _ _ => ⟨has, eT, hc, hs⟩)
  dsimp only [Pt.U, Pt.locs, Pt.cells, Pt.slots] at X' l1 l2 l3 stp hQ
  subst l1 l2 l3
  exact ⟨v, T', L, X', hQ, fun t k => stp.trans k⟩
theorem own_interface (X : Stand p l e R s m args below meth c T locs cells slots) (hx : p.tables.exec = Jvm.exec) (hZ : Z.Warmed39 s.vm) {own C : String} {index count : Nat} {xi y : MethodName} {bytes : ByteArray} {maxL : Nat} {ret : Option FieldType} {rm : Room} {as' : Array Value} {P : OwnP}
    (hown : s.vm.findClass own = some m.cls) (w1 : (Cond.methodLink own index xi).before a0 Z = true) (w2 : (Cond.declares xi).before a0 Z = true) (w7 : (Cond.interfaceMethod xi.cls xi.cls xi.name xi.desc).before args s = true) (w5 : (Cond.selects C xi y).before a0 Z = true) (w6 : (Cond.instanceMethod y).before a0 Z = true) (w8 : (Cond.publicMethod y).before a0 Z = true) (w9 : (Cond.unhidden C xi.name xi.desc).before a0 Z = true) (w10 : (Cond.castable C xi.cls).before a0 Z = true) (w3 : (Cond.initialized y.cls).before a0 Z = true) (w4 : (Cond.code y bytes maxL ret).before a0 Z = true) (hy : xi.cls ≠ "java/lang/invoke/MethodHandle" ∧ xi.cls ≠ "java/lang/invoke/VarHandle")
    (hM : OwnC l Z y bytes maxL ret [] rm as' h P) (eT : T.heap = h) {a : Addr} (E : Exa Z h a C) {pc : Nat} {Ls : Array Slot} {argsL rest : List Value} (W : Nat) {st : List Value} (hsz : Ls.size = c.maxLocals) (hlen : ∀ sig, parseMethodDescriptor xi.desc = some sig → argsL.length = sig.parameters.length) (has : (.ref a :: argsL).toArray = as') (hst : st = argsL.reverse ++ .ref a :: rest) (hW : (rest.map fun v => v.category).sum ≤ W)
    (hd : decode c.code pc = .ok (.invokeinterface index count, 5)) (hf : rm.frames + 1 ≤ R.frames) (hl : W + (maxL + 11) + rm.locals ≤ R.locals) (hc : cells + rm.cells ≤ R.cells) (hs : slots + rm.slots ≤ R.slots) :
    ∃ v T' L, Stand p l e R s m args below meth c T' (locs ++ L) (cells + rm.cells) (slots + rm.slots) ∧ P v T'.heap L ∧ ∀ t, Steps p.tables e below (T'.setTop (mkF m (pc + 5) Ls (v.toList ++ rest))) t → Steps p.tables e below (T.setTop (mkF m pc Ls st)) t := by
  obtain ⟨cq, kq, qa, qb, qc⟩ := isOf hZ eT E
  obtain ⟨v, vm₁, ⟨T', L', k', n'⟩, -, X', ⟨L, hQ, l1, l2, l3⟩, stp⟩ := X.interfaceBack hx (xi := xi) (y := y) hown (mvT hZ w1) (mvT hZ w2) w7 (mvT hZ w5) (mvT hZ w6) (mvT hZ w8) (mvT hZ w9) (mvT hZ w10) hy (backOf (W := W) hM hZ w4 w3 hf hl) qa qb qc (g := mkF m pc Ls st) rfl hsz (Steps.refl _) (argsL := argsL) (rest := rest) hlen hst (by show 2 * 0 + _ ≤ _; omega) hd (fun _ _ => ⟨has, eT, hc, hs⟩)
  dsimp only [Pt.U, Pt.locs, Pt.cells, Pt.slots] at X' l1 l2 l3 stp hQ
  subst l1 l2 l3
  exact ⟨v, T', L, X', hQ, fun t k => stp.trans k⟩
theorem own_staticUp (X : Stand p l e R s m args below meth c T locs cells slots) (hx : p.tables.exec = Jvm.exec) (hZ : Z.Warmed39 s.vm) {own owner : String} {index : Nat} {x : MethodName} {bytes : ByteArray} {maxL : Nat} {ret : Option FieldType} {rm : Room} {as' : Array Value} {P : OwnP}
    (hown : s.vm.findClass own = some m.cls) (w1 : (Cond.methodLink own index x).before a0 Z = true) (w2 : (Cond.sameMethod x.cls owner x.name x.desc).before a0 Z = true) (hy : owner ≠ "java/lang/invoke/MethodHandle" ∧ owner ≠ "java/lang/invoke/VarHandle") (w5 : (Cond.static ⟨owner, x.name, x.desc⟩).before a0 Z = true) (w3 : (Cond.initialized owner).before a0 Z = true) (w4 : (Cond.code ⟨owner, x.name, x.desc⟩ bytes maxL ret).before a0 Z = true)
    (hM : OwnC l Z ⟨owner, x.name, x.desc⟩ bytes maxL ret [] rm as' h P) (eT : T.heap = h) {pc : Nat} {Ls : Array Slot} {argsL rest : List Value} (W : Nat) {st : List Value} (hsz : Ls.size = c.maxLocals) (hlen : ∀ sig, parseMethodDescriptor x.desc = some sig → argsL.length = sig.parameters.length) (has : argsL.toArray = as') (hst : st = argsL.reverse ++ rest) (hW : (rest.map fun v => v.category).sum ≤ W)
    (hd : decode c.code pc = .ok (.invokestatic index, 3)) (hf : rm.frames + 1 ≤ R.frames) (hl : W + (maxL + 11) + rm.locals ≤ R.locals) (hc : cells + rm.cells ≤ R.cells) (hs : slots + rm.slots ≤ R.slots) :
    ∃ v T' L, Stand p l e R s m args below meth c T' (locs ++ L) (cells + rm.cells) (slots + rm.slots) ∧ P v T'.heap L ∧ ∀ t, Steps p.tables e below (T'.setTop (mkF m (pc + 3) Ls (v.toList ++ rest))) t → Steps p.tables e below (T.setTop (mkF m pc Ls st)) t := by
  have c4 : (Cond.code ⟨owner, x.name, x.desc⟩ bytes maxL ret).before args s = true := mvT hZ w4
  obtain ⟨mk, hnamed⟩ := Cond.code_named c4
  obtain ⟨methM, cM, hmethM, -, -, -, -, -, -, hsigM⟩ := Cond.code_spec hnamed c4
  have hstatic : methM.isStatic = true := Cond.static_spec hnamed hmethM (mvT (args := args) hZ w5)
  obtain ⟨kP, hkP, -⟩ := className_of_methodNamed hnamed
  have hinitP : kP.init = .initialized := Cond.initialized_spec (findClass_of_methodNamed hnamed) hkP (mvT (args := args) hZ w3)
  obtain ⟨vm₁, X₁, hstep₁⟩ := X.invokestaticUp hx hown (mvT hZ w1) (mvT hZ w2) hy hnamed hmethM hstatic hkP hinitP (g := mkF m pc Ls st) rfl (argsL := argsL) (rest := rest) (hlen _ hsigM) hst hd
  obtain ⟨v, ⟨T', L', k', n'⟩, X', ⟨L, hQ, l1, l2, l3⟩, hsteps⟩ := (backOf (len := 3) (W := W) hM hZ w4 w3 hf hl) m meth c ⟨T.setVm vm₁, locs, cells, slots⟩ { mkF m pc Ls st with stack := rest } (.invokestatic index) mk argsL.toArray X₁ rfl hsz hd (by show 2 * 0 + (rest.map fun v => v.category).sum ≤ W; rw [Nat.mul_zero, Nat.zero_add]; exact hW) (X₁.named hnamed) ⟨has, eT, hc, hs⟩
  dsimp only [Pt.U, Pt.locs, Pt.cells, Pt.slots] at X' l1 l2 l3 hsteps hQ
  subst l1 l2 l3
  exact ⟨v, T', L, X', hQ, fun t k => ((hstep₁ _ fun acts => by rw [doInvoke_state]; exact Steps.refl _).trans hsteps).trans k⟩
theorem own_getfRef (X : Stand p l e R s m args below meth c T locs cells slots) (hx : p.tables.exec = Jvm.exec) (hZ : Z.Warmed39 s.vm) {own O n d : String} {index : Nat} (hown : s.vm.findClass own = some m.cls) (w : (Cond.fieldRef own index O n d).before a0 Z = true) (eT : T.heap = h) {a : Addr} {v : Value} (F : Fld Z h a O n d v)
    {pc : Nat} {Ls : Array Slot} {rest : List Value} (hd : decode c.code pc = .ok (.getfield index, 3)) : ∀ t, Steps p.tables e below (T.setTop (mkF m (pc + 3) Ls (v :: rest))) t → Steps p.tables e below (T.setTop (mkF m pc Ls (.ref a :: rest))) t := by
  obtain ⟨cell, cf, k, i, f, h1, h2, h3, h4, -, -, h7⟩ := F
  have hW : Z.Warmed39 T.vm := wtrans hZ X.warmed
  have hw := Cond.fieldRef_warmed39 hW w
  have hcur : (Z.setVm T.vm).vm.findClass own = some m.cls := by
    show T.vm.findClass own = _
    rw [X.warmed.alike.findClass]
    exact hown
  obtain ⟨c', k', i', f', q1, q2⟩ := Cond.fieldRef_spec hcur hw
  obtain ⟨k2, hi, -⟩ := State.fieldFound?_setVm (s := Z) hW.alike h2
  rw [hi] at q1
  cases q1
  exact fun t kk => (X.getfieldR hx (g := mkF m pc Ls (.ref a :: rest)) rfl q2 h3 rfl (by rw [eT]; exact h1) h4 h7 hd (Steps.refl _)).trans kk
theorem own_sneE {a b : Addr} {cell : Cell} {C : String} (h1 : h[a]? = some cell) (h2 : cell.vm.isStatics = true) (E : Exa Z h b C) : a ≠ b := fun q => by
  obtain ⟨cell', k', e1, -, -, e4, -⟩ := E
  subst q
  cases h1.symm.trans e1
  rw [h2] at e4
  cases e4
theorem own_sneA {a b : Addr} {cell : Cell} {k : ClassId} {ty : FieldType} {n : Int32} {vs : List Value} {dv : Value} (h1 : h[a]? = some cell) (h2 : cell.vm.isStatics = true) (V : Arv Z h b k ty n vs dv) : a ≠ b := fun q => by
  obtain ⟨cl, A, -⟩ := V
  subst q
  cases h1.symm.trans A.1
  have := A.plain
  rw [h2] at this
  cases this
theorem own_sta_keepL {C n d : String} {v : Value} {h' : Heap} {ws : List Addr} (F : Sta Z h C n d v) (K : Keep h h' ws) (q : ∀ (a : Addr) (cell : Cell), h[a]? = some cell → cell.vm.isStatics = true → a ∉ ws) : Sta Z h' C n d v := by
  obtain ⟨cf, i, k, f, st, cell, h1, h2, h3, h4, h5, h6, h7⟩ := F
  exact ⟨cf, i, k, f, st, cell, h1, h2, h3, h4, K.2.1 _ _ h5 (q _ _ h5 h6), h6, h7⟩
theorem own_nf {args : Array Value} {s : State} {C : String} {x y z : MethodName} (hsel : (Cond.selects C x z).before args s = true) (hc : y.cls = z.cls) : NotFace s y := fun r0 h0 => by
  obtain ⟨c2, r2, m2, q1, q2, q3, q4, kP, hkP, hkPi⟩ := Cond.selects_spec hsel
  have e1 := findClass_of_methodNamed h0
  have e2 := findClass_of_methodNamed q3
  rw [hc] at e1
  have e3 : r0.cls = m2.cls := Option.some.inj (e1.symm.trans e2)
  exact ⟨kP, by rw [e3]; exact hkP, hkPi⟩
end OwnKit
end Jvm.RoadKit
namespace Jvm.Pilot.@@N@@
open Jvm Jvm.ClassFile Sem Op Lib Jvm.Free Jvm.Stand Jvm.LawKit Jvm.RoadKit Bundle Jvm.Pilot.@@N@@.Jvm.D
abbrev OwnK0 : String := "com/example/newt/newt/core/delivery/Change"
abbrev OwnK1 : String := "com/example/newt/newt/core/delivery/Outbox$Claim"
abbrev OwnK2 : String := "java/util/ArrayList$SubList$1"
abbrev OwnK3 : String := "java/util/ArrayList$SubList"
abbrev OwnK4 : String := "java/util/ArrayList"
abbrev OwnK5 : String := "java/util/AbstractList"
abbrev OwnK6 : String := "[Ljava/lang/Object;"
abbrev OwnK7 : String := "Ljava/util/ArrayList$SubList;"
abbrev OwnK8 : String := "Ljava/util/ArrayList;"
theorem oW {Z : State} {a0 : Array Value} (hw : ∀ d ∈ tables_1, d.before a0 Z = true) (i : Nat) {d : Jvm.Cond} (h : tables_1[i]? = some d) : d.before a0 Z = true := hw _ (List.mem_of_getElem? h)
theorem oI {a : Addr} {L : List Addr} {Q : Prop} (i : Nat) (h : L[i]? = some a) : a ∈ L ∨ Q := Or.inl (List.mem_of_getElem? h)
theorem qQ1 : parseMethodDescriptor "(JLjava/lang/String;Ljava/lang/String;Ljava/lang/String;Ljava/util/Optional;ILjava/util/OptionalLong;Ljava/util/Optional;)V" = some ⟨[.long, (.object "java/lang/String"), (.object "java/lang/String"), (.object "java/lang/String"), (.object "java/util/Optional"), .int, (.object "java/util/OptionalLong"), (.object "java/util/Optional")], none⟩ := by decide +kernel
theorem qQ155 : parseMethodDescriptor "()V" = some ⟨[], none⟩ := by decide +kernel
theorem qQ40 : parseMethodDescriptor "(Ljava/util/List;I)V" = some ⟨[(.object "java/util/List"), .int], none⟩ := by decide +kernel
theorem qQ158 : parseMethodDescriptor "()Z" = some ⟨[], some .boolean⟩ := by decide +kernel
theorem qQ36 : parseMethodDescriptor "(Ljava/lang/Object;)Z" = some ⟨[(.object "java/lang/Object")], some .boolean⟩ := by decide +kernel
theorem qQ24 : parseMethodDescriptor "(Ljava/lang/Object;[Ljava/lang/Object;I)V" = some ⟨[(.object "java/lang/Object"), (.array (.object "java/lang/Object")), .int], none⟩ := by decide +kernel
theorem qQ37 : parseMethodDescriptor "()[Ljava/lang/Object;" = some ⟨[], some (.array (.object "java/lang/Object"))⟩ := by decide +kernel
theorem qQ34 : parseMethodDescriptor "(I)[Ljava/lang/Object;" = some ⟨[.int], some (.array (.object "java/lang/Object"))⟩ := by decide +kernel
theorem qQ53 : parseMethodDescriptor "(II)I" = some ⟨[.int, .int], some .int⟩ := by decide +kernel
theorem qQ20 : parseMethodDescriptor "(Lcom/example/newt/newt/core/delivery/Change;)Z" = some ⟨[(.object OwnK0)], some .boolean⟩ := by decide +kernel
theorem qQ153 : parseMethodDescriptor "()I" = some ⟨[], some .int⟩ := by decide +kernel
theorem qQ39 : parseMethodDescriptor "(II)Ljava/util/List;" = some ⟨[.int, .int], some (.object "java/util/List")⟩ := by decide +kernel
theorem qQ41 : parseMethodDescriptor "(III)V" = some ⟨[.int, .int, .int], none⟩ := by decide +kernel
theorem qQ32 : parseMethodDescriptor "(Ljava/util/ArrayList;II)V" = some ⟨[(.object OwnK4), .int, .int], none⟩ := by decide +kernel
theorem qQ35 : parseMethodDescriptor "()Ljava/util/Iterator;" = some ⟨[], some (.object "java/util/Iterator")⟩ := by decide +kernel
theorem qQ31 : parseMethodDescriptor "()Ljava/util/ListIterator;" = some ⟨[], some (.object "java/util/ListIterator")⟩ := by decide +kernel
theorem qQ30 : parseMethodDescriptor "(I)Ljava/util/ListIterator;" = some ⟨[.int], some (.object "java/util/ListIterator")⟩ := by decide +kernel
theorem qQ64 : parseMethodDescriptor "(I)V" = some ⟨[.int], none⟩ := by decide +kernel
theorem qQ26 : parseMethodDescriptor "(Ljava/util/ArrayList$SubList;I)V" = some ⟨[(.object OwnK3), .int], none⟩ := by decide +kernel
theorem qQ38 : parseMethodDescriptor "()Ljava/lang/Object;" = some ⟨[], some (.object "java/lang/Object")⟩ := by decide +kernel
theorem qQ159 : parseMethodDescriptor "()J" = some ⟨[], some .long⟩ := by decide +kernel
theorem own_and3 (x : Int32) : x &&& 3 = 0 ∨ x &&& 3 = 1 ∨ x &&& 3 = 2 ∨ x &&& 3 = 3 := by
  have h1 := c_mask x 3 2 (by decide) (by decide)
  simp only [← Int32.toInt_inj, Int32.reduceToInt]
  omega
theorem own_nz (x : Int32) : (x &&& 3) + 1 ≠ 0 := by
  rcases own_and3 x with h | h | h | h <;> rw [h] <;> decide
theorem own_md (x y : Int32) (n : Int) (hy : y.toInt = n) (h0 : 0 < n) : 0 ≤ ((x &&& 2147483647) % y).toInt ∧ ((x &&& 2147483647) % y).toInt < n := by
  have h1 := c_mask x 2147483647 31 (by decide) (by decide)
  have h2 := (c_iremV (x &&& 2147483647) y).1 (by omega) (by omega)
  omega
theorem own_md1 (x : Int32) : (x &&& 2147483647) % (0 + 1) = 0 := by
  have h := own_md x (0 + 1) 1 (by decide) (by decide)
  simp only [← Int32.toInt_inj, Int32.reduceToInt]
  omega
theorem own_md2 (x : Int32) : (x &&& 2147483647) % (1 + 1) = 0 ∨ (x &&& 2147483647) % (1 + 1) = 1 := by
  have h := own_md x (1 + 1) 2 (by decide) (by decide)
  simp only [← Int32.toInt_inj, Int32.reduceToInt]
  omega
theorem own_md3 (x : Int32) : (x &&& 2147483647) % (2 + 1) = 0 ∨ (x &&& 2147483647) % (2 + 1) = 1 ∨ (x &&& 2147483647) % (2 + 1) = 2 := by
  have h := own_md x (2 + 1) 3 (by decide) (by decide)
  simp only [← Int32.toInt_inj, Int32.reduceToInt]
  omega
theorem own_md4 (x : Int32) : (x &&& 2147483647) % (3 + 1) = 0 ∨ (x &&& 2147483647) % (3 + 1) = 1 ∨ (x &&& 2147483647) % (3 + 1) = 2 ∨ (x &&& 2147483647) % (3 + 1) = 3 := by
  have h := own_md x (3 + 1) 4 (by decide) (by decide)
  simp only [← Int32.toInt_inj, Int32.reduceToInt]
  omega
theorem own_ne1 (b : Int64) : ¬ (b + 1 = b) := by
  rw [← Int64.toInt_inj]
  have h := c_ladd b 1
  have h1 := rng64 b
  have h3 := rng64 (b + 1)
  have e : (1 : Int64).toInt = 1 := by decide
  omega
theorem own_ne2 (b : Int64) : ¬ (b + 2 = b) := by
  rw [← Int64.toInt_inj]
  have h := c_ladd b 2
  have h1 := rng64 b
  have h3 := rng64 (b + 2)
  have e : (2 : Int64).toInt = 2 := by decide
  omega
theorem own_empty {s : State} {args : Array Value} {t : Term} {a : Addr} (ev : t.eval args s none [] s = some (.ref a)) (hA : (Jvm.Cond.arrayOf t (.object "java/lang/Object")).before args s = true) (hl : (Jvm.Cond.eq (.length t) (.int 0)).before args s = true) : ∃ k, Arv s s.heap a k (.object "java/lang/Object") 0 [] .null := by
  obtain ⟨cell, A⟩ := Arr.start ev (Cond.before_iff.mp hA)
  obtain ⟨hsz, h0⟩ := Jvm.Free.IntBox.length_fwd hl ev A.1 A.2.1 A.2.2
  have hsize : cell.slots.size = 0 := by
    have q := len_toInt hsz
    rw [h0] at q
    have : ((0 : Int32)).toInt = 0 := by decide
    omega
  refine ⟨cell.cls, cell, A, rfl, by rw [hsize]; rfl, by decide, fun i hi => ?_, fun i hi => ?_⟩
  · rw [hsize] at hi; exact absurd hi (Nat.not_lt_zero _)
  · rw [hsize] at hi; exact absurd hi (Nat.not_lt_zero _)
theorem qQ6 : plainFor (⟨"com/example/newt/newt/core/delivery/ClaimHasAheadPinLaw", "law", "(IIJ)Z"⟩ : MethodName) = true := by first | exact plainFor_of_name (by first | (simp [plainName, overriddenIn]; done) | decide +kernel) | exact Jvm.Free.JP.mathPlain rfl (by decide +kernel) | decide +kernel
theorem d1_0 : decode prog_6_method_1_code 0 = .ok (.aload_n 0, 1) := by decide +kernel
theorem d1_1 : decode prog_6_method_1_code 1 = .ok (.invokespecial 1, 3) := by decide +kernel
theorem d1_4 : decode prog_6_method_1_code 4 = .ok (.aload_n 0, 1) := by decide +kernel
theorem d1_5 : decode prog_6_method_1_code 5 = .ok (.lload_n 1, 1) := by decide +kernel
theorem d1_6 : decode prog_6_method_1_code 6 = .ok (.putfield 7, 3) := by decide +kernel
theorem d1_9 : decode prog_6_method_1_code 9 = .ok (.aload_n 0, 1) := by decide +kernel
theorem d1_10 : decode prog_6_method_1_code 10 = .ok (.aload_n 3, 1) := by decide +kernel
theorem d1_11 : decode prog_6_method_1_code 11 = .ok (.putfield 13, 3) := by decide +kernel
theorem d1_14 : decode prog_6_method_1_code 14 = .ok (.aload_n 0, 1) := by decide +kernel
theorem d1_15 : decode prog_6_method_1_code 15 = .ok (.aload 4, 2) := by decide +kernel
theorem d1_17 : decode prog_6_method_1_code 17 = .ok (.putfield 17, 3) := by decide +kernel
theorem d1_20 : decode prog_6_method_1_code 20 = .ok (.aload_n 0, 1) := by decide +kernel
theorem d1_21 : decode prog_6_method_1_code 21 = .ok (.aload 5, 2) := by decide +kernel
theorem d1_23 : decode prog_6_method_1_code 23 = .ok (.putfield 20, 3) := by decide +kernel
theorem d1_26 : decode prog_6_method_1_code 26 = .ok (.aload_n 0, 1) := by decide +kernel
theorem d1_27 : decode prog_6_method_1_code 27 = .ok (.aload 6, 2) := by decide +kernel
theorem d1_29 : decode prog_6_method_1_code 29 = .ok (.putfield 23, 3) := by decide +kernel
theorem d1_32 : decode prog_6_method_1_code 32 = .ok (.aload_n 0, 1) := by decide +kernel
theorem d1_33 : decode prog_6_method_1_code 33 = .ok (.iload 7, 2) := by decide +kernel
theorem d1_35 : decode prog_6_method_1_code 35 = .ok (.putfield 27, 3) := by decide +kernel
theorem d1_38 : decode prog_6_method_1_code 38 = .ok (.aload_n 0, 1) := by decide +kernel
theorem d1_39 : decode prog_6_method_1_code 39 = .ok (.aload 8, 2) := by decide +kernel
theorem d1_41 : decode prog_6_method_1_code 41 = .ok (.putfield 31, 3) := by decide +kernel
theorem d1_44 : decode prog_6_method_1_code 44 = .ok (.aload_n 0, 1) := by decide +kernel
theorem d1_45 : decode prog_6_method_1_code 45 = .ok (.aload 9, 2) := by decide +kernel
theorem d1_47 : decode prog_6_method_1_code 47 = .ok (.putfield 35, 3) := by decide +kernel
theorem d1_50 : decode prog_6_method_1_code 50 = .ok (.return_, 1) := by decide +kernel
theorem qQ0 : plainFor (⟨OwnK0, "<init>", "(JLjava/lang/String;Ljava/lang/String;Ljava/lang/String;Ljava/util/Optional;ILjava/util/OptionalLong;Ljava/util/Optional;)V"⟩ : MethodName) = true := by first | exact plainFor_of_name (by first | (simp [plainName, overriddenIn]; done) | decide +kernel) | exact Jvm.Free.JP.mathPlain rfl (by decide +kernel) | decide +kernel
theorem qQ161 (m : MethodId) (q0 : Addr) (q1 : Int64) (q6 : Int32) : entryFrame m #[(.ref q0), (.long q1), .null, .null, .null, .null, (.int q6), .null, .null] 10 = mkF m 0 #[rv q0, .val (.long q1), .second, .val .null, .val .null, .val .null, .val .null, iv q6, .val .null, .val .null] [] := by first | (simp [entryFrame, mkF, argsToLocals, Value.category]; done) | rfl
theorem sp1 (l : Launch) (Z : State) (a0 : Array Value) (hw : ∀ d ∈ tables_1, d.before a0 Z = true) (ws : List Jvm.Cond) (o0 : Addr) (u0 : Int64) (h0 : Heap) (n0 : Nat) (Z0 : n0 ≤ h0.size) (E_o0 : Exa Z h0 o0 OwnK0) (F_attempts_o0 : Fld Z h0 o0 OwnK0 "attempts" "I" (.int 0)) (F_feed_o0 : Fld Z h0 o0 OwnK0 "feed" "Ljava/lang/String;" .null) (F_id_o0 : Fld Z h0 o0 OwnK0 "id" "J" (.long 0)) (F_identifier_o0 : Fld Z h0 o0 OwnK0 "identifier" "Ljava/util/Optional;" .null) (F_job_o0 : Fld Z h0 o0 OwnK0 "job" "Ljava/util/Optional;" .null) (F_key_o0 : Fld Z h0 o0 OwnK0 "key" "Ljava/lang/String;" .null) (F_payload_o0 : Fld Z h0 o0 OwnK0 "payload" "Ljava/lang/String;" .null) (F_replayOf_o0 : Fld Z h0 o0 OwnK0 "replayOf" "Ljava/util/OptionalLong;" .null) (g_o0 : n0 ≤ o0) :
    OwnC l Z (⟨OwnK0, "<init>", "(JLjava/lang/String;Ljava/lang/String;Ljava/lang/String;Ljava/util/Optional;ILjava/util/OptionalLong;Ljava/util/Optional;)V"⟩ : MethodName) prog_6_method_1_code 10 none ws ({ frames := 1, cells := 0, slots := 0, locals := 12 } : Room) #[(.ref o0), (.long u0), .null, .null, .null, .null, (.int 0), .null, .null] h0 (fun v h L => v = none ∧ Fr n0 L ∧ Keep h0 h [o0] ∧ Fld Z h o0 OwnK0 "id" "J" (.long u0)) := by
  refine own_entry qQ0 (fun m => qQ161 m o0 u0 (0 : Int32)) ?_
  intro p e s m below meth c T0 X0 hC e0
  obtain ⟨hx, hB, hml, hown, hnm, hret, hlk, hZ⟩ := hC
  have N0 := Fr.nil n0
  have K0 := Keep.refl h0 [o0]
  refine oG T0 m 1 #[rv o0, .val (.long u0), .second, .val .null, .val .null, .val .null, .val .null, iv 0, .val .null, .val .null] [(.ref o0)] (fun t k => XS.aloadN X0.here hx rfl (hb hB d1_0) rfl rfl k) ?_
  obtain ⟨T1, X1, e1, st1⟩ := initO X0 hx hZ hown (oW hw 7 rfl) (oW hw 8 rfl) (oW hw 9 rfl) e0 (g := (mkF m 1 #[rv o0, .val (.long u0), .second, .val .null, .val .null, .val .null, .val .null, iv 0, .val .null, .val .null] [(.ref o0)])) rfl (by rw [hml]; rfl) rfl (hb hB d1_1) (by decide) (W := 0) (by show 2 * 0 + _ ≤ _; exact Nat.le_of_eq rfl) (by decide)
  refine oG T1 m 4 #[rv o0, .val (.long u0), .second, .val .null, .val .null, .val .null, .val .null, iv 0, .val .null, .val .null] [] (st1) ?_
  refine oG T1 m 5 #[rv o0, .val (.long u0), .second, .val .null, .val .null, .val .null, .val .null, iv 0, .val .null, .val .null] [(.ref o0)] (fun t k => XS.aloadN X1.here hx rfl (hb hB d1_4) rfl rfl k) ?_
  refine oG T1 m 6 #[rv o0, .val (.long u0), .second, .val .null, .val .null, .val .null, .val .null, iv 0, .val .null, .val .null] [(.long u0), (.ref o0)] (fun t k => XS.lloadN X1.here hx rfl (hb hB d1_5) rfl k) ?_
  obtain ⟨T2, h2, X2, e2, W2, st2⟩ := putF X1 hx hZ hown (host := "") (Or.inl (oW hw 10 rfl)) Via.refl e1 F_id_o0 E_o0 (Or.inr ⟨(oW hw 11 rfl), rfl, hnm⟩) (oW hw 2 rfl) (ty := .long) (by decide) rfl rfl (g := (mkF m 6 #[rv o0, .val (.long u0), .second, .val .null, .val .null, .val .null, .val .null, iv 0, .val .null, .val .null] [(.long u0), (.ref o0)])) rfl rfl (hb hB d1_6)
  have F2 := F_id_o0.same W2
  have cf3 := E_o0.wr W2
  have cf4 := F_attempts_o0.other W2 (Or.inr (slot_ne (Or.inr (oW hw 21 rfl)) (Or.inr (oW hw 11 rfl)) (by decide) (t := .int) (t' := .long) (by decide) (by decide)))
  have cf5 := F_feed_o0.other W2 (Or.inr (slot_ne (Or.inr (oW hw 13 rfl)) (Or.inr (oW hw 11 rfl)) (by decide) (t := (.object "java/lang/String")) (t' := .long) (by decide) (by decide)))
  have cf6 := F_identifier_o0.other W2 (Or.inr (slot_ne (Or.inr (oW hw 19 rfl)) (Or.inr (oW hw 11 rfl)) (by decide) (t := (.object "java/util/Optional")) (t' := .long) (by decide) (by decide)))
  have cf7 := F_job_o0.other W2 (Or.inr (slot_ne (Or.inr (oW hw 25 rfl)) (Or.inr (oW hw 11 rfl)) (by decide) (t := (.object "java/util/Optional")) (t' := .long) (by decide) (by decide)))
  have cf8 := F_key_o0.other W2 (Or.inr (slot_ne (Or.inr (oW hw 15 rfl)) (Or.inr (oW hw 11 rfl)) (by decide) (t := (.object "java/lang/String")) (t' := .long) (by decide) (by decide)))
  have cf9 := F_payload_o0.other W2 (Or.inr (slot_ne (Or.inr (oW hw 17 rfl)) (Or.inr (oW hw 11 rfl)) (by decide) (t := (.object "java/lang/String")) (t' := .long) (by decide) (by decide)))
  have cf10 := F_replayOf_o0.other W2 (Or.inr (slot_ne (Or.inr (oW hw 23 rfl)) (Or.inr (oW hw 11 rfl)) (by decide) (t := (.object "java/util/OptionalLong")) (t' := .long) (by decide) (by decide)))
  have Z_2 : n0 ≤ h2.size := Nat.le_trans Z0 (Keep.of_wr W2).1
  have K_2 : Keep h0 h2 [o0] := K0.wr W2 (oI 0 rfl)
  have N2 := Fr.snoc X2 N0 g_o0
  refine oG T2 m 9 #[rv o0, .val (.long u0), .second, .val .null, .val .null, .val .null, .val .null, iv 0, .val .null, .val .null] [] (st2) ?_
  refine oG T2 m 10 #[rv o0, .val (.long u0), .second, .val .null, .val .null, .val .null, .val .null, iv 0, .val .null, .val .null] [(.ref o0)] (fun t k => XS.aloadN X2.here hx rfl (hb hB d1_9) rfl rfl k) ?_
  refine oG T2 m 11 #[rv o0, .val (.long u0), .second, .val .null, .val .null, .val .null, .val .null, iv 0, .val .null, .val .null] [.null, (.ref o0)] (fun t k => XS.aloadN X2.here hx rfl (hb hB d1_10) rfl rfl k) ?_
  obtain ⟨T11, h11, X11, e11, W11, st11⟩ := putF X2 hx hZ hown (host := "") (Or.inl (oW hw 12 rfl)) Via.refl e2 cf5 cf3 (Or.inr ⟨(oW hw 13 rfl), rfl, hnm⟩) (oW hw 2 rfl) (ty := (.object "java/lang/String")) (by decide) rfl rfl (g := (mkF m 11 #[rv o0, .val (.long u0), .second, .val .null, .val .null, .val .null, .val .null, iv 0, .val .null, .val .null] [.null, (.ref o0)])) rfl rfl (hb hB d1_11)
  have F11 := cf5.same W11
  have cf12 := cf3.wr W11
  have cf13 := cf4.other W11 (Or.inr (slot_ne (Or.inr (oW hw 21 rfl)) (Or.inr (oW hw 13 rfl)) (by decide) (t := .int) (t' := (.object "java/lang/String")) (by decide) (by decide)))
  have cf14 := cf6.other W11 (Or.inr (slot_ne (Or.inr (oW hw 19 rfl)) (Or.inr (oW hw 13 rfl)) (by decide) (t := (.object "java/util/Optional")) (t' := (.object "java/lang/String")) (by decide) (by decide)))
  have cf15 := cf7.other W11 (Or.inr (slot_ne (Or.inr (oW hw 25 rfl)) (Or.inr (oW hw 13 rfl)) (by decide) (t := (.object "java/util/Optional")) (t' := (.object "java/lang/String")) (by decide) (by decide)))
  have cf16 := cf8.other W11 (Or.inr (slot_ne (Or.inr (oW hw 15 rfl)) (Or.inr (oW hw 13 rfl)) (by decide) (t := (.object "java/lang/String")) (t' := (.object "java/lang/String")) (by decide) (by decide)))
  have cf17 := cf9.other W11 (Or.inr (slot_ne (Or.inr (oW hw 17 rfl)) (Or.inr (oW hw 13 rfl)) (by decide) (t := (.object "java/lang/String")) (t' := (.object "java/lang/String")) (by decide) (by decide)))
  have cf18 := cf10.other W11 (Or.inr (slot_ne (Or.inr (oW hw 23 rfl)) (Or.inr (oW hw 13 rfl)) (by decide) (t := (.object "java/util/OptionalLong")) (t' := (.object "java/lang/String")) (by decide) (by decide)))
  have cf19 := F2.other W11 (Or.inr (slot_ne (Or.inr (oW hw 11 rfl)) (Or.inr (oW hw 13 rfl)) (by decide) (t := .long) (t' := (.object "java/lang/String")) (by decide) (by decide)))
  have Z_11 : n0 ≤ h11.size := Nat.le_trans Z_2 (Keep.of_wr W11).1
  have K_11 : Keep h0 h11 [o0] := K_2.wr W11 (oI 0 rfl)
  have N11 := Fr.snoc X11 N2 g_o0
  refine oG T11 m 14 #[rv o0, .val (.long u0), .second, .val .null, .val .null, .val .null, .val .null, iv 0, .val .null, .val .null] [] (st11) ?_
  refine oG T11 m 15 #[rv o0, .val (.long u0), .second, .val .null, .val .null, .val .null, .val .null, iv 0, .val .null, .val .null] [(.ref o0)] (fun t k => XS.aloadN X11.here hx rfl (hb hB d1_14) rfl rfl k) ?_
  refine oG T11 m 17 #[rv o0, .val (.long u0), .second, .val .null, .val .null, .val .null, .val .null, iv 0, .val .null, .val .null] [.null, (.ref o0)] (fun t k => XS.aload X11.here hx rfl (hb hB d1_15) rfl rfl k) ?_
  obtain ⟨T20, h20, X20, e20, W20, st20⟩ := putF X11 hx hZ hown (host := "") (Or.inl (oW hw 14 rfl)) Via.refl e11 cf16 cf12 (Or.inr ⟨(oW hw 15 rfl), rfl, hnm⟩) (oW hw 2 rfl) (ty := (.object "java/lang/String")) (by decide) rfl rfl (g := (mkF m 17 #[rv o0, .val (.long u0), .second, .val .null, .val .null, .val .null, .val .null, iv 0, .val .null, .val .null] [.null, (.ref o0)])) rfl rfl (hb hB d1_17)
  have F20 := cf16.same W20
  have cf21 := cf12.wr W20
  have cf22 := cf13.other W20 (Or.inr (slot_ne (Or.inr (oW hw 21 rfl)) (Or.inr (oW hw 15 rfl)) (by decide) (t := .int) (t' := (.object "java/lang/String")) (by decide) (by decide)))
  have cf23 := cf14.other W20 (Or.inr (slot_ne (Or.inr (oW hw 19 rfl)) (Or.inr (oW hw 15 rfl)) (by decide) (t := (.object "java/util/Optional")) (t' := (.object "java/lang/String")) (by decide) (by decide)))
  have cf24 := cf15.other W20 (Or.inr (slot_ne (Or.inr (oW hw 25 rfl)) (Or.inr (oW hw 15 rfl)) (by decide) (t := (.object "java/util/Optional")) (t' := (.object "java/lang/String")) (by decide) (by decide)))
  have cf25 := cf17.other W20 (Or.inr (slot_ne (Or.inr (oW hw 17 rfl)) (Or.inr (oW hw 15 rfl)) (by decide) (t := (.object "java/lang/String")) (t' := (.object "java/lang/String")) (by decide) (by decide)))
  have cf26 := cf18.other W20 (Or.inr (slot_ne (Or.inr (oW hw 23 rfl)) (Or.inr (oW hw 15 rfl)) (by decide) (t := (.object "java/util/OptionalLong")) (t' := (.object "java/lang/String")) (by decide) (by decide)))
  have cf27 := cf19.other W20 (Or.inr (slot_ne (Or.inr (oW hw 11 rfl)) (Or.inr (oW hw 15 rfl)) (by decide) (t := .long) (t' := (.object "java/lang/String")) (by decide) (by decide)))
  have cf28 := F11.other W20 (Or.inr (slot_ne (Or.inr (oW hw 13 rfl)) (Or.inr (oW hw 15 rfl)) (by decide) (t := (.object "java/lang/String")) (t' := (.object "java/lang/String")) (by decide) (by decide)))
  have Z_20 : n0 ≤ h20.size := Nat.le_trans Z_11 (Keep.of_wr W20).1
  have K_20 : Keep h0 h20 [o0] := K_11.wr W20 (oI 0 rfl)
  have N20 := Fr.snoc X20 N11 g_o0
  refine oG T20 m 20 #[rv o0, .val (.long u0), .second, .val .null, .val .null, .val .null, .val .null, iv 0, .val .null, .val .null] [] (st20) ?_
  refine oG T20 m 21 #[rv o0, .val (.long u0), .second, .val .null, .val .null, .val .null, .val .null, iv 0, .val .null, .val .null] [(.ref o0)] (fun t k => XS.aloadN X20.here hx rfl (hb hB d1_20) rfl rfl k) ?_
  refine oG T20 m 23 #[rv o0, .val (.long u0), .second, .val .null, .val .null, .val .null, .val .null, iv 0, .val .null, .val .null] [.null, (.ref o0)] (fun t k => XS.aload X20.here hx rfl (hb hB d1_21) rfl rfl k) ?_
  obtain ⟨T29, h29, X29, e29, W29, st29⟩ := putF X20 hx hZ hown (host := "") (Or.inl (oW hw 16 rfl)) Via.refl e20 cf25 cf21 (Or.inr ⟨(oW hw 17 rfl), rfl, hnm⟩) (oW hw 2 rfl) (ty := (.object "java/lang/String")) (by decide) rfl rfl (g := (mkF m 23 #[rv o0, .val (.long u0), .second, .val .null, .val .null, .val .null, .val .null, iv 0, .val .null, .val .null] [.null, (.ref o0)])) rfl rfl (hb hB d1_23)
  have F29 := cf25.same W29
  have cf30 := cf21.wr W29
  have cf31 := cf22.other W29 (Or.inr (slot_ne (Or.inr (oW hw 21 rfl)) (Or.inr (oW hw 17 rfl)) (by decide) (t := .int) (t' := (.object "java/lang/String")) (by decide) (by decide)))
  have cf32 := cf23.other W29 (Or.inr (slot_ne (Or.inr (oW hw 19 rfl)) (Or.inr (oW hw 17 rfl)) (by decide) (t := (.object "java/util/Optional")) (t' := (.object "java/lang/String")) (by decide) (by decide)))
  have cf33 := cf24.other W29 (Or.inr (slot_ne (Or.inr (oW hw 25 rfl)) (Or.inr (oW hw 17 rfl)) (by decide) (t := (.object "java/util/Optional")) (t' := (.object "java/lang/String")) (by decide) (by decide)))
  have cf34 := cf26.other W29 (Or.inr (slot_ne (Or.inr (oW hw 23 rfl)) (Or.inr (oW hw 17 rfl)) (by decide) (t := (.object "java/util/OptionalLong")) (t' := (.object "java/lang/String")) (by decide) (by decide)))
  have cf35 := cf27.other W29 (Or.inr (slot_ne (Or.inr (oW hw 11 rfl)) (Or.inr (oW hw 17 rfl)) (by decide) (t := .long) (t' := (.object "java/lang/String")) (by decide) (by decide)))
  have cf36 := cf28.other W29 (Or.inr (slot_ne (Or.inr (oW hw 13 rfl)) (Or.inr (oW hw 17 rfl)) (by decide) (t := (.object "java/lang/String")) (t' := (.object "java/lang/String")) (by decide) (by decide)))
  have cf37 := F20.other W29 (Or.inr (slot_ne (Or.inr (oW hw 15 rfl)) (Or.inr (oW hw 17 rfl)) (by decide) (t := (.object "java/lang/String")) (t' := (.object "java/lang/String")) (by decide) (by decide)))
  have Z_29 : n0 ≤ h29.size := Nat.le_trans Z_20 (Keep.of_wr W29).1
  have K_29 : Keep h0 h29 [o0] := K_20.wr W29 (oI 0 rfl)
  have N29 := Fr.snoc X29 N20 g_o0
  refine oG T29 m 26 #[rv o0, .val (.long u0), .second, .val .null, .val .null, .val .null, .val .null, iv 0, .val .null, .val .null] [] (st29) ?_
  refine oG T29 m 27 #[rv o0, .val (.long u0), .second, .val .null, .val .null, .val .null, .val .null, iv 0, .val .null, .val .null] [(.ref o0)] (fun t k => XS.aloadN X29.here hx rfl (hb hB d1_26) rfl rfl k) ?_
  refine oG T29 m 29 #[rv o0, .val (.long u0), .second, .val .null, .val .null, .val .null, .val .null, iv 0, .val .null, .val .null] [.null, (.ref o0)] (fun t k => XS.aload X29.here hx rfl (hb hB d1_27) rfl rfl k) ?_
  obtain ⟨T38, h38, X38, e38, W38, st38⟩ := putF X29 hx hZ hown (host := "") (Or.inl (oW hw 18 rfl)) Via.refl e29 cf32 cf30 (Or.inr ⟨(oW hw 19 rfl), rfl, hnm⟩) (oW hw 2 rfl) (ty := (.object "java/util/Optional")) (by decide) rfl rfl (g := (mkF m 29 #[rv o0, .val (.long u0), .second, .val .null, .val .null, .val .null, .val .null, iv 0, .val .null, .val .null] [.null, (.ref o0)])) rfl rfl (hb hB d1_29)
  have F38 := cf32.same W38
  have cf39 := cf30.wr W38
  have cf40 := cf31.other W38 (Or.inr (slot_ne (Or.inr (oW hw 21 rfl)) (Or.inr (oW hw 19 rfl)) (by decide) (t := .int) (t' := (.object "java/util/Optional")) (by decide) (by decide)))
  have cf41 := cf33.other W38 (Or.inr (slot_ne (Or.inr (oW hw 25 rfl)) (Or.inr (oW hw 19 rfl)) (by decide) (t := (.object "java/util/Optional")) (t' := (.object "java/util/Optional")) (by decide) (by decide)))
  have cf42 := cf34.other W38 (Or.inr (slot_ne (Or.inr (oW hw 23 rfl)) (Or.inr (oW hw 19 rfl)) (by decide) (t := (.object "java/util/OptionalLong")) (t' := (.object "java/util/Optional")) (by decide) (by decide)))
  have cf43 := cf35.other W38 (Or.inr (slot_ne (Or.inr (oW hw 11 rfl)) (Or.inr (oW hw 19 rfl)) (by decide) (t := .long) (t' := (.object "java/util/Optional")) (by decide) (by decide)))
  have cf44 := cf36.other W38 (Or.inr (slot_ne (Or.inr (oW hw 13 rfl)) (Or.inr (oW hw 19 rfl)) (by decide) (t := (.object "java/lang/String")) (t' := (.object "java/util/Optional")) (by decide) (by decide)))
  have cf45 := cf37.other W38 (Or.inr (slot_ne (Or.inr (oW hw 15 rfl)) (Or.inr (oW hw 19 rfl)) (by decide) (t := (.object "java/lang/String")) (t' := (.object "java/util/Optional")) (by decide) (by decide)))
  have cf46 := F29.other W38 (Or.inr (slot_ne (Or.inr (oW hw 17 rfl)) (Or.inr (oW hw 19 rfl)) (by decide) (t := (.object "java/lang/String")) (t' := (.object "java/util/Optional")) (by decide) (by decide)))
  have Z_38 : n0 ≤ h38.size := Nat.le_trans Z_29 (Keep.of_wr W38).1
  have K_38 : Keep h0 h38 [o0] := K_29.wr W38 (oI 0 rfl)
  have N38 := Fr.snoc X38 N29 g_o0
  refine oG T38 m 32 #[rv o0, .val (.long u0), .second, .val .null, .val .null, .val .null, .val .null, iv 0, .val .null, .val .null] [] (st38) ?_
  refine oG T38 m 33 #[rv o0, .val (.long u0), .second, .val .null, .val .null, .val .null, .val .null, iv 0, .val .null, .val .null] [(.ref o0)] (fun t k => XS.aloadN X38.here hx rfl (hb hB d1_32) rfl rfl k) ?_
  refine oG T38 m 35 #[rv o0, .val (.long u0), .second, .val .null, .val .null, .val .null, .val .null, iv 0, .val .null, .val .null] [(.int 0), (.ref o0)] (fun t k => XS.iload X38.here hx rfl (hb hB d1_33) rfl k) ?_
  obtain ⟨T47, h47, X47, e47, W47, st47⟩ := putF X38 hx hZ hown (host := "") (Or.inl (oW hw 20 rfl)) Via.refl e38 cf40 cf39 (Or.inr ⟨(oW hw 21 rfl), rfl, hnm⟩) (oW hw 2 rfl) (ty := .int) (by decide) rfl rfl (g := (mkF m 35 #[rv o0, .val (.long u0), .second, .val .null, .val .null, .val .null, .val .null, iv 0, .val .null, .val .null] [(.int 0), (.ref o0)])) rfl rfl (hb hB d1_35)
  have F47 := cf40.same W47
  have cf48 := cf39.wr W47
  have cf49 := cf41.other W47 (Or.inr (slot_ne (Or.inr (oW hw 25 rfl)) (Or.inr (oW hw 21 rfl)) (by decide) (t := (.object "java/util/Optional")) (t' := .int) (by decide) (by decide)))
  have cf50 := cf42.other W47 (Or.inr (slot_ne (Or.inr (oW hw 23 rfl)) (Or.inr (oW hw 21 rfl)) (by decide) (t := (.object "java/util/OptionalLong")) (t' := .int) (by decide) (by decide)))
  have cf51 := cf43.other W47 (Or.inr (slot_ne (Or.inr (oW hw 11 rfl)) (Or.inr (oW hw 21 rfl)) (by decide) (t := .long) (t' := .int) (by decide) (by decide)))
  have cf52 := cf44.other W47 (Or.inr (slot_ne (Or.inr (oW hw 13 rfl)) (Or.inr (oW hw 21 rfl)) (by decide) (t := (.object "java/lang/String")) (t' := .int) (by decide) (by decide)))
  have cf53 := cf45.other W47 (Or.inr (slot_ne (Or.inr (oW hw 15 rfl)) (Or.inr (oW hw 21 rfl)) (by decide) (t := (.object "java/lang/String")) (t' := .int) (by decide) (by decide)))
  have cf54 := cf46.other W47 (Or.inr (slot_ne (Or.inr (oW hw 17 rfl)) (Or.inr (oW hw 21 rfl)) (by decide) (t := (.object "java/lang/String")) (t' := .int) (by decide) (by decide)))
  have cf55 := F38.other W47 (Or.inr (slot_ne (Or.inr (oW hw 19 rfl)) (Or.inr (oW hw 21 rfl)) (by decide) (t := (.object "java/util/Optional")) (t' := .int) (by decide) (by decide)))
  have Z_47 : n0 ≤ h47.size := Nat.le_trans Z_38 (Keep.of_wr W47).1
  have K_47 : Keep h0 h47 [o0] := K_38.wr W47 (oI 0 rfl)
  have N47 := Fr.snoc X47 N38 g_o0
  refine oG T47 m 38 #[rv o0, .val (.long u0), .second, .val .null, .val .null, .val .null, .val .null, iv 0, .val .null, .val .null] [] (st47) ?_
  refine oG T47 m 39 #[rv o0, .val (.long u0), .second, .val .null, .val .null, .val .null, .val .null, iv 0, .val .null, .val .null] [(.ref o0)] (fun t k => XS.aloadN X47.here hx rfl (hb hB d1_38) rfl rfl k) ?_
  refine oG T47 m 41 #[rv o0, .val (.long u0), .second, .val .null, .val .null, .val .null, .val .null, iv 0, .val .null, .val .null] [.null, (.ref o0)] (fun t k => XS.aload X47.here hx rfl (hb hB d1_39) rfl rfl k) ?_
  obtain ⟨T56, h56, X56, e56, W56, st56⟩ := putF X47 hx hZ hown (host := "") (Or.inl (oW hw 22 rfl)) Via.refl e47 cf50 cf48 (Or.inr ⟨(oW hw 23 rfl), rfl, hnm⟩) (oW hw 2 rfl) (ty := (.object "java/util/OptionalLong")) (by decide) rfl rfl (g := (mkF m 41 #[rv o0, .val (.long u0), .second, .val .null, .val .null, .val .null, .val .null, iv 0, .val .null, .val .null] [.null, (.ref o0)])) rfl rfl (hb hB d1_41)
  have F56 := cf50.same W56
  have cf57 := cf48.wr W56
  have cf58 := cf49.other W56 (Or.inr (slot_ne (Or.inr (oW hw 25 rfl)) (Or.inr (oW hw 23 rfl)) (by decide) (t := (.object "java/util/Optional")) (t' := (.object "java/util/OptionalLong")) (by decide) (by decide)))
  have cf59 := cf51.other W56 (Or.inr (slot_ne (Or.inr (oW hw 11 rfl)) (Or.inr (oW hw 23 rfl)) (by decide) (t := .long) (t' := (.object "java/util/OptionalLong")) (by decide) (by decide)))
  have cf60 := cf52.other W56 (Or.inr (slot_ne (Or.inr (oW hw 13 rfl)) (Or.inr (oW hw 23 rfl)) (by decide) (t := (.object "java/lang/String")) (t' := (.object "java/util/OptionalLong")) (by decide) (by decide)))
  have cf61 := cf53.other W56 (Or.inr (slot_ne (Or.inr (oW hw 15 rfl)) (Or.inr (oW hw 23 rfl)) (by decide) (t := (.object "java/lang/String")) (t' := (.object "java/util/OptionalLong")) (by decide) (by decide)))
  have cf62 := cf54.other W56 (Or.inr (slot_ne (Or.inr (oW hw 17 rfl)) (Or.inr (oW hw 23 rfl)) (by decide) (t := (.object "java/lang/String")) (t' := (.object "java/util/OptionalLong")) (by decide) (by decide)))
  have cf63 := cf55.other W56 (Or.inr (slot_ne (Or.inr (oW hw 19 rfl)) (Or.inr (oW hw 23 rfl)) (by decide) (t := (.object "java/util/Optional")) (t' := (.object "java/util/OptionalLong")) (by decide) (by decide)))
  have cf64 := F47.other W56 (Or.inr (slot_ne (Or.inr (oW hw 21 rfl)) (Or.inr (oW hw 23 rfl)) (by decide) (t := .int) (t' := (.object "java/util/OptionalLong")) (by decide) (by decide)))
  have Z_56 : n0 ≤ h56.size := Nat.le_trans Z_47 (Keep.of_wr W56).1
  have K_56 : Keep h0 h56 [o0] := K_47.wr W56 (oI 0 rfl)
  have N56 := Fr.snoc X56 N47 g_o0
  refine oG T56 m 44 #[rv o0, .val (.long u0), .second, .val .null, .val .null, .val .null, .val .null, iv 0, .val .null, .val .null] [] (st56) ?_
  refine oG T56 m 45 #[rv o0, .val (.long u0), .second, .val .null, .val .null, .val .null, .val .null, iv 0, .val .null, .val .null] [(.ref o0)] (fun t k => XS.aloadN X56.here hx rfl (hb hB d1_44) rfl rfl k) ?_
  refine oG T56 m 47 #[rv o0, .val (.long u0), .second, .val .null, .val .null, .val .null, .val .null, iv 0, .val .null, .val .null] [.null, (.ref o0)] (fun t k => XS.aload X56.here hx rfl (hb hB d1_45) rfl rfl k) ?_
  obtain ⟨T65, h65, X65, e65, W65, st65⟩ := putF X56 hx hZ hown (host := "") (Or.inl (oW hw 24 rfl)) Via.refl e56 cf58 cf57 (Or.inr ⟨(oW hw 25 rfl), rfl, hnm⟩) (oW hw 2 rfl) (ty := (.object "java/util/Optional")) (by decide) rfl rfl (g := (mkF m 47 #[rv o0, .val (.long u0), .second, .val .null, .val .null, .val .null, .val .null, iv 0, .val .null, .val .null] [.null, (.ref o0)])) rfl rfl (hb hB d1_47)
  have F65 := cf58.same W65
  have cf66 := cf57.wr W65
  have cf67 := cf59.other W65 (Or.inr (slot_ne (Or.inr (oW hw 11 rfl)) (Or.inr (oW hw 25 rfl)) (by decide) (t := .long) (t' := (.object "java/util/Optional")) (by decide) (by decide)))
  have cf68 := cf60.other W65 (Or.inr (slot_ne (Or.inr (oW hw 13 rfl)) (Or.inr (oW hw 25 rfl)) (by decide) (t := (.object "java/lang/String")) (t' := (.object "java/util/Optional")) (by decide) (by decide)))
  have cf69 := cf61.other W65 (Or.inr (slot_ne (Or.inr (oW hw 15 rfl)) (Or.inr (oW hw 25 rfl)) (by decide) (t := (.object "java/lang/String")) (t' := (.object "java/util/Optional")) (by decide) (by decide)))
  have cf70 := cf62.other W65 (Or.inr (slot_ne (Or.inr (oW hw 17 rfl)) (Or.inr (oW hw 25 rfl)) (by decide) (t := (.object "java/lang/String")) (t' := (.object "java/util/Optional")) (by decide) (by decide)))
  have cf71 := cf63.other W65 (Or.inr (slot_ne (Or.inr (oW hw 19 rfl)) (Or.inr (oW hw 25 rfl)) (by decide) (t := (.object "java/util/Optional")) (t' := (.object "java/util/Optional")) (by decide) (by decide)))
  have cf72 := cf64.other W65 (Or.inr (slot_ne (Or.inr (oW hw 21 rfl)) (Or.inr (oW hw 25 rfl)) (by decide) (t := .int) (t' := (.object "java/util/Optional")) (by decide) (by decide)))
  have cf73 := F56.other W65 (Or.inr (slot_ne (Or.inr (oW hw 23 rfl)) (Or.inr (oW hw 25 rfl)) (by decide) (t := (.object "java/util/OptionalLong")) (t' := (.object "java/util/Optional")) (by decide) (by decide)))
  have Z_65 : n0 ≤ h65.size := Nat.le_trans Z_56 (Keep.of_wr W65).1
  have K_65 : Keep h0 h65 [o0] := K_56.wr W65 (oI 0 rfl)
  have N65 := Fr.snoc X65 N56 g_o0
  refine oG T65 m 50 #[rv o0, .val (.long u0), .second, .val .null, .val .null, .val .null, .val .null, iv 0, .val .null, .val .null] [] (st65) ?_
  refine own_retV X65 hx hlk hret (hb hB d1_50) (by decide) (by decide) ?_
  rw [e65]
  exact ⟨rfl, N65, K_65, cf67⟩
theorem d3_0 : decode jdk_38_method_2_code 0 = .ok (.aload_n 0, 1) := by decide +kernel
theorem d3_1 : decode jdk_38_method_2_code 1 = .ok (.invokespecial 1, 3) := by decide +kernel
theorem d3_4 : decode jdk_38_method_2_code 4 = .ok (.aload_n 0, 1) := by decide +kernel
theorem d3_5 : decode jdk_38_method_2_code 5 = .ok (.getstatic 39, 3) := by decide +kernel
theorem d3_8 : decode jdk_38_method_2_code 8 = .ok (.putfield 9, 3) := by decide +kernel
theorem d3_11 : decode jdk_38_method_2_code 11 = .ok (.return_, 1) := by decide +kernel
theorem qQ28 : plainFor (⟨OwnK4, "<init>", "()V"⟩ : MethodName) = true := by first | exact plainFor_of_name (by first | (simp [plainName, overriddenIn]; done) | decide +kernel) | exact Jvm.Free.JP.mathPlain rfl (by decide +kernel) | decide +kernel
theorem d4_0 : decode jdk_39_method_1_code 0 = .ok (.aload_n 0, 1) := by decide +kernel
theorem d4_1 : decode jdk_39_method_1_code 1 = .ok (.invokespecial 1, 3) := by decide +kernel
theorem d4_4 : decode jdk_39_method_1_code 4 = .ok (.aload_n 0, 1) := by decide +kernel
theorem d4_5 : decode jdk_39_method_1_code 5 = .ok (.iconst 0, 1) := by decide +kernel
theorem d4_6 : decode jdk_39_method_1_code 6 = .ok (.putfield 7, 3) := by decide +kernel
theorem d4_9 : decode jdk_39_method_1_code 9 = .ok (.return_, 1) := by decide +kernel
theorem qQ27 : plainFor (⟨OwnK5, "<init>", "()V"⟩ : MethodName) = true := by first | exact plainFor_of_name (by first | (simp [plainName, overriddenIn]; done) | decide +kernel) | exact Jvm.Free.JP.mathPlain rfl (by decide +kernel) | decide +kernel
theorem d5_0 : decode jdk_22_method_1_code 0 = .ok (.aload_n 0, 1) := by decide +kernel
theorem d5_1 : decode jdk_22_method_1_code 1 = .ok (.invokespecial 1, 3) := by decide +kernel
theorem d5_4 : decode jdk_22_method_1_code 4 = .ok (.return_, 1) := by decide +kernel
theorem qQ25 : plainFor (⟨"java/util/AbstractCollection", "<init>", "()V"⟩ : MethodName) = true := by first | exact plainFor_of_name (by first | (simp [plainName, overriddenIn]; done) | decide +kernel) | exact Jvm.Free.JP.mathPlain rfl (by decide +kernel) | decide +kernel
theorem qQ152 (m : MethodId) (q0 : Addr) : entryFrame m #[(.ref q0)] 1 = mkF m 0 #[rv q0] [] := by first | (simp [entryFrame, mkF, argsToLocals, Value.category]; done) | rfl
theorem sp4 (l : Launch) (Z : State) (a0 : Array Value) (hw : ∀ d ∈ tables_1, d.before a0 Z = true) (ws : List Jvm.Cond) (o0 : Addr) (h0 : Heap) (n0 : Nat) (Z0 : n0 ≤ h0.size) :
    OwnC l Z (⟨"java/util/AbstractCollection", "<init>", "()V"⟩ : MethodName) jdk_22_method_1_code 1 none ws ({ frames := 1, cells := 0, slots := 0, locals := 12 } : Room) #[(.ref o0)] h0 (fun v h L => v = none ∧ h = h0 ∧ L = []) := by
  refine own_entry qQ25 (fun m => qQ152 m o0) ?_
  intro p e s m below meth c T0 X0 hC e0
  obtain ⟨hx, hB, hml, hown, hnm, hret, hlk, hZ⟩ := hC
  have N0 := Fr.nil n0
  have K0 := Keep.refl h0 []
  refine oG T0 m 1 #[rv o0] [(.ref o0)] (fun t k => XS.aloadN X0.here hx rfl (hb hB d5_0) rfl rfl k) ?_
  obtain ⟨T1, X1, e1, st1⟩ := initO X0 hx hZ hown (oW hw 45 rfl) (oW hw 8 rfl) (oW hw 9 rfl) e0 (g := (mkF m 1 #[rv o0] [(.ref o0)])) rfl (by rw [hml]; rfl) rfl (hb hB d5_1) (by decide) (W := 0) (by show 2 * 0 + _ ≤ _; exact Nat.le_of_eq rfl) (by decide)
  refine oG T1 m 4 #[rv o0] [] (st1) ?_
  refine own_retV X1 hx hlk hret (hb hB d5_4) (by decide) (by decide) ?_
  exact ⟨rfl, e1, rfl⟩
theorem qQ162 (m : MethodId) (q0 : Addr) : entryFrame m #[(.ref q0)] 1 = mkF m 0 #[rv q0] [] := by first | (simp [entryFrame, mkF, argsToLocals, Value.category]; done) | rfl
theorem sp3 (l : Launch) (Z : State) (a0 : Array Value) (hw : ∀ d ∈ tables_1, d.before a0 Z = true) (ws : List Jvm.Cond) (o0 : Addr) (h0 : Heap) (n0 : Nat) (Z0 : n0 ≤ h0.size) (E_o0 : Exa Z h0 o0 OwnK4) (F_elementData_o0 : Fld Z h0 o0 OwnK4 "elementData" OwnK6 .null) (F_mC_o0 : Fld Z h0 o0 OwnK5 "modCount" "I" (.int 0)) (F_size_o0 : Fld Z h0 o0 OwnK4 "size" "I" (.int 0)) (g_o0 : n0 ≤ o0) :
    OwnC l Z (⟨OwnK5, "<init>", "()V"⟩ : MethodName) jdk_39_method_1_code 1 none ws ({ frames := 2, cells := 0, slots := 0, locals := 24 } : Room) #[(.ref o0)] h0 (fun v h L => v = none ∧ Fr n0 L ∧ Keep h0 h [o0] ∧ Fld Z h o0 OwnK4 "elementData" OwnK6 .null ∧ Fld Z h o0 OwnK4 "size" "I" (.int 0) ∧ Fld Z h o0 OwnK5 "modCount" "I" (.int 0)) := by
  refine own_entry qQ27 (fun m => qQ162 m o0) ?_
  intro p e s m below meth c T0 X0 hC e0
  obtain ⟨hx, hB, hml, hown, hnm, hret, hlk, hZ⟩ := hC
  have N0 := Fr.nil n0
  have K0 := Keep.refl h0 [o0]
  refine oG T0 m 1 #[rv o0] [(.ref o0)] (fun t k => XS.aloadN X0.here hx rfl (hb hB d4_0) rfl rfl k) ?_
  obtain ⟨_, T1, L1, X1, ⟨rfl, e1, rfl⟩, st1⟩ := own_init X0 hx hZ (y := (⟨"java/util/AbstractCollection", "<init>", "()V"⟩ : MethodName)) rfl hown (oW hw 39 rfl) (oW hw 40 rfl) (oW hw 43 rfl) (oW hw 44 rfl) (by decide) (sp4 l Z a0 hw [] o0 h0 n0 Z0 ) e0 (a := o0) 0 (argsL := []) (rest := []) (Ls := #[rv o0]) (by rw [hml]; rfl) (lenOf qQ155 rfl) rfl rfl (Nat.le_of_eq rfl) (hb hB d4_1) (by decide) (by decide) (by decide) (by decide)
  replace X1 := own_nil X1
  refine oG T1 m 4 #[rv o0] [] (st1) ?_
  refine oG T1 m 5 #[rv o0] [(.ref o0)] (fun t k => XS.aloadN X1.here hx rfl (hb hB d4_4) rfl rfl k) ?_
  refine oG T1 m 6 #[rv o0] [(.int 0), (.ref o0)] (fun t k => XS.iconst X1.here hx rfl (hb hB d4_5) k) ?_
  obtain ⟨T2, h2, X2, e2, W2, st2⟩ := putF X1 hx hZ hown (host := "") (Or.inl (oW hw 46 rfl)) Via.refl e1 F_mC_o0 E_o0 (Or.inl (oW hw 47 rfl)) (oW hw 28 rfl) (ty := .int) (by decide) rfl rfl (g := (mkF m 6 #[rv o0] [(.int 0), (.ref o0)])) rfl rfl (hb hB d4_6)
  have F2 := F_mC_o0.same W2
  have cf3 := E_o0.wr W2
  have cf4 := F_elementData_o0.other W2 (Or.inr (slot_ne (Or.inl (oW hw 50 rfl)) (Or.inl (oW hw 47 rfl)) (by decide) (t := (.array (.object "java/lang/Object"))) (t' := .int) (by decide) (by decide)))
  have cf5 := F_size_o0.other W2 (Or.inr (slot_ne (Or.inl (oW hw 75 rfl)) (Or.inl (oW hw 47 rfl)) (by decide) (t := .int) (t' := .int) (by decide) (by decide)))
  have Z_2 : n0 ≤ h2.size := Nat.le_trans Z0 (Keep.of_wr W2).1
  have K_2 : Keep h0 h2 [o0] := K0.wr W2 (oI 0 rfl)
  have N2 := Fr.snoc X2 N0 g_o0
  refine oG T2 m 9 #[rv o0] [] (st2) ?_
  refine own_retV X2 hx hlk hret (hb hB d4_9) (by decide) (by decide) ?_
  rw [e2]
  exact ⟨rfl, N2, K_2, cf4, cf5, F2⟩
theorem qQ157 (m : MethodId) (q0 : Addr) : entryFrame m #[(.ref q0)] 1 = mkF m 0 #[rv q0] [] := by first | (simp [entryFrame, mkF, argsToLocals, Value.category]; done) | rfl
theorem sp2 (l : Launch) (Z : State) (a0 : Array Value) (hw : ∀ d ∈ tables_1, d.before a0 Z = true) (ws : List Jvm.Cond) (o0 o1 : Addr) (h0 : Heap) (n0 : Nat) (Z0 : n0 ≤ h0.size) (E_o0 : Exa Z h0 o0 OwnK4) (F_elementData_o0 : Fld Z h0 o0 OwnK4 "elementData" OwnK6 .null) (F_mC_o0 : Fld Z h0 o0 OwnK5 "modCount" "I" (.int 0)) (F_size_o0 : Fld Z h0 o0 OwnK4 "size" "I" (.int 0)) (S_DEFAULTCAPACITY_EMPTY_ELEMENTDATA : Sta Z h0 OwnK4 "DEFAULTCAPACITY_EMPTY_ELEMENTDATA" OwnK6 (.ref o1)) (ne_o0_o1 : o0 ≠ o1) (g_o0 : n0 ≤ o0) :
    OwnC l Z (⟨OwnK4, "<init>", "()V"⟩ : MethodName) jdk_38_method_2_code 1 none ws ({ frames := 3, cells := 0, slots := 0, locals := 36 } : Room) #[(.ref o0)] h0 (fun v h L => v = none ∧ Fr n0 L ∧ Keep h0 h [o0] ∧ Fld Z h o0 OwnK4 "size" "I" (.int 0) ∧ Fld Z h o0 OwnK5 "modCount" "I" (.int 0) ∧ Fld Z h o0 OwnK4 "elementData" OwnK6 (.ref o1)) := by
  refine own_entry qQ28 (fun m => qQ157 m o0) ?_
  intro p e s m below meth c T0 X0 hC e0
  obtain ⟨hx, hB, hml, hown, hnm, hret, hlk, hZ⟩ := hC
  have N0 := Fr.nil n0
  have K0 := Keep.refl h0 [o0]
  refine oG T0 m 1 #[rv o0] [(.ref o0)] (fun t k => XS.aloadN X0.here hx rfl (hb hB d3_0) rfl rfl k) ?_
  obtain ⟨_, T1, L1, X1, ⟨rfl, Nq1, Kq1, fq0_1, fq1_1, fq2_1⟩, st1⟩ := own_init X0 hx hZ (y := (⟨OwnK5, "<init>", "()V"⟩ : MethodName)) rfl hown (oW hw 33 rfl) (oW hw 34 rfl) (oW hw 37 rfl) (oW hw 38 rfl) (by decide) (sp3 l Z a0 hw [] o0 h0 n0 Z0 E_o0 F_elementData_o0 F_mC_o0 F_size_o0 g_o0) e0 (a := o0) 0 (argsL := []) (rest := []) (Ls := #[rv o0]) (by rw [hml]; rfl) (lenOf qQ155 rfl) rfl rfl (Nat.le_of_eq rfl) (hb hB d3_1) (by decide) (by decide) (by decide) (by decide)
  have N1 := Fr.app N0 Nq1
  have cf2 := E_o0.keep Kq1
  have cf3 := own_sta_keepL S_DEFAULTCAPACITY_EMPTY_ELEMENTDATA Kq1 (fun a cell h1 h2 => (ninS (own_sneE h1 h2 E_o0) nin0))
  have Z_1 : n0 ≤ T1.heap.size := Nat.le_trans Z0 Kq1.1
  have K_1 : Keep h0 T1.heap [o0] := K0.trans Kq1 (allS (oI 0 rfl) all0)
  refine oG T1 m 4 #[rv o0] [] (st1) ?_
  refine oG T1 m 5 #[rv o0] [(.ref o0)] (fun t k => XS.aloadN X1.here hx rfl (hb hB d3_4) rfl rfl k) ?_
  obtain ⟨T4, X4, e4, st4⟩ := getS2 X1 hx hZ hown (host := "") (Or.inl (oW hw 48 rfl)) Via.refl rfl cf3 (g := (mkF m 5 #[rv o0] [(.ref o0)])) rfl (hb hB d3_5)
  refine oG T4 m 8 #[rv o0] [(.ref o1), (.ref o0)] (st4) ?_
  obtain ⟨T5, h5, X5, e5, W5, st5⟩ := putF X4 hx hZ hown (host := "") (Or.inl (oW hw 49 rfl)) Via.refl e4 fq0_1 cf2 (Or.inl (oW hw 50 rfl)) (oW hw 28 rfl) (ty := (.array (.object "java/lang/Object"))) (by decide) rfl rfl (g := (mkF m 8 #[rv o0] [(.ref o1), (.ref o0)])) rfl rfl (hb hB d3_8)
  have F5 := fq0_1.same W5
  have cf6 := cf2.wr W5
  have cf7 := cf3.wr W5
  have cf8 := fq1_1.other W5 (Or.inr (slot_ne (Or.inl (oW hw 75 rfl)) (Or.inl (oW hw 50 rfl)) (by decide) (t := .int) (t' := (.array (.object "java/lang/Object"))) (by decide) (by decide)))
  have cf9 := fq2_1.other W5 (Or.inr (slot_ne (Or.inl (oW hw 47 rfl)) (Or.inl (oW hw 50 rfl)) (by decide) (t := .int) (t' := (.array (.object "java/lang/Object"))) (by decide) (by decide)))
  have Z_5 : n0 ≤ h5.size := Nat.le_trans Z_1 (Keep.of_wr W5).1
  have K_5 : Keep h0 h5 [o0] := K_1.wr W5 (oI 0 rfl)
  have N5 := Fr.snoc X5 N1 g_o0
  refine oG T5 m 11 #[rv o0] [] (st5) ?_
  refine own_retV X5 hx hlk hret (hb hB d3_11) (by decide) (by decide) ?_
  rw [e5]
  exact ⟨rfl, N5, K_5, cf8, cf9, F5⟩
theorem d6_0 : decode prog_11_method_1_code 0 = .ok (.aload_n 0, 1) := by decide +kernel
theorem d6_1 : decode prog_11_method_1_code 1 = .ok (.invokespecial 1, 3) := by decide +kernel
theorem d6_4 : decode prog_11_method_1_code 4 = .ok (.aload_n 0, 1) := by decide +kernel
theorem d6_5 : decode prog_11_method_1_code 5 = .ok (.aload_n 1, 1) := by decide +kernel
theorem d6_6 : decode prog_11_method_1_code 6 = .ok (.putfield 7, 3) := by decide +kernel
theorem d6_9 : decode prog_11_method_1_code 9 = .ok (.aload_n 0, 1) := by decide +kernel
theorem d6_10 : decode prog_11_method_1_code 10 = .ok (.iload_n 2, 1) := by decide +kernel
theorem d6_11 : decode prog_11_method_1_code 11 = .ok (.putfield 13, 3) := by decide +kernel
theorem d6_14 : decode prog_11_method_1_code 14 = .ok (.return_, 1) := by decide +kernel
theorem qQ3 : plainFor (⟨OwnK1, "<init>", "(Ljava/util/List;I)V"⟩ : MethodName) = true := by first | exact plainFor_of_name (by first | (simp [plainName, overriddenIn]; done) | decide +kernel) | exact Jvm.Free.JP.mathPlain rfl (by decide +kernel) | decide +kernel
theorem qQ156 (m : MethodId) (q0 : Addr) (q1 : Addr) (q2 : Int32) : entryFrame m #[(.ref q0), (.ref q1), (.int q2)] 3 = mkF m 0 #[rv q0, rv q1, iv q2] [] := by first | (simp [entryFrame, mkF, argsToLocals, Value.category]; done) | rfl
theorem sp5 (l : Launch) (Z : State) (a0 : Array Value) (hw : ∀ d ∈ tables_1, d.before a0 Z = true) (ws : List Jvm.Cond) (o0 o1 : Addr) (h0 : Heap) (n0 : Nat) (Z0 : n0 ≤ h0.size) (E_o0 : Exa Z h0 o0 OwnK1) (F_ahead_o0 : Fld Z h0 o0 OwnK1 "ahead" "I" (.int 0)) (F_changes_o0 : Fld Z h0 o0 OwnK1 "changes" "Ljava/util/List;" .null) (ne_o0_o1 : o0 ≠ o1) (g_o0 : n0 ≤ o0) :
    OwnC l Z (⟨OwnK1, "<init>", "(Ljava/util/List;I)V"⟩ : MethodName) prog_11_method_1_code 3 none ws ({ frames := 1, cells := 0, slots := 0, locals := 12 } : Room) #[(.ref o0), (.ref o1), (.int 0)] h0 (fun v h L => v = none ∧ Fr n0 L ∧ Keep h0 h [o0] ∧ Fld Z h o0 OwnK1 "changes" "Ljava/util/List;" (.ref o1) ∧ Fld Z h o0 OwnK1 "ahead" "I" (.int 0)) := by
  refine own_entry qQ3 (fun m => qQ156 m o0 o1 (0 : Int32)) ?_
  intro p e s m below meth c T0 X0 hC e0
  obtain ⟨hx, hB, hml, hown, hnm, hret, hlk, hZ⟩ := hC
  have N0 := Fr.nil n0
  have K0 := Keep.refl h0 [o0]
  refine oG T0 m 1 #[rv o0, rv o1, iv 0] [(.ref o0)] (fun t k => XS.aloadN X0.here hx rfl (hb hB d6_0) rfl rfl k) ?_
  obtain ⟨T1, X1, e1, st1⟩ := initO X0 hx hZ hown (oW hw 57 rfl) (oW hw 8 rfl) (oW hw 9 rfl) e0 (g := (mkF m 1 #[rv o0, rv o1, iv 0] [(.ref o0)])) rfl (by rw [hml]; rfl) rfl (hb hB d6_1) (by decide) (W := 0) (by show 2 * 0 + _ ≤ _; exact Nat.le_of_eq rfl) (by decide)
  refine oG T1 m 4 #[rv o0, rv o1, iv 0] [] (st1) ?_
  refine oG T1 m 5 #[rv o0, rv o1, iv 0] [(.ref o0)] (fun t k => XS.aloadN X1.here hx rfl (hb hB d6_4) rfl rfl k) ?_
  refine oG T1 m 6 #[rv o0, rv o1, iv 0] [(.ref o1), (.ref o0)] (fun t k => XS.aloadN X1.here hx rfl (hb hB d6_5) rfl rfl k) ?_
  obtain ⟨T2, h2, X2, e2, W2, st2⟩ := putF X1 hx hZ hown (host := "") (Or.inl (oW hw 58 rfl)) Via.refl e1 F_changes_o0 E_o0 (Or.inr ⟨(oW hw 59 rfl), rfl, hnm⟩) (oW hw 52 rfl) (ty := (.object "java/util/List")) (by decide) rfl rfl (g := (mkF m 6 #[rv o0, rv o1, iv 0] [(.ref o1), (.ref o0)])) rfl rfl (hb hB d6_6)
  have F2 := F_changes_o0.same W2
  have cf3 := E_o0.wr W2
  have cf4 := F_ahead_o0.other W2 (Or.inr (slot_ne (Or.inr (oW hw 61 rfl)) (Or.inr (oW hw 59 rfl)) (by decide) (t := .int) (t' := (.object "java/util/List")) (by decide) (by decide)))
  have Z_2 : n0 ≤ h2.size := Nat.le_trans Z0 (Keep.of_wr W2).1
  have K_2 : Keep h0 h2 [o0] := K0.wr W2 (oI 0 rfl)
  have N2 := Fr.snoc X2 N0 g_o0
  refine oG T2 m 9 #[rv o0, rv o1, iv 0] [] (st2) ?_
  refine oG T2 m 10 #[rv o0, rv o1, iv 0] [(.ref o0)] (fun t k => XS.aloadN X2.here hx rfl (hb hB d6_9) rfl rfl k) ?_
  refine oG T2 m 11 #[rv o0, rv o1, iv 0] [(.int 0), (.ref o0)] (fun t k => XS.iloadN X2.here hx rfl (hb hB d6_10) rfl k) ?_
  obtain ⟨T5, h5, X5, e5, W5, st5⟩ := putF X2 hx hZ hown (host := "") (Or.inl (oW hw 60 rfl)) Via.refl e2 cf4 cf3 (Or.inr ⟨(oW hw 61 rfl), rfl, hnm⟩) (oW hw 52 rfl) (ty := .int) (by decide) rfl rfl (g := (mkF m 11 #[rv o0, rv o1, iv 0] [(.int 0), (.ref o0)])) rfl rfl (hb hB d6_11)
  have F5 := cf4.same W5
  have cf6 := cf3.wr W5
  have cf7 := F2.other W5 (Or.inr (slot_ne (Or.inr (oW hw 59 rfl)) (Or.inr (oW hw 61 rfl)) (by decide) (t := (.object "java/util/List")) (t' := .int) (by decide) (by decide)))
  have Z_5 : n0 ≤ h5.size := Nat.le_trans Z_2 (Keep.of_wr W5).1
  have K_5 : Keep h0 h5 [o0] := K_2.wr W5 (oI 0 rfl)
  have N5 := Fr.snoc X5 N2 g_o0
  refine oG T5 m 14 #[rv o0, rv o1, iv 0] [] (st5) ?_
  refine own_retV X5 hx hlk hret (hb hB d6_14) (by decide) (by decide) ?_
  rw [e5]
  exact ⟨rfl, N5, K_5, cf7, F5⟩
theorem d7_0 : decode prog_11_method_3_code 0 = .ok (.aload_n 0, 1) := by decide +kernel
theorem d7_1 : decode prog_11_method_3_code 1 = .ok (.getfield 13, 3) := by decide +kernel
theorem d7_4 : decode prog_11_method_3_code 4 = .ok (.ifCond .le 7, 3) := by decide +kernel
theorem d7_7 : decode prog_11_method_3_code 7 = .ok (.iconst 1, 1) := by decide +kernel
theorem d7_8 : decode prog_11_method_3_code 8 = .ok (.goto 4, 3) := by decide +kernel
theorem d7_11 : decode prog_11_method_3_code 11 = .ok (.iconst 0, 1) := by decide +kernel
theorem d7_12 : decode prog_11_method_3_code 12 = .ok (.ireturn, 1) := by decide +kernel
theorem qQ9 : plainFor (⟨OwnK1, "hasAhead", "()Z"⟩ : MethodName) = true := by first | exact plainFor_of_name (by first | (simp [plainName, overriddenIn]; done) | decide +kernel) | exact Jvm.Free.JP.mathPlain rfl (by decide +kernel) | decide +kernel
theorem qQ154 (m : MethodId) (q0 : Addr) : entryFrame m #[(.ref q0)] 1 = mkF m 0 #[rv q0] [] := by first | (simp [entryFrame, mkF, argsToLocals, Value.category]; done) | rfl
theorem sp6 (l : Launch) (Z : State) (a0 : Array Value) (hw : ∀ d ∈ tables_1, d.before a0 Z = true) (ws : List Jvm.Cond) (o0 : Addr) (h0 : Heap) (n0 : Nat) (Z0 : n0 ≤ h0.size) (F_ahead_o0 : Fld Z h0 o0 OwnK1 "ahead" "I" (.int 0)) :
    OwnC l Z (⟨OwnK1, "hasAhead", "()Z"⟩ : MethodName) prog_11_method_3_code 1 (some .boolean) ws ({ frames := 0, cells := 0, slots := 0, locals := 0 } : Room) #[(.ref o0)] h0 (fun v h L => v = some (.int 0) ∧ h = h0 ∧ L = []) := by
  refine own_entry qQ9 (fun m => qQ154 m o0) ?_
  intro p e s m below meth c T0 X0 hC e0
  obtain ⟨hx, hB, hml, hown, hnm, hret, hlk, hZ⟩ := hC
  have N0 := Fr.nil n0
  have K0 := Keep.refl h0 []
  refine oG T0 m 1 #[rv o0] [(.ref o0)] (fun t k => XS.aloadN X0.here hx rfl (hb hB d7_0) rfl rfl k) ?_
  obtain ⟨T1, X1, e1, st1⟩ := getF X0 hx hZ hown (host := "") (Or.inl (oW hw 60 rfl)) Via.refl e0 F_ahead_o0 (g := (mkF m 1 #[rv o0] [(.ref o0)])) rfl rfl (hb hB d7_1)
  refine oG T1 m 4 #[rv o0] [(.int 0)] (st1) ?_
  refine oG T1 m 11 #[rv o0] [] (fun t k => XS.ifYes X1.here hx rfl (pc0 := 4) (pc' := 11) rfl (hb hB d7_4) rfl ((if0 _ _).trans (flt (by decide)).2.2.2) (by decide) (by decide) k) ?_
  refine oG T1 m 12 #[rv o0] [(.int 0)] (fun t k => XS.iconst X1.here hx rfl (hb hB d7_11) k) ?_
  refine own_retZ X1 hx hlk hret (by decide) (hb hB d7_12) (by decide) (by decide) ?_
  exact ⟨rfl, e1, rfl⟩
theorem d8_0 : decode jdk_38_method_25_code 0 = .ok (.aload_n 0, 1) := by decide +kernel
theorem d8_1 : decode jdk_38_method_25_code 1 = .ok (.dup, 1) := by decide +kernel
theorem d8_2 : decode jdk_38_method_25_code 2 = .ok (.getfield 63, 3) := by decide +kernel
theorem d8_5 : decode jdk_38_method_25_code 5 = .ok (.iconst 1, 1) := by decide +kernel
theorem d8_6 : decode jdk_38_method_25_code 6 = .ok (.iadd, 1) := by decide +kernel
theorem d8_7 : decode jdk_38_method_25_code 7 = .ok (.putfield 63, 3) := by decide +kernel
theorem d8_10 : decode jdk_38_method_25_code 10 = .ok (.aload_n 0, 1) := by decide +kernel
theorem d8_11 : decode jdk_38_method_25_code 11 = .ok (.aload_n 1, 1) := by decide +kernel
theorem d8_12 : decode jdk_38_method_25_code 12 = .ok (.aload_n 0, 1) := by decide +kernel
theorem d8_13 : decode jdk_38_method_25_code 13 = .ok (.getfield 9, 3) := by decide +kernel
theorem d8_16 : decode jdk_38_method_25_code 16 = .ok (.aload_n 0, 1) := by decide +kernel
theorem d8_17 : decode jdk_38_method_25_code 17 = .ok (.getfield 48, 3) := by decide +kernel
theorem d8_20 : decode jdk_38_method_25_code 20 = .ok (.invokevirtual 131, 3) := by decide +kernel
theorem d8_23 : decode jdk_38_method_25_code 23 = .ok (.iconst 1, 1) := by decide +kernel
theorem d8_24 : decode jdk_38_method_25_code 24 = .ok (.ireturn, 1) := by decide +kernel
theorem qQ22 : plainFor (⟨OwnK4, "add", "(Ljava/lang/Object;)Z"⟩ : MethodName) = true := by first | exact plainFor_of_name (by first | (simp [plainName, overriddenIn]; done) | decide +kernel) | exact Jvm.Free.JP.mathPlain rfl (by decide +kernel) | decide +kernel
theorem d9_0 : decode jdk_38_method_24_code 0 = .ok (.iload_n 3, 1) := by decide +kernel
theorem d9_1 : decode jdk_38_method_24_code 1 = .ok (.aload_n 2, 1) := by decide +kernel
theorem d9_2 : decode jdk_38_method_24_code 2 = .ok (.arraylength, 1) := by decide +kernel
theorem d9_3 : decode jdk_38_method_24_code 3 = .ok (.if_icmp .ne 8, 3) := by decide +kernel
theorem d9_6 : decode jdk_38_method_24_code 6 = .ok (.aload_n 0, 1) := by decide +kernel
theorem d9_7 : decode jdk_38_method_24_code 7 = .ok (.invokevirtual 129, 3) := by decide +kernel
theorem d9_10 : decode jdk_38_method_24_code 10 = .ok (.astore_n 2, 1) := by decide +kernel
theorem d9_11 : decode jdk_38_method_24_code 11 = .ok (.aload_n 2, 1) := by decide +kernel
theorem d9_12 : decode jdk_38_method_24_code 12 = .ok (.iload_n 3, 1) := by decide +kernel
theorem d9_13 : decode jdk_38_method_24_code 13 = .ok (.aload_n 1, 1) := by decide +kernel
theorem d9_14 : decode jdk_38_method_24_code 14 = .ok (.aastore, 1) := by decide +kernel
theorem d9_15 : decode jdk_38_method_24_code 15 = .ok (.aload_n 0, 1) := by decide +kernel
theorem d9_16 : decode jdk_38_method_24_code 16 = .ok (.iload_n 3, 1) := by decide +kernel
theorem d9_17 : decode jdk_38_method_24_code 17 = .ok (.iconst 1, 1) := by decide +kernel
theorem d9_18 : decode jdk_38_method_24_code 18 = .ok (.iadd, 1) := by decide +kernel
theorem d9_19 : decode jdk_38_method_24_code 19 = .ok (.putfield 48, 3) := by decide +kernel
theorem d9_22 : decode jdk_38_method_24_code 22 = .ok (.return_, 1) := by decide +kernel
theorem qQ7 : plainFor (⟨OwnK4, "add", "(Ljava/lang/Object;[Ljava/lang/Object;I)V"⟩ : MethodName) = true := by first | exact plainFor_of_name (by first | (simp [plainName, overriddenIn]; done) | decide +kernel) | exact Jvm.Free.JP.mathPlain rfl (by decide +kernel) | decide +kernel
theorem d10_0 : decode jdk_38_method_7_code 0 = .ok (.aload_n 0, 1) := by decide +kernel
theorem d10_1 : decode jdk_38_method_7_code 1 = .ok (.aload_n 0, 1) := by decide +kernel
theorem d10_2 : decode jdk_38_method_7_code 2 = .ok (.getfield 48, 3) := by decide +kernel
theorem d10_5 : decode jdk_38_method_7_code 5 = .ok (.iconst 1, 1) := by decide +kernel
theorem d10_6 : decode jdk_38_method_7_code 6 = .ok (.iadd, 1) := by decide +kernel
theorem d10_7 : decode jdk_38_method_7_code 7 = .ok (.invokevirtual 69, 3) := by decide +kernel
theorem d10_10 : decode jdk_38_method_7_code 10 = .ok (.areturn, 1) := by decide +kernel
theorem qQ21 : plainFor (⟨OwnK4, "grow", "()[Ljava/lang/Object;"⟩ : MethodName) = true := by first | exact plainFor_of_name (by first | (simp [plainName, overriddenIn]; done) | decide +kernel) | exact Jvm.Free.JP.mathPlain rfl (by decide +kernel) | decide +kernel
theorem d11_0 : decode jdk_38_method_6_code 0 = .ok (.aload_n 0, 1) := by decide +kernel
theorem d11_1 : decode jdk_38_method_6_code 1 = .ok (.getfield 9, 3) := by decide +kernel
theorem d11_4 : decode jdk_38_method_6_code 4 = .ok (.arraylength, 1) := by decide +kernel
theorem d11_5 : decode jdk_38_method_6_code 5 = .ok (.istore_n 2, 1) := by decide +kernel
theorem d11_6 : decode jdk_38_method_6_code 6 = .ok (.iload_n 2, 1) := by decide +kernel
theorem d11_7 : decode jdk_38_method_6_code 7 = .ok (.ifCond .gt 13, 3) := by decide +kernel
theorem d11_10 : decode jdk_38_method_6_code 10 = .ok (.aload_n 0, 1) := by decide +kernel
theorem d11_11 : decode jdk_38_method_6_code 11 = .ok (.getfield 9, 3) := by decide +kernel
theorem d11_14 : decode jdk_38_method_6_code 14 = .ok (.getstatic 39, 3) := by decide +kernel
theorem d11_17 : decode jdk_38_method_6_code 17 = .ok (.if_acmp .eq 28, 3) := by decide +kernel
theorem d11_20 : decode jdk_38_method_6_code 20 = .ok (.iload_n 2, 1) := by decide +kernel
theorem d11_21 : decode jdk_38_method_6_code 21 = .ok (.iload_n 1, 1) := by decide +kernel
theorem d11_22 : decode jdk_38_method_6_code 22 = .ok (.iload_n 2, 1) := by decide +kernel
theorem d11_23 : decode jdk_38_method_6_code 23 = .ok (.isub, 1) := by decide +kernel
theorem d11_24 : decode jdk_38_method_6_code 24 = .ok (.iload_n 2, 1) := by decide +kernel
theorem d11_25 : decode jdk_38_method_6_code 25 = .ok (.iconst 1, 1) := by decide +kernel
theorem d11_26 : decode jdk_38_method_6_code 26 = .ok (.ishr, 1) := by decide +kernel
theorem d11_27 : decode jdk_38_method_6_code 27 = .ok (.invokestatic 73, 3) := by decide +kernel
theorem d11_30 : decode jdk_38_method_6_code 30 = .ok (.istore_n 3, 1) := by decide +kernel
theorem d11_31 : decode jdk_38_method_6_code 31 = .ok (.aload_n 0, 1) := by decide +kernel
theorem d11_32 : decode jdk_38_method_6_code 32 = .ok (.aload_n 0, 1) := by decide +kernel
theorem d11_33 : decode jdk_38_method_6_code 33 = .ok (.getfield 9, 3) := by decide +kernel
theorem d11_36 : decode jdk_38_method_6_code 36 = .ok (.iload_n 3, 1) := by decide +kernel
theorem d11_37 : decode jdk_38_method_6_code 37 = .ok (.invokestatic 66, 3) := by decide +kernel
theorem d11_40 : decode jdk_38_method_6_code 40 = .ok (.dup_x1, 1) := by decide +kernel
theorem d11_41 : decode jdk_38_method_6_code 41 = .ok (.putfield 9, 3) := by decide +kernel
theorem d11_44 : decode jdk_38_method_6_code 44 = .ok (.areturn, 1) := by decide +kernel
theorem d11_45 : decode jdk_38_method_6_code 45 = .ok (.aload_n 0, 1) := by decide +kernel
theorem d11_46 : decode jdk_38_method_6_code 46 = .ok (.bipush 10, 2) := by decide +kernel
theorem d11_48 : decode jdk_38_method_6_code 48 = .ok (.iload_n 1, 1) := by decide +kernel
theorem d11_49 : decode jdk_38_method_6_code 49 = .ok (.invokestatic 79, 3) := by decide +kernel
theorem d11_52 : decode jdk_38_method_6_code 52 = .ok (.anewarray 7, 3) := by decide +kernel
theorem d11_55 : decode jdk_38_method_6_code 55 = .ok (.dup_x1, 1) := by decide +kernel
theorem d11_56 : decode jdk_38_method_6_code 56 = .ok (.putfield 9, 3) := by decide +kernel
theorem d11_59 : decode jdk_38_method_6_code 59 = .ok (.areturn, 1) := by decide +kernel
theorem qQ18 : plainFor (⟨OwnK4, "grow", "(I)[Ljava/lang/Object;"⟩ : MethodName) = true := by first | exact plainFor_of_name (by first | (simp [plainName, overriddenIn]; done) | decide +kernel) | exact Jvm.Free.JP.mathPlain rfl (by decide +kernel) | decide +kernel
theorem d12_0 : decode jdk_29_method_65_code 0 = .ok (.iload_n 0, 1) := by decide +kernel
theorem d12_1 : decode jdk_29_method_65_code 1 = .ok (.iload_n 1, 1) := by decide +kernel
theorem d12_2 : decode jdk_29_method_65_code 2 = .ok (.if_icmp .lt 7, 3) := by decide +kernel
theorem d12_5 : decode jdk_29_method_65_code 5 = .ok (.iload_n 0, 1) := by decide +kernel
theorem d12_6 : decode jdk_29_method_65_code 6 = .ok (.goto 4, 3) := by decide +kernel
theorem d12_9 : decode jdk_29_method_65_code 9 = .ok (.iload_n 1, 1) := by decide +kernel
theorem d12_10 : decode jdk_29_method_65_code 10 = .ok (.ireturn, 1) := by decide +kernel
theorem qQ33 : plainFor (⟨"java/lang/Math", "max", "(II)I"⟩ : MethodName) = true := by first | exact plainFor_of_name (by first | (simp [plainName, overriddenIn]; done) | decide +kernel) | exact Jvm.Free.JP.mathPlain rfl (by decide +kernel) | decide +kernel
theorem qQ129 (m : MethodId) (q0 : Int32) (q1 : Int32) : entryFrame m #[(.int q0), (.int q1)] 2 = mkF m 0 #[iv q0, iv q1] [] := by first | (simp [entryFrame, mkF, argsToLocals, Value.category]; done) | rfl
theorem sp11 (l : Launch) (Z : State) (a0 : Array Value) (hw : ∀ d ∈ tables_1, d.before a0 Z = true) (ws : List Jvm.Cond) (h0 : Heap) (n0 : Nat) (Z0 : n0 ≤ h0.size) :
    OwnC l Z (⟨"java/lang/Math", "max", "(II)I"⟩ : MethodName) jdk_29_method_65_code 2 (some .int) ws ({ frames := 0, cells := 0, slots := 0, locals := 0 } : Room) #[(.int 10), (.int 1)] h0 (fun v h L => v = some (.int 10) ∧ h = h0 ∧ L = []) := by
  refine own_entry qQ33 (fun m => qQ129 m (10 : Int32) (1 : Int32)) ?_
  intro p e s m below meth c T0 X0 hC e0
  obtain ⟨hx, hB, hml, hown, hnm, hret, hlk, hZ⟩ := hC
  have N0 := Fr.nil n0
  have K0 := Keep.refl h0 []
  refine oG T0 m 1 #[iv 10, iv 1] [(.int 10)] (fun t k => XS.iloadN X0.here hx rfl (hb hB d12_0) rfl k) ?_
  refine oG T0 m 2 #[iv 10, iv 1] [(.int 1), (.int 10)] (fun t k => XS.iloadN X0.here hx rfl (hb hB d12_1) rfl k) ?_
  refine oG T0 m 5 #[iv 10, iv 1] [] (fun t k => XS.icmpNo X0.here hx rfl (hb hB d12_2) rfl (flt (by decide)).1 k) ?_
  refine oG T0 m 6 #[iv 10, iv 1] [(.int 10)] (fun t k => XS.iloadN X0.here hx rfl (hb hB d12_5) rfl k) ?_
  refine oG T0 m 10 #[iv 10, iv 1] [(.int 10)] (fun t k => XS.goto X0.here hx rfl (pc0 := 6) (pc' := 10) rfl (hb hB d12_6) (by decide) (by decide) k) ?_
  refine own_retI X0 hx hlk hret (hb hB d12_10) (by decide) (by decide) ?_
  exact ⟨rfl, e0, rfl⟩
theorem qQ122 (m : MethodId) (q0 : Addr) (q1 : Int32) : entryFrame m #[(.ref q0), (.int q1)] 4 = mkF m 0 #[rv q0, iv q1, .unset, .unset] [] := by first | (simp [entryFrame, mkF, argsToLocals, Value.category]; done) | rfl
theorem sp10 (l : Launch) (Z : State) (a0 : Array Value) (hw : ∀ d ∈ tables_1, d.before a0 Z = true) (ws : List Jvm.Cond) (o0 o1 : Addr) (c0 : ClassId) (h0 : Heap) (n0 : Nat) (Z0 : n0 ≤ h0.size) (E_o0 : Exa Z h0 o0 OwnK4) (F_elementData_o0 : Fld Z h0 o0 OwnK4 "elementData" OwnK6 (.ref o1)) (F_mC_o0 : Fld Z h0 o0 OwnK5 "modCount" "I" (.int 1)) (F_size_o0 : Fld Z h0 o0 OwnK4 "size" "I" (.int 0)) (V_o1 : Arv Z h0 o1 c0 (.object "java/lang/Object") (0 : Int32) [] .null) (S_DEFAULTCAPACITY_EMPTY_ELEMENTDATA : Sta Z h0 OwnK4 "DEFAULTCAPACITY_EMPTY_ELEMENTDATA" OwnK6 (.ref o1)) (ne_o0_o1 : o0 ≠ o1) (g_o0 : n0 ≤ o0) :
    OwnC l Z (⟨OwnK4, "grow", "(I)[Ljava/lang/Object;"⟩ : MethodName) jdk_38_method_6_code 4 (some (.array (.object "java/lang/Object"))) ws ({ frames := 1, cells := 1, slots := 10, locals := 14 } : Room) #[(.ref o0), (.int 1)] h0 (fun v h L => ∃ (w0 : Addr), ∃ (kw0 : ClassId), v = some (.ref w0) ∧ Fr n0 L ∧ Keep h0 h [o0] ∧ (h0.size ≤ w0 ∧ n0 ≤ w0) ∧ Fld Z h o0 OwnK5 "modCount" "I" (.int 1) ∧ Fld Z h o0 OwnK4 "size" "I" (.int 0) ∧ Arv Z h w0 kw0 (.object "java/lang/Object") (10 : Int32) [.null, .null, .null, .null, .null, .null, .null, .null, .null, .null] .null ∧ Ovr Z kw0 "java/lang/Object" ∧ Fld Z h o0 OwnK4 "elementData" OwnK6 (.ref w0)) := by
  refine own_entry qQ18 (fun m => qQ122 m o0 (1 : Int32)) ?_
  intro p e s m below meth c T0 X0 hC e0
  obtain ⟨hx, hB, hml, hown, hnm, hret, hlk, hZ⟩ := hC
  have N0 := Fr.nil n0
  have K0 := Keep.refl h0 [o0]
  refine oG T0 m 1 #[rv o0, iv 1, .unset, .unset] [(.ref o0)] (fun t k => XS.aloadN X0.here hx rfl (hb hB d11_0) rfl rfl k) ?_
  obtain ⟨T1, X1, e1, st1⟩ := getF X0 hx hZ hown (host := "") (Or.inl (oW hw 49 rfl)) Via.refl e0 F_elementData_o0 (g := (mkF m 1 #[rv o0, iv 1, .unset, .unset] [(.ref o0)])) rfl rfl (hb hB d11_1)
  refine oG T1 m 4 #[rv o0, iv 1, .unset, .unset] [(.ref o1)] (st1) ?_
  refine oG T1 m 5 #[rv o0, iv 1, .unset, .unset] [(.int 0)] (own_alen X1 hx hZ e1 V_o1 (hb hB d11_4)) ?_
  refine oG T1 m 6 #[rv o0, iv 1, iv 0, .unset] [] (fun t k => XS.istoreN X1.here hx rfl (hb hB d11_5) rfl rfl k) ?_
  refine oG T1 m 7 #[rv o0, iv 1, iv 0, .unset] [(.int 0)] (fun t k => XS.iloadN X1.here hx rfl (hb hB d11_6) rfl k) ?_
  refine oG T1 m 10 #[rv o0, iv 1, iv 0, .unset] [] (fun t k => XS.ifNo X1.here hx rfl (hb hB d11_7) rfl ((if0 _ _).trans (flt (by decide)).2.2.1) k) ?_
  refine oG T1 m 11 #[rv o0, iv 1, iv 0, .unset] [(.ref o0)] (fun t k => XS.aloadN X1.here hx rfl (hb hB d11_10) rfl rfl k) ?_
  obtain ⟨T3, X3, e3, st3⟩ := getF X1 hx hZ hown (host := "") (Or.inl (oW hw 49 rfl)) Via.refl e1 F_elementData_o0 (g := (mkF m 11 #[rv o0, iv 1, iv 0, .unset] [(.ref o0)])) rfl rfl (hb hB d11_11)
  refine oG T3 m 14 #[rv o0, iv 1, iv 0, .unset] [(.ref o1)] (st3) ?_
  obtain ⟨T4, X4, e4, st4⟩ := getS2 X3 hx hZ hown (host := "") (Or.inl (oW hw 48 rfl)) Via.refl e3 S_DEFAULTCAPACITY_EMPTY_ELEMENTDATA (g := (mkF m 14 #[rv o0, iv 1, iv 0, .unset] [(.ref o1)])) rfl (hb hB d11_14)
  refine oG T4 m 17 #[rv o0, iv 1, iv 0, .unset] [(.ref o1), (.ref o1)] (st4) ?_
  refine oG T4 m 45 #[rv o0, iv 1, iv 0, .unset] [] (fun t k => Jvm.RoadKit.acmp (g := (mkF m 17 #[rv o0, iv 1, iv 0, .unset] [(.ref o1), (.ref o1)])) X4 hx rfl rfl rfl (pc0 := 17) (pc' := 45) (same := true) rfl (hb hB d11_17) rfl (decide_eq_true rfl) (by decide) (by decide) k) ?_
  refine oG T4 m 46 #[rv o0, iv 1, iv 0, .unset] [(.ref o0)] (fun t k => XS.aloadN X4.here hx rfl (hb hB d11_45) rfl rfl k) ?_
  refine oG T4 m 48 #[rv o0, iv 1, iv 0, .unset] [(.int 10), (.ref o0)] (fun t k => XS.bipush X4.here hx rfl (hb hB d11_46) k) ?_
  refine oG T4 m 49 #[rv o0, iv 1, iv 0, .unset] [(.int 1), (.int 10), (.ref o0)] (fun t k => XS.iloadN X4.here hx rfl (hb hB d11_48) rfl k) ?_
  obtain ⟨_, T5, L5, X5, ⟨rfl, e5, rfl⟩, st5⟩ := own_static X4 hx hZ (y := (⟨"java/lang/Math", "max", "(II)I"⟩ : MethodName)) hown (oW hw 91 rfl) (oW hw 92 rfl) (oW hw 93 rfl) (oW hw 94 rfl) (by decide) (sp11 l Z a0 hw []  h0 n0 Z0 ) e4 1 (argsL := [(.int 10), (.int 1)]) (rest := [(.ref o0)]) (Ls := #[rv o0, iv 1, iv 0, .unset]) (by rw [hml]; rfl) (lenOf qQ53 rfl) rfl rfl (Nat.le_of_eq rfl) (hb hB d11_49) (by decide) (by decide) (by decide) (by decide)
  replace X5 := own_nil X5
  refine oG T5 m 52 #[rv o0, iv 1, iv 0, .unset] [(.int 10), (.ref o0)] (st5) ?_
  obtain ⟨T6, h6, k6, X6, e6, E6, A6, O6, st6⟩ := newR X5 hx hZ hown (oW hw 95 rfl) (oW hw 96 rfl) e5 (g := (mkF m 52 #[rv o0, iv 1, iv 0, .unset] [(.int 10), (.ref o0)])) rfl (hb hB d11_52) rfl (by decide) (cap := 10) (by decide) (by decide) (by decide) (by decide)
  obtain ⟨b6, g6⟩ : ∃ z, z = h0.size := ⟨_, rfl⟩
  rw [← g6] at A6 st6
  have ne_o0_b6 : o0 ≠ b6 := Nat.ne_of_lt (Nat.lt_of_lt_of_eq E_o0.lt g6.symm)
  have ne_o1_b6 : o1 ≠ b6 := Nat.ne_of_lt (Nat.lt_of_lt_of_eq V_o1.lt g6.symm)
  have g_b6 : n0 ≤ b6 := Nat.le_trans Z0 (Nat.le_of_eq g6.symm)
  have sz_b6 : h0.size ≤ b6 := Nat.le_trans K0.1 (Nat.le_of_eq g6.symm)
  have cf7 := E_o0.ext E6
  have cf8 := F_elementData_o0.ext E6
  have cf9 := F_mC_o0.ext E6
  have cf10 := F_size_o0.ext E6
  have cf11 := V_o1.ext E6
  have cf12 := S_DEFAULTCAPACITY_EMPTY_ELEMENTDATA.ext E6
  have Z_6 : n0 ≤ h6.size := Nat.le_trans Z0 E6.1
  have K_6 : Keep h0 h6 [o0] := K0.ext E6
  have V_b6 : Arv Z h6 b6 k6 (.object "java/lang/Object") (10 : Int32) [.null, .null, .null, .null, .null, .null, .null, .null, .null, .null] .null := (Arv.new A6 (by decide)).pad (pad_rep [] .null 10)
  refine oG T6 m 55 #[rv o0, iv 1, iv 0, .unset] [(.ref b6), (.ref o0)] (st6) ?_
  refine oG T6 m 56 #[rv o0, iv 1, iv 0, .unset] [(.ref b6), (.ref o0), (.ref b6)] (fun t k => XS.dupX1 X6.here hx rfl (hb hB d11_55) rfl rfl rfl k) ?_
  obtain ⟨T13, h13, X13, e13, W13, st13⟩ := putF X6 hx hZ hown (host := "") (Or.inl (oW hw 49 rfl)) Via.refl e6 cf8 cf7 (Or.inl (oW hw 50 rfl)) (oW hw 28 rfl) (ty := (.array (.object "java/lang/Object"))) (by decide) rfl rfl (g := (mkF m 56 #[rv o0, iv 1, iv 0, .unset] [(.ref b6), (.ref o0), (.ref b6)])) rfl rfl (hb hB d11_56)
  have F13 := cf8.same W13
  have cf14 := cf7.wr W13
  have cf15 := cf9.other W13 (Or.inr (slot_ne (Or.inl (oW hw 47 rfl)) (Or.inl (oW hw 50 rfl)) (by decide) (t := .int) (t' := (.array (.object "java/lang/Object"))) (by decide) (by decide)))
  have cf16 := cf10.other W13 (Or.inr (slot_ne (Or.inl (oW hw 75 rfl)) (Or.inl (oW hw 50 rfl)) (by decide) (t := .int) (t' := (.array (.object "java/lang/Object"))) (by decide) (by decide)))
  have cf17 := cf11.other W13 (Ne.symm ne_o0_o1)
  have cf18 := cf12.wr W13
  have cf19 := V_b6.other W13 (Ne.symm ne_o0_b6)
  have Z_13 : n0 ≤ h13.size := Nat.le_trans Z_6 (Keep.of_wr W13).1
  have K_13 : Keep h0 h13 [o0] := K_6.wr W13 (oI 0 rfl)
  have N13 := Fr.snoc X13 N0 g_o0
  refine oG T13 m 59 #[rv o0, iv 1, iv 0, .unset] [(.ref b6)] (st13) ?_
  refine own_retA X13 hx hlk hret rfl rfl rfl (hb hB d11_59) (by decide) (by decide) ?_
  rw [e13]
  exact ⟨b6, k6, rfl, N13, K_13, ⟨sz_b6, g_b6⟩, cf15, cf16, cf19, O6, F13⟩
theorem qQ151 (m : MethodId) (q0 : Addr) : entryFrame m #[(.ref q0)] 1 = mkF m 0 #[rv q0] [] := by first | (simp [entryFrame, mkF, argsToLocals, Value.category]; done) | rfl
theorem sp9 (l : Launch) (Z : State) (a0 : Array Value) (hw : ∀ d ∈ tables_1, d.before a0 Z = true) (ws : List Jvm.Cond) (o0 o1 : Addr) (c0 : ClassId) (h0 : Heap) (n0 : Nat) (Z0 : n0 ≤ h0.size) (E_o0 : Exa Z h0 o0 OwnK4) (F_elementData_o0 : Fld Z h0 o0 OwnK4 "elementData" OwnK6 (.ref o1)) (F_mC_o0 : Fld Z h0 o0 OwnK5 "modCount" "I" (.int 1)) (F_size_o0 : Fld Z h0 o0 OwnK4 "size" "I" (.int 0)) (V_o1 : Arv Z h0 o1 c0 (.object "java/lang/Object") (0 : Int32) [] .null) (S_DEFAULTCAPACITY_EMPTY_ELEMENTDATA : Sta Z h0 OwnK4 "DEFAULTCAPACITY_EMPTY_ELEMENTDATA" OwnK6 (.ref o1)) (ne_o0_o1 : o0 ≠ o1) (g_o0 : n0 ≤ o0) :
    OwnC l Z (⟨OwnK4, "grow", "()[Ljava/lang/Object;"⟩ : MethodName) jdk_38_method_7_code 1 (some (.array (.object "java/lang/Object"))) ws ({ frames := 2, cells := 1, slots := 10, locals := 29 } : Room) #[(.ref o0)] h0 (fun v h L => ∃ (w0 : Addr), ∃ (kw0 : ClassId), v = some (.ref w0) ∧ Fr n0 L ∧ Keep h0 h [o0] ∧ (h0.size ≤ w0 ∧ n0 ≤ w0) ∧ Fld Z h o0 OwnK5 "modCount" "I" (.int 1) ∧ Fld Z h o0 OwnK4 "size" "I" (.int 0) ∧ Arv Z h w0 kw0 (.object "java/lang/Object") (10 : Int32) [.null, .null, .null, .null, .null, .null, .null, .null, .null, .null] .null ∧ Ovr Z kw0 "java/lang/Object" ∧ Fld Z h o0 OwnK4 "elementData" OwnK6 (.ref w0)) := by
  refine own_entry qQ21 (fun m => qQ151 m o0) ?_
  intro p e s m below meth c T0 X0 hC e0
  obtain ⟨hx, hB, hml, hown, hnm, hret, hlk, hZ⟩ := hC
  have N0 := Fr.nil n0
  have K0 := Keep.refl h0 [o0]
  refine oG T0 m 1 #[rv o0] [(.ref o0)] (fun t k => XS.aloadN X0.here hx rfl (hb hB d10_0) rfl rfl k) ?_
  refine oG T0 m 2 #[rv o0] [(.ref o0), (.ref o0)] (fun t k => XS.aloadN X0.here hx rfl (hb hB d10_1) rfl rfl k) ?_
  obtain ⟨T1, X1, e1, st1⟩ := getF X0 hx hZ hown (host := "") (Or.inl (oW hw 74 rfl)) Via.refl e0 F_size_o0 (g := (mkF m 2 #[rv o0] [(.ref o0), (.ref o0)])) rfl rfl (hb hB d10_2)
  refine oG T1 m 5 #[rv o0] [(.int 0), (.ref o0)] (st1) ?_
  refine oG T1 m 6 #[rv o0] [(.int 1), (.int 0), (.ref o0)] (fun t k => XS.iconst X1.here hx rfl (hb hB d10_5) k) ?_
  refine oG T1 m 7 #[rv o0] [(.int ((0 : Int32) + (1 : Int32))), (.ref o0)] (fun t k => XS.iadd X1.here hx rfl (hb hB d10_6) rfl k) ?_
  rw [show ((0 : Int32) + (1 : Int32)) = (1 : Int32) from by decide]
  obtain ⟨_, T2, L2, X2, ⟨w0_2, kw0_2, rfl, Nq2, Kq2, syw0_2, fq0_2, fq1_2, fq2_2, fq3_2, fq4_2⟩, st2⟩ := own_private X1 hx hZ (y := (⟨OwnK4, "grow", "(I)[Ljava/lang/Object;"⟩ : MethodName)) hown (oW hw 86 rfl) (oW hw 87 rfl) (oW hw 88 rfl) (oW hw 28 rfl) (oW hw 29 rfl) (oW hw 90 rfl) (by decide) (sp10 l Z a0 hw [] o0 o1 c0 h0 n0 Z0 E_o0 F_elementData_o0 F_mC_o0 F_size_o0 V_o1 S_DEFAULTCAPACITY_EMPTY_ELEMENTDATA ne_o0_o1 g_o0) e1 E_o0 0 (argsL := [(.int 1)]) (rest := []) (Ls := #[rv o0]) (by rw [hml]; rfl) (lenOf qQ34 rfl) rfl rfl (Nat.le_of_eq rfl) (hb hB d10_7) (by decide) (by decide) (by decide) (by decide)
  have g_w0_2 : n0 ≤ w0_2 := syw0_2.2
  have sz_w0_2 : h0.size ≤ w0_2 := Nat.le_trans K0.1 syw0_2.1
  have ne_o0_w0_2 : o0 ≠ w0_2 := Nat.ne_of_lt (Nat.lt_of_lt_of_le E_o0.lt syw0_2.1)
  have ne_o1_w0_2 : o1 ≠ w0_2 := Nat.ne_of_lt (Nat.lt_of_lt_of_le V_o1.lt syw0_2.1)
  have N2 := Fr.app N0 Nq2
  have cf3 := E_o0.keep Kq2
  have cf4 := V_o1.keep Kq2 (ninS (Ne.symm ne_o0_o1) nin0)
  have cf5 := own_sta_keepL S_DEFAULTCAPACITY_EMPTY_ELEMENTDATA Kq2 (fun a cell h1 h2 => (ninS (own_sneE h1 h2 E_o0) nin0))
  have Z_2 : n0 ≤ T2.heap.size := Nat.le_trans Z0 Kq2.1
  have K_2 : Keep h0 T2.heap [o0] := K0.trans Kq2 (allS (oI 0 rfl) all0)
  refine oG T2 m 10 #[rv o0] [(.ref w0_2)] (st2) ?_
  refine own_retA X2 hx hlk hret rfl rfl rfl (hb hB d10_10) (by decide) (by decide) ?_
  exact ⟨w0_2, kw0_2, rfl, N2, K_2, ⟨sz_w0_2, g_w0_2⟩, fq0_2, fq1_2, fq2_2, fq3_2, fq4_2⟩
theorem qQ160 (m : MethodId) (q0 : Addr) (q1 : Addr) (q2 : Addr) (q3 : Int32) : entryFrame m #[(.ref q0), (.ref q1), (.ref q2), (.int q3)] 4 = mkF m 0 #[rv q0, rv q1, rv q2, iv q3] [] := by first | (simp [entryFrame, mkF, argsToLocals, Value.category]; done) | rfl
theorem sp8 (l : Launch) (Z : State) (a0 : Array Value) (hw : ∀ d ∈ tables_1, d.before a0 Z = true) (ws : List Jvm.Cond) (o0 o1 o2 : Addr) (c0 : ClassId) (h0 : Heap) (n0 : Nat) (Z0 : n0 ≤ h0.size) (E_o0 : Exa Z h0 o0 OwnK4) (F_elementData_o0 : Fld Z h0 o0 OwnK4 "elementData" OwnK6 (.ref o2)) (F_mC_o0 : Fld Z h0 o0 OwnK5 "modCount" "I" (.int 1)) (F_size_o0 : Fld Z h0 o0 OwnK4 "size" "I" (.int 0)) (E_o1 : Exa Z h0 o1 OwnK0) (V_o2 : Arv Z h0 o2 c0 (.object "java/lang/Object") (0 : Int32) [] .null) (S_DEFAULTCAPACITY_EMPTY_ELEMENTDATA : Sta Z h0 OwnK4 "DEFAULTCAPACITY_EMPTY_ELEMENTDATA" OwnK6 (.ref o2)) (ne_o0_o1 : o0 ≠ o1) (ne_o0_o2 : o0 ≠ o2) (g_o0 : n0 ≤ o0) :
    OwnC l Z (⟨OwnK4, "add", "(Ljava/lang/Object;[Ljava/lang/Object;I)V"⟩ : MethodName) jdk_38_method_24_code 4 none ws ({ frames := 3, cells := 1, slots := 10, locals := 41 } : Room) #[(.ref o0), (.ref o1), (.ref o2), (.int 0)] h0 (fun v h L => ∃ (w0 : Addr), ∃ (kw0 : ClassId), v = none ∧ Fr n0 L ∧ Keep h0 h [o0] ∧ (h0.size ≤ w0 ∧ n0 ≤ w0) ∧ Fld Z h o0 OwnK5 "modCount" "I" (.int 1) ∧ Fld Z h o0 OwnK4 "elementData" OwnK6 (.ref w0) ∧ Arv Z h w0 kw0 (.object "java/lang/Object") (10 : Int32) [(.ref o1), .null, .null, .null, .null, .null, .null, .null, .null, .null] .null ∧ Ovr Z kw0 "java/lang/Object" ∧ Fld Z h o0 OwnK4 "size" "I" (.int 1)) := by
  refine own_entry qQ7 (fun m => qQ160 m o0 o1 o2 (0 : Int32)) ?_
  intro p e s m below meth c T0 X0 hC e0
  obtain ⟨hx, hB, hml, hown, hnm, hret, hlk, hZ⟩ := hC
  have N0 := Fr.nil n0
  have K0 := Keep.refl h0 [o0]
  refine oG T0 m 1 #[rv o0, rv o1, rv o2, iv 0] [(.int 0)] (fun t k => XS.iloadN X0.here hx rfl (hb hB d9_0) rfl k) ?_
  refine oG T0 m 2 #[rv o0, rv o1, rv o2, iv 0] [(.ref o2), (.int 0)] (fun t k => XS.aloadN X0.here hx rfl (hb hB d9_1) rfl rfl k) ?_
  refine oG T0 m 3 #[rv o0, rv o1, rv o2, iv 0] [(.int 0), (.int 0)] (own_alen X0 hx hZ e0 V_o2 (hb hB d9_2)) ?_
  refine oG T0 m 6 #[rv o0, rv o1, rv o2, iv 0] [] (fun t k => XS.icmpNo X0.here hx rfl (hb hB d9_3) rfl (teq (by decide)).2 k) ?_
  refine oG T0 m 7 #[rv o0, rv o1, rv o2, iv 0] [(.ref o0)] (fun t k => XS.aloadN X0.here hx rfl (hb hB d9_6) rfl rfl k) ?_
  obtain ⟨_, T2, L2, X2, ⟨w0_2, kw0_2, rfl, Nq2, Kq2, syw0_2, fq0_2, fq1_2, fq2_2, fq3_2, fq4_2⟩, st2⟩ := own_private X0 hx hZ (y := (⟨OwnK4, "grow", "()[Ljava/lang/Object;"⟩ : MethodName)) hown (oW hw 81 rfl) (oW hw 82 rfl) (oW hw 83 rfl) (oW hw 28 rfl) (oW hw 29 rfl) (oW hw 85 rfl) (by decide) (sp9 l Z a0 hw [] o0 o2 c0 h0 n0 Z0 E_o0 F_elementData_o0 F_mC_o0 F_size_o0 V_o2 S_DEFAULTCAPACITY_EMPTY_ELEMENTDATA ne_o0_o2 g_o0) e0 E_o0 0 (argsL := []) (rest := []) (Ls := #[rv o0, rv o1, rv o2, iv 0]) (by rw [hml]; rfl) (lenOf qQ37 rfl) rfl rfl (Nat.le_of_eq rfl) (hb hB d9_7) (by decide) (by decide) (by decide) (by decide)
  have g_w0_2 : n0 ≤ w0_2 := syw0_2.2
  have sz_w0_2 : h0.size ≤ w0_2 := Nat.le_trans K0.1 syw0_2.1
  have ne_o0_w0_2 : o0 ≠ w0_2 := Nat.ne_of_lt (Nat.lt_of_lt_of_le E_o0.lt syw0_2.1)
  have ne_o1_w0_2 : o1 ≠ w0_2 := Nat.ne_of_lt (Nat.lt_of_lt_of_le E_o1.lt syw0_2.1)
  have ne_o2_w0_2 : o2 ≠ w0_2 := Nat.ne_of_lt (Nat.lt_of_lt_of_le V_o2.lt syw0_2.1)
  have N2 := Fr.app N0 Nq2
  have cf3 := E_o0.keep Kq2
  have cf4 := E_o1.keep Kq2
  have cf5 := V_o2.keep Kq2 (ninS (Ne.symm ne_o0_o2) nin0)
  have cf6 := own_sta_keepL S_DEFAULTCAPACITY_EMPTY_ELEMENTDATA Kq2 (fun a cell h1 h2 => (ninS (own_sneE h1 h2 E_o0) nin0))
  have Z_2 : n0 ≤ T2.heap.size := Nat.le_trans Z0 Kq2.1
  have K_2 : Keep h0 T2.heap [o0] := K0.trans Kq2 (allS (oI 0 rfl) all0)
  refine oG T2 m 10 #[rv o0, rv o1, rv o2, iv 0] [(.ref w0_2)] (st2) ?_
  refine oG T2 m 11 #[rv o0, rv o1, rv w0_2, iv 0] [] (fun t k => XS.astoreN X2.here hx rfl (hb hB d9_10) rfl rfl rfl k) ?_
  refine oG T2 m 12 #[rv o0, rv o1, rv w0_2, iv 0] [(.ref w0_2)] (fun t k => XS.aloadN X2.here hx rfl (hb hB d9_11) rfl rfl k) ?_
  refine oG T2 m 13 #[rv o0, rv o1, rv w0_2, iv 0] [(.int 0), (.ref w0_2)] (fun t k => XS.iloadN X2.here hx rfl (hb hB d9_12) rfl k) ?_
  refine oG T2 m 14 #[rv o0, rv o1, rv w0_2, iv 0] [(.ref o1), (.int 0), (.ref w0_2)] (fun t k => XS.aloadN X2.here hx rfl (hb hB d9_13) rfl rfl k) ?_
  obtain ⟨T7, h7, X7, e7, W7, V7, st7⟩ := own_aastore X2 hx hZ rfl fq2_2 rfl fq3_2 (Ins.of_exa cf4 (oW hw 97 rfl)) (j := (0 : Int32)) ⟨by decide, by decide⟩ 0 rfl (Nat.le_of_ble_eq_true rfl) (Ls := #[rv o0, rv o1, rv w0_2, iv 0]) (rest := []) (hb hB d9_14)
  replace V7 : Arv Z h7 w0_2 kw0_2 (.object "java/lang/Object") (10 : Int32) [(.ref o1), .null, .null, .null, .null, .null, .null, .null, .null, .null] .null := V7
  have cf8 := cf3.wr W7
  have cf9 := cf4.wr W7
  have cf10 := cf5.other W7 ne_o2_w0_2
  have cf11 := cf6.wr W7
  have cf12 := fq0_2.other W7 (Or.inl ne_o0_w0_2)
  have cf13 := fq1_2.other W7 (Or.inl ne_o0_w0_2)
  have cf14 := fq4_2.other W7 (Or.inl ne_o0_w0_2)
  have Z_7 : n0 ≤ h7.size := Nat.le_trans Z_2 (Keep.of_wr W7).1
  have K_7 : Keep h0 h7 [o0] := K_2.wr W7 (Or.inr sz_w0_2)
  have N7 := Fr.snoc X7 N2 g_w0_2
  refine oG T7 m 15 #[rv o0, rv o1, rv w0_2, iv 0] [] (st7) ?_
  refine oG T7 m 16 #[rv o0, rv o1, rv w0_2, iv 0] [(.ref o0)] (fun t k => XS.aloadN X7.here hx rfl (hb hB d9_15) rfl rfl k) ?_
  refine oG T7 m 17 #[rv o0, rv o1, rv w0_2, iv 0] [(.int 0), (.ref o0)] (fun t k => XS.iloadN X7.here hx rfl (hb hB d9_16) rfl k) ?_
  refine oG T7 m 18 #[rv o0, rv o1, rv w0_2, iv 0] [(.int 1), (.int 0), (.ref o0)] (fun t k => XS.iconst X7.here hx rfl (hb hB d9_17) k) ?_
  refine oG T7 m 19 #[rv o0, rv o1, rv w0_2, iv 0] [(.int ((0 : Int32) + (1 : Int32))), (.ref o0)] (fun t k => XS.iadd X7.here hx rfl (hb hB d9_18) rfl k) ?_
  rw [show ((0 : Int32) + (1 : Int32)) = (1 : Int32) from by decide]
  obtain ⟨T15, h15, X15, e15, W15, st15⟩ := putF X7 hx hZ hown (host := "") (Or.inl (oW hw 74 rfl)) Via.refl e7 cf13 cf8 (Or.inl (oW hw 75 rfl)) (oW hw 28 rfl) (ty := .int) (by decide) rfl rfl (g := (mkF m 19 #[rv o0, rv o1, rv w0_2, iv 0] [(.int 1), (.ref o0)])) rfl rfl (hb hB d9_19)
  have F15 := cf13.same W15
  have cf16 := cf8.wr W15
  have cf17 := cf9.wr W15
  have cf18 := cf10.other W15 (Ne.symm ne_o0_o2)
  have cf19 := cf11.wr W15
  have cf20 := cf12.other W15 (Or.inr (slot_ne (Or.inl (oW hw 47 rfl)) (Or.inl (oW hw 75 rfl)) (by decide) (t := .int) (t' := .int) (by decide) (by decide)))
  have cf21 := cf14.other W15 (Or.inr (slot_ne (Or.inl (oW hw 50 rfl)) (Or.inl (oW hw 75 rfl)) (by decide) (t := (.array (.object "java/lang/Object"))) (t' := .int) (by decide) (by decide)))
  have cf22 := V7.other W15 (Ne.symm ne_o0_w0_2)
  have Z_15 : n0 ≤ h15.size := Nat.le_trans Z_7 (Keep.of_wr W15).1
  have K_15 : Keep h0 h15 [o0] := K_7.wr W15 (oI 0 rfl)
  have N15 := Fr.snoc X15 N7 g_o0
  refine oG T15 m 22 #[rv o0, rv o1, rv w0_2, iv 0] [] (st15) ?_
  refine own_retV X15 hx hlk hret (hb hB d9_22) (by decide) (by decide) ?_
  rw [e15]
  exact ⟨w0_2, kw0_2, rfl, N15, K_15, ⟨sz_w0_2, g_w0_2⟩, cf20, cf21, cf22, fq3_2, F15⟩
theorem qQ164 (m : MethodId) (q0 : Addr) (q1 : Addr) : entryFrame m #[(.ref q0), (.ref q1)] 2 = mkF m 0 #[rv q0, rv q1] [] := by first | (simp [entryFrame, mkF, argsToLocals, Value.category]; done) | rfl
theorem sp7 (l : Launch) (Z : State) (a0 : Array Value) (hw : ∀ d ∈ tables_1, d.before a0 Z = true) (ws : List Jvm.Cond) (o0 o1 o2 : Addr) (c0 : ClassId) (h0 : Heap) (n0 : Nat) (Z0 : n0 ≤ h0.size) (E_o0 : Exa Z h0 o0 OwnK4) (F_elementData_o0 : Fld Z h0 o0 OwnK4 "elementData" OwnK6 (.ref o2)) (F_mC_o0 : Fld Z h0 o0 OwnK5 "modCount" "I" (.int 0)) (F_size_o0 : Fld Z h0 o0 OwnK4 "size" "I" (.int 0)) (E_o1 : Exa Z h0 o1 OwnK0) (V_o2 : Arv Z h0 o2 c0 (.object "java/lang/Object") (0 : Int32) [] .null) (S_DEFAULTCAPACITY_EMPTY_ELEMENTDATA : Sta Z h0 OwnK4 "DEFAULTCAPACITY_EMPTY_ELEMENTDATA" OwnK6 (.ref o2)) (ne_o0_o1 : o0 ≠ o1) (ne_o0_o2 : o0 ≠ o2) (ne_o1_o2 : o1 ≠ o2) (g_o0 : n0 ≤ o0) :
    OwnC l Z (⟨OwnK4, "add", "(Ljava/lang/Object;)Z"⟩ : MethodName) jdk_38_method_25_code 2 (some .boolean) ws ({ frames := 4, cells := 1, slots := 10, locals := 56 } : Room) #[(.ref o0), (.ref o1)] h0 (fun v h L => ∃ (w0 : Addr), ∃ (kw0 : ClassId), v = some (.int 1) ∧ Fr n0 L ∧ Keep h0 h [o0] ∧ (h0.size ≤ w0 ∧ n0 ≤ w0) ∧ Fld Z h o0 OwnK5 "modCount" "I" (.int 1) ∧ Fld Z h o0 OwnK4 "elementData" OwnK6 (.ref w0) ∧ Arv Z h w0 kw0 (.object "java/lang/Object") (10 : Int32) [(.ref o1), .null, .null, .null, .null, .null, .null, .null, .null, .null] .null ∧ Ovr Z kw0 "java/lang/Object" ∧ Fld Z h o0 OwnK4 "size" "I" (.int 1)) := by
  refine own_entry qQ22 (fun m => qQ164 m o0 o1) ?_
  intro p e s m below meth c T0 X0 hC e0
  obtain ⟨hx, hB, hml, hown, hnm, hret, hlk, hZ⟩ := hC
  have N0 := Fr.nil n0
  have K0 := Keep.refl h0 [o0]
  refine oG T0 m 1 #[rv o0, rv o1] [(.ref o0)] (fun t k => XS.aloadN X0.here hx rfl (hb hB d8_0) rfl rfl k) ?_
  refine oG T0 m 2 #[rv o0, rv o1] [(.ref o0), (.ref o0)] (fun t k => XS.dup X0.here hx rfl (hb hB d8_1) rfl rfl k) ?_
  obtain ⟨T1, X1, e1, st1⟩ := getF X0 hx hZ hown (host := "") (Or.inl (oW hw 72 rfl)) (Via.of (oW hw 73 rfl)) e0 F_mC_o0 (g := (mkF m 2 #[rv o0, rv o1] [(.ref o0), (.ref o0)])) rfl rfl (hb hB d8_2)
  refine oG T1 m 5 #[rv o0, rv o1] [(.int 0), (.ref o0)] (st1) ?_
  refine oG T1 m 6 #[rv o0, rv o1] [(.int 1), (.int 0), (.ref o0)] (fun t k => XS.iconst X1.here hx rfl (hb hB d8_5) k) ?_
  refine oG T1 m 7 #[rv o0, rv o1] [(.int ((0 : Int32) + (1 : Int32))), (.ref o0)] (fun t k => XS.iadd X1.here hx rfl (hb hB d8_6) rfl k) ?_
  rw [show ((0 : Int32) + (1 : Int32)) = (1 : Int32) from by decide]
  obtain ⟨T2, h2, X2, e2, W2, st2⟩ := putF X1 hx hZ hown (host := "") (Or.inl (oW hw 72 rfl)) (Via.of (oW hw 73 rfl)) e1 F_mC_o0 E_o0 (Or.inl (oW hw 47 rfl)) (oW hw 28 rfl) (ty := .int) (by decide) rfl rfl (g := (mkF m 7 #[rv o0, rv o1] [(.int 1), (.ref o0)])) rfl rfl (hb hB d8_7)
  have F2 := F_mC_o0.same W2
  have cf3 := E_o0.wr W2
  have cf4 := F_elementData_o0.other W2 (Or.inr (slot_ne (Or.inl (oW hw 50 rfl)) (Or.inl (oW hw 47 rfl)) (by decide) (t := (.array (.object "java/lang/Object"))) (t' := .int) (by decide) (by decide)))
  have cf5 := F_size_o0.other W2 (Or.inr (slot_ne (Or.inl (oW hw 75 rfl)) (Or.inl (oW hw 47 rfl)) (by decide) (t := .int) (t' := .int) (by decide) (by decide)))
  have cf6 := E_o1.wr W2
  have cf7 := V_o2.other W2 (Ne.symm ne_o0_o2)
  have cf8 := S_DEFAULTCAPACITY_EMPTY_ELEMENTDATA.wr W2
  have Z_2 : n0 ≤ h2.size := Nat.le_trans Z0 (Keep.of_wr W2).1
  have K_2 : Keep h0 h2 [o0] := K0.wr W2 (oI 0 rfl)
  have N2 := Fr.snoc X2 N0 g_o0
  refine oG T2 m 10 #[rv o0, rv o1] [] (st2) ?_
  refine oG T2 m 11 #[rv o0, rv o1] [(.ref o0)] (fun t k => XS.aloadN X2.here hx rfl (hb hB d8_10) rfl rfl k) ?_
  refine oG T2 m 12 #[rv o0, rv o1] [(.ref o1), (.ref o0)] (fun t k => XS.aloadN X2.here hx rfl (hb hB d8_11) rfl rfl k) ?_
  refine oG T2 m 13 #[rv o0, rv o1] [(.ref o0), (.ref o1), (.ref o0)] (fun t k => XS.aloadN X2.here hx rfl (hb hB d8_12) rfl rfl k) ?_
  obtain ⟨T9, X9, e9, st9⟩ := getF X2 hx hZ hown (host := "") (Or.inl (oW hw 49 rfl)) Via.refl e2 cf4 (g := (mkF m 13 #[rv o0, rv o1] [(.ref o0), (.ref o1), (.ref o0)])) rfl rfl (hb hB d8_13)
  refine oG T9 m 16 #[rv o0, rv o1] [(.ref o2), (.ref o1), (.ref o0)] (st9) ?_
  refine oG T9 m 17 #[rv o0, rv o1] [(.ref o0), (.ref o2), (.ref o1), (.ref o0)] (fun t k => XS.aloadN X9.here hx rfl (hb hB d8_16) rfl rfl k) ?_
  obtain ⟨T10, X10, e10, st10⟩ := getF X9 hx hZ hown (host := "") (Or.inl (oW hw 74 rfl)) Via.refl e9 cf5 (g := (mkF m 17 #[rv o0, rv o1] [(.ref o0), (.ref o2), (.ref o1), (.ref o0)])) rfl rfl (hb hB d8_17)
  refine oG T10 m 20 #[rv o0, rv o1] [(.int 0), (.ref o2), (.ref o1), (.ref o0)] (st10) ?_
  obtain ⟨_, T11, L11, X11, ⟨w0_11, kw0_11, rfl, Nq11, Kq11, syw0_11, fq0_11, fq1_11, fq2_11, fq3_11, fq4_11⟩, st11⟩ := own_private X10 hx hZ (y := (⟨OwnK4, "add", "(Ljava/lang/Object;[Ljava/lang/Object;I)V"⟩ : MethodName)) hown (oW hw 76 rfl) (oW hw 77 rfl) (oW hw 78 rfl) (oW hw 28 rfl) (oW hw 29 rfl) (oW hw 80 rfl) (by decide) (sp8 l Z a0 hw [] o0 o1 o2 c0 h2 n0 Z_2 cf3 cf4 F2 cf5 cf6 cf7 cf8 ne_o0_o1 ne_o0_o2 g_o0) e10 cf3 0 (argsL := [(.ref o1), (.ref o2), (.int 0)]) (rest := []) (Ls := #[rv o0, rv o1]) (by rw [hml]; rfl) (lenOf qQ24 rfl) rfl rfl (Nat.le_of_eq rfl) (hb hB d8_20) (by decide) (by decide) (by decide) (by decide)
  have g_w0_11 : n0 ≤ w0_11 := syw0_11.2
  have sz_w0_11 : h0.size ≤ w0_11 := Nat.le_trans K_2.1 syw0_11.1
  have ne_o0_w0_11 : o0 ≠ w0_11 := Nat.ne_of_lt (Nat.lt_of_lt_of_le cf3.lt syw0_11.1)
  have ne_o1_w0_11 : o1 ≠ w0_11 := Nat.ne_of_lt (Nat.lt_of_lt_of_le cf6.lt syw0_11.1)
  have ne_o2_w0_11 : o2 ≠ w0_11 := Nat.ne_of_lt (Nat.lt_of_lt_of_le cf7.lt syw0_11.1)
  have N11 := Fr.app N2 Nq11
  have cf12 := cf3.keep Kq11
  have cf13 := cf6.keep Kq11
  have cf14 := cf7.keep Kq11 (ninS (Ne.symm ne_o0_o2) nin0)
  have cf15 := own_sta_keepL cf8 Kq11 (fun a cell h1 h2 => (ninS (own_sneE h1 h2 cf3) nin0))
  have Z_11 : n0 ≤ T11.heap.size := Nat.le_trans Z_2 Kq11.1
  have K_11 : Keep h0 T11.heap [o0] := K_2.trans Kq11 (allS (oI 0 rfl) all0)
  refine oG T11 m 23 #[rv o0, rv o1] [] (st11) ?_
  refine oG T11 m 24 #[rv o0, rv o1] [(.int 1)] (fun t k => XS.iconst X11.here hx rfl (hb hB d8_23) k) ?_
  refine own_retZ X11 hx hlk hret (by decide) (hb hB d8_24) (by decide) (by decide) ?_
  exact ⟨w0_11, kw0_11, rfl, N11, K_11, ⟨sz_w0_11, g_w0_11⟩, fq0_11, fq1_11, fq2_11, fq3_11, fq4_11⟩
theorem d13_0 : decode prog_11_method_4_code 0 = .ok (.aload_n 0, 1) := by decide +kernel
theorem d13_1 : decode prog_11_method_4_code 1 = .ok (.getfield 7, 3) := by decide +kernel
theorem d13_4 : decode prog_11_method_4_code 4 = .ok (.aload_n 0, 1) := by decide +kernel
theorem d13_5 : decode prog_11_method_4_code 5 = .ok (.getfield 13, 3) := by decide +kernel
theorem d13_8 : decode prog_11_method_4_code 8 = .ok (.aload_n 0, 1) := by decide +kernel
theorem d13_9 : decode prog_11_method_4_code 9 = .ok (.getfield 7, 3) := by decide +kernel
theorem d13_12 : decode prog_11_method_4_code 12 = .ok (.invokeinterface 17 1, 5) := by decide +kernel
theorem d13_17 : decode prog_11_method_4_code 17 = .ok (.invokeinterface 23 3, 5) := by decide +kernel
theorem d13_22 : decode prog_11_method_4_code 22 = .ok (.invokeinterface 27 1, 5) := by decide +kernel
theorem d13_27 : decode prog_11_method_4_code 27 = .ok (.astore_n 2, 1) := by decide +kernel
theorem d13_28 : decode prog_11_method_4_code 28 = .ok (.aload_n 2, 1) := by decide +kernel
theorem d13_29 : decode prog_11_method_4_code 29 = .ok (.invokeinterface 31 1, 5) := by decide +kernel
theorem d13_34 : decode prog_11_method_4_code 34 = .ok (.ifCond .eq 30, 3) := by decide +kernel
theorem d13_37 : decode prog_11_method_4_code 37 = .ok (.aload_n 2, 1) := by decide +kernel
theorem d13_38 : decode prog_11_method_4_code 38 = .ok (.invokeinterface 37 1, 5) := by decide +kernel
theorem d13_43 : decode prog_11_method_4_code 43 = .ok (.checkcast 41, 3) := by decide +kernel
theorem d13_46 : decode prog_11_method_4_code 46 = .ok (.astore_n 3, 1) := by decide +kernel
theorem d13_47 : decode prog_11_method_4_code 47 = .ok (.aload_n 3, 1) := by decide +kernel
theorem d13_48 : decode prog_11_method_4_code 48 = .ok (.invokevirtual 43, 3) := by decide +kernel
theorem d13_51 : decode prog_11_method_4_code 51 = .ok (.aload_n 1, 1) := by decide +kernel
theorem d13_52 : decode prog_11_method_4_code 52 = .ok (.invokevirtual 43, 3) := by decide +kernel
theorem d13_55 : decode prog_11_method_4_code 55 = .ok (.lcmp, 1) := by decide +kernel
theorem d13_56 : decode prog_11_method_4_code 56 = .ok (.ifCond .ne 5, 3) := by decide +kernel
theorem d13_59 : decode prog_11_method_4_code 59 = .ok (.iconst 1, 1) := by decide +kernel
theorem d13_60 : decode prog_11_method_4_code 60 = .ok (.ireturn, 1) := by decide +kernel
theorem d13_61 : decode prog_11_method_4_code 61 = .ok (.goto (-33), 3) := by decide +kernel
theorem d13_64 : decode prog_11_method_4_code 64 = .ok (.iconst 0, 1) := by decide +kernel
theorem d13_65 : decode prog_11_method_4_code 65 = .ok (.ireturn, 1) := by decide +kernel
theorem qQ2 : plainFor (⟨OwnK1, "isOfBacklog", "(Lcom/example/newt/newt/core/delivery/Change;)Z"⟩ : MethodName) = true := by first | exact plainFor_of_name (by first | (simp [plainName, overriddenIn]; done) | decide +kernel) | exact Jvm.Free.JP.mathPlain rfl (by decide +kernel) | decide +kernel
theorem d14_0 : decode jdk_38_method_8_code 0 = .ok (.aload_n 0, 1) := by decide +kernel
theorem d14_1 : decode jdk_38_method_8_code 1 = .ok (.getfield 48, 3) := by decide +kernel
theorem d14_4 : decode jdk_38_method_8_code 4 = .ok (.ireturn, 1) := by decide +kernel
theorem qQ29 : plainFor (⟨OwnK4, "size", "()I"⟩ : MethodName) = true := by first | exact plainFor_of_name (by first | (simp [plainName, overriddenIn]; done) | decide +kernel) | exact Jvm.Free.JP.mathPlain rfl (by decide +kernel) | decide +kernel
theorem qQ67 (m : MethodId) (q0 : Addr) : entryFrame m #[(.ref q0)] 1 = mkF m 0 #[rv q0] [] := by first | (simp [entryFrame, mkF, argsToLocals, Value.category]; done) | rfl
theorem sp13 (l : Launch) (Z : State) (a0 : Array Value) (hw : ∀ d ∈ tables_1, d.before a0 Z = true) (ws : List Jvm.Cond) (o0 : Addr) (h0 : Heap) (n0 : Nat) (Z0 : n0 ≤ h0.size) (F_size_o0 : Fld Z h0 o0 OwnK4 "size" "I" (.int 1)) :
    OwnC l Z (⟨OwnK4, "size", "()I"⟩ : MethodName) jdk_38_method_8_code 1 (some .int) ws ({ frames := 0, cells := 0, slots := 0, locals := 0 } : Room) #[(.ref o0)] h0 (fun v h L => v = some (.int 1) ∧ h = h0 ∧ L = []) := by
  refine own_entry qQ29 (fun m => qQ67 m o0) ?_
  intro p e s m below meth c T0 X0 hC e0
  obtain ⟨hx, hB, hml, hown, hnm, hret, hlk, hZ⟩ := hC
  have N0 := Fr.nil n0
  have K0 := Keep.refl h0 []
  refine oG T0 m 1 #[rv o0] [(.ref o0)] (fun t k => XS.aloadN X0.here hx rfl (hb hB d14_0) rfl rfl k) ?_
  obtain ⟨T1, X1, e1, st1⟩ := getF X0 hx hZ hown (host := "") (Or.inl (oW hw 74 rfl)) Via.refl e0 F_size_o0 (g := (mkF m 1 #[rv o0] [(.ref o0)])) rfl rfl (hb hB d14_1)
  refine oG T1 m 4 #[rv o0] [(.int 1)] (st1) ?_
  refine own_retI X1 hx hlk hret (hb hB d14_4) (by decide) (by decide) ?_
  exact ⟨rfl, e1, rfl⟩
theorem d15_0 : decode jdk_38_method_56_code 0 = .ok (.iload_n 1, 1) := by decide +kernel
theorem d15_1 : decode jdk_38_method_56_code 1 = .ok (.iload_n 2, 1) := by decide +kernel
theorem d15_2 : decode jdk_38_method_56_code 2 = .ok (.aload_n 0, 1) := by decide +kernel
theorem d15_3 : decode jdk_38_method_56_code 3 = .ok (.getfield 48, 3) := by decide +kernel
theorem d15_6 : decode jdk_38_method_56_code 6 = .ok (.invokestatic 272, 3) := by decide +kernel
theorem d15_9 : decode jdk_38_method_56_code 9 = .ok (.new 276, 3) := by decide +kernel
theorem d15_12 : decode jdk_38_method_56_code 12 = .ok (.dup, 1) := by decide +kernel
theorem d15_13 : decode jdk_38_method_56_code 13 = .ok (.aload_n 0, 1) := by decide +kernel
theorem d15_14 : decode jdk_38_method_56_code 14 = .ok (.iload_n 1, 1) := by decide +kernel
theorem d15_15 : decode jdk_38_method_56_code 15 = .ok (.iload_n 2, 1) := by decide +kernel
theorem d15_16 : decode jdk_38_method_56_code 16 = .ok (.invokespecial 278, 3) := by decide +kernel
theorem d15_19 : decode jdk_38_method_56_code 19 = .ok (.areturn, 1) := by decide +kernel
theorem qQ17 : plainFor (⟨OwnK4, "subList", "(II)Ljava/util/List;"⟩ : MethodName) = true := by first | exact plainFor_of_name (by first | (simp [plainName, overriddenIn]; done) | decide +kernel) | exact Jvm.Free.JP.mathPlain rfl (by decide +kernel) | decide +kernel
theorem d16_0 : decode jdk_39_method_15_code 0 = .ok (.iload_n 0, 1) := by decide +kernel
theorem d16_1 : decode jdk_39_method_15_code 1 = .ok (.ifCond .ge 30, 3) := by decide +kernel
theorem d16_4 : decode jdk_39_method_15_code 4 = .ok (.new 101, 3) := by decide +kernel
theorem d16_7 : decode jdk_39_method_15_code 7 = .ok (.dup, 1) := by decide +kernel
theorem d16_8 : decode jdk_39_method_15_code 8 = .ok (.new 103, 3) := by decide +kernel
theorem d16_11 : decode jdk_39_method_15_code 11 = .ok (.dup, 1) := by decide +kernel
theorem d16_12 : decode jdk_39_method_15_code 12 = .ok (.invokespecial 105, 3) := by decide +kernel
theorem d16_15 : decode jdk_39_method_15_code 15 = .ok (.ldc 106, 2) := by decide +kernel
theorem d16_17 : decode jdk_39_method_15_code 17 = .ok (.invokevirtual 108, 3) := by decide +kernel
theorem d16_20 : decode jdk_39_method_15_code 20 = .ok (.iload_n 0, 1) := by decide +kernel
theorem d16_21 : decode jdk_39_method_15_code 21 = .ok (.invokevirtual 112, 3) := by decide +kernel
theorem d16_24 : decode jdk_39_method_15_code 24 = .ok (.invokevirtual 115, 3) := by decide +kernel
theorem d16_27 : decode jdk_39_method_15_code 27 = .ok (.invokespecial 119, 3) := by decide +kernel
theorem d16_30 : decode jdk_39_method_15_code 30 = .ok (.athrow, 1) := by decide +kernel
theorem d16_31 : decode jdk_39_method_15_code 31 = .ok (.iload_n 1, 1) := by decide +kernel
theorem d16_32 : decode jdk_39_method_15_code 32 = .ok (.iload_n 2, 1) := by decide +kernel
theorem d16_33 : decode jdk_39_method_15_code 33 = .ok (.if_icmp .le 30, 3) := by decide +kernel
theorem d16_36 : decode jdk_39_method_15_code 36 = .ok (.new 101, 3) := by decide +kernel
theorem d16_39 : decode jdk_39_method_15_code 39 = .ok (.dup, 1) := by decide +kernel
theorem d16_40 : decode jdk_39_method_15_code 40 = .ok (.new 103, 3) := by decide +kernel
theorem d16_43 : decode jdk_39_method_15_code 43 = .ok (.dup, 1) := by decide +kernel
theorem d16_44 : decode jdk_39_method_15_code 44 = .ok (.invokespecial 105, 3) := by decide +kernel
theorem d16_47 : decode jdk_39_method_15_code 47 = .ok (.ldc 122, 2) := by decide +kernel
theorem d16_49 : decode jdk_39_method_15_code 49 = .ok (.invokevirtual 108, 3) := by decide +kernel
theorem d16_52 : decode jdk_39_method_15_code 52 = .ok (.iload_n 1, 1) := by decide +kernel
theorem d16_53 : decode jdk_39_method_15_code 53 = .ok (.invokevirtual 112, 3) := by decide +kernel
theorem d16_56 : decode jdk_39_method_15_code 56 = .ok (.invokevirtual 115, 3) := by decide +kernel
theorem d16_59 : decode jdk_39_method_15_code 59 = .ok (.invokespecial 119, 3) := by decide +kernel
theorem d16_62 : decode jdk_39_method_15_code 62 = .ok (.athrow, 1) := by decide +kernel
theorem d16_63 : decode jdk_39_method_15_code 63 = .ok (.iload_n 0, 1) := by decide +kernel
theorem d16_64 : decode jdk_39_method_15_code 64 = .ok (.iload_n 1, 1) := by decide +kernel
theorem d16_65 : decode jdk_39_method_15_code 65 = .ok (.if_icmp .le 44, 3) := by decide +kernel
theorem d16_68 : decode jdk_39_method_15_code 68 = .ok (.new 124, 3) := by decide +kernel
theorem d16_71 : decode jdk_39_method_15_code 71 = .ok (.dup, 1) := by decide +kernel
theorem d16_72 : decode jdk_39_method_15_code 72 = .ok (.new 103, 3) := by decide +kernel
theorem d16_75 : decode jdk_39_method_15_code 75 = .ok (.dup, 1) := by decide +kernel
theorem d16_76 : decode jdk_39_method_15_code 76 = .ok (.invokespecial 105, 3) := by decide +kernel
theorem d16_79 : decode jdk_39_method_15_code 79 = .ok (.ldc 126, 2) := by decide +kernel
theorem d16_81 : decode jdk_39_method_15_code 81 = .ok (.invokevirtual 108, 3) := by decide +kernel
theorem d16_84 : decode jdk_39_method_15_code 84 = .ok (.iload_n 0, 1) := by decide +kernel
theorem d16_85 : decode jdk_39_method_15_code 85 = .ok (.invokevirtual 112, 3) := by decide +kernel
theorem d16_88 : decode jdk_39_method_15_code 88 = .ok (.ldc 128, 2) := by decide +kernel
theorem d16_90 : decode jdk_39_method_15_code 90 = .ok (.invokevirtual 108, 3) := by decide +kernel
theorem d16_93 : decode jdk_39_method_15_code 93 = .ok (.iload_n 1, 1) := by decide +kernel
theorem d16_94 : decode jdk_39_method_15_code 94 = .ok (.invokevirtual 112, 3) := by decide +kernel
theorem d16_97 : decode jdk_39_method_15_code 97 = .ok (.ldc 130, 2) := by decide +kernel
theorem d16_99 : decode jdk_39_method_15_code 99 = .ok (.invokevirtual 108, 3) := by decide +kernel
theorem d16_102 : decode jdk_39_method_15_code 102 = .ok (.invokevirtual 115, 3) := by decide +kernel
theorem d16_105 : decode jdk_39_method_15_code 105 = .ok (.invokespecial 132, 3) := by decide +kernel
theorem d16_108 : decode jdk_39_method_15_code 108 = .ok (.athrow, 1) := by decide +kernel
theorem d16_109 : decode jdk_39_method_15_code 109 = .ok (.return_, 1) := by decide +kernel
theorem qQ19 : plainFor (⟨OwnK5, "subListRangeCheck", "(III)V"⟩ : MethodName) = true := by first | exact plainFor_of_name (by first | (simp [plainName, overriddenIn]; done) | decide +kernel) | exact Jvm.Free.JP.mathPlain rfl (by decide +kernel) | decide +kernel
theorem qQ95 (m : MethodId) (q0 : Int32) (q1 : Int32) (q2 : Int32) : entryFrame m #[(.int q0), (.int q1), (.int q2)] 3 = mkF m 0 #[iv q0, iv q1, iv q2] [] := by first | (simp [entryFrame, mkF, argsToLocals, Value.category]; done) | rfl
theorem sp15 (l : Launch) (Z : State) (a0 : Array Value) (hw : ∀ d ∈ tables_1, d.before a0 Z = true) (ws : List Jvm.Cond) (h0 : Heap) (n0 : Nat) (Z0 : n0 ≤ h0.size) :
    OwnC l Z (⟨OwnK5, "subListRangeCheck", "(III)V"⟩ : MethodName) jdk_39_method_15_code 3 none ws ({ frames := 0, cells := 0, slots := 0, locals := 0 } : Room) #[(.int 0), (.int 1), (.int 1)] h0 (fun v h L => v = none ∧ h = h0 ∧ L = []) := by
  refine own_entry qQ19 (fun m => qQ95 m (0 : Int32) (1 : Int32) (1 : Int32)) ?_
  intro p e s m below meth c T0 X0 hC e0
  obtain ⟨hx, hB, hml, hown, hnm, hret, hlk, hZ⟩ := hC
  have N0 := Fr.nil n0
  have K0 := Keep.refl h0 []
  refine oG T0 m 1 #[iv 0, iv 1, iv 1] [(.int 0)] (fun t k => XS.iloadN X0.here hx rfl (hb hB d16_0) rfl k) ?_
  refine oG T0 m 31 #[iv 0, iv 1, iv 1] [] (fun t k => XS.ifYes X0.here hx rfl (pc0 := 1) (pc' := 31) rfl (hb hB d16_1) rfl ((if0 _ _).trans (flt (by decide)).2.1) (by decide) (by decide) k) ?_
  refine oG T0 m 32 #[iv 0, iv 1, iv 1] [(.int 1)] (fun t k => XS.iloadN X0.here hx rfl (hb hB d16_31) rfl k) ?_
  refine oG T0 m 33 #[iv 0, iv 1, iv 1] [(.int 1), (.int 1)] (fun t k => XS.iloadN X0.here hx rfl (hb hB d16_32) rfl k) ?_
  refine oG T0 m 63 #[iv 0, iv 1, iv 1] [] (fun t k => XS.icmpYes X0.here hx rfl (pc0 := 33) (pc' := 63) rfl (hb hB d16_33) rfl (flt (by decide)).2.2.2 (by decide) (by decide) k) ?_
  refine oG T0 m 64 #[iv 0, iv 1, iv 1] [(.int 0)] (fun t k => XS.iloadN X0.here hx rfl (hb hB d16_63) rfl k) ?_
  refine oG T0 m 65 #[iv 0, iv 1, iv 1] [(.int 1), (.int 0)] (fun t k => XS.iloadN X0.here hx rfl (hb hB d16_64) rfl k) ?_
  refine oG T0 m 109 #[iv 0, iv 1, iv 1] [] (fun t k => XS.icmpYes X0.here hx rfl (pc0 := 65) (pc' := 109) rfl (hb hB d16_65) rfl (flt (by decide)).2.2.2 (by decide) (by decide) k) ?_
  refine own_retV X0 hx hlk hret (hb hB d16_109) (by decide) (by decide) ?_
  exact ⟨rfl, e0, rfl⟩
theorem d17_0 : decode jdk_130_method_1_code 0 = .ok (.aload_n 0, 1) := by decide +kernel
theorem d17_1 : decode jdk_130_method_1_code 1 = .ok (.invokespecial 1, 3) := by decide +kernel
theorem d17_4 : decode jdk_130_method_1_code 4 = .ok (.aload_n 0, 1) := by decide +kernel
theorem d17_5 : decode jdk_130_method_1_code 5 = .ok (.aload_n 1, 1) := by decide +kernel
theorem d17_6 : decode jdk_130_method_1_code 6 = .ok (.putfield 7, 3) := by decide +kernel
theorem d17_9 : decode jdk_130_method_1_code 9 = .ok (.aload_n 0, 1) := by decide +kernel
theorem d17_10 : decode jdk_130_method_1_code 10 = .ok (.aconst_null, 1) := by decide +kernel
theorem d17_11 : decode jdk_130_method_1_code 11 = .ok (.putfield 13, 3) := by decide +kernel
theorem d17_14 : decode jdk_130_method_1_code 14 = .ok (.aload_n 0, 1) := by decide +kernel
theorem d17_15 : decode jdk_130_method_1_code 15 = .ok (.iload_n 2, 1) := by decide +kernel
theorem d17_16 : decode jdk_130_method_1_code 16 = .ok (.putfield 17, 3) := by decide +kernel
theorem d17_19 : decode jdk_130_method_1_code 19 = .ok (.aload_n 0, 1) := by decide +kernel
theorem d17_20 : decode jdk_130_method_1_code 20 = .ok (.iload_n 3, 1) := by decide +kernel
theorem d17_21 : decode jdk_130_method_1_code 21 = .ok (.iload_n 2, 1) := by decide +kernel
theorem d17_22 : decode jdk_130_method_1_code 22 = .ok (.isub, 1) := by decide +kernel
theorem d17_23 : decode jdk_130_method_1_code 23 = .ok (.putfield 21, 3) := by decide +kernel
theorem d17_26 : decode jdk_130_method_1_code 26 = .ok (.aload_n 0, 1) := by decide +kernel
theorem d17_27 : decode jdk_130_method_1_code 27 = .ok (.aload_n 1, 1) := by decide +kernel
theorem d17_28 : decode jdk_130_method_1_code 28 = .ok (.getfield 24, 3) := by decide +kernel
theorem d17_31 : decode jdk_130_method_1_code 31 = .ok (.putfield 29, 3) := by decide +kernel
theorem d17_34 : decode jdk_130_method_1_code 34 = .ok (.return_, 1) := by decide +kernel
theorem qQ10 : plainFor (⟨OwnK3, "<init>", "(Ljava/util/ArrayList;II)V"⟩ : MethodName) = true := by first | exact plainFor_of_name (by first | (simp [plainName, overriddenIn]; done) | decide +kernel) | exact Jvm.Free.JP.mathPlain rfl (by decide +kernel) | decide +kernel
theorem qQ110 (m : MethodId) (q0 : Addr) : entryFrame m #[(.ref q0)] 1 = mkF m 0 #[rv q0] [] := by first | (simp [entryFrame, mkF, argsToLocals, Value.category]; done) | rfl
theorem sp17 (l : Launch) (Z : State) (a0 : Array Value) (hw : ∀ d ∈ tables_1, d.before a0 Z = true) (ws : List Jvm.Cond) (o0 : Addr) (h0 : Heap) (n0 : Nat) (Z0 : n0 ≤ h0.size) (E_o0 : Exa Z h0 o0 OwnK3) (F_mC_o0 : Fld Z h0 o0 OwnK5 "modCount" "I" (.int 0)) (F_offset_o0 : Fld Z h0 o0 OwnK3 "offset" "I" (.int 0)) (F_parent_o0 : Fld Z h0 o0 OwnK3 "parent" OwnK7 .null) (F_root_o0 : Fld Z h0 o0 OwnK3 "root" OwnK8 .null) (F_size_o0 : Fld Z h0 o0 OwnK3 "size" "I" (.int 0)) (g_o0 : n0 ≤ o0) :
    OwnC l Z (⟨OwnK5, "<init>", "()V"⟩ : MethodName) jdk_39_method_1_code 1 none ws ({ frames := 2, cells := 0, slots := 0, locals := 24 } : Room) #[(.ref o0)] h0 (fun v h L => v = none ∧ Fr n0 L ∧ Keep h0 h [o0] ∧ Fld Z h o0 OwnK3 "offset" "I" (.int 0) ∧ Fld Z h o0 OwnK3 "parent" OwnK7 .null ∧ Fld Z h o0 OwnK3 "root" OwnK8 .null ∧ Fld Z h o0 OwnK3 "size" "I" (.int 0) ∧ Fld Z h o0 OwnK5 "modCount" "I" (.int 0)) := by
  refine own_entry qQ27 (fun m => qQ110 m o0) ?_
  intro p e s m below meth c T0 X0 hC e0
  obtain ⟨hx, hB, hml, hown, hnm, hret, hlk, hZ⟩ := hC
  have N0 := Fr.nil n0
  have K0 := Keep.refl h0 [o0]
  refine oG T0 m 1 #[rv o0] [(.ref o0)] (fun t k => XS.aloadN X0.here hx rfl (hb hB d4_0) rfl rfl k) ?_
  obtain ⟨_, T1, L1, X1, ⟨rfl, e1, rfl⟩, st1⟩ := own_init X0 hx hZ (y := (⟨"java/util/AbstractCollection", "<init>", "()V"⟩ : MethodName)) rfl hown (oW hw 39 rfl) (oW hw 40 rfl) (oW hw 43 rfl) (oW hw 44 rfl) (by decide) (sp4 l Z a0 hw [] o0 h0 n0 Z0 ) e0 (a := o0) 0 (argsL := []) (rest := []) (Ls := #[rv o0]) (by rw [hml]; rfl) (lenOf qQ155 rfl) rfl rfl (Nat.le_of_eq rfl) (hb hB d4_1) (by decide) (by decide) (by decide) (by decide)
  replace X1 := own_nil X1
  refine oG T1 m 4 #[rv o0] [] (st1) ?_
  refine oG T1 m 5 #[rv o0] [(.ref o0)] (fun t k => XS.aloadN X1.here hx rfl (hb hB d4_4) rfl rfl k) ?_
  refine oG T1 m 6 #[rv o0] [(.int 0), (.ref o0)] (fun t k => XS.iconst X1.here hx rfl (hb hB d4_5) k) ?_
  obtain ⟨T2, h2, X2, e2, W2, st2⟩ := putF X1 hx hZ hown (host := "") (Or.inl (oW hw 46 rfl)) Via.refl e1 F_mC_o0 E_o0 (Or.inl (oW hw 134 rfl)) (oW hw 125 rfl) (ty := .int) (by decide) rfl rfl (g := (mkF m 6 #[rv o0] [(.int 0), (.ref o0)])) rfl rfl (hb hB d4_6)
  have F2 := F_mC_o0.same W2
  have cf3 := E_o0.wr W2
  have cf4 := F_offset_o0.other W2 (Or.inr (slot_ne (Or.inr (oW hw 140 rfl)) (Or.inl (oW hw 134 rfl)) (by decide) (t := .int) (t' := .int) (by decide) (by decide)))
  have cf5 := F_parent_o0.other W2 (Or.inr (slot_ne (Or.inr (oW hw 138 rfl)) (Or.inl (oW hw 134 rfl)) (by decide) (t := (.object OwnK3)) (t' := .int) (by decide) (by decide)))
  have cf6 := F_root_o0.other W2 (Or.inr (slot_ne (Or.inr (oW hw 136 rfl)) (Or.inl (oW hw 134 rfl)) (by decide) (t := (.object OwnK4)) (t' := .int) (by decide) (by decide)))
  have cf7 := F_size_o0.other W2 (Or.inr (slot_ne (Or.inl (oW hw 142 rfl)) (Or.inl (oW hw 134 rfl)) (by decide) (t := .int) (t' := .int) (by decide) (by decide)))
  have Z_2 : n0 ≤ h2.size := Nat.le_trans Z0 (Keep.of_wr W2).1
  have K_2 : Keep h0 h2 [o0] := K0.wr W2 (oI 0 rfl)
  have N2 := Fr.snoc X2 N0 g_o0
  refine oG T2 m 9 #[rv o0] [] (st2) ?_
  refine own_retV X2 hx hlk hret (hb hB d4_9) (by decide) (by decide) ?_
  rw [e2]
  exact ⟨rfl, N2, K_2, cf4, cf5, cf6, cf7, F2⟩
theorem qQ80 (m : MethodId) (q0 : Addr) (q1 : Addr) (q2 : Int32) (q3 : Int32) : entryFrame m #[(.ref q0), (.ref q1), (.int q2), (.int q3)] 4 = mkF m 0 #[rv q0, rv q1, iv q2, iv q3] [] := by first | (simp [entryFrame, mkF, argsToLocals, Value.category]; done) | rfl
theorem sp16 (l : Launch) (Z : State) (a0 : Array Value) (hw : ∀ d ∈ tables_1, d.before a0 Z = true) (ws : List Jvm.Cond) (o0 o1 : Addr) (h0 : Heap) (n0 : Nat) (Z0 : n0 ≤ h0.size) (E_o0 : Exa Z h0 o0 OwnK3) (F_mC_o0 : Fld Z h0 o0 OwnK5 "modCount" "I" (.int 0)) (F_offset_o0 : Fld Z h0 o0 OwnK3 "offset" "I" (.int 0)) (F_parent_o0 : Fld Z h0 o0 OwnK3 "parent" OwnK7 .null) (F_root_o0 : Fld Z h0 o0 OwnK3 "root" OwnK8 .null) (F_size_o0 : Fld Z h0 o0 OwnK3 "size" "I" (.int 0)) (F_mC_o1 : Fld Z h0 o1 OwnK5 "modCount" "I" (.int 1)) (ne_o0_o1 : o0 ≠ o1) (g_o0 : n0 ≤ o0) :
    OwnC l Z (⟨OwnK3, "<init>", "(Ljava/util/ArrayList;II)V"⟩ : MethodName) jdk_130_method_1_code 4 none ws ({ frames := 3, cells := 0, slots := 0, locals := 36 } : Room) #[(.ref o0), (.ref o1), (.int 0), (.int 1)] h0 (fun v h L => v = none ∧ Fr n0 L ∧ Keep h0 h [o0] ∧ Fld Z h o0 OwnK3 "root" OwnK8 (.ref o1) ∧ Fld Z h o0 OwnK3 "offset" "I" (.int 0) ∧ Fld Z h o0 OwnK3 "size" "I" (.int 1) ∧ Fld Z h o0 OwnK5 "modCount" "I" (.int 1)) := by
  refine own_entry qQ10 (fun m => qQ80 m o0 o1 (0 : Int32) (1 : Int32)) ?_
  intro p e s m below meth c T0 X0 hC e0
  obtain ⟨hx, hB, hml, hown, hnm, hret, hlk, hZ⟩ := hC
  have N0 := Fr.nil n0
  have K0 := Keep.refl h0 [o0]
  refine oG T0 m 1 #[rv o0, rv o1, iv 0, iv 1] [(.ref o0)] (fun t k => XS.aloadN X0.here hx rfl (hb hB d17_0) rfl rfl k) ?_
  obtain ⟨_, T1, L1, X1, ⟨rfl, Nq1, Kq1, fq0_1, fq1_1, fq2_1, fq3_1, fq4_1⟩, st1⟩ := own_init X0 hx hZ (y := (⟨OwnK5, "<init>", "()V"⟩ : MethodName)) rfl hown (oW hw 131 rfl) (oW hw 34 rfl) (oW hw 37 rfl) (oW hw 38 rfl) (by decide) (sp17 l Z a0 hw [] o0 h0 n0 Z0 E_o0 F_mC_o0 F_offset_o0 F_parent_o0 F_root_o0 F_size_o0 g_o0) e0 (a := o0) 0 (argsL := []) (rest := []) (Ls := #[rv o0, rv o1, iv 0, iv 1]) (by rw [hml]; rfl) (lenOf qQ155 rfl) rfl rfl (Nat.le_of_eq rfl) (hb hB d17_1) (by decide) (by decide) (by decide) (by decide)
  have N1 := Fr.app N0 Nq1
  have cf2 := E_o0.keep Kq1
  have cf3 := F_mC_o1.keep Kq1 (ninS (Ne.symm ne_o0_o1) nin0)
  have Z_1 : n0 ≤ T1.heap.size := Nat.le_trans Z0 Kq1.1
  have K_1 : Keep h0 T1.heap [o0] := K0.trans Kq1 (allS (oI 0 rfl) all0)
  refine oG T1 m 4 #[rv o0, rv o1, iv 0, iv 1] [] (st1) ?_
  refine oG T1 m 5 #[rv o0, rv o1, iv 0, iv 1] [(.ref o0)] (fun t k => XS.aloadN X1.here hx rfl (hb hB d17_4) rfl rfl k) ?_
  refine oG T1 m 6 #[rv o0, rv o1, iv 0, iv 1] [(.ref o1), (.ref o0)] (fun t k => XS.aloadN X1.here hx rfl (hb hB d17_5) rfl rfl k) ?_
  obtain ⟨T4, h4, X4, e4, W4, st4⟩ := putF X1 hx hZ hown (host := "") (Or.inl (oW hw 135 rfl)) Via.refl rfl fq2_1 cf2 (Or.inr ⟨(oW hw 136 rfl), rfl, hnm⟩) (oW hw 125 rfl) (ty := (.object OwnK4)) (by decide) rfl rfl (g := (mkF m 6 #[rv o0, rv o1, iv 0, iv 1] [(.ref o1), (.ref o0)])) rfl rfl (hb hB d17_6)
  have F4 := fq2_1.same W4
  have cf5 := cf2.wr W4
  have cf6 := cf3.other W4 (Or.inl (Ne.symm ne_o0_o1))
  have cf7 := fq0_1.other W4 (Or.inr (slot_ne (Or.inr (oW hw 140 rfl)) (Or.inr (oW hw 136 rfl)) (by decide) (t := .int) (t' := (.object OwnK4)) (by decide) (by decide)))
  have cf8 := fq1_1.other W4 (Or.inr (slot_ne (Or.inr (oW hw 138 rfl)) (Or.inr (oW hw 136 rfl)) (by decide) (t := (.object OwnK3)) (t' := (.object OwnK4)) (by decide) (by decide)))
  have cf9 := fq3_1.other W4 (Or.inr (slot_ne (Or.inl (oW hw 142 rfl)) (Or.inr (oW hw 136 rfl)) (by decide) (t := .int) (t' := (.object OwnK4)) (by decide) (by decide)))
  have cf10 := fq4_1.other W4 (Or.inr (slot_ne (Or.inl (oW hw 134 rfl)) (Or.inr (oW hw 136 rfl)) (by decide) (t := .int) (t' := (.object OwnK4)) (by decide) (by decide)))
  have Z_4 : n0 ≤ h4.size := Nat.le_trans Z_1 (Keep.of_wr W4).1
  have K_4 : Keep h0 h4 [o0] := K_1.wr W4 (oI 0 rfl)
  have N4 := Fr.snoc X4 N1 g_o0
  refine oG T4 m 9 #[rv o0, rv o1, iv 0, iv 1] [] (st4) ?_
  refine oG T4 m 10 #[rv o0, rv o1, iv 0, iv 1] [(.ref o0)] (fun t k => XS.aloadN X4.here hx rfl (hb hB d17_9) rfl rfl k) ?_
  refine oG T4 m 11 #[rv o0, rv o1, iv 0, iv 1] [.null, (.ref o0)] (fun t k => XS.aconstNull X4.here hx rfl (hb hB d17_10) k) ?_
  obtain ⟨T11, h11, X11, e11, W11, st11⟩ := putF X4 hx hZ hown (host := "") (Or.inl (oW hw 137 rfl)) Via.refl e4 cf8 cf5 (Or.inr ⟨(oW hw 138 rfl), rfl, hnm⟩) (oW hw 125 rfl) (ty := (.object OwnK3)) (by decide) rfl rfl (g := (mkF m 11 #[rv o0, rv o1, iv 0, iv 1] [.null, (.ref o0)])) rfl rfl (hb hB d17_11)
  have F11 := cf8.same W11
  have cf12 := cf5.wr W11
  have cf13 := cf6.other W11 (Or.inl (Ne.symm ne_o0_o1))
  have cf14 := cf7.other W11 (Or.inr (slot_ne (Or.inr (oW hw 140 rfl)) (Or.inr (oW hw 138 rfl)) (by decide) (t := .int) (t' := (.object OwnK3)) (by decide) (by decide)))
  have cf15 := cf9.other W11 (Or.inr (slot_ne (Or.inl (oW hw 142 rfl)) (Or.inr (oW hw 138 rfl)) (by decide) (t := .int) (t' := (.object OwnK3)) (by decide) (by decide)))
  have cf16 := cf10.other W11 (Or.inr (slot_ne (Or.inl (oW hw 134 rfl)) (Or.inr (oW hw 138 rfl)) (by decide) (t := .int) (t' := (.object OwnK3)) (by decide) (by decide)))
  have cf17 := F4.other W11 (Or.inr (slot_ne (Or.inr (oW hw 136 rfl)) (Or.inr (oW hw 138 rfl)) (by decide) (t := (.object OwnK4)) (t' := (.object OwnK3)) (by decide) (by decide)))
  have Z_11 : n0 ≤ h11.size := Nat.le_trans Z_4 (Keep.of_wr W11).1
  have K_11 : Keep h0 h11 [o0] := K_4.wr W11 (oI 0 rfl)
  have N11 := Fr.snoc X11 N4 g_o0
  refine oG T11 m 14 #[rv o0, rv o1, iv 0, iv 1] [] (st11) ?_
  refine oG T11 m 15 #[rv o0, rv o1, iv 0, iv 1] [(.ref o0)] (fun t k => XS.aloadN X11.here hx rfl (hb hB d17_14) rfl rfl k) ?_
  refine oG T11 m 16 #[rv o0, rv o1, iv 0, iv 1] [(.int 0), (.ref o0)] (fun t k => XS.iloadN X11.here hx rfl (hb hB d17_15) rfl k) ?_
  obtain ⟨T18, h18, X18, e18, W18, st18⟩ := putF X11 hx hZ hown (host := "") (Or.inl (oW hw 139 rfl)) Via.refl e11 cf14 cf12 (Or.inr ⟨(oW hw 140 rfl), rfl, hnm⟩) (oW hw 125 rfl) (ty := .int) (by decide) rfl rfl (g := (mkF m 16 #[rv o0, rv o1, iv 0, iv 1] [(.int 0), (.ref o0)])) rfl rfl (hb hB d17_16)
  have F18 := cf14.same W18
  have cf19 := cf12.wr W18
  have cf20 := cf13.other W18 (Or.inl (Ne.symm ne_o0_o1))
  have cf21 := cf15.other W18 (Or.inr (slot_ne (Or.inl (oW hw 142 rfl)) (Or.inr (oW hw 140 rfl)) (by decide) (t := .int) (t' := .int) (by decide) (by decide)))
  have cf22 := cf16.other W18 (Or.inr (slot_ne (Or.inl (oW hw 134 rfl)) (Or.inr (oW hw 140 rfl)) (by decide) (t := .int) (t' := .int) (by decide) (by decide)))
  have cf23 := cf17.other W18 (Or.inr (slot_ne (Or.inr (oW hw 136 rfl)) (Or.inr (oW hw 140 rfl)) (by decide) (t := (.object OwnK4)) (t' := .int) (by decide) (by decide)))
  have cf24 := F11.other W18 (Or.inr (slot_ne (Or.inr (oW hw 138 rfl)) (Or.inr (oW hw 140 rfl)) (by decide) (t := (.object OwnK3)) (t' := .int) (by decide) (by decide)))
  have Z_18 : n0 ≤ h18.size := Nat.le_trans Z_11 (Keep.of_wr W18).1
  have K_18 : Keep h0 h18 [o0] := K_11.wr W18 (oI 0 rfl)
  have N18 := Fr.snoc X18 N11 g_o0
  refine oG T18 m 19 #[rv o0, rv o1, iv 0, iv 1] [] (st18) ?_
  refine oG T18 m 20 #[rv o0, rv o1, iv 0, iv 1] [(.ref o0)] (fun t k => XS.aloadN X18.here hx rfl (hb hB d17_19) rfl rfl k) ?_
  refine oG T18 m 21 #[rv o0, rv o1, iv 0, iv 1] [(.int 1), (.ref o0)] (fun t k => XS.iloadN X18.here hx rfl (hb hB d17_20) rfl k) ?_
  refine oG T18 m 22 #[rv o0, rv o1, iv 0, iv 1] [(.int 0), (.int 1), (.ref o0)] (fun t k => XS.iloadN X18.here hx rfl (hb hB d17_21) rfl k) ?_
  refine oG T18 m 23 #[rv o0, rv o1, iv 0, iv 1] [(.int ((1 : Int32) - (0 : Int32))), (.ref o0)] (fun t k => XS.isub X18.here hx rfl (hb hB d17_22) rfl k) ?_
  rw [show ((1 : Int32) - (0 : Int32)) = (1 : Int32) from by decide]
  obtain ⟨T25, h25, X25, e25, W25, st25⟩ := putF X18 hx hZ hown (host := "") (Or.inl (oW hw 141 rfl)) Via.refl e18 cf21 cf19 (Or.inl (oW hw 142 rfl)) (oW hw 125 rfl) (ty := .int) (by decide) rfl rfl (g := (mkF m 23 #[rv o0, rv o1, iv 0, iv 1] [(.int 1), (.ref o0)])) rfl rfl (hb hB d17_23)
  have F25 := cf21.same W25
  have cf26 := cf19.wr W25
  have cf27 := cf20.other W25 (Or.inl (Ne.symm ne_o0_o1))
  have cf28 := cf22.other W25 (Or.inr (slot_ne (Or.inl (oW hw 134 rfl)) (Or.inl (oW hw 142 rfl)) (by decide) (t := .int) (t' := .int) (by decide) (by decide)))
  have cf29 := cf23.other W25 (Or.inr (slot_ne (Or.inr (oW hw 136 rfl)) (Or.inl (oW hw 142 rfl)) (by decide) (t := (.object OwnK4)) (t' := .int) (by decide) (by decide)))
  have cf30 := cf24.other W25 (Or.inr (slot_ne (Or.inr (oW hw 138 rfl)) (Or.inl (oW hw 142 rfl)) (by decide) (t := (.object OwnK3)) (t' := .int) (by decide) (by decide)))
  have cf31 := F18.other W25 (Or.inr (slot_ne (Or.inr (oW hw 140 rfl)) (Or.inl (oW hw 142 rfl)) (by decide) (t := .int) (t' := .int) (by decide) (by decide)))
  have Z_25 : n0 ≤ h25.size := Nat.le_trans Z_18 (Keep.of_wr W25).1
  have K_25 : Keep h0 h25 [o0] := K_18.wr W25 (oI 0 rfl)
  have N25 := Fr.snoc X25 N18 g_o0
  refine oG T25 m 26 #[rv o0, rv o1, iv 0, iv 1] [] (st25) ?_
  refine oG T25 m 27 #[rv o0, rv o1, iv 0, iv 1] [(.ref o0)] (fun t k => XS.aloadN X25.here hx rfl (hb hB d17_26) rfl rfl k) ?_
  refine oG T25 m 28 #[rv o0, rv o1, iv 0, iv 1] [(.ref o1), (.ref o0)] (fun t k => XS.aloadN X25.here hx rfl (hb hB d17_27) rfl rfl k) ?_
  obtain ⟨T32, X32, e32, st32⟩ := getF X25 hx hZ hown (host := "") (Or.inl (oW hw 143 rfl)) (Via.of (oW hw 73 rfl)) e25 cf27 (g := (mkF m 28 #[rv o0, rv o1, iv 0, iv 1] [(.ref o1), (.ref o0)])) rfl rfl (hb hB d17_28)
  refine oG T32 m 31 #[rv o0, rv o1, iv 0, iv 1] [(.int 1), (.ref o0)] (st32) ?_
  obtain ⟨T33, h33, X33, e33, W33, st33⟩ := putF X32 hx hZ hown (host := "") (Or.inl (oW hw 144 rfl)) (Via.of (oW hw 145 rfl)) e32 cf28 cf26 (Or.inl (oW hw 134 rfl)) (oW hw 125 rfl) (ty := .int) (by decide) rfl rfl (g := (mkF m 31 #[rv o0, rv o1, iv 0, iv 1] [(.int 1), (.ref o0)])) rfl rfl (hb hB d17_31)
  have F33 := cf28.same W33
  have cf34 := cf26.wr W33
  have cf35 := cf27.other W33 (Or.inl (Ne.symm ne_o0_o1))
  have cf36 := cf29.other W33 (Or.inr (slot_ne (Or.inr (oW hw 136 rfl)) (Or.inl (oW hw 134 rfl)) (by decide) (t := (.object OwnK4)) (t' := .int) (by decide) (by decide)))
  have cf37 := cf30.other W33 (Or.inr (slot_ne (Or.inr (oW hw 138 rfl)) (Or.inl (oW hw 134 rfl)) (by decide) (t := (.object OwnK3)) (t' := .int) (by decide) (by decide)))
  have cf38 := cf31.other W33 (Or.inr (slot_ne (Or.inr (oW hw 140 rfl)) (Or.inl (oW hw 134 rfl)) (by decide) (t := .int) (t' := .int) (by decide) (by decide)))
  have cf39 := F25.other W33 (Or.inr (slot_ne (Or.inl (oW hw 142 rfl)) (Or.inl (oW hw 134 rfl)) (by decide) (t := .int) (t' := .int) (by decide) (by decide)))
  have Z_33 : n0 ≤ h33.size := Nat.le_trans Z_25 (Keep.of_wr W33).1
  have K_33 : Keep h0 h33 [o0] := K_25.wr W33 (oI 0 rfl)
  have N33 := Fr.snoc X33 N25 g_o0
  refine oG T33 m 34 #[rv o0, rv o1, iv 0, iv 1] [] (st33) ?_
  refine own_retV X33 hx hlk hret (hb hB d17_34) (by decide) (by decide) ?_
  rw [e33]
  exact ⟨rfl, N33, K_33, cf36, cf38, cf39, F33⟩
theorem qQ132 (m : MethodId) (q0 : Addr) (q1 : Int32) (q2 : Int32) : entryFrame m #[(.ref q0), (.int q1), (.int q2)] 3 = mkF m 0 #[rv q0, iv q1, iv q2] [] := by first | (simp [entryFrame, mkF, argsToLocals, Value.category]; done) | rfl
theorem sp14 (l : Launch) (Z : State) (a0 : Array Value) (hw : ∀ d ∈ tables_1, d.before a0 Z = true) (ws : List Jvm.Cond) (o0 : Addr) (h0 : Heap) (n0 : Nat) (Z0 : n0 ≤ h0.size) (F_mC_o0 : Fld Z h0 o0 OwnK5 "modCount" "I" (.int 1)) (F_size_o0 : Fld Z h0 o0 OwnK4 "size" "I" (.int 1)) :
    OwnC l Z (⟨OwnK4, "subList", "(II)Ljava/util/List;"⟩ : MethodName) jdk_38_method_56_code 3 (some (.object "java/util/List")) ws ({ frames := 4, cells := 1, slots := 5, locals := 52 } : Room) #[(.ref o0), (.int 0), (.int 1)] h0 (fun v h L => ∃ (w0 : Addr), v = some (.ref w0) ∧ Fr n0 L ∧ Keep h0 h [] ∧ (h0.size ≤ w0 ∧ n0 ≤ w0) ∧ Exa Z h w0 OwnK3 ∧ Fld Z h w0 OwnK3 "root" OwnK8 (.ref o0) ∧ Fld Z h w0 OwnK3 "offset" "I" (.int 0) ∧ Fld Z h w0 OwnK3 "size" "I" (.int 1) ∧ Fld Z h w0 OwnK5 "modCount" "I" (.int 1)) := by
  refine own_entry qQ17 (fun m => qQ132 m o0 (0 : Int32) (1 : Int32)) ?_
  intro p e s m below meth c T0 X0 hC e0
  obtain ⟨hx, hB, hml, hown, hnm, hret, hlk, hZ⟩ := hC
  have N0 := Fr.nil n0
  have K0 := Keep.refl h0 []
  refine oG T0 m 1 #[rv o0, iv 0, iv 1] [(.int 0)] (fun t k => XS.iloadN X0.here hx rfl (hb hB d15_0) rfl k) ?_
  refine oG T0 m 2 #[rv o0, iv 0, iv 1] [(.int 1), (.int 0)] (fun t k => XS.iloadN X0.here hx rfl (hb hB d15_1) rfl k) ?_
  refine oG T0 m 3 #[rv o0, iv 0, iv 1] [(.ref o0), (.int 1), (.int 0)] (fun t k => XS.aloadN X0.here hx rfl (hb hB d15_2) rfl rfl k) ?_
  obtain ⟨T1, X1, e1, st1⟩ := getF X0 hx hZ hown (host := "") (Or.inl (oW hw 74 rfl)) Via.refl e0 F_size_o0 (g := (mkF m 3 #[rv o0, iv 0, iv 1] [(.ref o0), (.int 1), (.int 0)])) rfl rfl (hb hB d15_3)
  refine oG T1 m 6 #[rv o0, iv 0, iv 1] [(.int 1), (.int 1), (.int 0)] (st1) ?_
  obtain ⟨_, T2, L2, X2, ⟨rfl, e2, rfl⟩, st2⟩ := own_staticUp X1 hx hZ (x := (⟨OwnK4, "subListRangeCheck", "(III)V"⟩ : MethodName)) hown (oW hw 120 rfl) (oW hw 121 rfl) (by decide) (oW hw 122 rfl) (oW hw 37 rfl) (oW hw 123 rfl) (sp15 l Z a0 hw []  h0 n0 Z0 ) e1 0 (argsL := [(.int 0), (.int 1), (.int 1)]) (rest := []) (Ls := #[rv o0, iv 0, iv 1]) (by rw [hml]; rfl) (lenOf qQ41 rfl) rfl rfl (Nat.le_of_eq rfl) (hb hB d15_6) (by decide) (by decide) (by decide) (by decide)
  replace X2 := own_nil X2
  refine oG T2 m 9 #[rv o0, iv 0, iv 1] [] (st2) ?_
  obtain ⟨T3, h3, X3, e3, E3, A3, D3, -, st3⟩ := newO X2 hx hZ hown (oW hw 124 rfl) (oW hw 125 rfl) (oW hw 126 rfl) e2 (g := (mkF m 9 #[rv o0, iv 0, iv 1] [])) rfl (hb hB d15_9) (by decide) (by decide)
  obtain ⟨b3, g3⟩ : ∃ z, z = h0.size := ⟨_, rfl⟩
  rw [← g3] at A3 D3 st3
  have ne_o0_b3 : o0 ≠ b3 := Nat.ne_of_lt (Nat.lt_of_lt_of_eq F_mC_o0.lt g3.symm)
  have g_b3 : n0 ≤ b3 := Nat.le_trans Z0 (Nat.le_of_eq g3.symm)
  have sz_b3 : h0.size ≤ b3 := Nat.le_trans K0.1 (Nat.le_of_eq g3.symm)
  have cf4 := F_mC_o0.ext E3
  have cf5 := F_size_o0.ext E3
  have Z_3 : n0 ≤ h3.size := Nat.le_trans Z0 E3.1
  have K_3 : Keep h0 h3 [] := K0.ext E3
  have F_mC_3 : Fld Z h3 b3 OwnK5 "modCount" "I" (.int 0) := D3 (Or.inl (oW hw 134 rfl)) (ty := .int) (by decide)
  have F_root_3 : Fld Z h3 b3 OwnK3 "root" OwnK8 .null := D3 (Or.inr (oW hw 136 rfl)) (ty := (.object OwnK4)) (by decide)
  have F_parent_3 : Fld Z h3 b3 OwnK3 "parent" OwnK7 .null := D3 (Or.inr (oW hw 138 rfl)) (ty := (.object OwnK3)) (by decide)
  have F_offset_3 : Fld Z h3 b3 OwnK3 "offset" "I" (.int 0) := D3 (Or.inr (oW hw 140 rfl)) (ty := .int) (by decide)
  have F_size_3 : Fld Z h3 b3 OwnK3 "size" "I" (.int 0) := D3 (Or.inl (oW hw 142 rfl)) (ty := .int) (by decide)
  refine oG T3 m 12 #[rv o0, iv 0, iv 1] [(.ref b3)] (st3) ?_
  refine oG T3 m 13 #[rv o0, iv 0, iv 1] [(.ref b3), (.ref b3)] (fun t k => XS.dup X3.here hx rfl (hb hB d15_12) rfl rfl k) ?_
  refine oG T3 m 14 #[rv o0, iv 0, iv 1] [(.ref o0), (.ref b3), (.ref b3)] (fun t k => XS.aloadN X3.here hx rfl (hb hB d15_13) rfl rfl k) ?_
  refine oG T3 m 15 #[rv o0, iv 0, iv 1] [(.int 0), (.ref o0), (.ref b3), (.ref b3)] (fun t k => XS.iloadN X3.here hx rfl (hb hB d15_14) rfl k) ?_
  refine oG T3 m 16 #[rv o0, iv 0, iv 1] [(.int 1), (.int 0), (.ref o0), (.ref b3), (.ref b3)] (fun t k => XS.iloadN X3.here hx rfl (hb hB d15_15) rfl k) ?_
  obtain ⟨_, T6, L6, X6, ⟨rfl, Nq6, Kq6, fq0_6, fq1_6, fq2_6, fq3_6⟩, st6⟩ := own_init X3 hx hZ (y := (⟨OwnK3, "<init>", "(Ljava/util/ArrayList;II)V"⟩ : MethodName)) rfl hown (oW hw 127 rfl) (oW hw 128 rfl) (oW hw 126 rfl) (oW hw 130 rfl) (by decide) (sp16 l Z a0 hw [] b3 o0 h3 n0 Z_3 A3 F_mC_3 F_offset_3 F_parent_3 F_root_3 F_size_3 cf4 (Ne.symm ne_o0_b3) g_b3) e3 (a := b3) 1 (argsL := [(.ref o0), (.int 0), (.int 1)]) (rest := [(.ref b3)]) (Ls := #[rv o0, iv 0, iv 1]) (by rw [hml]; rfl) (lenOf qQ32 rfl) rfl rfl (Nat.le_of_eq rfl) (hb hB d15_16) (by decide) (by decide) (by decide) (by decide)
  have N6 := Fr.app N0 Nq6
  have cf7 := cf4.keep Kq6 (ninS ne_o0_b3 nin0)
  have cf8 := cf5.keep Kq6 (ninS ne_o0_b3 nin0)
  have cf9 := A3.keep Kq6
  have Z_6 : n0 ≤ T6.heap.size := Nat.le_trans Z_3 Kq6.1
  have K_6 : Keep h0 T6.heap [] := K_3.trans Kq6 (allS (Or.inr sz_b3) all0)
  refine oG T6 m 19 #[rv o0, iv 0, iv 1] [(.ref b3)] (st6) ?_
  refine own_retA X6 hx hlk hret rfl rfl rfl (hb hB d15_19) (by decide) (by decide) ?_
  exact ⟨b3, rfl, N6, K_6, ⟨sz_b3, g_b3⟩, cf9, fq0_6, fq1_6, fq2_6, fq3_6⟩
theorem d18_0 : decode jdk_130_method_23_code 0 = .ok (.aload_n 0, 1) := by decide +kernel
theorem d18_1 : decode jdk_130_method_23_code 1 = .ok (.invokevirtual 131, 3) := by decide +kernel
theorem d18_4 : decode jdk_130_method_23_code 4 = .ok (.areturn, 1) := by decide +kernel
theorem qQ11 : plainFor (⟨OwnK3, "iterator", "()Ljava/util/Iterator;"⟩ : MethodName) = true := by first | exact plainFor_of_name (by first | (simp [plainName, overriddenIn]; done) | decide +kernel) | exact Jvm.Free.JP.mathPlain rfl (by decide +kernel) | decide +kernel
theorem d19_0 : decode jdk_39_method_12_code 0 = .ok (.aload_n 0, 1) := by decide +kernel
theorem d19_1 : decode jdk_39_method_12_code 1 = .ok (.iconst 0, 1) := by decide +kernel
theorem d19_2 : decode jdk_39_method_12_code 2 = .ok (.invokevirtual 47, 3) := by decide +kernel
theorem d19_5 : decode jdk_39_method_12_code 5 = .ok (.areturn, 1) := by decide +kernel
theorem qQ8 : plainFor (⟨OwnK5, "listIterator", "()Ljava/util/ListIterator;"⟩ : MethodName) = true := by first | exact plainFor_of_name (by first | (simp [plainName, overriddenIn]; done) | decide +kernel) | exact Jvm.Free.JP.mathPlain rfl (by decide +kernel) | decide +kernel
theorem d20_0 : decode jdk_130_method_24_code 0 = .ok (.aload_n 0, 1) := by decide +kernel
theorem d20_1 : decode jdk_130_method_24_code 1 = .ok (.invokevirtual 36, 3) := by decide +kernel
theorem d20_4 : decode jdk_130_method_24_code 4 = .ok (.aload_n 0, 1) := by decide +kernel
theorem d20_5 : decode jdk_130_method_24_code 5 = .ok (.iload_n 1, 1) := by decide +kernel
theorem d20_6 : decode jdk_130_method_24_code 6 = .ok (.invokevirtual 46, 3) := by decide +kernel
theorem d20_9 : decode jdk_130_method_24_code 9 = .ok (.new 135, 3) := by decide +kernel
theorem d20_12 : decode jdk_130_method_24_code 12 = .ok (.dup, 1) := by decide +kernel
theorem d20_13 : decode jdk_130_method_24_code 13 = .ok (.aload_n 0, 1) := by decide +kernel
theorem d20_14 : decode jdk_130_method_24_code 14 = .ok (.iload_n 1, 1) := by decide +kernel
theorem d20_15 : decode jdk_130_method_24_code 15 = .ok (.invokespecial 137, 3) := by decide +kernel
theorem d20_18 : decode jdk_130_method_24_code 18 = .ok (.areturn, 1) := by decide +kernel
theorem qQ5 : plainFor (⟨OwnK3, "listIterator", "(I)Ljava/util/ListIterator;"⟩ : MethodName) = true := by first | exact plainFor_of_name (by first | (simp [plainName, overriddenIn]; done) | decide +kernel) | exact Jvm.Free.JP.mathPlain rfl (by decide +kernel) | decide +kernel
theorem d21_0 : decode jdk_130_method_28_code 0 = .ok (.aload_n 0, 1) := by decide +kernel
theorem d21_1 : decode jdk_130_method_28_code 1 = .ok (.getfield 7, 3) := by decide +kernel
theorem d21_4 : decode jdk_130_method_28_code 4 = .ok (.getfield 24, 3) := by decide +kernel
theorem d21_7 : decode jdk_130_method_28_code 7 = .ok (.aload_n 0, 1) := by decide +kernel
theorem d21_8 : decode jdk_130_method_28_code 8 = .ok (.getfield 29, 3) := by decide +kernel
theorem d21_11 : decode jdk_130_method_28_code 11 = .ok (.if_icmp .eq 11, 3) := by decide +kernel
theorem d21_14 : decode jdk_130_method_28_code 14 = .ok (.new 174, 3) := by decide +kernel
theorem d21_17 : decode jdk_130_method_28_code 17 = .ok (.dup, 1) := by decide +kernel
theorem d21_18 : decode jdk_130_method_28_code 18 = .ok (.invokespecial 176, 3) := by decide +kernel
theorem d21_21 : decode jdk_130_method_28_code 21 = .ok (.athrow, 1) := by decide +kernel
theorem d21_22 : decode jdk_130_method_28_code 22 = .ok (.return_, 1) := by decide +kernel
theorem qQ14 : plainFor (⟨OwnK3, "checkForComodification", "()V"⟩ : MethodName) = true := by first | exact plainFor_of_name (by first | (simp [plainName, overriddenIn]; done) | decide +kernel) | exact Jvm.Free.JP.mathPlain rfl (by decide +kernel) | decide +kernel
theorem qQ146 (m : MethodId) (q0 : Addr) : entryFrame m #[(.ref q0)] 1 = mkF m 0 #[rv q0] [] := by first | (simp [entryFrame, mkF, argsToLocals, Value.category]; done) | rfl
theorem sp21 (l : Launch) (Z : State) (a0 : Array Value) (hw : ∀ d ∈ tables_1, d.before a0 Z = true) (ws : List Jvm.Cond) (o0 o1 : Addr) (h0 : Heap) (n0 : Nat) (Z0 : n0 ≤ h0.size) (F_mC_o0 : Fld Z h0 o0 OwnK5 "modCount" "I" (.int 1)) (F_root_o0 : Fld Z h0 o0 OwnK3 "root" OwnK8 (.ref o1)) (F_mC_o1 : Fld Z h0 o1 OwnK5 "modCount" "I" (.int 1)) :
    OwnC l Z (⟨OwnK3, "checkForComodification", "()V"⟩ : MethodName) jdk_130_method_28_code 1 none ws ({ frames := 0, cells := 0, slots := 0, locals := 0 } : Room) #[(.ref o0)] h0 (fun v h L => v = none ∧ h = h0 ∧ L = []) := by
  refine own_entry qQ14 (fun m => qQ146 m o0) ?_
  intro p e s m below meth c T0 X0 hC e0
  obtain ⟨hx, hB, hml, hown, hnm, hret, hlk, hZ⟩ := hC
  have N0 := Fr.nil n0
  have K0 := Keep.refl h0 []
  refine oG T0 m 1 #[rv o0] [(.ref o0)] (fun t k => XS.aloadN X0.here hx rfl (hb hB d21_0) rfl rfl k) ?_
  obtain ⟨T1, X1, e1, st1⟩ := getF X0 hx hZ hown (host := "") (Or.inl (oW hw 135 rfl)) Via.refl e0 F_root_o0 (g := (mkF m 1 #[rv o0] [(.ref o0)])) rfl rfl (hb hB d21_1)
  refine oG T1 m 4 #[rv o0] [(.ref o1)] (st1) ?_
  obtain ⟨T2, X2, e2, st2⟩ := getF X1 hx hZ hown (host := "") (Or.inl (oW hw 143 rfl)) (Via.of (oW hw 73 rfl)) e1 F_mC_o1 (g := (mkF m 4 #[rv o0] [(.ref o1)])) rfl rfl (hb hB d21_4)
  refine oG T2 m 7 #[rv o0] [(.int 1)] (st2) ?_
  refine oG T2 m 8 #[rv o0] [(.ref o0), (.int 1)] (fun t k => XS.aloadN X2.here hx rfl (hb hB d21_7) rfl rfl k) ?_
  obtain ⟨T3, X3, e3, st3⟩ := getF X2 hx hZ hown (host := "") (Or.inl (oW hw 144 rfl)) (Via.of (oW hw 145 rfl)) e2 F_mC_o0 (g := (mkF m 8 #[rv o0] [(.ref o0), (.int 1)])) rfl rfl (hb hB d21_8)
  refine oG T3 m 11 #[rv o0] [(.int 1), (.int 1)] (st3) ?_
  refine oG T3 m 22 #[rv o0] [] (fun t k => XS.icmpYes X3.here hx rfl (pc0 := 11) (pc' := 22) rfl (hb hB d21_11) rfl (teq (by decide)).1 (by decide) (by decide) k) ?_
  refine own_retV X3 hx hlk hret (hb hB d21_22) (by decide) (by decide) ?_
  exact ⟨rfl, e3, rfl⟩
theorem d22_0 : decode jdk_130_method_26_code 0 = .ok (.iload_n 1, 1) := by decide +kernel
theorem d22_1 : decode jdk_130_method_26_code 1 = .ok (.ifCond .lt 11, 3) := by decide +kernel
theorem d22_4 : decode jdk_130_method_26_code 4 = .ok (.iload_n 1, 1) := by decide +kernel
theorem d22_5 : decode jdk_130_method_26_code 5 = .ok (.aload_n 0, 1) := by decide +kernel
theorem d22_6 : decode jdk_130_method_26_code 6 = .ok (.getfield 21, 3) := by decide +kernel
theorem d22_9 : decode jdk_130_method_26_code 9 = .ok (.if_icmp .le 16, 3) := by decide +kernel
theorem d22_12 : decode jdk_130_method_26_code 12 = .ok (.new 147, 3) := by decide +kernel
theorem d22_15 : decode jdk_130_method_26_code 15 = .ok (.dup, 1) := by decide +kernel
theorem d22_16 : decode jdk_130_method_26_code 16 = .ok (.aload_n 0, 1) := by decide +kernel
theorem d22_17 : decode jdk_130_method_26_code 17 = .ok (.iload_n 1, 1) := by decide +kernel
theorem d22_18 : decode jdk_130_method_26_code 18 = .ok (.invokevirtual 149, 3) := by decide +kernel
theorem d22_21 : decode jdk_130_method_26_code 21 = .ok (.invokespecial 153, 3) := by decide +kernel
theorem d22_24 : decode jdk_130_method_26_code 24 = .ok (.athrow, 1) := by decide +kernel
theorem d22_25 : decode jdk_130_method_26_code 25 = .ok (.return_, 1) := by decide +kernel
theorem qQ16 : plainFor (⟨OwnK3, "rangeCheckForAdd", "(I)V"⟩ : MethodName) = true := by first | exact plainFor_of_name (by first | (simp [plainName, overriddenIn]; done) | decide +kernel) | exact Jvm.Free.JP.mathPlain rfl (by decide +kernel) | decide +kernel
theorem qQ88 (m : MethodId) (q0 : Addr) (q1 : Int32) : entryFrame m #[(.ref q0), (.int q1)] 2 = mkF m 0 #[rv q0, iv q1] [] := by first | (simp [entryFrame, mkF, argsToLocals, Value.category]; done) | rfl
theorem sp22 (l : Launch) (Z : State) (a0 : Array Value) (hw : ∀ d ∈ tables_1, d.before a0 Z = true) (ws : List Jvm.Cond) (o0 : Addr) (h0 : Heap) (n0 : Nat) (Z0 : n0 ≤ h0.size) (F_size_o0 : Fld Z h0 o0 OwnK3 "size" "I" (.int 1)) :
    OwnC l Z (⟨OwnK3, "rangeCheckForAdd", "(I)V"⟩ : MethodName) jdk_130_method_26_code 2 none ws ({ frames := 0, cells := 0, slots := 0, locals := 0 } : Room) #[(.ref o0), (.int 0)] h0 (fun v h L => v = none ∧ h = h0 ∧ L = []) := by
  refine own_entry qQ16 (fun m => qQ88 m o0 (0 : Int32)) ?_
  intro p e s m below meth c T0 X0 hC e0
  obtain ⟨hx, hB, hml, hown, hnm, hret, hlk, hZ⟩ := hC
  have N0 := Fr.nil n0
  have K0 := Keep.refl h0 []
  refine oG T0 m 1 #[rv o0, iv 0] [(.int 0)] (fun t k => XS.iloadN X0.here hx rfl (hb hB d22_0) rfl k) ?_
  refine oG T0 m 4 #[rv o0, iv 0] [] (fun t k => XS.ifNo X0.here hx rfl (hb hB d22_1) rfl ((if0 _ _).trans (flt (by decide)).1) k) ?_
  refine oG T0 m 5 #[rv o0, iv 0] [(.int 0)] (fun t k => XS.iloadN X0.here hx rfl (hb hB d22_4) rfl k) ?_
  refine oG T0 m 6 #[rv o0, iv 0] [(.ref o0), (.int 0)] (fun t k => XS.aloadN X0.here hx rfl (hb hB d22_5) rfl rfl k) ?_
  obtain ⟨T1, X1, e1, st1⟩ := getF X0 hx hZ hown (host := "") (Or.inl (oW hw 141 rfl)) Via.refl e0 F_size_o0 (g := (mkF m 6 #[rv o0, iv 0] [(.ref o0), (.int 0)])) rfl rfl (hb hB d22_6)
  refine oG T1 m 9 #[rv o0, iv 0] [(.int 1), (.int 0)] (st1) ?_
  refine oG T1 m 25 #[rv o0, iv 0] [] (fun t k => XS.icmpYes X1.here hx rfl (pc0 := 9) (pc' := 25) rfl (hb hB d22_9) rfl (flt (by decide)).2.2.2 (by decide) (by decide) k) ?_
  refine own_retV X1 hx hlk hret (hb hB d22_25) (by decide) (by decide) ?_
  exact ⟨rfl, e1, rfl⟩
theorem d23_0 : decode jdk_136_method_1_code 0 = .ok (.aload_n 0, 1) := by decide +kernel
theorem d23_1 : decode jdk_136_method_1_code 1 = .ok (.aload_n 1, 1) := by decide +kernel
theorem d23_2 : decode jdk_136_method_1_code 2 = .ok (.putfield 1, 3) := by decide +kernel
theorem d23_5 : decode jdk_136_method_1_code 5 = .ok (.aload_n 0, 1) := by decide +kernel
theorem d23_6 : decode jdk_136_method_1_code 6 = .ok (.iload_n 2, 1) := by decide +kernel
theorem d23_7 : decode jdk_136_method_1_code 7 = .ok (.putfield 7, 3) := by decide +kernel
theorem d23_10 : decode jdk_136_method_1_code 10 = .ok (.aload_n 0, 1) := by decide +kernel
theorem d23_11 : decode jdk_136_method_1_code 11 = .ok (.invokespecial 11, 3) := by decide +kernel
theorem d23_14 : decode jdk_136_method_1_code 14 = .ok (.aload_n 0, 1) := by decide +kernel
theorem d23_15 : decode jdk_136_method_1_code 15 = .ok (.aload_n 0, 1) := by decide +kernel
theorem d23_16 : decode jdk_136_method_1_code 16 = .ok (.getfield 7, 3) := by decide +kernel
theorem d23_19 : decode jdk_136_method_1_code 19 = .ok (.putfield 17, 3) := by decide +kernel
theorem d23_22 : decode jdk_136_method_1_code 22 = .ok (.aload_n 0, 1) := by decide +kernel
theorem d23_23 : decode jdk_136_method_1_code 23 = .ok (.iconst (-1), 1) := by decide +kernel
theorem d23_24 : decode jdk_136_method_1_code 24 = .ok (.putfield 20, 3) := by decide +kernel
theorem d23_27 : decode jdk_136_method_1_code 27 = .ok (.aload_n 0, 1) := by decide +kernel
theorem d23_28 : decode jdk_136_method_1_code 28 = .ok (.aload_n 0, 1) := by decide +kernel
theorem d23_29 : decode jdk_136_method_1_code 29 = .ok (.getfield 1, 3) := by decide +kernel
theorem d23_32 : decode jdk_136_method_1_code 32 = .ok (.getfield 23, 3) := by decide +kernel
theorem d23_35 : decode jdk_136_method_1_code 35 = .ok (.putfield 28, 3) := by decide +kernel
theorem d23_38 : decode jdk_136_method_1_code 38 = .ok (.return_, 1) := by decide +kernel
theorem qQ4 : plainFor (⟨OwnK2, "<init>", "(Ljava/util/ArrayList$SubList;I)V"⟩ : MethodName) = true := by first | exact plainFor_of_name (by first | (simp [plainName, overriddenIn]; done) | decide +kernel) | exact Jvm.Free.JP.mathPlain rfl (by decide +kernel) | decide +kernel
theorem qQ130 (m : MethodId) (q0 : Addr) (q1 : Addr) (q2 : Int32) : entryFrame m #[(.ref q0), (.ref q1), (.int q2)] 3 = mkF m 0 #[rv q0, rv q1, iv q2] [] := by first | (simp [entryFrame, mkF, argsToLocals, Value.category]; done) | rfl
theorem sp23 (l : Launch) (Z : State) (a0 : Array Value) (hw : ∀ d ∈ tables_1, d.before a0 Z = true) (ws : List Jvm.Cond) (o0 o1 : Addr) (h0 : Heap) (n0 : Nat) (Z0 : n0 ≤ h0.size) (E_o0 : Exa Z h0 o0 OwnK2) (F_cursor_o0 : Fld Z h0 o0 OwnK2 "cursor" "I" (.int 0)) (F_xM_o0 : Fld Z h0 o0 OwnK2 "expectedModCount" "I" (.int 0)) (F_lastRet_o0 : Fld Z h0 o0 OwnK2 "lastRet" "I" (.int 0)) (F_this_0_o0 : Fld Z h0 o0 OwnK2 "this$0" OwnK7 .null) (F_val_index_o0 : Fld Z h0 o0 OwnK2 "val$index" "I" (.int 0)) (F_mC_o1 : Fld Z h0 o1 OwnK5 "modCount" "I" (.int 1)) (ne_o0_o1 : o0 ≠ o1) (g_o0 : n0 ≤ o0) :
    OwnC l Z (⟨OwnK2, "<init>", "(Ljava/util/ArrayList$SubList;I)V"⟩ : MethodName) jdk_136_method_1_code 3 none ws ({ frames := 1, cells := 0, slots := 0, locals := 12 } : Room) #[(.ref o0), (.ref o1), (.int 0)] h0 (fun v h L => v = none ∧ Fr n0 L ∧ Keep h0 h [o0] ∧ Fld Z h o0 OwnK2 "this$0" OwnK7 (.ref o1) ∧ Fld Z h o0 OwnK2 "val$index" "I" (.int 0) ∧ Fld Z h o0 OwnK2 "cursor" "I" (.int 0) ∧ Fld Z h o0 OwnK2 "lastRet" "I" (.int (-1)) ∧ Fld Z h o0 OwnK2 "expectedModCount" "I" (.int 1)) := by
  refine own_entry qQ4 (fun m => qQ130 m o0 o1 (0 : Int32)) ?_
  intro p e s m below meth c T0 X0 hC e0
  obtain ⟨hx, hB, hml, hown, hnm, hret, hlk, hZ⟩ := hC
  have N0 := Fr.nil n0
  have K0 := Keep.refl h0 [o0]
  refine oG T0 m 1 #[rv o0, rv o1, iv 0] [(.ref o0)] (fun t k => XS.aloadN X0.here hx rfl (hb hB d23_0) rfl rfl k) ?_
  refine oG T0 m 2 #[rv o0, rv o1, iv 0] [(.ref o1), (.ref o0)] (fun t k => XS.aloadN X0.here hx rfl (hb hB d23_1) rfl rfl k) ?_
  obtain ⟨T1, h1, X1, e1, W1, st1⟩ := putF X0 hx hZ hown (host := "") (Or.inl (oW hw 184 rfl)) Via.refl e0 F_this_0_o0 E_o0 (Or.inr ⟨(oW hw 185 rfl), rfl, hnm⟩) (oW hw 178 rfl) (ty := (.object OwnK3)) (by decide) rfl rfl (g := (mkF m 2 #[rv o0, rv o1, iv 0] [(.ref o1), (.ref o0)])) rfl rfl (hb hB d23_2)
  have F1 := F_this_0_o0.same W1
  have cf2 := E_o0.wr W1
  have cf3 := F_cursor_o0.other W1 (Or.inr (slot_ne (Or.inl (oW hw 190 rfl)) (Or.inr (oW hw 185 rfl)) (by decide) (t := .int) (t' := (.object OwnK3)) (by decide) (by decide)))
  have cf4 := F_xM_o0.other W1 (Or.inr (slot_ne (Or.inl (oW hw 195 rfl)) (Or.inr (oW hw 185 rfl)) (by decide) (t := .int) (t' := (.object OwnK3)) (by decide) (by decide)))
  have cf5 := F_lastRet_o0.other W1 (Or.inr (slot_ne (Or.inl (oW hw 192 rfl)) (Or.inr (oW hw 185 rfl)) (by decide) (t := .int) (t' := (.object OwnK3)) (by decide) (by decide)))
  have cf6 := F_val_index_o0.other W1 (Or.inr (slot_ne (Or.inr (oW hw 187 rfl)) (Or.inr (oW hw 185 rfl)) (by decide) (t := .int) (t' := (.object OwnK3)) (by decide) (by decide)))
  have cf7 := F_mC_o1.other W1 (Or.inl (Ne.symm ne_o0_o1))
  have Z_1 : n0 ≤ h1.size := Nat.le_trans Z0 (Keep.of_wr W1).1
  have K_1 : Keep h0 h1 [o0] := K0.wr W1 (oI 0 rfl)
  have N1 := Fr.snoc X1 N0 g_o0
  refine oG T1 m 5 #[rv o0, rv o1, iv 0] [] (st1) ?_
  refine oG T1 m 6 #[rv o0, rv o1, iv 0] [(.ref o0)] (fun t k => XS.aloadN X1.here hx rfl (hb hB d23_5) rfl rfl k) ?_
  refine oG T1 m 7 #[rv o0, rv o1, iv 0] [(.int 0), (.ref o0)] (fun t k => XS.iloadN X1.here hx rfl (hb hB d23_6) rfl k) ?_
  obtain ⟨T8, h8, X8, e8, W8, st8⟩ := putF X1 hx hZ hown (host := "") (Or.inl (oW hw 186 rfl)) Via.refl e1 cf6 cf2 (Or.inr ⟨(oW hw 187 rfl), rfl, hnm⟩) (oW hw 178 rfl) (ty := .int) (by decide) rfl rfl (g := (mkF m 7 #[rv o0, rv o1, iv 0] [(.int 0), (.ref o0)])) rfl rfl (hb hB d23_7)
  have F8 := cf6.same W8
  have cf9 := cf2.wr W8
  have cf10 := cf3.other W8 (Or.inr (slot_ne (Or.inl (oW hw 190 rfl)) (Or.inr (oW hw 187 rfl)) (by decide) (t := .int) (t' := .int) (by decide) (by decide)))
  have cf11 := cf4.other W8 (Or.inr (slot_ne (Or.inl (oW hw 195 rfl)) (Or.inr (oW hw 187 rfl)) (by decide) (t := .int) (t' := .int) (by decide) (by decide)))
  have cf12 := cf5.other W8 (Or.inr (slot_ne (Or.inl (oW hw 192 rfl)) (Or.inr (oW hw 187 rfl)) (by decide) (t := .int) (t' := .int) (by decide) (by decide)))
  have cf13 := cf7.other W8 (Or.inl (Ne.symm ne_o0_o1))
  have cf14 := F1.other W8 (Or.inr (slot_ne (Or.inr (oW hw 185 rfl)) (Or.inr (oW hw 187 rfl)) (by decide) (t := (.object OwnK3)) (t' := .int) (by decide) (by decide)))
  have Z_8 : n0 ≤ h8.size := Nat.le_trans Z_1 (Keep.of_wr W8).1
  have K_8 : Keep h0 h8 [o0] := K_1.wr W8 (oI 0 rfl)
  have N8 := Fr.snoc X8 N1 g_o0
  refine oG T8 m 10 #[rv o0, rv o1, iv 0] [] (st8) ?_
  refine oG T8 m 11 #[rv o0, rv o1, iv 0] [(.ref o0)] (fun t k => XS.aloadN X8.here hx rfl (hb hB d23_10) rfl rfl k) ?_
  obtain ⟨T15, X15, e15, st15⟩ := initO X8 hx hZ hown (oW hw 188 rfl) (oW hw 8 rfl) (oW hw 9 rfl) e8 (g := (mkF m 11 #[rv o0, rv o1, iv 0] [(.ref o0)])) rfl (by rw [hml]; rfl) rfl (hb hB d23_11) (by decide) (W := 0) (by show 2 * 0 + _ ≤ _; exact Nat.le_of_eq rfl) (by decide)
  refine oG T15 m 14 #[rv o0, rv o1, iv 0] [] (st15) ?_
  refine oG T15 m 15 #[rv o0, rv o1, iv 0] [(.ref o0)] (fun t k => XS.aloadN X15.here hx rfl (hb hB d23_14) rfl rfl k) ?_
  refine oG T15 m 16 #[rv o0, rv o1, iv 0] [(.ref o0), (.ref o0)] (fun t k => XS.aloadN X15.here hx rfl (hb hB d23_15) rfl rfl k) ?_
  obtain ⟨T16, X16, e16, st16⟩ := getF X15 hx hZ hown (host := "") (Or.inl (oW hw 186 rfl)) Via.refl e15 F8 (g := (mkF m 16 #[rv o0, rv o1, iv 0] [(.ref o0), (.ref o0)])) rfl rfl (hb hB d23_16)
  refine oG T16 m 19 #[rv o0, rv o1, iv 0] [(.int 0), (.ref o0)] (st16) ?_
  obtain ⟨T17, h17, X17, e17, W17, st17⟩ := putF X16 hx hZ hown (host := "") (Or.inl (oW hw 189 rfl)) Via.refl e16 cf10 cf9 (Or.inl (oW hw 190 rfl)) (oW hw 178 rfl) (ty := .int) (by decide) rfl rfl (g := (mkF m 19 #[rv o0, rv o1, iv 0] [(.int 0), (.ref o0)])) rfl rfl (hb hB d23_19)
  have F17 := cf10.same W17
  have cf18 := cf9.wr W17
  have cf19 := cf11.other W17 (Or.inr (slot_ne (Or.inl (oW hw 195 rfl)) (Or.inl (oW hw 190 rfl)) (by decide) (t := .int) (t' := .int) (by decide) (by decide)))
  have cf20 := cf12.other W17 (Or.inr (slot_ne (Or.inl (oW hw 192 rfl)) (Or.inl (oW hw 190 rfl)) (by decide) (t := .int) (t' := .int) (by decide) (by decide)))
  have cf21 := cf13.other W17 (Or.inl (Ne.symm ne_o0_o1))
  have cf22 := cf14.other W17 (Or.inr (slot_ne (Or.inr (oW hw 185 rfl)) (Or.inl (oW hw 190 rfl)) (by decide) (t := (.object OwnK3)) (t' := .int) (by decide) (by decide)))
  have cf23 := F8.other W17 (Or.inr (slot_ne (Or.inr (oW hw 187 rfl)) (Or.inl (oW hw 190 rfl)) (by decide) (t := .int) (t' := .int) (by decide) (by decide)))
  have Z_17 : n0 ≤ h17.size := Nat.le_trans Z_8 (Keep.of_wr W17).1
  have K_17 : Keep h0 h17 [o0] := K_8.wr W17 (oI 0 rfl)
  have N17 := Fr.snoc X17 N8 g_o0
  refine oG T17 m 22 #[rv o0, rv o1, iv 0] [] (st17) ?_
  refine oG T17 m 23 #[rv o0, rv o1, iv 0] [(.ref o0)] (fun t k => XS.aloadN X17.here hx rfl (hb hB d23_22) rfl rfl k) ?_
  refine oG T17 m 24 #[rv o0, rv o1, iv 0] [(.int (-1)), (.ref o0)] (fun t k => XS.iconst X17.here hx rfl (hb hB d23_23) k) ?_
  obtain ⟨T24, h24, X24, e24, W24, st24⟩ := putF X17 hx hZ hown (host := "") (Or.inl (oW hw 191 rfl)) Via.refl e17 cf20 cf18 (Or.inl (oW hw 192 rfl)) (oW hw 178 rfl) (ty := .int) (by decide) rfl rfl (g := (mkF m 24 #[rv o0, rv o1, iv 0] [(.int (-1)), (.ref o0)])) rfl rfl (hb hB d23_24)
  have F24 := cf20.same W24
  have cf25 := cf18.wr W24
  have cf26 := cf19.other W24 (Or.inr (slot_ne (Or.inl (oW hw 195 rfl)) (Or.inl (oW hw 192 rfl)) (by decide) (t := .int) (t' := .int) (by decide) (by decide)))
  have cf27 := cf21.other W24 (Or.inl (Ne.symm ne_o0_o1))
  have cf28 := cf22.other W24 (Or.inr (slot_ne (Or.inr (oW hw 185 rfl)) (Or.inl (oW hw 192 rfl)) (by decide) (t := (.object OwnK3)) (t' := .int) (by decide) (by decide)))
  have cf29 := cf23.other W24 (Or.inr (slot_ne (Or.inr (oW hw 187 rfl)) (Or.inl (oW hw 192 rfl)) (by decide) (t := .int) (t' := .int) (by decide) (by decide)))
  have cf30 := F17.other W24 (Or.inr (slot_ne (Or.inl (oW hw 190 rfl)) (Or.inl (oW hw 192 rfl)) (by decide) (t := .int) (t' := .int) (by decide) (by decide)))
  have Z_24 : n0 ≤ h24.size := Nat.le_trans Z_17 (Keep.of_wr W24).1
  have K_24 : Keep h0 h24 [o0] := K_17.wr W24 (oI 0 rfl)
  have N24 := Fr.snoc X24 N17 g_o0
  refine oG T24 m 27 #[rv o0, rv o1, iv 0] [] (st24) ?_
  refine oG T24 m 28 #[rv o0, rv o1, iv 0] [(.ref o0)] (fun t k => XS.aloadN X24.here hx rfl (hb hB d23_27) rfl rfl k) ?_
  refine oG T24 m 29 #[rv o0, rv o1, iv 0] [(.ref o0), (.ref o0)] (fun t k => XS.aloadN X24.here hx rfl (hb hB d23_28) rfl rfl k) ?_
  obtain ⟨T31, X31, e31, st31⟩ := getF X24 hx hZ hown (host := "") (Or.inl (oW hw 184 rfl)) Via.refl e24 cf28 (g := (mkF m 29 #[rv o0, rv o1, iv 0] [(.ref o0), (.ref o0)])) rfl rfl (hb hB d23_29)
  refine oG T31 m 32 #[rv o0, rv o1, iv 0] [(.ref o1), (.ref o0)] (st31) ?_
  obtain ⟨T32, X32, e32, st32⟩ := getF X31 hx hZ hown (host := "") (Or.inl (oW hw 193 rfl)) (Via.of (oW hw 145 rfl)) e31 cf27 (g := (mkF m 32 #[rv o0, rv o1, iv 0] [(.ref o1), (.ref o0)])) rfl rfl (hb hB d23_32)
  refine oG T32 m 35 #[rv o0, rv o1, iv 0] [(.int 1), (.ref o0)] (st32) ?_
  obtain ⟨T33, h33, X33, e33, W33, st33⟩ := putF X32 hx hZ hown (host := "") (Or.inl (oW hw 194 rfl)) Via.refl e32 cf26 cf25 (Or.inl (oW hw 195 rfl)) (oW hw 178 rfl) (ty := .int) (by decide) rfl rfl (g := (mkF m 35 #[rv o0, rv o1, iv 0] [(.int 1), (.ref o0)])) rfl rfl (hb hB d23_35)
  have F33 := cf26.same W33
  have cf34 := cf25.wr W33
  have cf35 := cf27.other W33 (Or.inl (Ne.symm ne_o0_o1))
  have cf36 := cf28.other W33 (Or.inr (slot_ne (Or.inr (oW hw 185 rfl)) (Or.inl (oW hw 195 rfl)) (by decide) (t := (.object OwnK3)) (t' := .int) (by decide) (by decide)))
  have cf37 := cf29.other W33 (Or.inr (slot_ne (Or.inr (oW hw 187 rfl)) (Or.inl (oW hw 195 rfl)) (by decide) (t := .int) (t' := .int) (by decide) (by decide)))
  have cf38 := cf30.other W33 (Or.inr (slot_ne (Or.inl (oW hw 190 rfl)) (Or.inl (oW hw 195 rfl)) (by decide) (t := .int) (t' := .int) (by decide) (by decide)))
  have cf39 := F24.other W33 (Or.inr (slot_ne (Or.inl (oW hw 192 rfl)) (Or.inl (oW hw 195 rfl)) (by decide) (t := .int) (t' := .int) (by decide) (by decide)))
  have Z_33 : n0 ≤ h33.size := Nat.le_trans Z_24 (Keep.of_wr W33).1
  have K_33 : Keep h0 h33 [o0] := K_24.wr W33 (oI 0 rfl)
  have N33 := Fr.snoc X33 N24 g_o0
  refine oG T33 m 38 #[rv o0, rv o1, iv 0] [] (st33) ?_
  refine own_retV X33 hx hlk hret (hb hB d23_38) (by decide) (by decide) ?_
  rw [e33]
  exact ⟨rfl, N33, K_33, cf36, cf37, cf38, cf39, F33⟩
theorem qQ87 (m : MethodId) (q0 : Addr) (q1 : Int32) : entryFrame m #[(.ref q0), (.int q1)] 2 = mkF m 0 #[rv q0, iv q1] [] := by first | (simp [entryFrame, mkF, argsToLocals, Value.category]; done) | rfl
theorem sp20 (l : Launch) (Z : State) (a0 : Array Value) (hw : ∀ d ∈ tables_1, d.before a0 Z = true) (ws : List Jvm.Cond) (o0 o1 : Addr) (h0 : Heap) (n0 : Nat) (Z0 : n0 ≤ h0.size) (E_o0 : Exa Z h0 o0 OwnK3) (F_mC_o0 : Fld Z h0 o0 OwnK5 "modCount" "I" (.int 1)) (F_root_o0 : Fld Z h0 o0 OwnK3 "root" OwnK8 (.ref o1)) (F_size_o0 : Fld Z h0 o0 OwnK3 "size" "I" (.int 1)) (F_mC_o1 : Fld Z h0 o1 OwnK5 "modCount" "I" (.int 1)) :
    OwnC l Z (⟨OwnK3, "listIterator", "(I)Ljava/util/ListIterator;"⟩ : MethodName) jdk_130_method_24_code 2 (some (.object "java/util/ListIterator")) ws ({ frames := 2, cells := 1, slots := 5, locals := 27 } : Room) #[(.ref o0), (.int 0)] h0 (fun v h L => ∃ (w0 : Addr), v = some (.ref w0) ∧ Fr n0 L ∧ Keep h0 h [] ∧ (h0.size ≤ w0 ∧ n0 ≤ w0) ∧ Exa Z h w0 OwnK2 ∧ Fld Z h w0 OwnK2 "this$0" OwnK7 (.ref o0) ∧ Fld Z h w0 OwnK2 "val$index" "I" (.int 0) ∧ Fld Z h w0 OwnK2 "cursor" "I" (.int 0) ∧ Fld Z h w0 OwnK2 "lastRet" "I" (.int (-1)) ∧ Fld Z h w0 OwnK2 "expectedModCount" "I" (.int 1)) := by
  refine own_entry qQ5 (fun m => qQ87 m o0 (0 : Int32)) ?_
  intro p e s m below meth c T0 X0 hC e0
  obtain ⟨hx, hB, hml, hown, hnm, hret, hlk, hZ⟩ := hC
  have N0 := Fr.nil n0
  have K0 := Keep.refl h0 []
  refine oG T0 m 1 #[rv o0, iv 0] [(.ref o0)] (fun t k => XS.aloadN X0.here hx rfl (hb hB d20_0) rfl rfl k) ?_
  obtain ⟨_, T1, L1, X1, ⟨rfl, e1, rfl⟩, st1⟩ := own_private X0 hx hZ (y := (⟨OwnK3, "checkForComodification", "()V"⟩ : MethodName)) hown (oW hw 167 rfl) (oW hw 168 rfl) (oW hw 169 rfl) (oW hw 125 rfl) (oW hw 126 rfl) (oW hw 171 rfl) (by decide) (sp21 l Z a0 hw [] o0 o1 h0 n0 Z0 F_mC_o0 F_root_o0 F_mC_o1) e0 E_o0 0 (argsL := []) (rest := []) (Ls := #[rv o0, iv 0]) (by rw [hml]; rfl) (lenOf qQ155 rfl) rfl rfl (Nat.le_of_eq rfl) (hb hB d20_1) (by decide) (by decide) (by decide) (by decide)
  replace X1 := own_nil X1
  refine oG T1 m 4 #[rv o0, iv 0] [] (st1) ?_
  refine oG T1 m 5 #[rv o0, iv 0] [(.ref o0)] (fun t k => XS.aloadN X1.here hx rfl (hb hB d20_4) rfl rfl k) ?_
  refine oG T1 m 6 #[rv o0, iv 0] [(.int 0), (.ref o0)] (fun t k => XS.iloadN X1.here hx rfl (hb hB d20_5) rfl k) ?_
  obtain ⟨_, T2, L2, X2, ⟨rfl, e2, rfl⟩, st2⟩ := own_private X1 hx hZ (y := (⟨OwnK3, "rangeCheckForAdd", "(I)V"⟩ : MethodName)) hown (oW hw 172 rfl) (oW hw 173 rfl) (oW hw 174 rfl) (oW hw 125 rfl) (oW hw 126 rfl) (oW hw 176 rfl) (by decide) (sp22 l Z a0 hw [] o0 h0 n0 Z0 F_size_o0) e1 E_o0 0 (argsL := [(.int 0)]) (rest := []) (Ls := #[rv o0, iv 0]) (by rw [hml]; rfl) (lenOf qQ64 rfl) rfl rfl (Nat.le_of_eq rfl) (hb hB d20_6) (by decide) (by decide) (by decide) (by decide)
  replace X2 := own_nil X2
  refine oG T2 m 9 #[rv o0, iv 0] [] (st2) ?_
  obtain ⟨T3, h3, X3, e3, E3, A3, D3, -, st3⟩ := newO X2 hx hZ hown (oW hw 177 rfl) (oW hw 178 rfl) (oW hw 179 rfl) e2 (g := (mkF m 9 #[rv o0, iv 0] [])) rfl (hb hB d20_9) (by decide) (by decide)
  obtain ⟨b3, g3⟩ : ∃ z, z = h0.size := ⟨_, rfl⟩
  rw [← g3] at A3 D3 st3
  have ne_o0_b3 : o0 ≠ b3 := Nat.ne_of_lt (Nat.lt_of_lt_of_eq E_o0.lt g3.symm)
  have ne_o1_b3 : o1 ≠ b3 := Nat.ne_of_lt (Nat.lt_of_lt_of_eq F_mC_o1.lt g3.symm)
  have g_b3 : n0 ≤ b3 := Nat.le_trans Z0 (Nat.le_of_eq g3.symm)
  have sz_b3 : h0.size ≤ b3 := Nat.le_trans K0.1 (Nat.le_of_eq g3.symm)
  have cf4 := E_o0.ext E3
  have cf5 := F_mC_o0.ext E3
  have cf6 := F_root_o0.ext E3
  have cf7 := F_size_o0.ext E3
  have cf8 := F_mC_o1.ext E3
  have Z_3 : n0 ≤ h3.size := Nat.le_trans Z0 E3.1
  have K_3 : Keep h0 h3 [] := K0.ext E3
  have F_this_0_3 : Fld Z h3 b3 OwnK2 "this$0" OwnK7 .null := D3 (Or.inr (oW hw 185 rfl)) (ty := (.object OwnK3)) (by decide)
  have F_val_index_3 : Fld Z h3 b3 OwnK2 "val$index" "I" (.int 0) := D3 (Or.inr (oW hw 187 rfl)) (ty := .int) (by decide)
  have F_cursor_3 : Fld Z h3 b3 OwnK2 "cursor" "I" (.int 0) := D3 (Or.inl (oW hw 190 rfl)) (ty := .int) (by decide)
  have F_lastRet_3 : Fld Z h3 b3 OwnK2 "lastRet" "I" (.int 0) := D3 (Or.inl (oW hw 192 rfl)) (ty := .int) (by decide)
  have F_xM_3 : Fld Z h3 b3 OwnK2 "expectedModCount" "I" (.int 0) := D3 (Or.inl (oW hw 195 rfl)) (ty := .int) (by decide)
  refine oG T3 m 12 #[rv o0, iv 0] [(.ref b3)] (st3) ?_
  refine oG T3 m 13 #[rv o0, iv 0] [(.ref b3), (.ref b3)] (fun t k => XS.dup X3.here hx rfl (hb hB d20_12) rfl rfl k) ?_
  refine oG T3 m 14 #[rv o0, iv 0] [(.ref o0), (.ref b3), (.ref b3)] (fun t k => XS.aloadN X3.here hx rfl (hb hB d20_13) rfl rfl k) ?_
  refine oG T3 m 15 #[rv o0, iv 0] [(.int 0), (.ref o0), (.ref b3), (.ref b3)] (fun t k => XS.iloadN X3.here hx rfl (hb hB d20_14) rfl k) ?_
  obtain ⟨_, T9, L9, X9, ⟨rfl, Nq9, Kq9, fq0_9, fq1_9, fq2_9, fq3_9, fq4_9⟩, st9⟩ := own_init X3 hx hZ (y := (⟨OwnK2, "<init>", "(Ljava/util/ArrayList$SubList;I)V"⟩ : MethodName)) rfl hown (oW hw 180 rfl) (oW hw 181 rfl) (oW hw 179 rfl) (oW hw 183 rfl) (by decide) (sp23 l Z a0 hw [] b3 o0 h3 n0 Z_3 A3 F_cursor_3 F_xM_3 F_lastRet_3 F_this_0_3 F_val_index_3 cf5 (Ne.symm ne_o0_b3) g_b3) e3 (a := b3) 1 (argsL := [(.ref o0), (.int 0)]) (rest := [(.ref b3)]) (Ls := #[rv o0, iv 0]) (by rw [hml]; rfl) (lenOf qQ26 rfl) rfl rfl (Nat.le_of_eq rfl) (hb hB d20_15) (by decide) (by decide) (by decide) (by decide)
  have N9 := Fr.app N0 Nq9
  have cf10 := cf4.keep Kq9
  have cf11 := cf5.keep Kq9 (ninS ne_o0_b3 nin0)
  have cf12 := cf6.keep Kq9 (ninS ne_o0_b3 nin0)
  have cf13 := cf7.keep Kq9 (ninS ne_o0_b3 nin0)
  have cf14 := cf8.keep Kq9 (ninS ne_o1_b3 nin0)
  have cf15 := A3.keep Kq9
  have Z_9 : n0 ≤ T9.heap.size := Nat.le_trans Z_3 Kq9.1
  have K_9 : Keep h0 T9.heap [] := K_3.trans Kq9 (allS (Or.inr sz_b3) all0)
  refine oG T9 m 18 #[rv o0, iv 0] [(.ref b3)] (st9) ?_
  refine own_retA X9 hx hlk hret rfl rfl rfl (hb hB d20_18) (by decide) (by decide) ?_
  exact ⟨b3, rfl, N9, K_9, ⟨sz_b3, g_b3⟩, cf15, fq0_9, fq1_9, fq2_9, fq3_9, fq4_9⟩
theorem qQ120 (m : MethodId) (q0 : Addr) : entryFrame m #[(.ref q0)] 1 = mkF m 0 #[rv q0] [] := by first | (simp [entryFrame, mkF, argsToLocals, Value.category]; done) | rfl
theorem sp19 (l : Launch) (Z : State) (a0 : Array Value) (hw : ∀ d ∈ tables_1, d.before a0 Z = true) (ws : List Jvm.Cond) (o0 o1 : Addr) (h0 : Heap) (n0 : Nat) (Z0 : n0 ≤ h0.size) (E_o0 : Exa Z h0 o0 OwnK3) (F_mC_o0 : Fld Z h0 o0 OwnK5 "modCount" "I" (.int 1)) (F_root_o0 : Fld Z h0 o0 OwnK3 "root" OwnK8 (.ref o1)) (F_size_o0 : Fld Z h0 o0 OwnK3 "size" "I" (.int 1)) (F_mC_o1 : Fld Z h0 o1 OwnK5 "modCount" "I" (.int 1)) :
    OwnC l Z (⟨OwnK5, "listIterator", "()Ljava/util/ListIterator;"⟩ : MethodName) jdk_39_method_12_code 1 (some (.object "java/util/ListIterator")) ws ({ frames := 3, cells := 1, slots := 5, locals := 40 } : Room) #[(.ref o0)] h0 (fun v h L => ∃ (w0 : Addr), v = some (.ref w0) ∧ Fr n0 L ∧ Keep h0 h [] ∧ (h0.size ≤ w0 ∧ n0 ≤ w0) ∧ Exa Z h w0 OwnK2 ∧ Fld Z h w0 OwnK2 "this$0" OwnK7 (.ref o0) ∧ Fld Z h w0 OwnK2 "val$index" "I" (.int 0) ∧ Fld Z h w0 OwnK2 "cursor" "I" (.int 0) ∧ Fld Z h w0 OwnK2 "lastRet" "I" (.int (-1)) ∧ Fld Z h w0 OwnK2 "expectedModCount" "I" (.int 1)) := by
  refine own_entry qQ8 (fun m => qQ120 m o0) ?_
  intro p e s m below meth c T0 X0 hC e0
  obtain ⟨hx, hB, hml, hown, hnm, hret, hlk, hZ⟩ := hC
  have N0 := Fr.nil n0
  have K0 := Keep.refl h0 []
  refine oG T0 m 1 #[rv o0] [(.ref o0)] (fun t k => XS.aloadN X0.here hx rfl (hb hB d19_0) rfl rfl k) ?_
  refine oG T0 m 2 #[rv o0] [(.int 0), (.ref o0)] (fun t k => XS.iconst X0.here hx rfl (hb hB d19_1) k) ?_
  obtain ⟨_, T1, L1, X1, ⟨w0_1, rfl, Nq1, Kq1, syw0_1, fq0_1, fq1_1, fq2_1, fq3_1, fq4_1, fq5_1⟩, st1⟩ := own_virtual X0 hx hZ (y := (⟨OwnK5, "listIterator", "(I)Ljava/util/ListIterator;"⟩ : MethodName)) (z := (⟨OwnK3, "listIterator", "(I)Ljava/util/ListIterator;"⟩ : MethodName)) hown (oW hw 161 rfl) (oW hw 162 rfl) (own_nf (args := #[]) (mvT hZ (oW hw 159 rfl)) rfl) (oW hw 164 rfl) (oW hw 165 rfl) (oW hw 126 rfl) (oW hw 166 rfl) (by decide) (sp20 l Z a0 hw [] o0 o1 h0 n0 Z0 E_o0 F_mC_o0 F_root_o0 F_size_o0 F_mC_o1) e0 E_o0 0 (argsL := [(.int 0)]) (rest := []) (Ls := #[rv o0]) (by rw [hml]; rfl) (lenOf qQ30 rfl) rfl rfl (Nat.le_of_eq rfl) (hb hB d19_2) (by decide) (by decide) (by decide) (by decide)
  have g_w0_1 : n0 ≤ w0_1 := syw0_1.2
  have sz_w0_1 : h0.size ≤ w0_1 := Nat.le_trans K0.1 syw0_1.1
  have ne_o0_w0_1 : o0 ≠ w0_1 := Nat.ne_of_lt (Nat.lt_of_lt_of_le E_o0.lt syw0_1.1)
  have ne_o1_w0_1 : o1 ≠ w0_1 := Nat.ne_of_lt (Nat.lt_of_lt_of_le F_mC_o1.lt syw0_1.1)
  have N1 := Fr.app N0 Nq1
  have cf2 := E_o0.keep Kq1
  have cf3 := F_mC_o0.keep Kq1 nin0
  have cf4 := F_root_o0.keep Kq1 nin0
  have cf5 := F_size_o0.keep Kq1 nin0
  have cf6 := F_mC_o1.keep Kq1 nin0
  have Z_1 : n0 ≤ T1.heap.size := Nat.le_trans Z0 Kq1.1
  have K_1 : Keep h0 T1.heap [] := K0.trans Kq1 all0
  refine oG T1 m 5 #[rv o0] [(.ref w0_1)] (st1) ?_
  refine own_retA X1 hx hlk hret rfl rfl rfl (hb hB d19_5) (by decide) (by decide) ?_
  exact ⟨w0_1, rfl, N1, K_1, ⟨sz_w0_1, g_w0_1⟩, fq0_1, fq1_1, fq2_1, fq3_1, fq4_1, fq5_1⟩
theorem qQ97 (m : MethodId) (q0 : Addr) : entryFrame m #[(.ref q0)] 1 = mkF m 0 #[rv q0] [] := by first | (simp [entryFrame, mkF, argsToLocals, Value.category]; done) | rfl
theorem sp18 (l : Launch) (Z : State) (a0 : Array Value) (hw : ∀ d ∈ tables_1, d.before a0 Z = true) (ws : List Jvm.Cond) (o0 o1 : Addr) (h0 : Heap) (n0 : Nat) (Z0 : n0 ≤ h0.size) (E_o0 : Exa Z h0 o0 OwnK3) (F_mC_o0 : Fld Z h0 o0 OwnK5 "modCount" "I" (.int 1)) (F_root_o0 : Fld Z h0 o0 OwnK3 "root" OwnK8 (.ref o1)) (F_size_o0 : Fld Z h0 o0 OwnK3 "size" "I" (.int 1)) (F_mC_o1 : Fld Z h0 o1 OwnK5 "modCount" "I" (.int 1)) :
    OwnC l Z (⟨OwnK3, "iterator", "()Ljava/util/Iterator;"⟩ : MethodName) jdk_130_method_23_code 1 (some (.object "java/util/Iterator")) ws ({ frames := 4, cells := 1, slots := 5, locals := 52 } : Room) #[(.ref o0)] h0 (fun v h L => ∃ (w0 : Addr), v = some (.ref w0) ∧ Fr n0 L ∧ Keep h0 h [] ∧ (h0.size ≤ w0 ∧ n0 ≤ w0) ∧ Exa Z h w0 OwnK2 ∧ Fld Z h w0 OwnK2 "this$0" OwnK7 (.ref o0) ∧ Fld Z h w0 OwnK2 "val$index" "I" (.int 0) ∧ Fld Z h w0 OwnK2 "cursor" "I" (.int 0) ∧ Fld Z h w0 OwnK2 "lastRet" "I" (.int (-1)) ∧ Fld Z h w0 OwnK2 "expectedModCount" "I" (.int 1)) := by
  refine own_entry qQ11 (fun m => qQ97 m o0) ?_
  intro p e s m below meth c T0 X0 hC e0
  obtain ⟨hx, hB, hml, hown, hnm, hret, hlk, hZ⟩ := hC
  have N0 := Fr.nil n0
  have K0 := Keep.refl h0 []
  refine oG T0 m 1 #[rv o0] [(.ref o0)] (fun t k => XS.aloadN X0.here hx rfl (hb hB d18_0) rfl rfl k) ?_
  obtain ⟨_, T1, L1, X1, ⟨w0_1, rfl, Nq1, Kq1, syw0_1, fq0_1, fq1_1, fq2_1, fq3_1, fq4_1, fq5_1⟩, st1⟩ := own_virtualUp X0 hx hZ (x := (⟨OwnK3, "listIterator", "()Ljava/util/ListIterator;"⟩ : MethodName)) (y := (⟨OwnK5, "listIterator", "()Ljava/util/ListIterator;"⟩ : MethodName)) hown (oW hw 155 rfl) (oW hw 156 rfl) (oW hw 157 rfl) (by decide) (oW hw 159 rfl) (oW hw 158 rfl) (oW hw 37 rfl) (oW hw 160 rfl) (sp19 l Z a0 hw [] o0 o1 h0 n0 Z0 E_o0 F_mC_o0 F_root_o0 F_size_o0 F_mC_o1) e0 E_o0 0 (argsL := []) (rest := []) (Ls := #[rv o0]) (by rw [hml]; rfl) (lenOf qQ31 rfl) rfl rfl (Nat.le_of_eq rfl) (hb hB d18_1) (by decide) (by decide) (by decide) (by decide)
  have g_w0_1 : n0 ≤ w0_1 := syw0_1.2
  have sz_w0_1 : h0.size ≤ w0_1 := Nat.le_trans K0.1 syw0_1.1
  have ne_o0_w0_1 : o0 ≠ w0_1 := Nat.ne_of_lt (Nat.lt_of_lt_of_le E_o0.lt syw0_1.1)
  have ne_o1_w0_1 : o1 ≠ w0_1 := Nat.ne_of_lt (Nat.lt_of_lt_of_le F_mC_o1.lt syw0_1.1)
  have N1 := Fr.app N0 Nq1
  have cf2 := E_o0.keep Kq1
  have cf3 := F_mC_o0.keep Kq1 nin0
  have cf4 := F_root_o0.keep Kq1 nin0
  have cf5 := F_size_o0.keep Kq1 nin0
  have cf6 := F_mC_o1.keep Kq1 nin0
  have Z_1 : n0 ≤ T1.heap.size := Nat.le_trans Z0 Kq1.1
  have K_1 : Keep h0 T1.heap [] := K0.trans Kq1 all0
  refine oG T1 m 4 #[rv o0] [(.ref w0_1)] (st1) ?_
  refine own_retA X1 hx hlk hret rfl rfl rfl (hb hB d18_4) (by decide) (by decide) ?_
  exact ⟨w0_1, rfl, N1, K_1, ⟨sz_w0_1, g_w0_1⟩, fq0_1, fq1_1, fq2_1, fq3_1, fq4_1, fq5_1⟩
theorem d24_0 : decode jdk_136_method_2_code 0 = .ok (.aload_n 0, 1) := by decide +kernel
theorem d24_1 : decode jdk_136_method_2_code 1 = .ok (.getfield 17, 3) := by decide +kernel
theorem d24_4 : decode jdk_136_method_2_code 4 = .ok (.aload_n 0, 1) := by decide +kernel
theorem d24_5 : decode jdk_136_method_2_code 5 = .ok (.getfield 1, 3) := by decide +kernel
theorem d24_8 : decode jdk_136_method_2_code 8 = .ok (.getfield 31, 3) := by decide +kernel
theorem d24_11 : decode jdk_136_method_2_code 11 = .ok (.if_icmp .eq 7, 3) := by decide +kernel
theorem d24_14 : decode jdk_136_method_2_code 14 = .ok (.iconst 1, 1) := by decide +kernel
theorem d24_15 : decode jdk_136_method_2_code 15 = .ok (.goto 4, 3) := by decide +kernel
theorem d24_18 : decode jdk_136_method_2_code 18 = .ok (.iconst 0, 1) := by decide +kernel
theorem d24_19 : decode jdk_136_method_2_code 19 = .ok (.ireturn, 1) := by decide +kernel
theorem qQ23 : plainFor (⟨OwnK2, "hasNext", "()Z"⟩ : MethodName) = true := by first | exact plainFor_of_name (by first | (simp [plainName, overriddenIn]; done) | decide +kernel) | exact Jvm.Free.JP.mathPlain rfl (by decide +kernel) | decide +kernel
theorem qQ145 (m : MethodId) (q0 : Addr) : entryFrame m #[(.ref q0)] 1 = mkF m 0 #[rv q0] [] := by first | (simp [entryFrame, mkF, argsToLocals, Value.category]; done) | rfl
theorem sp24 (l : Launch) (Z : State) (a0 : Array Value) (hw : ∀ d ∈ tables_1, d.before a0 Z = true) (ws : List Jvm.Cond) (o0 o1 : Addr) (h0 : Heap) (n0 : Nat) (Z0 : n0 ≤ h0.size) (F_cursor_o0 : Fld Z h0 o0 OwnK2 "cursor" "I" (.int 0)) (F_this_0_o0 : Fld Z h0 o0 OwnK2 "this$0" OwnK7 (.ref o1)) (F_size_o1 : Fld Z h0 o1 OwnK3 "size" "I" (.int 1)) :
    OwnC l Z (⟨OwnK2, "hasNext", "()Z"⟩ : MethodName) jdk_136_method_2_code 1 (some .boolean) ws ({ frames := 0, cells := 0, slots := 0, locals := 0 } : Room) #[(.ref o0)] h0 (fun v h L => v = some (.int 1) ∧ h = h0 ∧ L = []) := by
  refine own_entry qQ23 (fun m => qQ145 m o0) ?_
  intro p e s m below meth c T0 X0 hC e0
  obtain ⟨hx, hB, hml, hown, hnm, hret, hlk, hZ⟩ := hC
  have N0 := Fr.nil n0
  have K0 := Keep.refl h0 []
  refine oG T0 m 1 #[rv o0] [(.ref o0)] (fun t k => XS.aloadN X0.here hx rfl (hb hB d24_0) rfl rfl k) ?_
  obtain ⟨T1, X1, e1, st1⟩ := getF X0 hx hZ hown (host := "") (Or.inl (oW hw 189 rfl)) Via.refl e0 F_cursor_o0 (g := (mkF m 1 #[rv o0] [(.ref o0)])) rfl rfl (hb hB d24_1)
  refine oG T1 m 4 #[rv o0] [(.int 0)] (st1) ?_
  refine oG T1 m 5 #[rv o0] [(.ref o0), (.int 0)] (fun t k => XS.aloadN X1.here hx rfl (hb hB d24_4) rfl rfl k) ?_
  obtain ⟨T2, X2, e2, st2⟩ := getF X1 hx hZ hown (host := "") (Or.inl (oW hw 184 rfl)) Via.refl e1 F_this_0_o0 (g := (mkF m 5 #[rv o0] [(.ref o0), (.int 0)])) rfl rfl (hb hB d24_5)
  refine oG T2 m 8 #[rv o0] [(.ref o1), (.int 0)] (st2) ?_
  refine oG T2 m 11 #[rv o0] [(.int 1), (.int 0)] (own_getfRef X2 hx hZ hown (oW hw 205 rfl) e2 F_size_o1 (hb hB d24_8)) ?_
  refine oG T2 m 14 #[rv o0] [] (fun t k => XS.icmpNo X2.here hx rfl (hb hB d24_11) rfl (feq (by decide)).1 k) ?_
  refine oG T2 m 15 #[rv o0] [(.int 1)] (fun t k => XS.iconst X2.here hx rfl (hb hB d24_14) k) ?_
  refine oG T2 m 19 #[rv o0] [(.int 1)] (fun t k => XS.goto X2.here hx rfl (pc0 := 15) (pc' := 19) rfl (hb hB d24_15) (by decide) (by decide) k) ?_
  refine own_retZ X2 hx hlk hret (by decide) (hb hB d24_19) (by decide) (by decide) ?_
  exact ⟨rfl, e2, rfl⟩
theorem d25_0 : decode jdk_136_method_3_code 0 = .ok (.aload_n 0, 1) := by decide +kernel
theorem d25_1 : decode jdk_136_method_3_code 1 = .ok (.invokevirtual 34, 3) := by decide +kernel
theorem d25_4 : decode jdk_136_method_3_code 4 = .ok (.aload_n 0, 1) := by decide +kernel
theorem d25_5 : decode jdk_136_method_3_code 5 = .ok (.getfield 17, 3) := by decide +kernel
theorem d25_8 : decode jdk_136_method_3_code 8 = .ok (.istore_n 1, 1) := by decide +kernel
theorem d25_9 : decode jdk_136_method_3_code 9 = .ok (.iload_n 1, 1) := by decide +kernel
theorem d25_10 : decode jdk_136_method_3_code 10 = .ok (.aload_n 0, 1) := by decide +kernel
theorem d25_11 : decode jdk_136_method_3_code 11 = .ok (.getfield 1, 3) := by decide +kernel
theorem d25_14 : decode jdk_136_method_3_code 14 = .ok (.getfield 31, 3) := by decide +kernel
theorem d25_17 : decode jdk_136_method_3_code 17 = .ok (.if_icmp .lt 11, 3) := by decide +kernel
theorem d25_20 : decode jdk_136_method_3_code 20 = .ok (.new 37, 3) := by decide +kernel
theorem d25_23 : decode jdk_136_method_3_code 23 = .ok (.dup, 1) := by decide +kernel
theorem d25_24 : decode jdk_136_method_3_code 24 = .ok (.invokespecial 39, 3) := by decide +kernel
theorem d25_27 : decode jdk_136_method_3_code 27 = .ok (.athrow, 1) := by decide +kernel
theorem d25_28 : decode jdk_136_method_3_code 28 = .ok (.aload_n 0, 1) := by decide +kernel
theorem d25_29 : decode jdk_136_method_3_code 29 = .ok (.getfield 1, 3) := by decide +kernel
theorem d25_32 : decode jdk_136_method_3_code 32 = .ok (.getfield 40, 3) := by decide +kernel
theorem d25_35 : decode jdk_136_method_3_code 35 = .ok (.getfield 44, 3) := by decide +kernel
theorem d25_38 : decode jdk_136_method_3_code 38 = .ok (.astore_n 2, 1) := by decide +kernel
theorem d25_39 : decode jdk_136_method_3_code 39 = .ok (.aload_n 0, 1) := by decide +kernel
theorem d25_40 : decode jdk_136_method_3_code 40 = .ok (.getfield 1, 3) := by decide +kernel
theorem d25_43 : decode jdk_136_method_3_code 43 = .ok (.getfield 50, 3) := by decide +kernel
theorem d25_46 : decode jdk_136_method_3_code 46 = .ok (.iload_n 1, 1) := by decide +kernel
theorem d25_47 : decode jdk_136_method_3_code 47 = .ok (.iadd, 1) := by decide +kernel
theorem d25_48 : decode jdk_136_method_3_code 48 = .ok (.aload_n 2, 1) := by decide +kernel
theorem d25_49 : decode jdk_136_method_3_code 49 = .ok (.arraylength, 1) := by decide +kernel
theorem d25_50 : decode jdk_136_method_3_code 50 = .ok (.if_icmp .lt 11, 3) := by decide +kernel
theorem d25_53 : decode jdk_136_method_3_code 53 = .ok (.new 53, 3) := by decide +kernel
theorem d25_56 : decode jdk_136_method_3_code 56 = .ok (.dup, 1) := by decide +kernel
theorem d25_57 : decode jdk_136_method_3_code 57 = .ok (.invokespecial 55, 3) := by decide +kernel
theorem d25_60 : decode jdk_136_method_3_code 60 = .ok (.athrow, 1) := by decide +kernel
theorem d25_61 : decode jdk_136_method_3_code 61 = .ok (.aload_n 0, 1) := by decide +kernel
theorem d25_62 : decode jdk_136_method_3_code 62 = .ok (.iload_n 1, 1) := by decide +kernel
theorem d25_63 : decode jdk_136_method_3_code 63 = .ok (.iconst 1, 1) := by decide +kernel
theorem d25_64 : decode jdk_136_method_3_code 64 = .ok (.iadd, 1) := by decide +kernel
theorem d25_65 : decode jdk_136_method_3_code 65 = .ok (.putfield 17, 3) := by decide +kernel
theorem d25_68 : decode jdk_136_method_3_code 68 = .ok (.aload_n 2, 1) := by decide +kernel
theorem d25_69 : decode jdk_136_method_3_code 69 = .ok (.aload_n 0, 1) := by decide +kernel
theorem d25_70 : decode jdk_136_method_3_code 70 = .ok (.getfield 1, 3) := by decide +kernel
theorem d25_73 : decode jdk_136_method_3_code 73 = .ok (.getfield 50, 3) := by decide +kernel
theorem d25_76 : decode jdk_136_method_3_code 76 = .ok (.aload_n 0, 1) := by decide +kernel
theorem d25_77 : decode jdk_136_method_3_code 77 = .ok (.iload_n 1, 1) := by decide +kernel
theorem d25_78 : decode jdk_136_method_3_code 78 = .ok (.dup_x1, 1) := by decide +kernel
theorem d25_79 : decode jdk_136_method_3_code 79 = .ok (.putfield 20, 3) := by decide +kernel
theorem d25_82 : decode jdk_136_method_3_code 82 = .ok (.iadd, 1) := by decide +kernel
theorem d25_83 : decode jdk_136_method_3_code 83 = .ok (.aaload, 1) := by decide +kernel
theorem d25_84 : decode jdk_136_method_3_code 84 = .ok (.areturn, 1) := by decide +kernel
theorem qQ13 : plainFor (⟨OwnK2, "next", "()Ljava/lang/Object;"⟩ : MethodName) = true := by first | exact plainFor_of_name (by first | (simp [plainName, overriddenIn]; done) | decide +kernel) | exact Jvm.Free.JP.mathPlain rfl (by decide +kernel) | decide +kernel
theorem d26_0 : decode jdk_136_method_12_code 0 = .ok (.aload_n 0, 1) := by decide +kernel
theorem d26_1 : decode jdk_136_method_12_code 1 = .ok (.getfield 1, 3) := by decide +kernel
theorem d26_4 : decode jdk_136_method_12_code 4 = .ok (.getfield 40, 3) := by decide +kernel
theorem d26_7 : decode jdk_136_method_12_code 7 = .ok (.getfield 62, 3) := by decide +kernel
theorem d26_10 : decode jdk_136_method_12_code 10 = .ok (.aload_n 0, 1) := by decide +kernel
theorem d26_11 : decode jdk_136_method_12_code 11 = .ok (.getfield 28, 3) := by decide +kernel
theorem d26_14 : decode jdk_136_method_12_code 14 = .ok (.if_icmp .eq 11, 3) := by decide +kernel
theorem d26_17 : decode jdk_136_method_12_code 17 = .ok (.new 53, 3) := by decide +kernel
theorem d26_20 : decode jdk_136_method_12_code 20 = .ok (.dup, 1) := by decide +kernel
theorem d26_21 : decode jdk_136_method_12_code 21 = .ok (.invokespecial 55, 3) := by decide +kernel
theorem d26_24 : decode jdk_136_method_12_code 24 = .ok (.athrow, 1) := by decide +kernel
theorem d26_25 : decode jdk_136_method_12_code 25 = .ok (.return_, 1) := by decide +kernel
theorem qQ12 : plainFor (⟨OwnK2, "checkForComodification", "()V"⟩ : MethodName) = true := by first | exact plainFor_of_name (by first | (simp [plainName, overriddenIn]; done) | decide +kernel) | exact Jvm.Free.JP.mathPlain rfl (by decide +kernel) | decide +kernel
theorem qQ114 (m : MethodId) (q0 : Addr) : entryFrame m #[(.ref q0)] 1 = mkF m 0 #[rv q0] [] := by first | (simp [entryFrame, mkF, argsToLocals, Value.category]; done) | rfl
theorem sp26 (l : Launch) (Z : State) (a0 : Array Value) (hw : ∀ d ∈ tables_1, d.before a0 Z = true) (ws : List Jvm.Cond) (o0 o1 o2 : Addr) (h0 : Heap) (n0 : Nat) (Z0 : n0 ≤ h0.size) (F_xM_o0 : Fld Z h0 o0 OwnK2 "expectedModCount" "I" (.int 1)) (F_this_0_o0 : Fld Z h0 o0 OwnK2 "this$0" OwnK7 (.ref o1)) (F_root_o1 : Fld Z h0 o1 OwnK3 "root" OwnK8 (.ref o2)) (F_mC_o2 : Fld Z h0 o2 OwnK5 "modCount" "I" (.int 1)) :
    OwnC l Z (⟨OwnK2, "checkForComodification", "()V"⟩ : MethodName) jdk_136_method_12_code 1 none ws ({ frames := 0, cells := 0, slots := 0, locals := 0 } : Room) #[(.ref o0)] h0 (fun v h L => v = none ∧ h = h0 ∧ L = []) := by
  refine own_entry qQ12 (fun m => qQ114 m o0) ?_
  intro p e s m below meth c T0 X0 hC e0
  obtain ⟨hx, hB, hml, hown, hnm, hret, hlk, hZ⟩ := hC
  have N0 := Fr.nil n0
  have K0 := Keep.refl h0 []
  refine oG T0 m 1 #[rv o0] [(.ref o0)] (fun t k => XS.aloadN X0.here hx rfl (hb hB d26_0) rfl rfl k) ?_
  obtain ⟨T1, X1, e1, st1⟩ := getF X0 hx hZ hown (host := "") (Or.inl (oW hw 184 rfl)) Via.refl e0 F_this_0_o0 (g := (mkF m 1 #[rv o0] [(.ref o0)])) rfl rfl (hb hB d26_1)
  refine oG T1 m 4 #[rv o0] [(.ref o1)] (st1) ?_
  refine oG T1 m 7 #[rv o0] [(.ref o2)] (own_getfRef X1 hx hZ hown (oW hw 219 rfl) e1 F_root_o1 (hb hB d26_4)) ?_
  obtain ⟨T3, X3, e3, st3⟩ := getF X1 hx hZ hown (host := "") (Or.inl (oW hw 220 rfl)) (Via.of (oW hw 73 rfl)) e1 F_mC_o2 (g := (mkF m 7 #[rv o0] [(.ref o2)])) rfl rfl (hb hB d26_7)
  refine oG T3 m 10 #[rv o0] [(.int 1)] (st3) ?_
  refine oG T3 m 11 #[rv o0] [(.ref o0), (.int 1)] (fun t k => XS.aloadN X3.here hx rfl (hb hB d26_10) rfl rfl k) ?_
  obtain ⟨T4, X4, e4, st4⟩ := getF X3 hx hZ hown (host := "") (Or.inl (oW hw 194 rfl)) Via.refl e3 F_xM_o0 (g := (mkF m 11 #[rv o0] [(.ref o0), (.int 1)])) rfl rfl (hb hB d26_11)
  refine oG T4 m 14 #[rv o0] [(.int 1), (.int 1)] (st4) ?_
  refine oG T4 m 25 #[rv o0] [] (fun t k => XS.icmpYes X4.here hx rfl (pc0 := 14) (pc' := 25) rfl (hb hB d26_14) rfl (teq (by decide)).1 (by decide) (by decide) k) ?_
  refine own_retV X4 hx hlk hret (hb hB d26_25) (by decide) (by decide) ?_
  exact ⟨rfl, e4, rfl⟩
theorem qQ123 (m : MethodId) (q0 : Addr) : entryFrame m #[(.ref q0)] 3 = mkF m 0 #[rv q0, .unset, .unset] [] := by first | (simp [entryFrame, mkF, argsToLocals, Value.category]; done) | rfl
theorem sp25 (l : Launch) (Z : State) (a0 : Array Value) (hw : ∀ d ∈ tables_1, d.before a0 Z = true) (ws : List Jvm.Cond) (o0 o1 o2 o3 o4 : Addr) (c0 : ClassId) (h0 : Heap) (n0 : Nat) (Z0 : n0 ≤ h0.size) (E_o0 : Exa Z h0 o0 OwnK2) (F_cursor_o0 : Fld Z h0 o0 OwnK2 "cursor" "I" (.int 0)) (F_xM_o0 : Fld Z h0 o0 OwnK2 "expectedModCount" "I" (.int 1)) (F_lastRet_o0 : Fld Z h0 o0 OwnK2 "lastRet" "I" (.int (-1))) (F_this_0_o0 : Fld Z h0 o0 OwnK2 "this$0" OwnK7 (.ref o1)) (F_val_index_o0 : Fld Z h0 o0 OwnK2 "val$index" "I" (.int 0)) (F_offset_o1 : Fld Z h0 o1 OwnK3 "offset" "I" (.int 0)) (F_root_o1 : Fld Z h0 o1 OwnK3 "root" OwnK8 (.ref o2)) (F_size_o1 : Fld Z h0 o1 OwnK3 "size" "I" (.int 1)) (F_elementData_o2 : Fld Z h0 o2 OwnK4 "elementData" OwnK6 (.ref o3)) (F_mC_o2 : Fld Z h0 o2 OwnK5 "modCount" "I" (.int 1)) (V_o3 : Arv Z h0 o3 c0 (.object "java/lang/Object") (10 : Int32) [(.ref o4), .null, .null, .null, .null, .null, .null, .null, .null, .null] .null) (O_o3 : Ovr Z c0 "java/lang/Object") (ne_o0_o1 : o0 ≠ o1) (ne_o0_o2 : o0 ≠ o2) (ne_o0_o3 : o0 ≠ o3) (ne_o0_o4 : o0 ≠ o4) (g_o0 : n0 ≤ o0) :
    OwnC l Z (⟨OwnK2, "next", "()Ljava/lang/Object;"⟩ : MethodName) jdk_136_method_3_code 3 (some (.object "java/lang/Object")) ws ({ frames := 1, cells := 0, slots := 0, locals := 12 } : Room) #[(.ref o0)] h0 (fun v h L => v = some (.ref o4) ∧ Fr n0 L ∧ Keep h0 h [o0] ∧ Fld Z h o0 OwnK2 "expectedModCount" "I" (.int 1) ∧ Fld Z h o0 OwnK2 "this$0" OwnK7 (.ref o1) ∧ Fld Z h o0 OwnK2 "val$index" "I" (.int 0) ∧ Fld Z h o0 OwnK2 "cursor" "I" (.int 1) ∧ Fld Z h o0 OwnK2 "lastRet" "I" (.int 0)) := by
  refine own_entry qQ13 (fun m => qQ123 m o0) ?_
  intro p e s m below meth c T0 X0 hC e0
  obtain ⟨hx, hB, hml, hown, hnm, hret, hlk, hZ⟩ := hC
  have N0 := Fr.nil n0
  have K0 := Keep.refl h0 [o0]
  refine oG T0 m 1 #[rv o0, .unset, .unset] [(.ref o0)] (fun t k => XS.aloadN X0.here hx rfl (hb hB d25_0) rfl rfl k) ?_
  obtain ⟨_, T1, L1, X1, ⟨rfl, e1, rfl⟩, st1⟩ := own_virtual X0 hx hZ (y := (⟨OwnK2, "checkForComodification", "()V"⟩ : MethodName)) (z := (⟨OwnK2, "checkForComodification", "()V"⟩ : MethodName)) hown (oW hw 214 rfl) (oW hw 215 rfl) (notFace_of_selects (args := #[]) (mvT hZ (oW hw 217 rfl))) (oW hw 217 rfl) (oW hw 216 rfl) (oW hw 179 rfl) (oW hw 218 rfl) (by decide) (sp26 l Z a0 hw [] o0 o1 o2 h0 n0 Z0 F_xM_o0 F_this_0_o0 F_root_o1 F_mC_o2) e0 E_o0 0 (argsL := []) (rest := []) (Ls := #[rv o0, .unset, .unset]) (by rw [hml]; rfl) (lenOf qQ155 rfl) rfl rfl (Nat.le_of_eq rfl) (hb hB d25_1) (by decide) (by decide) (by decide) (by decide)
  replace X1 := own_nil X1
  refine oG T1 m 4 #[rv o0, .unset, .unset] [] (st1) ?_
  refine oG T1 m 5 #[rv o0, .unset, .unset] [(.ref o0)] (fun t k => XS.aloadN X1.here hx rfl (hb hB d25_4) rfl rfl k) ?_
  obtain ⟨T2, X2, e2, st2⟩ := getF X1 hx hZ hown (host := "") (Or.inl (oW hw 189 rfl)) Via.refl e1 F_cursor_o0 (g := (mkF m 5 #[rv o0, .unset, .unset] [(.ref o0)])) rfl rfl (hb hB d25_5)
  refine oG T2 m 8 #[rv o0, .unset, .unset] [(.int 0)] (st2) ?_
  refine oG T2 m 9 #[rv o0, iv 0, .unset] [] (fun t k => XS.istoreN X2.here hx rfl (hb hB d25_8) rfl rfl k) ?_
  refine oG T2 m 10 #[rv o0, iv 0, .unset] [(.int 0)] (fun t k => XS.iloadN X2.here hx rfl (hb hB d25_9) rfl k) ?_
  refine oG T2 m 11 #[rv o0, iv 0, .unset] [(.ref o0), (.int 0)] (fun t k => XS.aloadN X2.here hx rfl (hb hB d25_10) rfl rfl k) ?_
  obtain ⟨T3, X3, e3, st3⟩ := getF X2 hx hZ hown (host := "") (Or.inl (oW hw 184 rfl)) Via.refl e2 F_this_0_o0 (g := (mkF m 11 #[rv o0, iv 0, .unset] [(.ref o0), (.int 0)])) rfl rfl (hb hB d25_11)
  refine oG T3 m 14 #[rv o0, iv 0, .unset] [(.ref o1), (.int 0)] (st3) ?_
  refine oG T3 m 17 #[rv o0, iv 0, .unset] [(.int 1), (.int 0)] (own_getfRef X3 hx hZ hown (oW hw 205 rfl) e3 F_size_o1 (hb hB d25_14)) ?_
  refine oG T3 m 28 #[rv o0, iv 0, .unset] [] (fun t k => XS.icmpYes X3.here hx rfl (pc0 := 17) (pc' := 28) rfl (hb hB d25_17) rfl (tlt (by decide)).1 (by decide) (by decide) k) ?_
  refine oG T3 m 29 #[rv o0, iv 0, .unset] [(.ref o0)] (fun t k => XS.aloadN X3.here hx rfl (hb hB d25_28) rfl rfl k) ?_
  obtain ⟨T5, X5, e5, st5⟩ := getF X3 hx hZ hown (host := "") (Or.inl (oW hw 184 rfl)) Via.refl e3 F_this_0_o0 (g := (mkF m 29 #[rv o0, iv 0, .unset] [(.ref o0)])) rfl rfl (hb hB d25_29)
  refine oG T5 m 32 #[rv o0, iv 0, .unset] [(.ref o1)] (st5) ?_
  refine oG T5 m 35 #[rv o0, iv 0, .unset] [(.ref o2)] (own_getfRef X5 hx hZ hown (oW hw 219 rfl) e5 F_root_o1 (hb hB d25_32)) ?_
  obtain ⟨T7, X7, e7, st7⟩ := getF X5 hx hZ hown (host := "") (Or.inl (oW hw 221 rfl)) Via.refl e5 F_elementData_o2 (g := (mkF m 35 #[rv o0, iv 0, .unset] [(.ref o2)])) rfl rfl (hb hB d25_35)
  refine oG T7 m 38 #[rv o0, iv 0, .unset] [(.ref o3)] (st7) ?_
  refine oG T7 m 39 #[rv o0, iv 0, rv o3] [] (fun t k => XS.astoreN X7.here hx rfl (hb hB d25_38) rfl rfl rfl k) ?_
  refine oG T7 m 40 #[rv o0, iv 0, rv o3] [(.ref o0)] (fun t k => XS.aloadN X7.here hx rfl (hb hB d25_39) rfl rfl k) ?_
  obtain ⟨T8, X8, e8, st8⟩ := getF X7 hx hZ hown (host := "") (Or.inl (oW hw 184 rfl)) Via.refl e7 F_this_0_o0 (g := (mkF m 40 #[rv o0, iv 0, rv o3] [(.ref o0)])) rfl rfl (hb hB d25_40)
  refine oG T8 m 43 #[rv o0, iv 0, rv o3] [(.ref o1)] (st8) ?_
  refine oG T8 m 46 #[rv o0, iv 0, rv o3] [(.int 0)] (own_getfRef X8 hx hZ hown (oW hw 222 rfl) e8 F_offset_o1 (hb hB d25_43)) ?_
  refine oG T8 m 47 #[rv o0, iv 0, rv o3] [(.int 0), (.int 0)] (fun t k => XS.iloadN X8.here hx rfl (hb hB d25_46) rfl k) ?_
  refine oG T8 m 48 #[rv o0, iv 0, rv o3] [(.int ((0 : Int32) + (0 : Int32)))] (fun t k => XS.iadd X8.here hx rfl (hb hB d25_47) rfl k) ?_
  rw [show ((0 : Int32) + (0 : Int32)) = (0 : Int32) from by decide]
  refine oG T8 m 49 #[rv o0, iv 0, rv o3] [(.ref o3), (.int 0)] (fun t k => XS.aloadN X8.here hx rfl (hb hB d25_48) rfl rfl k) ?_
  refine oG T8 m 50 #[rv o0, iv 0, rv o3] [(.int 10), (.int 0)] (own_alen X8 hx hZ e8 V_o3 (hb hB d25_49)) ?_
  refine oG T8 m 61 #[rv o0, iv 0, rv o3] [] (fun t k => XS.icmpYes X8.here hx rfl (pc0 := 50) (pc' := 61) rfl (hb hB d25_50) rfl (tlt (by decide)).1 (by decide) (by decide) k) ?_
  refine oG T8 m 62 #[rv o0, iv 0, rv o3] [(.ref o0)] (fun t k => XS.aloadN X8.here hx rfl (hb hB d25_61) rfl rfl k) ?_
  refine oG T8 m 63 #[rv o0, iv 0, rv o3] [(.int 0), (.ref o0)] (fun t k => XS.iloadN X8.here hx rfl (hb hB d25_62) rfl k) ?_
  refine oG T8 m 64 #[rv o0, iv 0, rv o3] [(.int 1), (.int 0), (.ref o0)] (fun t k => XS.iconst X8.here hx rfl (hb hB d25_63) k) ?_
  refine oG T8 m 65 #[rv o0, iv 0, rv o3] [(.int ((0 : Int32) + (1 : Int32))), (.ref o0)] (fun t k => XS.iadd X8.here hx rfl (hb hB d25_64) rfl k) ?_
  rw [show ((0 : Int32) + (1 : Int32)) = (1 : Int32) from by decide]
  obtain ⟨T11, h11, X11, e11, W11, st11⟩ := putF X8 hx hZ hown (host := "") (Or.inl (oW hw 189 rfl)) Via.refl e8 F_cursor_o0 E_o0 (Or.inl (oW hw 190 rfl)) (oW hw 178 rfl) (ty := .int) (by decide) rfl rfl (g := (mkF m 65 #[rv o0, iv 0, rv o3] [(.int 1), (.ref o0)])) rfl rfl (hb hB d25_65)
  have F11 := F_cursor_o0.same W11
  have cf12 := E_o0.wr W11
  have cf13 := F_xM_o0.other W11 (Or.inr (slot_ne (Or.inl (oW hw 195 rfl)) (Or.inl (oW hw 190 rfl)) (by decide) (t := .int) (t' := .int) (by decide) (by decide)))
  have cf14 := F_lastRet_o0.other W11 (Or.inr (slot_ne (Or.inl (oW hw 192 rfl)) (Or.inl (oW hw 190 rfl)) (by decide) (t := .int) (t' := .int) (by decide) (by decide)))
  have cf15 := F_this_0_o0.other W11 (Or.inr (slot_ne (Or.inr (oW hw 185 rfl)) (Or.inl (oW hw 190 rfl)) (by decide) (t := (.object OwnK3)) (t' := .int) (by decide) (by decide)))
  have cf16 := F_val_index_o0.other W11 (Or.inr (slot_ne (Or.inr (oW hw 187 rfl)) (Or.inl (oW hw 190 rfl)) (by decide) (t := .int) (t' := .int) (by decide) (by decide)))
  have cf17 := F_offset_o1.other W11 (Or.inl (Ne.symm ne_o0_o1))
  have cf18 := F_root_o1.other W11 (Or.inl (Ne.symm ne_o0_o1))
  have cf19 := F_size_o1.other W11 (Or.inl (Ne.symm ne_o0_o1))
  have cf20 := F_elementData_o2.other W11 (Or.inl (Ne.symm ne_o0_o2))
  have cf21 := F_mC_o2.other W11 (Or.inl (Ne.symm ne_o0_o2))
  have cf22 := V_o3.other W11 (Ne.symm ne_o0_o3)
  have Z_11 : n0 ≤ h11.size := Nat.le_trans Z0 (Keep.of_wr W11).1
  have K_11 : Keep h0 h11 [o0] := K0.wr W11 (oI 0 rfl)
  have N11 := Fr.snoc X11 N0 g_o0
  refine oG T11 m 68 #[rv o0, iv 0, rv o3] [] (st11) ?_
  refine oG T11 m 69 #[rv o0, iv 0, rv o3] [(.ref o3)] (fun t k => XS.aloadN X11.here hx rfl (hb hB d25_68) rfl rfl k) ?_
  refine oG T11 m 70 #[rv o0, iv 0, rv o3] [(.ref o0), (.ref o3)] (fun t k => XS.aloadN X11.here hx rfl (hb hB d25_69) rfl rfl k) ?_
  obtain ⟨T23, X23, e23, st23⟩ := getF X11 hx hZ hown (host := "") (Or.inl (oW hw 184 rfl)) Via.refl e11 cf15 (g := (mkF m 70 #[rv o0, iv 0, rv o3] [(.ref o0), (.ref o3)])) rfl rfl (hb hB d25_70)
  refine oG T23 m 73 #[rv o0, iv 0, rv o3] [(.ref o1), (.ref o3)] (st23) ?_
  refine oG T23 m 76 #[rv o0, iv 0, rv o3] [(.int 0), (.ref o3)] (own_getfRef X23 hx hZ hown (oW hw 222 rfl) e23 cf17 (hb hB d25_73)) ?_
  refine oG T23 m 77 #[rv o0, iv 0, rv o3] [(.ref o0), (.int 0), (.ref o3)] (fun t k => XS.aloadN X23.here hx rfl (hb hB d25_76) rfl rfl k) ?_
  refine oG T23 m 78 #[rv o0, iv 0, rv o3] [(.int 0), (.ref o0), (.int 0), (.ref o3)] (fun t k => XS.iloadN X23.here hx rfl (hb hB d25_77) rfl k) ?_
  refine oG T23 m 79 #[rv o0, iv 0, rv o3] [(.int 0), (.ref o0), (.int 0), (.int 0), (.ref o3)] (fun t k => XS.dupX1 X23.here hx rfl (hb hB d25_78) rfl rfl rfl k) ?_
  obtain ⟨T25, h25, X25, e25, W25, st25⟩ := putF X23 hx hZ hown (host := "") (Or.inl (oW hw 191 rfl)) Via.refl e23 cf14 cf12 (Or.inl (oW hw 192 rfl)) (oW hw 178 rfl) (ty := .int) (by decide) rfl rfl (g := (mkF m 79 #[rv o0, iv 0, rv o3] [(.int 0), (.ref o0), (.int 0), (.int 0), (.ref o3)])) rfl rfl (hb hB d25_79)
  have F25 := cf14.same W25
  have cf26 := cf12.wr W25
  have cf27 := cf13.other W25 (Or.inr (slot_ne (Or.inl (oW hw 195 rfl)) (Or.inl (oW hw 192 rfl)) (by decide) (t := .int) (t' := .int) (by decide) (by decide)))
  have cf28 := cf15.other W25 (Or.inr (slot_ne (Or.inr (oW hw 185 rfl)) (Or.inl (oW hw 192 rfl)) (by decide) (t := (.object OwnK3)) (t' := .int) (by decide) (by decide)))
  have cf29 := cf16.other W25 (Or.inr (slot_ne (Or.inr (oW hw 187 rfl)) (Or.inl (oW hw 192 rfl)) (by decide) (t := .int) (t' := .int) (by decide) (by decide)))
  have cf30 := cf17.other W25 (Or.inl (Ne.symm ne_o0_o1))
  have cf31 := cf18.other W25 (Or.inl (Ne.symm ne_o0_o1))
  have cf32 := cf19.other W25 (Or.inl (Ne.symm ne_o0_o1))
  have cf33 := cf20.other W25 (Or.inl (Ne.symm ne_o0_o2))
  have cf34 := cf21.other W25 (Or.inl (Ne.symm ne_o0_o2))
  have cf35 := cf22.other W25 (Ne.symm ne_o0_o3)
  have cf36 := F11.other W25 (Or.inr (slot_ne (Or.inl (oW hw 190 rfl)) (Or.inl (oW hw 192 rfl)) (by decide) (t := .int) (t' := .int) (by decide) (by decide)))
  have Z_25 : n0 ≤ h25.size := Nat.le_trans Z_11 (Keep.of_wr W25).1
  have K_25 : Keep h0 h25 [o0] := K_11.wr W25 (oI 0 rfl)
  have N25 := Fr.snoc X25 N11 g_o0
  refine oG T25 m 82 #[rv o0, iv 0, rv o3] [(.int 0), (.int 0), (.ref o3)] (st25) ?_
  refine oG T25 m 83 #[rv o0, iv 0, rv o3] [(.int ((0 : Int32) + (0 : Int32))), (.ref o3)] (fun t k => XS.iadd X25.here hx rfl (hb hB d25_82) rfl k) ?_
  rw [show ((0 : Int32) + (0 : Int32)) = (0 : Int32) from by decide]
  refine oG T25 m 84 #[rv o0, iv 0, rv o3] [(.ref o4)] (own_aaload X25 hx hZ e25 cf35 rfl (j := (0 : Int32)) ⟨by decide, by decide⟩ rfl (hb hB d25_83)) ?_
  refine own_retA X25 hx hlk hret rfl rfl rfl (hb hB d25_84) (by decide) (by decide) ?_
  rw [e25]
  exact ⟨rfl, N25, K_25, cf27, cf28, cf29, cf36, F25⟩
theorem d27_0 : decode prog_6_method_2_code 0 = .ok (.aload_n 0, 1) := by decide +kernel
theorem d27_1 : decode prog_6_method_2_code 1 = .ok (.getfield 7, 3) := by decide +kernel
theorem d27_4 : decode prog_6_method_2_code 4 = .ok (.lreturn, 1) := by decide +kernel
theorem qQ15 : plainFor (⟨OwnK0, "getId", "()J"⟩ : MethodName) = true := by first | exact plainFor_of_name (by first | (simp [plainName, overriddenIn]; done) | decide +kernel) | exact Jvm.Free.JP.mathPlain rfl (by decide +kernel) | decide +kernel
theorem qQ135 (m : MethodId) (q0 : Addr) : entryFrame m #[(.ref q0)] 1 = mkF m 0 #[rv q0] [] := by first | (simp [entryFrame, mkF, argsToLocals, Value.category]; done) | rfl
theorem sp27 (l : Launch) (Z : State) (a0 : Array Value) (hw : ∀ d ∈ tables_1, d.before a0 Z = true) (ws : List Jvm.Cond) (o0 : Addr) (u0 : Int64) (h0 : Heap) (n0 : Nat) (Z0 : n0 ≤ h0.size) (F_id_o0 : Fld Z h0 o0 OwnK0 "id" "J" (.long u0)) :
    OwnC l Z (⟨OwnK0, "getId", "()J"⟩ : MethodName) prog_6_method_2_code 1 (some .long) ws ({ frames := 0, cells := 0, slots := 0, locals := 0 } : Room) #[(.ref o0)] h0 (fun v h L => v = some (.long u0) ∧ h = h0 ∧ L = []) := by
  refine own_entry qQ15 (fun m => qQ135 m o0) ?_
  intro p e s m below meth c T0 X0 hC e0
  obtain ⟨hx, hB, hml, hown, hnm, hret, hlk, hZ⟩ := hC
  have N0 := Fr.nil n0
  have K0 := Keep.refl h0 []
  refine oG T0 m 1 #[rv o0] [(.ref o0)] (fun t k => XS.aloadN X0.here hx rfl (hb hB d27_0) rfl rfl k) ?_
  obtain ⟨T1, X1, e1, st1⟩ := getF X0 hx hZ hown (host := "") (Or.inl (oW hw 10 rfl)) Via.refl e0 F_id_o0 (g := (mkF m 1 #[rv o0] [(.ref o0)])) rfl rfl (hb hB d27_1)
  refine oG T1 m 4 #[rv o0] [(.long u0)] (st1) ?_
  refine own_retJ X1 hx hlk hret (hb hB d27_4) (by decide) (by decide) ?_
  exact ⟨rfl, e1, rfl⟩
theorem qQ118 (m : MethodId) (q0 : Addr) (q1 : Addr) : entryFrame m #[(.ref q0), (.ref q1)] 4 = mkF m 0 #[rv q0, rv q1, .unset, .unset] [] := by first | (simp [entryFrame, mkF, argsToLocals, Value.category]; done) | rfl
theorem sp12 (l : Launch) (Z : State) (a0 : Array Value) (hw : ∀ d ∈ tables_1, d.before a0 Z = true) (ws : List Jvm.Cond) (o0 o1 o2 o3 : Addr) (u0 : Int64) (c0 : ClassId) (h0 : Heap) (n0 : Nat) (Z0 : n0 ≤ h0.size) (F_ahead_o0 : Fld Z h0 o0 OwnK1 "ahead" "I" (.int 0)) (F_changes_o0 : Fld Z h0 o0 OwnK1 "changes" "Ljava/util/List;" (.ref o2)) (E_o1 : Exa Z h0 o1 OwnK0) (F_id_o1 : Fld Z h0 o1 OwnK0 "id" "J" (.long u0)) (E_o2 : Exa Z h0 o2 OwnK4) (F_elementData_o2 : Fld Z h0 o2 OwnK4 "elementData" OwnK6 (.ref o3)) (F_mC_o2 : Fld Z h0 o2 OwnK5 "modCount" "I" (.int 1)) (F_size_o2 : Fld Z h0 o2 OwnK4 "size" "I" (.int 1)) (V_o3 : Arv Z h0 o3 c0 (.object "java/lang/Object") (10 : Int32) [(.ref o1), .null, .null, .null, .null, .null, .null, .null, .null, .null] .null) (O_o3 : Ovr Z c0 "java/lang/Object") (ne_o0_o1 : o0 ≠ o1) (ne_o0_o2 : o0 ≠ o2) (ne_o0_o3 : o0 ≠ o3) :
    OwnC l Z (⟨OwnK1, "isOfBacklog", "(Lcom/example/newt/newt/core/delivery/Change;)Z"⟩ : MethodName) prog_11_method_4_code 4 (some .boolean) ws ({ frames := 5, cells := 2, slots := 10, locals := 66 } : Room) #[(.ref o0), (.ref o1)] h0 (fun v h L => v = some (.int 1) ∧ Fr n0 L ∧ Keep h0 h []) := by
  refine own_entry qQ2 (fun m => qQ118 m o0 o1) ?_
  intro p e s m below meth c T0 X0 hC e0
  obtain ⟨hx, hB, hml, hown, hnm, hret, hlk, hZ⟩ := hC
  have N0 := Fr.nil n0
  have K0 := Keep.refl h0 []
  refine oG T0 m 1 #[rv o0, rv o1, .unset, .unset] [(.ref o0)] (fun t k => XS.aloadN X0.here hx rfl (hb hB d13_0) rfl rfl k) ?_
  obtain ⟨T1, X1, e1, st1⟩ := getF X0 hx hZ hown (host := "") (Or.inl (oW hw 58 rfl)) Via.refl e0 F_changes_o0 (g := (mkF m 1 #[rv o0, rv o1, .unset, .unset] [(.ref o0)])) rfl rfl (hb hB d13_1)
  refine oG T1 m 4 #[rv o0, rv o1, .unset, .unset] [(.ref o2)] (st1) ?_
  refine oG T1 m 5 #[rv o0, rv o1, .unset, .unset] [(.ref o0), (.ref o2)] (fun t k => XS.aloadN X1.here hx rfl (hb hB d13_4) rfl rfl k) ?_
  obtain ⟨T2, X2, e2, st2⟩ := getF X1 hx hZ hown (host := "") (Or.inl (oW hw 60 rfl)) Via.refl e1 F_ahead_o0 (g := (mkF m 5 #[rv o0, rv o1, .unset, .unset] [(.ref o0), (.ref o2)])) rfl rfl (hb hB d13_5)
  refine oG T2 m 8 #[rv o0, rv o1, .unset, .unset] [(.int 0), (.ref o2)] (st2) ?_
  refine oG T2 m 9 #[rv o0, rv o1, .unset, .unset] [(.ref o0), (.int 0), (.ref o2)] (fun t k => XS.aloadN X2.here hx rfl (hb hB d13_8) rfl rfl k) ?_
  obtain ⟨T3, X3, e3, st3⟩ := getF X2 hx hZ hown (host := "") (Or.inl (oW hw 58 rfl)) Via.refl e2 F_changes_o0 (g := (mkF m 9 #[rv o0, rv o1, .unset, .unset] [(.ref o0), (.int 0), (.ref o2)])) rfl rfl (hb hB d13_9)
  refine oG T3 m 12 #[rv o0, rv o1, .unset, .unset] [(.ref o2), (.int 0), (.ref o2)] (st3) ?_
  obtain ⟨_, T4, L4, X4, ⟨rfl, e4, rfl⟩, st4⟩ := own_interface X3 hx hZ (xi := (⟨"java/util/List", "size", "()I"⟩ : MethodName)) (y := (⟨OwnK4, "size", "()I"⟩ : MethodName)) hown (oW hw 103 rfl) (oW hw 104 rfl) (mvT hZ (oW hw 105 rfl)) (oW hw 106 rfl) (oW hw 107 rfl) (oW hw 108 rfl) (oW hw 109 rfl) (oW hw 110 rfl) (oW hw 29 rfl) (oW hw 111 rfl) (by decide) (sp13 l Z a0 hw [] o2 h0 n0 Z0 F_size_o2) e3 E_o2 2 (argsL := []) (rest := [(.int 0), (.ref o2)]) (Ls := #[rv o0, rv o1, .unset, .unset]) (by rw [hml]; rfl) (lenOf qQ153 rfl) rfl rfl (Nat.le_of_eq rfl) (hb hB d13_12) (by decide) (by decide) (by decide) (by decide)
  replace X4 := own_nil X4
  refine oG T4 m 17 #[rv o0, rv o1, .unset, .unset] [(.int 1), (.int 0), (.ref o2)] (st4) ?_
  obtain ⟨_, T5, L5, X5, ⟨w0_5, rfl, Nq5, Kq5, syw0_5, fq0_5, fq1_5, fq2_5, fq3_5, fq4_5⟩, st5⟩ := own_interface X4 hx hZ (xi := (⟨"java/util/List", "subList", "(II)Ljava/util/List;"⟩ : MethodName)) (y := (⟨OwnK4, "subList", "(II)Ljava/util/List;"⟩ : MethodName)) hown (oW hw 112 rfl) (oW hw 113 rfl) (mvT hZ (oW hw 114 rfl)) (oW hw 115 rfl) (oW hw 116 rfl) (oW hw 117 rfl) (oW hw 118 rfl) (oW hw 110 rfl) (oW hw 29 rfl) (oW hw 119 rfl) (by decide) (sp14 l Z a0 hw [] o2 h0 n0 Z0 F_mC_o2 F_size_o2) e4 E_o2 0 (argsL := [(.int 0), (.int 1)]) (rest := []) (Ls := #[rv o0, rv o1, .unset, .unset]) (by rw [hml]; rfl) (lenOf qQ39 rfl) rfl rfl (Nat.le_of_eq rfl) (hb hB d13_17) (by decide) (by decide) (by decide) (by decide)
  have g_w0_5 : n0 ≤ w0_5 := syw0_5.2
  have sz_w0_5 : h0.size ≤ w0_5 := Nat.le_trans K0.1 syw0_5.1
  have ne_o0_w0_5 : o0 ≠ w0_5 := Nat.ne_of_lt (Nat.lt_of_lt_of_le F_ahead_o0.lt syw0_5.1)
  have ne_o1_w0_5 : o1 ≠ w0_5 := Nat.ne_of_lt (Nat.lt_of_lt_of_le E_o1.lt syw0_5.1)
  have ne_o2_w0_5 : o2 ≠ w0_5 := Nat.ne_of_lt (Nat.lt_of_lt_of_le E_o2.lt syw0_5.1)
  have ne_o3_w0_5 : o3 ≠ w0_5 := Nat.ne_of_lt (Nat.lt_of_lt_of_le V_o3.lt syw0_5.1)
  have N5 := Fr.app N0 Nq5
  have cf6 := F_ahead_o0.keep Kq5 nin0
  have cf7 := F_changes_o0.keep Kq5 nin0
  have cf8 := E_o1.keep Kq5
  have cf9 := F_id_o1.keep Kq5 nin0
  have cf10 := E_o2.keep Kq5
  have cf11 := F_elementData_o2.keep Kq5 nin0
  have cf12 := F_mC_o2.keep Kq5 nin0
  have cf13 := F_size_o2.keep Kq5 nin0
  have cf14 := V_o3.keep Kq5 nin0
  have Z_5 : n0 ≤ T5.heap.size := Nat.le_trans Z0 Kq5.1
  have K_5 : Keep h0 T5.heap [] := K0.trans Kq5 all0
  refine oG T5 m 22 #[rv o0, rv o1, .unset, .unset] [(.ref w0_5)] (st5) ?_
  obtain ⟨_, T15, L15, X15, ⟨w0_15, rfl, Nq15, Kq15, syw0_15, fq0_15, fq1_15, fq2_15, fq3_15, fq4_15, fq5_15⟩, st15⟩ := own_interface X5 hx hZ (xi := (⟨"java/util/List", "iterator", "()Ljava/util/Iterator;"⟩ : MethodName)) (y := (⟨OwnK3, "iterator", "()Ljava/util/Iterator;"⟩ : MethodName)) hown (oW hw 146 rfl) (oW hw 147 rfl) (mvT hZ (oW hw 148 rfl)) (oW hw 149 rfl) (oW hw 150 rfl) (oW hw 151 rfl) (oW hw 152 rfl) (oW hw 153 rfl) (oW hw 126 rfl) (oW hw 154 rfl) (by decide) (sp18 l Z a0 hw [] w0_5 o2 T5.heap n0 Z_5 fq0_5 fq4_5 fq1_5 fq3_5 cf12) rfl fq0_5 0 (argsL := []) (rest := []) (Ls := #[rv o0, rv o1, .unset, .unset]) (by rw [hml]; rfl) (lenOf qQ35 rfl) rfl rfl (Nat.le_of_eq rfl) (hb hB d13_22) (by decide) (by decide) (by decide) (by decide)
  have g_w0_15 : n0 ≤ w0_15 := syw0_15.2
  have sz_w0_15 : h0.size ≤ w0_15 := Nat.le_trans K_5.1 syw0_15.1
  have ne_o0_w0_15 : o0 ≠ w0_15 := Nat.ne_of_lt (Nat.lt_of_lt_of_le cf6.lt syw0_15.1)
  have ne_o1_w0_15 : o1 ≠ w0_15 := Nat.ne_of_lt (Nat.lt_of_lt_of_le cf8.lt syw0_15.1)
  have ne_o2_w0_15 : o2 ≠ w0_15 := Nat.ne_of_lt (Nat.lt_of_lt_of_le cf10.lt syw0_15.1)
  have ne_o3_w0_15 : o3 ≠ w0_15 := Nat.ne_of_lt (Nat.lt_of_lt_of_le cf14.lt syw0_15.1)
  have ne_w0_5_w0_15 : w0_5 ≠ w0_15 := Nat.ne_of_lt (Nat.lt_of_lt_of_le fq0_5.lt syw0_15.1)
  have N15 := Fr.app N5 Nq15
  have cf16 := cf6.keep Kq15 nin0
  have cf17 := cf7.keep Kq15 nin0
  have cf18 := cf8.keep Kq15
  have cf19 := cf9.keep Kq15 nin0
  have cf20 := cf10.keep Kq15
  have cf21 := cf11.keep Kq15 nin0
  have cf22 := cf12.keep Kq15 nin0
  have cf23 := cf13.keep Kq15 nin0
  have cf24 := cf14.keep Kq15 nin0
  have cf25 := fq0_5.keep Kq15
  have cf26 := fq1_5.keep Kq15 nin0
  have cf27 := fq2_5.keep Kq15 nin0
  have cf28 := fq3_5.keep Kq15 nin0
  have cf29 := fq4_5.keep Kq15 nin0
  have Z_15 : n0 ≤ T15.heap.size := Nat.le_trans Z_5 Kq15.1
  have K_15 : Keep h0 T15.heap [] := K_5.trans Kq15 all0
  refine oG T15 m 27 #[rv o0, rv o1, .unset, .unset] [(.ref w0_15)] (st15) ?_
  refine oG T15 m 28 #[rv o0, rv o1, rv w0_15, .unset] [] (fun t k => XS.astoreN X15.here hx rfl (hb hB d13_27) rfl rfl rfl k) ?_
  refine oG T15 m 29 #[rv o0, rv o1, rv w0_15, .unset] [(.ref w0_15)] (fun t k => XS.aloadN X15.here hx rfl (hb hB d13_28) rfl rfl k) ?_
  obtain ⟨_, T30, L30, X30, ⟨rfl, e30, rfl⟩, st30⟩ := own_interface X15 hx hZ (xi := (⟨"java/util/Iterator", "hasNext", "()Z"⟩ : MethodName)) (y := (⟨OwnK2, "hasNext", "()Z"⟩ : MethodName)) hown (oW hw 196 rfl) (oW hw 197 rfl) (mvT hZ (oW hw 198 rfl)) (oW hw 199 rfl) (oW hw 200 rfl) (oW hw 201 rfl) (oW hw 202 rfl) (oW hw 203 rfl) (oW hw 179 rfl) (oW hw 204 rfl) (by decide) (sp24 l Z a0 hw [] w0_15 w0_5 T15.heap n0 Z_15 fq3_15 fq1_15 cf28) rfl fq0_15 0 (argsL := []) (rest := []) (Ls := #[rv o0, rv o1, rv w0_15, .unset]) (by rw [hml]; rfl) (lenOf qQ158 rfl) rfl rfl (Nat.le_of_eq rfl) (hb hB d13_29) (by decide) (by decide) (by decide) (by decide)
  replace X30 := own_nil X30
  refine oG T30 m 34 #[rv o0, rv o1, rv w0_15, .unset] [(.int 1)] (st30) ?_
  refine oG T30 m 37 #[rv o0, rv o1, rv w0_15, .unset] [] (fun t k => XS.ifNo X30.here hx rfl (hb hB d13_34) rfl ((if0 _ _).trans (feq (by decide)).1) k) ?_
  refine oG T30 m 38 #[rv o0, rv o1, rv w0_15, .unset] [(.ref w0_15)] (fun t k => XS.aloadN X30.here hx rfl (hb hB d13_37) rfl rfl k) ?_
  obtain ⟨_, T31, L31, X31, ⟨rfl, Nq31, Kq31, fq0_31, fq1_31, fq2_31, fq3_31, fq4_31⟩, st31⟩ := own_interface X30 hx hZ (xi := (⟨"java/util/Iterator", "next", "()Ljava/lang/Object;"⟩ : MethodName)) (y := (⟨OwnK2, "next", "()Ljava/lang/Object;"⟩ : MethodName)) hown (oW hw 206 rfl) (oW hw 207 rfl) (mvT hZ (oW hw 208 rfl)) (oW hw 209 rfl) (oW hw 210 rfl) (oW hw 211 rfl) (oW hw 212 rfl) (oW hw 203 rfl) (oW hw 179 rfl) (oW hw 213 rfl) (by decide) (sp25 l Z a0 hw [] w0_15 w0_5 o2 o3 o1 c0 T15.heap n0 Z_15 fq0_15 fq3_15 fq5_15 fq4_15 fq1_15 fq2_15 cf27 cf26 cf28 cf21 cf22 cf24 O_o3 (Ne.symm ne_w0_5_w0_15) (Ne.symm ne_o2_w0_15) (Ne.symm ne_o3_w0_15) (Ne.symm ne_o1_w0_15) g_w0_15) e30 fq0_15 0 (argsL := []) (rest := []) (Ls := #[rv o0, rv o1, rv w0_15, .unset]) (by rw [hml]; rfl) (lenOf qQ38 rfl) rfl rfl (Nat.le_of_eq rfl) (hb hB d13_38) (by decide) (by decide) (by decide) (by decide)
  have N31 := Fr.app N15 Nq31
  have cf32 := cf16.keep Kq31 (ninS ne_o0_w0_15 nin0)
  have cf33 := cf17.keep Kq31 (ninS ne_o0_w0_15 nin0)
  have cf34 := cf18.keep Kq31
  have cf35 := cf19.keep Kq31 (ninS ne_o1_w0_15 nin0)
  have cf36 := cf20.keep Kq31
  have cf37 := cf21.keep Kq31 (ninS ne_o2_w0_15 nin0)
  have cf38 := cf22.keep Kq31 (ninS ne_o2_w0_15 nin0)
  have cf39 := cf23.keep Kq31 (ninS ne_o2_w0_15 nin0)
  have cf40 := cf24.keep Kq31 (ninS ne_o3_w0_15 nin0)
  have cf41 := cf25.keep Kq31
  have cf42 := cf26.keep Kq31 (ninS ne_w0_5_w0_15 nin0)
  have cf43 := cf27.keep Kq31 (ninS ne_w0_5_w0_15 nin0)
  have cf44 := cf28.keep Kq31 (ninS ne_w0_5_w0_15 nin0)
  have cf45 := cf29.keep Kq31 (ninS ne_w0_5_w0_15 nin0)
  have cf46 := fq0_15.keep Kq31
  have Z_31 : n0 ≤ T31.heap.size := Nat.le_trans Z_15 Kq31.1
  have K_31 : Keep h0 T31.heap [] := K_15.trans Kq31 (allS (Or.inr sz_w0_15) all0)
  refine oG T31 m 43 #[rv o0, rv o1, rv w0_15, .unset] [(.ref o1)] (st31) ?_
  obtain ⟨T47, X47, e47, st47⟩ := castY X31 hx hZ hown (oW hw 223 rfl) rfl (Ins.self cf34) (g := (mkF m 43 #[rv o0, rv o1, rv w0_15, .unset] [(.ref o1)])) rfl rfl (hb hB d13_43)
  refine oG T47 m 46 #[rv o0, rv o1, rv w0_15, .unset] [(.ref o1)] (st47) ?_
  refine oG T47 m 47 #[rv o0, rv o1, rv w0_15, rv o1] [] (fun t k => XS.astoreN X47.here hx rfl (hb hB d13_46) rfl rfl rfl k) ?_
  refine oG T47 m 48 #[rv o0, rv o1, rv w0_15, rv o1] [(.ref o1)] (fun t k => XS.aloadN X47.here hx rfl (hb hB d13_47) rfl rfl k) ?_
  obtain ⟨_, T48, L48, X48, ⟨rfl, e48, rfl⟩, st48⟩ := own_virtual X47 hx hZ (y := (⟨OwnK0, "getId", "()J"⟩ : MethodName)) (z := (⟨OwnK0, "getId", "()J"⟩ : MethodName)) hown (oW hw 225 rfl) (oW hw 226 rfl) (notFace_of_selects (args := #[]) (mvT hZ (oW hw 228 rfl))) (oW hw 228 rfl) (oW hw 227 rfl) (oW hw 3 rfl) (oW hw 229 rfl) (by decide) (sp27 l Z a0 hw [] o1 u0 T31.heap n0 Z_31 cf35) e47 cf34 0 (argsL := []) (rest := []) (Ls := #[rv o0, rv o1, rv w0_15, rv o1]) (by rw [hml]; rfl) (lenOf qQ159 rfl) rfl rfl (Nat.le_of_eq rfl) (hb hB d13_48) (by decide) (by decide) (by decide) (by decide)
  replace X48 := own_nil X48
  refine oG T48 m 51 #[rv o0, rv o1, rv w0_15, rv o1] [(.long u0)] (st48) ?_
  refine oG T48 m 52 #[rv o0, rv o1, rv w0_15, rv o1] [(.ref o1), (.long u0)] (fun t k => XS.aloadN X48.here hx rfl (hb hB d13_51) rfl rfl k) ?_
  obtain ⟨_, T49, L49, X49, ⟨rfl, e49, rfl⟩, st49⟩ := own_virtual X48 hx hZ (y := (⟨OwnK0, "getId", "()J"⟩ : MethodName)) (z := (⟨OwnK0, "getId", "()J"⟩ : MethodName)) hown (oW hw 225 rfl) (oW hw 226 rfl) (notFace_of_selects (args := #[]) (mvT hZ (oW hw 228 rfl))) (oW hw 228 rfl) (oW hw 227 rfl) (oW hw 3 rfl) (oW hw 229 rfl) (by decide) (sp27 l Z a0 hw [] o1 u0 T31.heap n0 Z_31 cf35) e48 cf34 2 (argsL := []) (rest := [(.long u0)]) (Ls := #[rv o0, rv o1, rv w0_15, rv o1]) (by rw [hml]; rfl) (lenOf qQ159 rfl) rfl rfl (Nat.le_of_eq rfl) (hb hB d13_52) (by decide) (by decide) (by decide) (by decide)
  replace X49 := own_nil X49
  refine oG T49 m 55 #[rv o0, rv o1, rv w0_15, rv o1] [(.long u0), (.long u0)] (st49) ?_
  refine oG T49 m 56 #[rv o0, rv o1, rv w0_15, rv o1] [(.int (lcmpW u0 u0))] (fun t k => XS.lcmp X49.here hx rfl (hb hB d13_55) rfl k) ?_
  refine oG T49 m 59 #[rv o0, rv o1, rv w0_15, rv o1] [] (fun t k => XS.ifNo X49.here hx rfl (hb hB d13_56) rfl ((if0 _ _).trans (teq ((lw_eq u0 u0).mpr rfl)).2) k) ?_
  refine oG T49 m 60 #[rv o0, rv o1, rv w0_15, rv o1] [(.int 1)] (fun t k => XS.iconst X49.here hx rfl (hb hB d13_59) k) ?_
  refine own_retZ X49 hx hlk hret (by decide) (hb hB d13_60) (by decide) (by decide) ?_
  rw [e49]
  exact ⟨rfl, N31, K_31⟩
theorem qQ106 (m : MethodId) (q0 : Addr) (q1 : Addr) (q2 : Int32) : entryFrame m #[(.ref q0), (.ref q1), (.int q2)] 3 = mkF m 0 #[rv q0, rv q1, iv q2] [] := by first | (simp [entryFrame, mkF, argsToLocals, Value.category]; done) | rfl
theorem sp28 (l : Launch) (Z : State) (a0 : Array Value) (hw : ∀ d ∈ tables_1, d.before a0 Z = true) (ws : List Jvm.Cond) (o0 o1 : Addr) (h0 : Heap) (n0 : Nat) (Z0 : n0 ≤ h0.size) (E_o0 : Exa Z h0 o0 OwnK1) (F_ahead_o0 : Fld Z h0 o0 OwnK1 "ahead" "I" (.int 0)) (F_changes_o0 : Fld Z h0 o0 OwnK1 "changes" "Ljava/util/List;" .null) (ne_o0_o1 : o0 ≠ o1) (g_o0 : n0 ≤ o0) :
    OwnC l Z (⟨OwnK1, "<init>", "(Ljava/util/List;I)V"⟩ : MethodName) prog_11_method_1_code 3 none ws ({ frames := 1, cells := 0, slots := 0, locals := 12 } : Room) #[(.ref o0), (.ref o1), (.int 1)] h0 (fun v h L => v = none ∧ Fr n0 L ∧ Keep h0 h [o0] ∧ Fld Z h o0 OwnK1 "changes" "Ljava/util/List;" (.ref o1) ∧ Fld Z h o0 OwnK1 "ahead" "I" (.int 1)) := by
  refine own_entry qQ3 (fun m => qQ106 m o0 o1 (1 : Int32)) ?_
  intro p e s m below meth c T0 X0 hC e0
  obtain ⟨hx, hB, hml, hown, hnm, hret, hlk, hZ⟩ := hC
  have N0 := Fr.nil n0
  have K0 := Keep.refl h0 [o0]
  refine oG T0 m 1 #[rv o0, rv o1, iv 1] [(.ref o0)] (fun t k => XS.aloadN X0.here hx rfl (hb hB d6_0) rfl rfl k) ?_
  obtain ⟨T1, X1, e1, st1⟩ := initO X0 hx hZ hown (oW hw 57 rfl) (oW hw 8 rfl) (oW hw 9 rfl) e0 (g := (mkF m 1 #[rv o0, rv o1, iv 1] [(.ref o0)])) rfl (by rw [hml]; rfl) rfl (hb hB d6_1) (by decide) (W := 0) (by show 2 * 0 + _ ≤ _; exact Nat.le_of_eq rfl) (by decide)
  refine oG T1 m 4 #[rv o0, rv o1, iv 1] [] (st1) ?_
  refine oG T1 m 5 #[rv o0, rv o1, iv 1] [(.ref o0)] (fun t k => XS.aloadN X1.here hx rfl (hb hB d6_4) rfl rfl k) ?_
  refine oG T1 m 6 #[rv o0, rv o1, iv 1] [(.ref o1), (.ref o0)] (fun t k => XS.aloadN X1.here hx rfl (hb hB d6_5) rfl rfl k) ?_
  obtain ⟨T2, h2, X2, e2, W2, st2⟩ := putF X1 hx hZ hown (host := "") (Or.inl (oW hw 58 rfl)) Via.refl e1 F_changes_o0 E_o0 (Or.inr ⟨(oW hw 59 rfl), rfl, hnm⟩) (oW hw 52 rfl) (ty := (.object "java/util/List")) (by decide) rfl rfl (g := (mkF m 6 #[rv o0, rv o1, iv 1] [(.ref o1), (.ref o0)])) rfl rfl (hb hB d6_6)
  have F2 := F_changes_o0.same W2
  have cf3 := E_o0.wr W2
  have cf4 := F_ahead_o0.other W2 (Or.inr (slot_ne (Or.inr (oW hw 61 rfl)) (Or.inr (oW hw 59 rfl)) (by decide) (t := .int) (t' := (.object "java/util/List")) (by decide) (by decide)))
  have Z_2 : n0 ≤ h2.size := Nat.le_trans Z0 (Keep.of_wr W2).1
  have K_2 : Keep h0 h2 [o0] := K0.wr W2 (oI 0 rfl)
  have N2 := Fr.snoc X2 N0 g_o0
  refine oG T2 m 9 #[rv o0, rv o1, iv 1] [] (st2) ?_
  refine oG T2 m 10 #[rv o0, rv o1, iv 1] [(.ref o0)] (fun t k => XS.aloadN X2.here hx rfl (hb hB d6_9) rfl rfl k) ?_
  refine oG T2 m 11 #[rv o0, rv o1, iv 1] [(.int 1), (.ref o0)] (fun t k => XS.iloadN X2.here hx rfl (hb hB d6_10) rfl k) ?_
  obtain ⟨T5, h5, X5, e5, W5, st5⟩ := putF X2 hx hZ hown (host := "") (Or.inl (oW hw 60 rfl)) Via.refl e2 cf4 cf3 (Or.inr ⟨(oW hw 61 rfl), rfl, hnm⟩) (oW hw 52 rfl) (ty := .int) (by decide) rfl rfl (g := (mkF m 11 #[rv o0, rv o1, iv 1] [(.int 1), (.ref o0)])) rfl rfl (hb hB d6_11)
  have F5 := cf4.same W5
  have cf6 := cf3.wr W5
  have cf7 := F2.other W5 (Or.inr (slot_ne (Or.inr (oW hw 59 rfl)) (Or.inr (oW hw 61 rfl)) (by decide) (t := (.object "java/util/List")) (t' := .int) (by decide) (by decide)))
  have Z_5 : n0 ≤ h5.size := Nat.le_trans Z_2 (Keep.of_wr W5).1
  have K_5 : Keep h0 h5 [o0] := K_2.wr W5 (oI 0 rfl)
  have N5 := Fr.snoc X5 N2 g_o0
  refine oG T5 m 14 #[rv o0, rv o1, iv 1] [] (st5) ?_
  refine own_retV X5 hx hlk hret (hb hB d6_14) (by decide) (by decide) ?_
  rw [e5]
  exact ⟨rfl, N5, K_5, cf7, F5⟩
theorem qQ94 (m : MethodId) (q0 : Addr) : entryFrame m #[(.ref q0)] 1 = mkF m 0 #[rv q0] [] := by first | (simp [entryFrame, mkF, argsToLocals, Value.category]; done) | rfl
theorem sp29 (l : Launch) (Z : State) (a0 : Array Value) (hw : ∀ d ∈ tables_1, d.before a0 Z = true) (ws : List Jvm.Cond) (o0 : Addr) (h0 : Heap) (n0 : Nat) (Z0 : n0 ≤ h0.size) (F_ahead_o0 : Fld Z h0 o0 OwnK1 "ahead" "I" (.int 1)) :
    OwnC l Z (⟨OwnK1, "hasAhead", "()Z"⟩ : MethodName) prog_11_method_3_code 1 (some .boolean) ws ({ frames := 0, cells := 0, slots := 0, locals := 0 } : Room) #[(.ref o0)] h0 (fun v h L => v = some (.int 1) ∧ h = h0 ∧ L = []) := by
  refine own_entry qQ9 (fun m => qQ94 m o0) ?_
  intro p e s m below meth c T0 X0 hC e0
  obtain ⟨hx, hB, hml, hown, hnm, hret, hlk, hZ⟩ := hC
  have N0 := Fr.nil n0
  have K0 := Keep.refl h0 []
  refine oG T0 m 1 #[rv o0] [(.ref o0)] (fun t k => XS.aloadN X0.here hx rfl (hb hB d7_0) rfl rfl k) ?_
  obtain ⟨T1, X1, e1, st1⟩ := getF X0 hx hZ hown (host := "") (Or.inl (oW hw 60 rfl)) Via.refl e0 F_ahead_o0 (g := (mkF m 1 #[rv o0] [(.ref o0)])) rfl rfl (hb hB d7_1)
  refine oG T1 m 4 #[rv o0] [(.int 1)] (st1) ?_
  refine oG T1 m 7 #[rv o0] [] (fun t k => XS.ifNo X1.here hx rfl (hb hB d7_4) rfl ((if0 _ _).trans (tlt (by decide)).2.2.2) k) ?_
  refine oG T1 m 8 #[rv o0] [(.int 1)] (fun t k => XS.iconst X1.here hx rfl (hb hB d7_7) k) ?_
  refine oG T1 m 12 #[rv o0] [(.int 1)] (fun t k => XS.goto X1.here hx rfl (pc0 := 8) (pc' := 12) rfl (hb hB d7_8) (by decide) (by decide) k) ?_
  refine own_retZ X1 hx hlk hret (by decide) (hb hB d7_12) (by decide) (by decide) ?_
  exact ⟨rfl, e1, rfl⟩
theorem qQ134 (m : MethodId) (q0 : Int32) (q1 : Int32) (q2 : Int32) : entryFrame m #[(.int q0), (.int q1), (.int q2)] 3 = mkF m 0 #[iv q0, iv q1, iv q2] [] := by first | (simp [entryFrame, mkF, argsToLocals, Value.category]; done) | rfl
theorem sp32 (l : Launch) (Z : State) (a0 : Array Value) (hw : ∀ d ∈ tables_1, d.before a0 Z = true) (ws : List Jvm.Cond) (h0 : Heap) (n0 : Nat) (Z0 : n0 ≤ h0.size) :
    OwnC l Z (⟨OwnK5, "subListRangeCheck", "(III)V"⟩ : MethodName) jdk_39_method_15_code 3 none ws ({ frames := 0, cells := 0, slots := 0, locals := 0 } : Room) #[(.int 1), (.int 1), (.int 1)] h0 (fun v h L => v = none ∧ h = h0 ∧ L = []) := by
  refine own_entry qQ19 (fun m => qQ134 m (1 : Int32) (1 : Int32) (1 : Int32)) ?_
  intro p e s m below meth c T0 X0 hC e0
  obtain ⟨hx, hB, hml, hown, hnm, hret, hlk, hZ⟩ := hC
  have N0 := Fr.nil n0
  have K0 := Keep.refl h0 []
  refine oG T0 m 1 #[iv 1, iv 1, iv 1] [(.int 1)] (fun t k => XS.iloadN X0.here hx rfl (hb hB d16_0) rfl k) ?_
  refine oG T0 m 31 #[iv 1, iv 1, iv 1] [] (fun t k => XS.ifYes X0.here hx rfl (pc0 := 1) (pc' := 31) rfl (hb hB d16_1) rfl ((if0 _ _).trans (flt (by decide)).2.1) (by decide) (by decide) k) ?_
  refine oG T0 m 32 #[iv 1, iv 1, iv 1] [(.int 1)] (fun t k => XS.iloadN X0.here hx rfl (hb hB d16_31) rfl k) ?_
  refine oG T0 m 33 #[iv 1, iv 1, iv 1] [(.int 1), (.int 1)] (fun t k => XS.iloadN X0.here hx rfl (hb hB d16_32) rfl k) ?_
  refine oG T0 m 63 #[iv 1, iv 1, iv 1] [] (fun t k => XS.icmpYes X0.here hx rfl (pc0 := 33) (pc' := 63) rfl (hb hB d16_33) rfl (flt (by decide)).2.2.2 (by decide) (by decide) k) ?_
  refine oG T0 m 64 #[iv 1, iv 1, iv 1] [(.int 1)] (fun t k => XS.iloadN X0.here hx rfl (hb hB d16_63) rfl k) ?_
  refine oG T0 m 65 #[iv 1, iv 1, iv 1] [(.int 1), (.int 1)] (fun t k => XS.iloadN X0.here hx rfl (hb hB d16_64) rfl k) ?_
  refine oG T0 m 109 #[iv 1, iv 1, iv 1] [] (fun t k => XS.icmpYes X0.here hx rfl (pc0 := 65) (pc' := 109) rfl (hb hB d16_65) rfl (flt (by decide)).2.2.2 (by decide) (by decide) k) ?_
  refine own_retV X0 hx hlk hret (hb hB d16_109) (by decide) (by decide) ?_
  exact ⟨rfl, e0, rfl⟩
theorem qQ62 (m : MethodId) (q0 : Addr) (q1 : Addr) (q2 : Int32) (q3 : Int32) : entryFrame m #[(.ref q0), (.ref q1), (.int q2), (.int q3)] 4 = mkF m 0 #[rv q0, rv q1, iv q2, iv q3] [] := by first | (simp [entryFrame, mkF, argsToLocals, Value.category]; done) | rfl
theorem sp33 (l : Launch) (Z : State) (a0 : Array Value) (hw : ∀ d ∈ tables_1, d.before a0 Z = true) (ws : List Jvm.Cond) (o0 o1 : Addr) (h0 : Heap) (n0 : Nat) (Z0 : n0 ≤ h0.size) (E_o0 : Exa Z h0 o0 OwnK3) (F_mC_o0 : Fld Z h0 o0 OwnK5 "modCount" "I" (.int 0)) (F_offset_o0 : Fld Z h0 o0 OwnK3 "offset" "I" (.int 0)) (F_parent_o0 : Fld Z h0 o0 OwnK3 "parent" OwnK7 .null) (F_root_o0 : Fld Z h0 o0 OwnK3 "root" OwnK8 .null) (F_size_o0 : Fld Z h0 o0 OwnK3 "size" "I" (.int 0)) (F_mC_o1 : Fld Z h0 o1 OwnK5 "modCount" "I" (.int 1)) (ne_o0_o1 : o0 ≠ o1) (g_o0 : n0 ≤ o0) :
    OwnC l Z (⟨OwnK3, "<init>", "(Ljava/util/ArrayList;II)V"⟩ : MethodName) jdk_130_method_1_code 4 none ws ({ frames := 3, cells := 0, slots := 0, locals := 36 } : Room) #[(.ref o0), (.ref o1), (.int 1), (.int 1)] h0 (fun v h L => v = none ∧ Fr n0 L ∧ Keep h0 h [o0] ∧ Fld Z h o0 OwnK3 "root" OwnK8 (.ref o1) ∧ Fld Z h o0 OwnK3 "offset" "I" (.int 1) ∧ Fld Z h o0 OwnK3 "size" "I" (.int 0) ∧ Fld Z h o0 OwnK5 "modCount" "I" (.int 1)) := by
  refine own_entry qQ10 (fun m => qQ62 m o0 o1 (1 : Int32) (1 : Int32)) ?_
  intro p e s m below meth c T0 X0 hC e0
  obtain ⟨hx, hB, hml, hown, hnm, hret, hlk, hZ⟩ := hC
  have N0 := Fr.nil n0
  have K0 := Keep.refl h0 [o0]
  refine oG T0 m 1 #[rv o0, rv o1, iv 1, iv 1] [(.ref o0)] (fun t k => XS.aloadN X0.here hx rfl (hb hB d17_0) rfl rfl k) ?_
  obtain ⟨_, T1, L1, X1, ⟨rfl, Nq1, Kq1, fq0_1, fq1_1, fq2_1, fq3_1, fq4_1⟩, st1⟩ := own_init X0 hx hZ (y := (⟨OwnK5, "<init>", "()V"⟩ : MethodName)) rfl hown (oW hw 131 rfl) (oW hw 34 rfl) (oW hw 37 rfl) (oW hw 38 rfl) (by decide) (sp17 l Z a0 hw [] o0 h0 n0 Z0 E_o0 F_mC_o0 F_offset_o0 F_parent_o0 F_root_o0 F_size_o0 g_o0) e0 (a := o0) 0 (argsL := []) (rest := []) (Ls := #[rv o0, rv o1, iv 1, iv 1]) (by rw [hml]; rfl) (lenOf qQ155 rfl) rfl rfl (Nat.le_of_eq rfl) (hb hB d17_1) (by decide) (by decide) (by decide) (by decide)
  have N1 := Fr.app N0 Nq1
  have cf2 := E_o0.keep Kq1
  have cf3 := F_mC_o1.keep Kq1 (ninS (Ne.symm ne_o0_o1) nin0)
  have Z_1 : n0 ≤ T1.heap.size := Nat.le_trans Z0 Kq1.1
  have K_1 : Keep h0 T1.heap [o0] := K0.trans Kq1 (allS (oI 0 rfl) all0)
  refine oG T1 m 4 #[rv o0, rv o1, iv 1, iv 1] [] (st1) ?_
  refine oG T1 m 5 #[rv o0, rv o1, iv 1, iv 1] [(.ref o0)] (fun t k => XS.aloadN X1.here hx rfl (hb hB d17_4) rfl rfl k) ?_
  refine oG T1 m 6 #[rv o0, rv o1, iv 1, iv 1] [(.ref o1), (.ref o0)] (fun t k => XS.aloadN X1.here hx rfl (hb hB d17_5) rfl rfl k) ?_
  obtain ⟨T4, h4, X4, e4, W4, st4⟩ := putF X1 hx hZ hown (host := "") (Or.inl (oW hw 135 rfl)) Via.refl rfl fq2_1 cf2 (Or.inr ⟨(oW hw 136 rfl), rfl, hnm⟩) (oW hw 125 rfl) (ty := (.object OwnK4)) (by decide) rfl rfl (g := (mkF m 6 #[rv o0, rv o1, iv 1, iv 1] [(.ref o1), (.ref o0)])) rfl rfl (hb hB d17_6)
  have F4 := fq2_1.same W4
  have cf5 := cf2.wr W4
  have cf6 := cf3.other W4 (Or.inl (Ne.symm ne_o0_o1))
  have cf7 := fq0_1.other W4 (Or.inr (slot_ne (Or.inr (oW hw 140 rfl)) (Or.inr (oW hw 136 rfl)) (by decide) (t := .int) (t' := (.object OwnK4)) (by decide) (by decide)))
  have cf8 := fq1_1.other W4 (Or.inr (slot_ne (Or.inr (oW hw 138 rfl)) (Or.inr (oW hw 136 rfl)) (by decide) (t := (.object OwnK3)) (t' := (.object OwnK4)) (by decide) (by decide)))
  have cf9 := fq3_1.other W4 (Or.inr (slot_ne (Or.inl (oW hw 142 rfl)) (Or.inr (oW hw 136 rfl)) (by decide) (t := .int) (t' := (.object OwnK4)) (by decide) (by decide)))
  have cf10 := fq4_1.other W4 (Or.inr (slot_ne (Or.inl (oW hw 134 rfl)) (Or.inr (oW hw 136 rfl)) (by decide) (t := .int) (t' := (.object OwnK4)) (by decide) (by decide)))
  have Z_4 : n0 ≤ h4.size := Nat.le_trans Z_1 (Keep.of_wr W4).1
  have K_4 : Keep h0 h4 [o0] := K_1.wr W4 (oI 0 rfl)
  have N4 := Fr.snoc X4 N1 g_o0
  refine oG T4 m 9 #[rv o0, rv o1, iv 1, iv 1] [] (st4) ?_
  refine oG T4 m 10 #[rv o0, rv o1, iv 1, iv 1] [(.ref o0)] (fun t k => XS.aloadN X4.here hx rfl (hb hB d17_9) rfl rfl k) ?_
  refine oG T4 m 11 #[rv o0, rv o1, iv 1, iv 1] [.null, (.ref o0)] (fun t k => XS.aconstNull X4.here hx rfl (hb hB d17_10) k) ?_
  obtain ⟨T11, h11, X11, e11, W11, st11⟩ := putF X4 hx hZ hown (host := "") (Or.inl (oW hw 137 rfl)) Via.refl e4 cf8 cf5 (Or.inr ⟨(oW hw 138 rfl), rfl, hnm⟩) (oW hw 125 rfl) (ty := (.object OwnK3)) (by decide) rfl rfl (g := (mkF m 11 #[rv o0, rv o1, iv 1, iv 1] [.null, (.ref o0)])) rfl rfl (hb hB d17_11)
  have F11 := cf8.same W11
  have cf12 := cf5.wr W11
  have cf13 := cf6.other W11 (Or.inl (Ne.symm ne_o0_o1))
  have cf14 := cf7.other W11 (Or.inr (slot_ne (Or.inr (oW hw 140 rfl)) (Or.inr (oW hw 138 rfl)) (by decide) (t := .int) (t' := (.object OwnK3)) (by decide) (by decide)))
  have cf15 := cf9.other W11 (Or.inr (slot_ne (Or.inl (oW hw 142 rfl)) (Or.inr (oW hw 138 rfl)) (by decide) (t := .int) (t' := (.object OwnK3)) (by decide) (by decide)))
  have cf16 := cf10.other W11 (Or.inr (slot_ne (Or.inl (oW hw 134 rfl)) (Or.inr (oW hw 138 rfl)) (by decide) (t := .int) (t' := (.object OwnK3)) (by decide) (by decide)))
  have cf17 := F4.other W11 (Or.inr (slot_ne (Or.inr (oW hw 136 rfl)) (Or.inr (oW hw 138 rfl)) (by decide) (t := (.object OwnK4)) (t' := (.object OwnK3)) (by decide) (by decide)))
  have Z_11 : n0 ≤ h11.size := Nat.le_trans Z_4 (Keep.of_wr W11).1
  have K_11 : Keep h0 h11 [o0] := K_4.wr W11 (oI 0 rfl)
  have N11 := Fr.snoc X11 N4 g_o0
  refine oG T11 m 14 #[rv o0, rv o1, iv 1, iv 1] [] (st11) ?_
  refine oG T11 m 15 #[rv o0, rv o1, iv 1, iv 1] [(.ref o0)] (fun t k => XS.aloadN X11.here hx rfl (hb hB d17_14) rfl rfl k) ?_
  refine oG T11 m 16 #[rv o0, rv o1, iv 1, iv 1] [(.int 1), (.ref o0)] (fun t k => XS.iloadN X11.here hx rfl (hb hB d17_15) rfl k) ?_
  obtain ⟨T18, h18, X18, e18, W18, st18⟩ := putF X11 hx hZ hown (host := "") (Or.inl (oW hw 139 rfl)) Via.refl e11 cf14 cf12 (Or.inr ⟨(oW hw 140 rfl), rfl, hnm⟩) (oW hw 125 rfl) (ty := .int) (by decide) rfl rfl (g := (mkF m 16 #[rv o0, rv o1, iv 1, iv 1] [(.int 1), (.ref o0)])) rfl rfl (hb hB d17_16)
  have F18 := cf14.same W18
  have cf19 := cf12.wr W18
  have cf20 := cf13.other W18 (Or.inl (Ne.symm ne_o0_o1))
  have cf21 := cf15.other W18 (Or.inr (slot_ne (Or.inl (oW hw 142 rfl)) (Or.inr (oW hw 140 rfl)) (by decide) (t := .int) (t' := .int) (by decide) (by decide)))
  have cf22 := cf16.other W18 (Or.inr (slot_ne (Or.inl (oW hw 134 rfl)) (Or.inr (oW hw 140 rfl)) (by decide) (t := .int) (t' := .int) (by decide) (by decide)))
  have cf23 := cf17.other W18 (Or.inr (slot_ne (Or.inr (oW hw 136 rfl)) (Or.inr (oW hw 140 rfl)) (by decide) (t := (.object OwnK4)) (t' := .int) (by decide) (by decide)))
  have cf24 := F11.other W18 (Or.inr (slot_ne (Or.inr (oW hw 138 rfl)) (Or.inr (oW hw 140 rfl)) (by decide) (t := (.object OwnK3)) (t' := .int) (by decide) (by decide)))
  have Z_18 : n0 ≤ h18.size := Nat.le_trans Z_11 (Keep.of_wr W18).1
  have K_18 : Keep h0 h18 [o0] := K_11.wr W18 (oI 0 rfl)
  have N18 := Fr.snoc X18 N11 g_o0
  refine oG T18 m 19 #[rv o0, rv o1, iv 1, iv 1] [] (st18) ?_
  refine oG T18 m 20 #[rv o0, rv o1, iv 1, iv 1] [(.ref o0)] (fun t k => XS.aloadN X18.here hx rfl (hb hB d17_19) rfl rfl k) ?_
  refine oG T18 m 21 #[rv o0, rv o1, iv 1, iv 1] [(.int 1), (.ref o0)] (fun t k => XS.iloadN X18.here hx rfl (hb hB d17_20) rfl k) ?_
  refine oG T18 m 22 #[rv o0, rv o1, iv 1, iv 1] [(.int 1), (.int 1), (.ref o0)] (fun t k => XS.iloadN X18.here hx rfl (hb hB d17_21) rfl k) ?_
  refine oG T18 m 23 #[rv o0, rv o1, iv 1, iv 1] [(.int ((1 : Int32) - (1 : Int32))), (.ref o0)] (fun t k => XS.isub X18.here hx rfl (hb hB d17_22) rfl k) ?_
  rw [show ((1 : Int32) - (1 : Int32)) = (0 : Int32) from by decide]
  obtain ⟨T25, h25, X25, e25, W25, st25⟩ := putF X18 hx hZ hown (host := "") (Or.inl (oW hw 141 rfl)) Via.refl e18 cf21 cf19 (Or.inl (oW hw 142 rfl)) (oW hw 125 rfl) (ty := .int) (by decide) rfl rfl (g := (mkF m 23 #[rv o0, rv o1, iv 1, iv 1] [(.int 0), (.ref o0)])) rfl rfl (hb hB d17_23)
  have F25 := cf21.same W25
  have cf26 := cf19.wr W25
  have cf27 := cf20.other W25 (Or.inl (Ne.symm ne_o0_o1))
  have cf28 := cf22.other W25 (Or.inr (slot_ne (Or.inl (oW hw 134 rfl)) (Or.inl (oW hw 142 rfl)) (by decide) (t := .int) (t' := .int) (by decide) (by decide)))
  have cf29 := cf23.other W25 (Or.inr (slot_ne (Or.inr (oW hw 136 rfl)) (Or.inl (oW hw 142 rfl)) (by decide) (t := (.object OwnK4)) (t' := .int) (by decide) (by decide)))
  have cf30 := cf24.other W25 (Or.inr (slot_ne (Or.inr (oW hw 138 rfl)) (Or.inl (oW hw 142 rfl)) (by decide) (t := (.object OwnK3)) (t' := .int) (by decide) (by decide)))
  have cf31 := F18.other W25 (Or.inr (slot_ne (Or.inr (oW hw 140 rfl)) (Or.inl (oW hw 142 rfl)) (by decide) (t := .int) (t' := .int) (by decide) (by decide)))
  have Z_25 : n0 ≤ h25.size := Nat.le_trans Z_18 (Keep.of_wr W25).1
  have K_25 : Keep h0 h25 [o0] := K_18.wr W25 (oI 0 rfl)
  have N25 := Fr.snoc X25 N18 g_o0
  refine oG T25 m 26 #[rv o0, rv o1, iv 1, iv 1] [] (st25) ?_
  refine oG T25 m 27 #[rv o0, rv o1, iv 1, iv 1] [(.ref o0)] (fun t k => XS.aloadN X25.here hx rfl (hb hB d17_26) rfl rfl k) ?_
  refine oG T25 m 28 #[rv o0, rv o1, iv 1, iv 1] [(.ref o1), (.ref o0)] (fun t k => XS.aloadN X25.here hx rfl (hb hB d17_27) rfl rfl k) ?_
  obtain ⟨T32, X32, e32, st32⟩ := getF X25 hx hZ hown (host := "") (Or.inl (oW hw 143 rfl)) (Via.of (oW hw 73 rfl)) e25 cf27 (g := (mkF m 28 #[rv o0, rv o1, iv 1, iv 1] [(.ref o1), (.ref o0)])) rfl rfl (hb hB d17_28)
  refine oG T32 m 31 #[rv o0, rv o1, iv 1, iv 1] [(.int 1), (.ref o0)] (st32) ?_
  obtain ⟨T33, h33, X33, e33, W33, st33⟩ := putF X32 hx hZ hown (host := "") (Or.inl (oW hw 144 rfl)) (Via.of (oW hw 145 rfl)) e32 cf28 cf26 (Or.inl (oW hw 134 rfl)) (oW hw 125 rfl) (ty := .int) (by decide) rfl rfl (g := (mkF m 31 #[rv o0, rv o1, iv 1, iv 1] [(.int 1), (.ref o0)])) rfl rfl (hb hB d17_31)
  have F33 := cf28.same W33
  have cf34 := cf26.wr W33
  have cf35 := cf27.other W33 (Or.inl (Ne.symm ne_o0_o1))
  have cf36 := cf29.other W33 (Or.inr (slot_ne (Or.inr (oW hw 136 rfl)) (Or.inl (oW hw 134 rfl)) (by decide) (t := (.object OwnK4)) (t' := .int) (by decide) (by decide)))
  have cf37 := cf30.other W33 (Or.inr (slot_ne (Or.inr (oW hw 138 rfl)) (Or.inl (oW hw 134 rfl)) (by decide) (t := (.object OwnK3)) (t' := .int) (by decide) (by decide)))
  have cf38 := cf31.other W33 (Or.inr (slot_ne (Or.inr (oW hw 140 rfl)) (Or.inl (oW hw 134 rfl)) (by decide) (t := .int) (t' := .int) (by decide) (by decide)))
  have cf39 := F25.other W33 (Or.inr (slot_ne (Or.inl (oW hw 142 rfl)) (Or.inl (oW hw 134 rfl)) (by decide) (t := .int) (t' := .int) (by decide) (by decide)))
  have Z_33 : n0 ≤ h33.size := Nat.le_trans Z_25 (Keep.of_wr W33).1
  have K_33 : Keep h0 h33 [o0] := K_25.wr W33 (oI 0 rfl)
  have N33 := Fr.snoc X33 N25 g_o0
  refine oG T33 m 34 #[rv o0, rv o1, iv 1, iv 1] [] (st33) ?_
  refine own_retV X33 hx hlk hret (hb hB d17_34) (by decide) (by decide) ?_
  rw [e33]
  exact ⟨rfl, N33, K_33, cf36, cf38, cf39, F33⟩
theorem qQ74 (m : MethodId) (q0 : Addr) (q1 : Int32) (q2 : Int32) : entryFrame m #[(.ref q0), (.int q1), (.int q2)] 3 = mkF m 0 #[rv q0, iv q1, iv q2] [] := by first | (simp [entryFrame, mkF, argsToLocals, Value.category]; done) | rfl
theorem sp31 (l : Launch) (Z : State) (a0 : Array Value) (hw : ∀ d ∈ tables_1, d.before a0 Z = true) (ws : List Jvm.Cond) (o0 : Addr) (h0 : Heap) (n0 : Nat) (Z0 : n0 ≤ h0.size) (F_mC_o0 : Fld Z h0 o0 OwnK5 "modCount" "I" (.int 1)) (F_size_o0 : Fld Z h0 o0 OwnK4 "size" "I" (.int 1)) :
    OwnC l Z (⟨OwnK4, "subList", "(II)Ljava/util/List;"⟩ : MethodName) jdk_38_method_56_code 3 (some (.object "java/util/List")) ws ({ frames := 4, cells := 1, slots := 5, locals := 52 } : Room) #[(.ref o0), (.int 1), (.int 1)] h0 (fun v h L => ∃ (w0 : Addr), v = some (.ref w0) ∧ Fr n0 L ∧ Keep h0 h [] ∧ (h0.size ≤ w0 ∧ n0 ≤ w0) ∧ Exa Z h w0 OwnK3 ∧ Fld Z h w0 OwnK3 "root" OwnK8 (.ref o0) ∧ Fld Z h w0 OwnK3 "offset" "I" (.int 1) ∧ Fld Z h w0 OwnK3 "size" "I" (.int 0) ∧ Fld Z h w0 OwnK5 "modCount" "I" (.int 1)) := by
  refine own_entry qQ17 (fun m => qQ74 m o0 (1 : Int32) (1 : Int32)) ?_
  intro p e s m below meth c T0 X0 hC e0
  obtain ⟨hx, hB, hml, hown, hnm, hret, hlk, hZ⟩ := hC
  have N0 := Fr.nil n0
  have K0 := Keep.refl h0 []
  refine oG T0 m 1 #[rv o0, iv 1, iv 1] [(.int 1)] (fun t k => XS.iloadN X0.here hx rfl (hb hB d15_0) rfl k) ?_
  refine oG T0 m 2 #[rv o0, iv 1, iv 1] [(.int 1), (.int 1)] (fun t k => XS.iloadN X0.here hx rfl (hb hB d15_1) rfl k) ?_
  refine oG T0 m 3 #[rv o0, iv 1, iv 1] [(.ref o0), (.int 1), (.int 1)] (fun t k => XS.aloadN X0.here hx rfl (hb hB d15_2) rfl rfl k) ?_
  obtain ⟨T1, X1, e1, st1⟩ := getF X0 hx hZ hown (host := "") (Or.inl (oW hw 74 rfl)) Via.refl e0 F_size_o0 (g := (mkF m 3 #[rv o0, iv 1, iv 1] [(.ref o0), (.int 1), (.int 1)])) rfl rfl (hb hB d15_3)
  refine oG T1 m 6 #[rv o0, iv 1, iv 1] [(.int 1), (.int 1), (.int 1)] (st1) ?_
  obtain ⟨_, T2, L2, X2, ⟨rfl, e2, rfl⟩, st2⟩ := own_staticUp X1 hx hZ (x := (⟨OwnK4, "subListRangeCheck", "(III)V"⟩ : MethodName)) hown (oW hw 120 rfl) (oW hw 121 rfl) (by decide) (oW hw 122 rfl) (oW hw 37 rfl) (oW hw 123 rfl) (sp32 l Z a0 hw []  h0 n0 Z0 ) e1 0 (argsL := [(.int 1), (.int 1), (.int 1)]) (rest := []) (Ls := #[rv o0, iv 1, iv 1]) (by rw [hml]; rfl) (lenOf qQ41 rfl) rfl rfl (Nat.le_of_eq rfl) (hb hB d15_6) (by decide) (by decide) (by decide) (by decide)
  replace X2 := own_nil X2
  refine oG T2 m 9 #[rv o0, iv 1, iv 1] [] (st2) ?_
  obtain ⟨T3, h3, X3, e3, E3, A3, D3, -, st3⟩ := newO X2 hx hZ hown (oW hw 124 rfl) (oW hw 125 rfl) (oW hw 126 rfl) e2 (g := (mkF m 9 #[rv o0, iv 1, iv 1] [])) rfl (hb hB d15_9) (by decide) (by decide)
  obtain ⟨b3, g3⟩ : ∃ z, z = h0.size := ⟨_, rfl⟩
  rw [← g3] at A3 D3 st3
  have ne_o0_b3 : o0 ≠ b3 := Nat.ne_of_lt (Nat.lt_of_lt_of_eq F_mC_o0.lt g3.symm)
  have g_b3 : n0 ≤ b3 := Nat.le_trans Z0 (Nat.le_of_eq g3.symm)
  have sz_b3 : h0.size ≤ b3 := Nat.le_trans K0.1 (Nat.le_of_eq g3.symm)
  have cf4 := F_mC_o0.ext E3
  have cf5 := F_size_o0.ext E3
  have Z_3 : n0 ≤ h3.size := Nat.le_trans Z0 E3.1
  have K_3 : Keep h0 h3 [] := K0.ext E3
  have F_mC_3 : Fld Z h3 b3 OwnK5 "modCount" "I" (.int 0) := D3 (Or.inl (oW hw 134 rfl)) (ty := .int) (by decide)
  have F_root_3 : Fld Z h3 b3 OwnK3 "root" OwnK8 .null := D3 (Or.inr (oW hw 136 rfl)) (ty := (.object OwnK4)) (by decide)
  have F_parent_3 : Fld Z h3 b3 OwnK3 "parent" OwnK7 .null := D3 (Or.inr (oW hw 138 rfl)) (ty := (.object OwnK3)) (by decide)
  have F_offset_3 : Fld Z h3 b3 OwnK3 "offset" "I" (.int 0) := D3 (Or.inr (oW hw 140 rfl)) (ty := .int) (by decide)
  have F_size_3 : Fld Z h3 b3 OwnK3 "size" "I" (.int 0) := D3 (Or.inl (oW hw 142 rfl)) (ty := .int) (by decide)
  refine oG T3 m 12 #[rv o0, iv 1, iv 1] [(.ref b3)] (st3) ?_
  refine oG T3 m 13 #[rv o0, iv 1, iv 1] [(.ref b3), (.ref b3)] (fun t k => XS.dup X3.here hx rfl (hb hB d15_12) rfl rfl k) ?_
  refine oG T3 m 14 #[rv o0, iv 1, iv 1] [(.ref o0), (.ref b3), (.ref b3)] (fun t k => XS.aloadN X3.here hx rfl (hb hB d15_13) rfl rfl k) ?_
  refine oG T3 m 15 #[rv o0, iv 1, iv 1] [(.int 1), (.ref o0), (.ref b3), (.ref b3)] (fun t k => XS.iloadN X3.here hx rfl (hb hB d15_14) rfl k) ?_
  refine oG T3 m 16 #[rv o0, iv 1, iv 1] [(.int 1), (.int 1), (.ref o0), (.ref b3), (.ref b3)] (fun t k => XS.iloadN X3.here hx rfl (hb hB d15_15) rfl k) ?_
  obtain ⟨_, T6, L6, X6, ⟨rfl, Nq6, Kq6, fq0_6, fq1_6, fq2_6, fq3_6⟩, st6⟩ := own_init X3 hx hZ (y := (⟨OwnK3, "<init>", "(Ljava/util/ArrayList;II)V"⟩ : MethodName)) rfl hown (oW hw 127 rfl) (oW hw 128 rfl) (oW hw 126 rfl) (oW hw 130 rfl) (by decide) (sp33 l Z a0 hw [] b3 o0 h3 n0 Z_3 A3 F_mC_3 F_offset_3 F_parent_3 F_root_3 F_size_3 cf4 (Ne.symm ne_o0_b3) g_b3) e3 (a := b3) 1 (argsL := [(.ref o0), (.int 1), (.int 1)]) (rest := [(.ref b3)]) (Ls := #[rv o0, iv 1, iv 1]) (by rw [hml]; rfl) (lenOf qQ32 rfl) rfl rfl (Nat.le_of_eq rfl) (hb hB d15_16) (by decide) (by decide) (by decide) (by decide)
  have N6 := Fr.app N0 Nq6
  have cf7 := cf4.keep Kq6 (ninS ne_o0_b3 nin0)
  have cf8 := cf5.keep Kq6 (ninS ne_o0_b3 nin0)
  have cf9 := A3.keep Kq6
  have Z_6 : n0 ≤ T6.heap.size := Nat.le_trans Z_3 Kq6.1
  have K_6 : Keep h0 T6.heap [] := K_3.trans Kq6 (allS (Or.inr sz_b3) all0)
  refine oG T6 m 19 #[rv o0, iv 1, iv 1] [(.ref b3)] (st6) ?_
  refine own_retA X6 hx hlk hret rfl rfl rfl (hb hB d15_19) (by decide) (by decide) ?_
  exact ⟨b3, rfl, N6, K_6, ⟨sz_b3, g_b3⟩, cf9, fq0_6, fq1_6, fq2_6, fq3_6⟩
theorem qQ63 (m : MethodId) (q0 : Addr) (q1 : Int32) : entryFrame m #[(.ref q0), (.int q1)] 2 = mkF m 0 #[rv q0, iv q1] [] := by first | (simp [entryFrame, mkF, argsToLocals, Value.category]; done) | rfl
theorem sp37 (l : Launch) (Z : State) (a0 : Array Value) (hw : ∀ d ∈ tables_1, d.before a0 Z = true) (ws : List Jvm.Cond) (o0 : Addr) (h0 : Heap) (n0 : Nat) (Z0 : n0 ≤ h0.size) (F_size_o0 : Fld Z h0 o0 OwnK3 "size" "I" (.int 0)) :
    OwnC l Z (⟨OwnK3, "rangeCheckForAdd", "(I)V"⟩ : MethodName) jdk_130_method_26_code 2 none ws ({ frames := 0, cells := 0, slots := 0, locals := 0 } : Room) #[(.ref o0), (.int 0)] h0 (fun v h L => v = none ∧ h = h0 ∧ L = []) := by
  refine own_entry qQ16 (fun m => qQ63 m o0 (0 : Int32)) ?_
  intro p e s m below meth c T0 X0 hC e0
  obtain ⟨hx, hB, hml, hown, hnm, hret, hlk, hZ⟩ := hC
  have N0 := Fr.nil n0
  have K0 := Keep.refl h0 []
  refine oG T0 m 1 #[rv o0, iv 0] [(.int 0)] (fun t k => XS.iloadN X0.here hx rfl (hb hB d22_0) rfl k) ?_
  refine oG T0 m 4 #[rv o0, iv 0] [] (fun t k => XS.ifNo X0.here hx rfl (hb hB d22_1) rfl ((if0 _ _).trans (flt (by decide)).1) k) ?_
  refine oG T0 m 5 #[rv o0, iv 0] [(.int 0)] (fun t k => XS.iloadN X0.here hx rfl (hb hB d22_4) rfl k) ?_
  refine oG T0 m 6 #[rv o0, iv 0] [(.ref o0), (.int 0)] (fun t k => XS.aloadN X0.here hx rfl (hb hB d22_5) rfl rfl k) ?_
  obtain ⟨T1, X1, e1, st1⟩ := getF X0 hx hZ hown (host := "") (Or.inl (oW hw 141 rfl)) Via.refl e0 F_size_o0 (g := (mkF m 6 #[rv o0, iv 0] [(.ref o0), (.int 0)])) rfl rfl (hb hB d22_6)
  refine oG T1 m 9 #[rv o0, iv 0] [(.int 0), (.int 0)] (st1) ?_
  refine oG T1 m 25 #[rv o0, iv 0] [] (fun t k => XS.icmpYes X1.here hx rfl (pc0 := 9) (pc' := 25) rfl (hb hB d22_9) rfl (flt (by decide)).2.2.2 (by decide) (by decide) k) ?_
  refine own_retV X1 hx hlk hret (hb hB d22_25) (by decide) (by decide) ?_
  exact ⟨rfl, e1, rfl⟩
theorem qQ99 (m : MethodId) (q0 : Addr) (q1 : Int32) : entryFrame m #[(.ref q0), (.int q1)] 2 = mkF m 0 #[rv q0, iv q1] [] := by first | (simp [entryFrame, mkF, argsToLocals, Value.category]; done) | rfl
theorem sp36 (l : Launch) (Z : State) (a0 : Array Value) (hw : ∀ d ∈ tables_1, d.before a0 Z = true) (ws : List Jvm.Cond) (o0 o1 : Addr) (h0 : Heap) (n0 : Nat) (Z0 : n0 ≤ h0.size) (E_o0 : Exa Z h0 o0 OwnK3) (F_mC_o0 : Fld Z h0 o0 OwnK5 "modCount" "I" (.int 1)) (F_root_o0 : Fld Z h0 o0 OwnK3 "root" OwnK8 (.ref o1)) (F_size_o0 : Fld Z h0 o0 OwnK3 "size" "I" (.int 0)) (F_mC_o1 : Fld Z h0 o1 OwnK5 "modCount" "I" (.int 1)) :
    OwnC l Z (⟨OwnK3, "listIterator", "(I)Ljava/util/ListIterator;"⟩ : MethodName) jdk_130_method_24_code 2 (some (.object "java/util/ListIterator")) ws ({ frames := 2, cells := 1, slots := 5, locals := 27 } : Room) #[(.ref o0), (.int 0)] h0 (fun v h L => ∃ (w0 : Addr), v = some (.ref w0) ∧ Fr n0 L ∧ Keep h0 h [] ∧ (h0.size ≤ w0 ∧ n0 ≤ w0) ∧ Exa Z h w0 OwnK2 ∧ Fld Z h w0 OwnK2 "this$0" OwnK7 (.ref o0) ∧ Fld Z h w0 OwnK2 "val$index" "I" (.int 0) ∧ Fld Z h w0 OwnK2 "cursor" "I" (.int 0) ∧ Fld Z h w0 OwnK2 "lastRet" "I" (.int (-1)) ∧ Fld Z h w0 OwnK2 "expectedModCount" "I" (.int 1)) := by
  refine own_entry qQ5 (fun m => qQ99 m o0 (0 : Int32)) ?_
  intro p e s m below meth c T0 X0 hC e0
  obtain ⟨hx, hB, hml, hown, hnm, hret, hlk, hZ⟩ := hC
  have N0 := Fr.nil n0
  have K0 := Keep.refl h0 []
  refine oG T0 m 1 #[rv o0, iv 0] [(.ref o0)] (fun t k => XS.aloadN X0.here hx rfl (hb hB d20_0) rfl rfl k) ?_
  obtain ⟨_, T1, L1, X1, ⟨rfl, e1, rfl⟩, st1⟩ := own_private X0 hx hZ (y := (⟨OwnK3, "checkForComodification", "()V"⟩ : MethodName)) hown (oW hw 167 rfl) (oW hw 168 rfl) (oW hw 169 rfl) (oW hw 125 rfl) (oW hw 126 rfl) (oW hw 171 rfl) (by decide) (sp21 l Z a0 hw [] o0 o1 h0 n0 Z0 F_mC_o0 F_root_o0 F_mC_o1) e0 E_o0 0 (argsL := []) (rest := []) (Ls := #[rv o0, iv 0]) (by rw [hml]; rfl) (lenOf qQ155 rfl) rfl rfl (Nat.le_of_eq rfl) (hb hB d20_1) (by decide) (by decide) (by decide) (by decide)
  replace X1 := own_nil X1
  refine oG T1 m 4 #[rv o0, iv 0] [] (st1) ?_
  refine oG T1 m 5 #[rv o0, iv 0] [(.ref o0)] (fun t k => XS.aloadN X1.here hx rfl (hb hB d20_4) rfl rfl k) ?_
  refine oG T1 m 6 #[rv o0, iv 0] [(.int 0), (.ref o0)] (fun t k => XS.iloadN X1.here hx rfl (hb hB d20_5) rfl k) ?_
  obtain ⟨_, T2, L2, X2, ⟨rfl, e2, rfl⟩, st2⟩ := own_private X1 hx hZ (y := (⟨OwnK3, "rangeCheckForAdd", "(I)V"⟩ : MethodName)) hown (oW hw 172 rfl) (oW hw 173 rfl) (oW hw 174 rfl) (oW hw 125 rfl) (oW hw 126 rfl) (oW hw 176 rfl) (by decide) (sp37 l Z a0 hw [] o0 h0 n0 Z0 F_size_o0) e1 E_o0 0 (argsL := [(.int 0)]) (rest := []) (Ls := #[rv o0, iv 0]) (by rw [hml]; rfl) (lenOf qQ64 rfl) rfl rfl (Nat.le_of_eq rfl) (hb hB d20_6) (by decide) (by decide) (by decide) (by decide)
  replace X2 := own_nil X2
  refine oG T2 m 9 #[rv o0, iv 0] [] (st2) ?_
  obtain ⟨T3, h3, X3, e3, E3, A3, D3, -, st3⟩ := newO X2 hx hZ hown (oW hw 177 rfl) (oW hw 178 rfl) (oW hw 179 rfl) e2 (g := (mkF m 9 #[rv o0, iv 0] [])) rfl (hb hB d20_9) (by decide) (by decide)
  obtain ⟨b3, g3⟩ : ∃ z, z = h0.size := ⟨_, rfl⟩
  rw [← g3] at A3 D3 st3
  have ne_o0_b3 : o0 ≠ b3 := Nat.ne_of_lt (Nat.lt_of_lt_of_eq E_o0.lt g3.symm)
  have ne_o1_b3 : o1 ≠ b3 := Nat.ne_of_lt (Nat.lt_of_lt_of_eq F_mC_o1.lt g3.symm)
  have g_b3 : n0 ≤ b3 := Nat.le_trans Z0 (Nat.le_of_eq g3.symm)
  have sz_b3 : h0.size ≤ b3 := Nat.le_trans K0.1 (Nat.le_of_eq g3.symm)
  have cf4 := E_o0.ext E3
  have cf5 := F_mC_o0.ext E3
  have cf6 := F_root_o0.ext E3
  have cf7 := F_size_o0.ext E3
  have cf8 := F_mC_o1.ext E3
  have Z_3 : n0 ≤ h3.size := Nat.le_trans Z0 E3.1
  have K_3 : Keep h0 h3 [] := K0.ext E3
  have F_this_0_3 : Fld Z h3 b3 OwnK2 "this$0" OwnK7 .null := D3 (Or.inr (oW hw 185 rfl)) (ty := (.object OwnK3)) (by decide)
  have F_val_index_3 : Fld Z h3 b3 OwnK2 "val$index" "I" (.int 0) := D3 (Or.inr (oW hw 187 rfl)) (ty := .int) (by decide)
  have F_cursor_3 : Fld Z h3 b3 OwnK2 "cursor" "I" (.int 0) := D3 (Or.inl (oW hw 190 rfl)) (ty := .int) (by decide)
  have F_lastRet_3 : Fld Z h3 b3 OwnK2 "lastRet" "I" (.int 0) := D3 (Or.inl (oW hw 192 rfl)) (ty := .int) (by decide)
  have F_xM_3 : Fld Z h3 b3 OwnK2 "expectedModCount" "I" (.int 0) := D3 (Or.inl (oW hw 195 rfl)) (ty := .int) (by decide)
  refine oG T3 m 12 #[rv o0, iv 0] [(.ref b3)] (st3) ?_
  refine oG T3 m 13 #[rv o0, iv 0] [(.ref b3), (.ref b3)] (fun t k => XS.dup X3.here hx rfl (hb hB d20_12) rfl rfl k) ?_
  refine oG T3 m 14 #[rv o0, iv 0] [(.ref o0), (.ref b3), (.ref b3)] (fun t k => XS.aloadN X3.here hx rfl (hb hB d20_13) rfl rfl k) ?_
  refine oG T3 m 15 #[rv o0, iv 0] [(.int 0), (.ref o0), (.ref b3), (.ref b3)] (fun t k => XS.iloadN X3.here hx rfl (hb hB d20_14) rfl k) ?_
  obtain ⟨_, T9, L9, X9, ⟨rfl, Nq9, Kq9, fq0_9, fq1_9, fq2_9, fq3_9, fq4_9⟩, st9⟩ := own_init X3 hx hZ (y := (⟨OwnK2, "<init>", "(Ljava/util/ArrayList$SubList;I)V"⟩ : MethodName)) rfl hown (oW hw 180 rfl) (oW hw 181 rfl) (oW hw 179 rfl) (oW hw 183 rfl) (by decide) (sp23 l Z a0 hw [] b3 o0 h3 n0 Z_3 A3 F_cursor_3 F_xM_3 F_lastRet_3 F_this_0_3 F_val_index_3 cf5 (Ne.symm ne_o0_b3) g_b3) e3 (a := b3) 1 (argsL := [(.ref o0), (.int 0)]) (rest := [(.ref b3)]) (Ls := #[rv o0, iv 0]) (by rw [hml]; rfl) (lenOf qQ26 rfl) rfl rfl (Nat.le_of_eq rfl) (hb hB d20_15) (by decide) (by decide) (by decide) (by decide)
  have N9 := Fr.app N0 Nq9
  have cf10 := cf4.keep Kq9
  have cf11 := cf5.keep Kq9 (ninS ne_o0_b3 nin0)
  have cf12 := cf6.keep Kq9 (ninS ne_o0_b3 nin0)
  have cf13 := cf7.keep Kq9 (ninS ne_o0_b3 nin0)
  have cf14 := cf8.keep Kq9 (ninS ne_o1_b3 nin0)
  have cf15 := A3.keep Kq9
  have Z_9 : n0 ≤ T9.heap.size := Nat.le_trans Z_3 Kq9.1
  have K_9 : Keep h0 T9.heap [] := K_3.trans Kq9 (allS (Or.inr sz_b3) all0)
  refine oG T9 m 18 #[rv o0, iv 0] [(.ref b3)] (st9) ?_
  refine own_retA X9 hx hlk hret rfl rfl rfl (hb hB d20_18) (by decide) (by decide) ?_
  exact ⟨b3, rfl, N9, K_9, ⟨sz_b3, g_b3⟩, cf15, fq0_9, fq1_9, fq2_9, fq3_9, fq4_9⟩
theorem qQ69 (m : MethodId) (q0 : Addr) : entryFrame m #[(.ref q0)] 1 = mkF m 0 #[rv q0] [] := by first | (simp [entryFrame, mkF, argsToLocals, Value.category]; done) | rfl
theorem sp35 (l : Launch) (Z : State) (a0 : Array Value) (hw : ∀ d ∈ tables_1, d.before a0 Z = true) (ws : List Jvm.Cond) (o0 o1 : Addr) (h0 : Heap) (n0 : Nat) (Z0 : n0 ≤ h0.size) (E_o0 : Exa Z h0 o0 OwnK3) (F_mC_o0 : Fld Z h0 o0 OwnK5 "modCount" "I" (.int 1)) (F_root_o0 : Fld Z h0 o0 OwnK3 "root" OwnK8 (.ref o1)) (F_size_o0 : Fld Z h0 o0 OwnK3 "size" "I" (.int 0)) (F_mC_o1 : Fld Z h0 o1 OwnK5 "modCount" "I" (.int 1)) :
    OwnC l Z (⟨OwnK5, "listIterator", "()Ljava/util/ListIterator;"⟩ : MethodName) jdk_39_method_12_code 1 (some (.object "java/util/ListIterator")) ws ({ frames := 3, cells := 1, slots := 5, locals := 40 } : Room) #[(.ref o0)] h0 (fun v h L => ∃ (w0 : Addr), v = some (.ref w0) ∧ Fr n0 L ∧ Keep h0 h [] ∧ (h0.size ≤ w0 ∧ n0 ≤ w0) ∧ Exa Z h w0 OwnK2 ∧ Fld Z h w0 OwnK2 "this$0" OwnK7 (.ref o0) ∧ Fld Z h w0 OwnK2 "val$index" "I" (.int 0) ∧ Fld Z h w0 OwnK2 "cursor" "I" (.int 0) ∧ Fld Z h w0 OwnK2 "lastRet" "I" (.int (-1)) ∧ Fld Z h w0 OwnK2 "expectedModCount" "I" (.int 1)) := by
  refine own_entry qQ8 (fun m => qQ69 m o0) ?_
  intro p e s m below meth c T0 X0 hC e0
  obtain ⟨hx, hB, hml, hown, hnm, hret, hlk, hZ⟩ := hC
  have N0 := Fr.nil n0
  have K0 := Keep.refl h0 []
  refine oG T0 m 1 #[rv o0] [(.ref o0)] (fun t k => XS.aloadN X0.here hx rfl (hb hB d19_0) rfl rfl k) ?_
  refine oG T0 m 2 #[rv o0] [(.int 0), (.ref o0)] (fun t k => XS.iconst X0.here hx rfl (hb hB d19_1) k) ?_
  obtain ⟨_, T1, L1, X1, ⟨w0_1, rfl, Nq1, Kq1, syw0_1, fq0_1, fq1_1, fq2_1, fq3_1, fq4_1, fq5_1⟩, st1⟩ := own_virtual X0 hx hZ (y := (⟨OwnK5, "listIterator", "(I)Ljava/util/ListIterator;"⟩ : MethodName)) (z := (⟨OwnK3, "listIterator", "(I)Ljava/util/ListIterator;"⟩ : MethodName)) hown (oW hw 161 rfl) (oW hw 162 rfl) (own_nf (args := #[]) (mvT hZ (oW hw 159 rfl)) rfl) (oW hw 164 rfl) (oW hw 165 rfl) (oW hw 126 rfl) (oW hw 166 rfl) (by decide) (sp36 l Z a0 hw [] o0 o1 h0 n0 Z0 E_o0 F_mC_o0 F_root_o0 F_size_o0 F_mC_o1) e0 E_o0 0 (argsL := [(.int 0)]) (rest := []) (Ls := #[rv o0]) (by rw [hml]; rfl) (lenOf qQ30 rfl) rfl rfl (Nat.le_of_eq rfl) (hb hB d19_2) (by decide) (by decide) (by decide) (by decide)
  have g_w0_1 : n0 ≤ w0_1 := syw0_1.2
  have sz_w0_1 : h0.size ≤ w0_1 := Nat.le_trans K0.1 syw0_1.1
  have ne_o0_w0_1 : o0 ≠ w0_1 := Nat.ne_of_lt (Nat.lt_of_lt_of_le E_o0.lt syw0_1.1)
  have ne_o1_w0_1 : o1 ≠ w0_1 := Nat.ne_of_lt (Nat.lt_of_lt_of_le F_mC_o1.lt syw0_1.1)
  have N1 := Fr.app N0 Nq1
  have cf2 := E_o0.keep Kq1
  have cf3 := F_mC_o0.keep Kq1 nin0
  have cf4 := F_root_o0.keep Kq1 nin0
  have cf5 := F_size_o0.keep Kq1 nin0
  have cf6 := F_mC_o1.keep Kq1 nin0
  have Z_1 : n0 ≤ T1.heap.size := Nat.le_trans Z0 Kq1.1
  have K_1 : Keep h0 T1.heap [] := K0.trans Kq1 all0
  refine oG T1 m 5 #[rv o0] [(.ref w0_1)] (st1) ?_
  refine own_retA X1 hx hlk hret rfl rfl rfl (hb hB d19_5) (by decide) (by decide) ?_
  exact ⟨w0_1, rfl, N1, K_1, ⟨sz_w0_1, g_w0_1⟩, fq0_1, fq1_1, fq2_1, fq3_1, fq4_1, fq5_1⟩
theorem qQ71 (m : MethodId) (q0 : Addr) : entryFrame m #[(.ref q0)] 1 = mkF m 0 #[rv q0] [] := by first | (simp [entryFrame, mkF, argsToLocals, Value.category]; done) | rfl
theorem sp34 (l : Launch) (Z : State) (a0 : Array Value) (hw : ∀ d ∈ tables_1, d.before a0 Z = true) (ws : List Jvm.Cond) (o0 o1 : Addr) (h0 : Heap) (n0 : Nat) (Z0 : n0 ≤ h0.size) (E_o0 : Exa Z h0 o0 OwnK3) (F_mC_o0 : Fld Z h0 o0 OwnK5 "modCount" "I" (.int 1)) (F_root_o0 : Fld Z h0 o0 OwnK3 "root" OwnK8 (.ref o1)) (F_size_o0 : Fld Z h0 o0 OwnK3 "size" "I" (.int 0)) (F_mC_o1 : Fld Z h0 o1 OwnK5 "modCount" "I" (.int 1)) :
    OwnC l Z (⟨OwnK3, "iterator", "()Ljava/util/Iterator;"⟩ : MethodName) jdk_130_method_23_code 1 (some (.object "java/util/Iterator")) ws ({ frames := 4, cells := 1, slots := 5, locals := 52 } : Room) #[(.ref o0)] h0 (fun v h L => ∃ (w0 : Addr), v = some (.ref w0) ∧ Fr n0 L ∧ Keep h0 h [] ∧ (h0.size ≤ w0 ∧ n0 ≤ w0) ∧ Exa Z h w0 OwnK2 ∧ Fld Z h w0 OwnK2 "this$0" OwnK7 (.ref o0) ∧ Fld Z h w0 OwnK2 "val$index" "I" (.int 0) ∧ Fld Z h w0 OwnK2 "cursor" "I" (.int 0) ∧ Fld Z h w0 OwnK2 "lastRet" "I" (.int (-1)) ∧ Fld Z h w0 OwnK2 "expectedModCount" "I" (.int 1)) := by
  refine own_entry qQ11 (fun m => qQ71 m o0) ?_
  intro p e s m below meth c T0 X0 hC e0
  obtain ⟨hx, hB, hml, hown, hnm, hret, hlk, hZ⟩ := hC
  have N0 := Fr.nil n0
  have K0 := Keep.refl h0 []
  refine oG T0 m 1 #[rv o0] [(.ref o0)] (fun t k => XS.aloadN X0.here hx rfl (hb hB d18_0) rfl rfl k) ?_
  obtain ⟨_, T1, L1, X1, ⟨w0_1, rfl, Nq1, Kq1, syw0_1, fq0_1, fq1_1, fq2_1, fq3_1, fq4_1, fq5_1⟩, st1⟩ := own_virtualUp X0 hx hZ (x := (⟨OwnK3, "listIterator", "()Ljava/util/ListIterator;"⟩ : MethodName)) (y := (⟨OwnK5, "listIterator", "()Ljava/util/ListIterator;"⟩ : MethodName)) hown (oW hw 155 rfl) (oW hw 156 rfl) (oW hw 157 rfl) (by decide) (oW hw 159 rfl) (oW hw 158 rfl) (oW hw 37 rfl) (oW hw 160 rfl) (sp35 l Z a0 hw [] o0 o1 h0 n0 Z0 E_o0 F_mC_o0 F_root_o0 F_size_o0 F_mC_o1) e0 E_o0 0 (argsL := []) (rest := []) (Ls := #[rv o0]) (by rw [hml]; rfl) (lenOf qQ31 rfl) rfl rfl (Nat.le_of_eq rfl) (hb hB d18_1) (by decide) (by decide) (by decide) (by decide)
  have g_w0_1 : n0 ≤ w0_1 := syw0_1.2
  have sz_w0_1 : h0.size ≤ w0_1 := Nat.le_trans K0.1 syw0_1.1
  have ne_o0_w0_1 : o0 ≠ w0_1 := Nat.ne_of_lt (Nat.lt_of_lt_of_le E_o0.lt syw0_1.1)
  have ne_o1_w0_1 : o1 ≠ w0_1 := Nat.ne_of_lt (Nat.lt_of_lt_of_le F_mC_o1.lt syw0_1.1)
  have N1 := Fr.app N0 Nq1
  have cf2 := E_o0.keep Kq1
  have cf3 := F_mC_o0.keep Kq1 nin0
  have cf4 := F_root_o0.keep Kq1 nin0
  have cf5 := F_size_o0.keep Kq1 nin0
  have cf6 := F_mC_o1.keep Kq1 nin0
  have Z_1 : n0 ≤ T1.heap.size := Nat.le_trans Z0 Kq1.1
  have K_1 : Keep h0 T1.heap [] := K0.trans Kq1 all0
  refine oG T1 m 4 #[rv o0] [(.ref w0_1)] (st1) ?_
  refine own_retA X1 hx hlk hret rfl rfl rfl (hb hB d18_4) (by decide) (by decide) ?_
  exact ⟨w0_1, rfl, N1, K_1, ⟨sz_w0_1, g_w0_1⟩, fq0_1, fq1_1, fq2_1, fq3_1, fq4_1, fq5_1⟩
theorem qQ100 (m : MethodId) (q0 : Addr) : entryFrame m #[(.ref q0)] 1 = mkF m 0 #[rv q0] [] := by first | (simp [entryFrame, mkF, argsToLocals, Value.category]; done) | rfl
theorem sp38 (l : Launch) (Z : State) (a0 : Array Value) (hw : ∀ d ∈ tables_1, d.before a0 Z = true) (ws : List Jvm.Cond) (o0 o1 : Addr) (h0 : Heap) (n0 : Nat) (Z0 : n0 ≤ h0.size) (F_cursor_o0 : Fld Z h0 o0 OwnK2 "cursor" "I" (.int 0)) (F_this_0_o0 : Fld Z h0 o0 OwnK2 "this$0" OwnK7 (.ref o1)) (F_size_o1 : Fld Z h0 o1 OwnK3 "size" "I" (.int 0)) :
    OwnC l Z (⟨OwnK2, "hasNext", "()Z"⟩ : MethodName) jdk_136_method_2_code 1 (some .boolean) ws ({ frames := 0, cells := 0, slots := 0, locals := 0 } : Room) #[(.ref o0)] h0 (fun v h L => v = some (.int 0) ∧ h = h0 ∧ L = []) := by
  refine own_entry qQ23 (fun m => qQ100 m o0) ?_
  intro p e s m below meth c T0 X0 hC e0
  obtain ⟨hx, hB, hml, hown, hnm, hret, hlk, hZ⟩ := hC
  have N0 := Fr.nil n0
  have K0 := Keep.refl h0 []
  refine oG T0 m 1 #[rv o0] [(.ref o0)] (fun t k => XS.aloadN X0.here hx rfl (hb hB d24_0) rfl rfl k) ?_
  obtain ⟨T1, X1, e1, st1⟩ := getF X0 hx hZ hown (host := "") (Or.inl (oW hw 189 rfl)) Via.refl e0 F_cursor_o0 (g := (mkF m 1 #[rv o0] [(.ref o0)])) rfl rfl (hb hB d24_1)
  refine oG T1 m 4 #[rv o0] [(.int 0)] (st1) ?_
  refine oG T1 m 5 #[rv o0] [(.ref o0), (.int 0)] (fun t k => XS.aloadN X1.here hx rfl (hb hB d24_4) rfl rfl k) ?_
  obtain ⟨T2, X2, e2, st2⟩ := getF X1 hx hZ hown (host := "") (Or.inl (oW hw 184 rfl)) Via.refl e1 F_this_0_o0 (g := (mkF m 5 #[rv o0] [(.ref o0), (.int 0)])) rfl rfl (hb hB d24_5)
  refine oG T2 m 8 #[rv o0] [(.ref o1), (.int 0)] (st2) ?_
  refine oG T2 m 11 #[rv o0] [(.int 0), (.int 0)] (own_getfRef X2 hx hZ hown (oW hw 205 rfl) e2 F_size_o1 (hb hB d24_8)) ?_
  refine oG T2 m 18 #[rv o0] [] (fun t k => XS.icmpYes X2.here hx rfl (pc0 := 11) (pc' := 18) rfl (hb hB d24_11) rfl (teq (by decide)).1 (by decide) (by decide) k) ?_
  refine oG T2 m 19 #[rv o0] [(.int 0)] (fun t k => XS.iconst X2.here hx rfl (hb hB d24_18) k) ?_
  refine own_retZ X2 hx hlk hret (by decide) (hb hB d24_19) (by decide) (by decide) ?_
  exact ⟨rfl, e2, rfl⟩
theorem qQ142 (m : MethodId) (q0 : Addr) (q1 : Addr) : entryFrame m #[(.ref q0), (.ref q1)] 4 = mkF m 0 #[rv q0, rv q1, .unset, .unset] [] := by first | (simp [entryFrame, mkF, argsToLocals, Value.category]; done) | rfl
theorem sp30 (l : Launch) (Z : State) (a0 : Array Value) (hw : ∀ d ∈ tables_1, d.before a0 Z = true) (ws : List Jvm.Cond) (o0 o1 o2 : Addr) (h0 : Heap) (n0 : Nat) (Z0 : n0 ≤ h0.size) (F_ahead_o0 : Fld Z h0 o0 OwnK1 "ahead" "I" (.int 1)) (F_changes_o0 : Fld Z h0 o0 OwnK1 "changes" "Ljava/util/List;" (.ref o2)) (E_o1 : Exa Z h0 o1 OwnK0) (E_o2 : Exa Z h0 o2 OwnK4) (F_mC_o2 : Fld Z h0 o2 OwnK5 "modCount" "I" (.int 1)) (F_size_o2 : Fld Z h0 o2 OwnK4 "size" "I" (.int 1)) (ne_o0_o1 : o0 ≠ o1) (ne_o0_o2 : o0 ≠ o2) :
    OwnC l Z (⟨OwnK1, "isOfBacklog", "(Lcom/example/newt/newt/core/delivery/Change;)Z"⟩ : MethodName) prog_11_method_4_code 4 (some .boolean) ws ({ frames := 5, cells := 2, slots := 10, locals := 66 } : Room) #[(.ref o0), (.ref o1)] h0 (fun v h L => v = some (.int 0) ∧ Fr n0 L ∧ Keep h0 h []) := by
  refine own_entry qQ2 (fun m => qQ142 m o0 o1) ?_
  intro p e s m below meth c T0 X0 hC e0
  obtain ⟨hx, hB, hml, hown, hnm, hret, hlk, hZ⟩ := hC
  have N0 := Fr.nil n0
  have K0 := Keep.refl h0 []
  refine oG T0 m 1 #[rv o0, rv o1, .unset, .unset] [(.ref o0)] (fun t k => XS.aloadN X0.here hx rfl (hb hB d13_0) rfl rfl k) ?_
  obtain ⟨T1, X1, e1, st1⟩ := getF X0 hx hZ hown (host := "") (Or.inl (oW hw 58 rfl)) Via.refl e0 F_changes_o0 (g := (mkF m 1 #[rv o0, rv o1, .unset, .unset] [(.ref o0)])) rfl rfl (hb hB d13_1)
  refine oG T1 m 4 #[rv o0, rv o1, .unset, .unset] [(.ref o2)] (st1) ?_
  refine oG T1 m 5 #[rv o0, rv o1, .unset, .unset] [(.ref o0), (.ref o2)] (fun t k => XS.aloadN X1.here hx rfl (hb hB d13_4) rfl rfl k) ?_
  obtain ⟨T2, X2, e2, st2⟩ := getF X1 hx hZ hown (host := "") (Or.inl (oW hw 60 rfl)) Via.refl e1 F_ahead_o0 (g := (mkF m 5 #[rv o0, rv o1, .unset, .unset] [(.ref o0), (.ref o2)])) rfl rfl (hb hB d13_5)
  refine oG T2 m 8 #[rv o0, rv o1, .unset, .unset] [(.int 1), (.ref o2)] (st2) ?_
  refine oG T2 m 9 #[rv o0, rv o1, .unset, .unset] [(.ref o0), (.int 1), (.ref o2)] (fun t k => XS.aloadN X2.here hx rfl (hb hB d13_8) rfl rfl k) ?_
  obtain ⟨T3, X3, e3, st3⟩ := getF X2 hx hZ hown (host := "") (Or.inl (oW hw 58 rfl)) Via.refl e2 F_changes_o0 (g := (mkF m 9 #[rv o0, rv o1, .unset, .unset] [(.ref o0), (.int 1), (.ref o2)])) rfl rfl (hb hB d13_9)
  refine oG T3 m 12 #[rv o0, rv o1, .unset, .unset] [(.ref o2), (.int 1), (.ref o2)] (st3) ?_
  obtain ⟨_, T4, L4, X4, ⟨rfl, e4, rfl⟩, st4⟩ := own_interface X3 hx hZ (xi := (⟨"java/util/List", "size", "()I"⟩ : MethodName)) (y := (⟨OwnK4, "size", "()I"⟩ : MethodName)) hown (oW hw 103 rfl) (oW hw 104 rfl) (mvT hZ (oW hw 105 rfl)) (oW hw 106 rfl) (oW hw 107 rfl) (oW hw 108 rfl) (oW hw 109 rfl) (oW hw 110 rfl) (oW hw 29 rfl) (oW hw 111 rfl) (by decide) (sp13 l Z a0 hw [] o2 h0 n0 Z0 F_size_o2) e3 E_o2 2 (argsL := []) (rest := [(.int 1), (.ref o2)]) (Ls := #[rv o0, rv o1, .unset, .unset]) (by rw [hml]; rfl) (lenOf qQ153 rfl) rfl rfl (Nat.le_of_eq rfl) (hb hB d13_12) (by decide) (by decide) (by decide) (by decide)
  replace X4 := own_nil X4
  refine oG T4 m 17 #[rv o0, rv o1, .unset, .unset] [(.int 1), (.int 1), (.ref o2)] (st4) ?_
  obtain ⟨_, T5, L5, X5, ⟨w0_5, rfl, Nq5, Kq5, syw0_5, fq0_5, fq1_5, fq2_5, fq3_5, fq4_5⟩, st5⟩ := own_interface X4 hx hZ (xi := (⟨"java/util/List", "subList", "(II)Ljava/util/List;"⟩ : MethodName)) (y := (⟨OwnK4, "subList", "(II)Ljava/util/List;"⟩ : MethodName)) hown (oW hw 112 rfl) (oW hw 113 rfl) (mvT hZ (oW hw 114 rfl)) (oW hw 115 rfl) (oW hw 116 rfl) (oW hw 117 rfl) (oW hw 118 rfl) (oW hw 110 rfl) (oW hw 29 rfl) (oW hw 119 rfl) (by decide) (sp31 l Z a0 hw [] o2 h0 n0 Z0 F_mC_o2 F_size_o2) e4 E_o2 0 (argsL := [(.int 1), (.int 1)]) (rest := []) (Ls := #[rv o0, rv o1, .unset, .unset]) (by rw [hml]; rfl) (lenOf qQ39 rfl) rfl rfl (Nat.le_of_eq rfl) (hb hB d13_17) (by decide) (by decide) (by decide) (by decide)
  have g_w0_5 : n0 ≤ w0_5 := syw0_5.2
  have sz_w0_5 : h0.size ≤ w0_5 := Nat.le_trans K0.1 syw0_5.1
  have ne_o0_w0_5 : o0 ≠ w0_5 := Nat.ne_of_lt (Nat.lt_of_lt_of_le F_ahead_o0.lt syw0_5.1)
  have ne_o1_w0_5 : o1 ≠ w0_5 := Nat.ne_of_lt (Nat.lt_of_lt_of_le E_o1.lt syw0_5.1)
  have ne_o2_w0_5 : o2 ≠ w0_5 := Nat.ne_of_lt (Nat.lt_of_lt_of_le E_o2.lt syw0_5.1)
  have N5 := Fr.app N0 Nq5
  have cf6 := F_ahead_o0.keep Kq5 nin0
  have cf7 := F_changes_o0.keep Kq5 nin0
  have cf8 := E_o1.keep Kq5
  have cf9 := E_o2.keep Kq5
  have cf10 := F_mC_o2.keep Kq5 nin0
  have cf11 := F_size_o2.keep Kq5 nin0
  have Z_5 : n0 ≤ T5.heap.size := Nat.le_trans Z0 Kq5.1
  have K_5 : Keep h0 T5.heap [] := K0.trans Kq5 all0
  refine oG T5 m 22 #[rv o0, rv o1, .unset, .unset] [(.ref w0_5)] (st5) ?_
  obtain ⟨_, T12, L12, X12, ⟨w0_12, rfl, Nq12, Kq12, syw0_12, fq0_12, fq1_12, fq2_12, fq3_12, fq4_12, fq5_12⟩, st12⟩ := own_interface X5 hx hZ (xi := (⟨"java/util/List", "iterator", "()Ljava/util/Iterator;"⟩ : MethodName)) (y := (⟨OwnK3, "iterator", "()Ljava/util/Iterator;"⟩ : MethodName)) hown (oW hw 146 rfl) (oW hw 147 rfl) (mvT hZ (oW hw 148 rfl)) (oW hw 149 rfl) (oW hw 150 rfl) (oW hw 151 rfl) (oW hw 152 rfl) (oW hw 153 rfl) (oW hw 126 rfl) (oW hw 154 rfl) (by decide) (sp34 l Z a0 hw [] w0_5 o2 T5.heap n0 Z_5 fq0_5 fq4_5 fq1_5 fq3_5 cf10) rfl fq0_5 0 (argsL := []) (rest := []) (Ls := #[rv o0, rv o1, .unset, .unset]) (by rw [hml]; rfl) (lenOf qQ35 rfl) rfl rfl (Nat.le_of_eq rfl) (hb hB d13_22) (by decide) (by decide) (by decide) (by decide)
  have g_w0_12 : n0 ≤ w0_12 := syw0_12.2
  have sz_w0_12 : h0.size ≤ w0_12 := Nat.le_trans K_5.1 syw0_12.1
  have ne_o0_w0_12 : o0 ≠ w0_12 := Nat.ne_of_lt (Nat.lt_of_lt_of_le cf6.lt syw0_12.1)
  have ne_o1_w0_12 : o1 ≠ w0_12 := Nat.ne_of_lt (Nat.lt_of_lt_of_le cf8.lt syw0_12.1)
  have ne_o2_w0_12 : o2 ≠ w0_12 := Nat.ne_of_lt (Nat.lt_of_lt_of_le cf9.lt syw0_12.1)
  have ne_w0_5_w0_12 : w0_5 ≠ w0_12 := Nat.ne_of_lt (Nat.lt_of_lt_of_le fq0_5.lt syw0_12.1)
  have N12 := Fr.app N5 Nq12
  have cf13 := cf6.keep Kq12 nin0
  have cf14 := cf7.keep Kq12 nin0
  have cf15 := cf8.keep Kq12
  have cf16 := cf9.keep Kq12
  have cf17 := cf10.keep Kq12 nin0
  have cf18 := cf11.keep Kq12 nin0
  have cf19 := fq0_5.keep Kq12
  have cf20 := fq1_5.keep Kq12 nin0
  have cf21 := fq2_5.keep Kq12 nin0
  have cf22 := fq3_5.keep Kq12 nin0
  have cf23 := fq4_5.keep Kq12 nin0
  have Z_12 : n0 ≤ T12.heap.size := Nat.le_trans Z_5 Kq12.1
  have K_12 : Keep h0 T12.heap [] := K_5.trans Kq12 all0
  refine oG T12 m 27 #[rv o0, rv o1, .unset, .unset] [(.ref w0_12)] (st12) ?_
  refine oG T12 m 28 #[rv o0, rv o1, rv w0_12, .unset] [] (fun t k => XS.astoreN X12.here hx rfl (hb hB d13_27) rfl rfl rfl k) ?_
  refine oG T12 m 29 #[rv o0, rv o1, rv w0_12, .unset] [(.ref w0_12)] (fun t k => XS.aloadN X12.here hx rfl (hb hB d13_28) rfl rfl k) ?_
  obtain ⟨_, T24, L24, X24, ⟨rfl, e24, rfl⟩, st24⟩ := own_interface X12 hx hZ (xi := (⟨"java/util/Iterator", "hasNext", "()Z"⟩ : MethodName)) (y := (⟨OwnK2, "hasNext", "()Z"⟩ : MethodName)) hown (oW hw 196 rfl) (oW hw 197 rfl) (mvT hZ (oW hw 198 rfl)) (oW hw 199 rfl) (oW hw 200 rfl) (oW hw 201 rfl) (oW hw 202 rfl) (oW hw 203 rfl) (oW hw 179 rfl) (oW hw 204 rfl) (by decide) (sp38 l Z a0 hw [] w0_12 w0_5 T12.heap n0 Z_12 fq3_12 fq1_12 cf22) rfl fq0_12 0 (argsL := []) (rest := []) (Ls := #[rv o0, rv o1, rv w0_12, .unset]) (by rw [hml]; rfl) (lenOf qQ158 rfl) rfl rfl (Nat.le_of_eq rfl) (hb hB d13_29) (by decide) (by decide) (by decide) (by decide)
  replace X24 := own_nil X24
  refine oG T24 m 34 #[rv o0, rv o1, rv w0_12, .unset] [(.int 0)] (st24) ?_
  refine oG T24 m 64 #[rv o0, rv o1, rv w0_12, .unset] [] (fun t k => XS.ifYes X24.here hx rfl (pc0 := 34) (pc' := 64) rfl (hb hB d13_34) rfl ((if0 _ _).trans (teq (by decide)).1) (by decide) (by decide) k) ?_
  refine oG T24 m 65 #[rv o0, rv o1, rv w0_12, .unset] [(.int 0)] (fun t k => XS.iconst X24.here hx rfl (hb hB d13_64) k) ?_
  refine own_retZ X24 hx hlk hret (by decide) (hb hB d13_65) (by decide) (by decide) ?_
  rw [e24]
  exact ⟨rfl, N12, K_12⟩
theorem qQ139 (m : MethodId) (q0 : Addr) (q1 : Addr) (q2 : Addr) (q3 : Int32) : entryFrame m #[(.ref q0), (.ref q1), (.ref q2), (.int q3)] 4 = mkF m 0 #[rv q0, rv q1, rv q2, iv q3] [] := by first | (simp [entryFrame, mkF, argsToLocals, Value.category]; done) | rfl
theorem sp40 (l : Launch) (Z : State) (a0 : Array Value) (hw : ∀ d ∈ tables_1, d.before a0 Z = true) (ws : List Jvm.Cond) (o0 o1 o2 o3 : Addr) (c0 : ClassId) (h0 : Heap) (n0 : Nat) (Z0 : n0 ≤ h0.size) (E_o0 : Exa Z h0 o0 OwnK4) (F_elementData_o0 : Fld Z h0 o0 OwnK4 "elementData" OwnK6 (.ref o2)) (F_mC_o0 : Fld Z h0 o0 OwnK5 "modCount" "I" (.int 2)) (F_size_o0 : Fld Z h0 o0 OwnK4 "size" "I" (.int 1)) (E_o1 : Exa Z h0 o1 OwnK0) (V_o2 : Arv Z h0 o2 c0 (.object "java/lang/Object") (10 : Int32) [(.ref o3), .null, .null, .null, .null, .null, .null, .null, .null, .null] .null) (O_o2 : Ovr Z c0 "java/lang/Object") (ne_o0_o1 : o0 ≠ o1) (ne_o0_o2 : o0 ≠ o2) (ne_o0_o3 : o0 ≠ o3) (ne_o1_o2 : o1 ≠ o2) (ne_o2_o3 : o2 ≠ o3) (g_o0 : n0 ≤ o0) (g_o2 : n0 ≤ o2) :
    OwnC l Z (⟨OwnK4, "add", "(Ljava/lang/Object;[Ljava/lang/Object;I)V"⟩ : MethodName) jdk_38_method_24_code 4 none ws ({ frames := 0, cells := 0, slots := 0, locals := 0 } : Room) #[(.ref o0), (.ref o1), (.ref o2), (.int 1)] h0 (fun v h L => v = none ∧ Fr n0 L ∧ Keep h0 h [o0, o2] ∧ Fld Z h o0 OwnK4 "elementData" OwnK6 (.ref o2) ∧ Fld Z h o0 OwnK5 "modCount" "I" (.int 2) ∧ Arv Z h o2 c0 (.object "java/lang/Object") (10 : Int32) [(.ref o3), (.ref o1), .null, .null, .null, .null, .null, .null, .null, .null] .null ∧ Fld Z h o0 OwnK4 "size" "I" (.int 2)) := by
  refine own_entry qQ7 (fun m => qQ139 m o0 o1 o2 (1 : Int32)) ?_
  intro p e s m below meth c T0 X0 hC e0
  obtain ⟨hx, hB, hml, hown, hnm, hret, hlk, hZ⟩ := hC
  have N0 := Fr.nil n0
  have K0 := Keep.refl h0 [o0, o2]
  refine oG T0 m 1 #[rv o0, rv o1, rv o2, iv 1] [(.int 1)] (fun t k => XS.iloadN X0.here hx rfl (hb hB d9_0) rfl k) ?_
  refine oG T0 m 2 #[rv o0, rv o1, rv o2, iv 1] [(.ref o2), (.int 1)] (fun t k => XS.aloadN X0.here hx rfl (hb hB d9_1) rfl rfl k) ?_
  refine oG T0 m 3 #[rv o0, rv o1, rv o2, iv 1] [(.int 10), (.int 1)] (own_alen X0 hx hZ e0 V_o2 (hb hB d9_2)) ?_
  refine oG T0 m 11 #[rv o0, rv o1, rv o2, iv 1] [] (fun t k => XS.icmpYes X0.here hx rfl (pc0 := 3) (pc' := 11) rfl (hb hB d9_3) rfl (feq (by decide)).2 (by decide) (by decide) k) ?_
  refine oG T0 m 12 #[rv o0, rv o1, rv o2, iv 1] [(.ref o2)] (fun t k => XS.aloadN X0.here hx rfl (hb hB d9_11) rfl rfl k) ?_
  refine oG T0 m 13 #[rv o0, rv o1, rv o2, iv 1] [(.int 1), (.ref o2)] (fun t k => XS.iloadN X0.here hx rfl (hb hB d9_12) rfl k) ?_
  refine oG T0 m 14 #[rv o0, rv o1, rv o2, iv 1] [(.ref o1), (.int 1), (.ref o2)] (fun t k => XS.aloadN X0.here hx rfl (hb hB d9_13) rfl rfl k) ?_
  obtain ⟨T2, h2, X2, e2, W2, V2, st2⟩ := own_aastore X0 hx hZ e0 V_o2 rfl O_o2 (Ins.of_exa E_o1 (oW hw 97 rfl)) (j := (1 : Int32)) ⟨by decide, by decide⟩ 1 rfl (Nat.le_of_ble_eq_true rfl) (Ls := #[rv o0, rv o1, rv o2, iv 1]) (rest := []) (hb hB d9_14)
  replace V2 : Arv Z h2 o2 c0 (.object "java/lang/Object") (10 : Int32) [(.ref o3), (.ref o1), .null, .null, .null, .null, .null, .null, .null, .null] .null := V2
  have cf3 := E_o0.wr W2
  have cf4 := F_elementData_o0.other W2 (Or.inl ne_o0_o2)
  have cf5 := F_mC_o0.other W2 (Or.inl ne_o0_o2)
  have cf6 := F_size_o0.other W2 (Or.inl ne_o0_o2)
  have cf7 := E_o1.wr W2
  have Z_2 : n0 ≤ h2.size := Nat.le_trans Z0 (Keep.of_wr W2).1
  have K_2 : Keep h0 h2 [o0, o2] := K0.wr W2 (oI 1 rfl)
  have N2 := Fr.snoc X2 N0 g_o2
  refine oG T2 m 15 #[rv o0, rv o1, rv o2, iv 1] [] (st2) ?_
  refine oG T2 m 16 #[rv o0, rv o1, rv o2, iv 1] [(.ref o0)] (fun t k => XS.aloadN X2.here hx rfl (hb hB d9_15) rfl rfl k) ?_
  refine oG T2 m 17 #[rv o0, rv o1, rv o2, iv 1] [(.int 1), (.ref o0)] (fun t k => XS.iloadN X2.here hx rfl (hb hB d9_16) rfl k) ?_
  refine oG T2 m 18 #[rv o0, rv o1, rv o2, iv 1] [(.int 1), (.int 1), (.ref o0)] (fun t k => XS.iconst X2.here hx rfl (hb hB d9_17) k) ?_
  refine oG T2 m 19 #[rv o0, rv o1, rv o2, iv 1] [(.int ((1 : Int32) + (1 : Int32))), (.ref o0)] (fun t k => XS.iadd X2.here hx rfl (hb hB d9_18) rfl k) ?_
  rw [show ((1 : Int32) + (1 : Int32)) = (2 : Int32) from by decide]
  obtain ⟨T8, h8, X8, e8, W8, st8⟩ := putF X2 hx hZ hown (host := "") (Or.inl (oW hw 74 rfl)) Via.refl e2 cf6 cf3 (Or.inl (oW hw 75 rfl)) (oW hw 28 rfl) (ty := .int) (by decide) rfl rfl (g := (mkF m 19 #[rv o0, rv o1, rv o2, iv 1] [(.int 2), (.ref o0)])) rfl rfl (hb hB d9_19)
  have F8 := cf6.same W8
  have cf9 := cf3.wr W8
  have cf10 := cf4.other W8 (Or.inr (slot_ne (Or.inl (oW hw 50 rfl)) (Or.inl (oW hw 75 rfl)) (by decide) (t := (.array (.object "java/lang/Object"))) (t' := .int) (by decide) (by decide)))
  have cf11 := cf5.other W8 (Or.inr (slot_ne (Or.inl (oW hw 47 rfl)) (Or.inl (oW hw 75 rfl)) (by decide) (t := .int) (t' := .int) (by decide) (by decide)))
  have cf12 := cf7.wr W8
  have cf13 := V2.other W8 (Ne.symm ne_o0_o2)
  have Z_8 : n0 ≤ h8.size := Nat.le_trans Z_2 (Keep.of_wr W8).1
  have K_8 : Keep h0 h8 [o0, o2] := K_2.wr W8 (oI 0 rfl)
  have N8 := Fr.snoc X8 N2 g_o0
  refine oG T8 m 22 #[rv o0, rv o1, rv o2, iv 1] [] (st8) ?_
  refine own_retV X8 hx hlk hret (hb hB d9_22) (by decide) (by decide) ?_
  rw [e8]
  exact ⟨rfl, N8, K_8, cf10, cf11, cf13, F8⟩
theorem qQ66 (m : MethodId) (q0 : Addr) (q1 : Addr) : entryFrame m #[(.ref q0), (.ref q1)] 2 = mkF m 0 #[rv q0, rv q1] [] := by first | (simp [entryFrame, mkF, argsToLocals, Value.category]; done) | rfl
theorem sp39 (l : Launch) (Z : State) (a0 : Array Value) (hw : ∀ d ∈ tables_1, d.before a0 Z = true) (ws : List Jvm.Cond) (o0 o1 o2 o3 : Addr) (c0 : ClassId) (h0 : Heap) (n0 : Nat) (Z0 : n0 ≤ h0.size) (E_o0 : Exa Z h0 o0 OwnK4) (F_elementData_o0 : Fld Z h0 o0 OwnK4 "elementData" OwnK6 (.ref o2)) (F_mC_o0 : Fld Z h0 o0 OwnK5 "modCount" "I" (.int 1)) (F_size_o0 : Fld Z h0 o0 OwnK4 "size" "I" (.int 1)) (E_o1 : Exa Z h0 o1 OwnK0) (V_o2 : Arv Z h0 o2 c0 (.object "java/lang/Object") (10 : Int32) [(.ref o3), .null, .null, .null, .null, .null, .null, .null, .null, .null] .null) (O_o2 : Ovr Z c0 "java/lang/Object") (E_o3 : Exa Z h0 o3 OwnK0) (ne_o0_o1 : o0 ≠ o1) (ne_o0_o2 : o0 ≠ o2) (ne_o0_o3 : o0 ≠ o3) (ne_o1_o2 : o1 ≠ o2) (ne_o2_o3 : o2 ≠ o3) (g_o0 : n0 ≤ o0) (g_o2 : n0 ≤ o2) :
    OwnC l Z (⟨OwnK4, "add", "(Ljava/lang/Object;)Z"⟩ : MethodName) jdk_38_method_25_code 2 (some .boolean) ws ({ frames := 1, cells := 0, slots := 0, locals := 15 } : Room) #[(.ref o0), (.ref o1)] h0 (fun v h L => v = some (.int 1) ∧ Fr n0 L ∧ Keep h0 h [o0, o2] ∧ Fld Z h o0 OwnK4 "elementData" OwnK6 (.ref o2) ∧ Fld Z h o0 OwnK5 "modCount" "I" (.int 2) ∧ Arv Z h o2 c0 (.object "java/lang/Object") (10 : Int32) [(.ref o3), (.ref o1), .null, .null, .null, .null, .null, .null, .null, .null] .null ∧ Fld Z h o0 OwnK4 "size" "I" (.int 2)) := by
  refine own_entry qQ22 (fun m => qQ66 m o0 o1) ?_
  intro p e s m below meth c T0 X0 hC e0
  obtain ⟨hx, hB, hml, hown, hnm, hret, hlk, hZ⟩ := hC
  have N0 := Fr.nil n0
  have K0 := Keep.refl h0 [o0, o2]
  refine oG T0 m 1 #[rv o0, rv o1] [(.ref o0)] (fun t k => XS.aloadN X0.here hx rfl (hb hB d8_0) rfl rfl k) ?_
  refine oG T0 m 2 #[rv o0, rv o1] [(.ref o0), (.ref o0)] (fun t k => XS.dup X0.here hx rfl (hb hB d8_1) rfl rfl k) ?_
  obtain ⟨T1, X1, e1, st1⟩ := getF X0 hx hZ hown (host := "") (Or.inl (oW hw 72 rfl)) (Via.of (oW hw 73 rfl)) e0 F_mC_o0 (g := (mkF m 2 #[rv o0, rv o1] [(.ref o0), (.ref o0)])) rfl rfl (hb hB d8_2)
  refine oG T1 m 5 #[rv o0, rv o1] [(.int 1), (.ref o0)] (st1) ?_
  refine oG T1 m 6 #[rv o0, rv o1] [(.int 1), (.int 1), (.ref o0)] (fun t k => XS.iconst X1.here hx rfl (hb hB d8_5) k) ?_
  refine oG T1 m 7 #[rv o0, rv o1] [(.int ((1 : Int32) + (1 : Int32))), (.ref o0)] (fun t k => XS.iadd X1.here hx rfl (hb hB d8_6) rfl k) ?_
  rw [show ((1 : Int32) + (1 : Int32)) = (2 : Int32) from by decide]
  obtain ⟨T2, h2, X2, e2, W2, st2⟩ := putF X1 hx hZ hown (host := "") (Or.inl (oW hw 72 rfl)) (Via.of (oW hw 73 rfl)) e1 F_mC_o0 E_o0 (Or.inl (oW hw 47 rfl)) (oW hw 28 rfl) (ty := .int) (by decide) rfl rfl (g := (mkF m 7 #[rv o0, rv o1] [(.int 2), (.ref o0)])) rfl rfl (hb hB d8_7)
  have F2 := F_mC_o0.same W2
  have cf3 := E_o0.wr W2
  have cf4 := F_elementData_o0.other W2 (Or.inr (slot_ne (Or.inl (oW hw 50 rfl)) (Or.inl (oW hw 47 rfl)) (by decide) (t := (.array (.object "java/lang/Object"))) (t' := .int) (by decide) (by decide)))
  have cf5 := F_size_o0.other W2 (Or.inr (slot_ne (Or.inl (oW hw 75 rfl)) (Or.inl (oW hw 47 rfl)) (by decide) (t := .int) (t' := .int) (by decide) (by decide)))
  have cf6 := E_o1.wr W2
  have cf7 := V_o2.other W2 (Ne.symm ne_o0_o2)
  have cf8 := E_o3.wr W2
  have Z_2 : n0 ≤ h2.size := Nat.le_trans Z0 (Keep.of_wr W2).1
  have K_2 : Keep h0 h2 [o0, o2] := K0.wr W2 (oI 0 rfl)
  have N2 := Fr.snoc X2 N0 g_o0
  refine oG T2 m 10 #[rv o0, rv o1] [] (st2) ?_
  refine oG T2 m 11 #[rv o0, rv o1] [(.ref o0)] (fun t k => XS.aloadN X2.here hx rfl (hb hB d8_10) rfl rfl k) ?_
  refine oG T2 m 12 #[rv o0, rv o1] [(.ref o1), (.ref o0)] (fun t k => XS.aloadN X2.here hx rfl (hb hB d8_11) rfl rfl k) ?_
  refine oG T2 m 13 #[rv o0, rv o1] [(.ref o0), (.ref o1), (.ref o0)] (fun t k => XS.aloadN X2.here hx rfl (hb hB d8_12) rfl rfl k) ?_
  obtain ⟨T9, X9, e9, st9⟩ := getF X2 hx hZ hown (host := "") (Or.inl (oW hw 49 rfl)) Via.refl e2 cf4 (g := (mkF m 13 #[rv o0, rv o1] [(.ref o0), (.ref o1), (.ref o0)])) rfl rfl (hb hB d8_13)
  refine oG T9 m 16 #[rv o0, rv o1] [(.ref o2), (.ref o1), (.ref o0)] (st9) ?_
  refine oG T9 m 17 #[rv o0, rv o1] [(.ref o0), (.ref o2), (.ref o1), (.ref o0)] (fun t k => XS.aloadN X9.here hx rfl (hb hB d8_16) rfl rfl k) ?_
  obtain ⟨T10, X10, e10, st10⟩ := getF X9 hx hZ hown (host := "") (Or.inl (oW hw 74 rfl)) Via.refl e9 cf5 (g := (mkF m 17 #[rv o0, rv o1] [(.ref o0), (.ref o2), (.ref o1), (.ref o0)])) rfl rfl (hb hB d8_17)
  refine oG T10 m 20 #[rv o0, rv o1] [(.int 1), (.ref o2), (.ref o1), (.ref o0)] (st10) ?_
  obtain ⟨_, T11, L11, X11, ⟨rfl, Nq11, Kq11, fq0_11, fq1_11, fq2_11, fq3_11⟩, st11⟩ := own_private X10 hx hZ (y := (⟨OwnK4, "add", "(Ljava/lang/Object;[Ljava/lang/Object;I)V"⟩ : MethodName)) hown (oW hw 76 rfl) (oW hw 77 rfl) (oW hw 78 rfl) (oW hw 28 rfl) (oW hw 29 rfl) (oW hw 80 rfl) (by decide) (sp40 l Z a0 hw [] o0 o1 o2 o3 c0 h2 n0 Z_2 cf3 cf4 F2 cf5 cf6 cf7 O_o2 ne_o0_o1 ne_o0_o2 ne_o0_o3 ne_o1_o2 ne_o2_o3 g_o0 g_o2) e10 cf3 0 (argsL := [(.ref o1), (.ref o2), (.int 1)]) (rest := []) (Ls := #[rv o0, rv o1]) (by rw [hml]; rfl) (lenOf qQ24 rfl) rfl rfl (Nat.le_of_eq rfl) (hb hB d8_20) (by decide) (by decide) (by decide) (by decide)
  have N11 := Fr.app N2 Nq11
  have cf12 := cf3.keep Kq11
  have cf13 := cf6.keep Kq11
  have cf14 := cf8.keep Kq11
  have Z_11 : n0 ≤ T11.heap.size := Nat.le_trans Z_2 Kq11.1
  have K_11 : Keep h0 T11.heap [o0, o2] := K_2.trans Kq11 (allS (oI 0 rfl) (allS (oI 1 rfl) all0))
  refine oG T11 m 23 #[rv o0, rv o1] [] (st11) ?_
  refine oG T11 m 24 #[rv o0, rv o1] [(.int 1)] (fun t k => XS.iconst X11.here hx rfl (hb hB d8_23) k) ?_
  refine own_retZ X11 hx hlk hret (by decide) (hb hB d8_24) (by decide) (by decide) ?_
  exact ⟨rfl, N11, K_11, fq0_11, fq1_11, fq2_11, fq3_11⟩
theorem qQ83 (m : MethodId) (q0 : Addr) : entryFrame m #[(.ref q0)] 1 = mkF m 0 #[rv q0] [] := by first | (simp [entryFrame, mkF, argsToLocals, Value.category]; done) | rfl
theorem sp42 (l : Launch) (Z : State) (a0 : Array Value) (hw : ∀ d ∈ tables_1, d.before a0 Z = true) (ws : List Jvm.Cond) (o0 : Addr) (h0 : Heap) (n0 : Nat) (Z0 : n0 ≤ h0.size) (F_size_o0 : Fld Z h0 o0 OwnK4 "size" "I" (.int 2)) :
    OwnC l Z (⟨OwnK4, "size", "()I"⟩ : MethodName) jdk_38_method_8_code 1 (some .int) ws ({ frames := 0, cells := 0, slots := 0, locals := 0 } : Room) #[(.ref o0)] h0 (fun v h L => v = some (.int 2) ∧ h = h0 ∧ L = []) := by
  refine own_entry qQ29 (fun m => qQ83 m o0) ?_
  intro p e s m below meth c T0 X0 hC e0
  obtain ⟨hx, hB, hml, hown, hnm, hret, hlk, hZ⟩ := hC
  have N0 := Fr.nil n0
  have K0 := Keep.refl h0 []
  refine oG T0 m 1 #[rv o0] [(.ref o0)] (fun t k => XS.aloadN X0.here hx rfl (hb hB d14_0) rfl rfl k) ?_
  obtain ⟨T1, X1, e1, st1⟩ := getF X0 hx hZ hown (host := "") (Or.inl (oW hw 74 rfl)) Via.refl e0 F_size_o0 (g := (mkF m 1 #[rv o0] [(.ref o0)])) rfl rfl (hb hB d14_1)
  refine oG T1 m 4 #[rv o0] [(.int 2)] (st1) ?_
  refine own_retI X1 hx hlk hret (hb hB d14_4) (by decide) (by decide) ?_
  exact ⟨rfl, e1, rfl⟩
theorem qQ107 (m : MethodId) (q0 : Int32) (q1 : Int32) (q2 : Int32) : entryFrame m #[(.int q0), (.int q1), (.int q2)] 3 = mkF m 0 #[iv q0, iv q1, iv q2] [] := by first | (simp [entryFrame, mkF, argsToLocals, Value.category]; done) | rfl
theorem sp44 (l : Launch) (Z : State) (a0 : Array Value) (hw : ∀ d ∈ tables_1, d.before a0 Z = true) (ws : List Jvm.Cond) (h0 : Heap) (n0 : Nat) (Z0 : n0 ≤ h0.size) :
    OwnC l Z (⟨OwnK5, "subListRangeCheck", "(III)V"⟩ : MethodName) jdk_39_method_15_code 3 none ws ({ frames := 0, cells := 0, slots := 0, locals := 0 } : Room) #[(.int 0), (.int 2), (.int 2)] h0 (fun v h L => v = none ∧ h = h0 ∧ L = []) := by
  refine own_entry qQ19 (fun m => qQ107 m (0 : Int32) (2 : Int32) (2 : Int32)) ?_
  intro p e s m below meth c T0 X0 hC e0
  obtain ⟨hx, hB, hml, hown, hnm, hret, hlk, hZ⟩ := hC
  have N0 := Fr.nil n0
  have K0 := Keep.refl h0 []
  refine oG T0 m 1 #[iv 0, iv 2, iv 2] [(.int 0)] (fun t k => XS.iloadN X0.here hx rfl (hb hB d16_0) rfl k) ?_
  refine oG T0 m 31 #[iv 0, iv 2, iv 2] [] (fun t k => XS.ifYes X0.here hx rfl (pc0 := 1) (pc' := 31) rfl (hb hB d16_1) rfl ((if0 _ _).trans (flt (by decide)).2.1) (by decide) (by decide) k) ?_
  refine oG T0 m 32 #[iv 0, iv 2, iv 2] [(.int 2)] (fun t k => XS.iloadN X0.here hx rfl (hb hB d16_31) rfl k) ?_
  refine oG T0 m 33 #[iv 0, iv 2, iv 2] [(.int 2), (.int 2)] (fun t k => XS.iloadN X0.here hx rfl (hb hB d16_32) rfl k) ?_
  refine oG T0 m 63 #[iv 0, iv 2, iv 2] [] (fun t k => XS.icmpYes X0.here hx rfl (pc0 := 33) (pc' := 63) rfl (hb hB d16_33) rfl (flt (by decide)).2.2.2 (by decide) (by decide) k) ?_
  refine oG T0 m 64 #[iv 0, iv 2, iv 2] [(.int 0)] (fun t k => XS.iloadN X0.here hx rfl (hb hB d16_63) rfl k) ?_
  refine oG T0 m 65 #[iv 0, iv 2, iv 2] [(.int 2), (.int 0)] (fun t k => XS.iloadN X0.here hx rfl (hb hB d16_64) rfl k) ?_
  refine oG T0 m 109 #[iv 0, iv 2, iv 2] [] (fun t k => XS.icmpYes X0.here hx rfl (pc0 := 65) (pc' := 109) rfl (hb hB d16_65) rfl (flt (by decide)).2.2.2 (by decide) (by decide) k) ?_
  refine own_retV X0 hx hlk hret (hb hB d16_109) (by decide) (by decide) ?_
  exact ⟨rfl, e0, rfl⟩
theorem qQ141 (m : MethodId) (q0 : Addr) (q1 : Addr) (q2 : Int32) (q3 : Int32) : entryFrame m #[(.ref q0), (.ref q1), (.int q2), (.int q3)] 4 = mkF m 0 #[rv q0, rv q1, iv q2, iv q3] [] := by first | (simp [entryFrame, mkF, argsToLocals, Value.category]; done) | rfl
theorem sp45 (l : Launch) (Z : State) (a0 : Array Value) (hw : ∀ d ∈ tables_1, d.before a0 Z = true) (ws : List Jvm.Cond) (o0 o1 : Addr) (h0 : Heap) (n0 : Nat) (Z0 : n0 ≤ h0.size) (E_o0 : Exa Z h0 o0 OwnK3) (F_mC_o0 : Fld Z h0 o0 OwnK5 "modCount" "I" (.int 0)) (F_offset_o0 : Fld Z h0 o0 OwnK3 "offset" "I" (.int 0)) (F_parent_o0 : Fld Z h0 o0 OwnK3 "parent" OwnK7 .null) (F_root_o0 : Fld Z h0 o0 OwnK3 "root" OwnK8 .null) (F_size_o0 : Fld Z h0 o0 OwnK3 "size" "I" (.int 0)) (F_mC_o1 : Fld Z h0 o1 OwnK5 "modCount" "I" (.int 2)) (ne_o0_o1 : o0 ≠ o1) (g_o0 : n0 ≤ o0) :
    OwnC l Z (⟨OwnK3, "<init>", "(Ljava/util/ArrayList;II)V"⟩ : MethodName) jdk_130_method_1_code 4 none ws ({ frames := 3, cells := 0, slots := 0, locals := 36 } : Room) #[(.ref o0), (.ref o1), (.int 0), (.int 2)] h0 (fun v h L => v = none ∧ Fr n0 L ∧ Keep h0 h [o0] ∧ Fld Z h o0 OwnK3 "root" OwnK8 (.ref o1) ∧ Fld Z h o0 OwnK3 "offset" "I" (.int 0) ∧ Fld Z h o0 OwnK3 "size" "I" (.int 2) ∧ Fld Z h o0 OwnK5 "modCount" "I" (.int 2)) := by
  refine own_entry qQ10 (fun m => qQ141 m o0 o1 (0 : Int32) (2 : Int32)) ?_
  intro p e s m below meth c T0 X0 hC e0
  obtain ⟨hx, hB, hml, hown, hnm, hret, hlk, hZ⟩ := hC
  have N0 := Fr.nil n0
  have K0 := Keep.refl h0 [o0]
  refine oG T0 m 1 #[rv o0, rv o1, iv 0, iv 2] [(.ref o0)] (fun t k => XS.aloadN X0.here hx rfl (hb hB d17_0) rfl rfl k) ?_
  obtain ⟨_, T1, L1, X1, ⟨rfl, Nq1, Kq1, fq0_1, fq1_1, fq2_1, fq3_1, fq4_1⟩, st1⟩ := own_init X0 hx hZ (y := (⟨OwnK5, "<init>", "()V"⟩ : MethodName)) rfl hown (oW hw 131 rfl) (oW hw 34 rfl) (oW hw 37 rfl) (oW hw 38 rfl) (by decide) (sp17 l Z a0 hw [] o0 h0 n0 Z0 E_o0 F_mC_o0 F_offset_o0 F_parent_o0 F_root_o0 F_size_o0 g_o0) e0 (a := o0) 0 (argsL := []) (rest := []) (Ls := #[rv o0, rv o1, iv 0, iv 2]) (by rw [hml]; rfl) (lenOf qQ155 rfl) rfl rfl (Nat.le_of_eq rfl) (hb hB d17_1) (by decide) (by decide) (by decide) (by decide)
  have N1 := Fr.app N0 Nq1
  have cf2 := E_o0.keep Kq1
  have cf3 := F_mC_o1.keep Kq1 (ninS (Ne.symm ne_o0_o1) nin0)
  have Z_1 : n0 ≤ T1.heap.size := Nat.le_trans Z0 Kq1.1
  have K_1 : Keep h0 T1.heap [o0] := K0.trans Kq1 (allS (oI 0 rfl) all0)
  refine oG T1 m 4 #[rv o0, rv o1, iv 0, iv 2] [] (st1) ?_
  refine oG T1 m 5 #[rv o0, rv o1, iv 0, iv 2] [(.ref o0)] (fun t k => XS.aloadN X1.here hx rfl (hb hB d17_4) rfl rfl k) ?_
  refine oG T1 m 6 #[rv o0, rv o1, iv 0, iv 2] [(.ref o1), (.ref o0)] (fun t k => XS.aloadN X1.here hx rfl (hb hB d17_5) rfl rfl k) ?_
  obtain ⟨T4, h4, X4, e4, W4, st4⟩ := putF X1 hx hZ hown (host := "") (Or.inl (oW hw 135 rfl)) Via.refl rfl fq2_1 cf2 (Or.inr ⟨(oW hw 136 rfl), rfl, hnm⟩) (oW hw 125 rfl) (ty := (.object OwnK4)) (by decide) rfl rfl (g := (mkF m 6 #[rv o0, rv o1, iv 0, iv 2] [(.ref o1), (.ref o0)])) rfl rfl (hb hB d17_6)
  have F4 := fq2_1.same W4
  have cf5 := cf2.wr W4
  have cf6 := cf3.other W4 (Or.inl (Ne.symm ne_o0_o1))
  have cf7 := fq0_1.other W4 (Or.inr (slot_ne (Or.inr (oW hw 140 rfl)) (Or.inr (oW hw 136 rfl)) (by decide) (t := .int) (t' := (.object OwnK4)) (by decide) (by decide)))
  have cf8 := fq1_1.other W4 (Or.inr (slot_ne (Or.inr (oW hw 138 rfl)) (Or.inr (oW hw 136 rfl)) (by decide) (t := (.object OwnK3)) (t' := (.object OwnK4)) (by decide) (by decide)))
  have cf9 := fq3_1.other W4 (Or.inr (slot_ne (Or.inl (oW hw 142 rfl)) (Or.inr (oW hw 136 rfl)) (by decide) (t := .int) (t' := (.object OwnK4)) (by decide) (by decide)))
  have cf10 := fq4_1.other W4 (Or.inr (slot_ne (Or.inl (oW hw 134 rfl)) (Or.inr (oW hw 136 rfl)) (by decide) (t := .int) (t' := (.object OwnK4)) (by decide) (by decide)))
  have Z_4 : n0 ≤ h4.size := Nat.le_trans Z_1 (Keep.of_wr W4).1
  have K_4 : Keep h0 h4 [o0] := K_1.wr W4 (oI 0 rfl)
  have N4 := Fr.snoc X4 N1 g_o0
  refine oG T4 m 9 #[rv o0, rv o1, iv 0, iv 2] [] (st4) ?_
  refine oG T4 m 10 #[rv o0, rv o1, iv 0, iv 2] [(.ref o0)] (fun t k => XS.aloadN X4.here hx rfl (hb hB d17_9) rfl rfl k) ?_
  refine oG T4 m 11 #[rv o0, rv o1, iv 0, iv 2] [.null, (.ref o0)] (fun t k => XS.aconstNull X4.here hx rfl (hb hB d17_10) k) ?_
  obtain ⟨T11, h11, X11, e11, W11, st11⟩ := putF X4 hx hZ hown (host := "") (Or.inl (oW hw 137 rfl)) Via.refl e4 cf8 cf5 (Or.inr ⟨(oW hw 138 rfl), rfl, hnm⟩) (oW hw 125 rfl) (ty := (.object OwnK3)) (by decide) rfl rfl (g := (mkF m 11 #[rv o0, rv o1, iv 0, iv 2] [.null, (.ref o0)])) rfl rfl (hb hB d17_11)
  have F11 := cf8.same W11
  have cf12 := cf5.wr W11
  have cf13 := cf6.other W11 (Or.inl (Ne.symm ne_o0_o1))
  have cf14 := cf7.other W11 (Or.inr (slot_ne (Or.inr (oW hw 140 rfl)) (Or.inr (oW hw 138 rfl)) (by decide) (t := .int) (t' := (.object OwnK3)) (by decide) (by decide)))
  have cf15 := cf9.other W11 (Or.inr (slot_ne (Or.inl (oW hw 142 rfl)) (Or.inr (oW hw 138 rfl)) (by decide) (t := .int) (t' := (.object OwnK3)) (by decide) (by decide)))
  have cf16 := cf10.other W11 (Or.inr (slot_ne (Or.inl (oW hw 134 rfl)) (Or.inr (oW hw 138 rfl)) (by decide) (t := .int) (t' := (.object OwnK3)) (by decide) (by decide)))
  have cf17 := F4.other W11 (Or.inr (slot_ne (Or.inr (oW hw 136 rfl)) (Or.inr (oW hw 138 rfl)) (by decide) (t := (.object OwnK4)) (t' := (.object OwnK3)) (by decide) (by decide)))
  have Z_11 : n0 ≤ h11.size := Nat.le_trans Z_4 (Keep.of_wr W11).1
  have K_11 : Keep h0 h11 [o0] := K_4.wr W11 (oI 0 rfl)
  have N11 := Fr.snoc X11 N4 g_o0
  refine oG T11 m 14 #[rv o0, rv o1, iv 0, iv 2] [] (st11) ?_
  refine oG T11 m 15 #[rv o0, rv o1, iv 0, iv 2] [(.ref o0)] (fun t k => XS.aloadN X11.here hx rfl (hb hB d17_14) rfl rfl k) ?_
  refine oG T11 m 16 #[rv o0, rv o1, iv 0, iv 2] [(.int 0), (.ref o0)] (fun t k => XS.iloadN X11.here hx rfl (hb hB d17_15) rfl k) ?_
  obtain ⟨T18, h18, X18, e18, W18, st18⟩ := putF X11 hx hZ hown (host := "") (Or.inl (oW hw 139 rfl)) Via.refl e11 cf14 cf12 (Or.inr ⟨(oW hw 140 rfl), rfl, hnm⟩) (oW hw 125 rfl) (ty := .int) (by decide) rfl rfl (g := (mkF m 16 #[rv o0, rv o1, iv 0, iv 2] [(.int 0), (.ref o0)])) rfl rfl (hb hB d17_16)
  have F18 := cf14.same W18
  have cf19 := cf12.wr W18
  have cf20 := cf13.other W18 (Or.inl (Ne.symm ne_o0_o1))
  have cf21 := cf15.other W18 (Or.inr (slot_ne (Or.inl (oW hw 142 rfl)) (Or.inr (oW hw 140 rfl)) (by decide) (t := .int) (t' := .int) (by decide) (by decide)))
  have cf22 := cf16.other W18 (Or.inr (slot_ne (Or.inl (oW hw 134 rfl)) (Or.inr (oW hw 140 rfl)) (by decide) (t := .int) (t' := .int) (by decide) (by decide)))
  have cf23 := cf17.other W18 (Or.inr (slot_ne (Or.inr (oW hw 136 rfl)) (Or.inr (oW hw 140 rfl)) (by decide) (t := (.object OwnK4)) (t' := .int) (by decide) (by decide)))
  have cf24 := F11.other W18 (Or.inr (slot_ne (Or.inr (oW hw 138 rfl)) (Or.inr (oW hw 140 rfl)) (by decide) (t := (.object OwnK3)) (t' := .int) (by decide) (by decide)))
  have Z_18 : n0 ≤ h18.size := Nat.le_trans Z_11 (Keep.of_wr W18).1
  have K_18 : Keep h0 h18 [o0] := K_11.wr W18 (oI 0 rfl)
  have N18 := Fr.snoc X18 N11 g_o0
  refine oG T18 m 19 #[rv o0, rv o1, iv 0, iv 2] [] (st18) ?_
  refine oG T18 m 20 #[rv o0, rv o1, iv 0, iv 2] [(.ref o0)] (fun t k => XS.aloadN X18.here hx rfl (hb hB d17_19) rfl rfl k) ?_
  refine oG T18 m 21 #[rv o0, rv o1, iv 0, iv 2] [(.int 2), (.ref o0)] (fun t k => XS.iloadN X18.here hx rfl (hb hB d17_20) rfl k) ?_
  refine oG T18 m 22 #[rv o0, rv o1, iv 0, iv 2] [(.int 0), (.int 2), (.ref o0)] (fun t k => XS.iloadN X18.here hx rfl (hb hB d17_21) rfl k) ?_
  refine oG T18 m 23 #[rv o0, rv o1, iv 0, iv 2] [(.int ((2 : Int32) - (0 : Int32))), (.ref o0)] (fun t k => XS.isub X18.here hx rfl (hb hB d17_22) rfl k) ?_
  rw [show ((2 : Int32) - (0 : Int32)) = (2 : Int32) from by decide]
  obtain ⟨T25, h25, X25, e25, W25, st25⟩ := putF X18 hx hZ hown (host := "") (Or.inl (oW hw 141 rfl)) Via.refl e18 cf21 cf19 (Or.inl (oW hw 142 rfl)) (oW hw 125 rfl) (ty := .int) (by decide) rfl rfl (g := (mkF m 23 #[rv o0, rv o1, iv 0, iv 2] [(.int 2), (.ref o0)])) rfl rfl (hb hB d17_23)
  have F25 := cf21.same W25
  have cf26 := cf19.wr W25
  have cf27 := cf20.other W25 (Or.inl (Ne.symm ne_o0_o1))
  have cf28 := cf22.other W25 (Or.inr (slot_ne (Or.inl (oW hw 134 rfl)) (Or.inl (oW hw 142 rfl)) (by decide) (t := .int) (t' := .int) (by decide) (by decide)))
  have cf29 := cf23.other W25 (Or.inr (slot_ne (Or.inr (oW hw 136 rfl)) (Or.inl (oW hw 142 rfl)) (by decide) (t := (.object OwnK4)) (t' := .int) (by decide) (by decide)))
  have cf30 := cf24.other W25 (Or.inr (slot_ne (Or.inr (oW hw 138 rfl)) (Or.inl (oW hw 142 rfl)) (by decide) (t := (.object OwnK3)) (t' := .int) (by decide) (by decide)))
  have cf31 := F18.other W25 (Or.inr (slot_ne (Or.inr (oW hw 140 rfl)) (Or.inl (oW hw 142 rfl)) (by decide) (t := .int) (t' := .int) (by decide) (by decide)))
  have Z_25 : n0 ≤ h25.size := Nat.le_trans Z_18 (Keep.of_wr W25).1
  have K_25 : Keep h0 h25 [o0] := K_18.wr W25 (oI 0 rfl)
  have N25 := Fr.snoc X25 N18 g_o0
  refine oG T25 m 26 #[rv o0, rv o1, iv 0, iv 2] [] (st25) ?_
  refine oG T25 m 27 #[rv o0, rv o1, iv 0, iv 2] [(.ref o0)] (fun t k => XS.aloadN X25.here hx rfl (hb hB d17_26) rfl rfl k) ?_
  refine oG T25 m 28 #[rv o0, rv o1, iv 0, iv 2] [(.ref o1), (.ref o0)] (fun t k => XS.aloadN X25.here hx rfl (hb hB d17_27) rfl rfl k) ?_
  obtain ⟨T32, X32, e32, st32⟩ := getF X25 hx hZ hown (host := "") (Or.inl (oW hw 143 rfl)) (Via.of (oW hw 73 rfl)) e25 cf27 (g := (mkF m 28 #[rv o0, rv o1, iv 0, iv 2] [(.ref o1), (.ref o0)])) rfl rfl (hb hB d17_28)
  refine oG T32 m 31 #[rv o0, rv o1, iv 0, iv 2] [(.int 2), (.ref o0)] (st32) ?_
  obtain ⟨T33, h33, X33, e33, W33, st33⟩ := putF X32 hx hZ hown (host := "") (Or.inl (oW hw 144 rfl)) (Via.of (oW hw 145 rfl)) e32 cf28 cf26 (Or.inl (oW hw 134 rfl)) (oW hw 125 rfl) (ty := .int) (by decide) rfl rfl (g := (mkF m 31 #[rv o0, rv o1, iv 0, iv 2] [(.int 2), (.ref o0)])) rfl rfl (hb hB d17_31)
  have F33 := cf28.same W33
  have cf34 := cf26.wr W33
  have cf35 := cf27.other W33 (Or.inl (Ne.symm ne_o0_o1))
  have cf36 := cf29.other W33 (Or.inr (slot_ne (Or.inr (oW hw 136 rfl)) (Or.inl (oW hw 134 rfl)) (by decide) (t := (.object OwnK4)) (t' := .int) (by decide) (by decide)))
  have cf37 := cf30.other W33 (Or.inr (slot_ne (Or.inr (oW hw 138 rfl)) (Or.inl (oW hw 134 rfl)) (by decide) (t := (.object OwnK3)) (t' := .int) (by decide) (by decide)))
  have cf38 := cf31.other W33 (Or.inr (slot_ne (Or.inr (oW hw 140 rfl)) (Or.inl (oW hw 134 rfl)) (by decide) (t := .int) (t' := .int) (by decide) (by decide)))
  have cf39 := F25.other W33 (Or.inr (slot_ne (Or.inl (oW hw 142 rfl)) (Or.inl (oW hw 134 rfl)) (by decide) (t := .int) (t' := .int) (by decide) (by decide)))
  have Z_33 : n0 ≤ h33.size := Nat.le_trans Z_25 (Keep.of_wr W33).1
  have K_33 : Keep h0 h33 [o0] := K_25.wr W33 (oI 0 rfl)
  have N33 := Fr.snoc X33 N25 g_o0
  refine oG T33 m 34 #[rv o0, rv o1, iv 0, iv 2] [] (st33) ?_
  refine own_retV X33 hx hlk hret (hb hB d17_34) (by decide) (by decide) ?_
  rw [e33]
  exact ⟨rfl, N33, K_33, cf36, cf38, cf39, F33⟩
theorem qQ96 (m : MethodId) (q0 : Addr) (q1 : Int32) (q2 : Int32) : entryFrame m #[(.ref q0), (.int q1), (.int q2)] 3 = mkF m 0 #[rv q0, iv q1, iv q2] [] := by first | (simp [entryFrame, mkF, argsToLocals, Value.category]; done) | rfl
theorem sp43 (l : Launch) (Z : State) (a0 : Array Value) (hw : ∀ d ∈ tables_1, d.before a0 Z = true) (ws : List Jvm.Cond) (o0 : Addr) (h0 : Heap) (n0 : Nat) (Z0 : n0 ≤ h0.size) (F_mC_o0 : Fld Z h0 o0 OwnK5 "modCount" "I" (.int 2)) (F_size_o0 : Fld Z h0 o0 OwnK4 "size" "I" (.int 2)) :
    OwnC l Z (⟨OwnK4, "subList", "(II)Ljava/util/List;"⟩ : MethodName) jdk_38_method_56_code 3 (some (.object "java/util/List")) ws ({ frames := 4, cells := 1, slots := 5, locals := 52 } : Room) #[(.ref o0), (.int 0), (.int 2)] h0 (fun v h L => ∃ (w0 : Addr), v = some (.ref w0) ∧ Fr n0 L ∧ Keep h0 h [] ∧ (h0.size ≤ w0 ∧ n0 ≤ w0) ∧ Exa Z h w0 OwnK3 ∧ Fld Z h w0 OwnK3 "root" OwnK8 (.ref o0) ∧ Fld Z h w0 OwnK3 "offset" "I" (.int 0) ∧ Fld Z h w0 OwnK3 "size" "I" (.int 2) ∧ Fld Z h w0 OwnK5 "modCount" "I" (.int 2)) := by
  refine own_entry qQ17 (fun m => qQ96 m o0 (0 : Int32) (2 : Int32)) ?_
  intro p e s m below meth c T0 X0 hC e0
  obtain ⟨hx, hB, hml, hown, hnm, hret, hlk, hZ⟩ := hC
  have N0 := Fr.nil n0
  have K0 := Keep.refl h0 []
  refine oG T0 m 1 #[rv o0, iv 0, iv 2] [(.int 0)] (fun t k => XS.iloadN X0.here hx rfl (hb hB d15_0) rfl k) ?_
  refine oG T0 m 2 #[rv o0, iv 0, iv 2] [(.int 2), (.int 0)] (fun t k => XS.iloadN X0.here hx rfl (hb hB d15_1) rfl k) ?_
  refine oG T0 m 3 #[rv o0, iv 0, iv 2] [(.ref o0), (.int 2), (.int 0)] (fun t k => XS.aloadN X0.here hx rfl (hb hB d15_2) rfl rfl k) ?_
  obtain ⟨T1, X1, e1, st1⟩ := getF X0 hx hZ hown (host := "") (Or.inl (oW hw 74 rfl)) Via.refl e0 F_size_o0 (g := (mkF m 3 #[rv o0, iv 0, iv 2] [(.ref o0), (.int 2), (.int 0)])) rfl rfl (hb hB d15_3)
  refine oG T1 m 6 #[rv o0, iv 0, iv 2] [(.int 2), (.int 2), (.int 0)] (st1) ?_
  obtain ⟨_, T2, L2, X2, ⟨rfl, e2, rfl⟩, st2⟩ := own_staticUp X1 hx hZ (x := (⟨OwnK4, "subListRangeCheck", "(III)V"⟩ : MethodName)) hown (oW hw 120 rfl) (oW hw 121 rfl) (by decide) (oW hw 122 rfl) (oW hw 37 rfl) (oW hw 123 rfl) (sp44 l Z a0 hw []  h0 n0 Z0 ) e1 0 (argsL := [(.int 0), (.int 2), (.int 2)]) (rest := []) (Ls := #[rv o0, iv 0, iv 2]) (by rw [hml]; rfl) (lenOf qQ41 rfl) rfl rfl (Nat.le_of_eq rfl) (hb hB d15_6) (by decide) (by decide) (by decide) (by decide)
  replace X2 := own_nil X2
  refine oG T2 m 9 #[rv o0, iv 0, iv 2] [] (st2) ?_
  obtain ⟨T3, h3, X3, e3, E3, A3, D3, -, st3⟩ := newO X2 hx hZ hown (oW hw 124 rfl) (oW hw 125 rfl) (oW hw 126 rfl) e2 (g := (mkF m 9 #[rv o0, iv 0, iv 2] [])) rfl (hb hB d15_9) (by decide) (by decide)
  obtain ⟨b3, g3⟩ : ∃ z, z = h0.size := ⟨_, rfl⟩
  rw [← g3] at A3 D3 st3
  have ne_o0_b3 : o0 ≠ b3 := Nat.ne_of_lt (Nat.lt_of_lt_of_eq F_mC_o0.lt g3.symm)
  have g_b3 : n0 ≤ b3 := Nat.le_trans Z0 (Nat.le_of_eq g3.symm)
  have sz_b3 : h0.size ≤ b3 := Nat.le_trans K0.1 (Nat.le_of_eq g3.symm)
  have cf4 := F_mC_o0.ext E3
  have cf5 := F_size_o0.ext E3
  have Z_3 : n0 ≤ h3.size := Nat.le_trans Z0 E3.1
  have K_3 : Keep h0 h3 [] := K0.ext E3
  have F_mC_3 : Fld Z h3 b3 OwnK5 "modCount" "I" (.int 0) := D3 (Or.inl (oW hw 134 rfl)) (ty := .int) (by decide)
  have F_root_3 : Fld Z h3 b3 OwnK3 "root" OwnK8 .null := D3 (Or.inr (oW hw 136 rfl)) (ty := (.object OwnK4)) (by decide)
  have F_parent_3 : Fld Z h3 b3 OwnK3 "parent" OwnK7 .null := D3 (Or.inr (oW hw 138 rfl)) (ty := (.object OwnK3)) (by decide)
  have F_offset_3 : Fld Z h3 b3 OwnK3 "offset" "I" (.int 0) := D3 (Or.inr (oW hw 140 rfl)) (ty := .int) (by decide)
  have F_size_3 : Fld Z h3 b3 OwnK3 "size" "I" (.int 0) := D3 (Or.inl (oW hw 142 rfl)) (ty := .int) (by decide)
  refine oG T3 m 12 #[rv o0, iv 0, iv 2] [(.ref b3)] (st3) ?_
  refine oG T3 m 13 #[rv o0, iv 0, iv 2] [(.ref b3), (.ref b3)] (fun t k => XS.dup X3.here hx rfl (hb hB d15_12) rfl rfl k) ?_
  refine oG T3 m 14 #[rv o0, iv 0, iv 2] [(.ref o0), (.ref b3), (.ref b3)] (fun t k => XS.aloadN X3.here hx rfl (hb hB d15_13) rfl rfl k) ?_
  refine oG T3 m 15 #[rv o0, iv 0, iv 2] [(.int 0), (.ref o0), (.ref b3), (.ref b3)] (fun t k => XS.iloadN X3.here hx rfl (hb hB d15_14) rfl k) ?_
  refine oG T3 m 16 #[rv o0, iv 0, iv 2] [(.int 2), (.int 0), (.ref o0), (.ref b3), (.ref b3)] (fun t k => XS.iloadN X3.here hx rfl (hb hB d15_15) rfl k) ?_
  obtain ⟨_, T6, L6, X6, ⟨rfl, Nq6, Kq6, fq0_6, fq1_6, fq2_6, fq3_6⟩, st6⟩ := own_init X3 hx hZ (y := (⟨OwnK3, "<init>", "(Ljava/util/ArrayList;II)V"⟩ : MethodName)) rfl hown (oW hw 127 rfl) (oW hw 128 rfl) (oW hw 126 rfl) (oW hw 130 rfl) (by decide) (sp45 l Z a0 hw [] b3 o0 h3 n0 Z_3 A3 F_mC_3 F_offset_3 F_parent_3 F_root_3 F_size_3 cf4 (Ne.symm ne_o0_b3) g_b3) e3 (a := b3) 1 (argsL := [(.ref o0), (.int 0), (.int 2)]) (rest := [(.ref b3)]) (Ls := #[rv o0, iv 0, iv 2]) (by rw [hml]; rfl) (lenOf qQ32 rfl) rfl rfl (Nat.le_of_eq rfl) (hb hB d15_16) (by decide) (by decide) (by decide) (by decide)
  have N6 := Fr.app N0 Nq6
  have cf7 := cf4.keep Kq6 (ninS ne_o0_b3 nin0)
  have cf8 := cf5.keep Kq6 (ninS ne_o0_b3 nin0)
  have cf9 := A3.keep Kq6
  have Z_6 : n0 ≤ T6.heap.size := Nat.le_trans Z_3 Kq6.1
  have K_6 : Keep h0 T6.heap [] := K_3.trans Kq6 (allS (Or.inr sz_b3) all0)
  refine oG T6 m 19 #[rv o0, iv 0, iv 2] [(.ref b3)] (st6) ?_
  refine own_retA X6 hx hlk hret rfl rfl rfl (hb hB d15_19) (by decide) (by decide) ?_
  exact ⟨b3, rfl, N6, K_6, ⟨sz_b3, g_b3⟩, cf9, fq0_6, fq1_6, fq2_6, fq3_6⟩
theorem qQ137 (m : MethodId) (q0 : Addr) : entryFrame m #[(.ref q0)] 1 = mkF m 0 #[rv q0] [] := by first | (simp [entryFrame, mkF, argsToLocals, Value.category]; done) | rfl
theorem sp49 (l : Launch) (Z : State) (a0 : Array Value) (hw : ∀ d ∈ tables_1, d.before a0 Z = true) (ws : List Jvm.Cond) (o0 o1 : Addr) (h0 : Heap) (n0 : Nat) (Z0 : n0 ≤ h0.size) (F_mC_o0 : Fld Z h0 o0 OwnK5 "modCount" "I" (.int 2)) (F_root_o0 : Fld Z h0 o0 OwnK3 "root" OwnK8 (.ref o1)) (F_mC_o1 : Fld Z h0 o1 OwnK5 "modCount" "I" (.int 2)) :
    OwnC l Z (⟨OwnK3, "checkForComodification", "()V"⟩ : MethodName) jdk_130_method_28_code 1 none ws ({ frames := 0, cells := 0, slots := 0, locals := 0 } : Room) #[(.ref o0)] h0 (fun v h L => v = none ∧ h = h0 ∧ L = []) := by
  refine own_entry qQ14 (fun m => qQ137 m o0) ?_
  intro p e s m below meth c T0 X0 hC e0
  obtain ⟨hx, hB, hml, hown, hnm, hret, hlk, hZ⟩ := hC
  have N0 := Fr.nil n0
  have K0 := Keep.refl h0 []
  refine oG T0 m 1 #[rv o0] [(.ref o0)] (fun t k => XS.aloadN X0.here hx rfl (hb hB d21_0) rfl rfl k) ?_
  obtain ⟨T1, X1, e1, st1⟩ := getF X0 hx hZ hown (host := "") (Or.inl (oW hw 135 rfl)) Via.refl e0 F_root_o0 (g := (mkF m 1 #[rv o0] [(.ref o0)])) rfl rfl (hb hB d21_1)
  refine oG T1 m 4 #[rv o0] [(.ref o1)] (st1) ?_
  obtain ⟨T2, X2, e2, st2⟩ := getF X1 hx hZ hown (host := "") (Or.inl (oW hw 143 rfl)) (Via.of (oW hw 73 rfl)) e1 F_mC_o1 (g := (mkF m 4 #[rv o0] [(.ref o1)])) rfl rfl (hb hB d21_4)
  refine oG T2 m 7 #[rv o0] [(.int 2)] (st2) ?_
  refine oG T2 m 8 #[rv o0] [(.ref o0), (.int 2)] (fun t k => XS.aloadN X2.here hx rfl (hb hB d21_7) rfl rfl k) ?_
  obtain ⟨T3, X3, e3, st3⟩ := getF X2 hx hZ hown (host := "") (Or.inl (oW hw 144 rfl)) (Via.of (oW hw 145 rfl)) e2 F_mC_o0 (g := (mkF m 8 #[rv o0] [(.ref o0), (.int 2)])) rfl rfl (hb hB d21_8)
  refine oG T3 m 11 #[rv o0] [(.int 2), (.int 2)] (st3) ?_
  refine oG T3 m 22 #[rv o0] [] (fun t k => XS.icmpYes X3.here hx rfl (pc0 := 11) (pc' := 22) rfl (hb hB d21_11) rfl (teq (by decide)).1 (by decide) (by decide) k) ?_
  refine own_retV X3 hx hlk hret (hb hB d21_22) (by decide) (by decide) ?_
  exact ⟨rfl, e3, rfl⟩
theorem qQ138 (m : MethodId) (q0 : Addr) (q1 : Int32) : entryFrame m #[(.ref q0), (.int q1)] 2 = mkF m 0 #[rv q0, iv q1] [] := by first | (simp [entryFrame, mkF, argsToLocals, Value.category]; done) | rfl
theorem sp50 (l : Launch) (Z : State) (a0 : Array Value) (hw : ∀ d ∈ tables_1, d.before a0 Z = true) (ws : List Jvm.Cond) (o0 : Addr) (h0 : Heap) (n0 : Nat) (Z0 : n0 ≤ h0.size) (F_size_o0 : Fld Z h0 o0 OwnK3 "size" "I" (.int 2)) :
    OwnC l Z (⟨OwnK3, "rangeCheckForAdd", "(I)V"⟩ : MethodName) jdk_130_method_26_code 2 none ws ({ frames := 0, cells := 0, slots := 0, locals := 0 } : Room) #[(.ref o0), (.int 0)] h0 (fun v h L => v = none ∧ h = h0 ∧ L = []) := by
  refine own_entry qQ16 (fun m => qQ138 m o0 (0 : Int32)) ?_
  intro p e s m below meth c T0 X0 hC e0
  obtain ⟨hx, hB, hml, hown, hnm, hret, hlk, hZ⟩ := hC
  have N0 := Fr.nil n0
  have K0 := Keep.refl h0 []
  refine oG T0 m 1 #[rv o0, iv 0] [(.int 0)] (fun t k => XS.iloadN X0.here hx rfl (hb hB d22_0) rfl k) ?_
  refine oG T0 m 4 #[rv o0, iv 0] [] (fun t k => XS.ifNo X0.here hx rfl (hb hB d22_1) rfl ((if0 _ _).trans (flt (by decide)).1) k) ?_
  refine oG T0 m 5 #[rv o0, iv 0] [(.int 0)] (fun t k => XS.iloadN X0.here hx rfl (hb hB d22_4) rfl k) ?_
  refine oG T0 m 6 #[rv o0, iv 0] [(.ref o0), (.int 0)] (fun t k => XS.aloadN X0.here hx rfl (hb hB d22_5) rfl rfl k) ?_
  obtain ⟨T1, X1, e1, st1⟩ := getF X0 hx hZ hown (host := "") (Or.inl (oW hw 141 rfl)) Via.refl e0 F_size_o0 (g := (mkF m 6 #[rv o0, iv 0] [(.ref o0), (.int 0)])) rfl rfl (hb hB d22_6)
  refine oG T1 m 9 #[rv o0, iv 0] [(.int 2), (.int 0)] (st1) ?_
  refine oG T1 m 25 #[rv o0, iv 0] [] (fun t k => XS.icmpYes X1.here hx rfl (pc0 := 9) (pc' := 25) rfl (hb hB d22_9) rfl (flt (by decide)).2.2.2 (by decide) (by decide) k) ?_
  refine own_retV X1 hx hlk hret (hb hB d22_25) (by decide) (by decide) ?_
  exact ⟨rfl, e1, rfl⟩
theorem qQ75 (m : MethodId) (q0 : Addr) (q1 : Addr) (q2 : Int32) : entryFrame m #[(.ref q0), (.ref q1), (.int q2)] 3 = mkF m 0 #[rv q0, rv q1, iv q2] [] := by first | (simp [entryFrame, mkF, argsToLocals, Value.category]; done) | rfl
theorem sp51 (l : Launch) (Z : State) (a0 : Array Value) (hw : ∀ d ∈ tables_1, d.before a0 Z = true) (ws : List Jvm.Cond) (o0 o1 : Addr) (h0 : Heap) (n0 : Nat) (Z0 : n0 ≤ h0.size) (E_o0 : Exa Z h0 o0 OwnK2) (F_cursor_o0 : Fld Z h0 o0 OwnK2 "cursor" "I" (.int 0)) (F_xM_o0 : Fld Z h0 o0 OwnK2 "expectedModCount" "I" (.int 0)) (F_lastRet_o0 : Fld Z h0 o0 OwnK2 "lastRet" "I" (.int 0)) (F_this_0_o0 : Fld Z h0 o0 OwnK2 "this$0" OwnK7 .null) (F_val_index_o0 : Fld Z h0 o0 OwnK2 "val$index" "I" (.int 0)) (F_mC_o1 : Fld Z h0 o1 OwnK5 "modCount" "I" (.int 2)) (ne_o0_o1 : o0 ≠ o1) (g_o0 : n0 ≤ o0) :
    OwnC l Z (⟨OwnK2, "<init>", "(Ljava/util/ArrayList$SubList;I)V"⟩ : MethodName) jdk_136_method_1_code 3 none ws ({ frames := 1, cells := 0, slots := 0, locals := 12 } : Room) #[(.ref o0), (.ref o1), (.int 0)] h0 (fun v h L => v = none ∧ Fr n0 L ∧ Keep h0 h [o0] ∧ Fld Z h o0 OwnK2 "this$0" OwnK7 (.ref o1) ∧ Fld Z h o0 OwnK2 "val$index" "I" (.int 0) ∧ Fld Z h o0 OwnK2 "cursor" "I" (.int 0) ∧ Fld Z h o0 OwnK2 "lastRet" "I" (.int (-1)) ∧ Fld Z h o0 OwnK2 "expectedModCount" "I" (.int 2)) := by
  refine own_entry qQ4 (fun m => qQ75 m o0 o1 (0 : Int32)) ?_
  intro p e s m below meth c T0 X0 hC e0
  obtain ⟨hx, hB, hml, hown, hnm, hret, hlk, hZ⟩ := hC
  have N0 := Fr.nil n0
  have K0 := Keep.refl h0 [o0]
  refine oG T0 m 1 #[rv o0, rv o1, iv 0] [(.ref o0)] (fun t k => XS.aloadN X0.here hx rfl (hb hB d23_0) rfl rfl k) ?_
  refine oG T0 m 2 #[rv o0, rv o1, iv 0] [(.ref o1), (.ref o0)] (fun t k => XS.aloadN X0.here hx rfl (hb hB d23_1) rfl rfl k) ?_
  obtain ⟨T1, h1, X1, e1, W1, st1⟩ := putF X0 hx hZ hown (host := "") (Or.inl (oW hw 184 rfl)) Via.refl e0 F_this_0_o0 E_o0 (Or.inr ⟨(oW hw 185 rfl), rfl, hnm⟩) (oW hw 178 rfl) (ty := (.object OwnK3)) (by decide) rfl rfl (g := (mkF m 2 #[rv o0, rv o1, iv 0] [(.ref o1), (.ref o0)])) rfl rfl (hb hB d23_2)
  have F1 := F_this_0_o0.same W1
  have cf2 := E_o0.wr W1
  have cf3 := F_cursor_o0.other W1 (Or.inr (slot_ne (Or.inl (oW hw 190 rfl)) (Or.inr (oW hw 185 rfl)) (by decide) (t := .int) (t' := (.object OwnK3)) (by decide) (by decide)))
  have cf4 := F_xM_o0.other W1 (Or.inr (slot_ne (Or.inl (oW hw 195 rfl)) (Or.inr (oW hw 185 rfl)) (by decide) (t := .int) (t' := (.object OwnK3)) (by decide) (by decide)))
  have cf5 := F_lastRet_o0.other W1 (Or.inr (slot_ne (Or.inl (oW hw 192 rfl)) (Or.inr (oW hw 185 rfl)) (by decide) (t := .int) (t' := (.object OwnK3)) (by decide) (by decide)))
  have cf6 := F_val_index_o0.other W1 (Or.inr (slot_ne (Or.inr (oW hw 187 rfl)) (Or.inr (oW hw 185 rfl)) (by decide) (t := .int) (t' := (.object OwnK3)) (by decide) (by decide)))
  have cf7 := F_mC_o1.other W1 (Or.inl (Ne.symm ne_o0_o1))
  have Z_1 : n0 ≤ h1.size := Nat.le_trans Z0 (Keep.of_wr W1).1
  have K_1 : Keep h0 h1 [o0] := K0.wr W1 (oI 0 rfl)
  have N1 := Fr.snoc X1 N0 g_o0
  refine oG T1 m 5 #[rv o0, rv o1, iv 0] [] (st1) ?_
  refine oG T1 m 6 #[rv o0, rv o1, iv 0] [(.ref o0)] (fun t k => XS.aloadN X1.here hx rfl (hb hB d23_5) rfl rfl k) ?_
  refine oG T1 m 7 #[rv o0, rv o1, iv 0] [(.int 0), (.ref o0)] (fun t k => XS.iloadN X1.here hx rfl (hb hB d23_6) rfl k) ?_
  obtain ⟨T8, h8, X8, e8, W8, st8⟩ := putF X1 hx hZ hown (host := "") (Or.inl (oW hw 186 rfl)) Via.refl e1 cf6 cf2 (Or.inr ⟨(oW hw 187 rfl), rfl, hnm⟩) (oW hw 178 rfl) (ty := .int) (by decide) rfl rfl (g := (mkF m 7 #[rv o0, rv o1, iv 0] [(.int 0), (.ref o0)])) rfl rfl (hb hB d23_7)
  have F8 := cf6.same W8
  have cf9 := cf2.wr W8
  have cf10 := cf3.other W8 (Or.inr (slot_ne (Or.inl (oW hw 190 rfl)) (Or.inr (oW hw 187 rfl)) (by decide) (t := .int) (t' := .int) (by decide) (by decide)))
  have cf11 := cf4.other W8 (Or.inr (slot_ne (Or.inl (oW hw 195 rfl)) (Or.inr (oW hw 187 rfl)) (by decide) (t := .int) (t' := .int) (by decide) (by decide)))
  have cf12 := cf5.other W8 (Or.inr (slot_ne (Or.inl (oW hw 192 rfl)) (Or.inr (oW hw 187 rfl)) (by decide) (t := .int) (t' := .int) (by decide) (by decide)))
  have cf13 := cf7.other W8 (Or.inl (Ne.symm ne_o0_o1))
  have cf14 := F1.other W8 (Or.inr (slot_ne (Or.inr (oW hw 185 rfl)) (Or.inr (oW hw 187 rfl)) (by decide) (t := (.object OwnK3)) (t' := .int) (by decide) (by decide)))
  have Z_8 : n0 ≤ h8.size := Nat.le_trans Z_1 (Keep.of_wr W8).1
  have K_8 : Keep h0 h8 [o0] := K_1.wr W8 (oI 0 rfl)
  have N8 := Fr.snoc X8 N1 g_o0
  refine oG T8 m 10 #[rv o0, rv o1, iv 0] [] (st8) ?_
  refine oG T8 m 11 #[rv o0, rv o1, iv 0] [(.ref o0)] (fun t k => XS.aloadN X8.here hx rfl (hb hB d23_10) rfl rfl k) ?_
  obtain ⟨T15, X15, e15, st15⟩ := initO X8 hx hZ hown (oW hw 188 rfl) (oW hw 8 rfl) (oW hw 9 rfl) e8 (g := (mkF m 11 #[rv o0, rv o1, iv 0] [(.ref o0)])) rfl (by rw [hml]; rfl) rfl (hb hB d23_11) (by decide) (W := 0) (by show 2 * 0 + _ ≤ _; exact Nat.le_of_eq rfl) (by decide)
  refine oG T15 m 14 #[rv o0, rv o1, iv 0] [] (st15) ?_
  refine oG T15 m 15 #[rv o0, rv o1, iv 0] [(.ref o0)] (fun t k => XS.aloadN X15.here hx rfl (hb hB d23_14) rfl rfl k) ?_
  refine oG T15 m 16 #[rv o0, rv o1, iv 0] [(.ref o0), (.ref o0)] (fun t k => XS.aloadN X15.here hx rfl (hb hB d23_15) rfl rfl k) ?_
  obtain ⟨T16, X16, e16, st16⟩ := getF X15 hx hZ hown (host := "") (Or.inl (oW hw 186 rfl)) Via.refl e15 F8 (g := (mkF m 16 #[rv o0, rv o1, iv 0] [(.ref o0), (.ref o0)])) rfl rfl (hb hB d23_16)
  refine oG T16 m 19 #[rv o0, rv o1, iv 0] [(.int 0), (.ref o0)] (st16) ?_
  obtain ⟨T17, h17, X17, e17, W17, st17⟩ := putF X16 hx hZ hown (host := "") (Or.inl (oW hw 189 rfl)) Via.refl e16 cf10 cf9 (Or.inl (oW hw 190 rfl)) (oW hw 178 rfl) (ty := .int) (by decide) rfl rfl (g := (mkF m 19 #[rv o0, rv o1, iv 0] [(.int 0), (.ref o0)])) rfl rfl (hb hB d23_19)
  have F17 := cf10.same W17
  have cf18 := cf9.wr W17
  have cf19 := cf11.other W17 (Or.inr (slot_ne (Or.inl (oW hw 195 rfl)) (Or.inl (oW hw 190 rfl)) (by decide) (t := .int) (t' := .int) (by decide) (by decide)))
  have cf20 := cf12.other W17 (Or.inr (slot_ne (Or.inl (oW hw 192 rfl)) (Or.inl (oW hw 190 rfl)) (by decide) (t := .int) (t' := .int) (by decide) (by decide)))
  have cf21 := cf13.other W17 (Or.inl (Ne.symm ne_o0_o1))
  have cf22 := cf14.other W17 (Or.inr (slot_ne (Or.inr (oW hw 185 rfl)) (Or.inl (oW hw 190 rfl)) (by decide) (t := (.object OwnK3)) (t' := .int) (by decide) (by decide)))
  have cf23 := F8.other W17 (Or.inr (slot_ne (Or.inr (oW hw 187 rfl)) (Or.inl (oW hw 190 rfl)) (by decide) (t := .int) (t' := .int) (by decide) (by decide)))
  have Z_17 : n0 ≤ h17.size := Nat.le_trans Z_8 (Keep.of_wr W17).1
  have K_17 : Keep h0 h17 [o0] := K_8.wr W17 (oI 0 rfl)
  have N17 := Fr.snoc X17 N8 g_o0
  refine oG T17 m 22 #[rv o0, rv o1, iv 0] [] (st17) ?_
  refine oG T17 m 23 #[rv o0, rv o1, iv 0] [(.ref o0)] (fun t k => XS.aloadN X17.here hx rfl (hb hB d23_22) rfl rfl k) ?_
  refine oG T17 m 24 #[rv o0, rv o1, iv 0] [(.int (-1)), (.ref o0)] (fun t k => XS.iconst X17.here hx rfl (hb hB d23_23) k) ?_
  obtain ⟨T24, h24, X24, e24, W24, st24⟩ := putF X17 hx hZ hown (host := "") (Or.inl (oW hw 191 rfl)) Via.refl e17 cf20 cf18 (Or.inl (oW hw 192 rfl)) (oW hw 178 rfl) (ty := .int) (by decide) rfl rfl (g := (mkF m 24 #[rv o0, rv o1, iv 0] [(.int (-1)), (.ref o0)])) rfl rfl (hb hB d23_24)
  have F24 := cf20.same W24
  have cf25 := cf18.wr W24
  have cf26 := cf19.other W24 (Or.inr (slot_ne (Or.inl (oW hw 195 rfl)) (Or.inl (oW hw 192 rfl)) (by decide) (t := .int) (t' := .int) (by decide) (by decide)))
  have cf27 := cf21.other W24 (Or.inl (Ne.symm ne_o0_o1))
  have cf28 := cf22.other W24 (Or.inr (slot_ne (Or.inr (oW hw 185 rfl)) (Or.inl (oW hw 192 rfl)) (by decide) (t := (.object OwnK3)) (t' := .int) (by decide) (by decide)))
  have cf29 := cf23.other W24 (Or.inr (slot_ne (Or.inr (oW hw 187 rfl)) (Or.inl (oW hw 192 rfl)) (by decide) (t := .int) (t' := .int) (by decide) (by decide)))
  have cf30 := F17.other W24 (Or.inr (slot_ne (Or.inl (oW hw 190 rfl)) (Or.inl (oW hw 192 rfl)) (by decide) (t := .int) (t' := .int) (by decide) (by decide)))
  have Z_24 : n0 ≤ h24.size := Nat.le_trans Z_17 (Keep.of_wr W24).1
  have K_24 : Keep h0 h24 [o0] := K_17.wr W24 (oI 0 rfl)
  have N24 := Fr.snoc X24 N17 g_o0
  refine oG T24 m 27 #[rv o0, rv o1, iv 0] [] (st24) ?_
  refine oG T24 m 28 #[rv o0, rv o1, iv 0] [(.ref o0)] (fun t k => XS.aloadN X24.here hx rfl (hb hB d23_27) rfl rfl k) ?_
  refine oG T24 m 29 #[rv o0, rv o1, iv 0] [(.ref o0), (.ref o0)] (fun t k => XS.aloadN X24.here hx rfl (hb hB d23_28) rfl rfl k) ?_
  obtain ⟨T31, X31, e31, st31⟩ := getF X24 hx hZ hown (host := "") (Or.inl (oW hw 184 rfl)) Via.refl e24 cf28 (g := (mkF m 29 #[rv o0, rv o1, iv 0] [(.ref o0), (.ref o0)])) rfl rfl (hb hB d23_29)
  refine oG T31 m 32 #[rv o0, rv o1, iv 0] [(.ref o1), (.ref o0)] (st31) ?_
  obtain ⟨T32, X32, e32, st32⟩ := getF X31 hx hZ hown (host := "") (Or.inl (oW hw 193 rfl)) (Via.of (oW hw 145 rfl)) e31 cf27 (g := (mkF m 32 #[rv o0, rv o1, iv 0] [(.ref o1), (.ref o0)])) rfl rfl (hb hB d23_32)
  refine oG T32 m 35 #[rv o0, rv o1, iv 0] [(.int 2), (.ref o0)] (st32) ?_
  obtain ⟨T33, h33, X33, e33, W33, st33⟩ := putF X32 hx hZ hown (host := "") (Or.inl (oW hw 194 rfl)) Via.refl e32 cf26 cf25 (Or.inl (oW hw 195 rfl)) (oW hw 178 rfl) (ty := .int) (by decide) rfl rfl (g := (mkF m 35 #[rv o0, rv o1, iv 0] [(.int 2), (.ref o0)])) rfl rfl (hb hB d23_35)
  have F33 := cf26.same W33
  have cf34 := cf25.wr W33
  have cf35 := cf27.other W33 (Or.inl (Ne.symm ne_o0_o1))
  have cf36 := cf28.other W33 (Or.inr (slot_ne (Or.inr (oW hw 185 rfl)) (Or.inl (oW hw 195 rfl)) (by decide) (t := (.object OwnK3)) (t' := .int) (by decide) (by decide)))
  have cf37 := cf29.other W33 (Or.inr (slot_ne (Or.inr (oW hw 187 rfl)) (Or.inl (oW hw 195 rfl)) (by decide) (t := .int) (t' := .int) (by decide) (by decide)))
  have cf38 := cf30.other W33 (Or.inr (slot_ne (Or.inl (oW hw 190 rfl)) (Or.inl (oW hw 195 rfl)) (by decide) (t := .int) (t' := .int) (by decide) (by decide)))
  have cf39 := F24.other W33 (Or.inr (slot_ne (Or.inl (oW hw 192 rfl)) (Or.inl (oW hw 195 rfl)) (by decide) (t := .int) (t' := .int) (by decide) (by decide)))
  have Z_33 : n0 ≤ h33.size := Nat.le_trans Z_24 (Keep.of_wr W33).1
  have K_33 : Keep h0 h33 [o0] := K_24.wr W33 (oI 0 rfl)
  have N33 := Fr.snoc X33 N24 g_o0
  refine oG T33 m 38 #[rv o0, rv o1, iv 0] [] (st33) ?_
  refine own_retV X33 hx hlk hret (hb hB d23_38) (by decide) (by decide) ?_
  rw [e33]
  exact ⟨rfl, N33, K_33, cf36, cf37, cf38, cf39, F33⟩
theorem qQ109 (m : MethodId) (q0 : Addr) (q1 : Int32) : entryFrame m #[(.ref q0), (.int q1)] 2 = mkF m 0 #[rv q0, iv q1] [] := by first | (simp [entryFrame, mkF, argsToLocals, Value.category]; done) | rfl
theorem sp48 (l : Launch) (Z : State) (a0 : Array Value) (hw : ∀ d ∈ tables_1, d.before a0 Z = true) (ws : List Jvm.Cond) (o0 o1 : Addr) (h0 : Heap) (n0 : Nat) (Z0 : n0 ≤ h0.size) (E_o0 : Exa Z h0 o0 OwnK3) (F_mC_o0 : Fld Z h0 o0 OwnK5 "modCount" "I" (.int 2)) (F_root_o0 : Fld Z h0 o0 OwnK3 "root" OwnK8 (.ref o1)) (F_size_o0 : Fld Z h0 o0 OwnK3 "size" "I" (.int 2)) (F_mC_o1 : Fld Z h0 o1 OwnK5 "modCount" "I" (.int 2)) :
    OwnC l Z (⟨OwnK3, "listIterator", "(I)Ljava/util/ListIterator;"⟩ : MethodName) jdk_130_method_24_code 2 (some (.object "java/util/ListIterator")) ws ({ frames := 2, cells := 1, slots := 5, locals := 27 } : Room) #[(.ref o0), (.int 0)] h0 (fun v h L => ∃ (w0 : Addr), v = some (.ref w0) ∧ Fr n0 L ∧ Keep h0 h [] ∧ (h0.size ≤ w0 ∧ n0 ≤ w0) ∧ Exa Z h w0 OwnK2 ∧ Fld Z h w0 OwnK2 "this$0" OwnK7 (.ref o0) ∧ Fld Z h w0 OwnK2 "val$index" "I" (.int 0) ∧ Fld Z h w0 OwnK2 "cursor" "I" (.int 0) ∧ Fld Z h w0 OwnK2 "lastRet" "I" (.int (-1)) ∧ Fld Z h w0 OwnK2 "expectedModCount" "I" (.int 2)) := by
  refine own_entry qQ5 (fun m => qQ109 m o0 (0 : Int32)) ?_
  intro p e s m below meth c T0 X0 hC e0
  obtain ⟨hx, hB, hml, hown, hnm, hret, hlk, hZ⟩ := hC
  have N0 := Fr.nil n0
  have K0 := Keep.refl h0 []
  refine oG T0 m 1 #[rv o0, iv 0] [(.ref o0)] (fun t k => XS.aloadN X0.here hx rfl (hb hB d20_0) rfl rfl k) ?_
  obtain ⟨_, T1, L1, X1, ⟨rfl, e1, rfl⟩, st1⟩ := own_private X0 hx hZ (y := (⟨OwnK3, "checkForComodification", "()V"⟩ : MethodName)) hown (oW hw 167 rfl) (oW hw 168 rfl) (oW hw 169 rfl) (oW hw 125 rfl) (oW hw 126 rfl) (oW hw 171 rfl) (by decide) (sp49 l Z a0 hw [] o0 o1 h0 n0 Z0 F_mC_o0 F_root_o0 F_mC_o1) e0 E_o0 0 (argsL := []) (rest := []) (Ls := #[rv o0, iv 0]) (by rw [hml]; rfl) (lenOf qQ155 rfl) rfl rfl (Nat.le_of_eq rfl) (hb hB d20_1) (by decide) (by decide) (by decide) (by decide)
  replace X1 := own_nil X1
  refine oG T1 m 4 #[rv o0, iv 0] [] (st1) ?_
  refine oG T1 m 5 #[rv o0, iv 0] [(.ref o0)] (fun t k => XS.aloadN X1.here hx rfl (hb hB d20_4) rfl rfl k) ?_
  refine oG T1 m 6 #[rv o0, iv 0] [(.int 0), (.ref o0)] (fun t k => XS.iloadN X1.here hx rfl (hb hB d20_5) rfl k) ?_
  obtain ⟨_, T2, L2, X2, ⟨rfl, e2, rfl⟩, st2⟩ := own_private X1 hx hZ (y := (⟨OwnK3, "rangeCheckForAdd", "(I)V"⟩ : MethodName)) hown (oW hw 172 rfl) (oW hw 173 rfl) (oW hw 174 rfl) (oW hw 125 rfl) (oW hw 126 rfl) (oW hw 176 rfl) (by decide) (sp50 l Z a0 hw [] o0 h0 n0 Z0 F_size_o0) e1 E_o0 0 (argsL := [(.int 0)]) (rest := []) (Ls := #[rv o0, iv 0]) (by rw [hml]; rfl) (lenOf qQ64 rfl) rfl rfl (Nat.le_of_eq rfl) (hb hB d20_6) (by decide) (by decide) (by decide) (by decide)
  replace X2 := own_nil X2
  refine oG T2 m 9 #[rv o0, iv 0] [] (st2) ?_
  obtain ⟨T3, h3, X3, e3, E3, A3, D3, -, st3⟩ := newO X2 hx hZ hown (oW hw 177 rfl) (oW hw 178 rfl) (oW hw 179 rfl) e2 (g := (mkF m 9 #[rv o0, iv 0] [])) rfl (hb hB d20_9) (by decide) (by decide)
  obtain ⟨b3, g3⟩ : ∃ z, z = h0.size := ⟨_, rfl⟩
  rw [← g3] at A3 D3 st3
  have ne_o0_b3 : o0 ≠ b3 := Nat.ne_of_lt (Nat.lt_of_lt_of_eq E_o0.lt g3.symm)
  have ne_o1_b3 : o1 ≠ b3 := Nat.ne_of_lt (Nat.lt_of_lt_of_eq F_mC_o1.lt g3.symm)
  have g_b3 : n0 ≤ b3 := Nat.le_trans Z0 (Nat.le_of_eq g3.symm)
  have sz_b3 : h0.size ≤ b3 := Nat.le_trans K0.1 (Nat.le_of_eq g3.symm)
  have cf4 := E_o0.ext E3
  have cf5 := F_mC_o0.ext E3
  have cf6 := F_root_o0.ext E3
  have cf7 := F_size_o0.ext E3
  have cf8 := F_mC_o1.ext E3
  have Z_3 : n0 ≤ h3.size := Nat.le_trans Z0 E3.1
  have K_3 : Keep h0 h3 [] := K0.ext E3
  have F_this_0_3 : Fld Z h3 b3 OwnK2 "this$0" OwnK7 .null := D3 (Or.inr (oW hw 185 rfl)) (ty := (.object OwnK3)) (by decide)
  have F_val_index_3 : Fld Z h3 b3 OwnK2 "val$index" "I" (.int 0) := D3 (Or.inr (oW hw 187 rfl)) (ty := .int) (by decide)
  have F_cursor_3 : Fld Z h3 b3 OwnK2 "cursor" "I" (.int 0) := D3 (Or.inl (oW hw 190 rfl)) (ty := .int) (by decide)
  have F_lastRet_3 : Fld Z h3 b3 OwnK2 "lastRet" "I" (.int 0) := D3 (Or.inl (oW hw 192 rfl)) (ty := .int) (by decide)
  have F_xM_3 : Fld Z h3 b3 OwnK2 "expectedModCount" "I" (.int 0) := D3 (Or.inl (oW hw 195 rfl)) (ty := .int) (by decide)
  refine oG T3 m 12 #[rv o0, iv 0] [(.ref b3)] (st3) ?_
  refine oG T3 m 13 #[rv o0, iv 0] [(.ref b3), (.ref b3)] (fun t k => XS.dup X3.here hx rfl (hb hB d20_12) rfl rfl k) ?_
  refine oG T3 m 14 #[rv o0, iv 0] [(.ref o0), (.ref b3), (.ref b3)] (fun t k => XS.aloadN X3.here hx rfl (hb hB d20_13) rfl rfl k) ?_
  refine oG T3 m 15 #[rv o0, iv 0] [(.int 0), (.ref o0), (.ref b3), (.ref b3)] (fun t k => XS.iloadN X3.here hx rfl (hb hB d20_14) rfl k) ?_
  obtain ⟨_, T9, L9, X9, ⟨rfl, Nq9, Kq9, fq0_9, fq1_9, fq2_9, fq3_9, fq4_9⟩, st9⟩ := own_init X3 hx hZ (y := (⟨OwnK2, "<init>", "(Ljava/util/ArrayList$SubList;I)V"⟩ : MethodName)) rfl hown (oW hw 180 rfl) (oW hw 181 rfl) (oW hw 179 rfl) (oW hw 183 rfl) (by decide) (sp51 l Z a0 hw [] b3 o0 h3 n0 Z_3 A3 F_cursor_3 F_xM_3 F_lastRet_3 F_this_0_3 F_val_index_3 cf5 (Ne.symm ne_o0_b3) g_b3) e3 (a := b3) 1 (argsL := [(.ref o0), (.int 0)]) (rest := [(.ref b3)]) (Ls := #[rv o0, iv 0]) (by rw [hml]; rfl) (lenOf qQ26 rfl) rfl rfl (Nat.le_of_eq rfl) (hb hB d20_15) (by decide) (by decide) (by decide) (by decide)
  have N9 := Fr.app N0 Nq9
  have cf10 := cf4.keep Kq9
  have cf11 := cf5.keep Kq9 (ninS ne_o0_b3 nin0)
  have cf12 := cf6.keep Kq9 (ninS ne_o0_b3 nin0)
  have cf13 := cf7.keep Kq9 (ninS ne_o0_b3 nin0)
  have cf14 := cf8.keep Kq9 (ninS ne_o1_b3 nin0)
  have cf15 := A3.keep Kq9
  have Z_9 : n0 ≤ T9.heap.size := Nat.le_trans Z_3 Kq9.1
  have K_9 : Keep h0 T9.heap [] := K_3.trans Kq9 (allS (Or.inr sz_b3) all0)
  refine oG T9 m 18 #[rv o0, iv 0] [(.ref b3)] (st9) ?_
  refine own_retA X9 hx hlk hret rfl rfl rfl (hb hB d20_18) (by decide) (by decide) ?_
  exact ⟨b3, rfl, N9, K_9, ⟨sz_b3, g_b3⟩, cf15, fq0_9, fq1_9, fq2_9, fq3_9, fq4_9⟩
theorem qQ70 (m : MethodId) (q0 : Addr) : entryFrame m #[(.ref q0)] 1 = mkF m 0 #[rv q0] [] := by first | (simp [entryFrame, mkF, argsToLocals, Value.category]; done) | rfl
theorem sp47 (l : Launch) (Z : State) (a0 : Array Value) (hw : ∀ d ∈ tables_1, d.before a0 Z = true) (ws : List Jvm.Cond) (o0 o1 : Addr) (h0 : Heap) (n0 : Nat) (Z0 : n0 ≤ h0.size) (E_o0 : Exa Z h0 o0 OwnK3) (F_mC_o0 : Fld Z h0 o0 OwnK5 "modCount" "I" (.int 2)) (F_root_o0 : Fld Z h0 o0 OwnK3 "root" OwnK8 (.ref o1)) (F_size_o0 : Fld Z h0 o0 OwnK3 "size" "I" (.int 2)) (F_mC_o1 : Fld Z h0 o1 OwnK5 "modCount" "I" (.int 2)) :
    OwnC l Z (⟨OwnK5, "listIterator", "()Ljava/util/ListIterator;"⟩ : MethodName) jdk_39_method_12_code 1 (some (.object "java/util/ListIterator")) ws ({ frames := 3, cells := 1, slots := 5, locals := 40 } : Room) #[(.ref o0)] h0 (fun v h L => ∃ (w0 : Addr), v = some (.ref w0) ∧ Fr n0 L ∧ Keep h0 h [] ∧ (h0.size ≤ w0 ∧ n0 ≤ w0) ∧ Exa Z h w0 OwnK2 ∧ Fld Z h w0 OwnK2 "this$0" OwnK7 (.ref o0) ∧ Fld Z h w0 OwnK2 "val$index" "I" (.int 0) ∧ Fld Z h w0 OwnK2 "cursor" "I" (.int 0) ∧ Fld Z h w0 OwnK2 "lastRet" "I" (.int (-1)) ∧ Fld Z h w0 OwnK2 "expectedModCount" "I" (.int 2)) := by
  refine own_entry qQ8 (fun m => qQ70 m o0) ?_
  intro p e s m below meth c T0 X0 hC e0
  obtain ⟨hx, hB, hml, hown, hnm, hret, hlk, hZ⟩ := hC
  have N0 := Fr.nil n0
  have K0 := Keep.refl h0 []
  refine oG T0 m 1 #[rv o0] [(.ref o0)] (fun t k => XS.aloadN X0.here hx rfl (hb hB d19_0) rfl rfl k) ?_
  refine oG T0 m 2 #[rv o0] [(.int 0), (.ref o0)] (fun t k => XS.iconst X0.here hx rfl (hb hB d19_1) k) ?_
  obtain ⟨_, T1, L1, X1, ⟨w0_1, rfl, Nq1, Kq1, syw0_1, fq0_1, fq1_1, fq2_1, fq3_1, fq4_1, fq5_1⟩, st1⟩ := own_virtual X0 hx hZ (y := (⟨OwnK5, "listIterator", "(I)Ljava/util/ListIterator;"⟩ : MethodName)) (z := (⟨OwnK3, "listIterator", "(I)Ljava/util/ListIterator;"⟩ : MethodName)) hown (oW hw 161 rfl) (oW hw 162 rfl) (own_nf (args := #[]) (mvT hZ (oW hw 159 rfl)) rfl) (oW hw 164 rfl) (oW hw 165 rfl) (oW hw 126 rfl) (oW hw 166 rfl) (by decide) (sp48 l Z a0 hw [] o0 o1 h0 n0 Z0 E_o0 F_mC_o0 F_root_o0 F_size_o0 F_mC_o1) e0 E_o0 0 (argsL := [(.int 0)]) (rest := []) (Ls := #[rv o0]) (by rw [hml]; rfl) (lenOf qQ30 rfl) rfl rfl (Nat.le_of_eq rfl) (hb hB d19_2) (by decide) (by decide) (by decide) (by decide)
  have g_w0_1 : n0 ≤ w0_1 := syw0_1.2
  have sz_w0_1 : h0.size ≤ w0_1 := Nat.le_trans K0.1 syw0_1.1
  have ne_o0_w0_1 : o0 ≠ w0_1 := Nat.ne_of_lt (Nat.lt_of_lt_of_le E_o0.lt syw0_1.1)
  have ne_o1_w0_1 : o1 ≠ w0_1 := Nat.ne_of_lt (Nat.lt_of_lt_of_le F_mC_o1.lt syw0_1.1)
  have N1 := Fr.app N0 Nq1
  have cf2 := E_o0.keep Kq1
  have cf3 := F_mC_o0.keep Kq1 nin0
  have cf4 := F_root_o0.keep Kq1 nin0
  have cf5 := F_size_o0.keep Kq1 nin0
  have cf6 := F_mC_o1.keep Kq1 nin0
  have Z_1 : n0 ≤ T1.heap.size := Nat.le_trans Z0 Kq1.1
  have K_1 : Keep h0 T1.heap [] := K0.trans Kq1 all0
  refine oG T1 m 5 #[rv o0] [(.ref w0_1)] (st1) ?_
  refine own_retA X1 hx hlk hret rfl rfl rfl (hb hB d19_5) (by decide) (by decide) ?_
  exact ⟨w0_1, rfl, N1, K_1, ⟨sz_w0_1, g_w0_1⟩, fq0_1, fq1_1, fq2_1, fq3_1, fq4_1, fq5_1⟩
theorem qQ91 (m : MethodId) (q0 : Addr) : entryFrame m #[(.ref q0)] 1 = mkF m 0 #[rv q0] [] := by first | (simp [entryFrame, mkF, argsToLocals, Value.category]; done) | rfl
theorem sp46 (l : Launch) (Z : State) (a0 : Array Value) (hw : ∀ d ∈ tables_1, d.before a0 Z = true) (ws : List Jvm.Cond) (o0 o1 : Addr) (h0 : Heap) (n0 : Nat) (Z0 : n0 ≤ h0.size) (E_o0 : Exa Z h0 o0 OwnK3) (F_mC_o0 : Fld Z h0 o0 OwnK5 "modCount" "I" (.int 2)) (F_root_o0 : Fld Z h0 o0 OwnK3 "root" OwnK8 (.ref o1)) (F_size_o0 : Fld Z h0 o0 OwnK3 "size" "I" (.int 2)) (F_mC_o1 : Fld Z h0 o1 OwnK5 "modCount" "I" (.int 2)) :
    OwnC l Z (⟨OwnK3, "iterator", "()Ljava/util/Iterator;"⟩ : MethodName) jdk_130_method_23_code 1 (some (.object "java/util/Iterator")) ws ({ frames := 4, cells := 1, slots := 5, locals := 52 } : Room) #[(.ref o0)] h0 (fun v h L => ∃ (w0 : Addr), v = some (.ref w0) ∧ Fr n0 L ∧ Keep h0 h [] ∧ (h0.size ≤ w0 ∧ n0 ≤ w0) ∧ Exa Z h w0 OwnK2 ∧ Fld Z h w0 OwnK2 "this$0" OwnK7 (.ref o0) ∧ Fld Z h w0 OwnK2 "val$index" "I" (.int 0) ∧ Fld Z h w0 OwnK2 "cursor" "I" (.int 0) ∧ Fld Z h w0 OwnK2 "lastRet" "I" (.int (-1)) ∧ Fld Z h w0 OwnK2 "expectedModCount" "I" (.int 2)) := by
  refine own_entry qQ11 (fun m => qQ91 m o0) ?_
  intro p e s m below meth c T0 X0 hC e0
  obtain ⟨hx, hB, hml, hown, hnm, hret, hlk, hZ⟩ := hC
  have N0 := Fr.nil n0
  have K0 := Keep.refl h0 []
  refine oG T0 m 1 #[rv o0] [(.ref o0)] (fun t k => XS.aloadN X0.here hx rfl (hb hB d18_0) rfl rfl k) ?_
  obtain ⟨_, T1, L1, X1, ⟨w0_1, rfl, Nq1, Kq1, syw0_1, fq0_1, fq1_1, fq2_1, fq3_1, fq4_1, fq5_1⟩, st1⟩ := own_virtualUp X0 hx hZ (x := (⟨OwnK3, "listIterator", "()Ljava/util/ListIterator;"⟩ : MethodName)) (y := (⟨OwnK5, "listIterator", "()Ljava/util/ListIterator;"⟩ : MethodName)) hown (oW hw 155 rfl) (oW hw 156 rfl) (oW hw 157 rfl) (by decide) (oW hw 159 rfl) (oW hw 158 rfl) (oW hw 37 rfl) (oW hw 160 rfl) (sp47 l Z a0 hw [] o0 o1 h0 n0 Z0 E_o0 F_mC_o0 F_root_o0 F_size_o0 F_mC_o1) e0 E_o0 0 (argsL := []) (rest := []) (Ls := #[rv o0]) (by rw [hml]; rfl) (lenOf qQ31 rfl) rfl rfl (Nat.le_of_eq rfl) (hb hB d18_1) (by decide) (by decide) (by decide) (by decide)
  have g_w0_1 : n0 ≤ w0_1 := syw0_1.2
  have sz_w0_1 : h0.size ≤ w0_1 := Nat.le_trans K0.1 syw0_1.1
  have ne_o0_w0_1 : o0 ≠ w0_1 := Nat.ne_of_lt (Nat.lt_of_lt_of_le E_o0.lt syw0_1.1)
  have ne_o1_w0_1 : o1 ≠ w0_1 := Nat.ne_of_lt (Nat.lt_of_lt_of_le F_mC_o1.lt syw0_1.1)
  have N1 := Fr.app N0 Nq1
  have cf2 := E_o0.keep Kq1
  have cf3 := F_mC_o0.keep Kq1 nin0
  have cf4 := F_root_o0.keep Kq1 nin0
  have cf5 := F_size_o0.keep Kq1 nin0
  have cf6 := F_mC_o1.keep Kq1 nin0
  have Z_1 : n0 ≤ T1.heap.size := Nat.le_trans Z0 Kq1.1
  have K_1 : Keep h0 T1.heap [] := K0.trans Kq1 all0
  refine oG T1 m 4 #[rv o0] [(.ref w0_1)] (st1) ?_
  refine own_retA X1 hx hlk hret rfl rfl rfl (hb hB d18_4) (by decide) (by decide) ?_
  exact ⟨w0_1, rfl, N1, K_1, ⟨sz_w0_1, g_w0_1⟩, fq0_1, fq1_1, fq2_1, fq3_1, fq4_1, fq5_1⟩
theorem qQ127 (m : MethodId) (q0 : Addr) : entryFrame m #[(.ref q0)] 1 = mkF m 0 #[rv q0] [] := by first | (simp [entryFrame, mkF, argsToLocals, Value.category]; done) | rfl
theorem sp52 (l : Launch) (Z : State) (a0 : Array Value) (hw : ∀ d ∈ tables_1, d.before a0 Z = true) (ws : List Jvm.Cond) (o0 o1 : Addr) (h0 : Heap) (n0 : Nat) (Z0 : n0 ≤ h0.size) (F_cursor_o0 : Fld Z h0 o0 OwnK2 "cursor" "I" (.int 0)) (F_this_0_o0 : Fld Z h0 o0 OwnK2 "this$0" OwnK7 (.ref o1)) (F_size_o1 : Fld Z h0 o1 OwnK3 "size" "I" (.int 2)) :
    OwnC l Z (⟨OwnK2, "hasNext", "()Z"⟩ : MethodName) jdk_136_method_2_code 1 (some .boolean) ws ({ frames := 0, cells := 0, slots := 0, locals := 0 } : Room) #[(.ref o0)] h0 (fun v h L => v = some (.int 1) ∧ h = h0 ∧ L = []) := by
  refine own_entry qQ23 (fun m => qQ127 m o0) ?_
  intro p e s m below meth c T0 X0 hC e0
  obtain ⟨hx, hB, hml, hown, hnm, hret, hlk, hZ⟩ := hC
  have N0 := Fr.nil n0
  have K0 := Keep.refl h0 []
  refine oG T0 m 1 #[rv o0] [(.ref o0)] (fun t k => XS.aloadN X0.here hx rfl (hb hB d24_0) rfl rfl k) ?_
  obtain ⟨T1, X1, e1, st1⟩ := getF X0 hx hZ hown (host := "") (Or.inl (oW hw 189 rfl)) Via.refl e0 F_cursor_o0 (g := (mkF m 1 #[rv o0] [(.ref o0)])) rfl rfl (hb hB d24_1)
  refine oG T1 m 4 #[rv o0] [(.int 0)] (st1) ?_
  refine oG T1 m 5 #[rv o0] [(.ref o0), (.int 0)] (fun t k => XS.aloadN X1.here hx rfl (hb hB d24_4) rfl rfl k) ?_
  obtain ⟨T2, X2, e2, st2⟩ := getF X1 hx hZ hown (host := "") (Or.inl (oW hw 184 rfl)) Via.refl e1 F_this_0_o0 (g := (mkF m 5 #[rv o0] [(.ref o0), (.int 0)])) rfl rfl (hb hB d24_5)
  refine oG T2 m 8 #[rv o0] [(.ref o1), (.int 0)] (st2) ?_
  refine oG T2 m 11 #[rv o0] [(.int 2), (.int 0)] (own_getfRef X2 hx hZ hown (oW hw 205 rfl) e2 F_size_o1 (hb hB d24_8)) ?_
  refine oG T2 m 14 #[rv o0] [] (fun t k => XS.icmpNo X2.here hx rfl (hb hB d24_11) rfl (feq (by decide)).1 k) ?_
  refine oG T2 m 15 #[rv o0] [(.int 1)] (fun t k => XS.iconst X2.here hx rfl (hb hB d24_14) k) ?_
  refine oG T2 m 19 #[rv o0] [(.int 1)] (fun t k => XS.goto X2.here hx rfl (pc0 := 15) (pc' := 19) rfl (hb hB d24_15) (by decide) (by decide) k) ?_
  refine own_retZ X2 hx hlk hret (by decide) (hb hB d24_19) (by decide) (by decide) ?_
  exact ⟨rfl, e2, rfl⟩
theorem qQ98 (m : MethodId) (q0 : Addr) : entryFrame m #[(.ref q0)] 1 = mkF m 0 #[rv q0] [] := by first | (simp [entryFrame, mkF, argsToLocals, Value.category]; done) | rfl
theorem sp54 (l : Launch) (Z : State) (a0 : Array Value) (hw : ∀ d ∈ tables_1, d.before a0 Z = true) (ws : List Jvm.Cond) (o0 o1 o2 : Addr) (h0 : Heap) (n0 : Nat) (Z0 : n0 ≤ h0.size) (F_xM_o0 : Fld Z h0 o0 OwnK2 "expectedModCount" "I" (.int 2)) (F_this_0_o0 : Fld Z h0 o0 OwnK2 "this$0" OwnK7 (.ref o1)) (F_root_o1 : Fld Z h0 o1 OwnK3 "root" OwnK8 (.ref o2)) (F_mC_o2 : Fld Z h0 o2 OwnK5 "modCount" "I" (.int 2)) :
    OwnC l Z (⟨OwnK2, "checkForComodification", "()V"⟩ : MethodName) jdk_136_method_12_code 1 none ws ({ frames := 0, cells := 0, slots := 0, locals := 0 } : Room) #[(.ref o0)] h0 (fun v h L => v = none ∧ h = h0 ∧ L = []) := by
  refine own_entry qQ12 (fun m => qQ98 m o0) ?_
  intro p e s m below meth c T0 X0 hC e0
  obtain ⟨hx, hB, hml, hown, hnm, hret, hlk, hZ⟩ := hC
  have N0 := Fr.nil n0
  have K0 := Keep.refl h0 []
  refine oG T0 m 1 #[rv o0] [(.ref o0)] (fun t k => XS.aloadN X0.here hx rfl (hb hB d26_0) rfl rfl k) ?_
  obtain ⟨T1, X1, e1, st1⟩ := getF X0 hx hZ hown (host := "") (Or.inl (oW hw 184 rfl)) Via.refl e0 F_this_0_o0 (g := (mkF m 1 #[rv o0] [(.ref o0)])) rfl rfl (hb hB d26_1)
  refine oG T1 m 4 #[rv o0] [(.ref o1)] (st1) ?_
  refine oG T1 m 7 #[rv o0] [(.ref o2)] (own_getfRef X1 hx hZ hown (oW hw 219 rfl) e1 F_root_o1 (hb hB d26_4)) ?_
  obtain ⟨T3, X3, e3, st3⟩ := getF X1 hx hZ hown (host := "") (Or.inl (oW hw 220 rfl)) (Via.of (oW hw 73 rfl)) e1 F_mC_o2 (g := (mkF m 7 #[rv o0] [(.ref o2)])) rfl rfl (hb hB d26_7)
  refine oG T3 m 10 #[rv o0] [(.int 2)] (st3) ?_
  refine oG T3 m 11 #[rv o0] [(.ref o0), (.int 2)] (fun t k => XS.aloadN X3.here hx rfl (hb hB d26_10) rfl rfl k) ?_
  obtain ⟨T4, X4, e4, st4⟩ := getF X3 hx hZ hown (host := "") (Or.inl (oW hw 194 rfl)) Via.refl e3 F_xM_o0 (g := (mkF m 11 #[rv o0] [(.ref o0), (.int 2)])) rfl rfl (hb hB d26_11)
  refine oG T4 m 14 #[rv o0] [(.int 2), (.int 2)] (st4) ?_
  refine oG T4 m 25 #[rv o0] [] (fun t k => XS.icmpYes X4.here hx rfl (pc0 := 14) (pc' := 25) rfl (hb hB d26_14) rfl (teq (by decide)).1 (by decide) (by decide) k) ?_
  refine own_retV X4 hx hlk hret (hb hB d26_25) (by decide) (by decide) ?_
  exact ⟨rfl, e4, rfl⟩
theorem qQ124 (m : MethodId) (q0 : Addr) : entryFrame m #[(.ref q0)] 3 = mkF m 0 #[rv q0, .unset, .unset] [] := by first | (simp [entryFrame, mkF, argsToLocals, Value.category]; done) | rfl
theorem sp53 (l : Launch) (Z : State) (a0 : Array Value) (hw : ∀ d ∈ tables_1, d.before a0 Z = true) (ws : List Jvm.Cond) (o0 o1 o2 o3 o4 o5 : Addr) (c0 : ClassId) (h0 : Heap) (n0 : Nat) (Z0 : n0 ≤ h0.size) (E_o0 : Exa Z h0 o0 OwnK2) (F_cursor_o0 : Fld Z h0 o0 OwnK2 "cursor" "I" (.int 0)) (F_xM_o0 : Fld Z h0 o0 OwnK2 "expectedModCount" "I" (.int 2)) (F_lastRet_o0 : Fld Z h0 o0 OwnK2 "lastRet" "I" (.int (-1))) (F_this_0_o0 : Fld Z h0 o0 OwnK2 "this$0" OwnK7 (.ref o1)) (F_val_index_o0 : Fld Z h0 o0 OwnK2 "val$index" "I" (.int 0)) (F_offset_o1 : Fld Z h0 o1 OwnK3 "offset" "I" (.int 0)) (F_root_o1 : Fld Z h0 o1 OwnK3 "root" OwnK8 (.ref o2)) (F_size_o1 : Fld Z h0 o1 OwnK3 "size" "I" (.int 2)) (F_elementData_o2 : Fld Z h0 o2 OwnK4 "elementData" OwnK6 (.ref o3)) (F_mC_o2 : Fld Z h0 o2 OwnK5 "modCount" "I" (.int 2)) (V_o3 : Arv Z h0 o3 c0 (.object "java/lang/Object") (10 : Int32) [(.ref o4), (.ref o5), .null, .null, .null, .null, .null, .null, .null, .null] .null) (O_o3 : Ovr Z c0 "java/lang/Object") (ne_o0_o1 : o0 ≠ o1) (ne_o0_o2 : o0 ≠ o2) (ne_o0_o3 : o0 ≠ o3) (ne_o0_o4 : o0 ≠ o4) (ne_o0_o5 : o0 ≠ o5) (g_o0 : n0 ≤ o0) :
    OwnC l Z (⟨OwnK2, "next", "()Ljava/lang/Object;"⟩ : MethodName) jdk_136_method_3_code 3 (some (.object "java/lang/Object")) ws ({ frames := 1, cells := 0, slots := 0, locals := 12 } : Room) #[(.ref o0)] h0 (fun v h L => v = some (.ref o4) ∧ Fr n0 L ∧ Keep h0 h [o0] ∧ Fld Z h o0 OwnK2 "expectedModCount" "I" (.int 2) ∧ Fld Z h o0 OwnK2 "this$0" OwnK7 (.ref o1) ∧ Fld Z h o0 OwnK2 "val$index" "I" (.int 0) ∧ Fld Z h o0 OwnK2 "cursor" "I" (.int 1) ∧ Fld Z h o0 OwnK2 "lastRet" "I" (.int 0)) := by
  refine own_entry qQ13 (fun m => qQ124 m o0) ?_
  intro p e s m below meth c T0 X0 hC e0
  obtain ⟨hx, hB, hml, hown, hnm, hret, hlk, hZ⟩ := hC
  have N0 := Fr.nil n0
  have K0 := Keep.refl h0 [o0]
  refine oG T0 m 1 #[rv o0, .unset, .unset] [(.ref o0)] (fun t k => XS.aloadN X0.here hx rfl (hb hB d25_0) rfl rfl k) ?_
  obtain ⟨_, T1, L1, X1, ⟨rfl, e1, rfl⟩, st1⟩ := own_virtual X0 hx hZ (y := (⟨OwnK2, "checkForComodification", "()V"⟩ : MethodName)) (z := (⟨OwnK2, "checkForComodification", "()V"⟩ : MethodName)) hown (oW hw 214 rfl) (oW hw 215 rfl) (notFace_of_selects (args := #[]) (mvT hZ (oW hw 217 rfl))) (oW hw 217 rfl) (oW hw 216 rfl) (oW hw 179 rfl) (oW hw 218 rfl) (by decide) (sp54 l Z a0 hw [] o0 o1 o2 h0 n0 Z0 F_xM_o0 F_this_0_o0 F_root_o1 F_mC_o2) e0 E_o0 0 (argsL := []) (rest := []) (Ls := #[rv o0, .unset, .unset]) (by rw [hml]; rfl) (lenOf qQ155 rfl) rfl rfl (Nat.le_of_eq rfl) (hb hB d25_1) (by decide) (by decide) (by decide) (by decide)
  replace X1 := own_nil X1
  refine oG T1 m 4 #[rv o0, .unset, .unset] [] (st1) ?_
  refine oG T1 m 5 #[rv o0, .unset, .unset] [(.ref o0)] (fun t k => XS.aloadN X1.here hx rfl (hb hB d25_4) rfl rfl k) ?_
  obtain ⟨T2, X2, e2, st2⟩ := getF X1 hx hZ hown (host := "") (Or.inl (oW hw 189 rfl)) Via.refl e1 F_cursor_o0 (g := (mkF m 5 #[rv o0, .unset, .unset] [(.ref o0)])) rfl rfl (hb hB d25_5)
  refine oG T2 m 8 #[rv o0, .unset, .unset] [(.int 0)] (st2) ?_
  refine oG T2 m 9 #[rv o0, iv 0, .unset] [] (fun t k => XS.istoreN X2.here hx rfl (hb hB d25_8) rfl rfl k) ?_
  refine oG T2 m 10 #[rv o0, iv 0, .unset] [(.int 0)] (fun t k => XS.iloadN X2.here hx rfl (hb hB d25_9) rfl k) ?_
  refine oG T2 m 11 #[rv o0, iv 0, .unset] [(.ref o0), (.int 0)] (fun t k => XS.aloadN X2.here hx rfl (hb hB d25_10) rfl rfl k) ?_
  obtain ⟨T3, X3, e3, st3⟩ := getF X2 hx hZ hown (host := "") (Or.inl (oW hw 184 rfl)) Via.refl e2 F_this_0_o0 (g := (mkF m 11 #[rv o0, iv 0, .unset] [(.ref o0), (.int 0)])) rfl rfl (hb hB d25_11)
  refine oG T3 m 14 #[rv o0, iv 0, .unset] [(.ref o1), (.int 0)] (st3) ?_
  refine oG T3 m 17 #[rv o0, iv 0, .unset] [(.int 2), (.int 0)] (own_getfRef X3 hx hZ hown (oW hw 205 rfl) e3 F_size_o1 (hb hB d25_14)) ?_
  refine oG T3 m 28 #[rv o0, iv 0, .unset] [] (fun t k => XS.icmpYes X3.here hx rfl (pc0 := 17) (pc' := 28) rfl (hb hB d25_17) rfl (tlt (by decide)).1 (by decide) (by decide) k) ?_
  refine oG T3 m 29 #[rv o0, iv 0, .unset] [(.ref o0)] (fun t k => XS.aloadN X3.here hx rfl (hb hB d25_28) rfl rfl k) ?_
  obtain ⟨T5, X5, e5, st5⟩ := getF X3 hx hZ hown (host := "") (Or.inl (oW hw 184 rfl)) Via.refl e3 F_this_0_o0 (g := (mkF m 29 #[rv o0, iv 0, .unset] [(.ref o0)])) rfl rfl (hb hB d25_29)
  refine oG T5 m 32 #[rv o0, iv 0, .unset] [(.ref o1)] (st5) ?_
  refine oG T5 m 35 #[rv o0, iv 0, .unset] [(.ref o2)] (own_getfRef X5 hx hZ hown (oW hw 219 rfl) e5 F_root_o1 (hb hB d25_32)) ?_
  obtain ⟨T7, X7, e7, st7⟩ := getF X5 hx hZ hown (host := "") (Or.inl (oW hw 221 rfl)) Via.refl e5 F_elementData_o2 (g := (mkF m 35 #[rv o0, iv 0, .unset] [(.ref o2)])) rfl rfl (hb hB d25_35)
  refine oG T7 m 38 #[rv o0, iv 0, .unset] [(.ref o3)] (st7) ?_
  refine oG T7 m 39 #[rv o0, iv 0, rv o3] [] (fun t k => XS.astoreN X7.here hx rfl (hb hB d25_38) rfl rfl rfl k) ?_
  refine oG T7 m 40 #[rv o0, iv 0, rv o3] [(.ref o0)] (fun t k => XS.aloadN X7.here hx rfl (hb hB d25_39) rfl rfl k) ?_
  obtain ⟨T8, X8, e8, st8⟩ := getF X7 hx hZ hown (host := "") (Or.inl (oW hw 184 rfl)) Via.refl e7 F_this_0_o0 (g := (mkF m 40 #[rv o0, iv 0, rv o3] [(.ref o0)])) rfl rfl (hb hB d25_40)
  refine oG T8 m 43 #[rv o0, iv 0, rv o3] [(.ref o1)] (st8) ?_
  refine oG T8 m 46 #[rv o0, iv 0, rv o3] [(.int 0)] (own_getfRef X8 hx hZ hown (oW hw 222 rfl) e8 F_offset_o1 (hb hB d25_43)) ?_
  refine oG T8 m 47 #[rv o0, iv 0, rv o3] [(.int 0), (.int 0)] (fun t k => XS.iloadN X8.here hx rfl (hb hB d25_46) rfl k) ?_
  refine oG T8 m 48 #[rv o0, iv 0, rv o3] [(.int ((0 : Int32) + (0 : Int32)))] (fun t k => XS.iadd X8.here hx rfl (hb hB d25_47) rfl k) ?_
  rw [show ((0 : Int32) + (0 : Int32)) = (0 : Int32) from by decide]
  refine oG T8 m 49 #[rv o0, iv 0, rv o3] [(.ref o3), (.int 0)] (fun t k => XS.aloadN X8.here hx rfl (hb hB d25_48) rfl rfl k) ?_
  refine oG T8 m 50 #[rv o0, iv 0, rv o3] [(.int 10), (.int 0)] (own_alen X8 hx hZ e8 V_o3 (hb hB d25_49)) ?_
  refine oG T8 m 61 #[rv o0, iv 0, rv o3] [] (fun t k => XS.icmpYes X8.here hx rfl (pc0 := 50) (pc' := 61) rfl (hb hB d25_50) rfl (tlt (by decide)).1 (by decide) (by decide) k) ?_
  refine oG T8 m 62 #[rv o0, iv 0, rv o3] [(.ref o0)] (fun t k => XS.aloadN X8.here hx rfl (hb hB d25_61) rfl rfl k) ?_
  refine oG T8 m 63 #[rv o0, iv 0, rv o3] [(.int 0), (.ref o0)] (fun t k => XS.iloadN X8.here hx rfl (hb hB d25_62) rfl k) ?_
  refine oG T8 m 64 #[rv o0, iv 0, rv o3] [(.int 1), (.int 0), (.ref o0)] (fun t k => XS.iconst X8.here hx rfl (hb hB d25_63) k) ?_
  refine oG T8 m 65 #[rv o0, iv 0, rv o3] [(.int ((0 : Int32) + (1 : Int32))), (.ref o0)] (fun t k => XS.iadd X8.here hx rfl (hb hB d25_64) rfl k) ?_
  rw [show ((0 : Int32) + (1 : Int32)) = (1 : Int32) from by decide]
  obtain ⟨T11, h11, X11, e11, W11, st11⟩ := putF X8 hx hZ hown (host := "") (Or.inl (oW hw 189 rfl)) Via.refl e8 F_cursor_o0 E_o0 (Or.inl (oW hw 190 rfl)) (oW hw 178 rfl) (ty := .int) (by decide) rfl rfl (g := (mkF m 65 #[rv o0, iv 0, rv o3] [(.int 1), (.ref o0)])) rfl rfl (hb hB d25_65)
  have F11 := F_cursor_o0.same W11
  have cf12 := E_o0.wr W11
  have cf13 := F_xM_o0.other W11 (Or.inr (slot_ne (Or.inl (oW hw 195 rfl)) (Or.inl (oW hw 190 rfl)) (by decide) (t := .int) (t' := .int) (by decide) (by decide)))
  have cf14 := F_lastRet_o0.other W11 (Or.inr (slot_ne (Or.inl (oW hw 192 rfl)) (Or.inl (oW hw 190 rfl)) (by decide) (t := .int) (t' := .int) (by decide) (by decide)))
  have cf15 := F_this_0_o0.other W11 (Or.inr (slot_ne (Or.inr (oW hw 185 rfl)) (Or.inl (oW hw 190 rfl)) (by decide) (t := (.object OwnK3)) (t' := .int) (by decide) (by decide)))
  have cf16 := F_val_index_o0.other W11 (Or.inr (slot_ne (Or.inr (oW hw 187 rfl)) (Or.inl (oW hw 190 rfl)) (by decide) (t := .int) (t' := .int) (by decide) (by decide)))
  have cf17 := F_offset_o1.other W11 (Or.inl (Ne.symm ne_o0_o1))
  have cf18 := F_root_o1.other W11 (Or.inl (Ne.symm ne_o0_o1))
  have cf19 := F_size_o1.other W11 (Or.inl (Ne.symm ne_o0_o1))
  have cf20 := F_elementData_o2.other W11 (Or.inl (Ne.symm ne_o0_o2))
  have cf21 := F_mC_o2.other W11 (Or.inl (Ne.symm ne_o0_o2))
  have cf22 := V_o3.other W11 (Ne.symm ne_o0_o3)
  have Z_11 : n0 ≤ h11.size := Nat.le_trans Z0 (Keep.of_wr W11).1
  have K_11 : Keep h0 h11 [o0] := K0.wr W11 (oI 0 rfl)
  have N11 := Fr.snoc X11 N0 g_o0
  refine oG T11 m 68 #[rv o0, iv 0, rv o3] [] (st11) ?_
  refine oG T11 m 69 #[rv o0, iv 0, rv o3] [(.ref o3)] (fun t k => XS.aloadN X11.here hx rfl (hb hB d25_68) rfl rfl k) ?_
  refine oG T11 m 70 #[rv o0, iv 0, rv o3] [(.ref o0), (.ref o3)] (fun t k => XS.aloadN X11.here hx rfl (hb hB d25_69) rfl rfl k) ?_
  obtain ⟨T23, X23, e23, st23⟩ := getF X11 hx hZ hown (host := "") (Or.inl (oW hw 184 rfl)) Via.refl e11 cf15 (g := (mkF m 70 #[rv o0, iv 0, rv o3] [(.ref o0), (.ref o3)])) rfl rfl (hb hB d25_70)
  refine oG T23 m 73 #[rv o0, iv 0, rv o3] [(.ref o1), (.ref o3)] (st23) ?_
  refine oG T23 m 76 #[rv o0, iv 0, rv o3] [(.int 0), (.ref o3)] (own_getfRef X23 hx hZ hown (oW hw 222 rfl) e23 cf17 (hb hB d25_73)) ?_
  refine oG T23 m 77 #[rv o0, iv 0, rv o3] [(.ref o0), (.int 0), (.ref o3)] (fun t k => XS.aloadN X23.here hx rfl (hb hB d25_76) rfl rfl k) ?_
  refine oG T23 m 78 #[rv o0, iv 0, rv o3] [(.int 0), (.ref o0), (.int 0), (.ref o3)] (fun t k => XS.iloadN X23.here hx rfl (hb hB d25_77) rfl k) ?_
  refine oG T23 m 79 #[rv o0, iv 0, rv o3] [(.int 0), (.ref o0), (.int 0), (.int 0), (.ref o3)] (fun t k => XS.dupX1 X23.here hx rfl (hb hB d25_78) rfl rfl rfl k) ?_
  obtain ⟨T25, h25, X25, e25, W25, st25⟩ := putF X23 hx hZ hown (host := "") (Or.inl (oW hw 191 rfl)) Via.refl e23 cf14 cf12 (Or.inl (oW hw 192 rfl)) (oW hw 178 rfl) (ty := .int) (by decide) rfl rfl (g := (mkF m 79 #[rv o0, iv 0, rv o3] [(.int 0), (.ref o0), (.int 0), (.int 0), (.ref o3)])) rfl rfl (hb hB d25_79)
  have F25 := cf14.same W25
  have cf26 := cf12.wr W25
  have cf27 := cf13.other W25 (Or.inr (slot_ne (Or.inl (oW hw 195 rfl)) (Or.inl (oW hw 192 rfl)) (by decide) (t := .int) (t' := .int) (by decide) (by decide)))
  have cf28 := cf15.other W25 (Or.inr (slot_ne (Or.inr (oW hw 185 rfl)) (Or.inl (oW hw 192 rfl)) (by decide) (t := (.object OwnK3)) (t' := .int) (by decide) (by decide)))
  have cf29 := cf16.other W25 (Or.inr (slot_ne (Or.inr (oW hw 187 rfl)) (Or.inl (oW hw 192 rfl)) (by decide) (t := .int) (t' := .int) (by decide) (by decide)))
  have cf30 := cf17.other W25 (Or.inl (Ne.symm ne_o0_o1))
  have cf31 := cf18.other W25 (Or.inl (Ne.symm ne_o0_o1))
  have cf32 := cf19.other W25 (Or.inl (Ne.symm ne_o0_o1))
  have cf33 := cf20.other W25 (Or.inl (Ne.symm ne_o0_o2))
  have cf34 := cf21.other W25 (Or.inl (Ne.symm ne_o0_o2))
  have cf35 := cf22.other W25 (Ne.symm ne_o0_o3)
  have cf36 := F11.other W25 (Or.inr (slot_ne (Or.inl (oW hw 190 rfl)) (Or.inl (oW hw 192 rfl)) (by decide) (t := .int) (t' := .int) (by decide) (by decide)))
  have Z_25 : n0 ≤ h25.size := Nat.le_trans Z_11 (Keep.of_wr W25).1
  have K_25 : Keep h0 h25 [o0] := K_11.wr W25 (oI 0 rfl)
  have N25 := Fr.snoc X25 N11 g_o0
  refine oG T25 m 82 #[rv o0, iv 0, rv o3] [(.int 0), (.int 0), (.ref o3)] (st25) ?_
  refine oG T25 m 83 #[rv o0, iv 0, rv o3] [(.int ((0 : Int32) + (0 : Int32))), (.ref o3)] (fun t k => XS.iadd X25.here hx rfl (hb hB d25_82) rfl k) ?_
  rw [show ((0 : Int32) + (0 : Int32)) = (0 : Int32) from by decide]
  refine oG T25 m 84 #[rv o0, iv 0, rv o3] [(.ref o4)] (own_aaload X25 hx hZ e25 cf35 rfl (j := (0 : Int32)) ⟨by decide, by decide⟩ rfl (hb hB d25_83)) ?_
  refine own_retA X25 hx hlk hret rfl rfl rfl (hb hB d25_84) (by decide) (by decide) ?_
  rw [e25]
  exact ⟨rfl, N25, K_25, cf27, cf28, cf29, cf36, F25⟩
theorem qQ60 (m : MethodId) (q0 : Addr) (q1 : Addr) : entryFrame m #[(.ref q0), (.ref q1)] 4 = mkF m 0 #[rv q0, rv q1, .unset, .unset] [] := by first | (simp [entryFrame, mkF, argsToLocals, Value.category]; done) | rfl
theorem sp41 (l : Launch) (Z : State) (a0 : Array Value) (hw : ∀ d ∈ tables_1, d.before a0 Z = true) (ws : List Jvm.Cond) (o0 o1 o2 o3 o4 : Addr) (u0 : Int64) (c0 : ClassId) (h0 : Heap) (n0 : Nat) (Z0 : n0 ≤ h0.size) (F_ahead_o0 : Fld Z h0 o0 OwnK1 "ahead" "I" (.int 0)) (F_changes_o0 : Fld Z h0 o0 OwnK1 "changes" "Ljava/util/List;" (.ref o2)) (E_o1 : Exa Z h0 o1 OwnK0) (F_id_o1 : Fld Z h0 o1 OwnK0 "id" "J" (.long u0)) (E_o2 : Exa Z h0 o2 OwnK4) (F_elementData_o2 : Fld Z h0 o2 OwnK4 "elementData" OwnK6 (.ref o3)) (F_mC_o2 : Fld Z h0 o2 OwnK5 "modCount" "I" (.int 2)) (F_size_o2 : Fld Z h0 o2 OwnK4 "size" "I" (.int 2)) (V_o3 : Arv Z h0 o3 c0 (.object "java/lang/Object") (10 : Int32) [(.ref o1), (.ref o4), .null, .null, .null, .null, .null, .null, .null, .null] .null) (O_o3 : Ovr Z c0 "java/lang/Object") (E_o4 : Exa Z h0 o4 OwnK0) (ne_o0_o1 : o0 ≠ o1) (ne_o0_o2 : o0 ≠ o2) (ne_o0_o3 : o0 ≠ o3) (ne_o0_o4 : o0 ≠ o4) :
    OwnC l Z (⟨OwnK1, "isOfBacklog", "(Lcom/example/newt/newt/core/delivery/Change;)Z"⟩ : MethodName) prog_11_method_4_code 4 (some .boolean) ws ({ frames := 5, cells := 2, slots := 10, locals := 66 } : Room) #[(.ref o0), (.ref o1)] h0 (fun v h L => v = some (.int 1) ∧ Fr n0 L ∧ Keep h0 h []) := by
  refine own_entry qQ2 (fun m => qQ60 m o0 o1) ?_
  intro p e s m below meth c T0 X0 hC e0
  obtain ⟨hx, hB, hml, hown, hnm, hret, hlk, hZ⟩ := hC
  have N0 := Fr.nil n0
  have K0 := Keep.refl h0 []
  refine oG T0 m 1 #[rv o0, rv o1, .unset, .unset] [(.ref o0)] (fun t k => XS.aloadN X0.here hx rfl (hb hB d13_0) rfl rfl k) ?_
  obtain ⟨T1, X1, e1, st1⟩ := getF X0 hx hZ hown (host := "") (Or.inl (oW hw 58 rfl)) Via.refl e0 F_changes_o0 (g := (mkF m 1 #[rv o0, rv o1, .unset, .unset] [(.ref o0)])) rfl rfl (hb hB d13_1)
  refine oG T1 m 4 #[rv o0, rv o1, .unset, .unset] [(.ref o2)] (st1) ?_
  refine oG T1 m 5 #[rv o0, rv o1, .unset, .unset] [(.ref o0), (.ref o2)] (fun t k => XS.aloadN X1.here hx rfl (hb hB d13_4) rfl rfl k) ?_
  obtain ⟨T2, X2, e2, st2⟩ := getF X1 hx hZ hown (host := "") (Or.inl (oW hw 60 rfl)) Via.refl e1 F_ahead_o0 (g := (mkF m 5 #[rv o0, rv o1, .unset, .unset] [(.ref o0), (.ref o2)])) rfl rfl (hb hB d13_5)
  refine oG T2 m 8 #[rv o0, rv o1, .unset, .unset] [(.int 0), (.ref o2)] (st2) ?_
  refine oG T2 m 9 #[rv o0, rv o1, .unset, .unset] [(.ref o0), (.int 0), (.ref o2)] (fun t k => XS.aloadN X2.here hx rfl (hb hB d13_8) rfl rfl k) ?_
  obtain ⟨T3, X3, e3, st3⟩ := getF X2 hx hZ hown (host := "") (Or.inl (oW hw 58 rfl)) Via.refl e2 F_changes_o0 (g := (mkF m 9 #[rv o0, rv o1, .unset, .unset] [(.ref o0), (.int 0), (.ref o2)])) rfl rfl (hb hB d13_9)
  refine oG T3 m 12 #[rv o0, rv o1, .unset, .unset] [(.ref o2), (.int 0), (.ref o2)] (st3) ?_
  obtain ⟨_, T4, L4, X4, ⟨rfl, e4, rfl⟩, st4⟩ := own_interface X3 hx hZ (xi := (⟨"java/util/List", "size", "()I"⟩ : MethodName)) (y := (⟨OwnK4, "size", "()I"⟩ : MethodName)) hown (oW hw 103 rfl) (oW hw 104 rfl) (mvT hZ (oW hw 105 rfl)) (oW hw 106 rfl) (oW hw 107 rfl) (oW hw 108 rfl) (oW hw 109 rfl) (oW hw 110 rfl) (oW hw 29 rfl) (oW hw 111 rfl) (by decide) (sp42 l Z a0 hw [] o2 h0 n0 Z0 F_size_o2) e3 E_o2 2 (argsL := []) (rest := [(.int 0), (.ref o2)]) (Ls := #[rv o0, rv o1, .unset, .unset]) (by rw [hml]; rfl) (lenOf qQ153 rfl) rfl rfl (Nat.le_of_eq rfl) (hb hB d13_12) (by decide) (by decide) (by decide) (by decide)
  replace X4 := own_nil X4
  refine oG T4 m 17 #[rv o0, rv o1, .unset, .unset] [(.int 2), (.int 0), (.ref o2)] (st4) ?_
  obtain ⟨_, T5, L5, X5, ⟨w0_5, rfl, Nq5, Kq5, syw0_5, fq0_5, fq1_5, fq2_5, fq3_5, fq4_5⟩, st5⟩ := own_interface X4 hx hZ (xi := (⟨"java/util/List", "subList", "(II)Ljava/util/List;"⟩ : MethodName)) (y := (⟨OwnK4, "subList", "(II)Ljava/util/List;"⟩ : MethodName)) hown (oW hw 112 rfl) (oW hw 113 rfl) (mvT hZ (oW hw 114 rfl)) (oW hw 115 rfl) (oW hw 116 rfl) (oW hw 117 rfl) (oW hw 118 rfl) (oW hw 110 rfl) (oW hw 29 rfl) (oW hw 119 rfl) (by decide) (sp43 l Z a0 hw [] o2 h0 n0 Z0 F_mC_o2 F_size_o2) e4 E_o2 0 (argsL := [(.int 0), (.int 2)]) (rest := []) (Ls := #[rv o0, rv o1, .unset, .unset]) (by rw [hml]; rfl) (lenOf qQ39 rfl) rfl rfl (Nat.le_of_eq rfl) (hb hB d13_17) (by decide) (by decide) (by decide) (by decide)
  have g_w0_5 : n0 ≤ w0_5 := syw0_5.2
  have sz_w0_5 : h0.size ≤ w0_5 := Nat.le_trans K0.1 syw0_5.1
  have ne_o0_w0_5 : o0 ≠ w0_5 := Nat.ne_of_lt (Nat.lt_of_lt_of_le F_ahead_o0.lt syw0_5.1)
  have ne_o1_w0_5 : o1 ≠ w0_5 := Nat.ne_of_lt (Nat.lt_of_lt_of_le E_o1.lt syw0_5.1)
  have ne_o2_w0_5 : o2 ≠ w0_5 := Nat.ne_of_lt (Nat.lt_of_lt_of_le E_o2.lt syw0_5.1)
  have ne_o3_w0_5 : o3 ≠ w0_5 := Nat.ne_of_lt (Nat.lt_of_lt_of_le V_o3.lt syw0_5.1)
  have ne_o4_w0_5 : o4 ≠ w0_5 := Nat.ne_of_lt (Nat.lt_of_lt_of_le E_o4.lt syw0_5.1)
  have N5 := Fr.app N0 Nq5
  have cf6 := F_ahead_o0.keep Kq5 nin0
  have cf7 := F_changes_o0.keep Kq5 nin0
  have cf8 := E_o1.keep Kq5
  have cf9 := F_id_o1.keep Kq5 nin0
  have cf10 := E_o2.keep Kq5
  have cf11 := F_elementData_o2.keep Kq5 nin0
  have cf12 := F_mC_o2.keep Kq5 nin0
  have cf13 := F_size_o2.keep Kq5 nin0
  have cf14 := V_o3.keep Kq5 nin0
  have cf15 := E_o4.keep Kq5
  have Z_5 : n0 ≤ T5.heap.size := Nat.le_trans Z0 Kq5.1
  have K_5 : Keep h0 T5.heap [] := K0.trans Kq5 all0
  refine oG T5 m 22 #[rv o0, rv o1, .unset, .unset] [(.ref w0_5)] (st5) ?_
  obtain ⟨_, T16, L16, X16, ⟨w0_16, rfl, Nq16, Kq16, syw0_16, fq0_16, fq1_16, fq2_16, fq3_16, fq4_16, fq5_16⟩, st16⟩ := own_interface X5 hx hZ (xi := (⟨"java/util/List", "iterator", "()Ljava/util/Iterator;"⟩ : MethodName)) (y := (⟨OwnK3, "iterator", "()Ljava/util/Iterator;"⟩ : MethodName)) hown (oW hw 146 rfl) (oW hw 147 rfl) (mvT hZ (oW hw 148 rfl)) (oW hw 149 rfl) (oW hw 150 rfl) (oW hw 151 rfl) (oW hw 152 rfl) (oW hw 153 rfl) (oW hw 126 rfl) (oW hw 154 rfl) (by decide) (sp46 l Z a0 hw [] w0_5 o2 T5.heap n0 Z_5 fq0_5 fq4_5 fq1_5 fq3_5 cf12) rfl fq0_5 0 (argsL := []) (rest := []) (Ls := #[rv o0, rv o1, .unset, .unset]) (by rw [hml]; rfl) (lenOf qQ35 rfl) rfl rfl (Nat.le_of_eq rfl) (hb hB d13_22) (by decide) (by decide) (by decide) (by decide)
  have g_w0_16 : n0 ≤ w0_16 := syw0_16.2
  have sz_w0_16 : h0.size ≤ w0_16 := Nat.le_trans K_5.1 syw0_16.1
  have ne_o0_w0_16 : o0 ≠ w0_16 := Nat.ne_of_lt (Nat.lt_of_lt_of_le cf6.lt syw0_16.1)
  have ne_o1_w0_16 : o1 ≠ w0_16 := Nat.ne_of_lt (Nat.lt_of_lt_of_le cf8.lt syw0_16.1)
  have ne_o2_w0_16 : o2 ≠ w0_16 := Nat.ne_of_lt (Nat.lt_of_lt_of_le cf10.lt syw0_16.1)
  have ne_o3_w0_16 : o3 ≠ w0_16 := Nat.ne_of_lt (Nat.lt_of_lt_of_le cf14.lt syw0_16.1)
  have ne_o4_w0_16 : o4 ≠ w0_16 := Nat.ne_of_lt (Nat.lt_of_lt_of_le cf15.lt syw0_16.1)
  have ne_w0_5_w0_16 : w0_5 ≠ w0_16 := Nat.ne_of_lt (Nat.lt_of_lt_of_le fq0_5.lt syw0_16.1)
  have N16 := Fr.app N5 Nq16
  have cf17 := cf6.keep Kq16 nin0
  have cf18 := cf7.keep Kq16 nin0
  have cf19 := cf8.keep Kq16
  have cf20 := cf9.keep Kq16 nin0
  have cf21 := cf10.keep Kq16
  have cf22 := cf11.keep Kq16 nin0
  have cf23 := cf12.keep Kq16 nin0
  have cf24 := cf13.keep Kq16 nin0
  have cf25 := cf14.keep Kq16 nin0
  have cf26 := cf15.keep Kq16
  have cf27 := fq0_5.keep Kq16
  have cf28 := fq1_5.keep Kq16 nin0
  have cf29 := fq2_5.keep Kq16 nin0
  have cf30 := fq3_5.keep Kq16 nin0
  have cf31 := fq4_5.keep Kq16 nin0
  have Z_16 : n0 ≤ T16.heap.size := Nat.le_trans Z_5 Kq16.1
  have K_16 : Keep h0 T16.heap [] := K_5.trans Kq16 all0
  refine oG T16 m 27 #[rv o0, rv o1, .unset, .unset] [(.ref w0_16)] (st16) ?_
  refine oG T16 m 28 #[rv o0, rv o1, rv w0_16, .unset] [] (fun t k => XS.astoreN X16.here hx rfl (hb hB d13_27) rfl rfl rfl k) ?_
  refine oG T16 m 29 #[rv o0, rv o1, rv w0_16, .unset] [(.ref w0_16)] (fun t k => XS.aloadN X16.here hx rfl (hb hB d13_28) rfl rfl k) ?_
  obtain ⟨_, T32, L32, X32, ⟨rfl, e32, rfl⟩, st32⟩ := own_interface X16 hx hZ (xi := (⟨"java/util/Iterator", "hasNext", "()Z"⟩ : MethodName)) (y := (⟨OwnK2, "hasNext", "()Z"⟩ : MethodName)) hown (oW hw 196 rfl) (oW hw 197 rfl) (mvT hZ (oW hw 198 rfl)) (oW hw 199 rfl) (oW hw 200 rfl) (oW hw 201 rfl) (oW hw 202 rfl) (oW hw 203 rfl) (oW hw 179 rfl) (oW hw 204 rfl) (by decide) (sp52 l Z a0 hw [] w0_16 w0_5 T16.heap n0 Z_16 fq3_16 fq1_16 cf30) rfl fq0_16 0 (argsL := []) (rest := []) (Ls := #[rv o0, rv o1, rv w0_16, .unset]) (by rw [hml]; rfl) (lenOf qQ158 rfl) rfl rfl (Nat.le_of_eq rfl) (hb hB d13_29) (by decide) (by decide) (by decide) (by decide)
  replace X32 := own_nil X32
  refine oG T32 m 34 #[rv o0, rv o1, rv w0_16, .unset] [(.int 1)] (st32) ?_
  refine oG T32 m 37 #[rv o0, rv o1, rv w0_16, .unset] [] (fun t k => XS.ifNo X32.here hx rfl (hb hB d13_34) rfl ((if0 _ _).trans (feq (by decide)).1) k) ?_
  refine oG T32 m 38 #[rv o0, rv o1, rv w0_16, .unset] [(.ref w0_16)] (fun t k => XS.aloadN X32.here hx rfl (hb hB d13_37) rfl rfl k) ?_
  obtain ⟨_, T33, L33, X33, ⟨rfl, Nq33, Kq33, fq0_33, fq1_33, fq2_33, fq3_33, fq4_33⟩, st33⟩ := own_interface X32 hx hZ (xi := (⟨"java/util/Iterator", "next", "()Ljava/lang/Object;"⟩ : MethodName)) (y := (⟨OwnK2, "next", "()Ljava/lang/Object;"⟩ : MethodName)) hown (oW hw 206 rfl) (oW hw 207 rfl) (mvT hZ (oW hw 208 rfl)) (oW hw 209 rfl) (oW hw 210 rfl) (oW hw 211 rfl) (oW hw 212 rfl) (oW hw 203 rfl) (oW hw 179 rfl) (oW hw 213 rfl) (by decide) (sp53 l Z a0 hw [] w0_16 w0_5 o2 o3 o1 o4 c0 T16.heap n0 Z_16 fq0_16 fq3_16 fq5_16 fq4_16 fq1_16 fq2_16 cf29 cf28 cf30 cf22 cf23 cf25 O_o3 (Ne.symm ne_w0_5_w0_16) (Ne.symm ne_o2_w0_16) (Ne.symm ne_o3_w0_16) (Ne.symm ne_o1_w0_16) (Ne.symm ne_o4_w0_16) g_w0_16) e32 fq0_16 0 (argsL := []) (rest := []) (Ls := #[rv o0, rv o1, rv w0_16, .unset]) (by rw [hml]; rfl) (lenOf qQ38 rfl) rfl rfl (Nat.le_of_eq rfl) (hb hB d13_38) (by decide) (by decide) (by decide) (by decide)
  have N33 := Fr.app N16 Nq33
  have cf34 := cf17.keep Kq33 (ninS ne_o0_w0_16 nin0)
  have cf35 := cf18.keep Kq33 (ninS ne_o0_w0_16 nin0)
  have cf36 := cf19.keep Kq33
  have cf37 := cf20.keep Kq33 (ninS ne_o1_w0_16 nin0)
  have cf38 := cf21.keep Kq33
  have cf39 := cf22.keep Kq33 (ninS ne_o2_w0_16 nin0)
  have cf40 := cf23.keep Kq33 (ninS ne_o2_w0_16 nin0)
  have cf41 := cf24.keep Kq33 (ninS ne_o2_w0_16 nin0)
  have cf42 := cf25.keep Kq33 (ninS ne_o3_w0_16 nin0)
  have cf43 := cf26.keep Kq33
  have cf44 := cf27.keep Kq33
  have cf45 := cf28.keep Kq33 (ninS ne_w0_5_w0_16 nin0)
  have cf46 := cf29.keep Kq33 (ninS ne_w0_5_w0_16 nin0)
  have cf47 := cf30.keep Kq33 (ninS ne_w0_5_w0_16 nin0)
  have cf48 := cf31.keep Kq33 (ninS ne_w0_5_w0_16 nin0)
  have cf49 := fq0_16.keep Kq33
  have Z_33 : n0 ≤ T33.heap.size := Nat.le_trans Z_16 Kq33.1
  have K_33 : Keep h0 T33.heap [] := K_16.trans Kq33 (allS (Or.inr sz_w0_16) all0)
  refine oG T33 m 43 #[rv o0, rv o1, rv w0_16, .unset] [(.ref o1)] (st33) ?_
  obtain ⟨T50, X50, e50, st50⟩ := castY X33 hx hZ hown (oW hw 223 rfl) rfl (Ins.self cf36) (g := (mkF m 43 #[rv o0, rv o1, rv w0_16, .unset] [(.ref o1)])) rfl rfl (hb hB d13_43)
  refine oG T50 m 46 #[rv o0, rv o1, rv w0_16, .unset] [(.ref o1)] (st50) ?_
  refine oG T50 m 47 #[rv o0, rv o1, rv w0_16, rv o1] [] (fun t k => XS.astoreN X50.here hx rfl (hb hB d13_46) rfl rfl rfl k) ?_
  refine oG T50 m 48 #[rv o0, rv o1, rv w0_16, rv o1] [(.ref o1)] (fun t k => XS.aloadN X50.here hx rfl (hb hB d13_47) rfl rfl k) ?_
  obtain ⟨_, T51, L51, X51, ⟨rfl, e51, rfl⟩, st51⟩ := own_virtual X50 hx hZ (y := (⟨OwnK0, "getId", "()J"⟩ : MethodName)) (z := (⟨OwnK0, "getId", "()J"⟩ : MethodName)) hown (oW hw 225 rfl) (oW hw 226 rfl) (notFace_of_selects (args := #[]) (mvT hZ (oW hw 228 rfl))) (oW hw 228 rfl) (oW hw 227 rfl) (oW hw 3 rfl) (oW hw 229 rfl) (by decide) (sp27 l Z a0 hw [] o1 u0 T33.heap n0 Z_33 cf37) e50 cf36 0 (argsL := []) (rest := []) (Ls := #[rv o0, rv o1, rv w0_16, rv o1]) (by rw [hml]; rfl) (lenOf qQ159 rfl) rfl rfl (Nat.le_of_eq rfl) (hb hB d13_48) (by decide) (by decide) (by decide) (by decide)
  replace X51 := own_nil X51
  refine oG T51 m 51 #[rv o0, rv o1, rv w0_16, rv o1] [(.long u0)] (st51) ?_
  refine oG T51 m 52 #[rv o0, rv o1, rv w0_16, rv o1] [(.ref o1), (.long u0)] (fun t k => XS.aloadN X51.here hx rfl (hb hB d13_51) rfl rfl k) ?_
  obtain ⟨_, T52, L52, X52, ⟨rfl, e52, rfl⟩, st52⟩ := own_virtual X51 hx hZ (y := (⟨OwnK0, "getId", "()J"⟩ : MethodName)) (z := (⟨OwnK0, "getId", "()J"⟩ : MethodName)) hown (oW hw 225 rfl) (oW hw 226 rfl) (notFace_of_selects (args := #[]) (mvT hZ (oW hw 228 rfl))) (oW hw 228 rfl) (oW hw 227 rfl) (oW hw 3 rfl) (oW hw 229 rfl) (by decide) (sp27 l Z a0 hw [] o1 u0 T33.heap n0 Z_33 cf37) e51 cf36 2 (argsL := []) (rest := [(.long u0)]) (Ls := #[rv o0, rv o1, rv w0_16, rv o1]) (by rw [hml]; rfl) (lenOf qQ159 rfl) rfl rfl (Nat.le_of_eq rfl) (hb hB d13_52) (by decide) (by decide) (by decide) (by decide)
  replace X52 := own_nil X52
  refine oG T52 m 55 #[rv o0, rv o1, rv w0_16, rv o1] [(.long u0), (.long u0)] (st52) ?_
  refine oG T52 m 56 #[rv o0, rv o1, rv w0_16, rv o1] [(.int (lcmpW u0 u0))] (fun t k => XS.lcmp X52.here hx rfl (hb hB d13_55) rfl k) ?_
  refine oG T52 m 59 #[rv o0, rv o1, rv w0_16, rv o1] [] (fun t k => XS.ifNo X52.here hx rfl (hb hB d13_56) rfl ((if0 _ _).trans (teq ((lw_eq u0 u0).mpr rfl)).2) k) ?_
  refine oG T52 m 60 #[rv o0, rv o1, rv w0_16, rv o1] [(.int 1)] (fun t k => XS.iconst X52.here hx rfl (hb hB d13_59) k) ?_
  refine own_retZ X52 hx hlk hret (by decide) (hb hB d13_60) (by decide) (by decide) ?_
  rw [e52]
  exact ⟨rfl, N33, K_33⟩
theorem qQ112 (m : MethodId) (q0 : Int32) (q1 : Int32) (q2 : Int32) : entryFrame m #[(.int q0), (.int q1), (.int q2)] 3 = mkF m 0 #[iv q0, iv q1, iv q2] [] := by first | (simp [entryFrame, mkF, argsToLocals, Value.category]; done) | rfl
theorem sp57 (l : Launch) (Z : State) (a0 : Array Value) (hw : ∀ d ∈ tables_1, d.before a0 Z = true) (ws : List Jvm.Cond) (h0 : Heap) (n0 : Nat) (Z0 : n0 ≤ h0.size) :
    OwnC l Z (⟨OwnK5, "subListRangeCheck", "(III)V"⟩ : MethodName) jdk_39_method_15_code 3 none ws ({ frames := 0, cells := 0, slots := 0, locals := 0 } : Room) #[(.int 1), (.int 2), (.int 2)] h0 (fun v h L => v = none ∧ h = h0 ∧ L = []) := by
  refine own_entry qQ19 (fun m => qQ112 m (1 : Int32) (2 : Int32) (2 : Int32)) ?_
  intro p e s m below meth c T0 X0 hC e0
  obtain ⟨hx, hB, hml, hown, hnm, hret, hlk, hZ⟩ := hC
  have N0 := Fr.nil n0
  have K0 := Keep.refl h0 []
  refine oG T0 m 1 #[iv 1, iv 2, iv 2] [(.int 1)] (fun t k => XS.iloadN X0.here hx rfl (hb hB d16_0) rfl k) ?_
  refine oG T0 m 31 #[iv 1, iv 2, iv 2] [] (fun t k => XS.ifYes X0.here hx rfl (pc0 := 1) (pc' := 31) rfl (hb hB d16_1) rfl ((if0 _ _).trans (flt (by decide)).2.1) (by decide) (by decide) k) ?_
  refine oG T0 m 32 #[iv 1, iv 2, iv 2] [(.int 2)] (fun t k => XS.iloadN X0.here hx rfl (hb hB d16_31) rfl k) ?_
  refine oG T0 m 33 #[iv 1, iv 2, iv 2] [(.int 2), (.int 2)] (fun t k => XS.iloadN X0.here hx rfl (hb hB d16_32) rfl k) ?_
  refine oG T0 m 63 #[iv 1, iv 2, iv 2] [] (fun t k => XS.icmpYes X0.here hx rfl (pc0 := 33) (pc' := 63) rfl (hb hB d16_33) rfl (flt (by decide)).2.2.2 (by decide) (by decide) k) ?_
  refine oG T0 m 64 #[iv 1, iv 2, iv 2] [(.int 1)] (fun t k => XS.iloadN X0.here hx rfl (hb hB d16_63) rfl k) ?_
  refine oG T0 m 65 #[iv 1, iv 2, iv 2] [(.int 2), (.int 1)] (fun t k => XS.iloadN X0.here hx rfl (hb hB d16_64) rfl k) ?_
  refine oG T0 m 109 #[iv 1, iv 2, iv 2] [] (fun t k => XS.icmpYes X0.here hx rfl (pc0 := 65) (pc' := 109) rfl (hb hB d16_65) rfl (flt (by decide)).2.2.2 (by decide) (by decide) k) ?_
  refine own_retV X0 hx hlk hret (hb hB d16_109) (by decide) (by decide) ?_
  exact ⟨rfl, e0, rfl⟩
theorem qQ76 (m : MethodId) (q0 : Addr) (q1 : Addr) (q2 : Int32) (q3 : Int32) : entryFrame m #[(.ref q0), (.ref q1), (.int q2), (.int q3)] 4 = mkF m 0 #[rv q0, rv q1, iv q2, iv q3] [] := by first | (simp [entryFrame, mkF, argsToLocals, Value.category]; done) | rfl
theorem sp58 (l : Launch) (Z : State) (a0 : Array Value) (hw : ∀ d ∈ tables_1, d.before a0 Z = true) (ws : List Jvm.Cond) (o0 o1 : Addr) (h0 : Heap) (n0 : Nat) (Z0 : n0 ≤ h0.size) (E_o0 : Exa Z h0 o0 OwnK3) (F_mC_o0 : Fld Z h0 o0 OwnK5 "modCount" "I" (.int 0)) (F_offset_o0 : Fld Z h0 o0 OwnK3 "offset" "I" (.int 0)) (F_parent_o0 : Fld Z h0 o0 OwnK3 "parent" OwnK7 .null) (F_root_o0 : Fld Z h0 o0 OwnK3 "root" OwnK8 .null) (F_size_o0 : Fld Z h0 o0 OwnK3 "size" "I" (.int 0)) (F_mC_o1 : Fld Z h0 o1 OwnK5 "modCount" "I" (.int 2)) (ne_o0_o1 : o0 ≠ o1) (g_o0 : n0 ≤ o0) :
    OwnC l Z (⟨OwnK3, "<init>", "(Ljava/util/ArrayList;II)V"⟩ : MethodName) jdk_130_method_1_code 4 none ws ({ frames := 3, cells := 0, slots := 0, locals := 36 } : Room) #[(.ref o0), (.ref o1), (.int 1), (.int 2)] h0 (fun v h L => v = none ∧ Fr n0 L ∧ Keep h0 h [o0] ∧ Fld Z h o0 OwnK3 "root" OwnK8 (.ref o1) ∧ Fld Z h o0 OwnK3 "offset" "I" (.int 1) ∧ Fld Z h o0 OwnK3 "size" "I" (.int 1) ∧ Fld Z h o0 OwnK5 "modCount" "I" (.int 2)) := by
  refine own_entry qQ10 (fun m => qQ76 m o0 o1 (1 : Int32) (2 : Int32)) ?_
  intro p e s m below meth c T0 X0 hC e0
  obtain ⟨hx, hB, hml, hown, hnm, hret, hlk, hZ⟩ := hC
  have N0 := Fr.nil n0
  have K0 := Keep.refl h0 [o0]
  refine oG T0 m 1 #[rv o0, rv o1, iv 1, iv 2] [(.ref o0)] (fun t k => XS.aloadN X0.here hx rfl (hb hB d17_0) rfl rfl k) ?_
  obtain ⟨_, T1, L1, X1, ⟨rfl, Nq1, Kq1, fq0_1, fq1_1, fq2_1, fq3_1, fq4_1⟩, st1⟩ := own_init X0 hx hZ (y := (⟨OwnK5, "<init>", "()V"⟩ : MethodName)) rfl hown (oW hw 131 rfl) (oW hw 34 rfl) (oW hw 37 rfl) (oW hw 38 rfl) (by decide) (sp17 l Z a0 hw [] o0 h0 n0 Z0 E_o0 F_mC_o0 F_offset_o0 F_parent_o0 F_root_o0 F_size_o0 g_o0) e0 (a := o0) 0 (argsL := []) (rest := []) (Ls := #[rv o0, rv o1, iv 1, iv 2]) (by rw [hml]; rfl) (lenOf qQ155 rfl) rfl rfl (Nat.le_of_eq rfl) (hb hB d17_1) (by decide) (by decide) (by decide) (by decide)
  have N1 := Fr.app N0 Nq1
  have cf2 := E_o0.keep Kq1
  have cf3 := F_mC_o1.keep Kq1 (ninS (Ne.symm ne_o0_o1) nin0)
  have Z_1 : n0 ≤ T1.heap.size := Nat.le_trans Z0 Kq1.1
  have K_1 : Keep h0 T1.heap [o0] := K0.trans Kq1 (allS (oI 0 rfl) all0)
  refine oG T1 m 4 #[rv o0, rv o1, iv 1, iv 2] [] (st1) ?_
  refine oG T1 m 5 #[rv o0, rv o1, iv 1, iv 2] [(.ref o0)] (fun t k => XS.aloadN X1.here hx rfl (hb hB d17_4) rfl rfl k) ?_
  refine oG T1 m 6 #[rv o0, rv o1, iv 1, iv 2] [(.ref o1), (.ref o0)] (fun t k => XS.aloadN X1.here hx rfl (hb hB d17_5) rfl rfl k) ?_
  obtain ⟨T4, h4, X4, e4, W4, st4⟩ := putF X1 hx hZ hown (host := "") (Or.inl (oW hw 135 rfl)) Via.refl rfl fq2_1 cf2 (Or.inr ⟨(oW hw 136 rfl), rfl, hnm⟩) (oW hw 125 rfl) (ty := (.object OwnK4)) (by decide) rfl rfl (g := (mkF m 6 #[rv o0, rv o1, iv 1, iv 2] [(.ref o1), (.ref o0)])) rfl rfl (hb hB d17_6)
  have F4 := fq2_1.same W4
  have cf5 := cf2.wr W4
  have cf6 := cf3.other W4 (Or.inl (Ne.symm ne_o0_o1))
  have cf7 := fq0_1.other W4 (Or.inr (slot_ne (Or.inr (oW hw 140 rfl)) (Or.inr (oW hw 136 rfl)) (by decide) (t := .int) (t' := (.object OwnK4)) (by decide) (by decide)))
  have cf8 := fq1_1.other W4 (Or.inr (slot_ne (Or.inr (oW hw 138 rfl)) (Or.inr (oW hw 136 rfl)) (by decide) (t := (.object OwnK3)) (t' := (.object OwnK4)) (by decide) (by decide)))
  have cf9 := fq3_1.other W4 (Or.inr (slot_ne (Or.inl (oW hw 142 rfl)) (Or.inr (oW hw 136 rfl)) (by decide) (t := .int) (t' := (.object OwnK4)) (by decide) (by decide)))
  have cf10 := fq4_1.other W4 (Or.inr (slot_ne (Or.inl (oW hw 134 rfl)) (Or.inr (oW hw 136 rfl)) (by decide) (t := .int) (t' := (.object OwnK4)) (by decide) (by decide)))
  have Z_4 : n0 ≤ h4.size := Nat.le_trans Z_1 (Keep.of_wr W4).1
  have K_4 : Keep h0 h4 [o0] := K_1.wr W4 (oI 0 rfl)
  have N4 := Fr.snoc X4 N1 g_o0
  refine oG T4 m 9 #[rv o0, rv o1, iv 1, iv 2] [] (st4) ?_
  refine oG T4 m 10 #[rv o0, rv o1, iv 1, iv 2] [(.ref o0)] (fun t k => XS.aloadN X4.here hx rfl (hb hB d17_9) rfl rfl k) ?_
  refine oG T4 m 11 #[rv o0, rv o1, iv 1, iv 2] [.null, (.ref o0)] (fun t k => XS.aconstNull X4.here hx rfl (hb hB d17_10) k) ?_
  obtain ⟨T11, h11, X11, e11, W11, st11⟩ := putF X4 hx hZ hown (host := "") (Or.inl (oW hw 137 rfl)) Via.refl e4 cf8 cf5 (Or.inr ⟨(oW hw 138 rfl), rfl, hnm⟩) (oW hw 125 rfl) (ty := (.object OwnK3)) (by decide) rfl rfl (g := (mkF m 11 #[rv o0, rv o1, iv 1, iv 2] [.null, (.ref o0)])) rfl rfl (hb hB d17_11)
  have F11 := cf8.same W11
  have cf12 := cf5.wr W11
  have cf13 := cf6.other W11 (Or.inl (Ne.symm ne_o0_o1))
  have cf14 := cf7.other W11 (Or.inr (slot_ne (Or.inr (oW hw 140 rfl)) (Or.inr (oW hw 138 rfl)) (by decide) (t := .int) (t' := (.object OwnK3)) (by decide) (by decide)))
  have cf15 := cf9.other W11 (Or.inr (slot_ne (Or.inl (oW hw 142 rfl)) (Or.inr (oW hw 138 rfl)) (by decide) (t := .int) (t' := (.object OwnK3)) (by decide) (by decide)))
  have cf16 := cf10.other W11 (Or.inr (slot_ne (Or.inl (oW hw 134 rfl)) (Or.inr (oW hw 138 rfl)) (by decide) (t := .int) (t' := (.object OwnK3)) (by decide) (by decide)))
  have cf17 := F4.other W11 (Or.inr (slot_ne (Or.inr (oW hw 136 rfl)) (Or.inr (oW hw 138 rfl)) (by decide) (t := (.object OwnK4)) (t' := (.object OwnK3)) (by decide) (by decide)))
  have Z_11 : n0 ≤ h11.size := Nat.le_trans Z_4 (Keep.of_wr W11).1
  have K_11 : Keep h0 h11 [o0] := K_4.wr W11 (oI 0 rfl)
  have N11 := Fr.snoc X11 N4 g_o0
  refine oG T11 m 14 #[rv o0, rv o1, iv 1, iv 2] [] (st11) ?_
  refine oG T11 m 15 #[rv o0, rv o1, iv 1, iv 2] [(.ref o0)] (fun t k => XS.aloadN X11.here hx rfl (hb hB d17_14) rfl rfl k) ?_
  refine oG T11 m 16 #[rv o0, rv o1, iv 1, iv 2] [(.int 1), (.ref o0)] (fun t k => XS.iloadN X11.here hx rfl (hb hB d17_15) rfl k) ?_
  obtain ⟨T18, h18, X18, e18, W18, st18⟩ := putF X11 hx hZ hown (host := "") (Or.inl (oW hw 139 rfl)) Via.refl e11 cf14 cf12 (Or.inr ⟨(oW hw 140 rfl), rfl, hnm⟩) (oW hw 125 rfl) (ty := .int) (by decide) rfl rfl (g := (mkF m 16 #[rv o0, rv o1, iv 1, iv 2] [(.int 1), (.ref o0)])) rfl rfl (hb hB d17_16)
  have F18 := cf14.same W18
  have cf19 := cf12.wr W18
  have cf20 := cf13.other W18 (Or.inl (Ne.symm ne_o0_o1))
  have cf21 := cf15.other W18 (Or.inr (slot_ne (Or.inl (oW hw 142 rfl)) (Or.inr (oW hw 140 rfl)) (by decide) (t := .int) (t' := .int) (by decide) (by decide)))
  have cf22 := cf16.other W18 (Or.inr (slot_ne (Or.inl (oW hw 134 rfl)) (Or.inr (oW hw 140 rfl)) (by decide) (t := .int) (t' := .int) (by decide) (by decide)))
  have cf23 := cf17.other W18 (Or.inr (slot_ne (Or.inr (oW hw 136 rfl)) (Or.inr (oW hw 140 rfl)) (by decide) (t := (.object OwnK4)) (t' := .int) (by decide) (by decide)))
  have cf24 := F11.other W18 (Or.inr (slot_ne (Or.inr (oW hw 138 rfl)) (Or.inr (oW hw 140 rfl)) (by decide) (t := (.object OwnK3)) (t' := .int) (by decide) (by decide)))
  have Z_18 : n0 ≤ h18.size := Nat.le_trans Z_11 (Keep.of_wr W18).1
  have K_18 : Keep h0 h18 [o0] := K_11.wr W18 (oI 0 rfl)
  have N18 := Fr.snoc X18 N11 g_o0
  refine oG T18 m 19 #[rv o0, rv o1, iv 1, iv 2] [] (st18) ?_
  refine oG T18 m 20 #[rv o0, rv o1, iv 1, iv 2] [(.ref o0)] (fun t k => XS.aloadN X18.here hx rfl (hb hB d17_19) rfl rfl k) ?_
  refine oG T18 m 21 #[rv o0, rv o1, iv 1, iv 2] [(.int 2), (.ref o0)] (fun t k => XS.iloadN X18.here hx rfl (hb hB d17_20) rfl k) ?_
  refine oG T18 m 22 #[rv o0, rv o1, iv 1, iv 2] [(.int 1), (.int 2), (.ref o0)] (fun t k => XS.iloadN X18.here hx rfl (hb hB d17_21) rfl k) ?_
  refine oG T18 m 23 #[rv o0, rv o1, iv 1, iv 2] [(.int ((2 : Int32) - (1 : Int32))), (.ref o0)] (fun t k => XS.isub X18.here hx rfl (hb hB d17_22) rfl k) ?_
  rw [show ((2 : Int32) - (1 : Int32)) = (1 : Int32) from by decide]
  obtain ⟨T25, h25, X25, e25, W25, st25⟩ := putF X18 hx hZ hown (host := "") (Or.inl (oW hw 141 rfl)) Via.refl e18 cf21 cf19 (Or.inl (oW hw 142 rfl)) (oW hw 125 rfl) (ty := .int) (by decide) rfl rfl (g := (mkF m 23 #[rv o0, rv o1, iv 1, iv 2] [(.int 1), (.ref o0)])) rfl rfl (hb hB d17_23)
  have F25 := cf21.same W25
  have cf26 := cf19.wr W25
  have cf27 := cf20.other W25 (Or.inl (Ne.symm ne_o0_o1))
  have cf28 := cf22.other W25 (Or.inr (slot_ne (Or.inl (oW hw 134 rfl)) (Or.inl (oW hw 142 rfl)) (by decide) (t := .int) (t' := .int) (by decide) (by decide)))
  have cf29 := cf23.other W25 (Or.inr (slot_ne (Or.inr (oW hw 136 rfl)) (Or.inl (oW hw 142 rfl)) (by decide) (t := (.object OwnK4)) (t' := .int) (by decide) (by decide)))
  have cf30 := cf24.other W25 (Or.inr (slot_ne (Or.inr (oW hw 138 rfl)) (Or.inl (oW hw 142 rfl)) (by decide) (t := (.object OwnK3)) (t' := .int) (by decide) (by decide)))
  have cf31 := F18.other W25 (Or.inr (slot_ne (Or.inr (oW hw 140 rfl)) (Or.inl (oW hw 142 rfl)) (by decide) (t := .int) (t' := .int) (by decide) (by decide)))
  have Z_25 : n0 ≤ h25.size := Nat.le_trans Z_18 (Keep.of_wr W25).1
  have K_25 : Keep h0 h25 [o0] := K_18.wr W25 (oI 0 rfl)
  have N25 := Fr.snoc X25 N18 g_o0
  refine oG T25 m 26 #[rv o0, rv o1, iv 1, iv 2] [] (st25) ?_
  refine oG T25 m 27 #[rv o0, rv o1, iv 1, iv 2] [(.ref o0)] (fun t k => XS.aloadN X25.here hx rfl (hb hB d17_26) rfl rfl k) ?_
  refine oG T25 m 28 #[rv o0, rv o1, iv 1, iv 2] [(.ref o1), (.ref o0)] (fun t k => XS.aloadN X25.here hx rfl (hb hB d17_27) rfl rfl k) ?_
  obtain ⟨T32, X32, e32, st32⟩ := getF X25 hx hZ hown (host := "") (Or.inl (oW hw 143 rfl)) (Via.of (oW hw 73 rfl)) e25 cf27 (g := (mkF m 28 #[rv o0, rv o1, iv 1, iv 2] [(.ref o1), (.ref o0)])) rfl rfl (hb hB d17_28)
  refine oG T32 m 31 #[rv o0, rv o1, iv 1, iv 2] [(.int 2), (.ref o0)] (st32) ?_
  obtain ⟨T33, h33, X33, e33, W33, st33⟩ := putF X32 hx hZ hown (host := "") (Or.inl (oW hw 144 rfl)) (Via.of (oW hw 145 rfl)) e32 cf28 cf26 (Or.inl (oW hw 134 rfl)) (oW hw 125 rfl) (ty := .int) (by decide) rfl rfl (g := (mkF m 31 #[rv o0, rv o1, iv 1, iv 2] [(.int 2), (.ref o0)])) rfl rfl (hb hB d17_31)
  have F33 := cf28.same W33
  have cf34 := cf26.wr W33
  have cf35 := cf27.other W33 (Or.inl (Ne.symm ne_o0_o1))
  have cf36 := cf29.other W33 (Or.inr (slot_ne (Or.inr (oW hw 136 rfl)) (Or.inl (oW hw 134 rfl)) (by decide) (t := (.object OwnK4)) (t' := .int) (by decide) (by decide)))
  have cf37 := cf30.other W33 (Or.inr (slot_ne (Or.inr (oW hw 138 rfl)) (Or.inl (oW hw 134 rfl)) (by decide) (t := (.object OwnK3)) (t' := .int) (by decide) (by decide)))
  have cf38 := cf31.other W33 (Or.inr (slot_ne (Or.inr (oW hw 140 rfl)) (Or.inl (oW hw 134 rfl)) (by decide) (t := .int) (t' := .int) (by decide) (by decide)))
  have cf39 := F25.other W33 (Or.inr (slot_ne (Or.inl (oW hw 142 rfl)) (Or.inl (oW hw 134 rfl)) (by decide) (t := .int) (t' := .int) (by decide) (by decide)))
  have Z_33 : n0 ≤ h33.size := Nat.le_trans Z_25 (Keep.of_wr W33).1
  have K_33 : Keep h0 h33 [o0] := K_25.wr W33 (oI 0 rfl)
  have N33 := Fr.snoc X33 N25 g_o0
  refine oG T33 m 34 #[rv o0, rv o1, iv 1, iv 2] [] (st33) ?_
  refine own_retV X33 hx hlk hret (hb hB d17_34) (by decide) (by decide) ?_
  rw [e33]
  exact ⟨rfl, N33, K_33, cf36, cf38, cf39, F33⟩
theorem qQ149 (m : MethodId) (q0 : Addr) (q1 : Int32) (q2 : Int32) : entryFrame m #[(.ref q0), (.int q1), (.int q2)] 3 = mkF m 0 #[rv q0, iv q1, iv q2] [] := by first | (simp [entryFrame, mkF, argsToLocals, Value.category]; done) | rfl
theorem sp56 (l : Launch) (Z : State) (a0 : Array Value) (hw : ∀ d ∈ tables_1, d.before a0 Z = true) (ws : List Jvm.Cond) (o0 : Addr) (h0 : Heap) (n0 : Nat) (Z0 : n0 ≤ h0.size) (F_mC_o0 : Fld Z h0 o0 OwnK5 "modCount" "I" (.int 2)) (F_size_o0 : Fld Z h0 o0 OwnK4 "size" "I" (.int 2)) :
    OwnC l Z (⟨OwnK4, "subList", "(II)Ljava/util/List;"⟩ : MethodName) jdk_38_method_56_code 3 (some (.object "java/util/List")) ws ({ frames := 4, cells := 1, slots := 5, locals := 52 } : Room) #[(.ref o0), (.int 1), (.int 2)] h0 (fun v h L => ∃ (w0 : Addr), v = some (.ref w0) ∧ Fr n0 L ∧ Keep h0 h [] ∧ (h0.size ≤ w0 ∧ n0 ≤ w0) ∧ Exa Z h w0 OwnK3 ∧ Fld Z h w0 OwnK3 "root" OwnK8 (.ref o0) ∧ Fld Z h w0 OwnK3 "offset" "I" (.int 1) ∧ Fld Z h w0 OwnK3 "size" "I" (.int 1) ∧ Fld Z h w0 OwnK5 "modCount" "I" (.int 2)) := by
  refine own_entry qQ17 (fun m => qQ149 m o0 (1 : Int32) (2 : Int32)) ?_
  intro p e s m below meth c T0 X0 hC e0
  obtain ⟨hx, hB, hml, hown, hnm, hret, hlk, hZ⟩ := hC
  have N0 := Fr.nil n0
  have K0 := Keep.refl h0 []
  refine oG T0 m 1 #[rv o0, iv 1, iv 2] [(.int 1)] (fun t k => XS.iloadN X0.here hx rfl (hb hB d15_0) rfl k) ?_
  refine oG T0 m 2 #[rv o0, iv 1, iv 2] [(.int 2), (.int 1)] (fun t k => XS.iloadN X0.here hx rfl (hb hB d15_1) rfl k) ?_
  refine oG T0 m 3 #[rv o0, iv 1, iv 2] [(.ref o0), (.int 2), (.int 1)] (fun t k => XS.aloadN X0.here hx rfl (hb hB d15_2) rfl rfl k) ?_
  obtain ⟨T1, X1, e1, st1⟩ := getF X0 hx hZ hown (host := "") (Or.inl (oW hw 74 rfl)) Via.refl e0 F_size_o0 (g := (mkF m 3 #[rv o0, iv 1, iv 2] [(.ref o0), (.int 2), (.int 1)])) rfl rfl (hb hB d15_3)
  refine oG T1 m 6 #[rv o0, iv 1, iv 2] [(.int 2), (.int 2), (.int 1)] (st1) ?_
  obtain ⟨_, T2, L2, X2, ⟨rfl, e2, rfl⟩, st2⟩ := own_staticUp X1 hx hZ (x := (⟨OwnK4, "subListRangeCheck", "(III)V"⟩ : MethodName)) hown (oW hw 120 rfl) (oW hw 121 rfl) (by decide) (oW hw 122 rfl) (oW hw 37 rfl) (oW hw 123 rfl) (sp57 l Z a0 hw []  h0 n0 Z0 ) e1 0 (argsL := [(.int 1), (.int 2), (.int 2)]) (rest := []) (Ls := #[rv o0, iv 1, iv 2]) (by rw [hml]; rfl) (lenOf qQ41 rfl) rfl rfl (Nat.le_of_eq rfl) (hb hB d15_6) (by decide) (by decide) (by decide) (by decide)
  replace X2 := own_nil X2
  refine oG T2 m 9 #[rv o0, iv 1, iv 2] [] (st2) ?_
  obtain ⟨T3, h3, X3, e3, E3, A3, D3, -, st3⟩ := newO X2 hx hZ hown (oW hw 124 rfl) (oW hw 125 rfl) (oW hw 126 rfl) e2 (g := (mkF m 9 #[rv o0, iv 1, iv 2] [])) rfl (hb hB d15_9) (by decide) (by decide)
  obtain ⟨b3, g3⟩ : ∃ z, z = h0.size := ⟨_, rfl⟩
  rw [← g3] at A3 D3 st3
  have ne_o0_b3 : o0 ≠ b3 := Nat.ne_of_lt (Nat.lt_of_lt_of_eq F_mC_o0.lt g3.symm)
  have g_b3 : n0 ≤ b3 := Nat.le_trans Z0 (Nat.le_of_eq g3.symm)
  have sz_b3 : h0.size ≤ b3 := Nat.le_trans K0.1 (Nat.le_of_eq g3.symm)
  have cf4 := F_mC_o0.ext E3
  have cf5 := F_size_o0.ext E3
  have Z_3 : n0 ≤ h3.size := Nat.le_trans Z0 E3.1
  have K_3 : Keep h0 h3 [] := K0.ext E3
  have F_mC_3 : Fld Z h3 b3 OwnK5 "modCount" "I" (.int 0) := D3 (Or.inl (oW hw 134 rfl)) (ty := .int) (by decide)
  have F_root_3 : Fld Z h3 b3 OwnK3 "root" OwnK8 .null := D3 (Or.inr (oW hw 136 rfl)) (ty := (.object OwnK4)) (by decide)
  have F_parent_3 : Fld Z h3 b3 OwnK3 "parent" OwnK7 .null := D3 (Or.inr (oW hw 138 rfl)) (ty := (.object OwnK3)) (by decide)
  have F_offset_3 : Fld Z h3 b3 OwnK3 "offset" "I" (.int 0) := D3 (Or.inr (oW hw 140 rfl)) (ty := .int) (by decide)
  have F_size_3 : Fld Z h3 b3 OwnK3 "size" "I" (.int 0) := D3 (Or.inl (oW hw 142 rfl)) (ty := .int) (by decide)
  refine oG T3 m 12 #[rv o0, iv 1, iv 2] [(.ref b3)] (st3) ?_
  refine oG T3 m 13 #[rv o0, iv 1, iv 2] [(.ref b3), (.ref b3)] (fun t k => XS.dup X3.here hx rfl (hb hB d15_12) rfl rfl k) ?_
  refine oG T3 m 14 #[rv o0, iv 1, iv 2] [(.ref o0), (.ref b3), (.ref b3)] (fun t k => XS.aloadN X3.here hx rfl (hb hB d15_13) rfl rfl k) ?_
  refine oG T3 m 15 #[rv o0, iv 1, iv 2] [(.int 1), (.ref o0), (.ref b3), (.ref b3)] (fun t k => XS.iloadN X3.here hx rfl (hb hB d15_14) rfl k) ?_
  refine oG T3 m 16 #[rv o0, iv 1, iv 2] [(.int 2), (.int 1), (.ref o0), (.ref b3), (.ref b3)] (fun t k => XS.iloadN X3.here hx rfl (hb hB d15_15) rfl k) ?_
  obtain ⟨_, T6, L6, X6, ⟨rfl, Nq6, Kq6, fq0_6, fq1_6, fq2_6, fq3_6⟩, st6⟩ := own_init X3 hx hZ (y := (⟨OwnK3, "<init>", "(Ljava/util/ArrayList;II)V"⟩ : MethodName)) rfl hown (oW hw 127 rfl) (oW hw 128 rfl) (oW hw 126 rfl) (oW hw 130 rfl) (by decide) (sp58 l Z a0 hw [] b3 o0 h3 n0 Z_3 A3 F_mC_3 F_offset_3 F_parent_3 F_root_3 F_size_3 cf4 (Ne.symm ne_o0_b3) g_b3) e3 (a := b3) 1 (argsL := [(.ref o0), (.int 1), (.int 2)]) (rest := [(.ref b3)]) (Ls := #[rv o0, iv 1, iv 2]) (by rw [hml]; rfl) (lenOf qQ32 rfl) rfl rfl (Nat.le_of_eq rfl) (hb hB d15_16) (by decide) (by decide) (by decide) (by decide)
  have N6 := Fr.app N0 Nq6
  have cf7 := cf4.keep Kq6 (ninS ne_o0_b3 nin0)
  have cf8 := cf5.keep Kq6 (ninS ne_o0_b3 nin0)
  have cf9 := A3.keep Kq6
  have Z_6 : n0 ≤ T6.heap.size := Nat.le_trans Z_3 Kq6.1
  have K_6 : Keep h0 T6.heap [] := K_3.trans Kq6 (allS (Or.inr sz_b3) all0)
  refine oG T6 m 19 #[rv o0, iv 1, iv 2] [(.ref b3)] (st6) ?_
  refine own_retA X6 hx hlk hret rfl rfl rfl (hb hB d15_19) (by decide) (by decide) ?_
  exact ⟨b3, rfl, N6, K_6, ⟨sz_b3, g_b3⟩, cf9, fq0_6, fq1_6, fq2_6, fq3_6⟩
theorem qQ140 (m : MethodId) (q0 : Addr) (q1 : Int32) : entryFrame m #[(.ref q0), (.int q1)] 2 = mkF m 0 #[rv q0, iv q1] [] := by first | (simp [entryFrame, mkF, argsToLocals, Value.category]; done) | rfl
theorem sp61 (l : Launch) (Z : State) (a0 : Array Value) (hw : ∀ d ∈ tables_1, d.before a0 Z = true) (ws : List Jvm.Cond) (o0 o1 : Addr) (h0 : Heap) (n0 : Nat) (Z0 : n0 ≤ h0.size) (E_o0 : Exa Z h0 o0 OwnK3) (F_mC_o0 : Fld Z h0 o0 OwnK5 "modCount" "I" (.int 2)) (F_root_o0 : Fld Z h0 o0 OwnK3 "root" OwnK8 (.ref o1)) (F_size_o0 : Fld Z h0 o0 OwnK3 "size" "I" (.int 1)) (F_mC_o1 : Fld Z h0 o1 OwnK5 "modCount" "I" (.int 2)) :
    OwnC l Z (⟨OwnK3, "listIterator", "(I)Ljava/util/ListIterator;"⟩ : MethodName) jdk_130_method_24_code 2 (some (.object "java/util/ListIterator")) ws ({ frames := 2, cells := 1, slots := 5, locals := 27 } : Room) #[(.ref o0), (.int 0)] h0 (fun v h L => ∃ (w0 : Addr), v = some (.ref w0) ∧ Fr n0 L ∧ Keep h0 h [] ∧ (h0.size ≤ w0 ∧ n0 ≤ w0) ∧ Exa Z h w0 OwnK2 ∧ Fld Z h w0 OwnK2 "this$0" OwnK7 (.ref o0) ∧ Fld Z h w0 OwnK2 "val$index" "I" (.int 0) ∧ Fld Z h w0 OwnK2 "cursor" "I" (.int 0) ∧ Fld Z h w0 OwnK2 "lastRet" "I" (.int (-1)) ∧ Fld Z h w0 OwnK2 "expectedModCount" "I" (.int 2)) := by
  refine own_entry qQ5 (fun m => qQ140 m o0 (0 : Int32)) ?_
  intro p e s m below meth c T0 X0 hC e0
  obtain ⟨hx, hB, hml, hown, hnm, hret, hlk, hZ⟩ := hC
  have N0 := Fr.nil n0
  have K0 := Keep.refl h0 []
  refine oG T0 m 1 #[rv o0, iv 0] [(.ref o0)] (fun t k => XS.aloadN X0.here hx rfl (hb hB d20_0) rfl rfl k) ?_
  obtain ⟨_, T1, L1, X1, ⟨rfl, e1, rfl⟩, st1⟩ := own_private X0 hx hZ (y := (⟨OwnK3, "checkForComodification", "()V"⟩ : MethodName)) hown (oW hw 167 rfl) (oW hw 168 rfl) (oW hw 169 rfl) (oW hw 125 rfl) (oW hw 126 rfl) (oW hw 171 rfl) (by decide) (sp49 l Z a0 hw [] o0 o1 h0 n0 Z0 F_mC_o0 F_root_o0 F_mC_o1) e0 E_o0 0 (argsL := []) (rest := []) (Ls := #[rv o0, iv 0]) (by rw [hml]; rfl) (lenOf qQ155 rfl) rfl rfl (Nat.le_of_eq rfl) (hb hB d20_1) (by decide) (by decide) (by decide) (by decide)
  replace X1 := own_nil X1
  refine oG T1 m 4 #[rv o0, iv 0] [] (st1) ?_
  refine oG T1 m 5 #[rv o0, iv 0] [(.ref o0)] (fun t k => XS.aloadN X1.here hx rfl (hb hB d20_4) rfl rfl k) ?_
  refine oG T1 m 6 #[rv o0, iv 0] [(.int 0), (.ref o0)] (fun t k => XS.iloadN X1.here hx rfl (hb hB d20_5) rfl k) ?_
  obtain ⟨_, T2, L2, X2, ⟨rfl, e2, rfl⟩, st2⟩ := own_private X1 hx hZ (y := (⟨OwnK3, "rangeCheckForAdd", "(I)V"⟩ : MethodName)) hown (oW hw 172 rfl) (oW hw 173 rfl) (oW hw 174 rfl) (oW hw 125 rfl) (oW hw 126 rfl) (oW hw 176 rfl) (by decide) (sp22 l Z a0 hw [] o0 h0 n0 Z0 F_size_o0) e1 E_o0 0 (argsL := [(.int 0)]) (rest := []) (Ls := #[rv o0, iv 0]) (by rw [hml]; rfl) (lenOf qQ64 rfl) rfl rfl (Nat.le_of_eq rfl) (hb hB d20_6) (by decide) (by decide) (by decide) (by decide)
  replace X2 := own_nil X2
  refine oG T2 m 9 #[rv o0, iv 0] [] (st2) ?_
  obtain ⟨T3, h3, X3, e3, E3, A3, D3, -, st3⟩ := newO X2 hx hZ hown (oW hw 177 rfl) (oW hw 178 rfl) (oW hw 179 rfl) e2 (g := (mkF m 9 #[rv o0, iv 0] [])) rfl (hb hB d20_9) (by decide) (by decide)
  obtain ⟨b3, g3⟩ : ∃ z, z = h0.size := ⟨_, rfl⟩
  rw [← g3] at A3 D3 st3
  have ne_o0_b3 : o0 ≠ b3 := Nat.ne_of_lt (Nat.lt_of_lt_of_eq E_o0.lt g3.symm)
  have ne_o1_b3 : o1 ≠ b3 := Nat.ne_of_lt (Nat.lt_of_lt_of_eq F_mC_o1.lt g3.symm)
  have g_b3 : n0 ≤ b3 := Nat.le_trans Z0 (Nat.le_of_eq g3.symm)
  have sz_b3 : h0.size ≤ b3 := Nat.le_trans K0.1 (Nat.le_of_eq g3.symm)
  have cf4 := E_o0.ext E3
  have cf5 := F_mC_o0.ext E3
  have cf6 := F_root_o0.ext E3
  have cf7 := F_size_o0.ext E3
  have cf8 := F_mC_o1.ext E3
  have Z_3 : n0 ≤ h3.size := Nat.le_trans Z0 E3.1
  have K_3 : Keep h0 h3 [] := K0.ext E3
  have F_this_0_3 : Fld Z h3 b3 OwnK2 "this$0" OwnK7 .null := D3 (Or.inr (oW hw 185 rfl)) (ty := (.object OwnK3)) (by decide)
  have F_val_index_3 : Fld Z h3 b3 OwnK2 "val$index" "I" (.int 0) := D3 (Or.inr (oW hw 187 rfl)) (ty := .int) (by decide)
  have F_cursor_3 : Fld Z h3 b3 OwnK2 "cursor" "I" (.int 0) := D3 (Or.inl (oW hw 190 rfl)) (ty := .int) (by decide)
  have F_lastRet_3 : Fld Z h3 b3 OwnK2 "lastRet" "I" (.int 0) := D3 (Or.inl (oW hw 192 rfl)) (ty := .int) (by decide)
  have F_xM_3 : Fld Z h3 b3 OwnK2 "expectedModCount" "I" (.int 0) := D3 (Or.inl (oW hw 195 rfl)) (ty := .int) (by decide)
  refine oG T3 m 12 #[rv o0, iv 0] [(.ref b3)] (st3) ?_
  refine oG T3 m 13 #[rv o0, iv 0] [(.ref b3), (.ref b3)] (fun t k => XS.dup X3.here hx rfl (hb hB d20_12) rfl rfl k) ?_
  refine oG T3 m 14 #[rv o0, iv 0] [(.ref o0), (.ref b3), (.ref b3)] (fun t k => XS.aloadN X3.here hx rfl (hb hB d20_13) rfl rfl k) ?_
  refine oG T3 m 15 #[rv o0, iv 0] [(.int 0), (.ref o0), (.ref b3), (.ref b3)] (fun t k => XS.iloadN X3.here hx rfl (hb hB d20_14) rfl k) ?_
  obtain ⟨_, T9, L9, X9, ⟨rfl, Nq9, Kq9, fq0_9, fq1_9, fq2_9, fq3_9, fq4_9⟩, st9⟩ := own_init X3 hx hZ (y := (⟨OwnK2, "<init>", "(Ljava/util/ArrayList$SubList;I)V"⟩ : MethodName)) rfl hown (oW hw 180 rfl) (oW hw 181 rfl) (oW hw 179 rfl) (oW hw 183 rfl) (by decide) (sp51 l Z a0 hw [] b3 o0 h3 n0 Z_3 A3 F_cursor_3 F_xM_3 F_lastRet_3 F_this_0_3 F_val_index_3 cf5 (Ne.symm ne_o0_b3) g_b3) e3 (a := b3) 1 (argsL := [(.ref o0), (.int 0)]) (rest := [(.ref b3)]) (Ls := #[rv o0, iv 0]) (by rw [hml]; rfl) (lenOf qQ26 rfl) rfl rfl (Nat.le_of_eq rfl) (hb hB d20_15) (by decide) (by decide) (by decide) (by decide)
  have N9 := Fr.app N0 Nq9
  have cf10 := cf4.keep Kq9
  have cf11 := cf5.keep Kq9 (ninS ne_o0_b3 nin0)
  have cf12 := cf6.keep Kq9 (ninS ne_o0_b3 nin0)
  have cf13 := cf7.keep Kq9 (ninS ne_o0_b3 nin0)
  have cf14 := cf8.keep Kq9 (ninS ne_o1_b3 nin0)
  have cf15 := A3.keep Kq9
  have Z_9 : n0 ≤ T9.heap.size := Nat.le_trans Z_3 Kq9.1
  have K_9 : Keep h0 T9.heap [] := K_3.trans Kq9 (allS (Or.inr sz_b3) all0)
  refine oG T9 m 18 #[rv o0, iv 0] [(.ref b3)] (st9) ?_
  refine own_retA X9 hx hlk hret rfl rfl rfl (hb hB d20_18) (by decide) (by decide) ?_
  exact ⟨b3, rfl, N9, K_9, ⟨sz_b3, g_b3⟩, cf15, fq0_9, fq1_9, fq2_9, fq3_9, fq4_9⟩
theorem qQ61 (m : MethodId) (q0 : Addr) : entryFrame m #[(.ref q0)] 1 = mkF m 0 #[rv q0] [] := by first | (simp [entryFrame, mkF, argsToLocals, Value.category]; done) | rfl
theorem sp60 (l : Launch) (Z : State) (a0 : Array Value) (hw : ∀ d ∈ tables_1, d.before a0 Z = true) (ws : List Jvm.Cond) (o0 o1 : Addr) (h0 : Heap) (n0 : Nat) (Z0 : n0 ≤ h0.size) (E_o0 : Exa Z h0 o0 OwnK3) (F_mC_o0 : Fld Z h0 o0 OwnK5 "modCount" "I" (.int 2)) (F_root_o0 : Fld Z h0 o0 OwnK3 "root" OwnK8 (.ref o1)) (F_size_o0 : Fld Z h0 o0 OwnK3 "size" "I" (.int 1)) (F_mC_o1 : Fld Z h0 o1 OwnK5 "modCount" "I" (.int 2)) :
    OwnC l Z (⟨OwnK5, "listIterator", "()Ljava/util/ListIterator;"⟩ : MethodName) jdk_39_method_12_code 1 (some (.object "java/util/ListIterator")) ws ({ frames := 3, cells := 1, slots := 5, locals := 40 } : Room) #[(.ref o0)] h0 (fun v h L => ∃ (w0 : Addr), v = some (.ref w0) ∧ Fr n0 L ∧ Keep h0 h [] ∧ (h0.size ≤ w0 ∧ n0 ≤ w0) ∧ Exa Z h w0 OwnK2 ∧ Fld Z h w0 OwnK2 "this$0" OwnK7 (.ref o0) ∧ Fld Z h w0 OwnK2 "val$index" "I" (.int 0) ∧ Fld Z h w0 OwnK2 "cursor" "I" (.int 0) ∧ Fld Z h w0 OwnK2 "lastRet" "I" (.int (-1)) ∧ Fld Z h w0 OwnK2 "expectedModCount" "I" (.int 2)) := by
  refine own_entry qQ8 (fun m => qQ61 m o0) ?_
  intro p e s m below meth c T0 X0 hC e0
  obtain ⟨hx, hB, hml, hown, hnm, hret, hlk, hZ⟩ := hC
  have N0 := Fr.nil n0
  have K0 := Keep.refl h0 []
  refine oG T0 m 1 #[rv o0] [(.ref o0)] (fun t k => XS.aloadN X0.here hx rfl (hb hB d19_0) rfl rfl k) ?_
  refine oG T0 m 2 #[rv o0] [(.int 0), (.ref o0)] (fun t k => XS.iconst X0.here hx rfl (hb hB d19_1) k) ?_
  obtain ⟨_, T1, L1, X1, ⟨w0_1, rfl, Nq1, Kq1, syw0_1, fq0_1, fq1_1, fq2_1, fq3_1, fq4_1, fq5_1⟩, st1⟩ := own_virtual X0 hx hZ (y := (⟨OwnK5, "listIterator", "(I)Ljava/util/ListIterator;"⟩ : MethodName)) (z := (⟨OwnK3, "listIterator", "(I)Ljava/util/ListIterator;"⟩ : MethodName)) hown (oW hw 161 rfl) (oW hw 162 rfl) (own_nf (args := #[]) (mvT hZ (oW hw 159 rfl)) rfl) (oW hw 164 rfl) (oW hw 165 rfl) (oW hw 126 rfl) (oW hw 166 rfl) (by decide) (sp61 l Z a0 hw [] o0 o1 h0 n0 Z0 E_o0 F_mC_o0 F_root_o0 F_size_o0 F_mC_o1) e0 E_o0 0 (argsL := [(.int 0)]) (rest := []) (Ls := #[rv o0]) (by rw [hml]; rfl) (lenOf qQ30 rfl) rfl rfl (Nat.le_of_eq rfl) (hb hB d19_2) (by decide) (by decide) (by decide) (by decide)
  have g_w0_1 : n0 ≤ w0_1 := syw0_1.2
  have sz_w0_1 : h0.size ≤ w0_1 := Nat.le_trans K0.1 syw0_1.1
  have ne_o0_w0_1 : o0 ≠ w0_1 := Nat.ne_of_lt (Nat.lt_of_lt_of_le E_o0.lt syw0_1.1)
  have ne_o1_w0_1 : o1 ≠ w0_1 := Nat.ne_of_lt (Nat.lt_of_lt_of_le F_mC_o1.lt syw0_1.1)
  have N1 := Fr.app N0 Nq1
  have cf2 := E_o0.keep Kq1
  have cf3 := F_mC_o0.keep Kq1 nin0
  have cf4 := F_root_o0.keep Kq1 nin0
  have cf5 := F_size_o0.keep Kq1 nin0
  have cf6 := F_mC_o1.keep Kq1 nin0
  have Z_1 : n0 ≤ T1.heap.size := Nat.le_trans Z0 Kq1.1
  have K_1 : Keep h0 T1.heap [] := K0.trans Kq1 all0
  refine oG T1 m 5 #[rv o0] [(.ref w0_1)] (st1) ?_
  refine own_retA X1 hx hlk hret rfl rfl rfl (hb hB d19_5) (by decide) (by decide) ?_
  exact ⟨w0_1, rfl, N1, K_1, ⟨sz_w0_1, g_w0_1⟩, fq0_1, fq1_1, fq2_1, fq3_1, fq4_1, fq5_1⟩
theorem qQ92 (m : MethodId) (q0 : Addr) : entryFrame m #[(.ref q0)] 1 = mkF m 0 #[rv q0] [] := by first | (simp [entryFrame, mkF, argsToLocals, Value.category]; done) | rfl
theorem sp59 (l : Launch) (Z : State) (a0 : Array Value) (hw : ∀ d ∈ tables_1, d.before a0 Z = true) (ws : List Jvm.Cond) (o0 o1 : Addr) (h0 : Heap) (n0 : Nat) (Z0 : n0 ≤ h0.size) (E_o0 : Exa Z h0 o0 OwnK3) (F_mC_o0 : Fld Z h0 o0 OwnK5 "modCount" "I" (.int 2)) (F_root_o0 : Fld Z h0 o0 OwnK3 "root" OwnK8 (.ref o1)) (F_size_o0 : Fld Z h0 o0 OwnK3 "size" "I" (.int 1)) (F_mC_o1 : Fld Z h0 o1 OwnK5 "modCount" "I" (.int 2)) :
    OwnC l Z (⟨OwnK3, "iterator", "()Ljava/util/Iterator;"⟩ : MethodName) jdk_130_method_23_code 1 (some (.object "java/util/Iterator")) ws ({ frames := 4, cells := 1, slots := 5, locals := 52 } : Room) #[(.ref o0)] h0 (fun v h L => ∃ (w0 : Addr), v = some (.ref w0) ∧ Fr n0 L ∧ Keep h0 h [] ∧ (h0.size ≤ w0 ∧ n0 ≤ w0) ∧ Exa Z h w0 OwnK2 ∧ Fld Z h w0 OwnK2 "this$0" OwnK7 (.ref o0) ∧ Fld Z h w0 OwnK2 "val$index" "I" (.int 0) ∧ Fld Z h w0 OwnK2 "cursor" "I" (.int 0) ∧ Fld Z h w0 OwnK2 "lastRet" "I" (.int (-1)) ∧ Fld Z h w0 OwnK2 "expectedModCount" "I" (.int 2)) := by
  refine own_entry qQ11 (fun m => qQ92 m o0) ?_
  intro p e s m below meth c T0 X0 hC e0
  obtain ⟨hx, hB, hml, hown, hnm, hret, hlk, hZ⟩ := hC
  have N0 := Fr.nil n0
  have K0 := Keep.refl h0 []
  refine oG T0 m 1 #[rv o0] [(.ref o0)] (fun t k => XS.aloadN X0.here hx rfl (hb hB d18_0) rfl rfl k) ?_
  obtain ⟨_, T1, L1, X1, ⟨w0_1, rfl, Nq1, Kq1, syw0_1, fq0_1, fq1_1, fq2_1, fq3_1, fq4_1, fq5_1⟩, st1⟩ := own_virtualUp X0 hx hZ (x := (⟨OwnK3, "listIterator", "()Ljava/util/ListIterator;"⟩ : MethodName)) (y := (⟨OwnK5, "listIterator", "()Ljava/util/ListIterator;"⟩ : MethodName)) hown (oW hw 155 rfl) (oW hw 156 rfl) (oW hw 157 rfl) (by decide) (oW hw 159 rfl) (oW hw 158 rfl) (oW hw 37 rfl) (oW hw 160 rfl) (sp60 l Z a0 hw [] o0 o1 h0 n0 Z0 E_o0 F_mC_o0 F_root_o0 F_size_o0 F_mC_o1) e0 E_o0 0 (argsL := []) (rest := []) (Ls := #[rv o0]) (by rw [hml]; rfl) (lenOf qQ31 rfl) rfl rfl (Nat.le_of_eq rfl) (hb hB d18_1) (by decide) (by decide) (by decide) (by decide)
  have g_w0_1 : n0 ≤ w0_1 := syw0_1.2
  have sz_w0_1 : h0.size ≤ w0_1 := Nat.le_trans K0.1 syw0_1.1
  have ne_o0_w0_1 : o0 ≠ w0_1 := Nat.ne_of_lt (Nat.lt_of_lt_of_le E_o0.lt syw0_1.1)
  have ne_o1_w0_1 : o1 ≠ w0_1 := Nat.ne_of_lt (Nat.lt_of_lt_of_le F_mC_o1.lt syw0_1.1)
  have N1 := Fr.app N0 Nq1
  have cf2 := E_o0.keep Kq1
  have cf3 := F_mC_o0.keep Kq1 nin0
  have cf4 := F_root_o0.keep Kq1 nin0
  have cf5 := F_size_o0.keep Kq1 nin0
  have cf6 := F_mC_o1.keep Kq1 nin0
  have Z_1 : n0 ≤ T1.heap.size := Nat.le_trans Z0 Kq1.1
  have K_1 : Keep h0 T1.heap [] := K0.trans Kq1 all0
  refine oG T1 m 4 #[rv o0] [(.ref w0_1)] (st1) ?_
  refine own_retA X1 hx hlk hret rfl rfl rfl (hb hB d18_4) (by decide) (by decide) ?_
  exact ⟨w0_1, rfl, N1, K_1, ⟨sz_w0_1, g_w0_1⟩, fq0_1, fq1_1, fq2_1, fq3_1, fq4_1, fq5_1⟩
theorem qQ128 (m : MethodId) (q0 : Addr) : entryFrame m #[(.ref q0)] 3 = mkF m 0 #[rv q0, .unset, .unset] [] := by first | (simp [entryFrame, mkF, argsToLocals, Value.category]; done) | rfl
theorem sp62 (l : Launch) (Z : State) (a0 : Array Value) (hw : ∀ d ∈ tables_1, d.before a0 Z = true) (ws : List Jvm.Cond) (o0 o1 o2 o3 o4 o5 : Addr) (c0 : ClassId) (h0 : Heap) (n0 : Nat) (Z0 : n0 ≤ h0.size) (E_o0 : Exa Z h0 o0 OwnK2) (F_cursor_o0 : Fld Z h0 o0 OwnK2 "cursor" "I" (.int 0)) (F_xM_o0 : Fld Z h0 o0 OwnK2 "expectedModCount" "I" (.int 2)) (F_lastRet_o0 : Fld Z h0 o0 OwnK2 "lastRet" "I" (.int (-1))) (F_this_0_o0 : Fld Z h0 o0 OwnK2 "this$0" OwnK7 (.ref o1)) (F_val_index_o0 : Fld Z h0 o0 OwnK2 "val$index" "I" (.int 0)) (F_offset_o1 : Fld Z h0 o1 OwnK3 "offset" "I" (.int 1)) (F_root_o1 : Fld Z h0 o1 OwnK3 "root" OwnK8 (.ref o2)) (F_size_o1 : Fld Z h0 o1 OwnK3 "size" "I" (.int 1)) (F_elementData_o2 : Fld Z h0 o2 OwnK4 "elementData" OwnK6 (.ref o3)) (F_mC_o2 : Fld Z h0 o2 OwnK5 "modCount" "I" (.int 2)) (V_o3 : Arv Z h0 o3 c0 (.object "java/lang/Object") (10 : Int32) [(.ref o4), (.ref o5), .null, .null, .null, .null, .null, .null, .null, .null] .null) (O_o3 : Ovr Z c0 "java/lang/Object") (ne_o0_o1 : o0 ≠ o1) (ne_o0_o2 : o0 ≠ o2) (ne_o0_o3 : o0 ≠ o3) (ne_o0_o4 : o0 ≠ o4) (ne_o0_o5 : o0 ≠ o5) (g_o0 : n0 ≤ o0) :
    OwnC l Z (⟨OwnK2, "next", "()Ljava/lang/Object;"⟩ : MethodName) jdk_136_method_3_code 3 (some (.object "java/lang/Object")) ws ({ frames := 1, cells := 0, slots := 0, locals := 12 } : Room) #[(.ref o0)] h0 (fun v h L => v = some (.ref o5) ∧ Fr n0 L ∧ Keep h0 h [o0] ∧ Fld Z h o0 OwnK2 "expectedModCount" "I" (.int 2) ∧ Fld Z h o0 OwnK2 "this$0" OwnK7 (.ref o1) ∧ Fld Z h o0 OwnK2 "val$index" "I" (.int 0) ∧ Fld Z h o0 OwnK2 "cursor" "I" (.int 1) ∧ Fld Z h o0 OwnK2 "lastRet" "I" (.int 0)) := by
  refine own_entry qQ13 (fun m => qQ128 m o0) ?_
  intro p e s m below meth c T0 X0 hC e0
  obtain ⟨hx, hB, hml, hown, hnm, hret, hlk, hZ⟩ := hC
  have N0 := Fr.nil n0
  have K0 := Keep.refl h0 [o0]
  refine oG T0 m 1 #[rv o0, .unset, .unset] [(.ref o0)] (fun t k => XS.aloadN X0.here hx rfl (hb hB d25_0) rfl rfl k) ?_
  obtain ⟨_, T1, L1, X1, ⟨rfl, e1, rfl⟩, st1⟩ := own_virtual X0 hx hZ (y := (⟨OwnK2, "checkForComodification", "()V"⟩ : MethodName)) (z := (⟨OwnK2, "checkForComodification", "()V"⟩ : MethodName)) hown (oW hw 214 rfl) (oW hw 215 rfl) (notFace_of_selects (args := #[]) (mvT hZ (oW hw 217 rfl))) (oW hw 217 rfl) (oW hw 216 rfl) (oW hw 179 rfl) (oW hw 218 rfl) (by decide) (sp54 l Z a0 hw [] o0 o1 o2 h0 n0 Z0 F_xM_o0 F_this_0_o0 F_root_o1 F_mC_o2) e0 E_o0 0 (argsL := []) (rest := []) (Ls := #[rv o0, .unset, .unset]) (by rw [hml]; rfl) (lenOf qQ155 rfl) rfl rfl (Nat.le_of_eq rfl) (hb hB d25_1) (by decide) (by decide) (by decide) (by decide)
  replace X1 := own_nil X1
  refine oG T1 m 4 #[rv o0, .unset, .unset] [] (st1) ?_
  refine oG T1 m 5 #[rv o0, .unset, .unset] [(.ref o0)] (fun t k => XS.aloadN X1.here hx rfl (hb hB d25_4) rfl rfl k) ?_
  obtain ⟨T2, X2, e2, st2⟩ := getF X1 hx hZ hown (host := "") (Or.inl (oW hw 189 rfl)) Via.refl e1 F_cursor_o0 (g := (mkF m 5 #[rv o0, .unset, .unset] [(.ref o0)])) rfl rfl (hb hB d25_5)
  refine oG T2 m 8 #[rv o0, .unset, .unset] [(.int 0)] (st2) ?_
  refine oG T2 m 9 #[rv o0, iv 0, .unset] [] (fun t k => XS.istoreN X2.here hx rfl (hb hB d25_8) rfl rfl k) ?_
  refine oG T2 m 10 #[rv o0, iv 0, .unset] [(.int 0)] (fun t k => XS.iloadN X2.here hx rfl (hb hB d25_9) rfl k) ?_
  refine oG T2 m 11 #[rv o0, iv 0, .unset] [(.ref o0), (.int 0)] (fun t k => XS.aloadN X2.here hx rfl (hb hB d25_10) rfl rfl k) ?_
  obtain ⟨T3, X3, e3, st3⟩ := getF X2 hx hZ hown (host := "") (Or.inl (oW hw 184 rfl)) Via.refl e2 F_this_0_o0 (g := (mkF m 11 #[rv o0, iv 0, .unset] [(.ref o0), (.int 0)])) rfl rfl (hb hB d25_11)
  refine oG T3 m 14 #[rv o0, iv 0, .unset] [(.ref o1), (.int 0)] (st3) ?_
  refine oG T3 m 17 #[rv o0, iv 0, .unset] [(.int 1), (.int 0)] (own_getfRef X3 hx hZ hown (oW hw 205 rfl) e3 F_size_o1 (hb hB d25_14)) ?_
  refine oG T3 m 28 #[rv o0, iv 0, .unset] [] (fun t k => XS.icmpYes X3.here hx rfl (pc0 := 17) (pc' := 28) rfl (hb hB d25_17) rfl (tlt (by decide)).1 (by decide) (by decide) k) ?_
  refine oG T3 m 29 #[rv o0, iv 0, .unset] [(.ref o0)] (fun t k => XS.aloadN X3.here hx rfl (hb hB d25_28) rfl rfl k) ?_
  obtain ⟨T5, X5, e5, st5⟩ := getF X3 hx hZ hown (host := "") (Or.inl (oW hw 184 rfl)) Via.refl e3 F_this_0_o0 (g := (mkF m 29 #[rv o0, iv 0, .unset] [(.ref o0)])) rfl rfl (hb hB d25_29)
  refine oG T5 m 32 #[rv o0, iv 0, .unset] [(.ref o1)] (st5) ?_
  refine oG T5 m 35 #[rv o0, iv 0, .unset] [(.ref o2)] (own_getfRef X5 hx hZ hown (oW hw 219 rfl) e5 F_root_o1 (hb hB d25_32)) ?_
  obtain ⟨T7, X7, e7, st7⟩ := getF X5 hx hZ hown (host := "") (Or.inl (oW hw 221 rfl)) Via.refl e5 F_elementData_o2 (g := (mkF m 35 #[rv o0, iv 0, .unset] [(.ref o2)])) rfl rfl (hb hB d25_35)
  refine oG T7 m 38 #[rv o0, iv 0, .unset] [(.ref o3)] (st7) ?_
  refine oG T7 m 39 #[rv o0, iv 0, rv o3] [] (fun t k => XS.astoreN X7.here hx rfl (hb hB d25_38) rfl rfl rfl k) ?_
  refine oG T7 m 40 #[rv o0, iv 0, rv o3] [(.ref o0)] (fun t k => XS.aloadN X7.here hx rfl (hb hB d25_39) rfl rfl k) ?_
  obtain ⟨T8, X8, e8, st8⟩ := getF X7 hx hZ hown (host := "") (Or.inl (oW hw 184 rfl)) Via.refl e7 F_this_0_o0 (g := (mkF m 40 #[rv o0, iv 0, rv o3] [(.ref o0)])) rfl rfl (hb hB d25_40)
  refine oG T8 m 43 #[rv o0, iv 0, rv o3] [(.ref o1)] (st8) ?_
  refine oG T8 m 46 #[rv o0, iv 0, rv o3] [(.int 1)] (own_getfRef X8 hx hZ hown (oW hw 222 rfl) e8 F_offset_o1 (hb hB d25_43)) ?_
  refine oG T8 m 47 #[rv o0, iv 0, rv o3] [(.int 0), (.int 1)] (fun t k => XS.iloadN X8.here hx rfl (hb hB d25_46) rfl k) ?_
  refine oG T8 m 48 #[rv o0, iv 0, rv o3] [(.int ((1 : Int32) + (0 : Int32)))] (fun t k => XS.iadd X8.here hx rfl (hb hB d25_47) rfl k) ?_
  rw [show ((1 : Int32) + (0 : Int32)) = (1 : Int32) from by decide]
  refine oG T8 m 49 #[rv o0, iv 0, rv o3] [(.ref o3), (.int 1)] (fun t k => XS.aloadN X8.here hx rfl (hb hB d25_48) rfl rfl k) ?_
  refine oG T8 m 50 #[rv o0, iv 0, rv o3] [(.int 10), (.int 1)] (own_alen X8 hx hZ e8 V_o3 (hb hB d25_49)) ?_
  refine oG T8 m 61 #[rv o0, iv 0, rv o3] [] (fun t k => XS.icmpYes X8.here hx rfl (pc0 := 50) (pc' := 61) rfl (hb hB d25_50) rfl (tlt (by decide)).1 (by decide) (by decide) k) ?_
  refine oG T8 m 62 #[rv o0, iv 0, rv o3] [(.ref o0)] (fun t k => XS.aloadN X8.here hx rfl (hb hB d25_61) rfl rfl k) ?_
  refine oG T8 m 63 #[rv o0, iv 0, rv o3] [(.int 0), (.ref o0)] (fun t k => XS.iloadN X8.here hx rfl (hb hB d25_62) rfl k) ?_
  refine oG T8 m 64 #[rv o0, iv 0, rv o3] [(.int 1), (.int 0), (.ref o0)] (fun t k => XS.iconst X8.here hx rfl (hb hB d25_63) k) ?_
  refine oG T8 m 65 #[rv o0, iv 0, rv o3] [(.int ((0 : Int32) + (1 : Int32))), (.ref o0)] (fun t k => XS.iadd X8.here hx rfl (hb hB d25_64) rfl k) ?_
  rw [show ((0 : Int32) + (1 : Int32)) = (1 : Int32) from by decide]
  obtain ⟨T11, h11, X11, e11, W11, st11⟩ := putF X8 hx hZ hown (host := "") (Or.inl (oW hw 189 rfl)) Via.refl e8 F_cursor_o0 E_o0 (Or.inl (oW hw 190 rfl)) (oW hw 178 rfl) (ty := .int) (by decide) rfl rfl (g := (mkF m 65 #[rv o0, iv 0, rv o3] [(.int 1), (.ref o0)])) rfl rfl (hb hB d25_65)
  have F11 := F_cursor_o0.same W11
  have cf12 := E_o0.wr W11
  have cf13 := F_xM_o0.other W11 (Or.inr (slot_ne (Or.inl (oW hw 195 rfl)) (Or.inl (oW hw 190 rfl)) (by decide) (t := .int) (t' := .int) (by decide) (by decide)))
  have cf14 := F_lastRet_o0.other W11 (Or.inr (slot_ne (Or.inl (oW hw 192 rfl)) (Or.inl (oW hw 190 rfl)) (by decide) (t := .int) (t' := .int) (by decide) (by decide)))
  have cf15 := F_this_0_o0.other W11 (Or.inr (slot_ne (Or.inr (oW hw 185 rfl)) (Or.inl (oW hw 190 rfl)) (by decide) (t := (.object OwnK3)) (t' := .int) (by decide) (by decide)))
  have cf16 := F_val_index_o0.other W11 (Or.inr (slot_ne (Or.inr (oW hw 187 rfl)) (Or.inl (oW hw 190 rfl)) (by decide) (t := .int) (t' := .int) (by decide) (by decide)))
  have cf17 := F_offset_o1.other W11 (Or.inl (Ne.symm ne_o0_o1))
  have cf18 := F_root_o1.other W11 (Or.inl (Ne.symm ne_o0_o1))
  have cf19 := F_size_o1.other W11 (Or.inl (Ne.symm ne_o0_o1))
  have cf20 := F_elementData_o2.other W11 (Or.inl (Ne.symm ne_o0_o2))
  have cf21 := F_mC_o2.other W11 (Or.inl (Ne.symm ne_o0_o2))
  have cf22 := V_o3.other W11 (Ne.symm ne_o0_o3)
  have Z_11 : n0 ≤ h11.size := Nat.le_trans Z0 (Keep.of_wr W11).1
  have K_11 : Keep h0 h11 [o0] := K0.wr W11 (oI 0 rfl)
  have N11 := Fr.snoc X11 N0 g_o0
  refine oG T11 m 68 #[rv o0, iv 0, rv o3] [] (st11) ?_
  refine oG T11 m 69 #[rv o0, iv 0, rv o3] [(.ref o3)] (fun t k => XS.aloadN X11.here hx rfl (hb hB d25_68) rfl rfl k) ?_
  refine oG T11 m 70 #[rv o0, iv 0, rv o3] [(.ref o0), (.ref o3)] (fun t k => XS.aloadN X11.here hx rfl (hb hB d25_69) rfl rfl k) ?_
  obtain ⟨T23, X23, e23, st23⟩ := getF X11 hx hZ hown (host := "") (Or.inl (oW hw 184 rfl)) Via.refl e11 cf15 (g := (mkF m 70 #[rv o0, iv 0, rv o3] [(.ref o0), (.ref o3)])) rfl rfl (hb hB d25_70)
  refine oG T23 m 73 #[rv o0, iv 0, rv o3] [(.ref o1), (.ref o3)] (st23) ?_
  refine oG T23 m 76 #[rv o0, iv 0, rv o3] [(.int 1), (.ref o3)] (own_getfRef X23 hx hZ hown (oW hw 222 rfl) e23 cf17 (hb hB d25_73)) ?_
  refine oG T23 m 77 #[rv o0, iv 0, rv o3] [(.ref o0), (.int 1), (.ref o3)] (fun t k => XS.aloadN X23.here hx rfl (hb hB d25_76) rfl rfl k) ?_
  refine oG T23 m 78 #[rv o0, iv 0, rv o3] [(.int 0), (.ref o0), (.int 1), (.ref o3)] (fun t k => XS.iloadN X23.here hx rfl (hb hB d25_77) rfl k) ?_
  refine oG T23 m 79 #[rv o0, iv 0, rv o3] [(.int 0), (.ref o0), (.int 0), (.int 1), (.ref o3)] (fun t k => XS.dupX1 X23.here hx rfl (hb hB d25_78) rfl rfl rfl k) ?_
  obtain ⟨T25, h25, X25, e25, W25, st25⟩ := putF X23 hx hZ hown (host := "") (Or.inl (oW hw 191 rfl)) Via.refl e23 cf14 cf12 (Or.inl (oW hw 192 rfl)) (oW hw 178 rfl) (ty := .int) (by decide) rfl rfl (g := (mkF m 79 #[rv o0, iv 0, rv o3] [(.int 0), (.ref o0), (.int 0), (.int 1), (.ref o3)])) rfl rfl (hb hB d25_79)
  have F25 := cf14.same W25
  have cf26 := cf12.wr W25
  have cf27 := cf13.other W25 (Or.inr (slot_ne (Or.inl (oW hw 195 rfl)) (Or.inl (oW hw 192 rfl)) (by decide) (t := .int) (t' := .int) (by decide) (by decide)))
  have cf28 := cf15.other W25 (Or.inr (slot_ne (Or.inr (oW hw 185 rfl)) (Or.inl (oW hw 192 rfl)) (by decide) (t := (.object OwnK3)) (t' := .int) (by decide) (by decide)))
  have cf29 := cf16.other W25 (Or.inr (slot_ne (Or.inr (oW hw 187 rfl)) (Or.inl (oW hw 192 rfl)) (by decide) (t := .int) (t' := .int) (by decide) (by decide)))
  have cf30 := cf17.other W25 (Or.inl (Ne.symm ne_o0_o1))
  have cf31 := cf18.other W25 (Or.inl (Ne.symm ne_o0_o1))
  have cf32 := cf19.other W25 (Or.inl (Ne.symm ne_o0_o1))
  have cf33 := cf20.other W25 (Or.inl (Ne.symm ne_o0_o2))
  have cf34 := cf21.other W25 (Or.inl (Ne.symm ne_o0_o2))
  have cf35 := cf22.other W25 (Ne.symm ne_o0_o3)
  have cf36 := F11.other W25 (Or.inr (slot_ne (Or.inl (oW hw 190 rfl)) (Or.inl (oW hw 192 rfl)) (by decide) (t := .int) (t' := .int) (by decide) (by decide)))
  have Z_25 : n0 ≤ h25.size := Nat.le_trans Z_11 (Keep.of_wr W25).1
  have K_25 : Keep h0 h25 [o0] := K_11.wr W25 (oI 0 rfl)
  have N25 := Fr.snoc X25 N11 g_o0
  refine oG T25 m 82 #[rv o0, iv 0, rv o3] [(.int 0), (.int 1), (.ref o3)] (st25) ?_
  refine oG T25 m 83 #[rv o0, iv 0, rv o3] [(.int ((1 : Int32) + (0 : Int32))), (.ref o3)] (fun t k => XS.iadd X25.here hx rfl (hb hB d25_82) rfl k) ?_
  rw [show ((1 : Int32) + (0 : Int32)) = (1 : Int32) from by decide]
  refine oG T25 m 84 #[rv o0, iv 0, rv o3] [(.ref o5)] (own_aaload X25 hx hZ e25 cf35 rfl (j := (1 : Int32)) ⟨by decide, by decide⟩ rfl (hb hB d25_83)) ?_
  refine own_retA X25 hx hlk hret rfl rfl rfl (hb hB d25_84) (by decide) (by decide) ?_
  rw [e25]
  exact ⟨rfl, N25, K_25, cf27, cf28, cf29, cf36, F25⟩
theorem qQ103 (m : MethodId) (q0 : Addr) : entryFrame m #[(.ref q0)] 1 = mkF m 0 #[rv q0] [] := by first | (simp [entryFrame, mkF, argsToLocals, Value.category]; done) | rfl
theorem sp63 (l : Launch) (Z : State) (a0 : Array Value) (hw : ∀ d ∈ tables_1, d.before a0 Z = true) (ws : List Jvm.Cond) (o0 o1 : Addr) (h0 : Heap) (n0 : Nat) (Z0 : n0 ≤ h0.size) (F_cursor_o0 : Fld Z h0 o0 OwnK2 "cursor" "I" (.int 1)) (F_this_0_o0 : Fld Z h0 o0 OwnK2 "this$0" OwnK7 (.ref o1)) (F_size_o1 : Fld Z h0 o1 OwnK3 "size" "I" (.int 1)) :
    OwnC l Z (⟨OwnK2, "hasNext", "()Z"⟩ : MethodName) jdk_136_method_2_code 1 (some .boolean) ws ({ frames := 0, cells := 0, slots := 0, locals := 0 } : Room) #[(.ref o0)] h0 (fun v h L => v = some (.int 0) ∧ h = h0 ∧ L = []) := by
  refine own_entry qQ23 (fun m => qQ103 m o0) ?_
  intro p e s m below meth c T0 X0 hC e0
  obtain ⟨hx, hB, hml, hown, hnm, hret, hlk, hZ⟩ := hC
  have N0 := Fr.nil n0
  have K0 := Keep.refl h0 []
  refine oG T0 m 1 #[rv o0] [(.ref o0)] (fun t k => XS.aloadN X0.here hx rfl (hb hB d24_0) rfl rfl k) ?_
  obtain ⟨T1, X1, e1, st1⟩ := getF X0 hx hZ hown (host := "") (Or.inl (oW hw 189 rfl)) Via.refl e0 F_cursor_o0 (g := (mkF m 1 #[rv o0] [(.ref o0)])) rfl rfl (hb hB d24_1)
  refine oG T1 m 4 #[rv o0] [(.int 1)] (st1) ?_
  refine oG T1 m 5 #[rv o0] [(.ref o0), (.int 1)] (fun t k => XS.aloadN X1.here hx rfl (hb hB d24_4) rfl rfl k) ?_
  obtain ⟨T2, X2, e2, st2⟩ := getF X1 hx hZ hown (host := "") (Or.inl (oW hw 184 rfl)) Via.refl e1 F_this_0_o0 (g := (mkF m 5 #[rv o0] [(.ref o0), (.int 1)])) rfl rfl (hb hB d24_5)
  refine oG T2 m 8 #[rv o0] [(.ref o1), (.int 1)] (st2) ?_
  refine oG T2 m 11 #[rv o0] [(.int 1), (.int 1)] (own_getfRef X2 hx hZ hown (oW hw 205 rfl) e2 F_size_o1 (hb hB d24_8)) ?_
  refine oG T2 m 18 #[rv o0] [] (fun t k => XS.icmpYes X2.here hx rfl (pc0 := 11) (pc' := 18) rfl (hb hB d24_11) rfl (teq (by decide)).1 (by decide) (by decide) k) ?_
  refine oG T2 m 19 #[rv o0] [(.int 0)] (fun t k => XS.iconst X2.here hx rfl (hb hB d24_18) k) ?_
  refine own_retZ X2 hx hlk hret (by decide) (hb hB d24_19) (by decide) (by decide) ?_
  exact ⟨rfl, e2, rfl⟩
theorem qQ81 (m : MethodId) (q0 : Addr) (q1 : Addr) : entryFrame m #[(.ref q0), (.ref q1)] 4 = mkF m 0 #[rv q0, rv q1, .unset, .unset] [] := by first | (simp [entryFrame, mkF, argsToLocals, Value.category]; done) | rfl
theorem sp55 (l : Launch) (Z : State) (a0 : Array Value) (hw : ∀ d ∈ tables_1, d.before a0 Z = true) (ws : List Jvm.Cond) (o0 o1 o2 o3 o4 : Addr) (u0 : Int64) (u1 : Int64) (c0 : ClassId) (h0 : Heap) (n0 : Nat) (Z0 : n0 ≤ h0.size) (F_ahead_o0 : Fld Z h0 o0 OwnK1 "ahead" "I" (.int 1)) (F_changes_o0 : Fld Z h0 o0 OwnK1 "changes" "Ljava/util/List;" (.ref o2)) (E_o1 : Exa Z h0 o1 OwnK0) (F_id_o1 : Fld Z h0 o1 OwnK0 "id" "J" (.long u0)) (E_o2 : Exa Z h0 o2 OwnK4) (F_elementData_o2 : Fld Z h0 o2 OwnK4 "elementData" OwnK6 (.ref o3)) (F_mC_o2 : Fld Z h0 o2 OwnK5 "modCount" "I" (.int 2)) (F_size_o2 : Fld Z h0 o2 OwnK4 "size" "I" (.int 2)) (V_o3 : Arv Z h0 o3 c0 (.object "java/lang/Object") (10 : Int32) [(.ref o1), (.ref o4), .null, .null, .null, .null, .null, .null, .null, .null] .null) (O_o3 : Ovr Z c0 "java/lang/Object") (E_o4 : Exa Z h0 o4 OwnK0) (F_id_o4 : Fld Z h0 o4 OwnK0 "id" "J" (.long u1)) (ne_o0_o1 : o0 ≠ o1) (ne_o0_o2 : o0 ≠ o2) (ne_o0_o3 : o0 ≠ o3) (ne_o0_o4 : o0 ≠ o4) (hq0 : ¬ (u1 = u0)) :
    OwnC l Z (⟨OwnK1, "isOfBacklog", "(Lcom/example/newt/newt/core/delivery/Change;)Z"⟩ : MethodName) prog_11_method_4_code 4 (some .boolean) ws ({ frames := 5, cells := 2, slots := 10, locals := 66 } : Room) #[(.ref o0), (.ref o1)] h0 (fun v h L => v = some (.int 0) ∧ Fr n0 L ∧ Keep h0 h []) := by
  refine own_entry qQ2 (fun m => qQ81 m o0 o1) ?_
  intro p e s m below meth c T0 X0 hC e0
  obtain ⟨hx, hB, hml, hown, hnm, hret, hlk, hZ⟩ := hC
  have N0 := Fr.nil n0
  have K0 := Keep.refl h0 []
  refine oG T0 m 1 #[rv o0, rv o1, .unset, .unset] [(.ref o0)] (fun t k => XS.aloadN X0.here hx rfl (hb hB d13_0) rfl rfl k) ?_
  obtain ⟨T1, X1, e1, st1⟩ := getF X0 hx hZ hown (host := "") (Or.inl (oW hw 58 rfl)) Via.refl e0 F_changes_o0 (g := (mkF m 1 #[rv o0, rv o1, .unset, .unset] [(.ref o0)])) rfl rfl (hb hB d13_1)
  refine oG T1 m 4 #[rv o0, rv o1, .unset, .unset] [(.ref o2)] (st1) ?_
  refine oG T1 m 5 #[rv o0, rv o1, .unset, .unset] [(.ref o0), (.ref o2)] (fun t k => XS.aloadN X1.here hx rfl (hb hB d13_4) rfl rfl k) ?_
  obtain ⟨T2, X2, e2, st2⟩ := getF X1 hx hZ hown (host := "") (Or.inl (oW hw 60 rfl)) Via.refl e1 F_ahead_o0 (g := (mkF m 5 #[rv o0, rv o1, .unset, .unset] [(.ref o0), (.ref o2)])) rfl rfl (hb hB d13_5)
  refine oG T2 m 8 #[rv o0, rv o1, .unset, .unset] [(.int 1), (.ref o2)] (st2) ?_
  refine oG T2 m 9 #[rv o0, rv o1, .unset, .unset] [(.ref o0), (.int 1), (.ref o2)] (fun t k => XS.aloadN X2.here hx rfl (hb hB d13_8) rfl rfl k) ?_
  obtain ⟨T3, X3, e3, st3⟩ := getF X2 hx hZ hown (host := "") (Or.inl (oW hw 58 rfl)) Via.refl e2 F_changes_o0 (g := (mkF m 9 #[rv o0, rv o1, .unset, .unset] [(.ref o0), (.int 1), (.ref o2)])) rfl rfl (hb hB d13_9)
  refine oG T3 m 12 #[rv o0, rv o1, .unset, .unset] [(.ref o2), (.int 1), (.ref o2)] (st3) ?_
  obtain ⟨_, T4, L4, X4, ⟨rfl, e4, rfl⟩, st4⟩ := own_interface X3 hx hZ (xi := (⟨"java/util/List", "size", "()I"⟩ : MethodName)) (y := (⟨OwnK4, "size", "()I"⟩ : MethodName)) hown (oW hw 103 rfl) (oW hw 104 rfl) (mvT hZ (oW hw 105 rfl)) (oW hw 106 rfl) (oW hw 107 rfl) (oW hw 108 rfl) (oW hw 109 rfl) (oW hw 110 rfl) (oW hw 29 rfl) (oW hw 111 rfl) (by decide) (sp42 l Z a0 hw [] o2 h0 n0 Z0 F_size_o2) e3 E_o2 2 (argsL := []) (rest := [(.int 1), (.ref o2)]) (Ls := #[rv o0, rv o1, .unset, .unset]) (by rw [hml]; rfl) (lenOf qQ153 rfl) rfl rfl (Nat.le_of_eq rfl) (hb hB d13_12) (by decide) (by decide) (by decide) (by decide)
  replace X4 := own_nil X4
  refine oG T4 m 17 #[rv o0, rv o1, .unset, .unset] [(.int 2), (.int 1), (.ref o2)] (st4) ?_
  obtain ⟨_, T5, L5, X5, ⟨w0_5, rfl, Nq5, Kq5, syw0_5, fq0_5, fq1_5, fq2_5, fq3_5, fq4_5⟩, st5⟩ := own_interface X4 hx hZ (xi := (⟨"java/util/List", "subList", "(II)Ljava/util/List;"⟩ : MethodName)) (y := (⟨OwnK4, "subList", "(II)Ljava/util/List;"⟩ : MethodName)) hown (oW hw 112 rfl) (oW hw 113 rfl) (mvT hZ (oW hw 114 rfl)) (oW hw 115 rfl) (oW hw 116 rfl) (oW hw 117 rfl) (oW hw 118 rfl) (oW hw 110 rfl) (oW hw 29 rfl) (oW hw 119 rfl) (by decide) (sp56 l Z a0 hw [] o2 h0 n0 Z0 F_mC_o2 F_size_o2) e4 E_o2 0 (argsL := [(.int 1), (.int 2)]) (rest := []) (Ls := #[rv o0, rv o1, .unset, .unset]) (by rw [hml]; rfl) (lenOf qQ39 rfl) rfl rfl (Nat.le_of_eq rfl) (hb hB d13_17) (by decide) (by decide) (by decide) (by decide)
  have g_w0_5 : n0 ≤ w0_5 := syw0_5.2
  have sz_w0_5 : h0.size ≤ w0_5 := Nat.le_trans K0.1 syw0_5.1
  have ne_o0_w0_5 : o0 ≠ w0_5 := Nat.ne_of_lt (Nat.lt_of_lt_of_le F_ahead_o0.lt syw0_5.1)
  have ne_o1_w0_5 : o1 ≠ w0_5 := Nat.ne_of_lt (Nat.lt_of_lt_of_le E_o1.lt syw0_5.1)
  have ne_o2_w0_5 : o2 ≠ w0_5 := Nat.ne_of_lt (Nat.lt_of_lt_of_le E_o2.lt syw0_5.1)
  have ne_o3_w0_5 : o3 ≠ w0_5 := Nat.ne_of_lt (Nat.lt_of_lt_of_le V_o3.lt syw0_5.1)
  have ne_o4_w0_5 : o4 ≠ w0_5 := Nat.ne_of_lt (Nat.lt_of_lt_of_le E_o4.lt syw0_5.1)
  have N5 := Fr.app N0 Nq5
  have cf6 := F_ahead_o0.keep Kq5 nin0
  have cf7 := F_changes_o0.keep Kq5 nin0
  have cf8 := E_o1.keep Kq5
  have cf9 := F_id_o1.keep Kq5 nin0
  have cf10 := E_o2.keep Kq5
  have cf11 := F_elementData_o2.keep Kq5 nin0
  have cf12 := F_mC_o2.keep Kq5 nin0
  have cf13 := F_size_o2.keep Kq5 nin0
  have cf14 := V_o3.keep Kq5 nin0
  have cf15 := E_o4.keep Kq5
  have cf16 := F_id_o4.keep Kq5 nin0
  have Z_5 : n0 ≤ T5.heap.size := Nat.le_trans Z0 Kq5.1
  have K_5 : Keep h0 T5.heap [] := K0.trans Kq5 all0
  refine oG T5 m 22 #[rv o0, rv o1, .unset, .unset] [(.ref w0_5)] (st5) ?_
  obtain ⟨_, T17, L17, X17, ⟨w0_17, rfl, Nq17, Kq17, syw0_17, fq0_17, fq1_17, fq2_17, fq3_17, fq4_17, fq5_17⟩, st17⟩ := own_interface X5 hx hZ (xi := (⟨"java/util/List", "iterator", "()Ljava/util/Iterator;"⟩ : MethodName)) (y := (⟨OwnK3, "iterator", "()Ljava/util/Iterator;"⟩ : MethodName)) hown (oW hw 146 rfl) (oW hw 147 rfl) (mvT hZ (oW hw 148 rfl)) (oW hw 149 rfl) (oW hw 150 rfl) (oW hw 151 rfl) (oW hw 152 rfl) (oW hw 153 rfl) (oW hw 126 rfl) (oW hw 154 rfl) (by decide) (sp59 l Z a0 hw [] w0_5 o2 T5.heap n0 Z_5 fq0_5 fq4_5 fq1_5 fq3_5 cf12) rfl fq0_5 0 (argsL := []) (rest := []) (Ls := #[rv o0, rv o1, .unset, .unset]) (by rw [hml]; rfl) (lenOf qQ35 rfl) rfl rfl (Nat.le_of_eq rfl) (hb hB d13_22) (by decide) (by decide) (by decide) (by decide)
  have g_w0_17 : n0 ≤ w0_17 := syw0_17.2
  have sz_w0_17 : h0.size ≤ w0_17 := Nat.le_trans K_5.1 syw0_17.1
  have ne_o0_w0_17 : o0 ≠ w0_17 := Nat.ne_of_lt (Nat.lt_of_lt_of_le cf6.lt syw0_17.1)
  have ne_o1_w0_17 : o1 ≠ w0_17 := Nat.ne_of_lt (Nat.lt_of_lt_of_le cf8.lt syw0_17.1)
  have ne_o2_w0_17 : o2 ≠ w0_17 := Nat.ne_of_lt (Nat.lt_of_lt_of_le cf10.lt syw0_17.1)
  have ne_o3_w0_17 : o3 ≠ w0_17 := Nat.ne_of_lt (Nat.lt_of_lt_of_le cf14.lt syw0_17.1)
  have ne_o4_w0_17 : o4 ≠ w0_17 := Nat.ne_of_lt (Nat.lt_of_lt_of_le cf15.lt syw0_17.1)
  have ne_w0_5_w0_17 : w0_5 ≠ w0_17 := Nat.ne_of_lt (Nat.lt_of_lt_of_le fq0_5.lt syw0_17.1)
  have N17 := Fr.app N5 Nq17
  have cf18 := cf6.keep Kq17 nin0
  have cf19 := cf7.keep Kq17 nin0
  have cf20 := cf8.keep Kq17
  have cf21 := cf9.keep Kq17 nin0
  have cf22 := cf10.keep Kq17
  have cf23 := cf11.keep Kq17 nin0
  have cf24 := cf12.keep Kq17 nin0
  have cf25 := cf13.keep Kq17 nin0
  have cf26 := cf14.keep Kq17 nin0
  have cf27 := cf15.keep Kq17
  have cf28 := cf16.keep Kq17 nin0
  have cf29 := fq0_5.keep Kq17
  have cf30 := fq1_5.keep Kq17 nin0
  have cf31 := fq2_5.keep Kq17 nin0
  have cf32 := fq3_5.keep Kq17 nin0
  have cf33 := fq4_5.keep Kq17 nin0
  have Z_17 : n0 ≤ T17.heap.size := Nat.le_trans Z_5 Kq17.1
  have K_17 : Keep h0 T17.heap [] := K_5.trans Kq17 all0
  refine oG T17 m 27 #[rv o0, rv o1, .unset, .unset] [(.ref w0_17)] (st17) ?_
  refine oG T17 m 28 #[rv o0, rv o1, rv w0_17, .unset] [] (fun t k => XS.astoreN X17.here hx rfl (hb hB d13_27) rfl rfl rfl k) ?_
  refine oG T17 m 29 #[rv o0, rv o1, rv w0_17, .unset] [(.ref w0_17)] (fun t k => XS.aloadN X17.here hx rfl (hb hB d13_28) rfl rfl k) ?_
  obtain ⟨_, T34, L34, X34, ⟨rfl, e34, rfl⟩, st34⟩ := own_interface X17 hx hZ (xi := (⟨"java/util/Iterator", "hasNext", "()Z"⟩ : MethodName)) (y := (⟨OwnK2, "hasNext", "()Z"⟩ : MethodName)) hown (oW hw 196 rfl) (oW hw 197 rfl) (mvT hZ (oW hw 198 rfl)) (oW hw 199 rfl) (oW hw 200 rfl) (oW hw 201 rfl) (oW hw 202 rfl) (oW hw 203 rfl) (oW hw 179 rfl) (oW hw 204 rfl) (by decide) (sp24 l Z a0 hw [] w0_17 w0_5 T17.heap n0 Z_17 fq3_17 fq1_17 cf32) rfl fq0_17 0 (argsL := []) (rest := []) (Ls := #[rv o0, rv o1, rv w0_17, .unset]) (by rw [hml]; rfl) (lenOf qQ158 rfl) rfl rfl (Nat.le_of_eq rfl) (hb hB d13_29) (by decide) (by decide) (by decide) (by decide)
  replace X34 := own_nil X34
  refine oG T34 m 34 #[rv o0, rv o1, rv w0_17, .unset] [(.int 1)] (st34) ?_
  refine oG T34 m 37 #[rv o0, rv o1, rv w0_17, .unset] [] (fun t k => XS.ifNo X34.here hx rfl (hb hB d13_34) rfl ((if0 _ _).trans (feq (by decide)).1) k) ?_
  refine oG T34 m 38 #[rv o0, rv o1, rv w0_17, .unset] [(.ref w0_17)] (fun t k => XS.aloadN X34.here hx rfl (hb hB d13_37) rfl rfl k) ?_
  obtain ⟨_, T35, L35, X35, ⟨rfl, Nq35, Kq35, fq0_35, fq1_35, fq2_35, fq3_35, fq4_35⟩, st35⟩ := own_interface X34 hx hZ (xi := (⟨"java/util/Iterator", "next", "()Ljava/lang/Object;"⟩ : MethodName)) (y := (⟨OwnK2, "next", "()Ljava/lang/Object;"⟩ : MethodName)) hown (oW hw 206 rfl) (oW hw 207 rfl) (mvT hZ (oW hw 208 rfl)) (oW hw 209 rfl) (oW hw 210 rfl) (oW hw 211 rfl) (oW hw 212 rfl) (oW hw 203 rfl) (oW hw 179 rfl) (oW hw 213 rfl) (by decide) (sp62 l Z a0 hw [] w0_17 w0_5 o2 o3 o1 o4 c0 T17.heap n0 Z_17 fq0_17 fq3_17 fq5_17 fq4_17 fq1_17 fq2_17 cf31 cf30 cf32 cf23 cf24 cf26 O_o3 (Ne.symm ne_w0_5_w0_17) (Ne.symm ne_o2_w0_17) (Ne.symm ne_o3_w0_17) (Ne.symm ne_o1_w0_17) (Ne.symm ne_o4_w0_17) g_w0_17) e34 fq0_17 0 (argsL := []) (rest := []) (Ls := #[rv o0, rv o1, rv w0_17, .unset]) (by rw [hml]; rfl) (lenOf qQ38 rfl) rfl rfl (Nat.le_of_eq rfl) (hb hB d13_38) (by decide) (by decide) (by decide) (by decide)
  have N35 := Fr.app N17 Nq35
  have cf36 := cf18.keep Kq35 (ninS ne_o0_w0_17 nin0)
  have cf37 := cf19.keep Kq35 (ninS ne_o0_w0_17 nin0)
  have cf38 := cf20.keep Kq35
  have cf39 := cf21.keep Kq35 (ninS ne_o1_w0_17 nin0)
  have cf40 := cf22.keep Kq35
  have cf41 := cf23.keep Kq35 (ninS ne_o2_w0_17 nin0)
  have cf42 := cf24.keep Kq35 (ninS ne_o2_w0_17 nin0)
  have cf43 := cf25.keep Kq35 (ninS ne_o2_w0_17 nin0)
  have cf44 := cf26.keep Kq35 (ninS ne_o3_w0_17 nin0)
  have cf45 := cf27.keep Kq35
  have cf46 := cf28.keep Kq35 (ninS ne_o4_w0_17 nin0)
  have cf47 := cf29.keep Kq35
  have cf48 := cf30.keep Kq35 (ninS ne_w0_5_w0_17 nin0)
  have cf49 := cf31.keep Kq35 (ninS ne_w0_5_w0_17 nin0)
  have cf50 := cf32.keep Kq35 (ninS ne_w0_5_w0_17 nin0)
  have cf51 := cf33.keep Kq35 (ninS ne_w0_5_w0_17 nin0)
  have cf52 := fq0_17.keep Kq35
  have Z_35 : n0 ≤ T35.heap.size := Nat.le_trans Z_17 Kq35.1
  have K_35 : Keep h0 T35.heap [] := K_17.trans Kq35 (allS (Or.inr sz_w0_17) all0)
  refine oG T35 m 43 #[rv o0, rv o1, rv w0_17, .unset] [(.ref o4)] (st35) ?_
  obtain ⟨T53, X53, e53, st53⟩ := castY X35 hx hZ hown (oW hw 223 rfl) rfl (Ins.self cf45) (g := (mkF m 43 #[rv o0, rv o1, rv w0_17, .unset] [(.ref o4)])) rfl rfl (hb hB d13_43)
  refine oG T53 m 46 #[rv o0, rv o1, rv w0_17, .unset] [(.ref o4)] (st53) ?_
  refine oG T53 m 47 #[rv o0, rv o1, rv w0_17, rv o4] [] (fun t k => XS.astoreN X53.here hx rfl (hb hB d13_46) rfl rfl rfl k) ?_
  refine oG T53 m 48 #[rv o0, rv o1, rv w0_17, rv o4] [(.ref o4)] (fun t k => XS.aloadN X53.here hx rfl (hb hB d13_47) rfl rfl k) ?_
  obtain ⟨_, T54, L54, X54, ⟨rfl, e54, rfl⟩, st54⟩ := own_virtual X53 hx hZ (y := (⟨OwnK0, "getId", "()J"⟩ : MethodName)) (z := (⟨OwnK0, "getId", "()J"⟩ : MethodName)) hown (oW hw 225 rfl) (oW hw 226 rfl) (notFace_of_selects (args := #[]) (mvT hZ (oW hw 228 rfl))) (oW hw 228 rfl) (oW hw 227 rfl) (oW hw 3 rfl) (oW hw 229 rfl) (by decide) (sp27 l Z a0 hw [] o4 u1 T35.heap n0 Z_35 cf46) e53 cf45 0 (argsL := []) (rest := []) (Ls := #[rv o0, rv o1, rv w0_17, rv o4]) (by rw [hml]; rfl) (lenOf qQ159 rfl) rfl rfl (Nat.le_of_eq rfl) (hb hB d13_48) (by decide) (by decide) (by decide) (by decide)
  replace X54 := own_nil X54
  refine oG T54 m 51 #[rv o0, rv o1, rv w0_17, rv o4] [(.long u1)] (st54) ?_
  refine oG T54 m 52 #[rv o0, rv o1, rv w0_17, rv o4] [(.ref o1), (.long u1)] (fun t k => XS.aloadN X54.here hx rfl (hb hB d13_51) rfl rfl k) ?_
  obtain ⟨_, T55, L55, X55, ⟨rfl, e55, rfl⟩, st55⟩ := own_virtual X54 hx hZ (y := (⟨OwnK0, "getId", "()J"⟩ : MethodName)) (z := (⟨OwnK0, "getId", "()J"⟩ : MethodName)) hown (oW hw 225 rfl) (oW hw 226 rfl) (notFace_of_selects (args := #[]) (mvT hZ (oW hw 228 rfl))) (oW hw 228 rfl) (oW hw 227 rfl) (oW hw 3 rfl) (oW hw 229 rfl) (by decide) (sp27 l Z a0 hw [] o1 u0 T35.heap n0 Z_35 cf39) e54 cf38 2 (argsL := []) (rest := [(.long u1)]) (Ls := #[rv o0, rv o1, rv w0_17, rv o4]) (by rw [hml]; rfl) (lenOf qQ159 rfl) rfl rfl (Nat.le_of_eq rfl) (hb hB d13_52) (by decide) (by decide) (by decide) (by decide)
  replace X55 := own_nil X55
  refine oG T55 m 55 #[rv o0, rv o1, rv w0_17, rv o4] [(.long u0), (.long u1)] (st55) ?_
  refine oG T55 m 56 #[rv o0, rv o1, rv w0_17, rv o4] [(.int (lcmpW u1 u0))] (fun t k => XS.lcmp X55.here hx rfl (hb hB d13_55) rfl k) ?_
  refine oG T55 m 61 #[rv o0, rv o1, rv w0_17, rv o4] [] (fun t k => XS.ifYes X55.here hx rfl (pc0 := 56) (pc' := 61) rfl (hb hB d13_56) rfl ((if0 _ _).trans (feq (mt (lw_eq u1 u0).mp hq0)).2) (by decide) (by decide) k) ?_
  refine oG T55 m 28 #[rv o0, rv o1, rv w0_17, rv o4] [] (fun t k => XS.goto X55.here hx rfl (pc0 := 61) (pc' := 28) rfl (hb hB d13_61) (by decide) (by decide) k) ?_
  refine oG T55 m 29 #[rv o0, rv o1, rv w0_17, rv o4] [(.ref w0_17)] (fun t k => XS.aloadN X55.here hx rfl (hb hB d13_28) rfl rfl k) ?_
  obtain ⟨_, T56, L56, X56, ⟨rfl, e56, rfl⟩, st56⟩ := own_interface X55 hx hZ (xi := (⟨"java/util/Iterator", "hasNext", "()Z"⟩ : MethodName)) (y := (⟨OwnK2, "hasNext", "()Z"⟩ : MethodName)) hown (oW hw 196 rfl) (oW hw 197 rfl) (mvT hZ (oW hw 198 rfl)) (oW hw 199 rfl) (oW hw 200 rfl) (oW hw 201 rfl) (oW hw 202 rfl) (oW hw 203 rfl) (oW hw 179 rfl) (oW hw 204 rfl) (by decide) (sp63 l Z a0 hw [] w0_17 w0_5 T35.heap n0 Z_35 fq3_35 fq1_35 cf50) e55 cf52 0 (argsL := []) (rest := []) (Ls := #[rv o0, rv o1, rv w0_17, rv o4]) (by rw [hml]; rfl) (lenOf qQ158 rfl) rfl rfl (Nat.le_of_eq rfl) (hb hB d13_29) (by decide) (by decide) (by decide) (by decide)
  replace X56 := own_nil X56
  refine oG T56 m 34 #[rv o0, rv o1, rv w0_17, rv o4] [(.int 0)] (st56) ?_
  refine oG T56 m 64 #[rv o0, rv o1, rv w0_17, rv o4] [] (fun t k => XS.ifYes X56.here hx rfl (pc0 := 34) (pc' := 64) rfl (hb hB d13_34) rfl ((if0 _ _).trans (teq (by decide)).1) (by decide) (by decide) k) ?_
  refine oG T56 m 65 #[rv o0, rv o1, rv w0_17, rv o4] [(.int 0)] (fun t k => XS.iconst X56.here hx rfl (hb hB d13_64) k) ?_
  refine own_retZ X56 hx hlk hret (by decide) (hb hB d13_65) (by decide) (by decide) ?_
  rw [e56]
  exact ⟨rfl, N35, K_35⟩
theorem qQ125 (m : MethodId) (q0 : Addr) (q1 : Addr) (q2 : Int32) : entryFrame m #[(.ref q0), (.ref q1), (.int q2)] 3 = mkF m 0 #[rv q0, rv q1, iv q2] [] := by first | (simp [entryFrame, mkF, argsToLocals, Value.category]; done) | rfl
theorem sp64 (l : Launch) (Z : State) (a0 : Array Value) (hw : ∀ d ∈ tables_1, d.before a0 Z = true) (ws : List Jvm.Cond) (o0 o1 : Addr) (h0 : Heap) (n0 : Nat) (Z0 : n0 ≤ h0.size) (E_o0 : Exa Z h0 o0 OwnK1) (F_ahead_o0 : Fld Z h0 o0 OwnK1 "ahead" "I" (.int 0)) (F_changes_o0 : Fld Z h0 o0 OwnK1 "changes" "Ljava/util/List;" .null) (ne_o0_o1 : o0 ≠ o1) (g_o0 : n0 ≤ o0) :
    OwnC l Z (⟨OwnK1, "<init>", "(Ljava/util/List;I)V"⟩ : MethodName) prog_11_method_1_code 3 none ws ({ frames := 1, cells := 0, slots := 0, locals := 12 } : Room) #[(.ref o0), (.ref o1), (.int 2)] h0 (fun v h L => v = none ∧ Fr n0 L ∧ Keep h0 h [o0] ∧ Fld Z h o0 OwnK1 "changes" "Ljava/util/List;" (.ref o1) ∧ Fld Z h o0 OwnK1 "ahead" "I" (.int 2)) := by
  refine own_entry qQ3 (fun m => qQ125 m o0 o1 (2 : Int32)) ?_
  intro p e s m below meth c T0 X0 hC e0
  obtain ⟨hx, hB, hml, hown, hnm, hret, hlk, hZ⟩ := hC
  have N0 := Fr.nil n0
  have K0 := Keep.refl h0 [o0]
  refine oG T0 m 1 #[rv o0, rv o1, iv 2] [(.ref o0)] (fun t k => XS.aloadN X0.here hx rfl (hb hB d6_0) rfl rfl k) ?_
  obtain ⟨T1, X1, e1, st1⟩ := initO X0 hx hZ hown (oW hw 57 rfl) (oW hw 8 rfl) (oW hw 9 rfl) e0 (g := (mkF m 1 #[rv o0, rv o1, iv 2] [(.ref o0)])) rfl (by rw [hml]; rfl) rfl (hb hB d6_1) (by decide) (W := 0) (by show 2 * 0 + _ ≤ _; exact Nat.le_of_eq rfl) (by decide)
  refine oG T1 m 4 #[rv o0, rv o1, iv 2] [] (st1) ?_
  refine oG T1 m 5 #[rv o0, rv o1, iv 2] [(.ref o0)] (fun t k => XS.aloadN X1.here hx rfl (hb hB d6_4) rfl rfl k) ?_
  refine oG T1 m 6 #[rv o0, rv o1, iv 2] [(.ref o1), (.ref o0)] (fun t k => XS.aloadN X1.here hx rfl (hb hB d6_5) rfl rfl k) ?_
  obtain ⟨T2, h2, X2, e2, W2, st2⟩ := putF X1 hx hZ hown (host := "") (Or.inl (oW hw 58 rfl)) Via.refl e1 F_changes_o0 E_o0 (Or.inr ⟨(oW hw 59 rfl), rfl, hnm⟩) (oW hw 52 rfl) (ty := (.object "java/util/List")) (by decide) rfl rfl (g := (mkF m 6 #[rv o0, rv o1, iv 2] [(.ref o1), (.ref o0)])) rfl rfl (hb hB d6_6)
  have F2 := F_changes_o0.same W2
  have cf3 := E_o0.wr W2
  have cf4 := F_ahead_o0.other W2 (Or.inr (slot_ne (Or.inr (oW hw 61 rfl)) (Or.inr (oW hw 59 rfl)) (by decide) (t := .int) (t' := (.object "java/util/List")) (by decide) (by decide)))
  have Z_2 : n0 ≤ h2.size := Nat.le_trans Z0 (Keep.of_wr W2).1
  have K_2 : Keep h0 h2 [o0] := K0.wr W2 (oI 0 rfl)
  have N2 := Fr.snoc X2 N0 g_o0
  refine oG T2 m 9 #[rv o0, rv o1, iv 2] [] (st2) ?_
  refine oG T2 m 10 #[rv o0, rv o1, iv 2] [(.ref o0)] (fun t k => XS.aloadN X2.here hx rfl (hb hB d6_9) rfl rfl k) ?_
  refine oG T2 m 11 #[rv o0, rv o1, iv 2] [(.int 2), (.ref o0)] (fun t k => XS.iloadN X2.here hx rfl (hb hB d6_10) rfl k) ?_
  obtain ⟨T5, h5, X5, e5, W5, st5⟩ := putF X2 hx hZ hown (host := "") (Or.inl (oW hw 60 rfl)) Via.refl e2 cf4 cf3 (Or.inr ⟨(oW hw 61 rfl), rfl, hnm⟩) (oW hw 52 rfl) (ty := .int) (by decide) rfl rfl (g := (mkF m 11 #[rv o0, rv o1, iv 2] [(.int 2), (.ref o0)])) rfl rfl (hb hB d6_11)
  have F5 := cf4.same W5
  have cf6 := cf3.wr W5
  have cf7 := F2.other W5 (Or.inr (slot_ne (Or.inr (oW hw 59 rfl)) (Or.inr (oW hw 61 rfl)) (by decide) (t := (.object "java/util/List")) (t' := .int) (by decide) (by decide)))
  have Z_5 : n0 ≤ h5.size := Nat.le_trans Z_2 (Keep.of_wr W5).1
  have K_5 : Keep h0 h5 [o0] := K_2.wr W5 (oI 0 rfl)
  have N5 := Fr.snoc X5 N2 g_o0
  refine oG T5 m 14 #[rv o0, rv o1, iv 2] [] (st5) ?_
  refine own_retV X5 hx hlk hret (hb hB d6_14) (by decide) (by decide) ?_
  rw [e5]
  exact ⟨rfl, N5, K_5, cf7, F5⟩
theorem qQ111 (m : MethodId) (q0 : Addr) : entryFrame m #[(.ref q0)] 1 = mkF m 0 #[rv q0] [] := by first | (simp [entryFrame, mkF, argsToLocals, Value.category]; done) | rfl
theorem sp65 (l : Launch) (Z : State) (a0 : Array Value) (hw : ∀ d ∈ tables_1, d.before a0 Z = true) (ws : List Jvm.Cond) (o0 : Addr) (h0 : Heap) (n0 : Nat) (Z0 : n0 ≤ h0.size) (F_ahead_o0 : Fld Z h0 o0 OwnK1 "ahead" "I" (.int 2)) :
    OwnC l Z (⟨OwnK1, "hasAhead", "()Z"⟩ : MethodName) prog_11_method_3_code 1 (some .boolean) ws ({ frames := 0, cells := 0, slots := 0, locals := 0 } : Room) #[(.ref o0)] h0 (fun v h L => v = some (.int 1) ∧ h = h0 ∧ L = []) := by
  refine own_entry qQ9 (fun m => qQ111 m o0) ?_
  intro p e s m below meth c T0 X0 hC e0
  obtain ⟨hx, hB, hml, hown, hnm, hret, hlk, hZ⟩ := hC
  have N0 := Fr.nil n0
  have K0 := Keep.refl h0 []
  refine oG T0 m 1 #[rv o0] [(.ref o0)] (fun t k => XS.aloadN X0.here hx rfl (hb hB d7_0) rfl rfl k) ?_
  obtain ⟨T1, X1, e1, st1⟩ := getF X0 hx hZ hown (host := "") (Or.inl (oW hw 60 rfl)) Via.refl e0 F_ahead_o0 (g := (mkF m 1 #[rv o0] [(.ref o0)])) rfl rfl (hb hB d7_1)
  refine oG T1 m 4 #[rv o0] [(.int 2)] (st1) ?_
  refine oG T1 m 7 #[rv o0] [] (fun t k => XS.ifNo X1.here hx rfl (hb hB d7_4) rfl ((if0 _ _).trans (tlt (by decide)).2.2.2) k) ?_
  refine oG T1 m 8 #[rv o0] [(.int 1)] (fun t k => XS.iconst X1.here hx rfl (hb hB d7_7) k) ?_
  refine oG T1 m 12 #[rv o0] [(.int 1)] (fun t k => XS.goto X1.here hx rfl (pc0 := 8) (pc' := 12) rfl (hb hB d7_8) (by decide) (by decide) k) ?_
  refine own_retZ X1 hx hlk hret (by decide) (hb hB d7_12) (by decide) (by decide) ?_
  exact ⟨rfl, e1, rfl⟩
theorem qQ143 (m : MethodId) (q0 : Int32) (q1 : Int32) (q2 : Int32) : entryFrame m #[(.int q0), (.int q1), (.int q2)] 3 = mkF m 0 #[iv q0, iv q1, iv q2] [] := by first | (simp [entryFrame, mkF, argsToLocals, Value.category]; done) | rfl
theorem sp68 (l : Launch) (Z : State) (a0 : Array Value) (hw : ∀ d ∈ tables_1, d.before a0 Z = true) (ws : List Jvm.Cond) (h0 : Heap) (n0 : Nat) (Z0 : n0 ≤ h0.size) :
    OwnC l Z (⟨OwnK5, "subListRangeCheck", "(III)V"⟩ : MethodName) jdk_39_method_15_code 3 none ws ({ frames := 0, cells := 0, slots := 0, locals := 0 } : Room) #[(.int 2), (.int 2), (.int 2)] h0 (fun v h L => v = none ∧ h = h0 ∧ L = []) := by
  refine own_entry qQ19 (fun m => qQ143 m (2 : Int32) (2 : Int32) (2 : Int32)) ?_
  intro p e s m below meth c T0 X0 hC e0
  obtain ⟨hx, hB, hml, hown, hnm, hret, hlk, hZ⟩ := hC
  have N0 := Fr.nil n0
  have K0 := Keep.refl h0 []
  refine oG T0 m 1 #[iv 2, iv 2, iv 2] [(.int 2)] (fun t k => XS.iloadN X0.here hx rfl (hb hB d16_0) rfl k) ?_
  refine oG T0 m 31 #[iv 2, iv 2, iv 2] [] (fun t k => XS.ifYes X0.here hx rfl (pc0 := 1) (pc' := 31) rfl (hb hB d16_1) rfl ((if0 _ _).trans (flt (by decide)).2.1) (by decide) (by decide) k) ?_
  refine oG T0 m 32 #[iv 2, iv 2, iv 2] [(.int 2)] (fun t k => XS.iloadN X0.here hx rfl (hb hB d16_31) rfl k) ?_
  refine oG T0 m 33 #[iv 2, iv 2, iv 2] [(.int 2), (.int 2)] (fun t k => XS.iloadN X0.here hx rfl (hb hB d16_32) rfl k) ?_
  refine oG T0 m 63 #[iv 2, iv 2, iv 2] [] (fun t k => XS.icmpYes X0.here hx rfl (pc0 := 33) (pc' := 63) rfl (hb hB d16_33) rfl (flt (by decide)).2.2.2 (by decide) (by decide) k) ?_
  refine oG T0 m 64 #[iv 2, iv 2, iv 2] [(.int 2)] (fun t k => XS.iloadN X0.here hx rfl (hb hB d16_63) rfl k) ?_
  refine oG T0 m 65 #[iv 2, iv 2, iv 2] [(.int 2), (.int 2)] (fun t k => XS.iloadN X0.here hx rfl (hb hB d16_64) rfl k) ?_
  refine oG T0 m 109 #[iv 2, iv 2, iv 2] [] (fun t k => XS.icmpYes X0.here hx rfl (pc0 := 65) (pc' := 109) rfl (hb hB d16_65) rfl (flt (by decide)).2.2.2 (by decide) (by decide) k) ?_
  refine own_retV X0 hx hlk hret (hb hB d16_109) (by decide) (by decide) ?_
  exact ⟨rfl, e0, rfl⟩
theorem qQ93 (m : MethodId) (q0 : Addr) (q1 : Addr) (q2 : Int32) (q3 : Int32) : entryFrame m #[(.ref q0), (.ref q1), (.int q2), (.int q3)] 4 = mkF m 0 #[rv q0, rv q1, iv q2, iv q3] [] := by first | (simp [entryFrame, mkF, argsToLocals, Value.category]; done) | rfl
theorem sp69 (l : Launch) (Z : State) (a0 : Array Value) (hw : ∀ d ∈ tables_1, d.before a0 Z = true) (ws : List Jvm.Cond) (o0 o1 : Addr) (h0 : Heap) (n0 : Nat) (Z0 : n0 ≤ h0.size) (E_o0 : Exa Z h0 o0 OwnK3) (F_mC_o0 : Fld Z h0 o0 OwnK5 "modCount" "I" (.int 0)) (F_offset_o0 : Fld Z h0 o0 OwnK3 "offset" "I" (.int 0)) (F_parent_o0 : Fld Z h0 o0 OwnK3 "parent" OwnK7 .null) (F_root_o0 : Fld Z h0 o0 OwnK3 "root" OwnK8 .null) (F_size_o0 : Fld Z h0 o0 OwnK3 "size" "I" (.int 0)) (F_mC_o1 : Fld Z h0 o1 OwnK5 "modCount" "I" (.int 2)) (ne_o0_o1 : o0 ≠ o1) (g_o0 : n0 ≤ o0) :
    OwnC l Z (⟨OwnK3, "<init>", "(Ljava/util/ArrayList;II)V"⟩ : MethodName) jdk_130_method_1_code 4 none ws ({ frames := 3, cells := 0, slots := 0, locals := 36 } : Room) #[(.ref o0), (.ref o1), (.int 2), (.int 2)] h0 (fun v h L => v = none ∧ Fr n0 L ∧ Keep h0 h [o0] ∧ Fld Z h o0 OwnK3 "root" OwnK8 (.ref o1) ∧ Fld Z h o0 OwnK3 "offset" "I" (.int 2) ∧ Fld Z h o0 OwnK3 "size" "I" (.int 0) ∧ Fld Z h o0 OwnK5 "modCount" "I" (.int 2)) := by
  refine own_entry qQ10 (fun m => qQ93 m o0 o1 (2 : Int32) (2 : Int32)) ?_
  intro p e s m below meth c T0 X0 hC e0
  obtain ⟨hx, hB, hml, hown, hnm, hret, hlk, hZ⟩ := hC
  have N0 := Fr.nil n0
  have K0 := Keep.refl h0 [o0]
  refine oG T0 m 1 #[rv o0, rv o1, iv 2, iv 2] [(.ref o0)] (fun t k => XS.aloadN X0.here hx rfl (hb hB d17_0) rfl rfl k) ?_
  obtain ⟨_, T1, L1, X1, ⟨rfl, Nq1, Kq1, fq0_1, fq1_1, fq2_1, fq3_1, fq4_1⟩, st1⟩ := own_init X0 hx hZ (y := (⟨OwnK5, "<init>", "()V"⟩ : MethodName)) rfl hown (oW hw 131 rfl) (oW hw 34 rfl) (oW hw 37 rfl) (oW hw 38 rfl) (by decide) (sp17 l Z a0 hw [] o0 h0 n0 Z0 E_o0 F_mC_o0 F_offset_o0 F_parent_o0 F_root_o0 F_size_o0 g_o0) e0 (a := o0) 0 (argsL := []) (rest := []) (Ls := #[rv o0, rv o1, iv 2, iv 2]) (by rw [hml]; rfl) (lenOf qQ155 rfl) rfl rfl (Nat.le_of_eq rfl) (hb hB d17_1) (by decide) (by decide) (by decide) (by decide)
  have N1 := Fr.app N0 Nq1
  have cf2 := E_o0.keep Kq1
  have cf3 := F_mC_o1.keep Kq1 (ninS (Ne.symm ne_o0_o1) nin0)
  have Z_1 : n0 ≤ T1.heap.size := Nat.le_trans Z0 Kq1.1
  have K_1 : Keep h0 T1.heap [o0] := K0.trans Kq1 (allS (oI 0 rfl) all0)
  refine oG T1 m 4 #[rv o0, rv o1, iv 2, iv 2] [] (st1) ?_
  refine oG T1 m 5 #[rv o0, rv o1, iv 2, iv 2] [(.ref o0)] (fun t k => XS.aloadN X1.here hx rfl (hb hB d17_4) rfl rfl k) ?_
  refine oG T1 m 6 #[rv o0, rv o1, iv 2, iv 2] [(.ref o1), (.ref o0)] (fun t k => XS.aloadN X1.here hx rfl (hb hB d17_5) rfl rfl k) ?_
  obtain ⟨T4, h4, X4, e4, W4, st4⟩ := putF X1 hx hZ hown (host := "") (Or.inl (oW hw 135 rfl)) Via.refl rfl fq2_1 cf2 (Or.inr ⟨(oW hw 136 rfl), rfl, hnm⟩) (oW hw 125 rfl) (ty := (.object OwnK4)) (by decide) rfl rfl (g := (mkF m 6 #[rv o0, rv o1, iv 2, iv 2] [(.ref o1), (.ref o0)])) rfl rfl (hb hB d17_6)
  have F4 := fq2_1.same W4
  have cf5 := cf2.wr W4
  have cf6 := cf3.other W4 (Or.inl (Ne.symm ne_o0_o1))
  have cf7 := fq0_1.other W4 (Or.inr (slot_ne (Or.inr (oW hw 140 rfl)) (Or.inr (oW hw 136 rfl)) (by decide) (t := .int) (t' := (.object OwnK4)) (by decide) (by decide)))
  have cf8 := fq1_1.other W4 (Or.inr (slot_ne (Or.inr (oW hw 138 rfl)) (Or.inr (oW hw 136 rfl)) (by decide) (t := (.object OwnK3)) (t' := (.object OwnK4)) (by decide) (by decide)))
  have cf9 := fq3_1.other W4 (Or.inr (slot_ne (Or.inl (oW hw 142 rfl)) (Or.inr (oW hw 136 rfl)) (by decide) (t := .int) (t' := (.object OwnK4)) (by decide) (by decide)))
  have cf10 := fq4_1.other W4 (Or.inr (slot_ne (Or.inl (oW hw 134 rfl)) (Or.inr (oW hw 136 rfl)) (by decide) (t := .int) (t' := (.object OwnK4)) (by decide) (by decide)))
  have Z_4 : n0 ≤ h4.size := Nat.le_trans Z_1 (Keep.of_wr W4).1
  have K_4 : Keep h0 h4 [o0] := K_1.wr W4 (oI 0 rfl)
  have N4 := Fr.snoc X4 N1 g_o0
  refine oG T4 m 9 #[rv o0, rv o1, iv 2, iv 2] [] (st4) ?_
  refine oG T4 m 10 #[rv o0, rv o1, iv 2, iv 2] [(.ref o0)] (fun t k => XS.aloadN X4.here hx rfl (hb hB d17_9) rfl rfl k) ?_
  refine oG T4 m 11 #[rv o0, rv o1, iv 2, iv 2] [.null, (.ref o0)] (fun t k => XS.aconstNull X4.here hx rfl (hb hB d17_10) k) ?_
  obtain ⟨T11, h11, X11, e11, W11, st11⟩ := putF X4 hx hZ hown (host := "") (Or.inl (oW hw 137 rfl)) Via.refl e4 cf8 cf5 (Or.inr ⟨(oW hw 138 rfl), rfl, hnm⟩) (oW hw 125 rfl) (ty := (.object OwnK3)) (by decide) rfl rfl (g := (mkF m 11 #[rv o0, rv o1, iv 2, iv 2] [.null, (.ref o0)])) rfl rfl (hb hB d17_11)
  have F11 := cf8.same W11
  have cf12 := cf5.wr W11
  have cf13 := cf6.other W11 (Or.inl (Ne.symm ne_o0_o1))
  have cf14 := cf7.other W11 (Or.inr (slot_ne (Or.inr (oW hw 140 rfl)) (Or.inr (oW hw 138 rfl)) (by decide) (t := .int) (t' := (.object OwnK3)) (by decide) (by decide)))
  have cf15 := cf9.other W11 (Or.inr (slot_ne (Or.inl (oW hw 142 rfl)) (Or.inr (oW hw 138 rfl)) (by decide) (t := .int) (t' := (.object OwnK3)) (by decide) (by decide)))
  have cf16 := cf10.other W11 (Or.inr (slot_ne (Or.inl (oW hw 134 rfl)) (Or.inr (oW hw 138 rfl)) (by decide) (t := .int) (t' := (.object OwnK3)) (by decide) (by decide)))
  have cf17 := F4.other W11 (Or.inr (slot_ne (Or.inr (oW hw 136 rfl)) (Or.inr (oW hw 138 rfl)) (by decide) (t := (.object OwnK4)) (t' := (.object OwnK3)) (by decide) (by decide)))
  have Z_11 : n0 ≤ h11.size := Nat.le_trans Z_4 (Keep.of_wr W11).1
  have K_11 : Keep h0 h11 [o0] := K_4.wr W11 (oI 0 rfl)
  have N11 := Fr.snoc X11 N4 g_o0
  refine oG T11 m 14 #[rv o0, rv o1, iv 2, iv 2] [] (st11) ?_
  refine oG T11 m 15 #[rv o0, rv o1, iv 2, iv 2] [(.ref o0)] (fun t k => XS.aloadN X11.here hx rfl (hb hB d17_14) rfl rfl k) ?_
  refine oG T11 m 16 #[rv o0, rv o1, iv 2, iv 2] [(.int 2), (.ref o0)] (fun t k => XS.iloadN X11.here hx rfl (hb hB d17_15) rfl k) ?_
  obtain ⟨T18, h18, X18, e18, W18, st18⟩ := putF X11 hx hZ hown (host := "") (Or.inl (oW hw 139 rfl)) Via.refl e11 cf14 cf12 (Or.inr ⟨(oW hw 140 rfl), rfl, hnm⟩) (oW hw 125 rfl) (ty := .int) (by decide) rfl rfl (g := (mkF m 16 #[rv o0, rv o1, iv 2, iv 2] [(.int 2), (.ref o0)])) rfl rfl (hb hB d17_16)
  have F18 := cf14.same W18
  have cf19 := cf12.wr W18
  have cf20 := cf13.other W18 (Or.inl (Ne.symm ne_o0_o1))
  have cf21 := cf15.other W18 (Or.inr (slot_ne (Or.inl (oW hw 142 rfl)) (Or.inr (oW hw 140 rfl)) (by decide) (t := .int) (t' := .int) (by decide) (by decide)))
  have cf22 := cf16.other W18 (Or.inr (slot_ne (Or.inl (oW hw 134 rfl)) (Or.inr (oW hw 140 rfl)) (by decide) (t := .int) (t' := .int) (by decide) (by decide)))
  have cf23 := cf17.other W18 (Or.inr (slot_ne (Or.inr (oW hw 136 rfl)) (Or.inr (oW hw 140 rfl)) (by decide) (t := (.object OwnK4)) (t' := .int) (by decide) (by decide)))
  have cf24 := F11.other W18 (Or.inr (slot_ne (Or.inr (oW hw 138 rfl)) (Or.inr (oW hw 140 rfl)) (by decide) (t := (.object OwnK3)) (t' := .int) (by decide) (by decide)))
  have Z_18 : n0 ≤ h18.size := Nat.le_trans Z_11 (Keep.of_wr W18).1
  have K_18 : Keep h0 h18 [o0] := K_11.wr W18 (oI 0 rfl)
  have N18 := Fr.snoc X18 N11 g_o0
  refine oG T18 m 19 #[rv o0, rv o1, iv 2, iv 2] [] (st18) ?_
  refine oG T18 m 20 #[rv o0, rv o1, iv 2, iv 2] [(.ref o0)] (fun t k => XS.aloadN X18.here hx rfl (hb hB d17_19) rfl rfl k) ?_
  refine oG T18 m 21 #[rv o0, rv o1, iv 2, iv 2] [(.int 2), (.ref o0)] (fun t k => XS.iloadN X18.here hx rfl (hb hB d17_20) rfl k) ?_
  refine oG T18 m 22 #[rv o0, rv o1, iv 2, iv 2] [(.int 2), (.int 2), (.ref o0)] (fun t k => XS.iloadN X18.here hx rfl (hb hB d17_21) rfl k) ?_
  refine oG T18 m 23 #[rv o0, rv o1, iv 2, iv 2] [(.int ((2 : Int32) - (2 : Int32))), (.ref o0)] (fun t k => XS.isub X18.here hx rfl (hb hB d17_22) rfl k) ?_
  rw [show ((2 : Int32) - (2 : Int32)) = (0 : Int32) from by decide]
  obtain ⟨T25, h25, X25, e25, W25, st25⟩ := putF X18 hx hZ hown (host := "") (Or.inl (oW hw 141 rfl)) Via.refl e18 cf21 cf19 (Or.inl (oW hw 142 rfl)) (oW hw 125 rfl) (ty := .int) (by decide) rfl rfl (g := (mkF m 23 #[rv o0, rv o1, iv 2, iv 2] [(.int 0), (.ref o0)])) rfl rfl (hb hB d17_23)
  have F25 := cf21.same W25
  have cf26 := cf19.wr W25
  have cf27 := cf20.other W25 (Or.inl (Ne.symm ne_o0_o1))
  have cf28 := cf22.other W25 (Or.inr (slot_ne (Or.inl (oW hw 134 rfl)) (Or.inl (oW hw 142 rfl)) (by decide) (t := .int) (t' := .int) (by decide) (by decide)))
  have cf29 := cf23.other W25 (Or.inr (slot_ne (Or.inr (oW hw 136 rfl)) (Or.inl (oW hw 142 rfl)) (by decide) (t := (.object OwnK4)) (t' := .int) (by decide) (by decide)))
  have cf30 := cf24.other W25 (Or.inr (slot_ne (Or.inr (oW hw 138 rfl)) (Or.inl (oW hw 142 rfl)) (by decide) (t := (.object OwnK3)) (t' := .int) (by decide) (by decide)))
  have cf31 := F18.other W25 (Or.inr (slot_ne (Or.inr (oW hw 140 rfl)) (Or.inl (oW hw 142 rfl)) (by decide) (t := .int) (t' := .int) (by decide) (by decide)))
  have Z_25 : n0 ≤ h25.size := Nat.le_trans Z_18 (Keep.of_wr W25).1
  have K_25 : Keep h0 h25 [o0] := K_18.wr W25 (oI 0 rfl)
  have N25 := Fr.snoc X25 N18 g_o0
  refine oG T25 m 26 #[rv o0, rv o1, iv 2, iv 2] [] (st25) ?_
  refine oG T25 m 27 #[rv o0, rv o1, iv 2, iv 2] [(.ref o0)] (fun t k => XS.aloadN X25.here hx rfl (hb hB d17_26) rfl rfl k) ?_
  refine oG T25 m 28 #[rv o0, rv o1, iv 2, iv 2] [(.ref o1), (.ref o0)] (fun t k => XS.aloadN X25.here hx rfl (hb hB d17_27) rfl rfl k) ?_
  obtain ⟨T32, X32, e32, st32⟩ := getF X25 hx hZ hown (host := "") (Or.inl (oW hw 143 rfl)) (Via.of (oW hw 73 rfl)) e25 cf27 (g := (mkF m 28 #[rv o0, rv o1, iv 2, iv 2] [(.ref o1), (.ref o0)])) rfl rfl (hb hB d17_28)
  refine oG T32 m 31 #[rv o0, rv o1, iv 2, iv 2] [(.int 2), (.ref o0)] (st32) ?_
  obtain ⟨T33, h33, X33, e33, W33, st33⟩ := putF X32 hx hZ hown (host := "") (Or.inl (oW hw 144 rfl)) (Via.of (oW hw 145 rfl)) e32 cf28 cf26 (Or.inl (oW hw 134 rfl)) (oW hw 125 rfl) (ty := .int) (by decide) rfl rfl (g := (mkF m 31 #[rv o0, rv o1, iv 2, iv 2] [(.int 2), (.ref o0)])) rfl rfl (hb hB d17_31)
  have F33 := cf28.same W33
  have cf34 := cf26.wr W33
  have cf35 := cf27.other W33 (Or.inl (Ne.symm ne_o0_o1))
  have cf36 := cf29.other W33 (Or.inr (slot_ne (Or.inr (oW hw 136 rfl)) (Or.inl (oW hw 134 rfl)) (by decide) (t := (.object OwnK4)) (t' := .int) (by decide) (by decide)))
  have cf37 := cf30.other W33 (Or.inr (slot_ne (Or.inr (oW hw 138 rfl)) (Or.inl (oW hw 134 rfl)) (by decide) (t := (.object OwnK3)) (t' := .int) (by decide) (by decide)))
  have cf38 := cf31.other W33 (Or.inr (slot_ne (Or.inr (oW hw 140 rfl)) (Or.inl (oW hw 134 rfl)) (by decide) (t := .int) (t' := .int) (by decide) (by decide)))
  have cf39 := F25.other W33 (Or.inr (slot_ne (Or.inl (oW hw 142 rfl)) (Or.inl (oW hw 134 rfl)) (by decide) (t := .int) (t' := .int) (by decide) (by decide)))
  have Z_33 : n0 ≤ h33.size := Nat.le_trans Z_25 (Keep.of_wr W33).1
  have K_33 : Keep h0 h33 [o0] := K_25.wr W33 (oI 0 rfl)
  have N33 := Fr.snoc X33 N25 g_o0
  refine oG T33 m 34 #[rv o0, rv o1, iv 2, iv 2] [] (st33) ?_
  refine own_retV X33 hx hlk hret (hb hB d17_34) (by decide) (by decide) ?_
  rw [e33]
  exact ⟨rfl, N33, K_33, cf36, cf38, cf39, F33⟩
theorem qQ101 (m : MethodId) (q0 : Addr) (q1 : Int32) (q2 : Int32) : entryFrame m #[(.ref q0), (.int q1), (.int q2)] 3 = mkF m 0 #[rv q0, iv q1, iv q2] [] := by first | (simp [entryFrame, mkF, argsToLocals, Value.category]; done) | rfl
theorem sp67 (l : Launch) (Z : State) (a0 : Array Value) (hw : ∀ d ∈ tables_1, d.before a0 Z = true) (ws : List Jvm.Cond) (o0 : Addr) (h0 : Heap) (n0 : Nat) (Z0 : n0 ≤ h0.size) (F_mC_o0 : Fld Z h0 o0 OwnK5 "modCount" "I" (.int 2)) (F_size_o0 : Fld Z h0 o0 OwnK4 "size" "I" (.int 2)) :
    OwnC l Z (⟨OwnK4, "subList", "(II)Ljava/util/List;"⟩ : MethodName) jdk_38_method_56_code 3 (some (.object "java/util/List")) ws ({ frames := 4, cells := 1, slots := 5, locals := 52 } : Room) #[(.ref o0), (.int 2), (.int 2)] h0 (fun v h L => ∃ (w0 : Addr), v = some (.ref w0) ∧ Fr n0 L ∧ Keep h0 h [] ∧ (h0.size ≤ w0 ∧ n0 ≤ w0) ∧ Exa Z h w0 OwnK3 ∧ Fld Z h w0 OwnK3 "root" OwnK8 (.ref o0) ∧ Fld Z h w0 OwnK3 "offset" "I" (.int 2) ∧ Fld Z h w0 OwnK3 "size" "I" (.int 0) ∧ Fld Z h w0 OwnK5 "modCount" "I" (.int 2)) := by
  refine own_entry qQ17 (fun m => qQ101 m o0 (2 : Int32) (2 : Int32)) ?_
  intro p e s m below meth c T0 X0 hC e0
  obtain ⟨hx, hB, hml, hown, hnm, hret, hlk, hZ⟩ := hC
  have N0 := Fr.nil n0
  have K0 := Keep.refl h0 []
  refine oG T0 m 1 #[rv o0, iv 2, iv 2] [(.int 2)] (fun t k => XS.iloadN X0.here hx rfl (hb hB d15_0) rfl k) ?_
  refine oG T0 m 2 #[rv o0, iv 2, iv 2] [(.int 2), (.int 2)] (fun t k => XS.iloadN X0.here hx rfl (hb hB d15_1) rfl k) ?_
  refine oG T0 m 3 #[rv o0, iv 2, iv 2] [(.ref o0), (.int 2), (.int 2)] (fun t k => XS.aloadN X0.here hx rfl (hb hB d15_2) rfl rfl k) ?_
  obtain ⟨T1, X1, e1, st1⟩ := getF X0 hx hZ hown (host := "") (Or.inl (oW hw 74 rfl)) Via.refl e0 F_size_o0 (g := (mkF m 3 #[rv o0, iv 2, iv 2] [(.ref o0), (.int 2), (.int 2)])) rfl rfl (hb hB d15_3)
  refine oG T1 m 6 #[rv o0, iv 2, iv 2] [(.int 2), (.int 2), (.int 2)] (st1) ?_
  obtain ⟨_, T2, L2, X2, ⟨rfl, e2, rfl⟩, st2⟩ := own_staticUp X1 hx hZ (x := (⟨OwnK4, "subListRangeCheck", "(III)V"⟩ : MethodName)) hown (oW hw 120 rfl) (oW hw 121 rfl) (by decide) (oW hw 122 rfl) (oW hw 37 rfl) (oW hw 123 rfl) (sp68 l Z a0 hw []  h0 n0 Z0 ) e1 0 (argsL := [(.int 2), (.int 2), (.int 2)]) (rest := []) (Ls := #[rv o0, iv 2, iv 2]) (by rw [hml]; rfl) (lenOf qQ41 rfl) rfl rfl (Nat.le_of_eq rfl) (hb hB d15_6) (by decide) (by decide) (by decide) (by decide)
  replace X2 := own_nil X2
  refine oG T2 m 9 #[rv o0, iv 2, iv 2] [] (st2) ?_
  obtain ⟨T3, h3, X3, e3, E3, A3, D3, -, st3⟩ := newO X2 hx hZ hown (oW hw 124 rfl) (oW hw 125 rfl) (oW hw 126 rfl) e2 (g := (mkF m 9 #[rv o0, iv 2, iv 2] [])) rfl (hb hB d15_9) (by decide) (by decide)
  obtain ⟨b3, g3⟩ : ∃ z, z = h0.size := ⟨_, rfl⟩
  rw [← g3] at A3 D3 st3
  have ne_o0_b3 : o0 ≠ b3 := Nat.ne_of_lt (Nat.lt_of_lt_of_eq F_mC_o0.lt g3.symm)
  have g_b3 : n0 ≤ b3 := Nat.le_trans Z0 (Nat.le_of_eq g3.symm)
  have sz_b3 : h0.size ≤ b3 := Nat.le_trans K0.1 (Nat.le_of_eq g3.symm)
  have cf4 := F_mC_o0.ext E3
  have cf5 := F_size_o0.ext E3
  have Z_3 : n0 ≤ h3.size := Nat.le_trans Z0 E3.1
  have K_3 : Keep h0 h3 [] := K0.ext E3
  have F_mC_3 : Fld Z h3 b3 OwnK5 "modCount" "I" (.int 0) := D3 (Or.inl (oW hw 134 rfl)) (ty := .int) (by decide)
  have F_root_3 : Fld Z h3 b3 OwnK3 "root" OwnK8 .null := D3 (Or.inr (oW hw 136 rfl)) (ty := (.object OwnK4)) (by decide)
  have F_parent_3 : Fld Z h3 b3 OwnK3 "parent" OwnK7 .null := D3 (Or.inr (oW hw 138 rfl)) (ty := (.object OwnK3)) (by decide)
  have F_offset_3 : Fld Z h3 b3 OwnK3 "offset" "I" (.int 0) := D3 (Or.inr (oW hw 140 rfl)) (ty := .int) (by decide)
  have F_size_3 : Fld Z h3 b3 OwnK3 "size" "I" (.int 0) := D3 (Or.inl (oW hw 142 rfl)) (ty := .int) (by decide)
  refine oG T3 m 12 #[rv o0, iv 2, iv 2] [(.ref b3)] (st3) ?_
  refine oG T3 m 13 #[rv o0, iv 2, iv 2] [(.ref b3), (.ref b3)] (fun t k => XS.dup X3.here hx rfl (hb hB d15_12) rfl rfl k) ?_
  refine oG T3 m 14 #[rv o0, iv 2, iv 2] [(.ref o0), (.ref b3), (.ref b3)] (fun t k => XS.aloadN X3.here hx rfl (hb hB d15_13) rfl rfl k) ?_
  refine oG T3 m 15 #[rv o0, iv 2, iv 2] [(.int 2), (.ref o0), (.ref b3), (.ref b3)] (fun t k => XS.iloadN X3.here hx rfl (hb hB d15_14) rfl k) ?_
  refine oG T3 m 16 #[rv o0, iv 2, iv 2] [(.int 2), (.int 2), (.ref o0), (.ref b3), (.ref b3)] (fun t k => XS.iloadN X3.here hx rfl (hb hB d15_15) rfl k) ?_
  obtain ⟨_, T6, L6, X6, ⟨rfl, Nq6, Kq6, fq0_6, fq1_6, fq2_6, fq3_6⟩, st6⟩ := own_init X3 hx hZ (y := (⟨OwnK3, "<init>", "(Ljava/util/ArrayList;II)V"⟩ : MethodName)) rfl hown (oW hw 127 rfl) (oW hw 128 rfl) (oW hw 126 rfl) (oW hw 130 rfl) (by decide) (sp69 l Z a0 hw [] b3 o0 h3 n0 Z_3 A3 F_mC_3 F_offset_3 F_parent_3 F_root_3 F_size_3 cf4 (Ne.symm ne_o0_b3) g_b3) e3 (a := b3) 1 (argsL := [(.ref o0), (.int 2), (.int 2)]) (rest := [(.ref b3)]) (Ls := #[rv o0, iv 2, iv 2]) (by rw [hml]; rfl) (lenOf qQ32 rfl) rfl rfl (Nat.le_of_eq rfl) (hb hB d15_16) (by decide) (by decide) (by decide) (by decide)
  have N6 := Fr.app N0 Nq6
  have cf7 := cf4.keep Kq6 (ninS ne_o0_b3 nin0)
  have cf8 := cf5.keep Kq6 (ninS ne_o0_b3 nin0)
  have cf9 := A3.keep Kq6
  have Z_6 : n0 ≤ T6.heap.size := Nat.le_trans Z_3 Kq6.1
  have K_6 : Keep h0 T6.heap [] := K_3.trans Kq6 (allS (Or.inr sz_b3) all0)
  refine oG T6 m 19 #[rv o0, iv 2, iv 2] [(.ref b3)] (st6) ?_
  refine own_retA X6 hx hlk hret rfl rfl rfl (hb hB d15_19) (by decide) (by decide) ?_
  exact ⟨b3, rfl, N6, K_6, ⟨sz_b3, g_b3⟩, cf9, fq0_6, fq1_6, fq2_6, fq3_6⟩
theorem qQ73 (m : MethodId) (q0 : Addr) (q1 : Int32) : entryFrame m #[(.ref q0), (.int q1)] 2 = mkF m 0 #[rv q0, iv q1] [] := by first | (simp [entryFrame, mkF, argsToLocals, Value.category]; done) | rfl
theorem sp72 (l : Launch) (Z : State) (a0 : Array Value) (hw : ∀ d ∈ tables_1, d.before a0 Z = true) (ws : List Jvm.Cond) (o0 o1 : Addr) (h0 : Heap) (n0 : Nat) (Z0 : n0 ≤ h0.size) (E_o0 : Exa Z h0 o0 OwnK3) (F_mC_o0 : Fld Z h0 o0 OwnK5 "modCount" "I" (.int 2)) (F_root_o0 : Fld Z h0 o0 OwnK3 "root" OwnK8 (.ref o1)) (F_size_o0 : Fld Z h0 o0 OwnK3 "size" "I" (.int 0)) (F_mC_o1 : Fld Z h0 o1 OwnK5 "modCount" "I" (.int 2)) :
    OwnC l Z (⟨OwnK3, "listIterator", "(I)Ljava/util/ListIterator;"⟩ : MethodName) jdk_130_method_24_code 2 (some (.object "java/util/ListIterator")) ws ({ frames := 2, cells := 1, slots := 5, locals := 27 } : Room) #[(.ref o0), (.int 0)] h0 (fun v h L => ∃ (w0 : Addr), v = some (.ref w0) ∧ Fr n0 L ∧ Keep h0 h [] ∧ (h0.size ≤ w0 ∧ n0 ≤ w0) ∧ Exa Z h w0 OwnK2 ∧ Fld Z h w0 OwnK2 "this$0" OwnK7 (.ref o0) ∧ Fld Z h w0 OwnK2 "val$index" "I" (.int 0) ∧ Fld Z h w0 OwnK2 "cursor" "I" (.int 0) ∧ Fld Z h w0 OwnK2 "lastRet" "I" (.int (-1)) ∧ Fld Z h w0 OwnK2 "expectedModCount" "I" (.int 2)) := by
  refine own_entry qQ5 (fun m => qQ73 m o0 (0 : Int32)) ?_
  intro p e s m below meth c T0 X0 hC e0
  obtain ⟨hx, hB, hml, hown, hnm, hret, hlk, hZ⟩ := hC
  have N0 := Fr.nil n0
  have K0 := Keep.refl h0 []
  refine oG T0 m 1 #[rv o0, iv 0] [(.ref o0)] (fun t k => XS.aloadN X0.here hx rfl (hb hB d20_0) rfl rfl k) ?_
  obtain ⟨_, T1, L1, X1, ⟨rfl, e1, rfl⟩, st1⟩ := own_private X0 hx hZ (y := (⟨OwnK3, "checkForComodification", "()V"⟩ : MethodName)) hown (oW hw 167 rfl) (oW hw 168 rfl) (oW hw 169 rfl) (oW hw 125 rfl) (oW hw 126 rfl) (oW hw 171 rfl) (by decide) (sp49 l Z a0 hw [] o0 o1 h0 n0 Z0 F_mC_o0 F_root_o0 F_mC_o1) e0 E_o0 0 (argsL := []) (rest := []) (Ls := #[rv o0, iv 0]) (by rw [hml]; rfl) (lenOf qQ155 rfl) rfl rfl (Nat.le_of_eq rfl) (hb hB d20_1) (by decide) (by decide) (by decide) (by decide)
  replace X1 := own_nil X1
  refine oG T1 m 4 #[rv o0, iv 0] [] (st1) ?_
  refine oG T1 m 5 #[rv o0, iv 0] [(.ref o0)] (fun t k => XS.aloadN X1.here hx rfl (hb hB d20_4) rfl rfl k) ?_
  refine oG T1 m 6 #[rv o0, iv 0] [(.int 0), (.ref o0)] (fun t k => XS.iloadN X1.here hx rfl (hb hB d20_5) rfl k) ?_
  obtain ⟨_, T2, L2, X2, ⟨rfl, e2, rfl⟩, st2⟩ := own_private X1 hx hZ (y := (⟨OwnK3, "rangeCheckForAdd", "(I)V"⟩ : MethodName)) hown (oW hw 172 rfl) (oW hw 173 rfl) (oW hw 174 rfl) (oW hw 125 rfl) (oW hw 126 rfl) (oW hw 176 rfl) (by decide) (sp37 l Z a0 hw [] o0 h0 n0 Z0 F_size_o0) e1 E_o0 0 (argsL := [(.int 0)]) (rest := []) (Ls := #[rv o0, iv 0]) (by rw [hml]; rfl) (lenOf qQ64 rfl) rfl rfl (Nat.le_of_eq rfl) (hb hB d20_6) (by decide) (by decide) (by decide) (by decide)
  replace X2 := own_nil X2
  refine oG T2 m 9 #[rv o0, iv 0] [] (st2) ?_
  obtain ⟨T3, h3, X3, e3, E3, A3, D3, -, st3⟩ := newO X2 hx hZ hown (oW hw 177 rfl) (oW hw 178 rfl) (oW hw 179 rfl) e2 (g := (mkF m 9 #[rv o0, iv 0] [])) rfl (hb hB d20_9) (by decide) (by decide)
  obtain ⟨b3, g3⟩ : ∃ z, z = h0.size := ⟨_, rfl⟩
  rw [← g3] at A3 D3 st3
  have ne_o0_b3 : o0 ≠ b3 := Nat.ne_of_lt (Nat.lt_of_lt_of_eq E_o0.lt g3.symm)
  have ne_o1_b3 : o1 ≠ b3 := Nat.ne_of_lt (Nat.lt_of_lt_of_eq F_mC_o1.lt g3.symm)
  have g_b3 : n0 ≤ b3 := Nat.le_trans Z0 (Nat.le_of_eq g3.symm)
  have sz_b3 : h0.size ≤ b3 := Nat.le_trans K0.1 (Nat.le_of_eq g3.symm)
  have cf4 := E_o0.ext E3
  have cf5 := F_mC_o0.ext E3
  have cf6 := F_root_o0.ext E3
  have cf7 := F_size_o0.ext E3
  have cf8 := F_mC_o1.ext E3
  have Z_3 : n0 ≤ h3.size := Nat.le_trans Z0 E3.1
  have K_3 : Keep h0 h3 [] := K0.ext E3
  have F_this_0_3 : Fld Z h3 b3 OwnK2 "this$0" OwnK7 .null := D3 (Or.inr (oW hw 185 rfl)) (ty := (.object OwnK3)) (by decide)
  have F_val_index_3 : Fld Z h3 b3 OwnK2 "val$index" "I" (.int 0) := D3 (Or.inr (oW hw 187 rfl)) (ty := .int) (by decide)
  have F_cursor_3 : Fld Z h3 b3 OwnK2 "cursor" "I" (.int 0) := D3 (Or.inl (oW hw 190 rfl)) (ty := .int) (by decide)
  have F_lastRet_3 : Fld Z h3 b3 OwnK2 "lastRet" "I" (.int 0) := D3 (Or.inl (oW hw 192 rfl)) (ty := .int) (by decide)
  have F_xM_3 : Fld Z h3 b3 OwnK2 "expectedModCount" "I" (.int 0) := D3 (Or.inl (oW hw 195 rfl)) (ty := .int) (by decide)
  refine oG T3 m 12 #[rv o0, iv 0] [(.ref b3)] (st3) ?_
  refine oG T3 m 13 #[rv o0, iv 0] [(.ref b3), (.ref b3)] (fun t k => XS.dup X3.here hx rfl (hb hB d20_12) rfl rfl k) ?_
  refine oG T3 m 14 #[rv o0, iv 0] [(.ref o0), (.ref b3), (.ref b3)] (fun t k => XS.aloadN X3.here hx rfl (hb hB d20_13) rfl rfl k) ?_
  refine oG T3 m 15 #[rv o0, iv 0] [(.int 0), (.ref o0), (.ref b3), (.ref b3)] (fun t k => XS.iloadN X3.here hx rfl (hb hB d20_14) rfl k) ?_
  obtain ⟨_, T9, L9, X9, ⟨rfl, Nq9, Kq9, fq0_9, fq1_9, fq2_9, fq3_9, fq4_9⟩, st9⟩ := own_init X3 hx hZ (y := (⟨OwnK2, "<init>", "(Ljava/util/ArrayList$SubList;I)V"⟩ : MethodName)) rfl hown (oW hw 180 rfl) (oW hw 181 rfl) (oW hw 179 rfl) (oW hw 183 rfl) (by decide) (sp51 l Z a0 hw [] b3 o0 h3 n0 Z_3 A3 F_cursor_3 F_xM_3 F_lastRet_3 F_this_0_3 F_val_index_3 cf5 (Ne.symm ne_o0_b3) g_b3) e3 (a := b3) 1 (argsL := [(.ref o0), (.int 0)]) (rest := [(.ref b3)]) (Ls := #[rv o0, iv 0]) (by rw [hml]; rfl) (lenOf qQ26 rfl) rfl rfl (Nat.le_of_eq rfl) (hb hB d20_15) (by decide) (by decide) (by decide) (by decide)
  have N9 := Fr.app N0 Nq9
  have cf10 := cf4.keep Kq9
  have cf11 := cf5.keep Kq9 (ninS ne_o0_b3 nin0)
  have cf12 := cf6.keep Kq9 (ninS ne_o0_b3 nin0)
  have cf13 := cf7.keep Kq9 (ninS ne_o0_b3 nin0)
  have cf14 := cf8.keep Kq9 (ninS ne_o1_b3 nin0)
  have cf15 := A3.keep Kq9
  have Z_9 : n0 ≤ T9.heap.size := Nat.le_trans Z_3 Kq9.1
  have K_9 : Keep h0 T9.heap [] := K_3.trans Kq9 (allS (Or.inr sz_b3) all0)
  refine oG T9 m 18 #[rv o0, iv 0] [(.ref b3)] (st9) ?_
  refine own_retA X9 hx hlk hret rfl rfl rfl (hb hB d20_18) (by decide) (by decide) ?_
  exact ⟨b3, rfl, N9, K_9, ⟨sz_b3, g_b3⟩, cf15, fq0_9, fq1_9, fq2_9, fq3_9, fq4_9⟩
theorem qQ121 (m : MethodId) (q0 : Addr) : entryFrame m #[(.ref q0)] 1 = mkF m 0 #[rv q0] [] := by first | (simp [entryFrame, mkF, argsToLocals, Value.category]; done) | rfl
theorem sp71 (l : Launch) (Z : State) (a0 : Array Value) (hw : ∀ d ∈ tables_1, d.before a0 Z = true) (ws : List Jvm.Cond) (o0 o1 : Addr) (h0 : Heap) (n0 : Nat) (Z0 : n0 ≤ h0.size) (E_o0 : Exa Z h0 o0 OwnK3) (F_mC_o0 : Fld Z h0 o0 OwnK5 "modCount" "I" (.int 2)) (F_root_o0 : Fld Z h0 o0 OwnK3 "root" OwnK8 (.ref o1)) (F_size_o0 : Fld Z h0 o0 OwnK3 "size" "I" (.int 0)) (F_mC_o1 : Fld Z h0 o1 OwnK5 "modCount" "I" (.int 2)) :
    OwnC l Z (⟨OwnK5, "listIterator", "()Ljava/util/ListIterator;"⟩ : MethodName) jdk_39_method_12_code 1 (some (.object "java/util/ListIterator")) ws ({ frames := 3, cells := 1, slots := 5, locals := 40 } : Room) #[(.ref o0)] h0 (fun v h L => ∃ (w0 : Addr), v = some (.ref w0) ∧ Fr n0 L ∧ Keep h0 h [] ∧ (h0.size ≤ w0 ∧ n0 ≤ w0) ∧ Exa Z h w0 OwnK2 ∧ Fld Z h w0 OwnK2 "this$0" OwnK7 (.ref o0) ∧ Fld Z h w0 OwnK2 "val$index" "I" (.int 0) ∧ Fld Z h w0 OwnK2 "cursor" "I" (.int 0) ∧ Fld Z h w0 OwnK2 "lastRet" "I" (.int (-1)) ∧ Fld Z h w0 OwnK2 "expectedModCount" "I" (.int 2)) := by
  refine own_entry qQ8 (fun m => qQ121 m o0) ?_
  intro p e s m below meth c T0 X0 hC e0
  obtain ⟨hx, hB, hml, hown, hnm, hret, hlk, hZ⟩ := hC
  have N0 := Fr.nil n0
  have K0 := Keep.refl h0 []
  refine oG T0 m 1 #[rv o0] [(.ref o0)] (fun t k => XS.aloadN X0.here hx rfl (hb hB d19_0) rfl rfl k) ?_
  refine oG T0 m 2 #[rv o0] [(.int 0), (.ref o0)] (fun t k => XS.iconst X0.here hx rfl (hb hB d19_1) k) ?_
  obtain ⟨_, T1, L1, X1, ⟨w0_1, rfl, Nq1, Kq1, syw0_1, fq0_1, fq1_1, fq2_1, fq3_1, fq4_1, fq5_1⟩, st1⟩ := own_virtual X0 hx hZ (y := (⟨OwnK5, "listIterator", "(I)Ljava/util/ListIterator;"⟩ : MethodName)) (z := (⟨OwnK3, "listIterator", "(I)Ljava/util/ListIterator;"⟩ : MethodName)) hown (oW hw 161 rfl) (oW hw 162 rfl) (own_nf (args := #[]) (mvT hZ (oW hw 159 rfl)) rfl) (oW hw 164 rfl) (oW hw 165 rfl) (oW hw 126 rfl) (oW hw 166 rfl) (by decide) (sp72 l Z a0 hw [] o0 o1 h0 n0 Z0 E_o0 F_mC_o0 F_root_o0 F_size_o0 F_mC_o1) e0 E_o0 0 (argsL := [(.int 0)]) (rest := []) (Ls := #[rv o0]) (by rw [hml]; rfl) (lenOf qQ30 rfl) rfl rfl (Nat.le_of_eq rfl) (hb hB d19_2) (by decide) (by decide) (by decide) (by decide)
  have g_w0_1 : n0 ≤ w0_1 := syw0_1.2
  have sz_w0_1 : h0.size ≤ w0_1 := Nat.le_trans K0.1 syw0_1.1
  have ne_o0_w0_1 : o0 ≠ w0_1 := Nat.ne_of_lt (Nat.lt_of_lt_of_le E_o0.lt syw0_1.1)
  have ne_o1_w0_1 : o1 ≠ w0_1 := Nat.ne_of_lt (Nat.lt_of_lt_of_le F_mC_o1.lt syw0_1.1)
  have N1 := Fr.app N0 Nq1
  have cf2 := E_o0.keep Kq1
  have cf3 := F_mC_o0.keep Kq1 nin0
  have cf4 := F_root_o0.keep Kq1 nin0
  have cf5 := F_size_o0.keep Kq1 nin0
  have cf6 := F_mC_o1.keep Kq1 nin0
  have Z_1 : n0 ≤ T1.heap.size := Nat.le_trans Z0 Kq1.1
  have K_1 : Keep h0 T1.heap [] := K0.trans Kq1 all0
  refine oG T1 m 5 #[rv o0] [(.ref w0_1)] (st1) ?_
  refine own_retA X1 hx hlk hret rfl rfl rfl (hb hB d19_5) (by decide) (by decide) ?_
  exact ⟨w0_1, rfl, N1, K_1, ⟨sz_w0_1, g_w0_1⟩, fq0_1, fq1_1, fq2_1, fq3_1, fq4_1, fq5_1⟩
theorem qQ102 (m : MethodId) (q0 : Addr) : entryFrame m #[(.ref q0)] 1 = mkF m 0 #[rv q0] [] := by first | (simp [entryFrame, mkF, argsToLocals, Value.category]; done) | rfl
theorem sp70 (l : Launch) (Z : State) (a0 : Array Value) (hw : ∀ d ∈ tables_1, d.before a0 Z = true) (ws : List Jvm.Cond) (o0 o1 : Addr) (h0 : Heap) (n0 : Nat) (Z0 : n0 ≤ h0.size) (E_o0 : Exa Z h0 o0 OwnK3) (F_mC_o0 : Fld Z h0 o0 OwnK5 "modCount" "I" (.int 2)) (F_root_o0 : Fld Z h0 o0 OwnK3 "root" OwnK8 (.ref o1)) (F_size_o0 : Fld Z h0 o0 OwnK3 "size" "I" (.int 0)) (F_mC_o1 : Fld Z h0 o1 OwnK5 "modCount" "I" (.int 2)) :
    OwnC l Z (⟨OwnK3, "iterator", "()Ljava/util/Iterator;"⟩ : MethodName) jdk_130_method_23_code 1 (some (.object "java/util/Iterator")) ws ({ frames := 4, cells := 1, slots := 5, locals := 52 } : Room) #[(.ref o0)] h0 (fun v h L => ∃ (w0 : Addr), v = some (.ref w0) ∧ Fr n0 L ∧ Keep h0 h [] ∧ (h0.size ≤ w0 ∧ n0 ≤ w0) ∧ Exa Z h w0 OwnK2 ∧ Fld Z h w0 OwnK2 "this$0" OwnK7 (.ref o0) ∧ Fld Z h w0 OwnK2 "val$index" "I" (.int 0) ∧ Fld Z h w0 OwnK2 "cursor" "I" (.int 0) ∧ Fld Z h w0 OwnK2 "lastRet" "I" (.int (-1)) ∧ Fld Z h w0 OwnK2 "expectedModCount" "I" (.int 2)) := by
  refine own_entry qQ11 (fun m => qQ102 m o0) ?_
  intro p e s m below meth c T0 X0 hC e0
  obtain ⟨hx, hB, hml, hown, hnm, hret, hlk, hZ⟩ := hC
  have N0 := Fr.nil n0
  have K0 := Keep.refl h0 []
  refine oG T0 m 1 #[rv o0] [(.ref o0)] (fun t k => XS.aloadN X0.here hx rfl (hb hB d18_0) rfl rfl k) ?_
  obtain ⟨_, T1, L1, X1, ⟨w0_1, rfl, Nq1, Kq1, syw0_1, fq0_1, fq1_1, fq2_1, fq3_1, fq4_1, fq5_1⟩, st1⟩ := own_virtualUp X0 hx hZ (x := (⟨OwnK3, "listIterator", "()Ljava/util/ListIterator;"⟩ : MethodName)) (y := (⟨OwnK5, "listIterator", "()Ljava/util/ListIterator;"⟩ : MethodName)) hown (oW hw 155 rfl) (oW hw 156 rfl) (oW hw 157 rfl) (by decide) (oW hw 159 rfl) (oW hw 158 rfl) (oW hw 37 rfl) (oW hw 160 rfl) (sp71 l Z a0 hw [] o0 o1 h0 n0 Z0 E_o0 F_mC_o0 F_root_o0 F_size_o0 F_mC_o1) e0 E_o0 0 (argsL := []) (rest := []) (Ls := #[rv o0]) (by rw [hml]; rfl) (lenOf qQ31 rfl) rfl rfl (Nat.le_of_eq rfl) (hb hB d18_1) (by decide) (by decide) (by decide) (by decide)
  have g_w0_1 : n0 ≤ w0_1 := syw0_1.2
  have sz_w0_1 : h0.size ≤ w0_1 := Nat.le_trans K0.1 syw0_1.1
  have ne_o0_w0_1 : o0 ≠ w0_1 := Nat.ne_of_lt (Nat.lt_of_lt_of_le E_o0.lt syw0_1.1)
  have ne_o1_w0_1 : o1 ≠ w0_1 := Nat.ne_of_lt (Nat.lt_of_lt_of_le F_mC_o1.lt syw0_1.1)
  have N1 := Fr.app N0 Nq1
  have cf2 := E_o0.keep Kq1
  have cf3 := F_mC_o0.keep Kq1 nin0
  have cf4 := F_root_o0.keep Kq1 nin0
  have cf5 := F_size_o0.keep Kq1 nin0
  have cf6 := F_mC_o1.keep Kq1 nin0
  have Z_1 : n0 ≤ T1.heap.size := Nat.le_trans Z0 Kq1.1
  have K_1 : Keep h0 T1.heap [] := K0.trans Kq1 all0
  refine oG T1 m 4 #[rv o0] [(.ref w0_1)] (st1) ?_
  refine own_retA X1 hx hlk hret rfl rfl rfl (hb hB d18_4) (by decide) (by decide) ?_
  exact ⟨w0_1, rfl, N1, K_1, ⟨sz_w0_1, g_w0_1⟩, fq0_1, fq1_1, fq2_1, fq3_1, fq4_1, fq5_1⟩
theorem qQ85 (m : MethodId) (q0 : Addr) (q1 : Addr) : entryFrame m #[(.ref q0), (.ref q1)] 4 = mkF m 0 #[rv q0, rv q1, .unset, .unset] [] := by first | (simp [entryFrame, mkF, argsToLocals, Value.category]; done) | rfl
theorem sp66 (l : Launch) (Z : State) (a0 : Array Value) (hw : ∀ d ∈ tables_1, d.before a0 Z = true) (ws : List Jvm.Cond) (o0 o1 o2 : Addr) (h0 : Heap) (n0 : Nat) (Z0 : n0 ≤ h0.size) (F_ahead_o0 : Fld Z h0 o0 OwnK1 "ahead" "I" (.int 2)) (F_changes_o0 : Fld Z h0 o0 OwnK1 "changes" "Ljava/util/List;" (.ref o2)) (E_o1 : Exa Z h0 o1 OwnK0) (E_o2 : Exa Z h0 o2 OwnK4) (F_mC_o2 : Fld Z h0 o2 OwnK5 "modCount" "I" (.int 2)) (F_size_o2 : Fld Z h0 o2 OwnK4 "size" "I" (.int 2)) (ne_o0_o1 : o0 ≠ o1) (ne_o0_o2 : o0 ≠ o2) :
    OwnC l Z (⟨OwnK1, "isOfBacklog", "(Lcom/example/newt/newt/core/delivery/Change;)Z"⟩ : MethodName) prog_11_method_4_code 4 (some .boolean) ws ({ frames := 5, cells := 2, slots := 10, locals := 66 } : Room) #[(.ref o0), (.ref o1)] h0 (fun v h L => v = some (.int 0) ∧ Fr n0 L ∧ Keep h0 h []) := by
  refine own_entry qQ2 (fun m => qQ85 m o0 o1) ?_
  intro p e s m below meth c T0 X0 hC e0
  obtain ⟨hx, hB, hml, hown, hnm, hret, hlk, hZ⟩ := hC
  have N0 := Fr.nil n0
  have K0 := Keep.refl h0 []
  refine oG T0 m 1 #[rv o0, rv o1, .unset, .unset] [(.ref o0)] (fun t k => XS.aloadN X0.here hx rfl (hb hB d13_0) rfl rfl k) ?_
  obtain ⟨T1, X1, e1, st1⟩ := getF X0 hx hZ hown (host := "") (Or.inl (oW hw 58 rfl)) Via.refl e0 F_changes_o0 (g := (mkF m 1 #[rv o0, rv o1, .unset, .unset] [(.ref o0)])) rfl rfl (hb hB d13_1)
  refine oG T1 m 4 #[rv o0, rv o1, .unset, .unset] [(.ref o2)] (st1) ?_
  refine oG T1 m 5 #[rv o0, rv o1, .unset, .unset] [(.ref o0), (.ref o2)] (fun t k => XS.aloadN X1.here hx rfl (hb hB d13_4) rfl rfl k) ?_
  obtain ⟨T2, X2, e2, st2⟩ := getF X1 hx hZ hown (host := "") (Or.inl (oW hw 60 rfl)) Via.refl e1 F_ahead_o0 (g := (mkF m 5 #[rv o0, rv o1, .unset, .unset] [(.ref o0), (.ref o2)])) rfl rfl (hb hB d13_5)
  refine oG T2 m 8 #[rv o0, rv o1, .unset, .unset] [(.int 2), (.ref o2)] (st2) ?_
  refine oG T2 m 9 #[rv o0, rv o1, .unset, .unset] [(.ref o0), (.int 2), (.ref o2)] (fun t k => XS.aloadN X2.here hx rfl (hb hB d13_8) rfl rfl k) ?_
  obtain ⟨T3, X3, e3, st3⟩ := getF X2 hx hZ hown (host := "") (Or.inl (oW hw 58 rfl)) Via.refl e2 F_changes_o0 (g := (mkF m 9 #[rv o0, rv o1, .unset, .unset] [(.ref o0), (.int 2), (.ref o2)])) rfl rfl (hb hB d13_9)
  refine oG T3 m 12 #[rv o0, rv o1, .unset, .unset] [(.ref o2), (.int 2), (.ref o2)] (st3) ?_
  obtain ⟨_, T4, L4, X4, ⟨rfl, e4, rfl⟩, st4⟩ := own_interface X3 hx hZ (xi := (⟨"java/util/List", "size", "()I"⟩ : MethodName)) (y := (⟨OwnK4, "size", "()I"⟩ : MethodName)) hown (oW hw 103 rfl) (oW hw 104 rfl) (mvT hZ (oW hw 105 rfl)) (oW hw 106 rfl) (oW hw 107 rfl) (oW hw 108 rfl) (oW hw 109 rfl) (oW hw 110 rfl) (oW hw 29 rfl) (oW hw 111 rfl) (by decide) (sp42 l Z a0 hw [] o2 h0 n0 Z0 F_size_o2) e3 E_o2 2 (argsL := []) (rest := [(.int 2), (.ref o2)]) (Ls := #[rv o0, rv o1, .unset, .unset]) (by rw [hml]; rfl) (lenOf qQ153 rfl) rfl rfl (Nat.le_of_eq rfl) (hb hB d13_12) (by decide) (by decide) (by decide) (by decide)
  replace X4 := own_nil X4
  refine oG T4 m 17 #[rv o0, rv o1, .unset, .unset] [(.int 2), (.int 2), (.ref o2)] (st4) ?_
  obtain ⟨_, T5, L5, X5, ⟨w0_5, rfl, Nq5, Kq5, syw0_5, fq0_5, fq1_5, fq2_5, fq3_5, fq4_5⟩, st5⟩ := own_interface X4 hx hZ (xi := (⟨"java/util/List", "subList", "(II)Ljava/util/List;"⟩ : MethodName)) (y := (⟨OwnK4, "subList", "(II)Ljava/util/List;"⟩ : MethodName)) hown (oW hw 112 rfl) (oW hw 113 rfl) (mvT hZ (oW hw 114 rfl)) (oW hw 115 rfl) (oW hw 116 rfl) (oW hw 117 rfl) (oW hw 118 rfl) (oW hw 110 rfl) (oW hw 29 rfl) (oW hw 119 rfl) (by decide) (sp67 l Z a0 hw [] o2 h0 n0 Z0 F_mC_o2 F_size_o2) e4 E_o2 0 (argsL := [(.int 2), (.int 2)]) (rest := []) (Ls := #[rv o0, rv o1, .unset, .unset]) (by rw [hml]; rfl) (lenOf qQ39 rfl) rfl rfl (Nat.le_of_eq rfl) (hb hB d13_17) (by decide) (by decide) (by decide) (by decide)
  have g_w0_5 : n0 ≤ w0_5 := syw0_5.2
  have sz_w0_5 : h0.size ≤ w0_5 := Nat.le_trans K0.1 syw0_5.1
  have ne_o0_w0_5 : o0 ≠ w0_5 := Nat.ne_of_lt (Nat.lt_of_lt_of_le F_ahead_o0.lt syw0_5.1)
  have ne_o1_w0_5 : o1 ≠ w0_5 := Nat.ne_of_lt (Nat.lt_of_lt_of_le E_o1.lt syw0_5.1)
  have ne_o2_w0_5 : o2 ≠ w0_5 := Nat.ne_of_lt (Nat.lt_of_lt_of_le E_o2.lt syw0_5.1)
  have N5 := Fr.app N0 Nq5
  have cf6 := F_ahead_o0.keep Kq5 nin0
  have cf7 := F_changes_o0.keep Kq5 nin0
  have cf8 := E_o1.keep Kq5
  have cf9 := E_o2.keep Kq5
  have cf10 := F_mC_o2.keep Kq5 nin0
  have cf11 := F_size_o2.keep Kq5 nin0
  have Z_5 : n0 ≤ T5.heap.size := Nat.le_trans Z0 Kq5.1
  have K_5 : Keep h0 T5.heap [] := K0.trans Kq5 all0
  refine oG T5 m 22 #[rv o0, rv o1, .unset, .unset] [(.ref w0_5)] (st5) ?_
  obtain ⟨_, T12, L12, X12, ⟨w0_12, rfl, Nq12, Kq12, syw0_12, fq0_12, fq1_12, fq2_12, fq3_12, fq4_12, fq5_12⟩, st12⟩ := own_interface X5 hx hZ (xi := (⟨"java/util/List", "iterator", "()Ljava/util/Iterator;"⟩ : MethodName)) (y := (⟨OwnK3, "iterator", "()Ljava/util/Iterator;"⟩ : MethodName)) hown (oW hw 146 rfl) (oW hw 147 rfl) (mvT hZ (oW hw 148 rfl)) (oW hw 149 rfl) (oW hw 150 rfl) (oW hw 151 rfl) (oW hw 152 rfl) (oW hw 153 rfl) (oW hw 126 rfl) (oW hw 154 rfl) (by decide) (sp70 l Z a0 hw [] w0_5 o2 T5.heap n0 Z_5 fq0_5 fq4_5 fq1_5 fq3_5 cf10) rfl fq0_5 0 (argsL := []) (rest := []) (Ls := #[rv o0, rv o1, .unset, .unset]) (by rw [hml]; rfl) (lenOf qQ35 rfl) rfl rfl (Nat.le_of_eq rfl) (hb hB d13_22) (by decide) (by decide) (by decide) (by decide)
  have g_w0_12 : n0 ≤ w0_12 := syw0_12.2
  have sz_w0_12 : h0.size ≤ w0_12 := Nat.le_trans K_5.1 syw0_12.1
  have ne_o0_w0_12 : o0 ≠ w0_12 := Nat.ne_of_lt (Nat.lt_of_lt_of_le cf6.lt syw0_12.1)
  have ne_o1_w0_12 : o1 ≠ w0_12 := Nat.ne_of_lt (Nat.lt_of_lt_of_le cf8.lt syw0_12.1)
  have ne_o2_w0_12 : o2 ≠ w0_12 := Nat.ne_of_lt (Nat.lt_of_lt_of_le cf9.lt syw0_12.1)
  have ne_w0_5_w0_12 : w0_5 ≠ w0_12 := Nat.ne_of_lt (Nat.lt_of_lt_of_le fq0_5.lt syw0_12.1)
  have N12 := Fr.app N5 Nq12
  have cf13 := cf6.keep Kq12 nin0
  have cf14 := cf7.keep Kq12 nin0
  have cf15 := cf8.keep Kq12
  have cf16 := cf9.keep Kq12
  have cf17 := cf10.keep Kq12 nin0
  have cf18 := cf11.keep Kq12 nin0
  have cf19 := fq0_5.keep Kq12
  have cf20 := fq1_5.keep Kq12 nin0
  have cf21 := fq2_5.keep Kq12 nin0
  have cf22 := fq3_5.keep Kq12 nin0
  have cf23 := fq4_5.keep Kq12 nin0
  have Z_12 : n0 ≤ T12.heap.size := Nat.le_trans Z_5 Kq12.1
  have K_12 : Keep h0 T12.heap [] := K_5.trans Kq12 all0
  refine oG T12 m 27 #[rv o0, rv o1, .unset, .unset] [(.ref w0_12)] (st12) ?_
  refine oG T12 m 28 #[rv o0, rv o1, rv w0_12, .unset] [] (fun t k => XS.astoreN X12.here hx rfl (hb hB d13_27) rfl rfl rfl k) ?_
  refine oG T12 m 29 #[rv o0, rv o1, rv w0_12, .unset] [(.ref w0_12)] (fun t k => XS.aloadN X12.here hx rfl (hb hB d13_28) rfl rfl k) ?_
  obtain ⟨_, T24, L24, X24, ⟨rfl, e24, rfl⟩, st24⟩ := own_interface X12 hx hZ (xi := (⟨"java/util/Iterator", "hasNext", "()Z"⟩ : MethodName)) (y := (⟨OwnK2, "hasNext", "()Z"⟩ : MethodName)) hown (oW hw 196 rfl) (oW hw 197 rfl) (mvT hZ (oW hw 198 rfl)) (oW hw 199 rfl) (oW hw 200 rfl) (oW hw 201 rfl) (oW hw 202 rfl) (oW hw 203 rfl) (oW hw 179 rfl) (oW hw 204 rfl) (by decide) (sp38 l Z a0 hw [] w0_12 w0_5 T12.heap n0 Z_12 fq3_12 fq1_12 cf22) rfl fq0_12 0 (argsL := []) (rest := []) (Ls := #[rv o0, rv o1, rv w0_12, .unset]) (by rw [hml]; rfl) (lenOf qQ158 rfl) rfl rfl (Nat.le_of_eq rfl) (hb hB d13_29) (by decide) (by decide) (by decide) (by decide)
  replace X24 := own_nil X24
  refine oG T24 m 34 #[rv o0, rv o1, rv w0_12, .unset] [(.int 0)] (st24) ?_
  refine oG T24 m 64 #[rv o0, rv o1, rv w0_12, .unset] [] (fun t k => XS.ifYes X24.here hx rfl (pc0 := 34) (pc' := 64) rfl (hb hB d13_34) rfl ((if0 _ _).trans (teq (by decide)).1) (by decide) (by decide) k) ?_
  refine oG T24 m 65 #[rv o0, rv o1, rv w0_12, .unset] [(.int 0)] (fun t k => XS.iconst X24.here hx rfl (hb hB d13_64) k) ?_
  refine own_retZ X24 hx hlk hret (by decide) (hb hB d13_65) (by decide) (by decide) ?_
  rw [e24]
  exact ⟨rfl, N12, K_12⟩
theorem qQ89 (m : MethodId) (q0 : Addr) (q1 : Addr) (q2 : Addr) (q3 : Int32) : entryFrame m #[(.ref q0), (.ref q1), (.ref q2), (.int q3)] 4 = mkF m 0 #[rv q0, rv q1, rv q2, iv q3] [] := by first | (simp [entryFrame, mkF, argsToLocals, Value.category]; done) | rfl
theorem sp74 (l : Launch) (Z : State) (a0 : Array Value) (hw : ∀ d ∈ tables_1, d.before a0 Z = true) (ws : List Jvm.Cond) (o0 o1 o2 o3 o4 : Addr) (c0 : ClassId) (h0 : Heap) (n0 : Nat) (Z0 : n0 ≤ h0.size) (E_o0 : Exa Z h0 o0 OwnK4) (F_elementData_o0 : Fld Z h0 o0 OwnK4 "elementData" OwnK6 (.ref o2)) (F_mC_o0 : Fld Z h0 o0 OwnK5 "modCount" "I" (.int 3)) (F_size_o0 : Fld Z h0 o0 OwnK4 "size" "I" (.int 2)) (E_o1 : Exa Z h0 o1 OwnK0) (V_o2 : Arv Z h0 o2 c0 (.object "java/lang/Object") (10 : Int32) [(.ref o3), (.ref o4), .null, .null, .null, .null, .null, .null, .null, .null] .null) (O_o2 : Ovr Z c0 "java/lang/Object") (ne_o0_o1 : o0 ≠ o1) (ne_o0_o2 : o0 ≠ o2) (ne_o0_o3 : o0 ≠ o3) (ne_o0_o4 : o0 ≠ o4) (ne_o1_o2 : o1 ≠ o2) (ne_o2_o3 : o2 ≠ o3) (ne_o2_o4 : o2 ≠ o4) (g_o0 : n0 ≤ o0) (g_o2 : n0 ≤ o2) :
    OwnC l Z (⟨OwnK4, "add", "(Ljava/lang/Object;[Ljava/lang/Object;I)V"⟩ : MethodName) jdk_38_method_24_code 4 none ws ({ frames := 0, cells := 0, slots := 0, locals := 0 } : Room) #[(.ref o0), (.ref o1), (.ref o2), (.int 2)] h0 (fun v h L => v = none ∧ Fr n0 L ∧ Keep h0 h [o0, o2] ∧ Fld Z h o0 OwnK4 "elementData" OwnK6 (.ref o2) ∧ Fld Z h o0 OwnK5 "modCount" "I" (.int 3) ∧ Arv Z h o2 c0 (.object "java/lang/Object") (10 : Int32) [(.ref o3), (.ref o4), (.ref o1), .null, .null, .null, .null, .null, .null, .null] .null ∧ Fld Z h o0 OwnK4 "size" "I" (.int 3)) := by
  refine own_entry qQ7 (fun m => qQ89 m o0 o1 o2 (2 : Int32)) ?_
  intro p e s m below meth c T0 X0 hC e0
  obtain ⟨hx, hB, hml, hown, hnm, hret, hlk, hZ⟩ := hC
  have N0 := Fr.nil n0
  have K0 := Keep.refl h0 [o0, o2]
  refine oG T0 m 1 #[rv o0, rv o1, rv o2, iv 2] [(.int 2)] (fun t k => XS.iloadN X0.here hx rfl (hb hB d9_0) rfl k) ?_
  refine oG T0 m 2 #[rv o0, rv o1, rv o2, iv 2] [(.ref o2), (.int 2)] (fun t k => XS.aloadN X0.here hx rfl (hb hB d9_1) rfl rfl k) ?_
  refine oG T0 m 3 #[rv o0, rv o1, rv o2, iv 2] [(.int 10), (.int 2)] (own_alen X0 hx hZ e0 V_o2 (hb hB d9_2)) ?_
  refine oG T0 m 11 #[rv o0, rv o1, rv o2, iv 2] [] (fun t k => XS.icmpYes X0.here hx rfl (pc0 := 3) (pc' := 11) rfl (hb hB d9_3) rfl (feq (by decide)).2 (by decide) (by decide) k) ?_
  refine oG T0 m 12 #[rv o0, rv o1, rv o2, iv 2] [(.ref o2)] (fun t k => XS.aloadN X0.here hx rfl (hb hB d9_11) rfl rfl k) ?_
  refine oG T0 m 13 #[rv o0, rv o1, rv o2, iv 2] [(.int 2), (.ref o2)] (fun t k => XS.iloadN X0.here hx rfl (hb hB d9_12) rfl k) ?_
  refine oG T0 m 14 #[rv o0, rv o1, rv o2, iv 2] [(.ref o1), (.int 2), (.ref o2)] (fun t k => XS.aloadN X0.here hx rfl (hb hB d9_13) rfl rfl k) ?_
  obtain ⟨T2, h2, X2, e2, W2, V2, st2⟩ := own_aastore X0 hx hZ e0 V_o2 rfl O_o2 (Ins.of_exa E_o1 (oW hw 97 rfl)) (j := (2 : Int32)) ⟨by decide, by decide⟩ 2 rfl (Nat.le_of_ble_eq_true rfl) (Ls := #[rv o0, rv o1, rv o2, iv 2]) (rest := []) (hb hB d9_14)
  replace V2 : Arv Z h2 o2 c0 (.object "java/lang/Object") (10 : Int32) [(.ref o3), (.ref o4), (.ref o1), .null, .null, .null, .null, .null, .null, .null] .null := V2
  have cf3 := E_o0.wr W2
  have cf4 := F_elementData_o0.other W2 (Or.inl ne_o0_o2)
  have cf5 := F_mC_o0.other W2 (Or.inl ne_o0_o2)
  have cf6 := F_size_o0.other W2 (Or.inl ne_o0_o2)
  have cf7 := E_o1.wr W2
  have Z_2 : n0 ≤ h2.size := Nat.le_trans Z0 (Keep.of_wr W2).1
  have K_2 : Keep h0 h2 [o0, o2] := K0.wr W2 (oI 1 rfl)
  have N2 := Fr.snoc X2 N0 g_o2
  refine oG T2 m 15 #[rv o0, rv o1, rv o2, iv 2] [] (st2) ?_
  refine oG T2 m 16 #[rv o0, rv o1, rv o2, iv 2] [(.ref o0)] (fun t k => XS.aloadN X2.here hx rfl (hb hB d9_15) rfl rfl k) ?_
  refine oG T2 m 17 #[rv o0, rv o1, rv o2, iv 2] [(.int 2), (.ref o0)] (fun t k => XS.iloadN X2.here hx rfl (hb hB d9_16) rfl k) ?_
  refine oG T2 m 18 #[rv o0, rv o1, rv o2, iv 2] [(.int 1), (.int 2), (.ref o0)] (fun t k => XS.iconst X2.here hx rfl (hb hB d9_17) k) ?_
  refine oG T2 m 19 #[rv o0, rv o1, rv o2, iv 2] [(.int ((2 : Int32) + (1 : Int32))), (.ref o0)] (fun t k => XS.iadd X2.here hx rfl (hb hB d9_18) rfl k) ?_
  rw [show ((2 : Int32) + (1 : Int32)) = (3 : Int32) from by decide]
  obtain ⟨T8, h8, X8, e8, W8, st8⟩ := putF X2 hx hZ hown (host := "") (Or.inl (oW hw 74 rfl)) Via.refl e2 cf6 cf3 (Or.inl (oW hw 75 rfl)) (oW hw 28 rfl) (ty := .int) (by decide) rfl rfl (g := (mkF m 19 #[rv o0, rv o1, rv o2, iv 2] [(.int 3), (.ref o0)])) rfl rfl (hb hB d9_19)
  have F8 := cf6.same W8
  have cf9 := cf3.wr W8
  have cf10 := cf4.other W8 (Or.inr (slot_ne (Or.inl (oW hw 50 rfl)) (Or.inl (oW hw 75 rfl)) (by decide) (t := (.array (.object "java/lang/Object"))) (t' := .int) (by decide) (by decide)))
  have cf11 := cf5.other W8 (Or.inr (slot_ne (Or.inl (oW hw 47 rfl)) (Or.inl (oW hw 75 rfl)) (by decide) (t := .int) (t' := .int) (by decide) (by decide)))
  have cf12 := cf7.wr W8
  have cf13 := V2.other W8 (Ne.symm ne_o0_o2)
  have Z_8 : n0 ≤ h8.size := Nat.le_trans Z_2 (Keep.of_wr W8).1
  have K_8 : Keep h0 h8 [o0, o2] := K_2.wr W8 (oI 0 rfl)
  have N8 := Fr.snoc X8 N2 g_o0
  refine oG T8 m 22 #[rv o0, rv o1, rv o2, iv 2] [] (st8) ?_
  refine own_retV X8 hx hlk hret (hb hB d9_22) (by decide) (by decide) ?_
  rw [e8]
  exact ⟨rfl, N8, K_8, cf10, cf11, cf13, F8⟩
theorem qQ104 (m : MethodId) (q0 : Addr) (q1 : Addr) : entryFrame m #[(.ref q0), (.ref q1)] 2 = mkF m 0 #[rv q0, rv q1] [] := by first | (simp [entryFrame, mkF, argsToLocals, Value.category]; done) | rfl
theorem sp73 (l : Launch) (Z : State) (a0 : Array Value) (hw : ∀ d ∈ tables_1, d.before a0 Z = true) (ws : List Jvm.Cond) (o0 o1 o2 o3 o4 : Addr) (c0 : ClassId) (h0 : Heap) (n0 : Nat) (Z0 : n0 ≤ h0.size) (E_o0 : Exa Z h0 o0 OwnK4) (F_elementData_o0 : Fld Z h0 o0 OwnK4 "elementData" OwnK6 (.ref o2)) (F_mC_o0 : Fld Z h0 o0 OwnK5 "modCount" "I" (.int 2)) (F_size_o0 : Fld Z h0 o0 OwnK4 "size" "I" (.int 2)) (E_o1 : Exa Z h0 o1 OwnK0) (V_o2 : Arv Z h0 o2 c0 (.object "java/lang/Object") (10 : Int32) [(.ref o3), (.ref o4), .null, .null, .null, .null, .null, .null, .null, .null] .null) (O_o2 : Ovr Z c0 "java/lang/Object") (E_o3 : Exa Z h0 o3 OwnK0) (E_o4 : Exa Z h0 o4 OwnK0) (ne_o0_o1 : o0 ≠ o1) (ne_o0_o2 : o0 ≠ o2) (ne_o0_o3 : o0 ≠ o3) (ne_o0_o4 : o0 ≠ o4) (ne_o1_o2 : o1 ≠ o2) (ne_o2_o3 : o2 ≠ o3) (ne_o2_o4 : o2 ≠ o4) (g_o0 : n0 ≤ o0) (g_o2 : n0 ≤ o2) :
    OwnC l Z (⟨OwnK4, "add", "(Ljava/lang/Object;)Z"⟩ : MethodName) jdk_38_method_25_code 2 (some .boolean) ws ({ frames := 1, cells := 0, slots := 0, locals := 15 } : Room) #[(.ref o0), (.ref o1)] h0 (fun v h L => v = some (.int 1) ∧ Fr n0 L ∧ Keep h0 h [o0, o2] ∧ Fld Z h o0 OwnK4 "elementData" OwnK6 (.ref o2) ∧ Fld Z h o0 OwnK5 "modCount" "I" (.int 3) ∧ Arv Z h o2 c0 (.object "java/lang/Object") (10 : Int32) [(.ref o3), (.ref o4), (.ref o1), .null, .null, .null, .null, .null, .null, .null] .null ∧ Fld Z h o0 OwnK4 "size" "I" (.int 3)) := by
  refine own_entry qQ22 (fun m => qQ104 m o0 o1) ?_
  intro p e s m below meth c T0 X0 hC e0
  obtain ⟨hx, hB, hml, hown, hnm, hret, hlk, hZ⟩ := hC
  have N0 := Fr.nil n0
  have K0 := Keep.refl h0 [o0, o2]
  refine oG T0 m 1 #[rv o0, rv o1] [(.ref o0)] (fun t k => XS.aloadN X0.here hx rfl (hb hB d8_0) rfl rfl k) ?_
  refine oG T0 m 2 #[rv o0, rv o1] [(.ref o0), (.ref o0)] (fun t k => XS.dup X0.here hx rfl (hb hB d8_1) rfl rfl k) ?_
  obtain ⟨T1, X1, e1, st1⟩ := getF X0 hx hZ hown (host := "") (Or.inl (oW hw 72 rfl)) (Via.of (oW hw 73 rfl)) e0 F_mC_o0 (g := (mkF m 2 #[rv o0, rv o1] [(.ref o0), (.ref o0)])) rfl rfl (hb hB d8_2)
  refine oG T1 m 5 #[rv o0, rv o1] [(.int 2), (.ref o0)] (st1) ?_
  refine oG T1 m 6 #[rv o0, rv o1] [(.int 1), (.int 2), (.ref o0)] (fun t k => XS.iconst X1.here hx rfl (hb hB d8_5) k) ?_
  refine oG T1 m 7 #[rv o0, rv o1] [(.int ((2 : Int32) + (1 : Int32))), (.ref o0)] (fun t k => XS.iadd X1.here hx rfl (hb hB d8_6) rfl k) ?_
  rw [show ((2 : Int32) + (1 : Int32)) = (3 : Int32) from by decide]
  obtain ⟨T2, h2, X2, e2, W2, st2⟩ := putF X1 hx hZ hown (host := "") (Or.inl (oW hw 72 rfl)) (Via.of (oW hw 73 rfl)) e1 F_mC_o0 E_o0 (Or.inl (oW hw 47 rfl)) (oW hw 28 rfl) (ty := .int) (by decide) rfl rfl (g := (mkF m 7 #[rv o0, rv o1] [(.int 3), (.ref o0)])) rfl rfl (hb hB d8_7)
  have F2 := F_mC_o0.same W2
  have cf3 := E_o0.wr W2
  have cf4 := F_elementData_o0.other W2 (Or.inr (slot_ne (Or.inl (oW hw 50 rfl)) (Or.inl (oW hw 47 rfl)) (by decide) (t := (.array (.object "java/lang/Object"))) (t' := .int) (by decide) (by decide)))
  have cf5 := F_size_o0.other W2 (Or.inr (slot_ne (Or.inl (oW hw 75 rfl)) (Or.inl (oW hw 47 rfl)) (by decide) (t := .int) (t' := .int) (by decide) (by decide)))
  have cf6 := E_o1.wr W2
  have cf7 := V_o2.other W2 (Ne.symm ne_o0_o2)
  have cf8 := E_o3.wr W2
  have cf9 := E_o4.wr W2
  have Z_2 : n0 ≤ h2.size := Nat.le_trans Z0 (Keep.of_wr W2).1
  have K_2 : Keep h0 h2 [o0, o2] := K0.wr W2 (oI 0 rfl)
  have N2 := Fr.snoc X2 N0 g_o0
  refine oG T2 m 10 #[rv o0, rv o1] [] (st2) ?_
  refine oG T2 m 11 #[rv o0, rv o1] [(.ref o0)] (fun t k => XS.aloadN X2.here hx rfl (hb hB d8_10) rfl rfl k) ?_
  refine oG T2 m 12 #[rv o0, rv o1] [(.ref o1), (.ref o0)] (fun t k => XS.aloadN X2.here hx rfl (hb hB d8_11) rfl rfl k) ?_
  refine oG T2 m 13 #[rv o0, rv o1] [(.ref o0), (.ref o1), (.ref o0)] (fun t k => XS.aloadN X2.here hx rfl (hb hB d8_12) rfl rfl k) ?_
  obtain ⟨T10, X10, e10, st10⟩ := getF X2 hx hZ hown (host := "") (Or.inl (oW hw 49 rfl)) Via.refl e2 cf4 (g := (mkF m 13 #[rv o0, rv o1] [(.ref o0), (.ref o1), (.ref o0)])) rfl rfl (hb hB d8_13)
  refine oG T10 m 16 #[rv o0, rv o1] [(.ref o2), (.ref o1), (.ref o0)] (st10) ?_
  refine oG T10 m 17 #[rv o0, rv o1] [(.ref o0), (.ref o2), (.ref o1), (.ref o0)] (fun t k => XS.aloadN X10.here hx rfl (hb hB d8_16) rfl rfl k) ?_
  obtain ⟨T11, X11, e11, st11⟩ := getF X10 hx hZ hown (host := "") (Or.inl (oW hw 74 rfl)) Via.refl e10 cf5 (g := (mkF m 17 #[rv o0, rv o1] [(.ref o0), (.ref o2), (.ref o1), (.ref o0)])) rfl rfl (hb hB d8_17)
  refine oG T11 m 20 #[rv o0, rv o1] [(.int 2), (.ref o2), (.ref o1), (.ref o0)] (st11) ?_
  obtain ⟨_, T12, L12, X12, ⟨rfl, Nq12, Kq12, fq0_12, fq1_12, fq2_12, fq3_12⟩, st12⟩ := own_private X11 hx hZ (y := (⟨OwnK4, "add", "(Ljava/lang/Object;[Ljava/lang/Object;I)V"⟩ : MethodName)) hown (oW hw 76 rfl) (oW hw 77 rfl) (oW hw 78 rfl) (oW hw 28 rfl) (oW hw 29 rfl) (oW hw 80 rfl) (by decide) (sp74 l Z a0 hw [] o0 o1 o2 o3 o4 c0 h2 n0 Z_2 cf3 cf4 F2 cf5 cf6 cf7 O_o2 ne_o0_o1 ne_o0_o2 ne_o0_o3 ne_o0_o4 ne_o1_o2 ne_o2_o3 ne_o2_o4 g_o0 g_o2) e11 cf3 0 (argsL := [(.ref o1), (.ref o2), (.int 2)]) (rest := []) (Ls := #[rv o0, rv o1]) (by rw [hml]; rfl) (lenOf qQ24 rfl) rfl rfl (Nat.le_of_eq rfl) (hb hB d8_20) (by decide) (by decide) (by decide) (by decide)
  have N12 := Fr.app N2 Nq12
  have cf13 := cf3.keep Kq12
  have cf14 := cf6.keep Kq12
  have cf15 := cf8.keep Kq12
  have cf16 := cf9.keep Kq12
  have Z_12 : n0 ≤ T12.heap.size := Nat.le_trans Z_2 Kq12.1
  have K_12 : Keep h0 T12.heap [o0, o2] := K_2.trans Kq12 (allS (oI 0 rfl) (allS (oI 1 rfl) all0))
  refine oG T12 m 23 #[rv o0, rv o1] [] (st12) ?_
  refine oG T12 m 24 #[rv o0, rv o1] [(.int 1)] (fun t k => XS.iconst X12.here hx rfl (hb hB d8_23) k) ?_
  refine own_retZ X12 hx hlk hret (by decide) (hb hB d8_24) (by decide) (by decide) ?_
  exact ⟨rfl, N12, K_12, fq0_12, fq1_12, fq2_12, fq3_12⟩
theorem qQ150 (m : MethodId) (q0 : Addr) : entryFrame m #[(.ref q0)] 1 = mkF m 0 #[rv q0] [] := by first | (simp [entryFrame, mkF, argsToLocals, Value.category]; done) | rfl
theorem sp76 (l : Launch) (Z : State) (a0 : Array Value) (hw : ∀ d ∈ tables_1, d.before a0 Z = true) (ws : List Jvm.Cond) (o0 : Addr) (h0 : Heap) (n0 : Nat) (Z0 : n0 ≤ h0.size) (F_size_o0 : Fld Z h0 o0 OwnK4 "size" "I" (.int 3)) :
    OwnC l Z (⟨OwnK4, "size", "()I"⟩ : MethodName) jdk_38_method_8_code 1 (some .int) ws ({ frames := 0, cells := 0, slots := 0, locals := 0 } : Room) #[(.ref o0)] h0 (fun v h L => v = some (.int 3) ∧ h = h0 ∧ L = []) := by
  refine own_entry qQ29 (fun m => qQ150 m o0) ?_
  intro p e s m below meth c T0 X0 hC e0
  obtain ⟨hx, hB, hml, hown, hnm, hret, hlk, hZ⟩ := hC
  have N0 := Fr.nil n0
  have K0 := Keep.refl h0 []
  refine oG T0 m 1 #[rv o0] [(.ref o0)] (fun t k => XS.aloadN X0.here hx rfl (hb hB d14_0) rfl rfl k) ?_
  obtain ⟨T1, X1, e1, st1⟩ := getF X0 hx hZ hown (host := "") (Or.inl (oW hw 74 rfl)) Via.refl e0 F_size_o0 (g := (mkF m 1 #[rv o0] [(.ref o0)])) rfl rfl (hb hB d14_1)
  refine oG T1 m 4 #[rv o0] [(.int 3)] (st1) ?_
  refine own_retI X1 hx hlk hret (hb hB d14_4) (by decide) (by decide) ?_
  exact ⟨rfl, e1, rfl⟩
theorem qQ82 (m : MethodId) (q0 : Int32) (q1 : Int32) (q2 : Int32) : entryFrame m #[(.int q0), (.int q1), (.int q2)] 3 = mkF m 0 #[iv q0, iv q1, iv q2] [] := by first | (simp [entryFrame, mkF, argsToLocals, Value.category]; done) | rfl
theorem sp78 (l : Launch) (Z : State) (a0 : Array Value) (hw : ∀ d ∈ tables_1, d.before a0 Z = true) (ws : List Jvm.Cond) (h0 : Heap) (n0 : Nat) (Z0 : n0 ≤ h0.size) :
    OwnC l Z (⟨OwnK5, "subListRangeCheck", "(III)V"⟩ : MethodName) jdk_39_method_15_code 3 none ws ({ frames := 0, cells := 0, slots := 0, locals := 0 } : Room) #[(.int 0), (.int 3), (.int 3)] h0 (fun v h L => v = none ∧ h = h0 ∧ L = []) := by
  refine own_entry qQ19 (fun m => qQ82 m (0 : Int32) (3 : Int32) (3 : Int32)) ?_
  intro p e s m below meth c T0 X0 hC e0
  obtain ⟨hx, hB, hml, hown, hnm, hret, hlk, hZ⟩ := hC
  have N0 := Fr.nil n0
  have K0 := Keep.refl h0 []
  refine oG T0 m 1 #[iv 0, iv 3, iv 3] [(.int 0)] (fun t k => XS.iloadN X0.here hx rfl (hb hB d16_0) rfl k) ?_
  refine oG T0 m 31 #[iv 0, iv 3, iv 3] [] (fun t k => XS.ifYes X0.here hx rfl (pc0 := 1) (pc' := 31) rfl (hb hB d16_1) rfl ((if0 _ _).trans (flt (by decide)).2.1) (by decide) (by decide) k) ?_
  refine oG T0 m 32 #[iv 0, iv 3, iv 3] [(.int 3)] (fun t k => XS.iloadN X0.here hx rfl (hb hB d16_31) rfl k) ?_
  refine oG T0 m 33 #[iv 0, iv 3, iv 3] [(.int 3), (.int 3)] (fun t k => XS.iloadN X0.here hx rfl (hb hB d16_32) rfl k) ?_
  refine oG T0 m 63 #[iv 0, iv 3, iv 3] [] (fun t k => XS.icmpYes X0.here hx rfl (pc0 := 33) (pc' := 63) rfl (hb hB d16_33) rfl (flt (by decide)).2.2.2 (by decide) (by decide) k) ?_
  refine oG T0 m 64 #[iv 0, iv 3, iv 3] [(.int 0)] (fun t k => XS.iloadN X0.here hx rfl (hb hB d16_63) rfl k) ?_
  refine oG T0 m 65 #[iv 0, iv 3, iv 3] [(.int 3), (.int 0)] (fun t k => XS.iloadN X0.here hx rfl (hb hB d16_64) rfl k) ?_
  refine oG T0 m 109 #[iv 0, iv 3, iv 3] [] (fun t k => XS.icmpYes X0.here hx rfl (pc0 := 65) (pc' := 109) rfl (hb hB d16_65) rfl (flt (by decide)).2.2.2 (by decide) (by decide) k) ?_
  refine own_retV X0 hx hlk hret (hb hB d16_109) (by decide) (by decide) ?_
  exact ⟨rfl, e0, rfl⟩
theorem qQ119 (m : MethodId) (q0 : Addr) (q1 : Addr) (q2 : Int32) (q3 : Int32) : entryFrame m #[(.ref q0), (.ref q1), (.int q2), (.int q3)] 4 = mkF m 0 #[rv q0, rv q1, iv q2, iv q3] [] := by first | (simp [entryFrame, mkF, argsToLocals, Value.category]; done) | rfl
theorem sp79 (l : Launch) (Z : State) (a0 : Array Value) (hw : ∀ d ∈ tables_1, d.before a0 Z = true) (ws : List Jvm.Cond) (o0 o1 : Addr) (h0 : Heap) (n0 : Nat) (Z0 : n0 ≤ h0.size) (E_o0 : Exa Z h0 o0 OwnK3) (F_mC_o0 : Fld Z h0 o0 OwnK5 "modCount" "I" (.int 0)) (F_offset_o0 : Fld Z h0 o0 OwnK3 "offset" "I" (.int 0)) (F_parent_o0 : Fld Z h0 o0 OwnK3 "parent" OwnK7 .null) (F_root_o0 : Fld Z h0 o0 OwnK3 "root" OwnK8 .null) (F_size_o0 : Fld Z h0 o0 OwnK3 "size" "I" (.int 0)) (F_mC_o1 : Fld Z h0 o1 OwnK5 "modCount" "I" (.int 3)) (ne_o0_o1 : o0 ≠ o1) (g_o0 : n0 ≤ o0) :
    OwnC l Z (⟨OwnK3, "<init>", "(Ljava/util/ArrayList;II)V"⟩ : MethodName) jdk_130_method_1_code 4 none ws ({ frames := 3, cells := 0, slots := 0, locals := 36 } : Room) #[(.ref o0), (.ref o1), (.int 0), (.int 3)] h0 (fun v h L => v = none ∧ Fr n0 L ∧ Keep h0 h [o0] ∧ Fld Z h o0 OwnK3 "root" OwnK8 (.ref o1) ∧ Fld Z h o0 OwnK3 "offset" "I" (.int 0) ∧ Fld Z h o0 OwnK3 "size" "I" (.int 3) ∧ Fld Z h o0 OwnK5 "modCount" "I" (.int 3)) := by
  refine own_entry qQ10 (fun m => qQ119 m o0 o1 (0 : Int32) (3 : Int32)) ?_
  intro p e s m below meth c T0 X0 hC e0
  obtain ⟨hx, hB, hml, hown, hnm, hret, hlk, hZ⟩ := hC
  have N0 := Fr.nil n0
  have K0 := Keep.refl h0 [o0]
  refine oG T0 m 1 #[rv o0, rv o1, iv 0, iv 3] [(.ref o0)] (fun t k => XS.aloadN X0.here hx rfl (hb hB d17_0) rfl rfl k) ?_
  obtain ⟨_, T1, L1, X1, ⟨rfl, Nq1, Kq1, fq0_1, fq1_1, fq2_1, fq3_1, fq4_1⟩, st1⟩ := own_init X0 hx hZ (y := (⟨OwnK5, "<init>", "()V"⟩ : MethodName)) rfl hown (oW hw 131 rfl) (oW hw 34 rfl) (oW hw 37 rfl) (oW hw 38 rfl) (by decide) (sp17 l Z a0 hw [] o0 h0 n0 Z0 E_o0 F_mC_o0 F_offset_o0 F_parent_o0 F_root_o0 F_size_o0 g_o0) e0 (a := o0) 0 (argsL := []) (rest := []) (Ls := #[rv o0, rv o1, iv 0, iv 3]) (by rw [hml]; rfl) (lenOf qQ155 rfl) rfl rfl (Nat.le_of_eq rfl) (hb hB d17_1) (by decide) (by decide) (by decide) (by decide)
  have N1 := Fr.app N0 Nq1
  have cf2 := E_o0.keep Kq1
  have cf3 := F_mC_o1.keep Kq1 (ninS (Ne.symm ne_o0_o1) nin0)
  have Z_1 : n0 ≤ T1.heap.size := Nat.le_trans Z0 Kq1.1
  have K_1 : Keep h0 T1.heap [o0] := K0.trans Kq1 (allS (oI 0 rfl) all0)
  refine oG T1 m 4 #[rv o0, rv o1, iv 0, iv 3] [] (st1) ?_
  refine oG T1 m 5 #[rv o0, rv o1, iv 0, iv 3] [(.ref o0)] (fun t k => XS.aloadN X1.here hx rfl (hb hB d17_4) rfl rfl k) ?_
  refine oG T1 m 6 #[rv o0, rv o1, iv 0, iv 3] [(.ref o1), (.ref o0)] (fun t k => XS.aloadN X1.here hx rfl (hb hB d17_5) rfl rfl k) ?_
  obtain ⟨T4, h4, X4, e4, W4, st4⟩ := putF X1 hx hZ hown (host := "") (Or.inl (oW hw 135 rfl)) Via.refl rfl fq2_1 cf2 (Or.inr ⟨(oW hw 136 rfl), rfl, hnm⟩) (oW hw 125 rfl) (ty := (.object OwnK4)) (by decide) rfl rfl (g := (mkF m 6 #[rv o0, rv o1, iv 0, iv 3] [(.ref o1), (.ref o0)])) rfl rfl (hb hB d17_6)
  have F4 := fq2_1.same W4
  have cf5 := cf2.wr W4
  have cf6 := cf3.other W4 (Or.inl (Ne.symm ne_o0_o1))
  have cf7 := fq0_1.other W4 (Or.inr (slot_ne (Or.inr (oW hw 140 rfl)) (Or.inr (oW hw 136 rfl)) (by decide) (t := .int) (t' := (.object OwnK4)) (by decide) (by decide)))
  have cf8 := fq1_1.other W4 (Or.inr (slot_ne (Or.inr (oW hw 138 rfl)) (Or.inr (oW hw 136 rfl)) (by decide) (t := (.object OwnK3)) (t' := (.object OwnK4)) (by decide) (by decide)))
  have cf9 := fq3_1.other W4 (Or.inr (slot_ne (Or.inl (oW hw 142 rfl)) (Or.inr (oW hw 136 rfl)) (by decide) (t := .int) (t' := (.object OwnK4)) (by decide) (by decide)))
  have cf10 := fq4_1.other W4 (Or.inr (slot_ne (Or.inl (oW hw 134 rfl)) (Or.inr (oW hw 136 rfl)) (by decide) (t := .int) (t' := (.object OwnK4)) (by decide) (by decide)))
  have Z_4 : n0 ≤ h4.size := Nat.le_trans Z_1 (Keep.of_wr W4).1
  have K_4 : Keep h0 h4 [o0] := K_1.wr W4 (oI 0 rfl)
  have N4 := Fr.snoc X4 N1 g_o0
  refine oG T4 m 9 #[rv o0, rv o1, iv 0, iv 3] [] (st4) ?_
  refine oG T4 m 10 #[rv o0, rv o1, iv 0, iv 3] [(.ref o0)] (fun t k => XS.aloadN X4.here hx rfl (hb hB d17_9) rfl rfl k) ?_
  refine oG T4 m 11 #[rv o0, rv o1, iv 0, iv 3] [.null, (.ref o0)] (fun t k => XS.aconstNull X4.here hx rfl (hb hB d17_10) k) ?_
  obtain ⟨T11, h11, X11, e11, W11, st11⟩ := putF X4 hx hZ hown (host := "") (Or.inl (oW hw 137 rfl)) Via.refl e4 cf8 cf5 (Or.inr ⟨(oW hw 138 rfl), rfl, hnm⟩) (oW hw 125 rfl) (ty := (.object OwnK3)) (by decide) rfl rfl (g := (mkF m 11 #[rv o0, rv o1, iv 0, iv 3] [.null, (.ref o0)])) rfl rfl (hb hB d17_11)
  have F11 := cf8.same W11
  have cf12 := cf5.wr W11
  have cf13 := cf6.other W11 (Or.inl (Ne.symm ne_o0_o1))
  have cf14 := cf7.other W11 (Or.inr (slot_ne (Or.inr (oW hw 140 rfl)) (Or.inr (oW hw 138 rfl)) (by decide) (t := .int) (t' := (.object OwnK3)) (by decide) (by decide)))
  have cf15 := cf9.other W11 (Or.inr (slot_ne (Or.inl (oW hw 142 rfl)) (Or.inr (oW hw 138 rfl)) (by decide) (t := .int) (t' := (.object OwnK3)) (by decide) (by decide)))
  have cf16 := cf10.other W11 (Or.inr (slot_ne (Or.inl (oW hw 134 rfl)) (Or.inr (oW hw 138 rfl)) (by decide) (t := .int) (t' := (.object OwnK3)) (by decide) (by decide)))
  have cf17 := F4.other W11 (Or.inr (slot_ne (Or.inr (oW hw 136 rfl)) (Or.inr (oW hw 138 rfl)) (by decide) (t := (.object OwnK4)) (t' := (.object OwnK3)) (by decide) (by decide)))
  have Z_11 : n0 ≤ h11.size := Nat.le_trans Z_4 (Keep.of_wr W11).1
  have K_11 : Keep h0 h11 [o0] := K_4.wr W11 (oI 0 rfl)
  have N11 := Fr.snoc X11 N4 g_o0
  refine oG T11 m 14 #[rv o0, rv o1, iv 0, iv 3] [] (st11) ?_
  refine oG T11 m 15 #[rv o0, rv o1, iv 0, iv 3] [(.ref o0)] (fun t k => XS.aloadN X11.here hx rfl (hb hB d17_14) rfl rfl k) ?_
  refine oG T11 m 16 #[rv o0, rv o1, iv 0, iv 3] [(.int 0), (.ref o0)] (fun t k => XS.iloadN X11.here hx rfl (hb hB d17_15) rfl k) ?_
  obtain ⟨T18, h18, X18, e18, W18, st18⟩ := putF X11 hx hZ hown (host := "") (Or.inl (oW hw 139 rfl)) Via.refl e11 cf14 cf12 (Or.inr ⟨(oW hw 140 rfl), rfl, hnm⟩) (oW hw 125 rfl) (ty := .int) (by decide) rfl rfl (g := (mkF m 16 #[rv o0, rv o1, iv 0, iv 3] [(.int 0), (.ref o0)])) rfl rfl (hb hB d17_16)
  have F18 := cf14.same W18
  have cf19 := cf12.wr W18
  have cf20 := cf13.other W18 (Or.inl (Ne.symm ne_o0_o1))
  have cf21 := cf15.other W18 (Or.inr (slot_ne (Or.inl (oW hw 142 rfl)) (Or.inr (oW hw 140 rfl)) (by decide) (t := .int) (t' := .int) (by decide) (by decide)))
  have cf22 := cf16.other W18 (Or.inr (slot_ne (Or.inl (oW hw 134 rfl)) (Or.inr (oW hw 140 rfl)) (by decide) (t := .int) (t' := .int) (by decide) (by decide)))
  have cf23 := cf17.other W18 (Or.inr (slot_ne (Or.inr (oW hw 136 rfl)) (Or.inr (oW hw 140 rfl)) (by decide) (t := (.object OwnK4)) (t' := .int) (by decide) (by decide)))
  have cf24 := F11.other W18 (Or.inr (slot_ne (Or.inr (oW hw 138 rfl)) (Or.inr (oW hw 140 rfl)) (by decide) (t := (.object OwnK3)) (t' := .int) (by decide) (by decide)))
  have Z_18 : n0 ≤ h18.size := Nat.le_trans Z_11 (Keep.of_wr W18).1
  have K_18 : Keep h0 h18 [o0] := K_11.wr W18 (oI 0 rfl)
  have N18 := Fr.snoc X18 N11 g_o0
  refine oG T18 m 19 #[rv o0, rv o1, iv 0, iv 3] [] (st18) ?_
  refine oG T18 m 20 #[rv o0, rv o1, iv 0, iv 3] [(.ref o0)] (fun t k => XS.aloadN X18.here hx rfl (hb hB d17_19) rfl rfl k) ?_
  refine oG T18 m 21 #[rv o0, rv o1, iv 0, iv 3] [(.int 3), (.ref o0)] (fun t k => XS.iloadN X18.here hx rfl (hb hB d17_20) rfl k) ?_
  refine oG T18 m 22 #[rv o0, rv o1, iv 0, iv 3] [(.int 0), (.int 3), (.ref o0)] (fun t k => XS.iloadN X18.here hx rfl (hb hB d17_21) rfl k) ?_
  refine oG T18 m 23 #[rv o0, rv o1, iv 0, iv 3] [(.int ((3 : Int32) - (0 : Int32))), (.ref o0)] (fun t k => XS.isub X18.here hx rfl (hb hB d17_22) rfl k) ?_
  rw [show ((3 : Int32) - (0 : Int32)) = (3 : Int32) from by decide]
  obtain ⟨T25, h25, X25, e25, W25, st25⟩ := putF X18 hx hZ hown (host := "") (Or.inl (oW hw 141 rfl)) Via.refl e18 cf21 cf19 (Or.inl (oW hw 142 rfl)) (oW hw 125 rfl) (ty := .int) (by decide) rfl rfl (g := (mkF m 23 #[rv o0, rv o1, iv 0, iv 3] [(.int 3), (.ref o0)])) rfl rfl (hb hB d17_23)
  have F25 := cf21.same W25
  have cf26 := cf19.wr W25
  have cf27 := cf20.other W25 (Or.inl (Ne.symm ne_o0_o1))
  have cf28 := cf22.other W25 (Or.inr (slot_ne (Or.inl (oW hw 134 rfl)) (Or.inl (oW hw 142 rfl)) (by decide) (t := .int) (t' := .int) (by decide) (by decide)))
  have cf29 := cf23.other W25 (Or.inr (slot_ne (Or.inr (oW hw 136 rfl)) (Or.inl (oW hw 142 rfl)) (by decide) (t := (.object OwnK4)) (t' := .int) (by decide) (by decide)))
  have cf30 := cf24.other W25 (Or.inr (slot_ne (Or.inr (oW hw 138 rfl)) (Or.inl (oW hw 142 rfl)) (by decide) (t := (.object OwnK3)) (t' := .int) (by decide) (by decide)))
  have cf31 := F18.other W25 (Or.inr (slot_ne (Or.inr (oW hw 140 rfl)) (Or.inl (oW hw 142 rfl)) (by decide) (t := .int) (t' := .int) (by decide) (by decide)))
  have Z_25 : n0 ≤ h25.size := Nat.le_trans Z_18 (Keep.of_wr W25).1
  have K_25 : Keep h0 h25 [o0] := K_18.wr W25 (oI 0 rfl)
  have N25 := Fr.snoc X25 N18 g_o0
  refine oG T25 m 26 #[rv o0, rv o1, iv 0, iv 3] [] (st25) ?_
  refine oG T25 m 27 #[rv o0, rv o1, iv 0, iv 3] [(.ref o0)] (fun t k => XS.aloadN X25.here hx rfl (hb hB d17_26) rfl rfl k) ?_
  refine oG T25 m 28 #[rv o0, rv o1, iv 0, iv 3] [(.ref o1), (.ref o0)] (fun t k => XS.aloadN X25.here hx rfl (hb hB d17_27) rfl rfl k) ?_
  obtain ⟨T32, X32, e32, st32⟩ := getF X25 hx hZ hown (host := "") (Or.inl (oW hw 143 rfl)) (Via.of (oW hw 73 rfl)) e25 cf27 (g := (mkF m 28 #[rv o0, rv o1, iv 0, iv 3] [(.ref o1), (.ref o0)])) rfl rfl (hb hB d17_28)
  refine oG T32 m 31 #[rv o0, rv o1, iv 0, iv 3] [(.int 3), (.ref o0)] (st32) ?_
  obtain ⟨T33, h33, X33, e33, W33, st33⟩ := putF X32 hx hZ hown (host := "") (Or.inl (oW hw 144 rfl)) (Via.of (oW hw 145 rfl)) e32 cf28 cf26 (Or.inl (oW hw 134 rfl)) (oW hw 125 rfl) (ty := .int) (by decide) rfl rfl (g := (mkF m 31 #[rv o0, rv o1, iv 0, iv 3] [(.int 3), (.ref o0)])) rfl rfl (hb hB d17_31)
  have F33 := cf28.same W33
  have cf34 := cf26.wr W33
  have cf35 := cf27.other W33 (Or.inl (Ne.symm ne_o0_o1))
  have cf36 := cf29.other W33 (Or.inr (slot_ne (Or.inr (oW hw 136 rfl)) (Or.inl (oW hw 134 rfl)) (by decide) (t := (.object OwnK4)) (t' := .int) (by decide) (by decide)))
  have cf37 := cf30.other W33 (Or.inr (slot_ne (Or.inr (oW hw 138 rfl)) (Or.inl (oW hw 134 rfl)) (by decide) (t := (.object OwnK3)) (t' := .int) (by decide) (by decide)))
  have cf38 := cf31.other W33 (Or.inr (slot_ne (Or.inr (oW hw 140 rfl)) (Or.inl (oW hw 134 rfl)) (by decide) (t := .int) (t' := .int) (by decide) (by decide)))
  have cf39 := F25.other W33 (Or.inr (slot_ne (Or.inl (oW hw 142 rfl)) (Or.inl (oW hw 134 rfl)) (by decide) (t := .int) (t' := .int) (by decide) (by decide)))
  have Z_33 : n0 ≤ h33.size := Nat.le_trans Z_25 (Keep.of_wr W33).1
  have K_33 : Keep h0 h33 [o0] := K_25.wr W33 (oI 0 rfl)
  have N33 := Fr.snoc X33 N25 g_o0
  refine oG T33 m 34 #[rv o0, rv o1, iv 0, iv 3] [] (st33) ?_
  refine own_retV X33 hx hlk hret (hb hB d17_34) (by decide) (by decide) ?_
  rw [e33]
  exact ⟨rfl, N33, K_33, cf36, cf38, cf39, F33⟩
theorem qQ131 (m : MethodId) (q0 : Addr) (q1 : Int32) (q2 : Int32) : entryFrame m #[(.ref q0), (.int q1), (.int q2)] 3 = mkF m 0 #[rv q0, iv q1, iv q2] [] := by first | (simp [entryFrame, mkF, argsToLocals, Value.category]; done) | rfl
theorem sp77 (l : Launch) (Z : State) (a0 : Array Value) (hw : ∀ d ∈ tables_1, d.before a0 Z = true) (ws : List Jvm.Cond) (o0 : Addr) (h0 : Heap) (n0 : Nat) (Z0 : n0 ≤ h0.size) (F_mC_o0 : Fld Z h0 o0 OwnK5 "modCount" "I" (.int 3)) (F_size_o0 : Fld Z h0 o0 OwnK4 "size" "I" (.int 3)) :
    OwnC l Z (⟨OwnK4, "subList", "(II)Ljava/util/List;"⟩ : MethodName) jdk_38_method_56_code 3 (some (.object "java/util/List")) ws ({ frames := 4, cells := 1, slots := 5, locals := 52 } : Room) #[(.ref o0), (.int 0), (.int 3)] h0 (fun v h L => ∃ (w0 : Addr), v = some (.ref w0) ∧ Fr n0 L ∧ Keep h0 h [] ∧ (h0.size ≤ w0 ∧ n0 ≤ w0) ∧ Exa Z h w0 OwnK3 ∧ Fld Z h w0 OwnK3 "root" OwnK8 (.ref o0) ∧ Fld Z h w0 OwnK3 "offset" "I" (.int 0) ∧ Fld Z h w0 OwnK3 "size" "I" (.int 3) ∧ Fld Z h w0 OwnK5 "modCount" "I" (.int 3)) := by
  refine own_entry qQ17 (fun m => qQ131 m o0 (0 : Int32) (3 : Int32)) ?_
  intro p e s m below meth c T0 X0 hC e0
  obtain ⟨hx, hB, hml, hown, hnm, hret, hlk, hZ⟩ := hC
  have N0 := Fr.nil n0
  have K0 := Keep.refl h0 []
  refine oG T0 m 1 #[rv o0, iv 0, iv 3] [(.int 0)] (fun t k => XS.iloadN X0.here hx rfl (hb hB d15_0) rfl k) ?_
  refine oG T0 m 2 #[rv o0, iv 0, iv 3] [(.int 3), (.int 0)] (fun t k => XS.iloadN X0.here hx rfl (hb hB d15_1) rfl k) ?_
  refine oG T0 m 3 #[rv o0, iv 0, iv 3] [(.ref o0), (.int 3), (.int 0)] (fun t k => XS.aloadN X0.here hx rfl (hb hB d15_2) rfl rfl k) ?_
  obtain ⟨T1, X1, e1, st1⟩ := getF X0 hx hZ hown (host := "") (Or.inl (oW hw 74 rfl)) Via.refl e0 F_size_o0 (g := (mkF m 3 #[rv o0, iv 0, iv 3] [(.ref o0), (.int 3), (.int 0)])) rfl rfl (hb hB d15_3)
  refine oG T1 m 6 #[rv o0, iv 0, iv 3] [(.int 3), (.int 3), (.int 0)] (st1) ?_
  obtain ⟨_, T2, L2, X2, ⟨rfl, e2, rfl⟩, st2⟩ := own_staticUp X1 hx hZ (x := (⟨OwnK4, "subListRangeCheck", "(III)V"⟩ : MethodName)) hown (oW hw 120 rfl) (oW hw 121 rfl) (by decide) (oW hw 122 rfl) (oW hw 37 rfl) (oW hw 123 rfl) (sp78 l Z a0 hw []  h0 n0 Z0 ) e1 0 (argsL := [(.int 0), (.int 3), (.int 3)]) (rest := []) (Ls := #[rv o0, iv 0, iv 3]) (by rw [hml]; rfl) (lenOf qQ41 rfl) rfl rfl (Nat.le_of_eq rfl) (hb hB d15_6) (by decide) (by decide) (by decide) (by decide)
  replace X2 := own_nil X2
  refine oG T2 m 9 #[rv o0, iv 0, iv 3] [] (st2) ?_
  obtain ⟨T3, h3, X3, e3, E3, A3, D3, -, st3⟩ := newO X2 hx hZ hown (oW hw 124 rfl) (oW hw 125 rfl) (oW hw 126 rfl) e2 (g := (mkF m 9 #[rv o0, iv 0, iv 3] [])) rfl (hb hB d15_9) (by decide) (by decide)
  obtain ⟨b3, g3⟩ : ∃ z, z = h0.size := ⟨_, rfl⟩
  rw [← g3] at A3 D3 st3
  have ne_o0_b3 : o0 ≠ b3 := Nat.ne_of_lt (Nat.lt_of_lt_of_eq F_mC_o0.lt g3.symm)
  have g_b3 : n0 ≤ b3 := Nat.le_trans Z0 (Nat.le_of_eq g3.symm)
  have sz_b3 : h0.size ≤ b3 := Nat.le_trans K0.1 (Nat.le_of_eq g3.symm)
  have cf4 := F_mC_o0.ext E3
  have cf5 := F_size_o0.ext E3
  have Z_3 : n0 ≤ h3.size := Nat.le_trans Z0 E3.1
  have K_3 : Keep h0 h3 [] := K0.ext E3
  have F_mC_3 : Fld Z h3 b3 OwnK5 "modCount" "I" (.int 0) := D3 (Or.inl (oW hw 134 rfl)) (ty := .int) (by decide)
  have F_root_3 : Fld Z h3 b3 OwnK3 "root" OwnK8 .null := D3 (Or.inr (oW hw 136 rfl)) (ty := (.object OwnK4)) (by decide)
  have F_parent_3 : Fld Z h3 b3 OwnK3 "parent" OwnK7 .null := D3 (Or.inr (oW hw 138 rfl)) (ty := (.object OwnK3)) (by decide)
  have F_offset_3 : Fld Z h3 b3 OwnK3 "offset" "I" (.int 0) := D3 (Or.inr (oW hw 140 rfl)) (ty := .int) (by decide)
  have F_size_3 : Fld Z h3 b3 OwnK3 "size" "I" (.int 0) := D3 (Or.inl (oW hw 142 rfl)) (ty := .int) (by decide)
  refine oG T3 m 12 #[rv o0, iv 0, iv 3] [(.ref b3)] (st3) ?_
  refine oG T3 m 13 #[rv o0, iv 0, iv 3] [(.ref b3), (.ref b3)] (fun t k => XS.dup X3.here hx rfl (hb hB d15_12) rfl rfl k) ?_
  refine oG T3 m 14 #[rv o0, iv 0, iv 3] [(.ref o0), (.ref b3), (.ref b3)] (fun t k => XS.aloadN X3.here hx rfl (hb hB d15_13) rfl rfl k) ?_
  refine oG T3 m 15 #[rv o0, iv 0, iv 3] [(.int 0), (.ref o0), (.ref b3), (.ref b3)] (fun t k => XS.iloadN X3.here hx rfl (hb hB d15_14) rfl k) ?_
  refine oG T3 m 16 #[rv o0, iv 0, iv 3] [(.int 3), (.int 0), (.ref o0), (.ref b3), (.ref b3)] (fun t k => XS.iloadN X3.here hx rfl (hb hB d15_15) rfl k) ?_
  obtain ⟨_, T6, L6, X6, ⟨rfl, Nq6, Kq6, fq0_6, fq1_6, fq2_6, fq3_6⟩, st6⟩ := own_init X3 hx hZ (y := (⟨OwnK3, "<init>", "(Ljava/util/ArrayList;II)V"⟩ : MethodName)) rfl hown (oW hw 127 rfl) (oW hw 128 rfl) (oW hw 126 rfl) (oW hw 130 rfl) (by decide) (sp79 l Z a0 hw [] b3 o0 h3 n0 Z_3 A3 F_mC_3 F_offset_3 F_parent_3 F_root_3 F_size_3 cf4 (Ne.symm ne_o0_b3) g_b3) e3 (a := b3) 1 (argsL := [(.ref o0), (.int 0), (.int 3)]) (rest := [(.ref b3)]) (Ls := #[rv o0, iv 0, iv 3]) (by rw [hml]; rfl) (lenOf qQ32 rfl) rfl rfl (Nat.le_of_eq rfl) (hb hB d15_16) (by decide) (by decide) (by decide) (by decide)
  have N6 := Fr.app N0 Nq6
  have cf7 := cf4.keep Kq6 (ninS ne_o0_b3 nin0)
  have cf8 := cf5.keep Kq6 (ninS ne_o0_b3 nin0)
  have cf9 := A3.keep Kq6
  have Z_6 : n0 ≤ T6.heap.size := Nat.le_trans Z_3 Kq6.1
  have K_6 : Keep h0 T6.heap [] := K_3.trans Kq6 (allS (Or.inr sz_b3) all0)
  refine oG T6 m 19 #[rv o0, iv 0, iv 3] [(.ref b3)] (st6) ?_
  refine own_retA X6 hx hlk hret rfl rfl rfl (hb hB d15_19) (by decide) (by decide) ?_
  exact ⟨b3, rfl, N6, K_6, ⟨sz_b3, g_b3⟩, cf9, fq0_6, fq1_6, fq2_6, fq3_6⟩
theorem qQ105 (m : MethodId) (q0 : Addr) : entryFrame m #[(.ref q0)] 1 = mkF m 0 #[rv q0] [] := by first | (simp [entryFrame, mkF, argsToLocals, Value.category]; done) | rfl
theorem sp83 (l : Launch) (Z : State) (a0 : Array Value) (hw : ∀ d ∈ tables_1, d.before a0 Z = true) (ws : List Jvm.Cond) (o0 o1 : Addr) (h0 : Heap) (n0 : Nat) (Z0 : n0 ≤ h0.size) (F_mC_o0 : Fld Z h0 o0 OwnK5 "modCount" "I" (.int 3)) (F_root_o0 : Fld Z h0 o0 OwnK3 "root" OwnK8 (.ref o1)) (F_mC_o1 : Fld Z h0 o1 OwnK5 "modCount" "I" (.int 3)) :
    OwnC l Z (⟨OwnK3, "checkForComodification", "()V"⟩ : MethodName) jdk_130_method_28_code 1 none ws ({ frames := 0, cells := 0, slots := 0, locals := 0 } : Room) #[(.ref o0)] h0 (fun v h L => v = none ∧ h = h0 ∧ L = []) := by
  refine own_entry qQ14 (fun m => qQ105 m o0) ?_
  intro p e s m below meth c T0 X0 hC e0
  obtain ⟨hx, hB, hml, hown, hnm, hret, hlk, hZ⟩ := hC
  have N0 := Fr.nil n0
  have K0 := Keep.refl h0 []
  refine oG T0 m 1 #[rv o0] [(.ref o0)] (fun t k => XS.aloadN X0.here hx rfl (hb hB d21_0) rfl rfl k) ?_
  obtain ⟨T1, X1, e1, st1⟩ := getF X0 hx hZ hown (host := "") (Or.inl (oW hw 135 rfl)) Via.refl e0 F_root_o0 (g := (mkF m 1 #[rv o0] [(.ref o0)])) rfl rfl (hb hB d21_1)
  refine oG T1 m 4 #[rv o0] [(.ref o1)] (st1) ?_
  obtain ⟨T2, X2, e2, st2⟩ := getF X1 hx hZ hown (host := "") (Or.inl (oW hw 143 rfl)) (Via.of (oW hw 73 rfl)) e1 F_mC_o1 (g := (mkF m 4 #[rv o0] [(.ref o1)])) rfl rfl (hb hB d21_4)
  refine oG T2 m 7 #[rv o0] [(.int 3)] (st2) ?_
  refine oG T2 m 8 #[rv o0] [(.ref o0), (.int 3)] (fun t k => XS.aloadN X2.here hx rfl (hb hB d21_7) rfl rfl k) ?_
  obtain ⟨T3, X3, e3, st3⟩ := getF X2 hx hZ hown (host := "") (Or.inl (oW hw 144 rfl)) (Via.of (oW hw 145 rfl)) e2 F_mC_o0 (g := (mkF m 8 #[rv o0] [(.ref o0), (.int 3)])) rfl rfl (hb hB d21_8)
  refine oG T3 m 11 #[rv o0] [(.int 3), (.int 3)] (st3) ?_
  refine oG T3 m 22 #[rv o0] [] (fun t k => XS.icmpYes X3.here hx rfl (pc0 := 11) (pc' := 22) rfl (hb hB d21_11) rfl (teq (by decide)).1 (by decide) (by decide) k) ?_
  refine own_retV X3 hx hlk hret (hb hB d21_22) (by decide) (by decide) ?_
  exact ⟨rfl, e3, rfl⟩
theorem qQ133 (m : MethodId) (q0 : Addr) (q1 : Int32) : entryFrame m #[(.ref q0), (.int q1)] 2 = mkF m 0 #[rv q0, iv q1] [] := by first | (simp [entryFrame, mkF, argsToLocals, Value.category]; done) | rfl
theorem sp84 (l : Launch) (Z : State) (a0 : Array Value) (hw : ∀ d ∈ tables_1, d.before a0 Z = true) (ws : List Jvm.Cond) (o0 : Addr) (h0 : Heap) (n0 : Nat) (Z0 : n0 ≤ h0.size) (F_size_o0 : Fld Z h0 o0 OwnK3 "size" "I" (.int 3)) :
    OwnC l Z (⟨OwnK3, "rangeCheckForAdd", "(I)V"⟩ : MethodName) jdk_130_method_26_code 2 none ws ({ frames := 0, cells := 0, slots := 0, locals := 0 } : Room) #[(.ref o0), (.int 0)] h0 (fun v h L => v = none ∧ h = h0 ∧ L = []) := by
  refine own_entry qQ16 (fun m => qQ133 m o0 (0 : Int32)) ?_
  intro p e s m below meth c T0 X0 hC e0
  obtain ⟨hx, hB, hml, hown, hnm, hret, hlk, hZ⟩ := hC
  have N0 := Fr.nil n0
  have K0 := Keep.refl h0 []
  refine oG T0 m 1 #[rv o0, iv 0] [(.int 0)] (fun t k => XS.iloadN X0.here hx rfl (hb hB d22_0) rfl k) ?_
  refine oG T0 m 4 #[rv o0, iv 0] [] (fun t k => XS.ifNo X0.here hx rfl (hb hB d22_1) rfl ((if0 _ _).trans (flt (by decide)).1) k) ?_
  refine oG T0 m 5 #[rv o0, iv 0] [(.int 0)] (fun t k => XS.iloadN X0.here hx rfl (hb hB d22_4) rfl k) ?_
  refine oG T0 m 6 #[rv o0, iv 0] [(.ref o0), (.int 0)] (fun t k => XS.aloadN X0.here hx rfl (hb hB d22_5) rfl rfl k) ?_
  obtain ⟨T1, X1, e1, st1⟩ := getF X0 hx hZ hown (host := "") (Or.inl (oW hw 141 rfl)) Via.refl e0 F_size_o0 (g := (mkF m 6 #[rv o0, iv 0] [(.ref o0), (.int 0)])) rfl rfl (hb hB d22_6)
  refine oG T1 m 9 #[rv o0, iv 0] [(.int 3), (.int 0)] (st1) ?_
  refine oG T1 m 25 #[rv o0, iv 0] [] (fun t k => XS.icmpYes X1.here hx rfl (pc0 := 9) (pc' := 25) rfl (hb hB d22_9) rfl (flt (by decide)).2.2.2 (by decide) (by decide) k) ?_
  refine own_retV X1 hx hlk hret (hb hB d22_25) (by decide) (by decide) ?_
  exact ⟨rfl, e1, rfl⟩
theorem qQ77 (m : MethodId) (q0 : Addr) (q1 : Addr) (q2 : Int32) : entryFrame m #[(.ref q0), (.ref q1), (.int q2)] 3 = mkF m 0 #[rv q0, rv q1, iv q2] [] := by first | (simp [entryFrame, mkF, argsToLocals, Value.category]; done) | rfl
theorem sp85 (l : Launch) (Z : State) (a0 : Array Value) (hw : ∀ d ∈ tables_1, d.before a0 Z = true) (ws : List Jvm.Cond) (o0 o1 : Addr) (h0 : Heap) (n0 : Nat) (Z0 : n0 ≤ h0.size) (E_o0 : Exa Z h0 o0 OwnK2) (F_cursor_o0 : Fld Z h0 o0 OwnK2 "cursor" "I" (.int 0)) (F_xM_o0 : Fld Z h0 o0 OwnK2 "expectedModCount" "I" (.int 0)) (F_lastRet_o0 : Fld Z h0 o0 OwnK2 "lastRet" "I" (.int 0)) (F_this_0_o0 : Fld Z h0 o0 OwnK2 "this$0" OwnK7 .null) (F_val_index_o0 : Fld Z h0 o0 OwnK2 "val$index" "I" (.int 0)) (F_mC_o1 : Fld Z h0 o1 OwnK5 "modCount" "I" (.int 3)) (ne_o0_o1 : o0 ≠ o1) (g_o0 : n0 ≤ o0) :
    OwnC l Z (⟨OwnK2, "<init>", "(Ljava/util/ArrayList$SubList;I)V"⟩ : MethodName) jdk_136_method_1_code 3 none ws ({ frames := 1, cells := 0, slots := 0, locals := 12 } : Room) #[(.ref o0), (.ref o1), (.int 0)] h0 (fun v h L => v = none ∧ Fr n0 L ∧ Keep h0 h [o0] ∧ Fld Z h o0 OwnK2 "this$0" OwnK7 (.ref o1) ∧ Fld Z h o0 OwnK2 "val$index" "I" (.int 0) ∧ Fld Z h o0 OwnK2 "cursor" "I" (.int 0) ∧ Fld Z h o0 OwnK2 "lastRet" "I" (.int (-1)) ∧ Fld Z h o0 OwnK2 "expectedModCount" "I" (.int 3)) := by
  refine own_entry qQ4 (fun m => qQ77 m o0 o1 (0 : Int32)) ?_
  intro p e s m below meth c T0 X0 hC e0
  obtain ⟨hx, hB, hml, hown, hnm, hret, hlk, hZ⟩ := hC
  have N0 := Fr.nil n0
  have K0 := Keep.refl h0 [o0]
  refine oG T0 m 1 #[rv o0, rv o1, iv 0] [(.ref o0)] (fun t k => XS.aloadN X0.here hx rfl (hb hB d23_0) rfl rfl k) ?_
  refine oG T0 m 2 #[rv o0, rv o1, iv 0] [(.ref o1), (.ref o0)] (fun t k => XS.aloadN X0.here hx rfl (hb hB d23_1) rfl rfl k) ?_
  obtain ⟨T1, h1, X1, e1, W1, st1⟩ := putF X0 hx hZ hown (host := "") (Or.inl (oW hw 184 rfl)) Via.refl e0 F_this_0_o0 E_o0 (Or.inr ⟨(oW hw 185 rfl), rfl, hnm⟩) (oW hw 178 rfl) (ty := (.object OwnK3)) (by decide) rfl rfl (g := (mkF m 2 #[rv o0, rv o1, iv 0] [(.ref o1), (.ref o0)])) rfl rfl (hb hB d23_2)
  have F1 := F_this_0_o0.same W1
  have cf2 := E_o0.wr W1
  have cf3 := F_cursor_o0.other W1 (Or.inr (slot_ne (Or.inl (oW hw 190 rfl)) (Or.inr (oW hw 185 rfl)) (by decide) (t := .int) (t' := (.object OwnK3)) (by decide) (by decide)))
  have cf4 := F_xM_o0.other W1 (Or.inr (slot_ne (Or.inl (oW hw 195 rfl)) (Or.inr (oW hw 185 rfl)) (by decide) (t := .int) (t' := (.object OwnK3)) (by decide) (by decide)))
  have cf5 := F_lastRet_o0.other W1 (Or.inr (slot_ne (Or.inl (oW hw 192 rfl)) (Or.inr (oW hw 185 rfl)) (by decide) (t := .int) (t' := (.object OwnK3)) (by decide) (by decide)))
  have cf6 := F_val_index_o0.other W1 (Or.inr (slot_ne (Or.inr (oW hw 187 rfl)) (Or.inr (oW hw 185 rfl)) (by decide) (t := .int) (t' := (.object OwnK3)) (by decide) (by decide)))
  have cf7 := F_mC_o1.other W1 (Or.inl (Ne.symm ne_o0_o1))
  have Z_1 : n0 ≤ h1.size := Nat.le_trans Z0 (Keep.of_wr W1).1
  have K_1 : Keep h0 h1 [o0] := K0.wr W1 (oI 0 rfl)
  have N1 := Fr.snoc X1 N0 g_o0
  refine oG T1 m 5 #[rv o0, rv o1, iv 0] [] (st1) ?_
  refine oG T1 m 6 #[rv o0, rv o1, iv 0] [(.ref o0)] (fun t k => XS.aloadN X1.here hx rfl (hb hB d23_5) rfl rfl k) ?_
  refine oG T1 m 7 #[rv o0, rv o1, iv 0] [(.int 0), (.ref o0)] (fun t k => XS.iloadN X1.here hx rfl (hb hB d23_6) rfl k) ?_
  obtain ⟨T8, h8, X8, e8, W8, st8⟩ := putF X1 hx hZ hown (host := "") (Or.inl (oW hw 186 rfl)) Via.refl e1 cf6 cf2 (Or.inr ⟨(oW hw 187 rfl), rfl, hnm⟩) (oW hw 178 rfl) (ty := .int) (by decide) rfl rfl (g := (mkF m 7 #[rv o0, rv o1, iv 0] [(.int 0), (.ref o0)])) rfl rfl (hb hB d23_7)
  have F8 := cf6.same W8
  have cf9 := cf2.wr W8
  have cf10 := cf3.other W8 (Or.inr (slot_ne (Or.inl (oW hw 190 rfl)) (Or.inr (oW hw 187 rfl)) (by decide) (t := .int) (t' := .int) (by decide) (by decide)))
  have cf11 := cf4.other W8 (Or.inr (slot_ne (Or.inl (oW hw 195 rfl)) (Or.inr (oW hw 187 rfl)) (by decide) (t := .int) (t' := .int) (by decide) (by decide)))
  have cf12 := cf5.other W8 (Or.inr (slot_ne (Or.inl (oW hw 192 rfl)) (Or.inr (oW hw 187 rfl)) (by decide) (t := .int) (t' := .int) (by decide) (by decide)))
  have cf13 := cf7.other W8 (Or.inl (Ne.symm ne_o0_o1))
  have cf14 := F1.other W8 (Or.inr (slot_ne (Or.inr (oW hw 185 rfl)) (Or.inr (oW hw 187 rfl)) (by decide) (t := (.object OwnK3)) (t' := .int) (by decide) (by decide)))
  have Z_8 : n0 ≤ h8.size := Nat.le_trans Z_1 (Keep.of_wr W8).1
  have K_8 : Keep h0 h8 [o0] := K_1.wr W8 (oI 0 rfl)
  have N8 := Fr.snoc X8 N1 g_o0
  refine oG T8 m 10 #[rv o0, rv o1, iv 0] [] (st8) ?_
  refine oG T8 m 11 #[rv o0, rv o1, iv 0] [(.ref o0)] (fun t k => XS.aloadN X8.here hx rfl (hb hB d23_10) rfl rfl k) ?_
  obtain ⟨T15, X15, e15, st15⟩ := initO X8 hx hZ hown (oW hw 188 rfl) (oW hw 8 rfl) (oW hw 9 rfl) e8 (g := (mkF m 11 #[rv o0, rv o1, iv 0] [(.ref o0)])) rfl (by rw [hml]; rfl) rfl (hb hB d23_11) (by decide) (W := 0) (by show 2 * 0 + _ ≤ _; exact Nat.le_of_eq rfl) (by decide)
  refine oG T15 m 14 #[rv o0, rv o1, iv 0] [] (st15) ?_
  refine oG T15 m 15 #[rv o0, rv o1, iv 0] [(.ref o0)] (fun t k => XS.aloadN X15.here hx rfl (hb hB d23_14) rfl rfl k) ?_
  refine oG T15 m 16 #[rv o0, rv o1, iv 0] [(.ref o0), (.ref o0)] (fun t k => XS.aloadN X15.here hx rfl (hb hB d23_15) rfl rfl k) ?_
  obtain ⟨T16, X16, e16, st16⟩ := getF X15 hx hZ hown (host := "") (Or.inl (oW hw 186 rfl)) Via.refl e15 F8 (g := (mkF m 16 #[rv o0, rv o1, iv 0] [(.ref o0), (.ref o0)])) rfl rfl (hb hB d23_16)
  refine oG T16 m 19 #[rv o0, rv o1, iv 0] [(.int 0), (.ref o0)] (st16) ?_
  obtain ⟨T17, h17, X17, e17, W17, st17⟩ := putF X16 hx hZ hown (host := "") (Or.inl (oW hw 189 rfl)) Via.refl e16 cf10 cf9 (Or.inl (oW hw 190 rfl)) (oW hw 178 rfl) (ty := .int) (by decide) rfl rfl (g := (mkF m 19 #[rv o0, rv o1, iv 0] [(.int 0), (.ref o0)])) rfl rfl (hb hB d23_19)
  have F17 := cf10.same W17
  have cf18 := cf9.wr W17
  have cf19 := cf11.other W17 (Or.inr (slot_ne (Or.inl (oW hw 195 rfl)) (Or.inl (oW hw 190 rfl)) (by decide) (t := .int) (t' := .int) (by decide) (by decide)))
  have cf20 := cf12.other W17 (Or.inr (slot_ne (Or.inl (oW hw 192 rfl)) (Or.inl (oW hw 190 rfl)) (by decide) (t := .int) (t' := .int) (by decide) (by decide)))
  have cf21 := cf13.other W17 (Or.inl (Ne.symm ne_o0_o1))
  have cf22 := cf14.other W17 (Or.inr (slot_ne (Or.inr (oW hw 185 rfl)) (Or.inl (oW hw 190 rfl)) (by decide) (t := (.object OwnK3)) (t' := .int) (by decide) (by decide)))
  have cf23 := F8.other W17 (Or.inr (slot_ne (Or.inr (oW hw 187 rfl)) (Or.inl (oW hw 190 rfl)) (by decide) (t := .int) (t' := .int) (by decide) (by decide)))
  have Z_17 : n0 ≤ h17.size := Nat.le_trans Z_8 (Keep.of_wr W17).1
  have K_17 : Keep h0 h17 [o0] := K_8.wr W17 (oI 0 rfl)
  have N17 := Fr.snoc X17 N8 g_o0
  refine oG T17 m 22 #[rv o0, rv o1, iv 0] [] (st17) ?_
  refine oG T17 m 23 #[rv o0, rv o1, iv 0] [(.ref o0)] (fun t k => XS.aloadN X17.here hx rfl (hb hB d23_22) rfl rfl k) ?_
  refine oG T17 m 24 #[rv o0, rv o1, iv 0] [(.int (-1)), (.ref o0)] (fun t k => XS.iconst X17.here hx rfl (hb hB d23_23) k) ?_
  obtain ⟨T24, h24, X24, e24, W24, st24⟩ := putF X17 hx hZ hown (host := "") (Or.inl (oW hw 191 rfl)) Via.refl e17 cf20 cf18 (Or.inl (oW hw 192 rfl)) (oW hw 178 rfl) (ty := .int) (by decide) rfl rfl (g := (mkF m 24 #[rv o0, rv o1, iv 0] [(.int (-1)), (.ref o0)])) rfl rfl (hb hB d23_24)
  have F24 := cf20.same W24
  have cf25 := cf18.wr W24
  have cf26 := cf19.other W24 (Or.inr (slot_ne (Or.inl (oW hw 195 rfl)) (Or.inl (oW hw 192 rfl)) (by decide) (t := .int) (t' := .int) (by decide) (by decide)))
  have cf27 := cf21.other W24 (Or.inl (Ne.symm ne_o0_o1))
  have cf28 := cf22.other W24 (Or.inr (slot_ne (Or.inr (oW hw 185 rfl)) (Or.inl (oW hw 192 rfl)) (by decide) (t := (.object OwnK3)) (t' := .int) (by decide) (by decide)))
  have cf29 := cf23.other W24 (Or.inr (slot_ne (Or.inr (oW hw 187 rfl)) (Or.inl (oW hw 192 rfl)) (by decide) (t := .int) (t' := .int) (by decide) (by decide)))
  have cf30 := F17.other W24 (Or.inr (slot_ne (Or.inl (oW hw 190 rfl)) (Or.inl (oW hw 192 rfl)) (by decide) (t := .int) (t' := .int) (by decide) (by decide)))
  have Z_24 : n0 ≤ h24.size := Nat.le_trans Z_17 (Keep.of_wr W24).1
  have K_24 : Keep h0 h24 [o0] := K_17.wr W24 (oI 0 rfl)
  have N24 := Fr.snoc X24 N17 g_o0
  refine oG T24 m 27 #[rv o0, rv o1, iv 0] [] (st24) ?_
  refine oG T24 m 28 #[rv o0, rv o1, iv 0] [(.ref o0)] (fun t k => XS.aloadN X24.here hx rfl (hb hB d23_27) rfl rfl k) ?_
  refine oG T24 m 29 #[rv o0, rv o1, iv 0] [(.ref o0), (.ref o0)] (fun t k => XS.aloadN X24.here hx rfl (hb hB d23_28) rfl rfl k) ?_
  obtain ⟨T31, X31, e31, st31⟩ := getF X24 hx hZ hown (host := "") (Or.inl (oW hw 184 rfl)) Via.refl e24 cf28 (g := (mkF m 29 #[rv o0, rv o1, iv 0] [(.ref o0), (.ref o0)])) rfl rfl (hb hB d23_29)
  refine oG T31 m 32 #[rv o0, rv o1, iv 0] [(.ref o1), (.ref o0)] (st31) ?_
  obtain ⟨T32, X32, e32, st32⟩ := getF X31 hx hZ hown (host := "") (Or.inl (oW hw 193 rfl)) (Via.of (oW hw 145 rfl)) e31 cf27 (g := (mkF m 32 #[rv o0, rv o1, iv 0] [(.ref o1), (.ref o0)])) rfl rfl (hb hB d23_32)
  refine oG T32 m 35 #[rv o0, rv o1, iv 0] [(.int 3), (.ref o0)] (st32) ?_
  obtain ⟨T33, h33, X33, e33, W33, st33⟩ := putF X32 hx hZ hown (host := "") (Or.inl (oW hw 194 rfl)) Via.refl e32 cf26 cf25 (Or.inl (oW hw 195 rfl)) (oW hw 178 rfl) (ty := .int) (by decide) rfl rfl (g := (mkF m 35 #[rv o0, rv o1, iv 0] [(.int 3), (.ref o0)])) rfl rfl (hb hB d23_35)
  have F33 := cf26.same W33
  have cf34 := cf25.wr W33
  have cf35 := cf27.other W33 (Or.inl (Ne.symm ne_o0_o1))
  have cf36 := cf28.other W33 (Or.inr (slot_ne (Or.inr (oW hw 185 rfl)) (Or.inl (oW hw 195 rfl)) (by decide) (t := (.object OwnK3)) (t' := .int) (by decide) (by decide)))
  have cf37 := cf29.other W33 (Or.inr (slot_ne (Or.inr (oW hw 187 rfl)) (Or.inl (oW hw 195 rfl)) (by decide) (t := .int) (t' := .int) (by decide) (by decide)))
  have cf38 := cf30.other W33 (Or.inr (slot_ne (Or.inl (oW hw 190 rfl)) (Or.inl (oW hw 195 rfl)) (by decide) (t := .int) (t' := .int) (by decide) (by decide)))
  have cf39 := F24.other W33 (Or.inr (slot_ne (Or.inl (oW hw 192 rfl)) (Or.inl (oW hw 195 rfl)) (by decide) (t := .int) (t' := .int) (by decide) (by decide)))
  have Z_33 : n0 ≤ h33.size := Nat.le_trans Z_24 (Keep.of_wr W33).1
  have K_33 : Keep h0 h33 [o0] := K_24.wr W33 (oI 0 rfl)
  have N33 := Fr.snoc X33 N24 g_o0
  refine oG T33 m 38 #[rv o0, rv o1, iv 0] [] (st33) ?_
  refine own_retV X33 hx hlk hret (hb hB d23_38) (by decide) (by decide) ?_
  rw [e33]
  exact ⟨rfl, N33, K_33, cf36, cf37, cf38, cf39, F33⟩
theorem qQ90 (m : MethodId) (q0 : Addr) (q1 : Int32) : entryFrame m #[(.ref q0), (.int q1)] 2 = mkF m 0 #[rv q0, iv q1] [] := by first | (simp [entryFrame, mkF, argsToLocals, Value.category]; done) | rfl
theorem sp82 (l : Launch) (Z : State) (a0 : Array Value) (hw : ∀ d ∈ tables_1, d.before a0 Z = true) (ws : List Jvm.Cond) (o0 o1 : Addr) (h0 : Heap) (n0 : Nat) (Z0 : n0 ≤ h0.size) (E_o0 : Exa Z h0 o0 OwnK3) (F_mC_o0 : Fld Z h0 o0 OwnK5 "modCount" "I" (.int 3)) (F_root_o0 : Fld Z h0 o0 OwnK3 "root" OwnK8 (.ref o1)) (F_size_o0 : Fld Z h0 o0 OwnK3 "size" "I" (.int 3)) (F_mC_o1 : Fld Z h0 o1 OwnK5 "modCount" "I" (.int 3)) :
    OwnC l Z (⟨OwnK3, "listIterator", "(I)Ljava/util/ListIterator;"⟩ : MethodName) jdk_130_method_24_code 2 (some (.object "java/util/ListIterator")) ws ({ frames := 2, cells := 1, slots := 5, locals := 27 } : Room) #[(.ref o0), (.int 0)] h0 (fun v h L => ∃ (w0 : Addr), v = some (.ref w0) ∧ Fr n0 L ∧ Keep h0 h [] ∧ (h0.size ≤ w0 ∧ n0 ≤ w0) ∧ Exa Z h w0 OwnK2 ∧ Fld Z h w0 OwnK2 "this$0" OwnK7 (.ref o0) ∧ Fld Z h w0 OwnK2 "val$index" "I" (.int 0) ∧ Fld Z h w0 OwnK2 "cursor" "I" (.int 0) ∧ Fld Z h w0 OwnK2 "lastRet" "I" (.int (-1)) ∧ Fld Z h w0 OwnK2 "expectedModCount" "I" (.int 3)) := by
  refine own_entry qQ5 (fun m => qQ90 m o0 (0 : Int32)) ?_
  intro p e s m below meth c T0 X0 hC e0
  obtain ⟨hx, hB, hml, hown, hnm, hret, hlk, hZ⟩ := hC
  have N0 := Fr.nil n0
  have K0 := Keep.refl h0 []
  refine oG T0 m 1 #[rv o0, iv 0] [(.ref o0)] (fun t k => XS.aloadN X0.here hx rfl (hb hB d20_0) rfl rfl k) ?_
  obtain ⟨_, T1, L1, X1, ⟨rfl, e1, rfl⟩, st1⟩ := own_private X0 hx hZ (y := (⟨OwnK3, "checkForComodification", "()V"⟩ : MethodName)) hown (oW hw 167 rfl) (oW hw 168 rfl) (oW hw 169 rfl) (oW hw 125 rfl) (oW hw 126 rfl) (oW hw 171 rfl) (by decide) (sp83 l Z a0 hw [] o0 o1 h0 n0 Z0 F_mC_o0 F_root_o0 F_mC_o1) e0 E_o0 0 (argsL := []) (rest := []) (Ls := #[rv o0, iv 0]) (by rw [hml]; rfl) (lenOf qQ155 rfl) rfl rfl (Nat.le_of_eq rfl) (hb hB d20_1) (by decide) (by decide) (by decide) (by decide)
  replace X1 := own_nil X1
  refine oG T1 m 4 #[rv o0, iv 0] [] (st1) ?_
  refine oG T1 m 5 #[rv o0, iv 0] [(.ref o0)] (fun t k => XS.aloadN X1.here hx rfl (hb hB d20_4) rfl rfl k) ?_
  refine oG T1 m 6 #[rv o0, iv 0] [(.int 0), (.ref o0)] (fun t k => XS.iloadN X1.here hx rfl (hb hB d20_5) rfl k) ?_
  obtain ⟨_, T2, L2, X2, ⟨rfl, e2, rfl⟩, st2⟩ := own_private X1 hx hZ (y := (⟨OwnK3, "rangeCheckForAdd", "(I)V"⟩ : MethodName)) hown (oW hw 172 rfl) (oW hw 173 rfl) (oW hw 174 rfl) (oW hw 125 rfl) (oW hw 126 rfl) (oW hw 176 rfl) (by decide) (sp84 l Z a0 hw [] o0 h0 n0 Z0 F_size_o0) e1 E_o0 0 (argsL := [(.int 0)]) (rest := []) (Ls := #[rv o0, iv 0]) (by rw [hml]; rfl) (lenOf qQ64 rfl) rfl rfl (Nat.le_of_eq rfl) (hb hB d20_6) (by decide) (by decide) (by decide) (by decide)
  replace X2 := own_nil X2
  refine oG T2 m 9 #[rv o0, iv 0] [] (st2) ?_
  obtain ⟨T3, h3, X3, e3, E3, A3, D3, -, st3⟩ := newO X2 hx hZ hown (oW hw 177 rfl) (oW hw 178 rfl) (oW hw 179 rfl) e2 (g := (mkF m 9 #[rv o0, iv 0] [])) rfl (hb hB d20_9) (by decide) (by decide)
  obtain ⟨b3, g3⟩ : ∃ z, z = h0.size := ⟨_, rfl⟩
  rw [← g3] at A3 D3 st3
  have ne_o0_b3 : o0 ≠ b3 := Nat.ne_of_lt (Nat.lt_of_lt_of_eq E_o0.lt g3.symm)
  have ne_o1_b3 : o1 ≠ b3 := Nat.ne_of_lt (Nat.lt_of_lt_of_eq F_mC_o1.lt g3.symm)
  have g_b3 : n0 ≤ b3 := Nat.le_trans Z0 (Nat.le_of_eq g3.symm)
  have sz_b3 : h0.size ≤ b3 := Nat.le_trans K0.1 (Nat.le_of_eq g3.symm)
  have cf4 := E_o0.ext E3
  have cf5 := F_mC_o0.ext E3
  have cf6 := F_root_o0.ext E3
  have cf7 := F_size_o0.ext E3
  have cf8 := F_mC_o1.ext E3
  have Z_3 : n0 ≤ h3.size := Nat.le_trans Z0 E3.1
  have K_3 : Keep h0 h3 [] := K0.ext E3
  have F_this_0_3 : Fld Z h3 b3 OwnK2 "this$0" OwnK7 .null := D3 (Or.inr (oW hw 185 rfl)) (ty := (.object OwnK3)) (by decide)
  have F_val_index_3 : Fld Z h3 b3 OwnK2 "val$index" "I" (.int 0) := D3 (Or.inr (oW hw 187 rfl)) (ty := .int) (by decide)
  have F_cursor_3 : Fld Z h3 b3 OwnK2 "cursor" "I" (.int 0) := D3 (Or.inl (oW hw 190 rfl)) (ty := .int) (by decide)
  have F_lastRet_3 : Fld Z h3 b3 OwnK2 "lastRet" "I" (.int 0) := D3 (Or.inl (oW hw 192 rfl)) (ty := .int) (by decide)
  have F_xM_3 : Fld Z h3 b3 OwnK2 "expectedModCount" "I" (.int 0) := D3 (Or.inl (oW hw 195 rfl)) (ty := .int) (by decide)
  refine oG T3 m 12 #[rv o0, iv 0] [(.ref b3)] (st3) ?_
  refine oG T3 m 13 #[rv o0, iv 0] [(.ref b3), (.ref b3)] (fun t k => XS.dup X3.here hx rfl (hb hB d20_12) rfl rfl k) ?_
  refine oG T3 m 14 #[rv o0, iv 0] [(.ref o0), (.ref b3), (.ref b3)] (fun t k => XS.aloadN X3.here hx rfl (hb hB d20_13) rfl rfl k) ?_
  refine oG T3 m 15 #[rv o0, iv 0] [(.int 0), (.ref o0), (.ref b3), (.ref b3)] (fun t k => XS.iloadN X3.here hx rfl (hb hB d20_14) rfl k) ?_
  obtain ⟨_, T9, L9, X9, ⟨rfl, Nq9, Kq9, fq0_9, fq1_9, fq2_9, fq3_9, fq4_9⟩, st9⟩ := own_init X3 hx hZ (y := (⟨OwnK2, "<init>", "(Ljava/util/ArrayList$SubList;I)V"⟩ : MethodName)) rfl hown (oW hw 180 rfl) (oW hw 181 rfl) (oW hw 179 rfl) (oW hw 183 rfl) (by decide) (sp85 l Z a0 hw [] b3 o0 h3 n0 Z_3 A3 F_cursor_3 F_xM_3 F_lastRet_3 F_this_0_3 F_val_index_3 cf5 (Ne.symm ne_o0_b3) g_b3) e3 (a := b3) 1 (argsL := [(.ref o0), (.int 0)]) (rest := [(.ref b3)]) (Ls := #[rv o0, iv 0]) (by rw [hml]; rfl) (lenOf qQ26 rfl) rfl rfl (Nat.le_of_eq rfl) (hb hB d20_15) (by decide) (by decide) (by decide) (by decide)
  have N9 := Fr.app N0 Nq9
  have cf10 := cf4.keep Kq9
  have cf11 := cf5.keep Kq9 (ninS ne_o0_b3 nin0)
  have cf12 := cf6.keep Kq9 (ninS ne_o0_b3 nin0)
  have cf13 := cf7.keep Kq9 (ninS ne_o0_b3 nin0)
  have cf14 := cf8.keep Kq9 (ninS ne_o1_b3 nin0)
  have cf15 := A3.keep Kq9
  have Z_9 : n0 ≤ T9.heap.size := Nat.le_trans Z_3 Kq9.1
  have K_9 : Keep h0 T9.heap [] := K_3.trans Kq9 (allS (Or.inr sz_b3) all0)
  refine oG T9 m 18 #[rv o0, iv 0] [(.ref b3)] (st9) ?_
  refine own_retA X9 hx hlk hret rfl rfl rfl (hb hB d20_18) (by decide) (by decide) ?_
  exact ⟨b3, rfl, N9, K_9, ⟨sz_b3, g_b3⟩, cf15, fq0_9, fq1_9, fq2_9, fq3_9, fq4_9⟩
theorem qQ115 (m : MethodId) (q0 : Addr) : entryFrame m #[(.ref q0)] 1 = mkF m 0 #[rv q0] [] := by first | (simp [entryFrame, mkF, argsToLocals, Value.category]; done) | rfl
theorem sp81 (l : Launch) (Z : State) (a0 : Array Value) (hw : ∀ d ∈ tables_1, d.before a0 Z = true) (ws : List Jvm.Cond) (o0 o1 : Addr) (h0 : Heap) (n0 : Nat) (Z0 : n0 ≤ h0.size) (E_o0 : Exa Z h0 o0 OwnK3) (F_mC_o0 : Fld Z h0 o0 OwnK5 "modCount" "I" (.int 3)) (F_root_o0 : Fld Z h0 o0 OwnK3 "root" OwnK8 (.ref o1)) (F_size_o0 : Fld Z h0 o0 OwnK3 "size" "I" (.int 3)) (F_mC_o1 : Fld Z h0 o1 OwnK5 "modCount" "I" (.int 3)) :
    OwnC l Z (⟨OwnK5, "listIterator", "()Ljava/util/ListIterator;"⟩ : MethodName) jdk_39_method_12_code 1 (some (.object "java/util/ListIterator")) ws ({ frames := 3, cells := 1, slots := 5, locals := 40 } : Room) #[(.ref o0)] h0 (fun v h L => ∃ (w0 : Addr), v = some (.ref w0) ∧ Fr n0 L ∧ Keep h0 h [] ∧ (h0.size ≤ w0 ∧ n0 ≤ w0) ∧ Exa Z h w0 OwnK2 ∧ Fld Z h w0 OwnK2 "this$0" OwnK7 (.ref o0) ∧ Fld Z h w0 OwnK2 "val$index" "I" (.int 0) ∧ Fld Z h w0 OwnK2 "cursor" "I" (.int 0) ∧ Fld Z h w0 OwnK2 "lastRet" "I" (.int (-1)) ∧ Fld Z h w0 OwnK2 "expectedModCount" "I" (.int 3)) := by
  refine own_entry qQ8 (fun m => qQ115 m o0) ?_
  intro p e s m below meth c T0 X0 hC e0
  obtain ⟨hx, hB, hml, hown, hnm, hret, hlk, hZ⟩ := hC
  have N0 := Fr.nil n0
  have K0 := Keep.refl h0 []
  refine oG T0 m 1 #[rv o0] [(.ref o0)] (fun t k => XS.aloadN X0.here hx rfl (hb hB d19_0) rfl rfl k) ?_
  refine oG T0 m 2 #[rv o0] [(.int 0), (.ref o0)] (fun t k => XS.iconst X0.here hx rfl (hb hB d19_1) k) ?_
  obtain ⟨_, T1, L1, X1, ⟨w0_1, rfl, Nq1, Kq1, syw0_1, fq0_1, fq1_1, fq2_1, fq3_1, fq4_1, fq5_1⟩, st1⟩ := own_virtual X0 hx hZ (y := (⟨OwnK5, "listIterator", "(I)Ljava/util/ListIterator;"⟩ : MethodName)) (z := (⟨OwnK3, "listIterator", "(I)Ljava/util/ListIterator;"⟩ : MethodName)) hown (oW hw 161 rfl) (oW hw 162 rfl) (own_nf (args := #[]) (mvT hZ (oW hw 159 rfl)) rfl) (oW hw 164 rfl) (oW hw 165 rfl) (oW hw 126 rfl) (oW hw 166 rfl) (by decide) (sp82 l Z a0 hw [] o0 o1 h0 n0 Z0 E_o0 F_mC_o0 F_root_o0 F_size_o0 F_mC_o1) e0 E_o0 0 (argsL := [(.int 0)]) (rest := []) (Ls := #[rv o0]) (by rw [hml]; rfl) (lenOf qQ30 rfl) rfl rfl (Nat.le_of_eq rfl) (hb hB d19_2) (by decide) (by decide) (by decide) (by decide)
  have g_w0_1 : n0 ≤ w0_1 := syw0_1.2
  have sz_w0_1 : h0.size ≤ w0_1 := Nat.le_trans K0.1 syw0_1.1
  have ne_o0_w0_1 : o0 ≠ w0_1 := Nat.ne_of_lt (Nat.lt_of_lt_of_le E_o0.lt syw0_1.1)
  have ne_o1_w0_1 : o1 ≠ w0_1 := Nat.ne_of_lt (Nat.lt_of_lt_of_le F_mC_o1.lt syw0_1.1)
  have N1 := Fr.app N0 Nq1
  have cf2 := E_o0.keep Kq1
  have cf3 := F_mC_o0.keep Kq1 nin0
  have cf4 := F_root_o0.keep Kq1 nin0
  have cf5 := F_size_o0.keep Kq1 nin0
  have cf6 := F_mC_o1.keep Kq1 nin0
  have Z_1 : n0 ≤ T1.heap.size := Nat.le_trans Z0 Kq1.1
  have K_1 : Keep h0 T1.heap [] := K0.trans Kq1 all0
  refine oG T1 m 5 #[rv o0] [(.ref w0_1)] (st1) ?_
  refine own_retA X1 hx hlk hret rfl rfl rfl (hb hB d19_5) (by decide) (by decide) ?_
  exact ⟨w0_1, rfl, N1, K_1, ⟨sz_w0_1, g_w0_1⟩, fq0_1, fq1_1, fq2_1, fq3_1, fq4_1, fq5_1⟩
theorem qQ144 (m : MethodId) (q0 : Addr) : entryFrame m #[(.ref q0)] 1 = mkF m 0 #[rv q0] [] := by first | (simp [entryFrame, mkF, argsToLocals, Value.category]; done) | rfl
theorem sp80 (l : Launch) (Z : State) (a0 : Array Value) (hw : ∀ d ∈ tables_1, d.before a0 Z = true) (ws : List Jvm.Cond) (o0 o1 : Addr) (h0 : Heap) (n0 : Nat) (Z0 : n0 ≤ h0.size) (E_o0 : Exa Z h0 o0 OwnK3) (F_mC_o0 : Fld Z h0 o0 OwnK5 "modCount" "I" (.int 3)) (F_root_o0 : Fld Z h0 o0 OwnK3 "root" OwnK8 (.ref o1)) (F_size_o0 : Fld Z h0 o0 OwnK3 "size" "I" (.int 3)) (F_mC_o1 : Fld Z h0 o1 OwnK5 "modCount" "I" (.int 3)) :
    OwnC l Z (⟨OwnK3, "iterator", "()Ljava/util/Iterator;"⟩ : MethodName) jdk_130_method_23_code 1 (some (.object "java/util/Iterator")) ws ({ frames := 4, cells := 1, slots := 5, locals := 52 } : Room) #[(.ref o0)] h0 (fun v h L => ∃ (w0 : Addr), v = some (.ref w0) ∧ Fr n0 L ∧ Keep h0 h [] ∧ (h0.size ≤ w0 ∧ n0 ≤ w0) ∧ Exa Z h w0 OwnK2 ∧ Fld Z h w0 OwnK2 "this$0" OwnK7 (.ref o0) ∧ Fld Z h w0 OwnK2 "val$index" "I" (.int 0) ∧ Fld Z h w0 OwnK2 "cursor" "I" (.int 0) ∧ Fld Z h w0 OwnK2 "lastRet" "I" (.int (-1)) ∧ Fld Z h w0 OwnK2 "expectedModCount" "I" (.int 3)) := by
  refine own_entry qQ11 (fun m => qQ144 m o0) ?_
  intro p e s m below meth c T0 X0 hC e0
  obtain ⟨hx, hB, hml, hown, hnm, hret, hlk, hZ⟩ := hC
  have N0 := Fr.nil n0
  have K0 := Keep.refl h0 []
  refine oG T0 m 1 #[rv o0] [(.ref o0)] (fun t k => XS.aloadN X0.here hx rfl (hb hB d18_0) rfl rfl k) ?_
  obtain ⟨_, T1, L1, X1, ⟨w0_1, rfl, Nq1, Kq1, syw0_1, fq0_1, fq1_1, fq2_1, fq3_1, fq4_1, fq5_1⟩, st1⟩ := own_virtualUp X0 hx hZ (x := (⟨OwnK3, "listIterator", "()Ljava/util/ListIterator;"⟩ : MethodName)) (y := (⟨OwnK5, "listIterator", "()Ljava/util/ListIterator;"⟩ : MethodName)) hown (oW hw 155 rfl) (oW hw 156 rfl) (oW hw 157 rfl) (by decide) (oW hw 159 rfl) (oW hw 158 rfl) (oW hw 37 rfl) (oW hw 160 rfl) (sp81 l Z a0 hw [] o0 o1 h0 n0 Z0 E_o0 F_mC_o0 F_root_o0 F_size_o0 F_mC_o1) e0 E_o0 0 (argsL := []) (rest := []) (Ls := #[rv o0]) (by rw [hml]; rfl) (lenOf qQ31 rfl) rfl rfl (Nat.le_of_eq rfl) (hb hB d18_1) (by decide) (by decide) (by decide) (by decide)
  have g_w0_1 : n0 ≤ w0_1 := syw0_1.2
  have sz_w0_1 : h0.size ≤ w0_1 := Nat.le_trans K0.1 syw0_1.1
  have ne_o0_w0_1 : o0 ≠ w0_1 := Nat.ne_of_lt (Nat.lt_of_lt_of_le E_o0.lt syw0_1.1)
  have ne_o1_w0_1 : o1 ≠ w0_1 := Nat.ne_of_lt (Nat.lt_of_lt_of_le F_mC_o1.lt syw0_1.1)
  have N1 := Fr.app N0 Nq1
  have cf2 := E_o0.keep Kq1
  have cf3 := F_mC_o0.keep Kq1 nin0
  have cf4 := F_root_o0.keep Kq1 nin0
  have cf5 := F_size_o0.keep Kq1 nin0
  have cf6 := F_mC_o1.keep Kq1 nin0
  have Z_1 : n0 ≤ T1.heap.size := Nat.le_trans Z0 Kq1.1
  have K_1 : Keep h0 T1.heap [] := K0.trans Kq1 all0
  refine oG T1 m 4 #[rv o0] [(.ref w0_1)] (st1) ?_
  refine own_retA X1 hx hlk hret rfl rfl rfl (hb hB d18_4) (by decide) (by decide) ?_
  exact ⟨w0_1, rfl, N1, K_1, ⟨sz_w0_1, g_w0_1⟩, fq0_1, fq1_1, fq2_1, fq3_1, fq4_1, fq5_1⟩
theorem qQ65 (m : MethodId) (q0 : Addr) : entryFrame m #[(.ref q0)] 1 = mkF m 0 #[rv q0] [] := by first | (simp [entryFrame, mkF, argsToLocals, Value.category]; done) | rfl
theorem sp86 (l : Launch) (Z : State) (a0 : Array Value) (hw : ∀ d ∈ tables_1, d.before a0 Z = true) (ws : List Jvm.Cond) (o0 o1 : Addr) (h0 : Heap) (n0 : Nat) (Z0 : n0 ≤ h0.size) (F_cursor_o0 : Fld Z h0 o0 OwnK2 "cursor" "I" (.int 0)) (F_this_0_o0 : Fld Z h0 o0 OwnK2 "this$0" OwnK7 (.ref o1)) (F_size_o1 : Fld Z h0 o1 OwnK3 "size" "I" (.int 3)) :
    OwnC l Z (⟨OwnK2, "hasNext", "()Z"⟩ : MethodName) jdk_136_method_2_code 1 (some .boolean) ws ({ frames := 0, cells := 0, slots := 0, locals := 0 } : Room) #[(.ref o0)] h0 (fun v h L => v = some (.int 1) ∧ h = h0 ∧ L = []) := by
  refine own_entry qQ23 (fun m => qQ65 m o0) ?_
  intro p e s m below meth c T0 X0 hC e0
  obtain ⟨hx, hB, hml, hown, hnm, hret, hlk, hZ⟩ := hC
  have N0 := Fr.nil n0
  have K0 := Keep.refl h0 []
  refine oG T0 m 1 #[rv o0] [(.ref o0)] (fun t k => XS.aloadN X0.here hx rfl (hb hB d24_0) rfl rfl k) ?_
  obtain ⟨T1, X1, e1, st1⟩ := getF X0 hx hZ hown (host := "") (Or.inl (oW hw 189 rfl)) Via.refl e0 F_cursor_o0 (g := (mkF m 1 #[rv o0] [(.ref o0)])) rfl rfl (hb hB d24_1)
  refine oG T1 m 4 #[rv o0] [(.int 0)] (st1) ?_
  refine oG T1 m 5 #[rv o0] [(.ref o0), (.int 0)] (fun t k => XS.aloadN X1.here hx rfl (hb hB d24_4) rfl rfl k) ?_
  obtain ⟨T2, X2, e2, st2⟩ := getF X1 hx hZ hown (host := "") (Or.inl (oW hw 184 rfl)) Via.refl e1 F_this_0_o0 (g := (mkF m 5 #[rv o0] [(.ref o0), (.int 0)])) rfl rfl (hb hB d24_5)
  refine oG T2 m 8 #[rv o0] [(.ref o1), (.int 0)] (st2) ?_
  refine oG T2 m 11 #[rv o0] [(.int 3), (.int 0)] (own_getfRef X2 hx hZ hown (oW hw 205 rfl) e2 F_size_o1 (hb hB d24_8)) ?_
  refine oG T2 m 14 #[rv o0] [] (fun t k => XS.icmpNo X2.here hx rfl (hb hB d24_11) rfl (feq (by decide)).1 k) ?_
  refine oG T2 m 15 #[rv o0] [(.int 1)] (fun t k => XS.iconst X2.here hx rfl (hb hB d24_14) k) ?_
  refine oG T2 m 19 #[rv o0] [(.int 1)] (fun t k => XS.goto X2.here hx rfl (pc0 := 15) (pc' := 19) rfl (hb hB d24_15) (by decide) (by decide) k) ?_
  refine own_retZ X2 hx hlk hret (by decide) (hb hB d24_19) (by decide) (by decide) ?_
  exact ⟨rfl, e2, rfl⟩
theorem qQ72 (m : MethodId) (q0 : Addr) : entryFrame m #[(.ref q0)] 1 = mkF m 0 #[rv q0] [] := by first | (simp [entryFrame, mkF, argsToLocals, Value.category]; done) | rfl
theorem sp88 (l : Launch) (Z : State) (a0 : Array Value) (hw : ∀ d ∈ tables_1, d.before a0 Z = true) (ws : List Jvm.Cond) (o0 o1 o2 : Addr) (h0 : Heap) (n0 : Nat) (Z0 : n0 ≤ h0.size) (F_xM_o0 : Fld Z h0 o0 OwnK2 "expectedModCount" "I" (.int 3)) (F_this_0_o0 : Fld Z h0 o0 OwnK2 "this$0" OwnK7 (.ref o1)) (F_root_o1 : Fld Z h0 o1 OwnK3 "root" OwnK8 (.ref o2)) (F_mC_o2 : Fld Z h0 o2 OwnK5 "modCount" "I" (.int 3)) :
    OwnC l Z (⟨OwnK2, "checkForComodification", "()V"⟩ : MethodName) jdk_136_method_12_code 1 none ws ({ frames := 0, cells := 0, slots := 0, locals := 0 } : Room) #[(.ref o0)] h0 (fun v h L => v = none ∧ h = h0 ∧ L = []) := by
  refine own_entry qQ12 (fun m => qQ72 m o0) ?_
  intro p e s m below meth c T0 X0 hC e0
  obtain ⟨hx, hB, hml, hown, hnm, hret, hlk, hZ⟩ := hC
  have N0 := Fr.nil n0
  have K0 := Keep.refl h0 []
  refine oG T0 m 1 #[rv o0] [(.ref o0)] (fun t k => XS.aloadN X0.here hx rfl (hb hB d26_0) rfl rfl k) ?_
  obtain ⟨T1, X1, e1, st1⟩ := getF X0 hx hZ hown (host := "") (Or.inl (oW hw 184 rfl)) Via.refl e0 F_this_0_o0 (g := (mkF m 1 #[rv o0] [(.ref o0)])) rfl rfl (hb hB d26_1)
  refine oG T1 m 4 #[rv o0] [(.ref o1)] (st1) ?_
  refine oG T1 m 7 #[rv o0] [(.ref o2)] (own_getfRef X1 hx hZ hown (oW hw 219 rfl) e1 F_root_o1 (hb hB d26_4)) ?_
  obtain ⟨T3, X3, e3, st3⟩ := getF X1 hx hZ hown (host := "") (Or.inl (oW hw 220 rfl)) (Via.of (oW hw 73 rfl)) e1 F_mC_o2 (g := (mkF m 7 #[rv o0] [(.ref o2)])) rfl rfl (hb hB d26_7)
  refine oG T3 m 10 #[rv o0] [(.int 3)] (st3) ?_
  refine oG T3 m 11 #[rv o0] [(.ref o0), (.int 3)] (fun t k => XS.aloadN X3.here hx rfl (hb hB d26_10) rfl rfl k) ?_
  obtain ⟨T4, X4, e4, st4⟩ := getF X3 hx hZ hown (host := "") (Or.inl (oW hw 194 rfl)) Via.refl e3 F_xM_o0 (g := (mkF m 11 #[rv o0] [(.ref o0), (.int 3)])) rfl rfl (hb hB d26_11)
  refine oG T4 m 14 #[rv o0] [(.int 3), (.int 3)] (st4) ?_
  refine oG T4 m 25 #[rv o0] [] (fun t k => XS.icmpYes X4.here hx rfl (pc0 := 14) (pc' := 25) rfl (hb hB d26_14) rfl (teq (by decide)).1 (by decide) (by decide) k) ?_
  refine own_retV X4 hx hlk hret (hb hB d26_25) (by decide) (by decide) ?_
  exact ⟨rfl, e4, rfl⟩
theorem qQ126 (m : MethodId) (q0 : Addr) : entryFrame m #[(.ref q0)] 3 = mkF m 0 #[rv q0, .unset, .unset] [] := by first | (simp [entryFrame, mkF, argsToLocals, Value.category]; done) | rfl
theorem sp87 (l : Launch) (Z : State) (a0 : Array Value) (hw : ∀ d ∈ tables_1, d.before a0 Z = true) (ws : List Jvm.Cond) (o0 o1 o2 o3 o4 o5 o6 : Addr) (c0 : ClassId) (h0 : Heap) (n0 : Nat) (Z0 : n0 ≤ h0.size) (E_o0 : Exa Z h0 o0 OwnK2) (F_cursor_o0 : Fld Z h0 o0 OwnK2 "cursor" "I" (.int 0)) (F_xM_o0 : Fld Z h0 o0 OwnK2 "expectedModCount" "I" (.int 3)) (F_lastRet_o0 : Fld Z h0 o0 OwnK2 "lastRet" "I" (.int (-1))) (F_this_0_o0 : Fld Z h0 o0 OwnK2 "this$0" OwnK7 (.ref o1)) (F_val_index_o0 : Fld Z h0 o0 OwnK2 "val$index" "I" (.int 0)) (F_offset_o1 : Fld Z h0 o1 OwnK3 "offset" "I" (.int 0)) (F_root_o1 : Fld Z h0 o1 OwnK3 "root" OwnK8 (.ref o2)) (F_size_o1 : Fld Z h0 o1 OwnK3 "size" "I" (.int 3)) (F_elementData_o2 : Fld Z h0 o2 OwnK4 "elementData" OwnK6 (.ref o3)) (F_mC_o2 : Fld Z h0 o2 OwnK5 "modCount" "I" (.int 3)) (V_o3 : Arv Z h0 o3 c0 (.object "java/lang/Object") (10 : Int32) [(.ref o4), (.ref o5), (.ref o6), .null, .null, .null, .null, .null, .null, .null] .null) (O_o3 : Ovr Z c0 "java/lang/Object") (ne_o0_o1 : o0 ≠ o1) (ne_o0_o2 : o0 ≠ o2) (ne_o0_o3 : o0 ≠ o3) (ne_o0_o4 : o0 ≠ o4) (ne_o0_o5 : o0 ≠ o5) (ne_o0_o6 : o0 ≠ o6) (g_o0 : n0 ≤ o0) :
    OwnC l Z (⟨OwnK2, "next", "()Ljava/lang/Object;"⟩ : MethodName) jdk_136_method_3_code 3 (some (.object "java/lang/Object")) ws ({ frames := 1, cells := 0, slots := 0, locals := 12 } : Room) #[(.ref o0)] h0 (fun v h L => v = some (.ref o4) ∧ Fr n0 L ∧ Keep h0 h [o0] ∧ Fld Z h o0 OwnK2 "expectedModCount" "I" (.int 3) ∧ Fld Z h o0 OwnK2 "this$0" OwnK7 (.ref o1) ∧ Fld Z h o0 OwnK2 "val$index" "I" (.int 0) ∧ Fld Z h o0 OwnK2 "cursor" "I" (.int 1) ∧ Fld Z h o0 OwnK2 "lastRet" "I" (.int 0)) := by
  refine own_entry qQ13 (fun m => qQ126 m o0) ?_
  intro p e s m below meth c T0 X0 hC e0
  obtain ⟨hx, hB, hml, hown, hnm, hret, hlk, hZ⟩ := hC
  have N0 := Fr.nil n0
  have K0 := Keep.refl h0 [o0]
  refine oG T0 m 1 #[rv o0, .unset, .unset] [(.ref o0)] (fun t k => XS.aloadN X0.here hx rfl (hb hB d25_0) rfl rfl k) ?_
  obtain ⟨_, T1, L1, X1, ⟨rfl, e1, rfl⟩, st1⟩ := own_virtual X0 hx hZ (y := (⟨OwnK2, "checkForComodification", "()V"⟩ : MethodName)) (z := (⟨OwnK2, "checkForComodification", "()V"⟩ : MethodName)) hown (oW hw 214 rfl) (oW hw 215 rfl) (notFace_of_selects (args := #[]) (mvT hZ (oW hw 217 rfl))) (oW hw 217 rfl) (oW hw 216 rfl) (oW hw 179 rfl) (oW hw 218 rfl) (by decide) (sp88 l Z a0 hw [] o0 o1 o2 h0 n0 Z0 F_xM_o0 F_this_0_o0 F_root_o1 F_mC_o2) e0 E_o0 0 (argsL := []) (rest := []) (Ls := #[rv o0, .unset, .unset]) (by rw [hml]; rfl) (lenOf qQ155 rfl) rfl rfl (Nat.le_of_eq rfl) (hb hB d25_1) (by decide) (by decide) (by decide) (by decide)
  replace X1 := own_nil X1
  refine oG T1 m 4 #[rv o0, .unset, .unset] [] (st1) ?_
  refine oG T1 m 5 #[rv o0, .unset, .unset] [(.ref o0)] (fun t k => XS.aloadN X1.here hx rfl (hb hB d25_4) rfl rfl k) ?_
  obtain ⟨T2, X2, e2, st2⟩ := getF X1 hx hZ hown (host := "") (Or.inl (oW hw 189 rfl)) Via.refl e1 F_cursor_o0 (g := (mkF m 5 #[rv o0, .unset, .unset] [(.ref o0)])) rfl rfl (hb hB d25_5)
  refine oG T2 m 8 #[rv o0, .unset, .unset] [(.int 0)] (st2) ?_
  refine oG T2 m 9 #[rv o0, iv 0, .unset] [] (fun t k => XS.istoreN X2.here hx rfl (hb hB d25_8) rfl rfl k) ?_
  refine oG T2 m 10 #[rv o0, iv 0, .unset] [(.int 0)] (fun t k => XS.iloadN X2.here hx rfl (hb hB d25_9) rfl k) ?_
  refine oG T2 m 11 #[rv o0, iv 0, .unset] [(.ref o0), (.int 0)] (fun t k => XS.aloadN X2.here hx rfl (hb hB d25_10) rfl rfl k) ?_
  obtain ⟨T3, X3, e3, st3⟩ := getF X2 hx hZ hown (host := "") (Or.inl (oW hw 184 rfl)) Via.refl e2 F_this_0_o0 (g := (mkF m 11 #[rv o0, iv 0, .unset] [(.ref o0), (.int 0)])) rfl rfl (hb hB d25_11)
  refine oG T3 m 14 #[rv o0, iv 0, .unset] [(.ref o1), (.int 0)] (st3) ?_
  refine oG T3 m 17 #[rv o0, iv 0, .unset] [(.int 3), (.int 0)] (own_getfRef X3 hx hZ hown (oW hw 205 rfl) e3 F_size_o1 (hb hB d25_14)) ?_
  refine oG T3 m 28 #[rv o0, iv 0, .unset] [] (fun t k => XS.icmpYes X3.here hx rfl (pc0 := 17) (pc' := 28) rfl (hb hB d25_17) rfl (tlt (by decide)).1 (by decide) (by decide) k) ?_
  refine oG T3 m 29 #[rv o0, iv 0, .unset] [(.ref o0)] (fun t k => XS.aloadN X3.here hx rfl (hb hB d25_28) rfl rfl k) ?_
  obtain ⟨T5, X5, e5, st5⟩ := getF X3 hx hZ hown (host := "") (Or.inl (oW hw 184 rfl)) Via.refl e3 F_this_0_o0 (g := (mkF m 29 #[rv o0, iv 0, .unset] [(.ref o0)])) rfl rfl (hb hB d25_29)
  refine oG T5 m 32 #[rv o0, iv 0, .unset] [(.ref o1)] (st5) ?_
  refine oG T5 m 35 #[rv o0, iv 0, .unset] [(.ref o2)] (own_getfRef X5 hx hZ hown (oW hw 219 rfl) e5 F_root_o1 (hb hB d25_32)) ?_
  obtain ⟨T7, X7, e7, st7⟩ := getF X5 hx hZ hown (host := "") (Or.inl (oW hw 221 rfl)) Via.refl e5 F_elementData_o2 (g := (mkF m 35 #[rv o0, iv 0, .unset] [(.ref o2)])) rfl rfl (hb hB d25_35)
  refine oG T7 m 38 #[rv o0, iv 0, .unset] [(.ref o3)] (st7) ?_
  refine oG T7 m 39 #[rv o0, iv 0, rv o3] [] (fun t k => XS.astoreN X7.here hx rfl (hb hB d25_38) rfl rfl rfl k) ?_
  refine oG T7 m 40 #[rv o0, iv 0, rv o3] [(.ref o0)] (fun t k => XS.aloadN X7.here hx rfl (hb hB d25_39) rfl rfl k) ?_
  obtain ⟨T8, X8, e8, st8⟩ := getF X7 hx hZ hown (host := "") (Or.inl (oW hw 184 rfl)) Via.refl e7 F_this_0_o0 (g := (mkF m 40 #[rv o0, iv 0, rv o3] [(.ref o0)])) rfl rfl (hb hB d25_40)
  refine oG T8 m 43 #[rv o0, iv 0, rv o3] [(.ref o1)] (st8) ?_
  refine oG T8 m 46 #[rv o0, iv 0, rv o3] [(.int 0)] (own_getfRef X8 hx hZ hown (oW hw 222 rfl) e8 F_offset_o1 (hb hB d25_43)) ?_
  refine oG T8 m 47 #[rv o0, iv 0, rv o3] [(.int 0), (.int 0)] (fun t k => XS.iloadN X8.here hx rfl (hb hB d25_46) rfl k) ?_
  refine oG T8 m 48 #[rv o0, iv 0, rv o3] [(.int ((0 : Int32) + (0 : Int32)))] (fun t k => XS.iadd X8.here hx rfl (hb hB d25_47) rfl k) ?_
  rw [show ((0 : Int32) + (0 : Int32)) = (0 : Int32) from by decide]
  refine oG T8 m 49 #[rv o0, iv 0, rv o3] [(.ref o3), (.int 0)] (fun t k => XS.aloadN X8.here hx rfl (hb hB d25_48) rfl rfl k) ?_
  refine oG T8 m 50 #[rv o0, iv 0, rv o3] [(.int 10), (.int 0)] (own_alen X8 hx hZ e8 V_o3 (hb hB d25_49)) ?_
  refine oG T8 m 61 #[rv o0, iv 0, rv o3] [] (fun t k => XS.icmpYes X8.here hx rfl (pc0 := 50) (pc' := 61) rfl (hb hB d25_50) rfl (tlt (by decide)).1 (by decide) (by decide) k) ?_
  refine oG T8 m 62 #[rv o0, iv 0, rv o3] [(.ref o0)] (fun t k => XS.aloadN X8.here hx rfl (hb hB d25_61) rfl rfl k) ?_
  refine oG T8 m 63 #[rv o0, iv 0, rv o3] [(.int 0), (.ref o0)] (fun t k => XS.iloadN X8.here hx rfl (hb hB d25_62) rfl k) ?_
  refine oG T8 m 64 #[rv o0, iv 0, rv o3] [(.int 1), (.int 0), (.ref o0)] (fun t k => XS.iconst X8.here hx rfl (hb hB d25_63) k) ?_
  refine oG T8 m 65 #[rv o0, iv 0, rv o3] [(.int ((0 : Int32) + (1 : Int32))), (.ref o0)] (fun t k => XS.iadd X8.here hx rfl (hb hB d25_64) rfl k) ?_
  rw [show ((0 : Int32) + (1 : Int32)) = (1 : Int32) from by decide]
  obtain ⟨T11, h11, X11, e11, W11, st11⟩ := putF X8 hx hZ hown (host := "") (Or.inl (oW hw 189 rfl)) Via.refl e8 F_cursor_o0 E_o0 (Or.inl (oW hw 190 rfl)) (oW hw 178 rfl) (ty := .int) (by decide) rfl rfl (g := (mkF m 65 #[rv o0, iv 0, rv o3] [(.int 1), (.ref o0)])) rfl rfl (hb hB d25_65)
  have F11 := F_cursor_o0.same W11
  have cf12 := E_o0.wr W11
  have cf13 := F_xM_o0.other W11 (Or.inr (slot_ne (Or.inl (oW hw 195 rfl)) (Or.inl (oW hw 190 rfl)) (by decide) (t := .int) (t' := .int) (by decide) (by decide)))
  have cf14 := F_lastRet_o0.other W11 (Or.inr (slot_ne (Or.inl (oW hw 192 rfl)) (Or.inl (oW hw 190 rfl)) (by decide) (t := .int) (t' := .int) (by decide) (by decide)))
  have cf15 := F_this_0_o0.other W11 (Or.inr (slot_ne (Or.inr (oW hw 185 rfl)) (Or.inl (oW hw 190 rfl)) (by decide) (t := (.object OwnK3)) (t' := .int) (by decide) (by decide)))
  have cf16 := F_val_index_o0.other W11 (Or.inr (slot_ne (Or.inr (oW hw 187 rfl)) (Or.inl (oW hw 190 rfl)) (by decide) (t := .int) (t' := .int) (by decide) (by decide)))
  have cf17 := F_offset_o1.other W11 (Or.inl (Ne.symm ne_o0_o1))
  have cf18 := F_root_o1.other W11 (Or.inl (Ne.symm ne_o0_o1))
  have cf19 := F_size_o1.other W11 (Or.inl (Ne.symm ne_o0_o1))
  have cf20 := F_elementData_o2.other W11 (Or.inl (Ne.symm ne_o0_o2))
  have cf21 := F_mC_o2.other W11 (Or.inl (Ne.symm ne_o0_o2))
  have cf22 := V_o3.other W11 (Ne.symm ne_o0_o3)
  have Z_11 : n0 ≤ h11.size := Nat.le_trans Z0 (Keep.of_wr W11).1
  have K_11 : Keep h0 h11 [o0] := K0.wr W11 (oI 0 rfl)
  have N11 := Fr.snoc X11 N0 g_o0
  refine oG T11 m 68 #[rv o0, iv 0, rv o3] [] (st11) ?_
  refine oG T11 m 69 #[rv o0, iv 0, rv o3] [(.ref o3)] (fun t k => XS.aloadN X11.here hx rfl (hb hB d25_68) rfl rfl k) ?_
  refine oG T11 m 70 #[rv o0, iv 0, rv o3] [(.ref o0), (.ref o3)] (fun t k => XS.aloadN X11.here hx rfl (hb hB d25_69) rfl rfl k) ?_
  obtain ⟨T23, X23, e23, st23⟩ := getF X11 hx hZ hown (host := "") (Or.inl (oW hw 184 rfl)) Via.refl e11 cf15 (g := (mkF m 70 #[rv o0, iv 0, rv o3] [(.ref o0), (.ref o3)])) rfl rfl (hb hB d25_70)
  refine oG T23 m 73 #[rv o0, iv 0, rv o3] [(.ref o1), (.ref o3)] (st23) ?_
  refine oG T23 m 76 #[rv o0, iv 0, rv o3] [(.int 0), (.ref o3)] (own_getfRef X23 hx hZ hown (oW hw 222 rfl) e23 cf17 (hb hB d25_73)) ?_
  refine oG T23 m 77 #[rv o0, iv 0, rv o3] [(.ref o0), (.int 0), (.ref o3)] (fun t k => XS.aloadN X23.here hx rfl (hb hB d25_76) rfl rfl k) ?_
  refine oG T23 m 78 #[rv o0, iv 0, rv o3] [(.int 0), (.ref o0), (.int 0), (.ref o3)] (fun t k => XS.iloadN X23.here hx rfl (hb hB d25_77) rfl k) ?_
  refine oG T23 m 79 #[rv o0, iv 0, rv o3] [(.int 0), (.ref o0), (.int 0), (.int 0), (.ref o3)] (fun t k => XS.dupX1 X23.here hx rfl (hb hB d25_78) rfl rfl rfl k) ?_
  obtain ⟨T25, h25, X25, e25, W25, st25⟩ := putF X23 hx hZ hown (host := "") (Or.inl (oW hw 191 rfl)) Via.refl e23 cf14 cf12 (Or.inl (oW hw 192 rfl)) (oW hw 178 rfl) (ty := .int) (by decide) rfl rfl (g := (mkF m 79 #[rv o0, iv 0, rv o3] [(.int 0), (.ref o0), (.int 0), (.int 0), (.ref o3)])) rfl rfl (hb hB d25_79)
  have F25 := cf14.same W25
  have cf26 := cf12.wr W25
  have cf27 := cf13.other W25 (Or.inr (slot_ne (Or.inl (oW hw 195 rfl)) (Or.inl (oW hw 192 rfl)) (by decide) (t := .int) (t' := .int) (by decide) (by decide)))
  have cf28 := cf15.other W25 (Or.inr (slot_ne (Or.inr (oW hw 185 rfl)) (Or.inl (oW hw 192 rfl)) (by decide) (t := (.object OwnK3)) (t' := .int) (by decide) (by decide)))
  have cf29 := cf16.other W25 (Or.inr (slot_ne (Or.inr (oW hw 187 rfl)) (Or.inl (oW hw 192 rfl)) (by decide) (t := .int) (t' := .int) (by decide) (by decide)))
  have cf30 := cf17.other W25 (Or.inl (Ne.symm ne_o0_o1))
  have cf31 := cf18.other W25 (Or.inl (Ne.symm ne_o0_o1))
  have cf32 := cf19.other W25 (Or.inl (Ne.symm ne_o0_o1))
  have cf33 := cf20.other W25 (Or.inl (Ne.symm ne_o0_o2))
  have cf34 := cf21.other W25 (Or.inl (Ne.symm ne_o0_o2))
  have cf35 := cf22.other W25 (Ne.symm ne_o0_o3)
  have cf36 := F11.other W25 (Or.inr (slot_ne (Or.inl (oW hw 190 rfl)) (Or.inl (oW hw 192 rfl)) (by decide) (t := .int) (t' := .int) (by decide) (by decide)))
  have Z_25 : n0 ≤ h25.size := Nat.le_trans Z_11 (Keep.of_wr W25).1
  have K_25 : Keep h0 h25 [o0] := K_11.wr W25 (oI 0 rfl)
  have N25 := Fr.snoc X25 N11 g_o0
  refine oG T25 m 82 #[rv o0, iv 0, rv o3] [(.int 0), (.int 0), (.ref o3)] (st25) ?_
  refine oG T25 m 83 #[rv o0, iv 0, rv o3] [(.int ((0 : Int32) + (0 : Int32))), (.ref o3)] (fun t k => XS.iadd X25.here hx rfl (hb hB d25_82) rfl k) ?_
  rw [show ((0 : Int32) + (0 : Int32)) = (0 : Int32) from by decide]
  refine oG T25 m 84 #[rv o0, iv 0, rv o3] [(.ref o4)] (own_aaload X25 hx hZ e25 cf35 rfl (j := (0 : Int32)) ⟨by decide, by decide⟩ rfl (hb hB d25_83)) ?_
  refine own_retA X25 hx hlk hret rfl rfl rfl (hb hB d25_84) (by decide) (by decide) ?_
  rw [e25]
  exact ⟨rfl, N25, K_25, cf27, cf28, cf29, cf36, F25⟩
theorem qQ116 (m : MethodId) (q0 : Addr) (q1 : Addr) : entryFrame m #[(.ref q0), (.ref q1)] 4 = mkF m 0 #[rv q0, rv q1, .unset, .unset] [] := by first | (simp [entryFrame, mkF, argsToLocals, Value.category]; done) | rfl
theorem sp75 (l : Launch) (Z : State) (a0 : Array Value) (hw : ∀ d ∈ tables_1, d.before a0 Z = true) (ws : List Jvm.Cond) (o0 o1 o2 o3 o4 o5 : Addr) (u0 : Int64) (c0 : ClassId) (h0 : Heap) (n0 : Nat) (Z0 : n0 ≤ h0.size) (F_ahead_o0 : Fld Z h0 o0 OwnK1 "ahead" "I" (.int 0)) (F_changes_o0 : Fld Z h0 o0 OwnK1 "changes" "Ljava/util/List;" (.ref o2)) (E_o1 : Exa Z h0 o1 OwnK0) (F_id_o1 : Fld Z h0 o1 OwnK0 "id" "J" (.long u0)) (E_o2 : Exa Z h0 o2 OwnK4) (F_elementData_o2 : Fld Z h0 o2 OwnK4 "elementData" OwnK6 (.ref o3)) (F_mC_o2 : Fld Z h0 o2 OwnK5 "modCount" "I" (.int 3)) (F_size_o2 : Fld Z h0 o2 OwnK4 "size" "I" (.int 3)) (V_o3 : Arv Z h0 o3 c0 (.object "java/lang/Object") (10 : Int32) [(.ref o1), (.ref o4), (.ref o5), .null, .null, .null, .null, .null, .null, .null] .null) (O_o3 : Ovr Z c0 "java/lang/Object") (E_o4 : Exa Z h0 o4 OwnK0) (E_o5 : Exa Z h0 o5 OwnK0) (ne_o0_o1 : o0 ≠ o1) (ne_o0_o2 : o0 ≠ o2) (ne_o0_o3 : o0 ≠ o3) (ne_o0_o4 : o0 ≠ o4) (ne_o0_o5 : o0 ≠ o5) :
    OwnC l Z (⟨OwnK1, "isOfBacklog", "(Lcom/example/newt/newt/core/delivery/Change;)Z"⟩ : MethodName) prog_11_method_4_code 4 (some .boolean) ws ({ frames := 5, cells := 2, slots := 10, locals := 66 } : Room) #[(.ref o0), (.ref o1)] h0 (fun v h L => v = some (.int 1) ∧ Fr n0 L ∧ Keep h0 h []) := by
  refine own_entry qQ2 (fun m => qQ116 m o0 o1) ?_
  intro p e s m below meth c T0 X0 hC e0
  obtain ⟨hx, hB, hml, hown, hnm, hret, hlk, hZ⟩ := hC
  have N0 := Fr.nil n0
  have K0 := Keep.refl h0 []
  refine oG T0 m 1 #[rv o0, rv o1, .unset, .unset] [(.ref o0)] (fun t k => XS.aloadN X0.here hx rfl (hb hB d13_0) rfl rfl k) ?_
  obtain ⟨T1, X1, e1, st1⟩ := getF X0 hx hZ hown (host := "") (Or.inl (oW hw 58 rfl)) Via.refl e0 F_changes_o0 (g := (mkF m 1 #[rv o0, rv o1, .unset, .unset] [(.ref o0)])) rfl rfl (hb hB d13_1)
  refine oG T1 m 4 #[rv o0, rv o1, .unset, .unset] [(.ref o2)] (st1) ?_
  refine oG T1 m 5 #[rv o0, rv o1, .unset, .unset] [(.ref o0), (.ref o2)] (fun t k => XS.aloadN X1.here hx rfl (hb hB d13_4) rfl rfl k) ?_
  obtain ⟨T2, X2, e2, st2⟩ := getF X1 hx hZ hown (host := "") (Or.inl (oW hw 60 rfl)) Via.refl e1 F_ahead_o0 (g := (mkF m 5 #[rv o0, rv o1, .unset, .unset] [(.ref o0), (.ref o2)])) rfl rfl (hb hB d13_5)
  refine oG T2 m 8 #[rv o0, rv o1, .unset, .unset] [(.int 0), (.ref o2)] (st2) ?_
  refine oG T2 m 9 #[rv o0, rv o1, .unset, .unset] [(.ref o0), (.int 0), (.ref o2)] (fun t k => XS.aloadN X2.here hx rfl (hb hB d13_8) rfl rfl k) ?_
  obtain ⟨T3, X3, e3, st3⟩ := getF X2 hx hZ hown (host := "") (Or.inl (oW hw 58 rfl)) Via.refl e2 F_changes_o0 (g := (mkF m 9 #[rv o0, rv o1, .unset, .unset] [(.ref o0), (.int 0), (.ref o2)])) rfl rfl (hb hB d13_9)
  refine oG T3 m 12 #[rv o0, rv o1, .unset, .unset] [(.ref o2), (.int 0), (.ref o2)] (st3) ?_
  obtain ⟨_, T4, L4, X4, ⟨rfl, e4, rfl⟩, st4⟩ := own_interface X3 hx hZ (xi := (⟨"java/util/List", "size", "()I"⟩ : MethodName)) (y := (⟨OwnK4, "size", "()I"⟩ : MethodName)) hown (oW hw 103 rfl) (oW hw 104 rfl) (mvT hZ (oW hw 105 rfl)) (oW hw 106 rfl) (oW hw 107 rfl) (oW hw 108 rfl) (oW hw 109 rfl) (oW hw 110 rfl) (oW hw 29 rfl) (oW hw 111 rfl) (by decide) (sp76 l Z a0 hw [] o2 h0 n0 Z0 F_size_o2) e3 E_o2 2 (argsL := []) (rest := [(.int 0), (.ref o2)]) (Ls := #[rv o0, rv o1, .unset, .unset]) (by rw [hml]; rfl) (lenOf qQ153 rfl) rfl rfl (Nat.le_of_eq rfl) (hb hB d13_12) (by decide) (by decide) (by decide) (by decide)
  replace X4 := own_nil X4
  refine oG T4 m 17 #[rv o0, rv o1, .unset, .unset] [(.int 3), (.int 0), (.ref o2)] (st4) ?_
  obtain ⟨_, T5, L5, X5, ⟨w0_5, rfl, Nq5, Kq5, syw0_5, fq0_5, fq1_5, fq2_5, fq3_5, fq4_5⟩, st5⟩ := own_interface X4 hx hZ (xi := (⟨"java/util/List", "subList", "(II)Ljava/util/List;"⟩ : MethodName)) (y := (⟨OwnK4, "subList", "(II)Ljava/util/List;"⟩ : MethodName)) hown (oW hw 112 rfl) (oW hw 113 rfl) (mvT hZ (oW hw 114 rfl)) (oW hw 115 rfl) (oW hw 116 rfl) (oW hw 117 rfl) (oW hw 118 rfl) (oW hw 110 rfl) (oW hw 29 rfl) (oW hw 119 rfl) (by decide) (sp77 l Z a0 hw [] o2 h0 n0 Z0 F_mC_o2 F_size_o2) e4 E_o2 0 (argsL := [(.int 0), (.int 3)]) (rest := []) (Ls := #[rv o0, rv o1, .unset, .unset]) (by rw [hml]; rfl) (lenOf qQ39 rfl) rfl rfl (Nat.le_of_eq rfl) (hb hB d13_17) (by decide) (by decide) (by decide) (by decide)
  have g_w0_5 : n0 ≤ w0_5 := syw0_5.2
  have sz_w0_5 : h0.size ≤ w0_5 := Nat.le_trans K0.1 syw0_5.1
  have ne_o0_w0_5 : o0 ≠ w0_5 := Nat.ne_of_lt (Nat.lt_of_lt_of_le F_ahead_o0.lt syw0_5.1)
  have ne_o1_w0_5 : o1 ≠ w0_5 := Nat.ne_of_lt (Nat.lt_of_lt_of_le E_o1.lt syw0_5.1)
  have ne_o2_w0_5 : o2 ≠ w0_5 := Nat.ne_of_lt (Nat.lt_of_lt_of_le E_o2.lt syw0_5.1)
  have ne_o3_w0_5 : o3 ≠ w0_5 := Nat.ne_of_lt (Nat.lt_of_lt_of_le V_o3.lt syw0_5.1)
  have ne_o4_w0_5 : o4 ≠ w0_5 := Nat.ne_of_lt (Nat.lt_of_lt_of_le E_o4.lt syw0_5.1)
  have ne_o5_w0_5 : o5 ≠ w0_5 := Nat.ne_of_lt (Nat.lt_of_lt_of_le E_o5.lt syw0_5.1)
  have N5 := Fr.app N0 Nq5
  have cf6 := F_ahead_o0.keep Kq5 nin0
  have cf7 := F_changes_o0.keep Kq5 nin0
  have cf8 := E_o1.keep Kq5
  have cf9 := F_id_o1.keep Kq5 nin0
  have cf10 := E_o2.keep Kq5
  have cf11 := F_elementData_o2.keep Kq5 nin0
  have cf12 := F_mC_o2.keep Kq5 nin0
  have cf13 := F_size_o2.keep Kq5 nin0
  have cf14 := V_o3.keep Kq5 nin0
  have cf15 := E_o4.keep Kq5
  have cf16 := E_o5.keep Kq5
  have Z_5 : n0 ≤ T5.heap.size := Nat.le_trans Z0 Kq5.1
  have K_5 : Keep h0 T5.heap [] := K0.trans Kq5 all0
  refine oG T5 m 22 #[rv o0, rv o1, .unset, .unset] [(.ref w0_5)] (st5) ?_
  obtain ⟨_, T17, L17, X17, ⟨w0_17, rfl, Nq17, Kq17, syw0_17, fq0_17, fq1_17, fq2_17, fq3_17, fq4_17, fq5_17⟩, st17⟩ := own_interface X5 hx hZ (xi := (⟨"java/util/List", "iterator", "()Ljava/util/Iterator;"⟩ : MethodName)) (y := (⟨OwnK3, "iterator", "()Ljava/util/Iterator;"⟩ : MethodName)) hown (oW hw 146 rfl) (oW hw 147 rfl) (mvT hZ (oW hw 148 rfl)) (oW hw 149 rfl) (oW hw 150 rfl) (oW hw 151 rfl) (oW hw 152 rfl) (oW hw 153 rfl) (oW hw 126 rfl) (oW hw 154 rfl) (by decide) (sp80 l Z a0 hw [] w0_5 o2 T5.heap n0 Z_5 fq0_5 fq4_5 fq1_5 fq3_5 cf12) rfl fq0_5 0 (argsL := []) (rest := []) (Ls := #[rv o0, rv o1, .unset, .unset]) (by rw [hml]; rfl) (lenOf qQ35 rfl) rfl rfl (Nat.le_of_eq rfl) (hb hB d13_22) (by decide) (by decide) (by decide) (by decide)
  have g_w0_17 : n0 ≤ w0_17 := syw0_17.2
  have sz_w0_17 : h0.size ≤ w0_17 := Nat.le_trans K_5.1 syw0_17.1
  have ne_o0_w0_17 : o0 ≠ w0_17 := Nat.ne_of_lt (Nat.lt_of_lt_of_le cf6.lt syw0_17.1)
  have ne_o1_w0_17 : o1 ≠ w0_17 := Nat.ne_of_lt (Nat.lt_of_lt_of_le cf8.lt syw0_17.1)
  have ne_o2_w0_17 : o2 ≠ w0_17 := Nat.ne_of_lt (Nat.lt_of_lt_of_le cf10.lt syw0_17.1)
  have ne_o3_w0_17 : o3 ≠ w0_17 := Nat.ne_of_lt (Nat.lt_of_lt_of_le cf14.lt syw0_17.1)
  have ne_o4_w0_17 : o4 ≠ w0_17 := Nat.ne_of_lt (Nat.lt_of_lt_of_le cf15.lt syw0_17.1)
  have ne_o5_w0_17 : o5 ≠ w0_17 := Nat.ne_of_lt (Nat.lt_of_lt_of_le cf16.lt syw0_17.1)
  have ne_w0_5_w0_17 : w0_5 ≠ w0_17 := Nat.ne_of_lt (Nat.lt_of_lt_of_le fq0_5.lt syw0_17.1)
  have N17 := Fr.app N5 Nq17
  have cf18 := cf6.keep Kq17 nin0
  have cf19 := cf7.keep Kq17 nin0
  have cf20 := cf8.keep Kq17
  have cf21 := cf9.keep Kq17 nin0
  have cf22 := cf10.keep Kq17
  have cf23 := cf11.keep Kq17 nin0
  have cf24 := cf12.keep Kq17 nin0
  have cf25 := cf13.keep Kq17 nin0
  have cf26 := cf14.keep Kq17 nin0
  have cf27 := cf15.keep Kq17
  have cf28 := cf16.keep Kq17
  have cf29 := fq0_5.keep Kq17
  have cf30 := fq1_5.keep Kq17 nin0
  have cf31 := fq2_5.keep Kq17 nin0
  have cf32 := fq3_5.keep Kq17 nin0
  have cf33 := fq4_5.keep Kq17 nin0
  have Z_17 : n0 ≤ T17.heap.size := Nat.le_trans Z_5 Kq17.1
  have K_17 : Keep h0 T17.heap [] := K_5.trans Kq17 all0
  refine oG T17 m 27 #[rv o0, rv o1, .unset, .unset] [(.ref w0_17)] (st17) ?_
  refine oG T17 m 28 #[rv o0, rv o1, rv w0_17, .unset] [] (fun t k => XS.astoreN X17.here hx rfl (hb hB d13_27) rfl rfl rfl k) ?_
  refine oG T17 m 29 #[rv o0, rv o1, rv w0_17, .unset] [(.ref w0_17)] (fun t k => XS.aloadN X17.here hx rfl (hb hB d13_28) rfl rfl k) ?_
  obtain ⟨_, T34, L34, X34, ⟨rfl, e34, rfl⟩, st34⟩ := own_interface X17 hx hZ (xi := (⟨"java/util/Iterator", "hasNext", "()Z"⟩ : MethodName)) (y := (⟨OwnK2, "hasNext", "()Z"⟩ : MethodName)) hown (oW hw 196 rfl) (oW hw 197 rfl) (mvT hZ (oW hw 198 rfl)) (oW hw 199 rfl) (oW hw 200 rfl) (oW hw 201 rfl) (oW hw 202 rfl) (oW hw 203 rfl) (oW hw 179 rfl) (oW hw 204 rfl) (by decide) (sp86 l Z a0 hw [] w0_17 w0_5 T17.heap n0 Z_17 fq3_17 fq1_17 cf32) rfl fq0_17 0 (argsL := []) (rest := []) (Ls := #[rv o0, rv o1, rv w0_17, .unset]) (by rw [hml]; rfl) (lenOf qQ158 rfl) rfl rfl (Nat.le_of_eq rfl) (hb hB d13_29) (by decide) (by decide) (by decide) (by decide)
  replace X34 := own_nil X34
  refine oG T34 m 34 #[rv o0, rv o1, rv w0_17, .unset] [(.int 1)] (st34) ?_
  refine oG T34 m 37 #[rv o0, rv o1, rv w0_17, .unset] [] (fun t k => XS.ifNo X34.here hx rfl (hb hB d13_34) rfl ((if0 _ _).trans (feq (by decide)).1) k) ?_
  refine oG T34 m 38 #[rv o0, rv o1, rv w0_17, .unset] [(.ref w0_17)] (fun t k => XS.aloadN X34.here hx rfl (hb hB d13_37) rfl rfl k) ?_
  obtain ⟨_, T35, L35, X35, ⟨rfl, Nq35, Kq35, fq0_35, fq1_35, fq2_35, fq3_35, fq4_35⟩, st35⟩ := own_interface X34 hx hZ (xi := (⟨"java/util/Iterator", "next", "()Ljava/lang/Object;"⟩ : MethodName)) (y := (⟨OwnK2, "next", "()Ljava/lang/Object;"⟩ : MethodName)) hown (oW hw 206 rfl) (oW hw 207 rfl) (mvT hZ (oW hw 208 rfl)) (oW hw 209 rfl) (oW hw 210 rfl) (oW hw 211 rfl) (oW hw 212 rfl) (oW hw 203 rfl) (oW hw 179 rfl) (oW hw 213 rfl) (by decide) (sp87 l Z a0 hw [] w0_17 w0_5 o2 o3 o1 o4 o5 c0 T17.heap n0 Z_17 fq0_17 fq3_17 fq5_17 fq4_17 fq1_17 fq2_17 cf31 cf30 cf32 cf23 cf24 cf26 O_o3 (Ne.symm ne_w0_5_w0_17) (Ne.symm ne_o2_w0_17) (Ne.symm ne_o3_w0_17) (Ne.symm ne_o1_w0_17) (Ne.symm ne_o4_w0_17) (Ne.symm ne_o5_w0_17) g_w0_17) e34 fq0_17 0 (argsL := []) (rest := []) (Ls := #[rv o0, rv o1, rv w0_17, .unset]) (by rw [hml]; rfl) (lenOf qQ38 rfl) rfl rfl (Nat.le_of_eq rfl) (hb hB d13_38) (by decide) (by decide) (by decide) (by decide)
  have N35 := Fr.app N17 Nq35
  have cf36 := cf18.keep Kq35 (ninS ne_o0_w0_17 nin0)
  have cf37 := cf19.keep Kq35 (ninS ne_o0_w0_17 nin0)
  have cf38 := cf20.keep Kq35
  have cf39 := cf21.keep Kq35 (ninS ne_o1_w0_17 nin0)
  have cf40 := cf22.keep Kq35
  have cf41 := cf23.keep Kq35 (ninS ne_o2_w0_17 nin0)
  have cf42 := cf24.keep Kq35 (ninS ne_o2_w0_17 nin0)
  have cf43 := cf25.keep Kq35 (ninS ne_o2_w0_17 nin0)
  have cf44 := cf26.keep Kq35 (ninS ne_o3_w0_17 nin0)
  have cf45 := cf27.keep Kq35
  have cf46 := cf28.keep Kq35
  have cf47 := cf29.keep Kq35
  have cf48 := cf30.keep Kq35 (ninS ne_w0_5_w0_17 nin0)
  have cf49 := cf31.keep Kq35 (ninS ne_w0_5_w0_17 nin0)
  have cf50 := cf32.keep Kq35 (ninS ne_w0_5_w0_17 nin0)
  have cf51 := cf33.keep Kq35 (ninS ne_w0_5_w0_17 nin0)
  have cf52 := fq0_17.keep Kq35
  have Z_35 : n0 ≤ T35.heap.size := Nat.le_trans Z_17 Kq35.1
  have K_35 : Keep h0 T35.heap [] := K_17.trans Kq35 (allS (Or.inr sz_w0_17) all0)
  refine oG T35 m 43 #[rv o0, rv o1, rv w0_17, .unset] [(.ref o1)] (st35) ?_
  obtain ⟨T53, X53, e53, st53⟩ := castY X35 hx hZ hown (oW hw 223 rfl) rfl (Ins.self cf38) (g := (mkF m 43 #[rv o0, rv o1, rv w0_17, .unset] [(.ref o1)])) rfl rfl (hb hB d13_43)
  refine oG T53 m 46 #[rv o0, rv o1, rv w0_17, .unset] [(.ref o1)] (st53) ?_
  refine oG T53 m 47 #[rv o0, rv o1, rv w0_17, rv o1] [] (fun t k => XS.astoreN X53.here hx rfl (hb hB d13_46) rfl rfl rfl k) ?_
  refine oG T53 m 48 #[rv o0, rv o1, rv w0_17, rv o1] [(.ref o1)] (fun t k => XS.aloadN X53.here hx rfl (hb hB d13_47) rfl rfl k) ?_
  obtain ⟨_, T54, L54, X54, ⟨rfl, e54, rfl⟩, st54⟩ := own_virtual X53 hx hZ (y := (⟨OwnK0, "getId", "()J"⟩ : MethodName)) (z := (⟨OwnK0, "getId", "()J"⟩ : MethodName)) hown (oW hw 225 rfl) (oW hw 226 rfl) (notFace_of_selects (args := #[]) (mvT hZ (oW hw 228 rfl))) (oW hw 228 rfl) (oW hw 227 rfl) (oW hw 3 rfl) (oW hw 229 rfl) (by decide) (sp27 l Z a0 hw [] o1 u0 T35.heap n0 Z_35 cf39) e53 cf38 0 (argsL := []) (rest := []) (Ls := #[rv o0, rv o1, rv w0_17, rv o1]) (by rw [hml]; rfl) (lenOf qQ159 rfl) rfl rfl (Nat.le_of_eq rfl) (hb hB d13_48) (by decide) (by decide) (by decide) (by decide)
  replace X54 := own_nil X54
  refine oG T54 m 51 #[rv o0, rv o1, rv w0_17, rv o1] [(.long u0)] (st54) ?_
  refine oG T54 m 52 #[rv o0, rv o1, rv w0_17, rv o1] [(.ref o1), (.long u0)] (fun t k => XS.aloadN X54.here hx rfl (hb hB d13_51) rfl rfl k) ?_
  obtain ⟨_, T55, L55, X55, ⟨rfl, e55, rfl⟩, st55⟩ := own_virtual X54 hx hZ (y := (⟨OwnK0, "getId", "()J"⟩ : MethodName)) (z := (⟨OwnK0, "getId", "()J"⟩ : MethodName)) hown (oW hw 225 rfl) (oW hw 226 rfl) (notFace_of_selects (args := #[]) (mvT hZ (oW hw 228 rfl))) (oW hw 228 rfl) (oW hw 227 rfl) (oW hw 3 rfl) (oW hw 229 rfl) (by decide) (sp27 l Z a0 hw [] o1 u0 T35.heap n0 Z_35 cf39) e54 cf38 2 (argsL := []) (rest := [(.long u0)]) (Ls := #[rv o0, rv o1, rv w0_17, rv o1]) (by rw [hml]; rfl) (lenOf qQ159 rfl) rfl rfl (Nat.le_of_eq rfl) (hb hB d13_52) (by decide) (by decide) (by decide) (by decide)
  replace X55 := own_nil X55
  refine oG T55 m 55 #[rv o0, rv o1, rv w0_17, rv o1] [(.long u0), (.long u0)] (st55) ?_
  refine oG T55 m 56 #[rv o0, rv o1, rv w0_17, rv o1] [(.int (lcmpW u0 u0))] (fun t k => XS.lcmp X55.here hx rfl (hb hB d13_55) rfl k) ?_
  refine oG T55 m 59 #[rv o0, rv o1, rv w0_17, rv o1] [] (fun t k => XS.ifNo X55.here hx rfl (hb hB d13_56) rfl ((if0 _ _).trans (teq ((lw_eq u0 u0).mpr rfl)).2) k) ?_
  refine oG T55 m 60 #[rv o0, rv o1, rv w0_17, rv o1] [(.int 1)] (fun t k => XS.iconst X55.here hx rfl (hb hB d13_59) k) ?_
  refine own_retZ X55 hx hlk hret (by decide) (hb hB d13_60) (by decide) (by decide) ?_
  rw [e55]
  exact ⟨rfl, N35, K_35⟩
theorem qQ117 (m : MethodId) (q0 : Int32) (q1 : Int32) (q2 : Int32) : entryFrame m #[(.int q0), (.int q1), (.int q2)] 3 = mkF m 0 #[iv q0, iv q1, iv q2] [] := by first | (simp [entryFrame, mkF, argsToLocals, Value.category]; done) | rfl
theorem sp91 (l : Launch) (Z : State) (a0 : Array Value) (hw : ∀ d ∈ tables_1, d.before a0 Z = true) (ws : List Jvm.Cond) (h0 : Heap) (n0 : Nat) (Z0 : n0 ≤ h0.size) :
    OwnC l Z (⟨OwnK5, "subListRangeCheck", "(III)V"⟩ : MethodName) jdk_39_method_15_code 3 none ws ({ frames := 0, cells := 0, slots := 0, locals := 0 } : Room) #[(.int 1), (.int 3), (.int 3)] h0 (fun v h L => v = none ∧ h = h0 ∧ L = []) := by
  refine own_entry qQ19 (fun m => qQ117 m (1 : Int32) (3 : Int32) (3 : Int32)) ?_
  intro p e s m below meth c T0 X0 hC e0
  obtain ⟨hx, hB, hml, hown, hnm, hret, hlk, hZ⟩ := hC
  have N0 := Fr.nil n0
  have K0 := Keep.refl h0 []
  refine oG T0 m 1 #[iv 1, iv 3, iv 3] [(.int 1)] (fun t k => XS.iloadN X0.here hx rfl (hb hB d16_0) rfl k) ?_
  refine oG T0 m 31 #[iv 1, iv 3, iv 3] [] (fun t k => XS.ifYes X0.here hx rfl (pc0 := 1) (pc' := 31) rfl (hb hB d16_1) rfl ((if0 _ _).trans (flt (by decide)).2.1) (by decide) (by decide) k) ?_
  refine oG T0 m 32 #[iv 1, iv 3, iv 3] [(.int 3)] (fun t k => XS.iloadN X0.here hx rfl (hb hB d16_31) rfl k) ?_
  refine oG T0 m 33 #[iv 1, iv 3, iv 3] [(.int 3), (.int 3)] (fun t k => XS.iloadN X0.here hx rfl (hb hB d16_32) rfl k) ?_
  refine oG T0 m 63 #[iv 1, iv 3, iv 3] [] (fun t k => XS.icmpYes X0.here hx rfl (pc0 := 33) (pc' := 63) rfl (hb hB d16_33) rfl (flt (by decide)).2.2.2 (by decide) (by decide) k) ?_
  refine oG T0 m 64 #[iv 1, iv 3, iv 3] [(.int 1)] (fun t k => XS.iloadN X0.here hx rfl (hb hB d16_63) rfl k) ?_
  refine oG T0 m 65 #[iv 1, iv 3, iv 3] [(.int 3), (.int 1)] (fun t k => XS.iloadN X0.here hx rfl (hb hB d16_64) rfl k) ?_
  refine oG T0 m 109 #[iv 1, iv 3, iv 3] [] (fun t k => XS.icmpYes X0.here hx rfl (pc0 := 65) (pc' := 109) rfl (hb hB d16_65) rfl (flt (by decide)).2.2.2 (by decide) (by decide) k) ?_
  refine own_retV X0 hx hlk hret (hb hB d16_109) (by decide) (by decide) ?_
  exact ⟨rfl, e0, rfl⟩
theorem qQ84 (m : MethodId) (q0 : Addr) (q1 : Addr) (q2 : Int32) (q3 : Int32) : entryFrame m #[(.ref q0), (.ref q1), (.int q2), (.int q3)] 4 = mkF m 0 #[rv q0, rv q1, iv q2, iv q3] [] := by first | (simp [entryFrame, mkF, argsToLocals, Value.category]; done) | rfl
theorem sp92 (l : Launch) (Z : State) (a0 : Array Value) (hw : ∀ d ∈ tables_1, d.before a0 Z = true) (ws : List Jvm.Cond) (o0 o1 : Addr) (h0 : Heap) (n0 : Nat) (Z0 : n0 ≤ h0.size) (E_o0 : Exa Z h0 o0 OwnK3) (F_mC_o0 : Fld Z h0 o0 OwnK5 "modCount" "I" (.int 0)) (F_offset_o0 : Fld Z h0 o0 OwnK3 "offset" "I" (.int 0)) (F_parent_o0 : Fld Z h0 o0 OwnK3 "parent" OwnK7 .null) (F_root_o0 : Fld Z h0 o0 OwnK3 "root" OwnK8 .null) (F_size_o0 : Fld Z h0 o0 OwnK3 "size" "I" (.int 0)) (F_mC_o1 : Fld Z h0 o1 OwnK5 "modCount" "I" (.int 3)) (ne_o0_o1 : o0 ≠ o1) (g_o0 : n0 ≤ o0) :
    OwnC l Z (⟨OwnK3, "<init>", "(Ljava/util/ArrayList;II)V"⟩ : MethodName) jdk_130_method_1_code 4 none ws ({ frames := 3, cells := 0, slots := 0, locals := 36 } : Room) #[(.ref o0), (.ref o1), (.int 1), (.int 3)] h0 (fun v h L => v = none ∧ Fr n0 L ∧ Keep h0 h [o0] ∧ Fld Z h o0 OwnK3 "root" OwnK8 (.ref o1) ∧ Fld Z h o0 OwnK3 "offset" "I" (.int 1) ∧ Fld Z h o0 OwnK3 "size" "I" (.int 2) ∧ Fld Z h o0 OwnK5 "modCount" "I" (.int 3)) := by
  refine own_entry qQ10 (fun m => qQ84 m o0 o1 (1 : Int32) (3 : Int32)) ?_
  intro p e s m below meth c T0 X0 hC e0
  obtain ⟨hx, hB, hml, hown, hnm, hret, hlk, hZ⟩ := hC
  have N0 := Fr.nil n0
  have K0 := Keep.refl h0 [o0]
  refine oG T0 m 1 #[rv o0, rv o1, iv 1, iv 3] [(.ref o0)] (fun t k => XS.aloadN X0.here hx rfl (hb hB d17_0) rfl rfl k) ?_
  obtain ⟨_, T1, L1, X1, ⟨rfl, Nq1, Kq1, fq0_1, fq1_1, fq2_1, fq3_1, fq4_1⟩, st1⟩ := own_init X0 hx hZ (y := (⟨OwnK5, "<init>", "()V"⟩ : MethodName)) rfl hown (oW hw 131 rfl) (oW hw 34 rfl) (oW hw 37 rfl) (oW hw 38 rfl) (by decide) (sp17 l Z a0 hw [] o0 h0 n0 Z0 E_o0 F_mC_o0 F_offset_o0 F_parent_o0 F_root_o0 F_size_o0 g_o0) e0 (a := o0) 0 (argsL := []) (rest := []) (Ls := #[rv o0, rv o1, iv 1, iv 3]) (by rw [hml]; rfl) (lenOf qQ155 rfl) rfl rfl (Nat.le_of_eq rfl) (hb hB d17_1) (by decide) (by decide) (by decide) (by decide)
  have N1 := Fr.app N0 Nq1
  have cf2 := E_o0.keep Kq1
  have cf3 := F_mC_o1.keep Kq1 (ninS (Ne.symm ne_o0_o1) nin0)
  have Z_1 : n0 ≤ T1.heap.size := Nat.le_trans Z0 Kq1.1
  have K_1 : Keep h0 T1.heap [o0] := K0.trans Kq1 (allS (oI 0 rfl) all0)
  refine oG T1 m 4 #[rv o0, rv o1, iv 1, iv 3] [] (st1) ?_
  refine oG T1 m 5 #[rv o0, rv o1, iv 1, iv 3] [(.ref o0)] (fun t k => XS.aloadN X1.here hx rfl (hb hB d17_4) rfl rfl k) ?_
  refine oG T1 m 6 #[rv o0, rv o1, iv 1, iv 3] [(.ref o1), (.ref o0)] (fun t k => XS.aloadN X1.here hx rfl (hb hB d17_5) rfl rfl k) ?_
  obtain ⟨T4, h4, X4, e4, W4, st4⟩ := putF X1 hx hZ hown (host := "") (Or.inl (oW hw 135 rfl)) Via.refl rfl fq2_1 cf2 (Or.inr ⟨(oW hw 136 rfl), rfl, hnm⟩) (oW hw 125 rfl) (ty := (.object OwnK4)) (by decide) rfl rfl (g := (mkF m 6 #[rv o0, rv o1, iv 1, iv 3] [(.ref o1), (.ref o0)])) rfl rfl (hb hB d17_6)
  have F4 := fq2_1.same W4
  have cf5 := cf2.wr W4
  have cf6 := cf3.other W4 (Or.inl (Ne.symm ne_o0_o1))
  have cf7 := fq0_1.other W4 (Or.inr (slot_ne (Or.inr (oW hw 140 rfl)) (Or.inr (oW hw 136 rfl)) (by decide) (t := .int) (t' := (.object OwnK4)) (by decide) (by decide)))
  have cf8 := fq1_1.other W4 (Or.inr (slot_ne (Or.inr (oW hw 138 rfl)) (Or.inr (oW hw 136 rfl)) (by decide) (t := (.object OwnK3)) (t' := (.object OwnK4)) (by decide) (by decide)))
  have cf9 := fq3_1.other W4 (Or.inr (slot_ne (Or.inl (oW hw 142 rfl)) (Or.inr (oW hw 136 rfl)) (by decide) (t := .int) (t' := (.object OwnK4)) (by decide) (by decide)))
  have cf10 := fq4_1.other W4 (Or.inr (slot_ne (Or.inl (oW hw 134 rfl)) (Or.inr (oW hw 136 rfl)) (by decide) (t := .int) (t' := (.object OwnK4)) (by decide) (by decide)))
  have Z_4 : n0 ≤ h4.size := Nat.le_trans Z_1 (Keep.of_wr W4).1
  have K_4 : Keep h0 h4 [o0] := K_1.wr W4 (oI 0 rfl)
  have N4 := Fr.snoc X4 N1 g_o0
  refine oG T4 m 9 #[rv o0, rv o1, iv 1, iv 3] [] (st4) ?_
  refine oG T4 m 10 #[rv o0, rv o1, iv 1, iv 3] [(.ref o0)] (fun t k => XS.aloadN X4.here hx rfl (hb hB d17_9) rfl rfl k) ?_
  refine oG T4 m 11 #[rv o0, rv o1, iv 1, iv 3] [.null, (.ref o0)] (fun t k => XS.aconstNull X4.here hx rfl (hb hB d17_10) k) ?_
  obtain ⟨T11, h11, X11, e11, W11, st11⟩ := putF X4 hx hZ hown (host := "") (Or.inl (oW hw 137 rfl)) Via.refl e4 cf8 cf5 (Or.inr ⟨(oW hw 138 rfl), rfl, hnm⟩) (oW hw 125 rfl) (ty := (.object OwnK3)) (by decide) rfl rfl (g := (mkF m 11 #[rv o0, rv o1, iv 1, iv 3] [.null, (.ref o0)])) rfl rfl (hb hB d17_11)
  have F11 := cf8.same W11
  have cf12 := cf5.wr W11
  have cf13 := cf6.other W11 (Or.inl (Ne.symm ne_o0_o1))
  have cf14 := cf7.other W11 (Or.inr (slot_ne (Or.inr (oW hw 140 rfl)) (Or.inr (oW hw 138 rfl)) (by decide) (t := .int) (t' := (.object OwnK3)) (by decide) (by decide)))
  have cf15 := cf9.other W11 (Or.inr (slot_ne (Or.inl (oW hw 142 rfl)) (Or.inr (oW hw 138 rfl)) (by decide) (t := .int) (t' := (.object OwnK3)) (by decide) (by decide)))
  have cf16 := cf10.other W11 (Or.inr (slot_ne (Or.inl (oW hw 134 rfl)) (Or.inr (oW hw 138 rfl)) (by decide) (t := .int) (t' := (.object OwnK3)) (by decide) (by decide)))
  have cf17 := F4.other W11 (Or.inr (slot_ne (Or.inr (oW hw 136 rfl)) (Or.inr (oW hw 138 rfl)) (by decide) (t := (.object OwnK4)) (t' := (.object OwnK3)) (by decide) (by decide)))
  have Z_11 : n0 ≤ h11.size := Nat.le_trans Z_4 (Keep.of_wr W11).1
  have K_11 : Keep h0 h11 [o0] := K_4.wr W11 (oI 0 rfl)
  have N11 := Fr.snoc X11 N4 g_o0
  refine oG T11 m 14 #[rv o0, rv o1, iv 1, iv 3] [] (st11) ?_
  refine oG T11 m 15 #[rv o0, rv o1, iv 1, iv 3] [(.ref o0)] (fun t k => XS.aloadN X11.here hx rfl (hb hB d17_14) rfl rfl k) ?_
  refine oG T11 m 16 #[rv o0, rv o1, iv 1, iv 3] [(.int 1), (.ref o0)] (fun t k => XS.iloadN X11.here hx rfl (hb hB d17_15) rfl k) ?_
  obtain ⟨T18, h18, X18, e18, W18, st18⟩ := putF X11 hx hZ hown (host := "") (Or.inl (oW hw 139 rfl)) Via.refl e11 cf14 cf12 (Or.inr ⟨(oW hw 140 rfl), rfl, hnm⟩) (oW hw 125 rfl) (ty := .int) (by decide) rfl rfl (g := (mkF m 16 #[rv o0, rv o1, iv 1, iv 3] [(.int 1), (.ref o0)])) rfl rfl (hb hB d17_16)
  have F18 := cf14.same W18
  have cf19 := cf12.wr W18
  have cf20 := cf13.other W18 (Or.inl (Ne.symm ne_o0_o1))
  have cf21 := cf15.other W18 (Or.inr (slot_ne (Or.inl (oW hw 142 rfl)) (Or.inr (oW hw 140 rfl)) (by decide) (t := .int) (t' := .int) (by decide) (by decide)))
  have cf22 := cf16.other W18 (Or.inr (slot_ne (Or.inl (oW hw 134 rfl)) (Or.inr (oW hw 140 rfl)) (by decide) (t := .int) (t' := .int) (by decide) (by decide)))
  have cf23 := cf17.other W18 (Or.inr (slot_ne (Or.inr (oW hw 136 rfl)) (Or.inr (oW hw 140 rfl)) (by decide) (t := (.object OwnK4)) (t' := .int) (by decide) (by decide)))
  have cf24 := F11.other W18 (Or.inr (slot_ne (Or.inr (oW hw 138 rfl)) (Or.inr (oW hw 140 rfl)) (by decide) (t := (.object OwnK3)) (t' := .int) (by decide) (by decide)))
  have Z_18 : n0 ≤ h18.size := Nat.le_trans Z_11 (Keep.of_wr W18).1
  have K_18 : Keep h0 h18 [o0] := K_11.wr W18 (oI 0 rfl)
  have N18 := Fr.snoc X18 N11 g_o0
  refine oG T18 m 19 #[rv o0, rv o1, iv 1, iv 3] [] (st18) ?_
  refine oG T18 m 20 #[rv o0, rv o1, iv 1, iv 3] [(.ref o0)] (fun t k => XS.aloadN X18.here hx rfl (hb hB d17_19) rfl rfl k) ?_
  refine oG T18 m 21 #[rv o0, rv o1, iv 1, iv 3] [(.int 3), (.ref o0)] (fun t k => XS.iloadN X18.here hx rfl (hb hB d17_20) rfl k) ?_
  refine oG T18 m 22 #[rv o0, rv o1, iv 1, iv 3] [(.int 1), (.int 3), (.ref o0)] (fun t k => XS.iloadN X18.here hx rfl (hb hB d17_21) rfl k) ?_
  refine oG T18 m 23 #[rv o0, rv o1, iv 1, iv 3] [(.int ((3 : Int32) - (1 : Int32))), (.ref o0)] (fun t k => XS.isub X18.here hx rfl (hb hB d17_22) rfl k) ?_
  rw [show ((3 : Int32) - (1 : Int32)) = (2 : Int32) from by decide]
  obtain ⟨T25, h25, X25, e25, W25, st25⟩ := putF X18 hx hZ hown (host := "") (Or.inl (oW hw 141 rfl)) Via.refl e18 cf21 cf19 (Or.inl (oW hw 142 rfl)) (oW hw 125 rfl) (ty := .int) (by decide) rfl rfl (g := (mkF m 23 #[rv o0, rv o1, iv 1, iv 3] [(.int 2), (.ref o0)])) rfl rfl (hb hB d17_23)
  have F25 := cf21.same W25
  have cf26 := cf19.wr W25
  have cf27 := cf20.other W25 (Or.inl (Ne.symm ne_o0_o1))
  have cf28 := cf22.other W25 (Or.inr (slot_ne (Or.inl (oW hw 134 rfl)) (Or.inl (oW hw 142 rfl)) (by decide) (t := .int) (t' := .int) (by decide) (by decide)))
  have cf29 := cf23.other W25 (Or.inr (slot_ne (Or.inr (oW hw 136 rfl)) (Or.inl (oW hw 142 rfl)) (by decide) (t := (.object OwnK4)) (t' := .int) (by decide) (by decide)))
  have cf30 := cf24.other W25 (Or.inr (slot_ne (Or.inr (oW hw 138 rfl)) (Or.inl (oW hw 142 rfl)) (by decide) (t := (.object OwnK3)) (t' := .int) (by decide) (by decide)))
  have cf31 := F18.other W25 (Or.inr (slot_ne (Or.inr (oW hw 140 rfl)) (Or.inl (oW hw 142 rfl)) (by decide) (t := .int) (t' := .int) (by decide) (by decide)))
  have Z_25 : n0 ≤ h25.size := Nat.le_trans Z_18 (Keep.of_wr W25).1
  have K_25 : Keep h0 h25 [o0] := K_18.wr W25 (oI 0 rfl)
  have N25 := Fr.snoc X25 N18 g_o0
  refine oG T25 m 26 #[rv o0, rv o1, iv 1, iv 3] [] (st25) ?_
  refine oG T25 m 27 #[rv o0, rv o1, iv 1, iv 3] [(.ref o0)] (fun t k => XS.aloadN X25.here hx rfl (hb hB d17_26) rfl rfl k) ?_
  refine oG T25 m 28 #[rv o0, rv o1, iv 1, iv 3] [(.ref o1), (.ref o0)] (fun t k => XS.aloadN X25.here hx rfl (hb hB d17_27) rfl rfl k) ?_
  obtain ⟨T32, X32, e32, st32⟩ := getF X25 hx hZ hown (host := "") (Or.inl (oW hw 143 rfl)) (Via.of (oW hw 73 rfl)) e25 cf27 (g := (mkF m 28 #[rv o0, rv o1, iv 1, iv 3] [(.ref o1), (.ref o0)])) rfl rfl (hb hB d17_28)
  refine oG T32 m 31 #[rv o0, rv o1, iv 1, iv 3] [(.int 3), (.ref o0)] (st32) ?_
  obtain ⟨T33, h33, X33, e33, W33, st33⟩ := putF X32 hx hZ hown (host := "") (Or.inl (oW hw 144 rfl)) (Via.of (oW hw 145 rfl)) e32 cf28 cf26 (Or.inl (oW hw 134 rfl)) (oW hw 125 rfl) (ty := .int) (by decide) rfl rfl (g := (mkF m 31 #[rv o0, rv o1, iv 1, iv 3] [(.int 3), (.ref o0)])) rfl rfl (hb hB d17_31)
  have F33 := cf28.same W33
  have cf34 := cf26.wr W33
  have cf35 := cf27.other W33 (Or.inl (Ne.symm ne_o0_o1))
  have cf36 := cf29.other W33 (Or.inr (slot_ne (Or.inr (oW hw 136 rfl)) (Or.inl (oW hw 134 rfl)) (by decide) (t := (.object OwnK4)) (t' := .int) (by decide) (by decide)))
  have cf37 := cf30.other W33 (Or.inr (slot_ne (Or.inr (oW hw 138 rfl)) (Or.inl (oW hw 134 rfl)) (by decide) (t := (.object OwnK3)) (t' := .int) (by decide) (by decide)))
  have cf38 := cf31.other W33 (Or.inr (slot_ne (Or.inr (oW hw 140 rfl)) (Or.inl (oW hw 134 rfl)) (by decide) (t := .int) (t' := .int) (by decide) (by decide)))
  have cf39 := F25.other W33 (Or.inr (slot_ne (Or.inl (oW hw 142 rfl)) (Or.inl (oW hw 134 rfl)) (by decide) (t := .int) (t' := .int) (by decide) (by decide)))
  have Z_33 : n0 ≤ h33.size := Nat.le_trans Z_25 (Keep.of_wr W33).1
  have K_33 : Keep h0 h33 [o0] := K_25.wr W33 (oI 0 rfl)
  have N33 := Fr.snoc X33 N25 g_o0
  refine oG T33 m 34 #[rv o0, rv o1, iv 1, iv 3] [] (st33) ?_
  refine own_retV X33 hx hlk hret (hb hB d17_34) (by decide) (by decide) ?_
  rw [e33]
  exact ⟨rfl, N33, K_33, cf36, cf38, cf39, F33⟩
theorem qQ113 (m : MethodId) (q0 : Addr) (q1 : Int32) (q2 : Int32) : entryFrame m #[(.ref q0), (.int q1), (.int q2)] 3 = mkF m 0 #[rv q0, iv q1, iv q2] [] := by first | (simp [entryFrame, mkF, argsToLocals, Value.category]; done) | rfl
theorem sp90 (l : Launch) (Z : State) (a0 : Array Value) (hw : ∀ d ∈ tables_1, d.before a0 Z = true) (ws : List Jvm.Cond) (o0 : Addr) (h0 : Heap) (n0 : Nat) (Z0 : n0 ≤ h0.size) (F_mC_o0 : Fld Z h0 o0 OwnK5 "modCount" "I" (.int 3)) (F_size_o0 : Fld Z h0 o0 OwnK4 "size" "I" (.int 3)) :
    OwnC l Z (⟨OwnK4, "subList", "(II)Ljava/util/List;"⟩ : MethodName) jdk_38_method_56_code 3 (some (.object "java/util/List")) ws ({ frames := 4, cells := 1, slots := 5, locals := 52 } : Room) #[(.ref o0), (.int 1), (.int 3)] h0 (fun v h L => ∃ (w0 : Addr), v = some (.ref w0) ∧ Fr n0 L ∧ Keep h0 h [] ∧ (h0.size ≤ w0 ∧ n0 ≤ w0) ∧ Exa Z h w0 OwnK3 ∧ Fld Z h w0 OwnK3 "root" OwnK8 (.ref o0) ∧ Fld Z h w0 OwnK3 "offset" "I" (.int 1) ∧ Fld Z h w0 OwnK3 "size" "I" (.int 2) ∧ Fld Z h w0 OwnK5 "modCount" "I" (.int 3)) := by
  refine own_entry qQ17 (fun m => qQ113 m o0 (1 : Int32) (3 : Int32)) ?_
  intro p e s m below meth c T0 X0 hC e0
  obtain ⟨hx, hB, hml, hown, hnm, hret, hlk, hZ⟩ := hC
  have N0 := Fr.nil n0
  have K0 := Keep.refl h0 []
  refine oG T0 m 1 #[rv o0, iv 1, iv 3] [(.int 1)] (fun t k => XS.iloadN X0.here hx rfl (hb hB d15_0) rfl k) ?_
  refine oG T0 m 2 #[rv o0, iv 1, iv 3] [(.int 3), (.int 1)] (fun t k => XS.iloadN X0.here hx rfl (hb hB d15_1) rfl k) ?_
  refine oG T0 m 3 #[rv o0, iv 1, iv 3] [(.ref o0), (.int 3), (.int 1)] (fun t k => XS.aloadN X0.here hx rfl (hb hB d15_2) rfl rfl k) ?_
  obtain ⟨T1, X1, e1, st1⟩ := getF X0 hx hZ hown (host := "") (Or.inl (oW hw 74 rfl)) Via.refl e0 F_size_o0 (g := (mkF m 3 #[rv o0, iv 1, iv 3] [(.ref o0), (.int 3), (.int 1)])) rfl rfl (hb hB d15_3)
  refine oG T1 m 6 #[rv o0, iv 1, iv 3] [(.int 3), (.int 3), (.int 1)] (st1) ?_
  obtain ⟨_, T2, L2, X2, ⟨rfl, e2, rfl⟩, st2⟩ := own_staticUp X1 hx hZ (x := (⟨OwnK4, "subListRangeCheck", "(III)V"⟩ : MethodName)) hown (oW hw 120 rfl) (oW hw 121 rfl) (by decide) (oW hw 122 rfl) (oW hw 37 rfl) (oW hw 123 rfl) (sp91 l Z a0 hw []  h0 n0 Z0 ) e1 0 (argsL := [(.int 1), (.int 3), (.int 3)]) (rest := []) (Ls := #[rv o0, iv 1, iv 3]) (by rw [hml]; rfl) (lenOf qQ41 rfl) rfl rfl (Nat.le_of_eq rfl) (hb hB d15_6) (by decide) (by decide) (by decide) (by decide)
  replace X2 := own_nil X2
  refine oG T2 m 9 #[rv o0, iv 1, iv 3] [] (st2) ?_
  obtain ⟨T3, h3, X3, e3, E3, A3, D3, -, st3⟩ := newO X2 hx hZ hown (oW hw 124 rfl) (oW hw 125 rfl) (oW hw 126 rfl) e2 (g := (mkF m 9 #[rv o0, iv 1, iv 3] [])) rfl (hb hB d15_9) (by decide) (by decide)
  obtain ⟨b3, g3⟩ : ∃ z, z = h0.size := ⟨_, rfl⟩
  rw [← g3] at A3 D3 st3
  have ne_o0_b3 : o0 ≠ b3 := Nat.ne_of_lt (Nat.lt_of_lt_of_eq F_mC_o0.lt g3.symm)
  have g_b3 : n0 ≤ b3 := Nat.le_trans Z0 (Nat.le_of_eq g3.symm)
  have sz_b3 : h0.size ≤ b3 := Nat.le_trans K0.1 (Nat.le_of_eq g3.symm)
  have cf4 := F_mC_o0.ext E3
  have cf5 := F_size_o0.ext E3
  have Z_3 : n0 ≤ h3.size := Nat.le_trans Z0 E3.1
  have K_3 : Keep h0 h3 [] := K0.ext E3
  have F_mC_3 : Fld Z h3 b3 OwnK5 "modCount" "I" (.int 0) := D3 (Or.inl (oW hw 134 rfl)) (ty := .int) (by decide)
  have F_root_3 : Fld Z h3 b3 OwnK3 "root" OwnK8 .null := D3 (Or.inr (oW hw 136 rfl)) (ty := (.object OwnK4)) (by decide)
  have F_parent_3 : Fld Z h3 b3 OwnK3 "parent" OwnK7 .null := D3 (Or.inr (oW hw 138 rfl)) (ty := (.object OwnK3)) (by decide)
  have F_offset_3 : Fld Z h3 b3 OwnK3 "offset" "I" (.int 0) := D3 (Or.inr (oW hw 140 rfl)) (ty := .int) (by decide)
  have F_size_3 : Fld Z h3 b3 OwnK3 "size" "I" (.int 0) := D3 (Or.inl (oW hw 142 rfl)) (ty := .int) (by decide)
  refine oG T3 m 12 #[rv o0, iv 1, iv 3] [(.ref b3)] (st3) ?_
  refine oG T3 m 13 #[rv o0, iv 1, iv 3] [(.ref b3), (.ref b3)] (fun t k => XS.dup X3.here hx rfl (hb hB d15_12) rfl rfl k) ?_
  refine oG T3 m 14 #[rv o0, iv 1, iv 3] [(.ref o0), (.ref b3), (.ref b3)] (fun t k => XS.aloadN X3.here hx rfl (hb hB d15_13) rfl rfl k) ?_
  refine oG T3 m 15 #[rv o0, iv 1, iv 3] [(.int 1), (.ref o0), (.ref b3), (.ref b3)] (fun t k => XS.iloadN X3.here hx rfl (hb hB d15_14) rfl k) ?_
  refine oG T3 m 16 #[rv o0, iv 1, iv 3] [(.int 3), (.int 1), (.ref o0), (.ref b3), (.ref b3)] (fun t k => XS.iloadN X3.here hx rfl (hb hB d15_15) rfl k) ?_
  obtain ⟨_, T6, L6, X6, ⟨rfl, Nq6, Kq6, fq0_6, fq1_6, fq2_6, fq3_6⟩, st6⟩ := own_init X3 hx hZ (y := (⟨OwnK3, "<init>", "(Ljava/util/ArrayList;II)V"⟩ : MethodName)) rfl hown (oW hw 127 rfl) (oW hw 128 rfl) (oW hw 126 rfl) (oW hw 130 rfl) (by decide) (sp92 l Z a0 hw [] b3 o0 h3 n0 Z_3 A3 F_mC_3 F_offset_3 F_parent_3 F_root_3 F_size_3 cf4 (Ne.symm ne_o0_b3) g_b3) e3 (a := b3) 1 (argsL := [(.ref o0), (.int 1), (.int 3)]) (rest := [(.ref b3)]) (Ls := #[rv o0, iv 1, iv 3]) (by rw [hml]; rfl) (lenOf qQ32 rfl) rfl rfl (Nat.le_of_eq rfl) (hb hB d15_16) (by decide) (by decide) (by decide) (by decide)
  have N6 := Fr.app N0 Nq6
  have cf7 := cf4.keep Kq6 (ninS ne_o0_b3 nin0)
  have cf8 := cf5.keep Kq6 (ninS ne_o0_b3 nin0)
  have cf9 := A3.keep Kq6
  have Z_6 : n0 ≤ T6.heap.size := Nat.le_trans Z_3 Kq6.1
  have K_6 : Keep h0 T6.heap [] := K_3.trans Kq6 (allS (Or.inr sz_b3) all0)
  refine oG T6 m 19 #[rv o0, iv 1, iv 3] [(.ref b3)] (st6) ?_
  refine own_retA X6 hx hlk hret rfl rfl rfl (hb hB d15_19) (by decide) (by decide) ?_
  exact ⟨b3, rfl, N6, K_6, ⟨sz_b3, g_b3⟩, cf9, fq0_6, fq1_6, fq2_6, fq3_6⟩
theorem qQ148 (m : MethodId) (q0 : Addr) (q1 : Int32) : entryFrame m #[(.ref q0), (.int q1)] 2 = mkF m 0 #[rv q0, iv q1] [] := by first | (simp [entryFrame, mkF, argsToLocals, Value.category]; done) | rfl
theorem sp95 (l : Launch) (Z : State) (a0 : Array Value) (hw : ∀ d ∈ tables_1, d.before a0 Z = true) (ws : List Jvm.Cond) (o0 o1 : Addr) (h0 : Heap) (n0 : Nat) (Z0 : n0 ≤ h0.size) (E_o0 : Exa Z h0 o0 OwnK3) (F_mC_o0 : Fld Z h0 o0 OwnK5 "modCount" "I" (.int 3)) (F_root_o0 : Fld Z h0 o0 OwnK3 "root" OwnK8 (.ref o1)) (F_size_o0 : Fld Z h0 o0 OwnK3 "size" "I" (.int 2)) (F_mC_o1 : Fld Z h0 o1 OwnK5 "modCount" "I" (.int 3)) :
    OwnC l Z (⟨OwnK3, "listIterator", "(I)Ljava/util/ListIterator;"⟩ : MethodName) jdk_130_method_24_code 2 (some (.object "java/util/ListIterator")) ws ({ frames := 2, cells := 1, slots := 5, locals := 27 } : Room) #[(.ref o0), (.int 0)] h0 (fun v h L => ∃ (w0 : Addr), v = some (.ref w0) ∧ Fr n0 L ∧ Keep h0 h [] ∧ (h0.size ≤ w0 ∧ n0 ≤ w0) ∧ Exa Z h w0 OwnK2 ∧ Fld Z h w0 OwnK2 "this$0" OwnK7 (.ref o0) ∧ Fld Z h w0 OwnK2 "val$index" "I" (.int 0) ∧ Fld Z h w0 OwnK2 "cursor" "I" (.int 0) ∧ Fld Z h w0 OwnK2 "lastRet" "I" (.int (-1)) ∧ Fld Z h w0 OwnK2 "expectedModCount" "I" (.int 3)) := by
  refine own_entry qQ5 (fun m => qQ148 m o0 (0 : Int32)) ?_
  intro p e s m below meth c T0 X0 hC e0
  obtain ⟨hx, hB, hml, hown, hnm, hret, hlk, hZ⟩ := hC
  have N0 := Fr.nil n0
  have K0 := Keep.refl h0 []
  refine oG T0 m 1 #[rv o0, iv 0] [(.ref o0)] (fun t k => XS.aloadN X0.here hx rfl (hb hB d20_0) rfl rfl k) ?_
  obtain ⟨_, T1, L1, X1, ⟨rfl, e1, rfl⟩, st1⟩ := own_private X0 hx hZ (y := (⟨OwnK3, "checkForComodification", "()V"⟩ : MethodName)) hown (oW hw 167 rfl) (oW hw 168 rfl) (oW hw 169 rfl) (oW hw 125 rfl) (oW hw 126 rfl) (oW hw 171 rfl) (by decide) (sp83 l Z a0 hw [] o0 o1 h0 n0 Z0 F_mC_o0 F_root_o0 F_mC_o1) e0 E_o0 0 (argsL := []) (rest := []) (Ls := #[rv o0, iv 0]) (by rw [hml]; rfl) (lenOf qQ155 rfl) rfl rfl (Nat.le_of_eq rfl) (hb hB d20_1) (by decide) (by decide) (by decide) (by decide)
  replace X1 := own_nil X1
  refine oG T1 m 4 #[rv o0, iv 0] [] (st1) ?_
  refine oG T1 m 5 #[rv o0, iv 0] [(.ref o0)] (fun t k => XS.aloadN X1.here hx rfl (hb hB d20_4) rfl rfl k) ?_
  refine oG T1 m 6 #[rv o0, iv 0] [(.int 0), (.ref o0)] (fun t k => XS.iloadN X1.here hx rfl (hb hB d20_5) rfl k) ?_
  obtain ⟨_, T2, L2, X2, ⟨rfl, e2, rfl⟩, st2⟩ := own_private X1 hx hZ (y := (⟨OwnK3, "rangeCheckForAdd", "(I)V"⟩ : MethodName)) hown (oW hw 172 rfl) (oW hw 173 rfl) (oW hw 174 rfl) (oW hw 125 rfl) (oW hw 126 rfl) (oW hw 176 rfl) (by decide) (sp50 l Z a0 hw [] o0 h0 n0 Z0 F_size_o0) e1 E_o0 0 (argsL := [(.int 0)]) (rest := []) (Ls := #[rv o0, iv 0]) (by rw [hml]; rfl) (lenOf qQ64 rfl) rfl rfl (Nat.le_of_eq rfl) (hb hB d20_6) (by decide) (by decide) (by decide) (by decide)
  replace X2 := own_nil X2
  refine oG T2 m 9 #[rv o0, iv 0] [] (st2) ?_
  obtain ⟨T3, h3, X3, e3, E3, A3, D3, -, st3⟩ := newO X2 hx hZ hown (oW hw 177 rfl) (oW hw 178 rfl) (oW hw 179 rfl) e2 (g := (mkF m 9 #[rv o0, iv 0] [])) rfl (hb hB d20_9) (by decide) (by decide)
  obtain ⟨b3, g3⟩ : ∃ z, z = h0.size := ⟨_, rfl⟩
  rw [← g3] at A3 D3 st3
  have ne_o0_b3 : o0 ≠ b3 := Nat.ne_of_lt (Nat.lt_of_lt_of_eq E_o0.lt g3.symm)
  have ne_o1_b3 : o1 ≠ b3 := Nat.ne_of_lt (Nat.lt_of_lt_of_eq F_mC_o1.lt g3.symm)
  have g_b3 : n0 ≤ b3 := Nat.le_trans Z0 (Nat.le_of_eq g3.symm)
  have sz_b3 : h0.size ≤ b3 := Nat.le_trans K0.1 (Nat.le_of_eq g3.symm)
  have cf4 := E_o0.ext E3
  have cf5 := F_mC_o0.ext E3
  have cf6 := F_root_o0.ext E3
  have cf7 := F_size_o0.ext E3
  have cf8 := F_mC_o1.ext E3
  have Z_3 : n0 ≤ h3.size := Nat.le_trans Z0 E3.1
  have K_3 : Keep h0 h3 [] := K0.ext E3
  have F_this_0_3 : Fld Z h3 b3 OwnK2 "this$0" OwnK7 .null := D3 (Or.inr (oW hw 185 rfl)) (ty := (.object OwnK3)) (by decide)
  have F_val_index_3 : Fld Z h3 b3 OwnK2 "val$index" "I" (.int 0) := D3 (Or.inr (oW hw 187 rfl)) (ty := .int) (by decide)
  have F_cursor_3 : Fld Z h3 b3 OwnK2 "cursor" "I" (.int 0) := D3 (Or.inl (oW hw 190 rfl)) (ty := .int) (by decide)
  have F_lastRet_3 : Fld Z h3 b3 OwnK2 "lastRet" "I" (.int 0) := D3 (Or.inl (oW hw 192 rfl)) (ty := .int) (by decide)
  have F_xM_3 : Fld Z h3 b3 OwnK2 "expectedModCount" "I" (.int 0) := D3 (Or.inl (oW hw 195 rfl)) (ty := .int) (by decide)
  refine oG T3 m 12 #[rv o0, iv 0] [(.ref b3)] (st3) ?_
  refine oG T3 m 13 #[rv o0, iv 0] [(.ref b3), (.ref b3)] (fun t k => XS.dup X3.here hx rfl (hb hB d20_12) rfl rfl k) ?_
  refine oG T3 m 14 #[rv o0, iv 0] [(.ref o0), (.ref b3), (.ref b3)] (fun t k => XS.aloadN X3.here hx rfl (hb hB d20_13) rfl rfl k) ?_
  refine oG T3 m 15 #[rv o0, iv 0] [(.int 0), (.ref o0), (.ref b3), (.ref b3)] (fun t k => XS.iloadN X3.here hx rfl (hb hB d20_14) rfl k) ?_
  obtain ⟨_, T9, L9, X9, ⟨rfl, Nq9, Kq9, fq0_9, fq1_9, fq2_9, fq3_9, fq4_9⟩, st9⟩ := own_init X3 hx hZ (y := (⟨OwnK2, "<init>", "(Ljava/util/ArrayList$SubList;I)V"⟩ : MethodName)) rfl hown (oW hw 180 rfl) (oW hw 181 rfl) (oW hw 179 rfl) (oW hw 183 rfl) (by decide) (sp85 l Z a0 hw [] b3 o0 h3 n0 Z_3 A3 F_cursor_3 F_xM_3 F_lastRet_3 F_this_0_3 F_val_index_3 cf5 (Ne.symm ne_o0_b3) g_b3) e3 (a := b3) 1 (argsL := [(.ref o0), (.int 0)]) (rest := [(.ref b3)]) (Ls := #[rv o0, iv 0]) (by rw [hml]; rfl) (lenOf qQ26 rfl) rfl rfl (Nat.le_of_eq rfl) (hb hB d20_15) (by decide) (by decide) (by decide) (by decide)
  have N9 := Fr.app N0 Nq9
  have cf10 := cf4.keep Kq9
  have cf11 := cf5.keep Kq9 (ninS ne_o0_b3 nin0)
  have cf12 := cf6.keep Kq9 (ninS ne_o0_b3 nin0)
  have cf13 := cf7.keep Kq9 (ninS ne_o0_b3 nin0)
  have cf14 := cf8.keep Kq9 (ninS ne_o1_b3 nin0)
  have cf15 := A3.keep Kq9
  have Z_9 : n0 ≤ T9.heap.size := Nat.le_trans Z_3 Kq9.1
  have K_9 : Keep h0 T9.heap [] := K_3.trans Kq9 (allS (Or.inr sz_b3) all0)
  refine oG T9 m 18 #[rv o0, iv 0] [(.ref b3)] (st9) ?_
  refine own_retA X9 hx hlk hret rfl rfl rfl (hb hB d20_18) (by decide) (by decide) ?_
  exact ⟨b3, rfl, N9, K_9, ⟨sz_b3, g_b3⟩, cf15, fq0_9, fq1_9, fq2_9, fq3_9, fq4_9⟩
theorem qQ79 (m : MethodId) (q0 : Addr) : entryFrame m #[(.ref q0)] 1 = mkF m 0 #[rv q0] [] := by first | (simp [entryFrame, mkF, argsToLocals, Value.category]; done) | rfl
theorem sp94 (l : Launch) (Z : State) (a0 : Array Value) (hw : ∀ d ∈ tables_1, d.before a0 Z = true) (ws : List Jvm.Cond) (o0 o1 : Addr) (h0 : Heap) (n0 : Nat) (Z0 : n0 ≤ h0.size) (E_o0 : Exa Z h0 o0 OwnK3) (F_mC_o0 : Fld Z h0 o0 OwnK5 "modCount" "I" (.int 3)) (F_root_o0 : Fld Z h0 o0 OwnK3 "root" OwnK8 (.ref o1)) (F_size_o0 : Fld Z h0 o0 OwnK3 "size" "I" (.int 2)) (F_mC_o1 : Fld Z h0 o1 OwnK5 "modCount" "I" (.int 3)) :
    OwnC l Z (⟨OwnK5, "listIterator", "()Ljava/util/ListIterator;"⟩ : MethodName) jdk_39_method_12_code 1 (some (.object "java/util/ListIterator")) ws ({ frames := 3, cells := 1, slots := 5, locals := 40 } : Room) #[(.ref o0)] h0 (fun v h L => ∃ (w0 : Addr), v = some (.ref w0) ∧ Fr n0 L ∧ Keep h0 h [] ∧ (h0.size ≤ w0 ∧ n0 ≤ w0) ∧ Exa Z h w0 OwnK2 ∧ Fld Z h w0 OwnK2 "this$0" OwnK7 (.ref o0) ∧ Fld Z h w0 OwnK2 "val$index" "I" (.int 0) ∧ Fld Z h w0 OwnK2 "cursor" "I" (.int 0) ∧ Fld Z h w0 OwnK2 "lastRet" "I" (.int (-1)) ∧ Fld Z h w0 OwnK2 "expectedModCount" "I" (.int 3)) := by
  refine own_entry qQ8 (fun m => qQ79 m o0) ?_
  intro p e s m below meth c T0 X0 hC e0
  obtain ⟨hx, hB, hml, hown, hnm, hret, hlk, hZ⟩ := hC
  have N0 := Fr.nil n0
  have K0 := Keep.refl h0 []
  refine oG T0 m 1 #[rv o0] [(.ref o0)] (fun t k => XS.aloadN X0.here hx rfl (hb hB d19_0) rfl rfl k) ?_
  refine oG T0 m 2 #[rv o0] [(.int 0), (.ref o0)] (fun t k => XS.iconst X0.here hx rfl (hb hB d19_1) k) ?_
  obtain ⟨_, T1, L1, X1, ⟨w0_1, rfl, Nq1, Kq1, syw0_1, fq0_1, fq1_1, fq2_1, fq3_1, fq4_1, fq5_1⟩, st1⟩ := own_virtual X0 hx hZ (y := (⟨OwnK5, "listIterator", "(I)Ljava/util/ListIterator;"⟩ : MethodName)) (z := (⟨OwnK3, "listIterator", "(I)Ljava/util/ListIterator;"⟩ : MethodName)) hown (oW hw 161 rfl) (oW hw 162 rfl) (own_nf (args := #[]) (mvT hZ (oW hw 159 rfl)) rfl) (oW hw 164 rfl) (oW hw 165 rfl) (oW hw 126 rfl) (oW hw 166 rfl) (by decide) (sp95 l Z a0 hw [] o0 o1 h0 n0 Z0 E_o0 F_mC_o0 F_root_o0 F_size_o0 F_mC_o1) e0 E_o0 0 (argsL := [(.int 0)]) (rest := []) (Ls := #[rv o0]) (by rw [hml]; rfl) (lenOf qQ30 rfl) rfl rfl (Nat.le_of_eq rfl) (hb hB d19_2) (by decide) (by decide) (by decide) (by decide)
  have g_w0_1 : n0 ≤ w0_1 := syw0_1.2
  have sz_w0_1 : h0.size ≤ w0_1 := Nat.le_trans K0.1 syw0_1.1
  have ne_o0_w0_1 : o0 ≠ w0_1 := Nat.ne_of_lt (Nat.lt_of_lt_of_le E_o0.lt syw0_1.1)
  have ne_o1_w0_1 : o1 ≠ w0_1 := Nat.ne_of_lt (Nat.lt_of_lt_of_le F_mC_o1.lt syw0_1.1)
  have N1 := Fr.app N0 Nq1
  have cf2 := E_o0.keep Kq1
  have cf3 := F_mC_o0.keep Kq1 nin0
  have cf4 := F_root_o0.keep Kq1 nin0
  have cf5 := F_size_o0.keep Kq1 nin0
  have cf6 := F_mC_o1.keep Kq1 nin0
  have Z_1 : n0 ≤ T1.heap.size := Nat.le_trans Z0 Kq1.1
  have K_1 : Keep h0 T1.heap [] := K0.trans Kq1 all0
  refine oG T1 m 5 #[rv o0] [(.ref w0_1)] (st1) ?_
  refine own_retA X1 hx hlk hret rfl rfl rfl (hb hB d19_5) (by decide) (by decide) ?_
  exact ⟨w0_1, rfl, N1, K_1, ⟨sz_w0_1, g_w0_1⟩, fq0_1, fq1_1, fq2_1, fq3_1, fq4_1, fq5_1⟩
theorem qQ136 (m : MethodId) (q0 : Addr) : entryFrame m #[(.ref q0)] 1 = mkF m 0 #[rv q0] [] := by first | (simp [entryFrame, mkF, argsToLocals, Value.category]; done) | rfl
theorem sp93 (l : Launch) (Z : State) (a0 : Array Value) (hw : ∀ d ∈ tables_1, d.before a0 Z = true) (ws : List Jvm.Cond) (o0 o1 : Addr) (h0 : Heap) (n0 : Nat) (Z0 : n0 ≤ h0.size) (E_o0 : Exa Z h0 o0 OwnK3) (F_mC_o0 : Fld Z h0 o0 OwnK5 "modCount" "I" (.int 3)) (F_root_o0 : Fld Z h0 o0 OwnK3 "root" OwnK8 (.ref o1)) (F_size_o0 : Fld Z h0 o0 OwnK3 "size" "I" (.int 2)) (F_mC_o1 : Fld Z h0 o1 OwnK5 "modCount" "I" (.int 3)) :
    OwnC l Z (⟨OwnK3, "iterator", "()Ljava/util/Iterator;"⟩ : MethodName) jdk_130_method_23_code 1 (some (.object "java/util/Iterator")) ws ({ frames := 4, cells := 1, slots := 5, locals := 52 } : Room) #[(.ref o0)] h0 (fun v h L => ∃ (w0 : Addr), v = some (.ref w0) ∧ Fr n0 L ∧ Keep h0 h [] ∧ (h0.size ≤ w0 ∧ n0 ≤ w0) ∧ Exa Z h w0 OwnK2 ∧ Fld Z h w0 OwnK2 "this$0" OwnK7 (.ref o0) ∧ Fld Z h w0 OwnK2 "val$index" "I" (.int 0) ∧ Fld Z h w0 OwnK2 "cursor" "I" (.int 0) ∧ Fld Z h w0 OwnK2 "lastRet" "I" (.int (-1)) ∧ Fld Z h w0 OwnK2 "expectedModCount" "I" (.int 3)) := by
  refine own_entry qQ11 (fun m => qQ136 m o0) ?_
  intro p e s m below meth c T0 X0 hC e0
  obtain ⟨hx, hB, hml, hown, hnm, hret, hlk, hZ⟩ := hC
  have N0 := Fr.nil n0
  have K0 := Keep.refl h0 []
  refine oG T0 m 1 #[rv o0] [(.ref o0)] (fun t k => XS.aloadN X0.here hx rfl (hb hB d18_0) rfl rfl k) ?_
  obtain ⟨_, T1, L1, X1, ⟨w0_1, rfl, Nq1, Kq1, syw0_1, fq0_1, fq1_1, fq2_1, fq3_1, fq4_1, fq5_1⟩, st1⟩ := own_virtualUp X0 hx hZ (x := (⟨OwnK3, "listIterator", "()Ljava/util/ListIterator;"⟩ : MethodName)) (y := (⟨OwnK5, "listIterator", "()Ljava/util/ListIterator;"⟩ : MethodName)) hown (oW hw 155 rfl) (oW hw 156 rfl) (oW hw 157 rfl) (by decide) (oW hw 159 rfl) (oW hw 158 rfl) (oW hw 37 rfl) (oW hw 160 rfl) (sp94 l Z a0 hw [] o0 o1 h0 n0 Z0 E_o0 F_mC_o0 F_root_o0 F_size_o0 F_mC_o1) e0 E_o0 0 (argsL := []) (rest := []) (Ls := #[rv o0]) (by rw [hml]; rfl) (lenOf qQ31 rfl) rfl rfl (Nat.le_of_eq rfl) (hb hB d18_1) (by decide) (by decide) (by decide) (by decide)
  have g_w0_1 : n0 ≤ w0_1 := syw0_1.2
  have sz_w0_1 : h0.size ≤ w0_1 := Nat.le_trans K0.1 syw0_1.1
  have ne_o0_w0_1 : o0 ≠ w0_1 := Nat.ne_of_lt (Nat.lt_of_lt_of_le E_o0.lt syw0_1.1)
  have ne_o1_w0_1 : o1 ≠ w0_1 := Nat.ne_of_lt (Nat.lt_of_lt_of_le F_mC_o1.lt syw0_1.1)
  have N1 := Fr.app N0 Nq1
  have cf2 := E_o0.keep Kq1
  have cf3 := F_mC_o0.keep Kq1 nin0
  have cf4 := F_root_o0.keep Kq1 nin0
  have cf5 := F_size_o0.keep Kq1 nin0
  have cf6 := F_mC_o1.keep Kq1 nin0
  have Z_1 : n0 ≤ T1.heap.size := Nat.le_trans Z0 Kq1.1
  have K_1 : Keep h0 T1.heap [] := K0.trans Kq1 all0
  refine oG T1 m 4 #[rv o0] [(.ref w0_1)] (st1) ?_
  refine own_retA X1 hx hlk hret rfl rfl rfl (hb hB d18_4) (by decide) (by decide) ?_
  exact ⟨w0_1, rfl, N1, K_1, ⟨sz_w0_1, g_w0_1⟩, fq0_1, fq1_1, fq2_1, fq3_1, fq4_1, fq5_1⟩
theorem qQ108 (m : MethodId) (q0 : Addr) : entryFrame m #[(.ref q0)] 3 = mkF m 0 #[rv q0, .unset, .unset] [] := by first | (simp [entryFrame, mkF, argsToLocals, Value.category]; done) | rfl
theorem sp96 (l : Launch) (Z : State) (a0 : Array Value) (hw : ∀ d ∈ tables_1, d.before a0 Z = true) (ws : List Jvm.Cond) (o0 o1 o2 o3 o4 o5 o6 : Addr) (c0 : ClassId) (h0 : Heap) (n0 : Nat) (Z0 : n0 ≤ h0.size) (E_o0 : Exa Z h0 o0 OwnK2) (F_cursor_o0 : Fld Z h0 o0 OwnK2 "cursor" "I" (.int 0)) (F_xM_o0 : Fld Z h0 o0 OwnK2 "expectedModCount" "I" (.int 3)) (F_lastRet_o0 : Fld Z h0 o0 OwnK2 "lastRet" "I" (.int (-1))) (F_this_0_o0 : Fld Z h0 o0 OwnK2 "this$0" OwnK7 (.ref o1)) (F_val_index_o0 : Fld Z h0 o0 OwnK2 "val$index" "I" (.int 0)) (F_offset_o1 : Fld Z h0 o1 OwnK3 "offset" "I" (.int 1)) (F_root_o1 : Fld Z h0 o1 OwnK3 "root" OwnK8 (.ref o2)) (F_size_o1 : Fld Z h0 o1 OwnK3 "size" "I" (.int 2)) (F_elementData_o2 : Fld Z h0 o2 OwnK4 "elementData" OwnK6 (.ref o3)) (F_mC_o2 : Fld Z h0 o2 OwnK5 "modCount" "I" (.int 3)) (V_o3 : Arv Z h0 o3 c0 (.object "java/lang/Object") (10 : Int32) [(.ref o4), (.ref o5), (.ref o6), .null, .null, .null, .null, .null, .null, .null] .null) (O_o3 : Ovr Z c0 "java/lang/Object") (ne_o0_o1 : o0 ≠ o1) (ne_o0_o2 : o0 ≠ o2) (ne_o0_o3 : o0 ≠ o3) (ne_o0_o4 : o0 ≠ o4) (ne_o0_o5 : o0 ≠ o5) (ne_o0_o6 : o0 ≠ o6) (g_o0 : n0 ≤ o0) :
    OwnC l Z (⟨OwnK2, "next", "()Ljava/lang/Object;"⟩ : MethodName) jdk_136_method_3_code 3 (some (.object "java/lang/Object")) ws ({ frames := 1, cells := 0, slots := 0, locals := 12 } : Room) #[(.ref o0)] h0 (fun v h L => v = some (.ref o5) ∧ Fr n0 L ∧ Keep h0 h [o0] ∧ Fld Z h o0 OwnK2 "expectedModCount" "I" (.int 3) ∧ Fld Z h o0 OwnK2 "this$0" OwnK7 (.ref o1) ∧ Fld Z h o0 OwnK2 "val$index" "I" (.int 0) ∧ Fld Z h o0 OwnK2 "cursor" "I" (.int 1) ∧ Fld Z h o0 OwnK2 "lastRet" "I" (.int 0)) := by
  refine own_entry qQ13 (fun m => qQ108 m o0) ?_
  intro p e s m below meth c T0 X0 hC e0
  obtain ⟨hx, hB, hml, hown, hnm, hret, hlk, hZ⟩ := hC
  have N0 := Fr.nil n0
  have K0 := Keep.refl h0 [o0]
  refine oG T0 m 1 #[rv o0, .unset, .unset] [(.ref o0)] (fun t k => XS.aloadN X0.here hx rfl (hb hB d25_0) rfl rfl k) ?_
  obtain ⟨_, T1, L1, X1, ⟨rfl, e1, rfl⟩, st1⟩ := own_virtual X0 hx hZ (y := (⟨OwnK2, "checkForComodification", "()V"⟩ : MethodName)) (z := (⟨OwnK2, "checkForComodification", "()V"⟩ : MethodName)) hown (oW hw 214 rfl) (oW hw 215 rfl) (notFace_of_selects (args := #[]) (mvT hZ (oW hw 217 rfl))) (oW hw 217 rfl) (oW hw 216 rfl) (oW hw 179 rfl) (oW hw 218 rfl) (by decide) (sp88 l Z a0 hw [] o0 o1 o2 h0 n0 Z0 F_xM_o0 F_this_0_o0 F_root_o1 F_mC_o2) e0 E_o0 0 (argsL := []) (rest := []) (Ls := #[rv o0, .unset, .unset]) (by rw [hml]; rfl) (lenOf qQ155 rfl) rfl rfl (Nat.le_of_eq rfl) (hb hB d25_1) (by decide) (by decide) (by decide) (by decide)
  replace X1 := own_nil X1
  refine oG T1 m 4 #[rv o0, .unset, .unset] [] (st1) ?_
  refine oG T1 m 5 #[rv o0, .unset, .unset] [(.ref o0)] (fun t k => XS.aloadN X1.here hx rfl (hb hB d25_4) rfl rfl k) ?_
  obtain ⟨T2, X2, e2, st2⟩ := getF X1 hx hZ hown (host := "") (Or.inl (oW hw 189 rfl)) Via.refl e1 F_cursor_o0 (g := (mkF m 5 #[rv o0, .unset, .unset] [(.ref o0)])) rfl rfl (hb hB d25_5)
  refine oG T2 m 8 #[rv o0, .unset, .unset] [(.int 0)] (st2) ?_
  refine oG T2 m 9 #[rv o0, iv 0, .unset] [] (fun t k => XS.istoreN X2.here hx rfl (hb hB d25_8) rfl rfl k) ?_
  refine oG T2 m 10 #[rv o0, iv 0, .unset] [(.int 0)] (fun t k => XS.iloadN X2.here hx rfl (hb hB d25_9) rfl k) ?_
  refine oG T2 m 11 #[rv o0, iv 0, .unset] [(.ref o0), (.int 0)] (fun t k => XS.aloadN X2.here hx rfl (hb hB d25_10) rfl rfl k) ?_
  obtain ⟨T3, X3, e3, st3⟩ := getF X2 hx hZ hown (host := "") (Or.inl (oW hw 184 rfl)) Via.refl e2 F_this_0_o0 (g := (mkF m 11 #[rv o0, iv 0, .unset] [(.ref o0), (.int 0)])) rfl rfl (hb hB d25_11)
  refine oG T3 m 14 #[rv o0, iv 0, .unset] [(.ref o1), (.int 0)] (st3) ?_
  refine oG T3 m 17 #[rv o0, iv 0, .unset] [(.int 2), (.int 0)] (own_getfRef X3 hx hZ hown (oW hw 205 rfl) e3 F_size_o1 (hb hB d25_14)) ?_
  refine oG T3 m 28 #[rv o0, iv 0, .unset] [] (fun t k => XS.icmpYes X3.here hx rfl (pc0 := 17) (pc' := 28) rfl (hb hB d25_17) rfl (tlt (by decide)).1 (by decide) (by decide) k) ?_
  refine oG T3 m 29 #[rv o0, iv 0, .unset] [(.ref o0)] (fun t k => XS.aloadN X3.here hx rfl (hb hB d25_28) rfl rfl k) ?_
  obtain ⟨T5, X5, e5, st5⟩ := getF X3 hx hZ hown (host := "") (Or.inl (oW hw 184 rfl)) Via.refl e3 F_this_0_o0 (g := (mkF m 29 #[rv o0, iv 0, .unset] [(.ref o0)])) rfl rfl (hb hB d25_29)
  refine oG T5 m 32 #[rv o0, iv 0, .unset] [(.ref o1)] (st5) ?_
  refine oG T5 m 35 #[rv o0, iv 0, .unset] [(.ref o2)] (own_getfRef X5 hx hZ hown (oW hw 219 rfl) e5 F_root_o1 (hb hB d25_32)) ?_
  obtain ⟨T7, X7, e7, st7⟩ := getF X5 hx hZ hown (host := "") (Or.inl (oW hw 221 rfl)) Via.refl e5 F_elementData_o2 (g := (mkF m 35 #[rv o0, iv 0, .unset] [(.ref o2)])) rfl rfl (hb hB d25_35)
  refine oG T7 m 38 #[rv o0, iv 0, .unset] [(.ref o3)] (st7) ?_
  refine oG T7 m 39 #[rv o0, iv 0, rv o3] [] (fun t k => XS.astoreN X7.here hx rfl (hb hB d25_38) rfl rfl rfl k) ?_
  refine oG T7 m 40 #[rv o0, iv 0, rv o3] [(.ref o0)] (fun t k => XS.aloadN X7.here hx rfl (hb hB d25_39) rfl rfl k) ?_
  obtain ⟨T8, X8, e8, st8⟩ := getF X7 hx hZ hown (host := "") (Or.inl (oW hw 184 rfl)) Via.refl e7 F_this_0_o0 (g := (mkF m 40 #[rv o0, iv 0, rv o3] [(.ref o0)])) rfl rfl (hb hB d25_40)
  refine oG T8 m 43 #[rv o0, iv 0, rv o3] [(.ref o1)] (st8) ?_
  refine oG T8 m 46 #[rv o0, iv 0, rv o3] [(.int 1)] (own_getfRef X8 hx hZ hown (oW hw 222 rfl) e8 F_offset_o1 (hb hB d25_43)) ?_
  refine oG T8 m 47 #[rv o0, iv 0, rv o3] [(.int 0), (.int 1)] (fun t k => XS.iloadN X8.here hx rfl (hb hB d25_46) rfl k) ?_
  refine oG T8 m 48 #[rv o0, iv 0, rv o3] [(.int ((1 : Int32) + (0 : Int32)))] (fun t k => XS.iadd X8.here hx rfl (hb hB d25_47) rfl k) ?_
  rw [show ((1 : Int32) + (0 : Int32)) = (1 : Int32) from by decide]
  refine oG T8 m 49 #[rv o0, iv 0, rv o3] [(.ref o3), (.int 1)] (fun t k => XS.aloadN X8.here hx rfl (hb hB d25_48) rfl rfl k) ?_
  refine oG T8 m 50 #[rv o0, iv 0, rv o3] [(.int 10), (.int 1)] (own_alen X8 hx hZ e8 V_o3 (hb hB d25_49)) ?_
  refine oG T8 m 61 #[rv o0, iv 0, rv o3] [] (fun t k => XS.icmpYes X8.here hx rfl (pc0 := 50) (pc' := 61) rfl (hb hB d25_50) rfl (tlt (by decide)).1 (by decide) (by decide) k) ?_
  refine oG T8 m 62 #[rv o0, iv 0, rv o3] [(.ref o0)] (fun t k => XS.aloadN X8.here hx rfl (hb hB d25_61) rfl rfl k) ?_
  refine oG T8 m 63 #[rv o0, iv 0, rv o3] [(.int 0), (.ref o0)] (fun t k => XS.iloadN X8.here hx rfl (hb hB d25_62) rfl k) ?_
  refine oG T8 m 64 #[rv o0, iv 0, rv o3] [(.int 1), (.int 0), (.ref o0)] (fun t k => XS.iconst X8.here hx rfl (hb hB d25_63) k) ?_
  refine oG T8 m 65 #[rv o0, iv 0, rv o3] [(.int ((0 : Int32) + (1 : Int32))), (.ref o0)] (fun t k => XS.iadd X8.here hx rfl (hb hB d25_64) rfl k) ?_
  rw [show ((0 : Int32) + (1 : Int32)) = (1 : Int32) from by decide]
  obtain ⟨T11, h11, X11, e11, W11, st11⟩ := putF X8 hx hZ hown (host := "") (Or.inl (oW hw 189 rfl)) Via.refl e8 F_cursor_o0 E_o0 (Or.inl (oW hw 190 rfl)) (oW hw 178 rfl) (ty := .int) (by decide) rfl rfl (g := (mkF m 65 #[rv o0, iv 0, rv o3] [(.int 1), (.ref o0)])) rfl rfl (hb hB d25_65)
  have F11 := F_cursor_o0.same W11
  have cf12 := E_o0.wr W11
  have cf13 := F_xM_o0.other W11 (Or.inr (slot_ne (Or.inl (oW hw 195 rfl)) (Or.inl (oW hw 190 rfl)) (by decide) (t := .int) (t' := .int) (by decide) (by decide)))
  have cf14 := F_lastRet_o0.other W11 (Or.inr (slot_ne (Or.inl (oW hw 192 rfl)) (Or.inl (oW hw 190 rfl)) (by decide) (t := .int) (t' := .int) (by decide) (by decide)))
  have cf15 := F_this_0_o0.other W11 (Or.inr (slot_ne (Or.inr (oW hw 185 rfl)) (Or.inl (oW hw 190 rfl)) (by decide) (t := (.object OwnK3)) (t' := .int) (by decide) (by decide)))
  have cf16 := F_val_index_o0.other W11 (Or.inr (slot_ne (Or.inr (oW hw 187 rfl)) (Or.inl (oW hw 190 rfl)) (by decide) (t := .int) (t' := .int) (by decide) (by decide)))
  have cf17 := F_offset_o1.other W11 (Or.inl (Ne.symm ne_o0_o1))
  have cf18 := F_root_o1.other W11 (Or.inl (Ne.symm ne_o0_o1))
  have cf19 := F_size_o1.other W11 (Or.inl (Ne.symm ne_o0_o1))
  have cf20 := F_elementData_o2.other W11 (Or.inl (Ne.symm ne_o0_o2))
  have cf21 := F_mC_o2.other W11 (Or.inl (Ne.symm ne_o0_o2))
  have cf22 := V_o3.other W11 (Ne.symm ne_o0_o3)
  have Z_11 : n0 ≤ h11.size := Nat.le_trans Z0 (Keep.of_wr W11).1
  have K_11 : Keep h0 h11 [o0] := K0.wr W11 (oI 0 rfl)
  have N11 := Fr.snoc X11 N0 g_o0
  refine oG T11 m 68 #[rv o0, iv 0, rv o3] [] (st11) ?_
  refine oG T11 m 69 #[rv o0, iv 0, rv o3] [(.ref o3)] (fun t k => XS.aloadN X11.here hx rfl (hb hB d25_68) rfl rfl k) ?_
  refine oG T11 m 70 #[rv o0, iv 0, rv o3] [(.ref o0), (.ref o3)] (fun t k => XS.aloadN X11.here hx rfl (hb hB d25_69) rfl rfl k) ?_
  obtain ⟨T23, X23, e23, st23⟩ := getF X11 hx hZ hown (host := "") (Or.inl (oW hw 184 rfl)) Via.refl e11 cf15 (g := (mkF m 70 #[rv o0, iv 0, rv o3] [(.ref o0), (.ref o3)])) rfl rfl (hb hB d25_70)
  refine oG T23 m 73 #[rv o0, iv 0, rv o3] [(.ref o1), (.ref o3)] (st23) ?_
  refine oG T23 m 76 #[rv o0, iv 0, rv o3] [(.int 1), (.ref o3)] (own_getfRef X23 hx hZ hown (oW hw 222 rfl) e23 cf17 (hb hB d25_73)) ?_
  refine oG T23 m 77 #[rv o0, iv 0, rv o3] [(.ref o0), (.int 1), (.ref o3)] (fun t k => XS.aloadN X23.here hx rfl (hb hB d25_76) rfl rfl k) ?_
  refine oG T23 m 78 #[rv o0, iv 0, rv o3] [(.int 0), (.ref o0), (.int 1), (.ref o3)] (fun t k => XS.iloadN X23.here hx rfl (hb hB d25_77) rfl k) ?_
  refine oG T23 m 79 #[rv o0, iv 0, rv o3] [(.int 0), (.ref o0), (.int 0), (.int 1), (.ref o3)] (fun t k => XS.dupX1 X23.here hx rfl (hb hB d25_78) rfl rfl rfl k) ?_
  obtain ⟨T25, h25, X25, e25, W25, st25⟩ := putF X23 hx hZ hown (host := "") (Or.inl (oW hw 191 rfl)) Via.refl e23 cf14 cf12 (Or.inl (oW hw 192 rfl)) (oW hw 178 rfl) (ty := .int) (by decide) rfl rfl (g := (mkF m 79 #[rv o0, iv 0, rv o3] [(.int 0), (.ref o0), (.int 0), (.int 1), (.ref o3)])) rfl rfl (hb hB d25_79)
  have F25 := cf14.same W25
  have cf26 := cf12.wr W25
  have cf27 := cf13.other W25 (Or.inr (slot_ne (Or.inl (oW hw 195 rfl)) (Or.inl (oW hw 192 rfl)) (by decide) (t := .int) (t' := .int) (by decide) (by decide)))
  have cf28 := cf15.other W25 (Or.inr (slot_ne (Or.inr (oW hw 185 rfl)) (Or.inl (oW hw 192 rfl)) (by decide) (t := (.object OwnK3)) (t' := .int) (by decide) (by decide)))
  have cf29 := cf16.other W25 (Or.inr (slot_ne (Or.inr (oW hw 187 rfl)) (Or.inl (oW hw 192 rfl)) (by decide) (t := .int) (t' := .int) (by decide) (by decide)))
  have cf30 := cf17.other W25 (Or.inl (Ne.symm ne_o0_o1))
  have cf31 := cf18.other W25 (Or.inl (Ne.symm ne_o0_o1))
  have cf32 := cf19.other W25 (Or.inl (Ne.symm ne_o0_o1))
  have cf33 := cf20.other W25 (Or.inl (Ne.symm ne_o0_o2))
  have cf34 := cf21.other W25 (Or.inl (Ne.symm ne_o0_o2))
  have cf35 := cf22.other W25 (Ne.symm ne_o0_o3)
  have cf36 := F11.other W25 (Or.inr (slot_ne (Or.inl (oW hw 190 rfl)) (Or.inl (oW hw 192 rfl)) (by decide) (t := .int) (t' := .int) (by decide) (by decide)))
  have Z_25 : n0 ≤ h25.size := Nat.le_trans Z_11 (Keep.of_wr W25).1
  have K_25 : Keep h0 h25 [o0] := K_11.wr W25 (oI 0 rfl)
  have N25 := Fr.snoc X25 N11 g_o0
  refine oG T25 m 82 #[rv o0, iv 0, rv o3] [(.int 0), (.int 1), (.ref o3)] (st25) ?_
  refine oG T25 m 83 #[rv o0, iv 0, rv o3] [(.int ((1 : Int32) + (0 : Int32))), (.ref o3)] (fun t k => XS.iadd X25.here hx rfl (hb hB d25_82) rfl k) ?_
  rw [show ((1 : Int32) + (0 : Int32)) = (1 : Int32) from by decide]
  refine oG T25 m 84 #[rv o0, iv 0, rv o3] [(.ref o5)] (own_aaload X25 hx hZ e25 cf35 rfl (j := (1 : Int32)) ⟨by decide, by decide⟩ rfl (hb hB d25_83)) ?_
  refine own_retA X25 hx hlk hret rfl rfl rfl (hb hB d25_84) (by decide) (by decide) ?_
  rw [e25]
  exact ⟨rfl, N25, K_25, cf27, cf28, cf29, cf36, F25⟩
theorem qQ68 (m : MethodId) (q0 : Addr) : entryFrame m #[(.ref q0)] 1 = mkF m 0 #[rv q0] [] := by first | (simp [entryFrame, mkF, argsToLocals, Value.category]; done) | rfl
theorem sp97 (l : Launch) (Z : State) (a0 : Array Value) (hw : ∀ d ∈ tables_1, d.before a0 Z = true) (ws : List Jvm.Cond) (o0 o1 : Addr) (h0 : Heap) (n0 : Nat) (Z0 : n0 ≤ h0.size) (F_cursor_o0 : Fld Z h0 o0 OwnK2 "cursor" "I" (.int 1)) (F_this_0_o0 : Fld Z h0 o0 OwnK2 "this$0" OwnK7 (.ref o1)) (F_size_o1 : Fld Z h0 o1 OwnK3 "size" "I" (.int 2)) :
    OwnC l Z (⟨OwnK2, "hasNext", "()Z"⟩ : MethodName) jdk_136_method_2_code 1 (some .boolean) ws ({ frames := 0, cells := 0, slots := 0, locals := 0 } : Room) #[(.ref o0)] h0 (fun v h L => v = some (.int 1) ∧ h = h0 ∧ L = []) := by
  refine own_entry qQ23 (fun m => qQ68 m o0) ?_
  intro p e s m below meth c T0 X0 hC e0
  obtain ⟨hx, hB, hml, hown, hnm, hret, hlk, hZ⟩ := hC
  have N0 := Fr.nil n0
  have K0 := Keep.refl h0 []
  refine oG T0 m 1 #[rv o0] [(.ref o0)] (fun t k => XS.aloadN X0.here hx rfl (hb hB d24_0) rfl rfl k) ?_
  obtain ⟨T1, X1, e1, st1⟩ := getF X0 hx hZ hown (host := "") (Or.inl (oW hw 189 rfl)) Via.refl e0 F_cursor_o0 (g := (mkF m 1 #[rv o0] [(.ref o0)])) rfl rfl (hb hB d24_1)
  refine oG T1 m 4 #[rv o0] [(.int 1)] (st1) ?_
  refine oG T1 m 5 #[rv o0] [(.ref o0), (.int 1)] (fun t k => XS.aloadN X1.here hx rfl (hb hB d24_4) rfl rfl k) ?_
  obtain ⟨T2, X2, e2, st2⟩ := getF X1 hx hZ hown (host := "") (Or.inl (oW hw 184 rfl)) Via.refl e1 F_this_0_o0 (g := (mkF m 5 #[rv o0] [(.ref o0), (.int 1)])) rfl rfl (hb hB d24_5)
  refine oG T2 m 8 #[rv o0] [(.ref o1), (.int 1)] (st2) ?_
  refine oG T2 m 11 #[rv o0] [(.int 2), (.int 1)] (own_getfRef X2 hx hZ hown (oW hw 205 rfl) e2 F_size_o1 (hb hB d24_8)) ?_
  refine oG T2 m 14 #[rv o0] [] (fun t k => XS.icmpNo X2.here hx rfl (hb hB d24_11) rfl (feq (by decide)).1 k) ?_
  refine oG T2 m 15 #[rv o0] [(.int 1)] (fun t k => XS.iconst X2.here hx rfl (hb hB d24_14) k) ?_
  refine oG T2 m 19 #[rv o0] [(.int 1)] (fun t k => XS.goto X2.here hx rfl (pc0 := 15) (pc' := 19) rfl (hb hB d24_15) (by decide) (by decide) k) ?_
  refine own_retZ X2 hx hlk hret (by decide) (hb hB d24_19) (by decide) (by decide) ?_
  exact ⟨rfl, e2, rfl⟩
theorem qQ86 (m : MethodId) (q0 : Addr) : entryFrame m #[(.ref q0)] 3 = mkF m 0 #[rv q0, .unset, .unset] [] := by first | (simp [entryFrame, mkF, argsToLocals, Value.category]; done) | rfl
theorem sp98 (l : Launch) (Z : State) (a0 : Array Value) (hw : ∀ d ∈ tables_1, d.before a0 Z = true) (ws : List Jvm.Cond) (o0 o1 o2 o3 o4 o5 o6 : Addr) (c0 : ClassId) (h0 : Heap) (n0 : Nat) (Z0 : n0 ≤ h0.size) (E_o0 : Exa Z h0 o0 OwnK2) (F_cursor_o0 : Fld Z h0 o0 OwnK2 "cursor" "I" (.int 1)) (F_xM_o0 : Fld Z h0 o0 OwnK2 "expectedModCount" "I" (.int 3)) (F_lastRet_o0 : Fld Z h0 o0 OwnK2 "lastRet" "I" (.int 0)) (F_this_0_o0 : Fld Z h0 o0 OwnK2 "this$0" OwnK7 (.ref o1)) (F_val_index_o0 : Fld Z h0 o0 OwnK2 "val$index" "I" (.int 0)) (F_offset_o1 : Fld Z h0 o1 OwnK3 "offset" "I" (.int 1)) (F_root_o1 : Fld Z h0 o1 OwnK3 "root" OwnK8 (.ref o2)) (F_size_o1 : Fld Z h0 o1 OwnK3 "size" "I" (.int 2)) (F_elementData_o2 : Fld Z h0 o2 OwnK4 "elementData" OwnK6 (.ref o3)) (F_mC_o2 : Fld Z h0 o2 OwnK5 "modCount" "I" (.int 3)) (V_o3 : Arv Z h0 o3 c0 (.object "java/lang/Object") (10 : Int32) [(.ref o4), (.ref o5), (.ref o6), .null, .null, .null, .null, .null, .null, .null] .null) (O_o3 : Ovr Z c0 "java/lang/Object") (ne_o0_o1 : o0 ≠ o1) (ne_o0_o2 : o0 ≠ o2) (ne_o0_o3 : o0 ≠ o3) (ne_o0_o4 : o0 ≠ o4) (ne_o0_o5 : o0 ≠ o5) (ne_o0_o6 : o0 ≠ o6) (g_o0 : n0 ≤ o0) :
    OwnC l Z (⟨OwnK2, "next", "()Ljava/lang/Object;"⟩ : MethodName) jdk_136_method_3_code 3 (some (.object "java/lang/Object")) ws ({ frames := 1, cells := 0, slots := 0, locals := 12 } : Room) #[(.ref o0)] h0 (fun v h L => v = some (.ref o6) ∧ Fr n0 L ∧ Keep h0 h [o0] ∧ Fld Z h o0 OwnK2 "expectedModCount" "I" (.int 3) ∧ Fld Z h o0 OwnK2 "this$0" OwnK7 (.ref o1) ∧ Fld Z h o0 OwnK2 "val$index" "I" (.int 0) ∧ Fld Z h o0 OwnK2 "cursor" "I" (.int 2) ∧ Fld Z h o0 OwnK2 "lastRet" "I" (.int 1)) := by
  refine own_entry qQ13 (fun m => qQ86 m o0) ?_
  intro p e s m below meth c T0 X0 hC e0
  obtain ⟨hx, hB, hml, hown, hnm, hret, hlk, hZ⟩ := hC
  have N0 := Fr.nil n0
  have K0 := Keep.refl h0 [o0]
  refine oG T0 m 1 #[rv o0, .unset, .unset] [(.ref o0)] (fun t k => XS.aloadN X0.here hx rfl (hb hB d25_0) rfl rfl k) ?_
  obtain ⟨_, T1, L1, X1, ⟨rfl, e1, rfl⟩, st1⟩ := own_virtual X0 hx hZ (y := (⟨OwnK2, "checkForComodification", "()V"⟩ : MethodName)) (z := (⟨OwnK2, "checkForComodification", "()V"⟩ : MethodName)) hown (oW hw 214 rfl) (oW hw 215 rfl) (notFace_of_selects (args := #[]) (mvT hZ (oW hw 217 rfl))) (oW hw 217 rfl) (oW hw 216 rfl) (oW hw 179 rfl) (oW hw 218 rfl) (by decide) (sp88 l Z a0 hw [] o0 o1 o2 h0 n0 Z0 F_xM_o0 F_this_0_o0 F_root_o1 F_mC_o2) e0 E_o0 0 (argsL := []) (rest := []) (Ls := #[rv o0, .unset, .unset]) (by rw [hml]; rfl) (lenOf qQ155 rfl) rfl rfl (Nat.le_of_eq rfl) (hb hB d25_1) (by decide) (by decide) (by decide) (by decide)
  replace X1 := own_nil X1
  refine oG T1 m 4 #[rv o0, .unset, .unset] [] (st1) ?_
  refine oG T1 m 5 #[rv o0, .unset, .unset] [(.ref o0)] (fun t k => XS.aloadN X1.here hx rfl (hb hB d25_4) rfl rfl k) ?_
  obtain ⟨T2, X2, e2, st2⟩ := getF X1 hx hZ hown (host := "") (Or.inl (oW hw 189 rfl)) Via.refl e1 F_cursor_o0 (g := (mkF m 5 #[rv o0, .unset, .unset] [(.ref o0)])) rfl rfl (hb hB d25_5)
  refine oG T2 m 8 #[rv o0, .unset, .unset] [(.int 1)] (st2) ?_
  refine oG T2 m 9 #[rv o0, iv 1, .unset] [] (fun t k => XS.istoreN X2.here hx rfl (hb hB d25_8) rfl rfl k) ?_
  refine oG T2 m 10 #[rv o0, iv 1, .unset] [(.int 1)] (fun t k => XS.iloadN X2.here hx rfl (hb hB d25_9) rfl k) ?_
  refine oG T2 m 11 #[rv o0, iv 1, .unset] [(.ref o0), (.int 1)] (fun t k => XS.aloadN X2.here hx rfl (hb hB d25_10) rfl rfl k) ?_
  obtain ⟨T3, X3, e3, st3⟩ := getF X2 hx hZ hown (host := "") (Or.inl (oW hw 184 rfl)) Via.refl e2 F_this_0_o0 (g := (mkF m 11 #[rv o0, iv 1, .unset] [(.ref o0), (.int 1)])) rfl rfl (hb hB d25_11)
  refine oG T3 m 14 #[rv o0, iv 1, .unset] [(.ref o1), (.int 1)] (st3) ?_
  refine oG T3 m 17 #[rv o0, iv 1, .unset] [(.int 2), (.int 1)] (own_getfRef X3 hx hZ hown (oW hw 205 rfl) e3 F_size_o1 (hb hB d25_14)) ?_
  refine oG T3 m 28 #[rv o0, iv 1, .unset] [] (fun t k => XS.icmpYes X3.here hx rfl (pc0 := 17) (pc' := 28) rfl (hb hB d25_17) rfl (tlt (by decide)).1 (by decide) (by decide) k) ?_
  refine oG T3 m 29 #[rv o0, iv 1, .unset] [(.ref o0)] (fun t k => XS.aloadN X3.here hx rfl (hb hB d25_28) rfl rfl k) ?_
  obtain ⟨T5, X5, e5, st5⟩ := getF X3 hx hZ hown (host := "") (Or.inl (oW hw 184 rfl)) Via.refl e3 F_this_0_o0 (g := (mkF m 29 #[rv o0, iv 1, .unset] [(.ref o0)])) rfl rfl (hb hB d25_29)
  refine oG T5 m 32 #[rv o0, iv 1, .unset] [(.ref o1)] (st5) ?_
  refine oG T5 m 35 #[rv o0, iv 1, .unset] [(.ref o2)] (own_getfRef X5 hx hZ hown (oW hw 219 rfl) e5 F_root_o1 (hb hB d25_32)) ?_
  obtain ⟨T7, X7, e7, st7⟩ := getF X5 hx hZ hown (host := "") (Or.inl (oW hw 221 rfl)) Via.refl e5 F_elementData_o2 (g := (mkF m 35 #[rv o0, iv 1, .unset] [(.ref o2)])) rfl rfl (hb hB d25_35)
  refine oG T7 m 38 #[rv o0, iv 1, .unset] [(.ref o3)] (st7) ?_
  refine oG T7 m 39 #[rv o0, iv 1, rv o3] [] (fun t k => XS.astoreN X7.here hx rfl (hb hB d25_38) rfl rfl rfl k) ?_
  refine oG T7 m 40 #[rv o0, iv 1, rv o3] [(.ref o0)] (fun t k => XS.aloadN X7.here hx rfl (hb hB d25_39) rfl rfl k) ?_
  obtain ⟨T8, X8, e8, st8⟩ := getF X7 hx hZ hown (host := "") (Or.inl (oW hw 184 rfl)) Via.refl e7 F_this_0_o0 (g := (mkF m 40 #[rv o0, iv 1, rv o3] [(.ref o0)])) rfl rfl (hb hB d25_40)
  refine oG T8 m 43 #[rv o0, iv 1, rv o3] [(.ref o1)] (st8) ?_
  refine oG T8 m 46 #[rv o0, iv 1, rv o3] [(.int 1)] (own_getfRef X8 hx hZ hown (oW hw 222 rfl) e8 F_offset_o1 (hb hB d25_43)) ?_
  refine oG T8 m 47 #[rv o0, iv 1, rv o3] [(.int 1), (.int 1)] (fun t k => XS.iloadN X8.here hx rfl (hb hB d25_46) rfl k) ?_
  refine oG T8 m 48 #[rv o0, iv 1, rv o3] [(.int ((1 : Int32) + (1 : Int32)))] (fun t k => XS.iadd X8.here hx rfl (hb hB d25_47) rfl k) ?_
  rw [show ((1 : Int32) + (1 : Int32)) = (2 : Int32) from by decide]
  refine oG T8 m 49 #[rv o0, iv 1, rv o3] [(.ref o3), (.int 2)] (fun t k => XS.aloadN X8.here hx rfl (hb hB d25_48) rfl rfl k) ?_
  refine oG T8 m 50 #[rv o0, iv 1, rv o3] [(.int 10), (.int 2)] (own_alen X8 hx hZ e8 V_o3 (hb hB d25_49)) ?_
  refine oG T8 m 61 #[rv o0, iv 1, rv o3] [] (fun t k => XS.icmpYes X8.here hx rfl (pc0 := 50) (pc' := 61) rfl (hb hB d25_50) rfl (tlt (by decide)).1 (by decide) (by decide) k) ?_
  refine oG T8 m 62 #[rv o0, iv 1, rv o3] [(.ref o0)] (fun t k => XS.aloadN X8.here hx rfl (hb hB d25_61) rfl rfl k) ?_
  refine oG T8 m 63 #[rv o0, iv 1, rv o3] [(.int 1), (.ref o0)] (fun t k => XS.iloadN X8.here hx rfl (hb hB d25_62) rfl k) ?_
  refine oG T8 m 64 #[rv o0, iv 1, rv o3] [(.int 1), (.int 1), (.ref o0)] (fun t k => XS.iconst X8.here hx rfl (hb hB d25_63) k) ?_
  refine oG T8 m 65 #[rv o0, iv 1, rv o3] [(.int ((1 : Int32) + (1 : Int32))), (.ref o0)] (fun t k => XS.iadd X8.here hx rfl (hb hB d25_64) rfl k) ?_
  rw [show ((1 : Int32) + (1 : Int32)) = (2 : Int32) from by decide]
  obtain ⟨T11, h11, X11, e11, W11, st11⟩ := putF X8 hx hZ hown (host := "") (Or.inl (oW hw 189 rfl)) Via.refl e8 F_cursor_o0 E_o0 (Or.inl (oW hw 190 rfl)) (oW hw 178 rfl) (ty := .int) (by decide) rfl rfl (g := (mkF m 65 #[rv o0, iv 1, rv o3] [(.int 2), (.ref o0)])) rfl rfl (hb hB d25_65)
  have F11 := F_cursor_o0.same W11
  have cf12 := E_o0.wr W11
  have cf13 := F_xM_o0.other W11 (Or.inr (slot_ne (Or.inl (oW hw 195 rfl)) (Or.inl (oW hw 190 rfl)) (by decide) (t := .int) (t' := .int) (by decide) (by decide)))
  have cf14 := F_lastRet_o0.other W11 (Or.inr (slot_ne (Or.inl (oW hw 192 rfl)) (Or.inl (oW hw 190 rfl)) (by decide) (t := .int) (t' := .int) (by decide) (by decide)))
  have cf15 := F_this_0_o0.other W11 (Or.inr (slot_ne (Or.inr (oW hw 185 rfl)) (Or.inl (oW hw 190 rfl)) (by decide) (t := (.object OwnK3)) (t' := .int) (by decide) (by decide)))
  have cf16 := F_val_index_o0.other W11 (Or.inr (slot_ne (Or.inr (oW hw 187 rfl)) (Or.inl (oW hw 190 rfl)) (by decide) (t := .int) (t' := .int) (by decide) (by decide)))
  have cf17 := F_offset_o1.other W11 (Or.inl (Ne.symm ne_o0_o1))
  have cf18 := F_root_o1.other W11 (Or.inl (Ne.symm ne_o0_o1))
  have cf19 := F_size_o1.other W11 (Or.inl (Ne.symm ne_o0_o1))
  have cf20 := F_elementData_o2.other W11 (Or.inl (Ne.symm ne_o0_o2))
  have cf21 := F_mC_o2.other W11 (Or.inl (Ne.symm ne_o0_o2))
  have cf22 := V_o3.other W11 (Ne.symm ne_o0_o3)
  have Z_11 : n0 ≤ h11.size := Nat.le_trans Z0 (Keep.of_wr W11).1
  have K_11 : Keep h0 h11 [o0] := K0.wr W11 (oI 0 rfl)
  have N11 := Fr.snoc X11 N0 g_o0
  refine oG T11 m 68 #[rv o0, iv 1, rv o3] [] (st11) ?_
  refine oG T11 m 69 #[rv o0, iv 1, rv o3] [(.ref o3)] (fun t k => XS.aloadN X11.here hx rfl (hb hB d25_68) rfl rfl k) ?_
  refine oG T11 m 70 #[rv o0, iv 1, rv o3] [(.ref o0), (.ref o3)] (fun t k => XS.aloadN X11.here hx rfl (hb hB d25_69) rfl rfl k) ?_
  obtain ⟨T23, X23, e23, st23⟩ := getF X11 hx hZ hown (host := "") (Or.inl (oW hw 184 rfl)) Via.refl e11 cf15 (g := (mkF m 70 #[rv o0, iv 1, rv o3] [(.ref o0), (.ref o3)])) rfl rfl (hb hB d25_70)
  refine oG T23 m 73 #[rv o0, iv 1, rv o3] [(.ref o1), (.ref o3)] (st23) ?_
  refine oG T23 m 76 #[rv o0, iv 1, rv o3] [(.int 1), (.ref o3)] (own_getfRef X23 hx hZ hown (oW hw 222 rfl) e23 cf17 (hb hB d25_73)) ?_
  refine oG T23 m 77 #[rv o0, iv 1, rv o3] [(.ref o0), (.int 1), (.ref o3)] (fun t k => XS.aloadN X23.here hx rfl (hb hB d25_76) rfl rfl k) ?_
  refine oG T23 m 78 #[rv o0, iv 1, rv o3] [(.int 1), (.ref o0), (.int 1), (.ref o3)] (fun t k => XS.iloadN X23.here hx rfl (hb hB d25_77) rfl k) ?_
  refine oG T23 m 79 #[rv o0, iv 1, rv o3] [(.int 1), (.ref o0), (.int 1), (.int 1), (.ref o3)] (fun t k => XS.dupX1 X23.here hx rfl (hb hB d25_78) rfl rfl rfl k) ?_
  obtain ⟨T25, h25, X25, e25, W25, st25⟩ := putF X23 hx hZ hown (host := "") (Or.inl (oW hw 191 rfl)) Via.refl e23 cf14 cf12 (Or.inl (oW hw 192 rfl)) (oW hw 178 rfl) (ty := .int) (by decide) rfl rfl (g := (mkF m 79 #[rv o0, iv 1, rv o3] [(.int 1), (.ref o0), (.int 1), (.int 1), (.ref o3)])) rfl rfl (hb hB d25_79)
  have F25 := cf14.same W25
  have cf26 := cf12.wr W25
  have cf27 := cf13.other W25 (Or.inr (slot_ne (Or.inl (oW hw 195 rfl)) (Or.inl (oW hw 192 rfl)) (by decide) (t := .int) (t' := .int) (by decide) (by decide)))
  have cf28 := cf15.other W25 (Or.inr (slot_ne (Or.inr (oW hw 185 rfl)) (Or.inl (oW hw 192 rfl)) (by decide) (t := (.object OwnK3)) (t' := .int) (by decide) (by decide)))
  have cf29 := cf16.other W25 (Or.inr (slot_ne (Or.inr (oW hw 187 rfl)) (Or.inl (oW hw 192 rfl)) (by decide) (t := .int) (t' := .int) (by decide) (by decide)))
  have cf30 := cf17.other W25 (Or.inl (Ne.symm ne_o0_o1))
  have cf31 := cf18.other W25 (Or.inl (Ne.symm ne_o0_o1))
  have cf32 := cf19.other W25 (Or.inl (Ne.symm ne_o0_o1))
  have cf33 := cf20.other W25 (Or.inl (Ne.symm ne_o0_o2))
  have cf34 := cf21.other W25 (Or.inl (Ne.symm ne_o0_o2))
  have cf35 := cf22.other W25 (Ne.symm ne_o0_o3)
  have cf36 := F11.other W25 (Or.inr (slot_ne (Or.inl (oW hw 190 rfl)) (Or.inl (oW hw 192 rfl)) (by decide) (t := .int) (t' := .int) (by decide) (by decide)))
  have Z_25 : n0 ≤ h25.size := Nat.le_trans Z_11 (Keep.of_wr W25).1
  have K_25 : Keep h0 h25 [o0] := K_11.wr W25 (oI 0 rfl)
  have N25 := Fr.snoc X25 N11 g_o0
  refine oG T25 m 82 #[rv o0, iv 1, rv o3] [(.int 1), (.int 1), (.ref o3)] (st25) ?_
  refine oG T25 m 83 #[rv o0, iv 1, rv o3] [(.int ((1 : Int32) + (1 : Int32))), (.ref o3)] (fun t k => XS.iadd X25.here hx rfl (hb hB d25_82) rfl k) ?_
  rw [show ((1 : Int32) + (1 : Int32)) = (2 : Int32) from by decide]
  refine oG T25 m 84 #[rv o0, iv 1, rv o3] [(.ref o6)] (own_aaload X25 hx hZ e25 cf35 rfl (j := (2 : Int32)) ⟨by decide, by decide⟩ rfl (hb hB d25_83)) ?_
  refine own_retA X25 hx hlk hret rfl rfl rfl (hb hB d25_84) (by decide) (by decide) ?_
  rw [e25]
  exact ⟨rfl, N25, K_25, cf27, cf28, cf29, cf36, F25⟩
theorem qQ78 (m : MethodId) (q0 : Addr) : entryFrame m #[(.ref q0)] 1 = mkF m 0 #[rv q0] [] := by first | (simp [entryFrame, mkF, argsToLocals, Value.category]; done) | rfl
theorem sp99 (l : Launch) (Z : State) (a0 : Array Value) (hw : ∀ d ∈ tables_1, d.before a0 Z = true) (ws : List Jvm.Cond) (o0 o1 : Addr) (h0 : Heap) (n0 : Nat) (Z0 : n0 ≤ h0.size) (F_cursor_o0 : Fld Z h0 o0 OwnK2 "cursor" "I" (.int 2)) (F_this_0_o0 : Fld Z h0 o0 OwnK2 "this$0" OwnK7 (.ref o1)) (F_size_o1 : Fld Z h0 o1 OwnK3 "size" "I" (.int 2)) :
    OwnC l Z (⟨OwnK2, "hasNext", "()Z"⟩ : MethodName) jdk_136_method_2_code 1 (some .boolean) ws ({ frames := 0, cells := 0, slots := 0, locals := 0 } : Room) #[(.ref o0)] h0 (fun v h L => v = some (.int 0) ∧ h = h0 ∧ L = []) := by
  refine own_entry qQ23 (fun m => qQ78 m o0) ?_
  intro p e s m below meth c T0 X0 hC e0
  obtain ⟨hx, hB, hml, hown, hnm, hret, hlk, hZ⟩ := hC
  have N0 := Fr.nil n0
  have K0 := Keep.refl h0 []
  refine oG T0 m 1 #[rv o0] [(.ref o0)] (fun t k => XS.aloadN X0.here hx rfl (hb hB d24_0) rfl rfl k) ?_
  obtain ⟨T1, X1, e1, st1⟩ := getF X0 hx hZ hown (host := "") (Or.inl (oW hw 189 rfl)) Via.refl e0 F_cursor_o0 (g := (mkF m 1 #[rv o0] [(.ref o0)])) rfl rfl (hb hB d24_1)
  refine oG T1 m 4 #[rv o0] [(.int 2)] (st1) ?_
  refine oG T1 m 5 #[rv o0] [(.ref o0), (.int 2)] (fun t k => XS.aloadN X1.here hx rfl (hb hB d24_4) rfl rfl k) ?_
  obtain ⟨T2, X2, e2, st2⟩ := getF X1 hx hZ hown (host := "") (Or.inl (oW hw 184 rfl)) Via.refl e1 F_this_0_o0 (g := (mkF m 5 #[rv o0] [(.ref o0), (.int 2)])) rfl rfl (hb hB d24_5)
  refine oG T2 m 8 #[rv o0] [(.ref o1), (.int 2)] (st2) ?_
  refine oG T2 m 11 #[rv o0] [(.int 2), (.int 2)] (own_getfRef X2 hx hZ hown (oW hw 205 rfl) e2 F_size_o1 (hb hB d24_8)) ?_
  refine oG T2 m 18 #[rv o0] [] (fun t k => XS.icmpYes X2.here hx rfl (pc0 := 11) (pc' := 18) rfl (hb hB d24_11) rfl (teq (by decide)).1 (by decide) (by decide) k) ?_
  refine oG T2 m 19 #[rv o0] [(.int 0)] (fun t k => XS.iconst X2.here hx rfl (hb hB d24_18) k) ?_
  refine own_retZ X2 hx hlk hret (by decide) (hb hB d24_19) (by decide) (by decide) ?_
  exact ⟨rfl, e2, rfl⟩
theorem qQ147 (m : MethodId) (q0 : Addr) (q1 : Addr) : entryFrame m #[(.ref q0), (.ref q1)] 4 = mkF m 0 #[rv q0, rv q1, .unset, .unset] [] := by first | (simp [entryFrame, mkF, argsToLocals, Value.category]; done) | rfl
theorem sp89 (l : Launch) (Z : State) (a0 : Array Value) (hw : ∀ d ∈ tables_1, d.before a0 Z = true) (ws : List Jvm.Cond) (o0 o1 o2 o3 o4 o5 : Addr) (u0 : Int64) (u1 : Int64) (u2 : Int64) (c0 : ClassId) (h0 : Heap) (n0 : Nat) (Z0 : n0 ≤ h0.size) (F_ahead_o0 : Fld Z h0 o0 OwnK1 "ahead" "I" (.int 1)) (F_changes_o0 : Fld Z h0 o0 OwnK1 "changes" "Ljava/util/List;" (.ref o2)) (E_o1 : Exa Z h0 o1 OwnK0) (F_id_o1 : Fld Z h0 o1 OwnK0 "id" "J" (.long u0)) (E_o2 : Exa Z h0 o2 OwnK4) (F_elementData_o2 : Fld Z h0 o2 OwnK4 "elementData" OwnK6 (.ref o3)) (F_mC_o2 : Fld Z h0 o2 OwnK5 "modCount" "I" (.int 3)) (F_size_o2 : Fld Z h0 o2 OwnK4 "size" "I" (.int 3)) (V_o3 : Arv Z h0 o3 c0 (.object "java/lang/Object") (10 : Int32) [(.ref o1), (.ref o4), (.ref o5), .null, .null, .null, .null, .null, .null, .null] .null) (O_o3 : Ovr Z c0 "java/lang/Object") (E_o4 : Exa Z h0 o4 OwnK0) (F_id_o4 : Fld Z h0 o4 OwnK0 "id" "J" (.long u1)) (E_o5 : Exa Z h0 o5 OwnK0) (F_id_o5 : Fld Z h0 o5 OwnK0 "id" "J" (.long u2)) (ne_o0_o1 : o0 ≠ o1) (ne_o0_o2 : o0 ≠ o2) (ne_o0_o3 : o0 ≠ o3) (ne_o0_o4 : o0 ≠ o4) (ne_o0_o5 : o0 ≠ o5) (hq0 : ¬ (u1 = u0)) (hq1 : ¬ (u2 = u0)) :
    OwnC l Z (⟨OwnK1, "isOfBacklog", "(Lcom/example/newt/newt/core/delivery/Change;)Z"⟩ : MethodName) prog_11_method_4_code 4 (some .boolean) ws ({ frames := 5, cells := 2, slots := 10, locals := 66 } : Room) #[(.ref o0), (.ref o1)] h0 (fun v h L => v = some (.int 0) ∧ Fr n0 L ∧ Keep h0 h []) := by
  refine own_entry qQ2 (fun m => qQ147 m o0 o1) ?_
  intro p e s m below meth c T0 X0 hC e0
  obtain ⟨hx, hB, hml, hown, hnm, hret, hlk, hZ⟩ := hC
  have N0 := Fr.nil n0
  have K0 := Keep.refl h0 []
  refine oG T0 m 1 #[rv o0, rv o1, .unset, .unset] [(.ref o0)] (fun t k => XS.aloadN X0.here hx rfl (hb hB d13_0) rfl rfl k) ?_
  obtain ⟨T1, X1, e1, st1⟩ := getF X0 hx hZ hown (host := "") (Or.inl (oW hw 58 rfl)) Via.refl e0 F_changes_o0 (g := (mkF m 1 #[rv o0, rv o1, .unset, .unset] [(.ref o0)])) rfl rfl (hb hB d13_1)
  refine oG T1 m 4 #[rv o0, rv o1, .unset, .unset] [(.ref o2)] (st1) ?_
  refine oG T1 m 5 #[rv o0, rv o1, .unset, .unset] [(.ref o0), (.ref o2)] (fun t k => XS.aloadN X1.here hx rfl (hb hB d13_4) rfl rfl k) ?_
  obtain ⟨T2, X2, e2, st2⟩ := getF X1 hx hZ hown (host := "") (Or.inl (oW hw 60 rfl)) Via.refl e1 F_ahead_o0 (g := (mkF m 5 #[rv o0, rv o1, .unset, .unset] [(.ref o0), (.ref o2)])) rfl rfl (hb hB d13_5)
  refine oG T2 m 8 #[rv o0, rv o1, .unset, .unset] [(.int 1), (.ref o2)] (st2) ?_
  refine oG T2 m 9 #[rv o0, rv o1, .unset, .unset] [(.ref o0), (.int 1), (.ref o2)] (fun t k => XS.aloadN X2.here hx rfl (hb hB d13_8) rfl rfl k) ?_
  obtain ⟨T3, X3, e3, st3⟩ := getF X2 hx hZ hown (host := "") (Or.inl (oW hw 58 rfl)) Via.refl e2 F_changes_o0 (g := (mkF m 9 #[rv o0, rv o1, .unset, .unset] [(.ref o0), (.int 1), (.ref o2)])) rfl rfl (hb hB d13_9)
  refine oG T3 m 12 #[rv o0, rv o1, .unset, .unset] [(.ref o2), (.int 1), (.ref o2)] (st3) ?_
  obtain ⟨_, T4, L4, X4, ⟨rfl, e4, rfl⟩, st4⟩ := own_interface X3 hx hZ (xi := (⟨"java/util/List", "size", "()I"⟩ : MethodName)) (y := (⟨OwnK4, "size", "()I"⟩ : MethodName)) hown (oW hw 103 rfl) (oW hw 104 rfl) (mvT hZ (oW hw 105 rfl)) (oW hw 106 rfl) (oW hw 107 rfl) (oW hw 108 rfl) (oW hw 109 rfl) (oW hw 110 rfl) (oW hw 29 rfl) (oW hw 111 rfl) (by decide) (sp76 l Z a0 hw [] o2 h0 n0 Z0 F_size_o2) e3 E_o2 2 (argsL := []) (rest := [(.int 1), (.ref o2)]) (Ls := #[rv o0, rv o1, .unset, .unset]) (by rw [hml]; rfl) (lenOf qQ153 rfl) rfl rfl (Nat.le_of_eq rfl) (hb hB d13_12) (by decide) (by decide) (by decide) (by decide)
  replace X4 := own_nil X4
  refine oG T4 m 17 #[rv o0, rv o1, .unset, .unset] [(.int 3), (.int 1), (.ref o2)] (st4) ?_
  obtain ⟨_, T5, L5, X5, ⟨w0_5, rfl, Nq5, Kq5, syw0_5, fq0_5, fq1_5, fq2_5, fq3_5, fq4_5⟩, st5⟩ := own_interface X4 hx hZ (xi := (⟨"java/util/List", "subList", "(II)Ljava/util/List;"⟩ : MethodName)) (y := (⟨OwnK4, "subList", "(II)Ljava/util/List;"⟩ : MethodName)) hown (oW hw 112 rfl) (oW hw 113 rfl) (mvT hZ (oW hw 114 rfl)) (oW hw 115 rfl) (oW hw 116 rfl) (oW hw 117 rfl) (oW hw 118 rfl) (oW hw 110 rfl) (oW hw 29 rfl) (oW hw 119 rfl) (by decide) (sp90 l Z a0 hw [] o2 h0 n0 Z0 F_mC_o2 F_size_o2) e4 E_o2 0 (argsL := [(.int 1), (.int 3)]) (rest := []) (Ls := #[rv o0, rv o1, .unset, .unset]) (by rw [hml]; rfl) (lenOf qQ39 rfl) rfl rfl (Nat.le_of_eq rfl) (hb hB d13_17) (by decide) (by decide) (by decide) (by decide)
  have g_w0_5 : n0 ≤ w0_5 := syw0_5.2
  have sz_w0_5 : h0.size ≤ w0_5 := Nat.le_trans K0.1 syw0_5.1
  have ne_o0_w0_5 : o0 ≠ w0_5 := Nat.ne_of_lt (Nat.lt_of_lt_of_le F_ahead_o0.lt syw0_5.1)
  have ne_o1_w0_5 : o1 ≠ w0_5 := Nat.ne_of_lt (Nat.lt_of_lt_of_le E_o1.lt syw0_5.1)
  have ne_o2_w0_5 : o2 ≠ w0_5 := Nat.ne_of_lt (Nat.lt_of_lt_of_le E_o2.lt syw0_5.1)
  have ne_o3_w0_5 : o3 ≠ w0_5 := Nat.ne_of_lt (Nat.lt_of_lt_of_le V_o3.lt syw0_5.1)
  have ne_o4_w0_5 : o4 ≠ w0_5 := Nat.ne_of_lt (Nat.lt_of_lt_of_le E_o4.lt syw0_5.1)
  have ne_o5_w0_5 : o5 ≠ w0_5 := Nat.ne_of_lt (Nat.lt_of_lt_of_le E_o5.lt syw0_5.1)
  have N5 := Fr.app N0 Nq5
  have cf6 := F_ahead_o0.keep Kq5 nin0
  have cf7 := F_changes_o0.keep Kq5 nin0
  have cf8 := E_o1.keep Kq5
  have cf9 := F_id_o1.keep Kq5 nin0
  have cf10 := E_o2.keep Kq5
  have cf11 := F_elementData_o2.keep Kq5 nin0
  have cf12 := F_mC_o2.keep Kq5 nin0
  have cf13 := F_size_o2.keep Kq5 nin0
  have cf14 := V_o3.keep Kq5 nin0
  have cf15 := E_o4.keep Kq5
  have cf16 := F_id_o4.keep Kq5 nin0
  have cf17 := E_o5.keep Kq5
  have cf18 := F_id_o5.keep Kq5 nin0
  have Z_5 : n0 ≤ T5.heap.size := Nat.le_trans Z0 Kq5.1
  have K_5 : Keep h0 T5.heap [] := K0.trans Kq5 all0
  refine oG T5 m 22 #[rv o0, rv o1, .unset, .unset] [(.ref w0_5)] (st5) ?_
  obtain ⟨_, T19, L19, X19, ⟨w0_19, rfl, Nq19, Kq19, syw0_19, fq0_19, fq1_19, fq2_19, fq3_19, fq4_19, fq5_19⟩, st19⟩ := own_interface X5 hx hZ (xi := (⟨"java/util/List", "iterator", "()Ljava/util/Iterator;"⟩ : MethodName)) (y := (⟨OwnK3, "iterator", "()Ljava/util/Iterator;"⟩ : MethodName)) hown (oW hw 146 rfl) (oW hw 147 rfl) (mvT hZ (oW hw 148 rfl)) (oW hw 149 rfl) (oW hw 150 rfl) (oW hw 151 rfl) (oW hw 152 rfl) (oW hw 153 rfl) (oW hw 126 rfl) (oW hw 154 rfl) (by decide) (sp93 l Z a0 hw [] w0_5 o2 T5.heap n0 Z_5 fq0_5 fq4_5 fq1_5 fq3_5 cf12) rfl fq0_5 0 (argsL := []) (rest := []) (Ls := #[rv o0, rv o1, .unset, .unset]) (by rw [hml]; rfl) (lenOf qQ35 rfl) rfl rfl (Nat.le_of_eq rfl) (hb hB d13_22) (by decide) (by decide) (by decide) (by decide)
  have g_w0_19 : n0 ≤ w0_19 := syw0_19.2
  have sz_w0_19 : h0.size ≤ w0_19 := Nat.le_trans K_5.1 syw0_19.1
  have ne_o0_w0_19 : o0 ≠ w0_19 := Nat.ne_of_lt (Nat.lt_of_lt_of_le cf6.lt syw0_19.1)
  have ne_o1_w0_19 : o1 ≠ w0_19 := Nat.ne_of_lt (Nat.lt_of_lt_of_le cf8.lt syw0_19.1)
  have ne_o2_w0_19 : o2 ≠ w0_19 := Nat.ne_of_lt (Nat.lt_of_lt_of_le cf10.lt syw0_19.1)
  have ne_o3_w0_19 : o3 ≠ w0_19 := Nat.ne_of_lt (Nat.lt_of_lt_of_le cf14.lt syw0_19.1)
  have ne_o4_w0_19 : o4 ≠ w0_19 := Nat.ne_of_lt (Nat.lt_of_lt_of_le cf15.lt syw0_19.1)
  have ne_o5_w0_19 : o5 ≠ w0_19 := Nat.ne_of_lt (Nat.lt_of_lt_of_le cf17.lt syw0_19.1)
  have ne_w0_5_w0_19 : w0_5 ≠ w0_19 := Nat.ne_of_lt (Nat.lt_of_lt_of_le fq0_5.lt syw0_19.1)
  have N19 := Fr.app N5 Nq19
  have cf20 := cf6.keep Kq19 nin0
  have cf21 := cf7.keep Kq19 nin0
  have cf22 := cf8.keep Kq19
  have cf23 := cf9.keep Kq19 nin0
  have cf24 := cf10.keep Kq19
  have cf25 := cf11.keep Kq19 nin0
  have cf26 := cf12.keep Kq19 nin0
  have cf27 := cf13.keep Kq19 nin0
  have cf28 := cf14.keep Kq19 nin0
  have cf29 := cf15.keep Kq19
  have cf30 := cf16.keep Kq19 nin0
  have cf31 := cf17.keep Kq19
  have cf32 := cf18.keep Kq19 nin0
  have cf33 := fq0_5.keep Kq19
  have cf34 := fq1_5.keep Kq19 nin0
  have cf35 := fq2_5.keep Kq19 nin0
  have cf36 := fq3_5.keep Kq19 nin0
  have cf37 := fq4_5.keep Kq19 nin0
  have Z_19 : n0 ≤ T19.heap.size := Nat.le_trans Z_5 Kq19.1
  have K_19 : Keep h0 T19.heap [] := K_5.trans Kq19 all0
  refine oG T19 m 27 #[rv o0, rv o1, .unset, .unset] [(.ref w0_19)] (st19) ?_
  refine oG T19 m 28 #[rv o0, rv o1, rv w0_19, .unset] [] (fun t k => XS.astoreN X19.here hx rfl (hb hB d13_27) rfl rfl rfl k) ?_
  refine oG T19 m 29 #[rv o0, rv o1, rv w0_19, .unset] [(.ref w0_19)] (fun t k => XS.aloadN X19.here hx rfl (hb hB d13_28) rfl rfl k) ?_
  obtain ⟨_, T38, L38, X38, ⟨rfl, e38, rfl⟩, st38⟩ := own_interface X19 hx hZ (xi := (⟨"java/util/Iterator", "hasNext", "()Z"⟩ : MethodName)) (y := (⟨OwnK2, "hasNext", "()Z"⟩ : MethodName)) hown (oW hw 196 rfl) (oW hw 197 rfl) (mvT hZ (oW hw 198 rfl)) (oW hw 199 rfl) (oW hw 200 rfl) (oW hw 201 rfl) (oW hw 202 rfl) (oW hw 203 rfl) (oW hw 179 rfl) (oW hw 204 rfl) (by decide) (sp52 l Z a0 hw [] w0_19 w0_5 T19.heap n0 Z_19 fq3_19 fq1_19 cf36) rfl fq0_19 0 (argsL := []) (rest := []) (Ls := #[rv o0, rv o1, rv w0_19, .unset]) (by rw [hml]; rfl) (lenOf qQ158 rfl) rfl rfl (Nat.le_of_eq rfl) (hb hB d13_29) (by decide) (by decide) (by decide) (by decide)
  replace X38 := own_nil X38
  refine oG T38 m 34 #[rv o0, rv o1, rv w0_19, .unset] [(.int 1)] (st38) ?_
  refine oG T38 m 37 #[rv o0, rv o1, rv w0_19, .unset] [] (fun t k => XS.ifNo X38.here hx rfl (hb hB d13_34) rfl ((if0 _ _).trans (feq (by decide)).1) k) ?_
  refine oG T38 m 38 #[rv o0, rv o1, rv w0_19, .unset] [(.ref w0_19)] (fun t k => XS.aloadN X38.here hx rfl (hb hB d13_37) rfl rfl k) ?_
  obtain ⟨_, T39, L39, X39, ⟨rfl, Nq39, Kq39, fq0_39, fq1_39, fq2_39, fq3_39, fq4_39⟩, st39⟩ := own_interface X38 hx hZ (xi := (⟨"java/util/Iterator", "next", "()Ljava/lang/Object;"⟩ : MethodName)) (y := (⟨OwnK2, "next", "()Ljava/lang/Object;"⟩ : MethodName)) hown (oW hw 206 rfl) (oW hw 207 rfl) (mvT hZ (oW hw 208 rfl)) (oW hw 209 rfl) (oW hw 210 rfl) (oW hw 211 rfl) (oW hw 212 rfl) (oW hw 203 rfl) (oW hw 179 rfl) (oW hw 213 rfl) (by decide) (sp96 l Z a0 hw [] w0_19 w0_5 o2 o3 o1 o4 o5 c0 T19.heap n0 Z_19 fq0_19 fq3_19 fq5_19 fq4_19 fq1_19 fq2_19 cf35 cf34 cf36 cf25 cf26 cf28 O_o3 (Ne.symm ne_w0_5_w0_19) (Ne.symm ne_o2_w0_19) (Ne.symm ne_o3_w0_19) (Ne.symm ne_o1_w0_19) (Ne.symm ne_o4_w0_19) (Ne.symm ne_o5_w0_19) g_w0_19) e38 fq0_19 0 (argsL := []) (rest := []) (Ls := #[rv o0, rv o1, rv w0_19, .unset]) (by rw [hml]; rfl) (lenOf qQ38 rfl) rfl rfl (Nat.le_of_eq rfl) (hb hB d13_38) (by decide) (by decide) (by decide) (by decide)
  have N39 := Fr.app N19 Nq39
  have cf40 := cf20.keep Kq39 (ninS ne_o0_w0_19 nin0)
  have cf41 := cf21.keep Kq39 (ninS ne_o0_w0_19 nin0)
  have cf42 := cf22.keep Kq39
  have cf43 := cf23.keep Kq39 (ninS ne_o1_w0_19 nin0)
  have cf44 := cf24.keep Kq39
  have cf45 := cf25.keep Kq39 (ninS ne_o2_w0_19 nin0)
  have cf46 := cf26.keep Kq39 (ninS ne_o2_w0_19 nin0)
  have cf47 := cf27.keep Kq39 (ninS ne_o2_w0_19 nin0)
  have cf48 := cf28.keep Kq39 (ninS ne_o3_w0_19 nin0)
  have cf49 := cf29.keep Kq39
  have cf50 := cf30.keep Kq39 (ninS ne_o4_w0_19 nin0)
  have cf51 := cf31.keep Kq39
  have cf52 := cf32.keep Kq39 (ninS ne_o5_w0_19 nin0)
  have cf53 := cf33.keep Kq39
  have cf54 := cf34.keep Kq39 (ninS ne_w0_5_w0_19 nin0)
  have cf55 := cf35.keep Kq39 (ninS ne_w0_5_w0_19 nin0)
  have cf56 := cf36.keep Kq39 (ninS ne_w0_5_w0_19 nin0)
  have cf57 := cf37.keep Kq39 (ninS ne_w0_5_w0_19 nin0)
  have cf58 := fq0_19.keep Kq39
  have Z_39 : n0 ≤ T39.heap.size := Nat.le_trans Z_19 Kq39.1
  have K_39 : Keep h0 T39.heap [] := K_19.trans Kq39 (allS (Or.inr sz_w0_19) all0)
  refine oG T39 m 43 #[rv o0, rv o1, rv w0_19, .unset] [(.ref o4)] (st39) ?_
  obtain ⟨T59, X59, e59, st59⟩ := castY X39 hx hZ hown (oW hw 223 rfl) rfl (Ins.self cf49) (g := (mkF m 43 #[rv o0, rv o1, rv w0_19, .unset] [(.ref o4)])) rfl rfl (hb hB d13_43)
  refine oG T59 m 46 #[rv o0, rv o1, rv w0_19, .unset] [(.ref o4)] (st59) ?_
  refine oG T59 m 47 #[rv o0, rv o1, rv w0_19, rv o4] [] (fun t k => XS.astoreN X59.here hx rfl (hb hB d13_46) rfl rfl rfl k) ?_
  refine oG T59 m 48 #[rv o0, rv o1, rv w0_19, rv o4] [(.ref o4)] (fun t k => XS.aloadN X59.here hx rfl (hb hB d13_47) rfl rfl k) ?_
  obtain ⟨_, T60, L60, X60, ⟨rfl, e60, rfl⟩, st60⟩ := own_virtual X59 hx hZ (y := (⟨OwnK0, "getId", "()J"⟩ : MethodName)) (z := (⟨OwnK0, "getId", "()J"⟩ : MethodName)) hown (oW hw 225 rfl) (oW hw 226 rfl) (notFace_of_selects (args := #[]) (mvT hZ (oW hw 228 rfl))) (oW hw 228 rfl) (oW hw 227 rfl) (oW hw 3 rfl) (oW hw 229 rfl) (by decide) (sp27 l Z a0 hw [] o4 u1 T39.heap n0 Z_39 cf50) e59 cf49 0 (argsL := []) (rest := []) (Ls := #[rv o0, rv o1, rv w0_19, rv o4]) (by rw [hml]; rfl) (lenOf qQ159 rfl) rfl rfl (Nat.le_of_eq rfl) (hb hB d13_48) (by decide) (by decide) (by decide) (by decide)
  replace X60 := own_nil X60
  refine oG T60 m 51 #[rv o0, rv o1, rv w0_19, rv o4] [(.long u1)] (st60) ?_
  refine oG T60 m 52 #[rv o0, rv o1, rv w0_19, rv o4] [(.ref o1), (.long u1)] (fun t k => XS.aloadN X60.here hx rfl (hb hB d13_51) rfl rfl k) ?_
  obtain ⟨_, T61, L61, X61, ⟨rfl, e61, rfl⟩, st61⟩ := own_virtual X60 hx hZ (y := (⟨OwnK0, "getId", "()J"⟩ : MethodName)) (z := (⟨OwnK0, "getId", "()J"⟩ : MethodName)) hown (oW hw 225 rfl) (oW hw 226 rfl) (notFace_of_selects (args := #[]) (mvT hZ (oW hw 228 rfl))) (oW hw 228 rfl) (oW hw 227 rfl) (oW hw 3 rfl) (oW hw 229 rfl) (by decide) (sp27 l Z a0 hw [] o1 u0 T39.heap n0 Z_39 cf43) e60 cf42 2 (argsL := []) (rest := [(.long u1)]) (Ls := #[rv o0, rv o1, rv w0_19, rv o4]) (by rw [hml]; rfl) (lenOf qQ159 rfl) rfl rfl (Nat.le_of_eq rfl) (hb hB d13_52) (by decide) (by decide) (by decide) (by decide)
  replace X61 := own_nil X61
  refine oG T61 m 55 #[rv o0, rv o1, rv w0_19, rv o4] [(.long u0), (.long u1)] (st61) ?_
  refine oG T61 m 56 #[rv o0, rv o1, rv w0_19, rv o4] [(.int (lcmpW u1 u0))] (fun t k => XS.lcmp X61.here hx rfl (hb hB d13_55) rfl k) ?_
  refine oG T61 m 61 #[rv o0, rv o1, rv w0_19, rv o4] [] (fun t k => XS.ifYes X61.here hx rfl (pc0 := 56) (pc' := 61) rfl (hb hB d13_56) rfl ((if0 _ _).trans (feq (mt (lw_eq u1 u0).mp hq0)).2) (by decide) (by decide) k) ?_
  refine oG T61 m 28 #[rv o0, rv o1, rv w0_19, rv o4] [] (fun t k => XS.goto X61.here hx rfl (pc0 := 61) (pc' := 28) rfl (hb hB d13_61) (by decide) (by decide) k) ?_
  refine oG T61 m 29 #[rv o0, rv o1, rv w0_19, rv o4] [(.ref w0_19)] (fun t k => XS.aloadN X61.here hx rfl (hb hB d13_28) rfl rfl k) ?_
  obtain ⟨_, T62, L62, X62, ⟨rfl, e62, rfl⟩, st62⟩ := own_interface X61 hx hZ (xi := (⟨"java/util/Iterator", "hasNext", "()Z"⟩ : MethodName)) (y := (⟨OwnK2, "hasNext", "()Z"⟩ : MethodName)) hown (oW hw 196 rfl) (oW hw 197 rfl) (mvT hZ (oW hw 198 rfl)) (oW hw 199 rfl) (oW hw 200 rfl) (oW hw 201 rfl) (oW hw 202 rfl) (oW hw 203 rfl) (oW hw 179 rfl) (oW hw 204 rfl) (by decide) (sp97 l Z a0 hw [] w0_19 w0_5 T39.heap n0 Z_39 fq3_39 fq1_39 cf56) e61 cf58 0 (argsL := []) (rest := []) (Ls := #[rv o0, rv o1, rv w0_19, rv o4]) (by rw [hml]; rfl) (lenOf qQ158 rfl) rfl rfl (Nat.le_of_eq rfl) (hb hB d13_29) (by decide) (by decide) (by decide) (by decide)
  replace X62 := own_nil X62
  refine oG T62 m 34 #[rv o0, rv o1, rv w0_19, rv o4] [(.int 1)] (st62) ?_
  refine oG T62 m 37 #[rv o0, rv o1, rv w0_19, rv o4] [] (fun t k => XS.ifNo X62.here hx rfl (hb hB d13_34) rfl ((if0 _ _).trans (feq (by decide)).1) k) ?_
  refine oG T62 m 38 #[rv o0, rv o1, rv w0_19, rv o4] [(.ref w0_19)] (fun t k => XS.aloadN X62.here hx rfl (hb hB d13_37) rfl rfl k) ?_
  obtain ⟨_, T63, L63, X63, ⟨rfl, Nq63, Kq63, fq0_63, fq1_63, fq2_63, fq3_63, fq4_63⟩, st63⟩ := own_interface X62 hx hZ (xi := (⟨"java/util/Iterator", "next", "()Ljava/lang/Object;"⟩ : MethodName)) (y := (⟨OwnK2, "next", "()Ljava/lang/Object;"⟩ : MethodName)) hown (oW hw 206 rfl) (oW hw 207 rfl) (mvT hZ (oW hw 208 rfl)) (oW hw 209 rfl) (oW hw 210 rfl) (oW hw 211 rfl) (oW hw 212 rfl) (oW hw 203 rfl) (oW hw 179 rfl) (oW hw 213 rfl) (by decide) (sp98 l Z a0 hw [] w0_19 w0_5 o2 o3 o1 o4 o5 c0 T39.heap n0 Z_39 cf58 fq3_39 fq0_39 fq4_39 fq1_39 fq2_39 cf55 cf54 cf56 cf45 cf46 cf48 O_o3 (Ne.symm ne_w0_5_w0_19) (Ne.symm ne_o2_w0_19) (Ne.symm ne_o3_w0_19) (Ne.symm ne_o1_w0_19) (Ne.symm ne_o4_w0_19) (Ne.symm ne_o5_w0_19) g_w0_19) e62 cf58 0 (argsL := []) (rest := []) (Ls := #[rv o0, rv o1, rv w0_19, rv o4]) (by rw [hml]; rfl) (lenOf qQ38 rfl) rfl rfl (Nat.le_of_eq rfl) (hb hB d13_38) (by decide) (by decide) (by decide) (by decide)
  have N63 := Fr.app N39 Nq63
  have cf64 := cf40.keep Kq63 (ninS ne_o0_w0_19 nin0)
  have cf65 := cf41.keep Kq63 (ninS ne_o0_w0_19 nin0)
  have cf66 := cf42.keep Kq63
  have cf67 := cf43.keep Kq63 (ninS ne_o1_w0_19 nin0)
  have cf68 := cf44.keep Kq63
  have cf69 := cf45.keep Kq63 (ninS ne_o2_w0_19 nin0)
  have cf70 := cf46.keep Kq63 (ninS ne_o2_w0_19 nin0)
  have cf71 := cf47.keep Kq63 (ninS ne_o2_w0_19 nin0)
  have cf72 := cf48.keep Kq63 (ninS ne_o3_w0_19 nin0)
  have cf73 := cf49.keep Kq63
  have cf74 := cf50.keep Kq63 (ninS ne_o4_w0_19 nin0)
  have cf75 := cf51.keep Kq63
  have cf76 := cf52.keep Kq63 (ninS ne_o5_w0_19 nin0)
  have cf77 := cf53.keep Kq63
  have cf78 := cf54.keep Kq63 (ninS ne_w0_5_w0_19 nin0)
  have cf79 := cf55.keep Kq63 (ninS ne_w0_5_w0_19 nin0)
  have cf80 := cf56.keep Kq63 (ninS ne_w0_5_w0_19 nin0)
  have cf81 := cf57.keep Kq63 (ninS ne_w0_5_w0_19 nin0)
  have cf82 := cf58.keep Kq63
  have Z_63 : n0 ≤ T63.heap.size := Nat.le_trans Z_39 Kq63.1
  have K_63 : Keep h0 T63.heap [] := K_39.trans Kq63 (allS (Or.inr sz_w0_19) all0)
  refine oG T63 m 43 #[rv o0, rv o1, rv w0_19, rv o4] [(.ref o5)] (st63) ?_
  obtain ⟨T83, X83, e83, st83⟩ := castY X63 hx hZ hown (oW hw 223 rfl) rfl (Ins.self cf75) (g := (mkF m 43 #[rv o0, rv o1, rv w0_19, rv o4] [(.ref o5)])) rfl rfl (hb hB d13_43)
  refine oG T83 m 46 #[rv o0, rv o1, rv w0_19, rv o4] [(.ref o5)] (st83) ?_
  refine oG T83 m 47 #[rv o0, rv o1, rv w0_19, rv o5] [] (fun t k => XS.astoreN X83.here hx rfl (hb hB d13_46) rfl rfl rfl k) ?_
  refine oG T83 m 48 #[rv o0, rv o1, rv w0_19, rv o5] [(.ref o5)] (fun t k => XS.aloadN X83.here hx rfl (hb hB d13_47) rfl rfl k) ?_
  obtain ⟨_, T84, L84, X84, ⟨rfl, e84, rfl⟩, st84⟩ := own_virtual X83 hx hZ (y := (⟨OwnK0, "getId", "()J"⟩ : MethodName)) (z := (⟨OwnK0, "getId", "()J"⟩ : MethodName)) hown (oW hw 225 rfl) (oW hw 226 rfl) (notFace_of_selects (args := #[]) (mvT hZ (oW hw 228 rfl))) (oW hw 228 rfl) (oW hw 227 rfl) (oW hw 3 rfl) (oW hw 229 rfl) (by decide) (sp27 l Z a0 hw [] o5 u2 T63.heap n0 Z_63 cf76) e83 cf75 0 (argsL := []) (rest := []) (Ls := #[rv o0, rv o1, rv w0_19, rv o5]) (by rw [hml]; rfl) (lenOf qQ159 rfl) rfl rfl (Nat.le_of_eq rfl) (hb hB d13_48) (by decide) (by decide) (by decide) (by decide)
  replace X84 := own_nil X84
  refine oG T84 m 51 #[rv o0, rv o1, rv w0_19, rv o5] [(.long u2)] (st84) ?_
  refine oG T84 m 52 #[rv o0, rv o1, rv w0_19, rv o5] [(.ref o1), (.long u2)] (fun t k => XS.aloadN X84.here hx rfl (hb hB d13_51) rfl rfl k) ?_
  obtain ⟨_, T85, L85, X85, ⟨rfl, e85, rfl⟩, st85⟩ := own_virtual X84 hx hZ (y := (⟨OwnK0, "getId", "()J"⟩ : MethodName)) (z := (⟨OwnK0, "getId", "()J"⟩ : MethodName)) hown (oW hw 225 rfl) (oW hw 226 rfl) (notFace_of_selects (args := #[]) (mvT hZ (oW hw 228 rfl))) (oW hw 228 rfl) (oW hw 227 rfl) (oW hw 3 rfl) (oW hw 229 rfl) (by decide) (sp27 l Z a0 hw [] o1 u0 T63.heap n0 Z_63 cf67) e84 cf66 2 (argsL := []) (rest := [(.long u2)]) (Ls := #[rv o0, rv o1, rv w0_19, rv o5]) (by rw [hml]; rfl) (lenOf qQ159 rfl) rfl rfl (Nat.le_of_eq rfl) (hb hB d13_52) (by decide) (by decide) (by decide) (by decide)
  replace X85 := own_nil X85
  refine oG T85 m 55 #[rv o0, rv o1, rv w0_19, rv o5] [(.long u0), (.long u2)] (st85) ?_
  refine oG T85 m 56 #[rv o0, rv o1, rv w0_19, rv o5] [(.int (lcmpW u2 u0))] (fun t k => XS.lcmp X85.here hx rfl (hb hB d13_55) rfl k) ?_
  refine oG T85 m 61 #[rv o0, rv o1, rv w0_19, rv o5] [] (fun t k => XS.ifYes X85.here hx rfl (pc0 := 56) (pc' := 61) rfl (hb hB d13_56) rfl ((if0 _ _).trans (feq (mt (lw_eq u2 u0).mp hq1)).2) (by decide) (by decide) k) ?_
  refine oG T85 m 28 #[rv o0, rv o1, rv w0_19, rv o5] [] (fun t k => XS.goto X85.here hx rfl (pc0 := 61) (pc' := 28) rfl (hb hB d13_61) (by decide) (by decide) k) ?_
  refine oG T85 m 29 #[rv o0, rv o1, rv w0_19, rv o5] [(.ref w0_19)] (fun t k => XS.aloadN X85.here hx rfl (hb hB d13_28) rfl rfl k) ?_
  obtain ⟨_, T86, L86, X86, ⟨rfl, e86, rfl⟩, st86⟩ := own_interface X85 hx hZ (xi := (⟨"java/util/Iterator", "hasNext", "()Z"⟩ : MethodName)) (y := (⟨OwnK2, "hasNext", "()Z"⟩ : MethodName)) hown (oW hw 196 rfl) (oW hw 197 rfl) (mvT hZ (oW hw 198 rfl)) (oW hw 199 rfl) (oW hw 200 rfl) (oW hw 201 rfl) (oW hw 202 rfl) (oW hw 203 rfl) (oW hw 179 rfl) (oW hw 204 rfl) (by decide) (sp99 l Z a0 hw [] w0_19 w0_5 T63.heap n0 Z_63 fq3_63 fq1_63 cf80) e85 cf82 0 (argsL := []) (rest := []) (Ls := #[rv o0, rv o1, rv w0_19, rv o5]) (by rw [hml]; rfl) (lenOf qQ158 rfl) rfl rfl (Nat.le_of_eq rfl) (hb hB d13_29) (by decide) (by decide) (by decide) (by decide)
  replace X86 := own_nil X86
  refine oG T86 m 34 #[rv o0, rv o1, rv w0_19, rv o5] [(.int 0)] (st86) ?_
  refine oG T86 m 64 #[rv o0, rv o1, rv w0_19, rv o5] [] (fun t k => XS.ifYes X86.here hx rfl (pc0 := 34) (pc' := 64) rfl (hb hB d13_34) rfl ((if0 _ _).trans (teq (by decide)).1) (by decide) (by decide) k) ?_
  refine oG T86 m 65 #[rv o0, rv o1, rv w0_19, rv o5] [(.int 0)] (fun t k => XS.iconst X86.here hx rfl (hb hB d13_64) k) ?_
  refine own_retZ X86 hx hlk hret (by decide) (hb hB d13_65) (by decide) (by decide) ?_
  rw [e86]
  exact ⟨rfl, N63, K_63⟩
theorem qQ55 (m : MethodId) (q0 : Int32) (q1 : Int32) (q2 : Int32) : entryFrame m #[(.int q0), (.int q1), (.int q2)] 3 = mkF m 0 #[iv q0, iv q1, iv q2] [] := by first | (simp [entryFrame, mkF, argsToLocals, Value.category]; done) | rfl
theorem sp102 (l : Launch) (Z : State) (a0 : Array Value) (hw : ∀ d ∈ tables_1, d.before a0 Z = true) (ws : List Jvm.Cond) (h0 : Heap) (n0 : Nat) (Z0 : n0 ≤ h0.size) :
    OwnC l Z (⟨OwnK5, "subListRangeCheck", "(III)V"⟩ : MethodName) jdk_39_method_15_code 3 none ws ({ frames := 0, cells := 0, slots := 0, locals := 0 } : Room) #[(.int 2), (.int 3), (.int 3)] h0 (fun v h L => v = none ∧ h = h0 ∧ L = []) := by
  refine own_entry qQ19 (fun m => qQ55 m (2 : Int32) (3 : Int32) (3 : Int32)) ?_
  intro p e s m below meth c T0 X0 hC e0
  obtain ⟨hx, hB, hml, hown, hnm, hret, hlk, hZ⟩ := hC
  have N0 := Fr.nil n0
  have K0 := Keep.refl h0 []
  refine oG T0 m 1 #[iv 2, iv 3, iv 3] [(.int 2)] (fun t k => XS.iloadN X0.here hx rfl (hb hB d16_0) rfl k) ?_
  refine oG T0 m 31 #[iv 2, iv 3, iv 3] [] (fun t k => XS.ifYes X0.here hx rfl (pc0 := 1) (pc' := 31) rfl (hb hB d16_1) rfl ((if0 _ _).trans (flt (by decide)).2.1) (by decide) (by decide) k) ?_
  refine oG T0 m 32 #[iv 2, iv 3, iv 3] [(.int 3)] (fun t k => XS.iloadN X0.here hx rfl (hb hB d16_31) rfl k) ?_
  refine oG T0 m 33 #[iv 2, iv 3, iv 3] [(.int 3), (.int 3)] (fun t k => XS.iloadN X0.here hx rfl (hb hB d16_32) rfl k) ?_
  refine oG T0 m 63 #[iv 2, iv 3, iv 3] [] (fun t k => XS.icmpYes X0.here hx rfl (pc0 := 33) (pc' := 63) rfl (hb hB d16_33) rfl (flt (by decide)).2.2.2 (by decide) (by decide) k) ?_
  refine oG T0 m 64 #[iv 2, iv 3, iv 3] [(.int 2)] (fun t k => XS.iloadN X0.here hx rfl (hb hB d16_63) rfl k) ?_
  refine oG T0 m 65 #[iv 2, iv 3, iv 3] [(.int 3), (.int 2)] (fun t k => XS.iloadN X0.here hx rfl (hb hB d16_64) rfl k) ?_
  refine oG T0 m 109 #[iv 2, iv 3, iv 3] [] (fun t k => XS.icmpYes X0.here hx rfl (pc0 := 65) (pc' := 109) rfl (hb hB d16_65) rfl (flt (by decide)).2.2.2 (by decide) (by decide) k) ?_
  refine own_retV X0 hx hlk hret (hb hB d16_109) (by decide) (by decide) ?_
  exact ⟨rfl, e0, rfl⟩
theorem qQ50 (m : MethodId) (q0 : Addr) (q1 : Addr) (q2 : Int32) (q3 : Int32) : entryFrame m #[(.ref q0), (.ref q1), (.int q2), (.int q3)] 4 = mkF m 0 #[rv q0, rv q1, iv q2, iv q3] [] := by first | (simp [entryFrame, mkF, argsToLocals, Value.category]; done) | rfl
theorem sp103 (l : Launch) (Z : State) (a0 : Array Value) (hw : ∀ d ∈ tables_1, d.before a0 Z = true) (ws : List Jvm.Cond) (o0 o1 : Addr) (h0 : Heap) (n0 : Nat) (Z0 : n0 ≤ h0.size) (E_o0 : Exa Z h0 o0 OwnK3) (F_mC_o0 : Fld Z h0 o0 OwnK5 "modCount" "I" (.int 0)) (F_offset_o0 : Fld Z h0 o0 OwnK3 "offset" "I" (.int 0)) (F_parent_o0 : Fld Z h0 o0 OwnK3 "parent" OwnK7 .null) (F_root_o0 : Fld Z h0 o0 OwnK3 "root" OwnK8 .null) (F_size_o0 : Fld Z h0 o0 OwnK3 "size" "I" (.int 0)) (F_mC_o1 : Fld Z h0 o1 OwnK5 "modCount" "I" (.int 3)) (ne_o0_o1 : o0 ≠ o1) (g_o0 : n0 ≤ o0) :
    OwnC l Z (⟨OwnK3, "<init>", "(Ljava/util/ArrayList;II)V"⟩ : MethodName) jdk_130_method_1_code 4 none ws ({ frames := 3, cells := 0, slots := 0, locals := 36 } : Room) #[(.ref o0), (.ref o1), (.int 2), (.int 3)] h0 (fun v h L => v = none ∧ Fr n0 L ∧ Keep h0 h [o0] ∧ Fld Z h o0 OwnK3 "root" OwnK8 (.ref o1) ∧ Fld Z h o0 OwnK3 "offset" "I" (.int 2) ∧ Fld Z h o0 OwnK3 "size" "I" (.int 1) ∧ Fld Z h o0 OwnK5 "modCount" "I" (.int 3)) := by
  refine own_entry qQ10 (fun m => qQ50 m o0 o1 (2 : Int32) (3 : Int32)) ?_
  intro p e s m below meth c T0 X0 hC e0
  obtain ⟨hx, hB, hml, hown, hnm, hret, hlk, hZ⟩ := hC
  have N0 := Fr.nil n0
  have K0 := Keep.refl h0 [o0]
  refine oG T0 m 1 #[rv o0, rv o1, iv 2, iv 3] [(.ref o0)] (fun t k => XS.aloadN X0.here hx rfl (hb hB d17_0) rfl rfl k) ?_
  obtain ⟨_, T1, L1, X1, ⟨rfl, Nq1, Kq1, fq0_1, fq1_1, fq2_1, fq3_1, fq4_1⟩, st1⟩ := own_init X0 hx hZ (y := (⟨OwnK5, "<init>", "()V"⟩ : MethodName)) rfl hown (oW hw 131 rfl) (oW hw 34 rfl) (oW hw 37 rfl) (oW hw 38 rfl) (by decide) (sp17 l Z a0 hw [] o0 h0 n0 Z0 E_o0 F_mC_o0 F_offset_o0 F_parent_o0 F_root_o0 F_size_o0 g_o0) e0 (a := o0) 0 (argsL := []) (rest := []) (Ls := #[rv o0, rv o1, iv 2, iv 3]) (by rw [hml]; rfl) (lenOf qQ155 rfl) rfl rfl (Nat.le_of_eq rfl) (hb hB d17_1) (by decide) (by decide) (by decide) (by decide)
  have N1 := Fr.app N0 Nq1
  have cf2 := E_o0.keep Kq1
  have cf3 := F_mC_o1.keep Kq1 (ninS (Ne.symm ne_o0_o1) nin0)
  have Z_1 : n0 ≤ T1.heap.size := Nat.le_trans Z0 Kq1.1
  have K_1 : Keep h0 T1.heap [o0] := K0.trans Kq1 (allS (oI 0 rfl) all0)
  refine oG T1 m 4 #[rv o0, rv o1, iv 2, iv 3] [] (st1) ?_
  refine oG T1 m 5 #[rv o0, rv o1, iv 2, iv 3] [(.ref o0)] (fun t k => XS.aloadN X1.here hx rfl (hb hB d17_4) rfl rfl k) ?_
  refine oG T1 m 6 #[rv o0, rv o1, iv 2, iv 3] [(.ref o1), (.ref o0)] (fun t k => XS.aloadN X1.here hx rfl (hb hB d17_5) rfl rfl k) ?_
  obtain ⟨T4, h4, X4, e4, W4, st4⟩ := putF X1 hx hZ hown (host := "") (Or.inl (oW hw 135 rfl)) Via.refl rfl fq2_1 cf2 (Or.inr ⟨(oW hw 136 rfl), rfl, hnm⟩) (oW hw 125 rfl) (ty := (.object OwnK4)) (by decide) rfl rfl (g := (mkF m 6 #[rv o0, rv o1, iv 2, iv 3] [(.ref o1), (.ref o0)])) rfl rfl (hb hB d17_6)
  have F4 := fq2_1.same W4
  have cf5 := cf2.wr W4
  have cf6 := cf3.other W4 (Or.inl (Ne.symm ne_o0_o1))
  have cf7 := fq0_1.other W4 (Or.inr (slot_ne (Or.inr (oW hw 140 rfl)) (Or.inr (oW hw 136 rfl)) (by decide) (t := .int) (t' := (.object OwnK4)) (by decide) (by decide)))
  have cf8 := fq1_1.other W4 (Or.inr (slot_ne (Or.inr (oW hw 138 rfl)) (Or.inr (oW hw 136 rfl)) (by decide) (t := (.object OwnK3)) (t' := (.object OwnK4)) (by decide) (by decide)))
  have cf9 := fq3_1.other W4 (Or.inr (slot_ne (Or.inl (oW hw 142 rfl)) (Or.inr (oW hw 136 rfl)) (by decide) (t := .int) (t' := (.object OwnK4)) (by decide) (by decide)))
  have cf10 := fq4_1.other W4 (Or.inr (slot_ne (Or.inl (oW hw 134 rfl)) (Or.inr (oW hw 136 rfl)) (by decide) (t := .int) (t' := (.object OwnK4)) (by decide) (by decide)))
  have Z_4 : n0 ≤ h4.size := Nat.le_trans Z_1 (Keep.of_wr W4).1
  have K_4 : Keep h0 h4 [o0] := K_1.wr W4 (oI 0 rfl)
  have N4 := Fr.snoc X4 N1 g_o0
  refine oG T4 m 9 #[rv o0, rv o1, iv 2, iv 3] [] (st4) ?_
  refine oG T4 m 10 #[rv o0, rv o1, iv 2, iv 3] [(.ref o0)] (fun t k => XS.aloadN X4.here hx rfl (hb hB d17_9) rfl rfl k) ?_
  refine oG T4 m 11 #[rv o0, rv o1, iv 2, iv 3] [.null, (.ref o0)] (fun t k => XS.aconstNull X4.here hx rfl (hb hB d17_10) k) ?_
  obtain ⟨T11, h11, X11, e11, W11, st11⟩ := putF X4 hx hZ hown (host := "") (Or.inl (oW hw 137 rfl)) Via.refl e4 cf8 cf5 (Or.inr ⟨(oW hw 138 rfl), rfl, hnm⟩) (oW hw 125 rfl) (ty := (.object OwnK3)) (by decide) rfl rfl (g := (mkF m 11 #[rv o0, rv o1, iv 2, iv 3] [.null, (.ref o0)])) rfl rfl (hb hB d17_11)
  have F11 := cf8.same W11
  have cf12 := cf5.wr W11
  have cf13 := cf6.other W11 (Or.inl (Ne.symm ne_o0_o1))
  have cf14 := cf7.other W11 (Or.inr (slot_ne (Or.inr (oW hw 140 rfl)) (Or.inr (oW hw 138 rfl)) (by decide) (t := .int) (t' := (.object OwnK3)) (by decide) (by decide)))
  have cf15 := cf9.other W11 (Or.inr (slot_ne (Or.inl (oW hw 142 rfl)) (Or.inr (oW hw 138 rfl)) (by decide) (t := .int) (t' := (.object OwnK3)) (by decide) (by decide)))
  have cf16 := cf10.other W11 (Or.inr (slot_ne (Or.inl (oW hw 134 rfl)) (Or.inr (oW hw 138 rfl)) (by decide) (t := .int) (t' := (.object OwnK3)) (by decide) (by decide)))
  have cf17 := F4.other W11 (Or.inr (slot_ne (Or.inr (oW hw 136 rfl)) (Or.inr (oW hw 138 rfl)) (by decide) (t := (.object OwnK4)) (t' := (.object OwnK3)) (by decide) (by decide)))
  have Z_11 : n0 ≤ h11.size := Nat.le_trans Z_4 (Keep.of_wr W11).1
  have K_11 : Keep h0 h11 [o0] := K_4.wr W11 (oI 0 rfl)
  have N11 := Fr.snoc X11 N4 g_o0
  refine oG T11 m 14 #[rv o0, rv o1, iv 2, iv 3] [] (st11) ?_
  refine oG T11 m 15 #[rv o0, rv o1, iv 2, iv 3] [(.ref o0)] (fun t k => XS.aloadN X11.here hx rfl (hb hB d17_14) rfl rfl k) ?_
  refine oG T11 m 16 #[rv o0, rv o1, iv 2, iv 3] [(.int 2), (.ref o0)] (fun t k => XS.iloadN X11.here hx rfl (hb hB d17_15) rfl k) ?_
  obtain ⟨T18, h18, X18, e18, W18, st18⟩ := putF X11 hx hZ hown (host := "") (Or.inl (oW hw 139 rfl)) Via.refl e11 cf14 cf12 (Or.inr ⟨(oW hw 140 rfl), rfl, hnm⟩) (oW hw 125 rfl) (ty := .int) (by decide) rfl rfl (g := (mkF m 16 #[rv o0, rv o1, iv 2, iv 3] [(.int 2), (.ref o0)])) rfl rfl (hb hB d17_16)
  have F18 := cf14.same W18
  have cf19 := cf12.wr W18
  have cf20 := cf13.other W18 (Or.inl (Ne.symm ne_o0_o1))
  have cf21 := cf15.other W18 (Or.inr (slot_ne (Or.inl (oW hw 142 rfl)) (Or.inr (oW hw 140 rfl)) (by decide) (t := .int) (t' := .int) (by decide) (by decide)))
  have cf22 := cf16.other W18 (Or.inr (slot_ne (Or.inl (oW hw 134 rfl)) (Or.inr (oW hw 140 rfl)) (by decide) (t := .int) (t' := .int) (by decide) (by decide)))
  have cf23 := cf17.other W18 (Or.inr (slot_ne (Or.inr (oW hw 136 rfl)) (Or.inr (oW hw 140 rfl)) (by decide) (t := (.object OwnK4)) (t' := .int) (by decide) (by decide)))
  have cf24 := F11.other W18 (Or.inr (slot_ne (Or.inr (oW hw 138 rfl)) (Or.inr (oW hw 140 rfl)) (by decide) (t := (.object OwnK3)) (t' := .int) (by decide) (by decide)))
  have Z_18 : n0 ≤ h18.size := Nat.le_trans Z_11 (Keep.of_wr W18).1
  have K_18 : Keep h0 h18 [o0] := K_11.wr W18 (oI 0 rfl)
  have N18 := Fr.snoc X18 N11 g_o0
  refine oG T18 m 19 #[rv o0, rv o1, iv 2, iv 3] [] (st18) ?_
  refine oG T18 m 20 #[rv o0, rv o1, iv 2, iv 3] [(.ref o0)] (fun t k => XS.aloadN X18.here hx rfl (hb hB d17_19) rfl rfl k) ?_
  refine oG T18 m 21 #[rv o0, rv o1, iv 2, iv 3] [(.int 3), (.ref o0)] (fun t k => XS.iloadN X18.here hx rfl (hb hB d17_20) rfl k) ?_
  refine oG T18 m 22 #[rv o0, rv o1, iv 2, iv 3] [(.int 2), (.int 3), (.ref o0)] (fun t k => XS.iloadN X18.here hx rfl (hb hB d17_21) rfl k) ?_
  refine oG T18 m 23 #[rv o0, rv o1, iv 2, iv 3] [(.int ((3 : Int32) - (2 : Int32))), (.ref o0)] (fun t k => XS.isub X18.here hx rfl (hb hB d17_22) rfl k) ?_
  rw [show ((3 : Int32) - (2 : Int32)) = (1 : Int32) from by decide]
  obtain ⟨T25, h25, X25, e25, W25, st25⟩ := putF X18 hx hZ hown (host := "") (Or.inl (oW hw 141 rfl)) Via.refl e18 cf21 cf19 (Or.inl (oW hw 142 rfl)) (oW hw 125 rfl) (ty := .int) (by decide) rfl rfl (g := (mkF m 23 #[rv o0, rv o1, iv 2, iv 3] [(.int 1), (.ref o0)])) rfl rfl (hb hB d17_23)
  have F25 := cf21.same W25
  have cf26 := cf19.wr W25
  have cf27 := cf20.other W25 (Or.inl (Ne.symm ne_o0_o1))
  have cf28 := cf22.other W25 (Or.inr (slot_ne (Or.inl (oW hw 134 rfl)) (Or.inl (oW hw 142 rfl)) (by decide) (t := .int) (t' := .int) (by decide) (by decide)))
  have cf29 := cf23.other W25 (Or.inr (slot_ne (Or.inr (oW hw 136 rfl)) (Or.inl (oW hw 142 rfl)) (by decide) (t := (.object OwnK4)) (t' := .int) (by decide) (by decide)))
  have cf30 := cf24.other W25 (Or.inr (slot_ne (Or.inr (oW hw 138 rfl)) (Or.inl (oW hw 142 rfl)) (by decide) (t := (.object OwnK3)) (t' := .int) (by decide) (by decide)))
  have cf31 := F18.other W25 (Or.inr (slot_ne (Or.inr (oW hw 140 rfl)) (Or.inl (oW hw 142 rfl)) (by decide) (t := .int) (t' := .int) (by decide) (by decide)))
  have Z_25 : n0 ≤ h25.size := Nat.le_trans Z_18 (Keep.of_wr W25).1
  have K_25 : Keep h0 h25 [o0] := K_18.wr W25 (oI 0 rfl)
  have N25 := Fr.snoc X25 N18 g_o0
  refine oG T25 m 26 #[rv o0, rv o1, iv 2, iv 3] [] (st25) ?_
  refine oG T25 m 27 #[rv o0, rv o1, iv 2, iv 3] [(.ref o0)] (fun t k => XS.aloadN X25.here hx rfl (hb hB d17_26) rfl rfl k) ?_
  refine oG T25 m 28 #[rv o0, rv o1, iv 2, iv 3] [(.ref o1), (.ref o0)] (fun t k => XS.aloadN X25.here hx rfl (hb hB d17_27) rfl rfl k) ?_
  obtain ⟨T32, X32, e32, st32⟩ := getF X25 hx hZ hown (host := "") (Or.inl (oW hw 143 rfl)) (Via.of (oW hw 73 rfl)) e25 cf27 (g := (mkF m 28 #[rv o0, rv o1, iv 2, iv 3] [(.ref o1), (.ref o0)])) rfl rfl (hb hB d17_28)
  refine oG T32 m 31 #[rv o0, rv o1, iv 2, iv 3] [(.int 3), (.ref o0)] (st32) ?_
  obtain ⟨T33, h33, X33, e33, W33, st33⟩ := putF X32 hx hZ hown (host := "") (Or.inl (oW hw 144 rfl)) (Via.of (oW hw 145 rfl)) e32 cf28 cf26 (Or.inl (oW hw 134 rfl)) (oW hw 125 rfl) (ty := .int) (by decide) rfl rfl (g := (mkF m 31 #[rv o0, rv o1, iv 2, iv 3] [(.int 3), (.ref o0)])) rfl rfl (hb hB d17_31)
  have F33 := cf28.same W33
  have cf34 := cf26.wr W33
  have cf35 := cf27.other W33 (Or.inl (Ne.symm ne_o0_o1))
  have cf36 := cf29.other W33 (Or.inr (slot_ne (Or.inr (oW hw 136 rfl)) (Or.inl (oW hw 134 rfl)) (by decide) (t := (.object OwnK4)) (t' := .int) (by decide) (by decide)))
  have cf37 := cf30.other W33 (Or.inr (slot_ne (Or.inr (oW hw 138 rfl)) (Or.inl (oW hw 134 rfl)) (by decide) (t := (.object OwnK3)) (t' := .int) (by decide) (by decide)))
  have cf38 := cf31.other W33 (Or.inr (slot_ne (Or.inr (oW hw 140 rfl)) (Or.inl (oW hw 134 rfl)) (by decide) (t := .int) (t' := .int) (by decide) (by decide)))
  have cf39 := F25.other W33 (Or.inr (slot_ne (Or.inl (oW hw 142 rfl)) (Or.inl (oW hw 134 rfl)) (by decide) (t := .int) (t' := .int) (by decide) (by decide)))
  have Z_33 : n0 ≤ h33.size := Nat.le_trans Z_25 (Keep.of_wr W33).1
  have K_33 : Keep h0 h33 [o0] := K_25.wr W33 (oI 0 rfl)
  have N33 := Fr.snoc X33 N25 g_o0
  refine oG T33 m 34 #[rv o0, rv o1, iv 2, iv 3] [] (st33) ?_
  refine own_retV X33 hx hlk hret (hb hB d17_34) (by decide) (by decide) ?_
  rw [e33]
  exact ⟨rfl, N33, K_33, cf36, cf38, cf39, F33⟩
theorem qQ58 (m : MethodId) (q0 : Addr) (q1 : Int32) (q2 : Int32) : entryFrame m #[(.ref q0), (.int q1), (.int q2)] 3 = mkF m 0 #[rv q0, iv q1, iv q2] [] := by first | (simp [entryFrame, mkF, argsToLocals, Value.category]; done) | rfl
theorem sp101 (l : Launch) (Z : State) (a0 : Array Value) (hw : ∀ d ∈ tables_1, d.before a0 Z = true) (ws : List Jvm.Cond) (o0 : Addr) (h0 : Heap) (n0 : Nat) (Z0 : n0 ≤ h0.size) (F_mC_o0 : Fld Z h0 o0 OwnK5 "modCount" "I" (.int 3)) (F_size_o0 : Fld Z h0 o0 OwnK4 "size" "I" (.int 3)) :
    OwnC l Z (⟨OwnK4, "subList", "(II)Ljava/util/List;"⟩ : MethodName) jdk_38_method_56_code 3 (some (.object "java/util/List")) ws ({ frames := 4, cells := 1, slots := 5, locals := 52 } : Room) #[(.ref o0), (.int 2), (.int 3)] h0 (fun v h L => ∃ (w0 : Addr), v = some (.ref w0) ∧ Fr n0 L ∧ Keep h0 h [] ∧ (h0.size ≤ w0 ∧ n0 ≤ w0) ∧ Exa Z h w0 OwnK3 ∧ Fld Z h w0 OwnK3 "root" OwnK8 (.ref o0) ∧ Fld Z h w0 OwnK3 "offset" "I" (.int 2) ∧ Fld Z h w0 OwnK3 "size" "I" (.int 1) ∧ Fld Z h w0 OwnK5 "modCount" "I" (.int 3)) := by
  refine own_entry qQ17 (fun m => qQ58 m o0 (2 : Int32) (3 : Int32)) ?_
  intro p e s m below meth c T0 X0 hC e0
  obtain ⟨hx, hB, hml, hown, hnm, hret, hlk, hZ⟩ := hC
  have N0 := Fr.nil n0
  have K0 := Keep.refl h0 []
  refine oG T0 m 1 #[rv o0, iv 2, iv 3] [(.int 2)] (fun t k => XS.iloadN X0.here hx rfl (hb hB d15_0) rfl k) ?_
  refine oG T0 m 2 #[rv o0, iv 2, iv 3] [(.int 3), (.int 2)] (fun t k => XS.iloadN X0.here hx rfl (hb hB d15_1) rfl k) ?_
  refine oG T0 m 3 #[rv o0, iv 2, iv 3] [(.ref o0), (.int 3), (.int 2)] (fun t k => XS.aloadN X0.here hx rfl (hb hB d15_2) rfl rfl k) ?_
  obtain ⟨T1, X1, e1, st1⟩ := getF X0 hx hZ hown (host := "") (Or.inl (oW hw 74 rfl)) Via.refl e0 F_size_o0 (g := (mkF m 3 #[rv o0, iv 2, iv 3] [(.ref o0), (.int 3), (.int 2)])) rfl rfl (hb hB d15_3)
  refine oG T1 m 6 #[rv o0, iv 2, iv 3] [(.int 3), (.int 3), (.int 2)] (st1) ?_
  obtain ⟨_, T2, L2, X2, ⟨rfl, e2, rfl⟩, st2⟩ := own_staticUp X1 hx hZ (x := (⟨OwnK4, "subListRangeCheck", "(III)V"⟩ : MethodName)) hown (oW hw 120 rfl) (oW hw 121 rfl) (by decide) (oW hw 122 rfl) (oW hw 37 rfl) (oW hw 123 rfl) (sp102 l Z a0 hw []  h0 n0 Z0 ) e1 0 (argsL := [(.int 2), (.int 3), (.int 3)]) (rest := []) (Ls := #[rv o0, iv 2, iv 3]) (by rw [hml]; rfl) (lenOf qQ41 rfl) rfl rfl (Nat.le_of_eq rfl) (hb hB d15_6) (by decide) (by decide) (by decide) (by decide)
  replace X2 := own_nil X2
  refine oG T2 m 9 #[rv o0, iv 2, iv 3] [] (st2) ?_
  obtain ⟨T3, h3, X3, e3, E3, A3, D3, -, st3⟩ := newO X2 hx hZ hown (oW hw 124 rfl) (oW hw 125 rfl) (oW hw 126 rfl) e2 (g := (mkF m 9 #[rv o0, iv 2, iv 3] [])) rfl (hb hB d15_9) (by decide) (by decide)
  obtain ⟨b3, g3⟩ : ∃ z, z = h0.size := ⟨_, rfl⟩
  rw [← g3] at A3 D3 st3
  have ne_o0_b3 : o0 ≠ b3 := Nat.ne_of_lt (Nat.lt_of_lt_of_eq F_mC_o0.lt g3.symm)
  have g_b3 : n0 ≤ b3 := Nat.le_trans Z0 (Nat.le_of_eq g3.symm)
  have sz_b3 : h0.size ≤ b3 := Nat.le_trans K0.1 (Nat.le_of_eq g3.symm)
  have cf4 := F_mC_o0.ext E3
  have cf5 := F_size_o0.ext E3
  have Z_3 : n0 ≤ h3.size := Nat.le_trans Z0 E3.1
  have K_3 : Keep h0 h3 [] := K0.ext E3
  have F_mC_3 : Fld Z h3 b3 OwnK5 "modCount" "I" (.int 0) := D3 (Or.inl (oW hw 134 rfl)) (ty := .int) (by decide)
  have F_root_3 : Fld Z h3 b3 OwnK3 "root" OwnK8 .null := D3 (Or.inr (oW hw 136 rfl)) (ty := (.object OwnK4)) (by decide)
  have F_parent_3 : Fld Z h3 b3 OwnK3 "parent" OwnK7 .null := D3 (Or.inr (oW hw 138 rfl)) (ty := (.object OwnK3)) (by decide)
  have F_offset_3 : Fld Z h3 b3 OwnK3 "offset" "I" (.int 0) := D3 (Or.inr (oW hw 140 rfl)) (ty := .int) (by decide)
  have F_size_3 : Fld Z h3 b3 OwnK3 "size" "I" (.int 0) := D3 (Or.inl (oW hw 142 rfl)) (ty := .int) (by decide)
  refine oG T3 m 12 #[rv o0, iv 2, iv 3] [(.ref b3)] (st3) ?_
  refine oG T3 m 13 #[rv o0, iv 2, iv 3] [(.ref b3), (.ref b3)] (fun t k => XS.dup X3.here hx rfl (hb hB d15_12) rfl rfl k) ?_
  refine oG T3 m 14 #[rv o0, iv 2, iv 3] [(.ref o0), (.ref b3), (.ref b3)] (fun t k => XS.aloadN X3.here hx rfl (hb hB d15_13) rfl rfl k) ?_
  refine oG T3 m 15 #[rv o0, iv 2, iv 3] [(.int 2), (.ref o0), (.ref b3), (.ref b3)] (fun t k => XS.iloadN X3.here hx rfl (hb hB d15_14) rfl k) ?_
  refine oG T3 m 16 #[rv o0, iv 2, iv 3] [(.int 3), (.int 2), (.ref o0), (.ref b3), (.ref b3)] (fun t k => XS.iloadN X3.here hx rfl (hb hB d15_15) rfl k) ?_
  obtain ⟨_, T6, L6, X6, ⟨rfl, Nq6, Kq6, fq0_6, fq1_6, fq2_6, fq3_6⟩, st6⟩ := own_init X3 hx hZ (y := (⟨OwnK3, "<init>", "(Ljava/util/ArrayList;II)V"⟩ : MethodName)) rfl hown (oW hw 127 rfl) (oW hw 128 rfl) (oW hw 126 rfl) (oW hw 130 rfl) (by decide) (sp103 l Z a0 hw [] b3 o0 h3 n0 Z_3 A3 F_mC_3 F_offset_3 F_parent_3 F_root_3 F_size_3 cf4 (Ne.symm ne_o0_b3) g_b3) e3 (a := b3) 1 (argsL := [(.ref o0), (.int 2), (.int 3)]) (rest := [(.ref b3)]) (Ls := #[rv o0, iv 2, iv 3]) (by rw [hml]; rfl) (lenOf qQ32 rfl) rfl rfl (Nat.le_of_eq rfl) (hb hB d15_16) (by decide) (by decide) (by decide) (by decide)
  have N6 := Fr.app N0 Nq6
  have cf7 := cf4.keep Kq6 (ninS ne_o0_b3 nin0)
  have cf8 := cf5.keep Kq6 (ninS ne_o0_b3 nin0)
  have cf9 := A3.keep Kq6
  have Z_6 : n0 ≤ T6.heap.size := Nat.le_trans Z_3 Kq6.1
  have K_6 : Keep h0 T6.heap [] := K_3.trans Kq6 (allS (Or.inr sz_b3) all0)
  refine oG T6 m 19 #[rv o0, iv 2, iv 3] [(.ref b3)] (st6) ?_
  refine own_retA X6 hx hlk hret rfl rfl rfl (hb hB d15_19) (by decide) (by decide) ?_
  exact ⟨b3, rfl, N6, K_6, ⟨sz_b3, g_b3⟩, cf9, fq0_6, fq1_6, fq2_6, fq3_6⟩
theorem qQ47 (m : MethodId) (q0 : Addr) (q1 : Int32) : entryFrame m #[(.ref q0), (.int q1)] 2 = mkF m 0 #[rv q0, iv q1] [] := by first | (simp [entryFrame, mkF, argsToLocals, Value.category]; done) | rfl
theorem sp106 (l : Launch) (Z : State) (a0 : Array Value) (hw : ∀ d ∈ tables_1, d.before a0 Z = true) (ws : List Jvm.Cond) (o0 o1 : Addr) (h0 : Heap) (n0 : Nat) (Z0 : n0 ≤ h0.size) (E_o0 : Exa Z h0 o0 OwnK3) (F_mC_o0 : Fld Z h0 o0 OwnK5 "modCount" "I" (.int 3)) (F_root_o0 : Fld Z h0 o0 OwnK3 "root" OwnK8 (.ref o1)) (F_size_o0 : Fld Z h0 o0 OwnK3 "size" "I" (.int 1)) (F_mC_o1 : Fld Z h0 o1 OwnK5 "modCount" "I" (.int 3)) :
    OwnC l Z (⟨OwnK3, "listIterator", "(I)Ljava/util/ListIterator;"⟩ : MethodName) jdk_130_method_24_code 2 (some (.object "java/util/ListIterator")) ws ({ frames := 2, cells := 1, slots := 5, locals := 27 } : Room) #[(.ref o0), (.int 0)] h0 (fun v h L => ∃ (w0 : Addr), v = some (.ref w0) ∧ Fr n0 L ∧ Keep h0 h [] ∧ (h0.size ≤ w0 ∧ n0 ≤ w0) ∧ Exa Z h w0 OwnK2 ∧ Fld Z h w0 OwnK2 "this$0" OwnK7 (.ref o0) ∧ Fld Z h w0 OwnK2 "val$index" "I" (.int 0) ∧ Fld Z h w0 OwnK2 "cursor" "I" (.int 0) ∧ Fld Z h w0 OwnK2 "lastRet" "I" (.int (-1)) ∧ Fld Z h w0 OwnK2 "expectedModCount" "I" (.int 3)) := by
  refine own_entry qQ5 (fun m => qQ47 m o0 (0 : Int32)) ?_
  intro p e s m below meth c T0 X0 hC e0
  obtain ⟨hx, hB, hml, hown, hnm, hret, hlk, hZ⟩ := hC
  have N0 := Fr.nil n0
  have K0 := Keep.refl h0 []
  refine oG T0 m 1 #[rv o0, iv 0] [(.ref o0)] (fun t k => XS.aloadN X0.here hx rfl (hb hB d20_0) rfl rfl k) ?_
  obtain ⟨_, T1, L1, X1, ⟨rfl, e1, rfl⟩, st1⟩ := own_private X0 hx hZ (y := (⟨OwnK3, "checkForComodification", "()V"⟩ : MethodName)) hown (oW hw 167 rfl) (oW hw 168 rfl) (oW hw 169 rfl) (oW hw 125 rfl) (oW hw 126 rfl) (oW hw 171 rfl) (by decide) (sp83 l Z a0 hw [] o0 o1 h0 n0 Z0 F_mC_o0 F_root_o0 F_mC_o1) e0 E_o0 0 (argsL := []) (rest := []) (Ls := #[rv o0, iv 0]) (by rw [hml]; rfl) (lenOf qQ155 rfl) rfl rfl (Nat.le_of_eq rfl) (hb hB d20_1) (by decide) (by decide) (by decide) (by decide)
  replace X1 := own_nil X1
  refine oG T1 m 4 #[rv o0, iv 0] [] (st1) ?_
  refine oG T1 m 5 #[rv o0, iv 0] [(.ref o0)] (fun t k => XS.aloadN X1.here hx rfl (hb hB d20_4) rfl rfl k) ?_
  refine oG T1 m 6 #[rv o0, iv 0] [(.int 0), (.ref o0)] (fun t k => XS.iloadN X1.here hx rfl (hb hB d20_5) rfl k) ?_
  obtain ⟨_, T2, L2, X2, ⟨rfl, e2, rfl⟩, st2⟩ := own_private X1 hx hZ (y := (⟨OwnK3, "rangeCheckForAdd", "(I)V"⟩ : MethodName)) hown (oW hw 172 rfl) (oW hw 173 rfl) (oW hw 174 rfl) (oW hw 125 rfl) (oW hw 126 rfl) (oW hw 176 rfl) (by decide) (sp22 l Z a0 hw [] o0 h0 n0 Z0 F_size_o0) e1 E_o0 0 (argsL := [(.int 0)]) (rest := []) (Ls := #[rv o0, iv 0]) (by rw [hml]; rfl) (lenOf qQ64 rfl) rfl rfl (Nat.le_of_eq rfl) (hb hB d20_6) (by decide) (by decide) (by decide) (by decide)
  replace X2 := own_nil X2
  refine oG T2 m 9 #[rv o0, iv 0] [] (st2) ?_
  obtain ⟨T3, h3, X3, e3, E3, A3, D3, -, st3⟩ := newO X2 hx hZ hown (oW hw 177 rfl) (oW hw 178 rfl) (oW hw 179 rfl) e2 (g := (mkF m 9 #[rv o0, iv 0] [])) rfl (hb hB d20_9) (by decide) (by decide)
  obtain ⟨b3, g3⟩ : ∃ z, z = h0.size := ⟨_, rfl⟩
  rw [← g3] at A3 D3 st3
  have ne_o0_b3 : o0 ≠ b3 := Nat.ne_of_lt (Nat.lt_of_lt_of_eq E_o0.lt g3.symm)
  have ne_o1_b3 : o1 ≠ b3 := Nat.ne_of_lt (Nat.lt_of_lt_of_eq F_mC_o1.lt g3.symm)
  have g_b3 : n0 ≤ b3 := Nat.le_trans Z0 (Nat.le_of_eq g3.symm)
  have sz_b3 : h0.size ≤ b3 := Nat.le_trans K0.1 (Nat.le_of_eq g3.symm)
  have cf4 := E_o0.ext E3
  have cf5 := F_mC_o0.ext E3
  have cf6 := F_root_o0.ext E3
  have cf7 := F_size_o0.ext E3
  have cf8 := F_mC_o1.ext E3
  have Z_3 : n0 ≤ h3.size := Nat.le_trans Z0 E3.1
  have K_3 : Keep h0 h3 [] := K0.ext E3
  have F_this_0_3 : Fld Z h3 b3 OwnK2 "this$0" OwnK7 .null := D3 (Or.inr (oW hw 185 rfl)) (ty := (.object OwnK3)) (by decide)
  have F_val_index_3 : Fld Z h3 b3 OwnK2 "val$index" "I" (.int 0) := D3 (Or.inr (oW hw 187 rfl)) (ty := .int) (by decide)
  have F_cursor_3 : Fld Z h3 b3 OwnK2 "cursor" "I" (.int 0) := D3 (Or.inl (oW hw 190 rfl)) (ty := .int) (by decide)
  have F_lastRet_3 : Fld Z h3 b3 OwnK2 "lastRet" "I" (.int 0) := D3 (Or.inl (oW hw 192 rfl)) (ty := .int) (by decide)
  have F_xM_3 : Fld Z h3 b3 OwnK2 "expectedModCount" "I" (.int 0) := D3 (Or.inl (oW hw 195 rfl)) (ty := .int) (by decide)
  refine oG T3 m 12 #[rv o0, iv 0] [(.ref b3)] (st3) ?_
  refine oG T3 m 13 #[rv o0, iv 0] [(.ref b3), (.ref b3)] (fun t k => XS.dup X3.here hx rfl (hb hB d20_12) rfl rfl k) ?_
  refine oG T3 m 14 #[rv o0, iv 0] [(.ref o0), (.ref b3), (.ref b3)] (fun t k => XS.aloadN X3.here hx rfl (hb hB d20_13) rfl rfl k) ?_
  refine oG T3 m 15 #[rv o0, iv 0] [(.int 0), (.ref o0), (.ref b3), (.ref b3)] (fun t k => XS.iloadN X3.here hx rfl (hb hB d20_14) rfl k) ?_
  obtain ⟨_, T9, L9, X9, ⟨rfl, Nq9, Kq9, fq0_9, fq1_9, fq2_9, fq3_9, fq4_9⟩, st9⟩ := own_init X3 hx hZ (y := (⟨OwnK2, "<init>", "(Ljava/util/ArrayList$SubList;I)V"⟩ : MethodName)) rfl hown (oW hw 180 rfl) (oW hw 181 rfl) (oW hw 179 rfl) (oW hw 183 rfl) (by decide) (sp85 l Z a0 hw [] b3 o0 h3 n0 Z_3 A3 F_cursor_3 F_xM_3 F_lastRet_3 F_this_0_3 F_val_index_3 cf5 (Ne.symm ne_o0_b3) g_b3) e3 (a := b3) 1 (argsL := [(.ref o0), (.int 0)]) (rest := [(.ref b3)]) (Ls := #[rv o0, iv 0]) (by rw [hml]; rfl) (lenOf qQ26 rfl) rfl rfl (Nat.le_of_eq rfl) (hb hB d20_15) (by decide) (by decide) (by decide) (by decide)
  have N9 := Fr.app N0 Nq9
  have cf10 := cf4.keep Kq9
  have cf11 := cf5.keep Kq9 (ninS ne_o0_b3 nin0)
  have cf12 := cf6.keep Kq9 (ninS ne_o0_b3 nin0)
  have cf13 := cf7.keep Kq9 (ninS ne_o0_b3 nin0)
  have cf14 := cf8.keep Kq9 (ninS ne_o1_b3 nin0)
  have cf15 := A3.keep Kq9
  have Z_9 : n0 ≤ T9.heap.size := Nat.le_trans Z_3 Kq9.1
  have K_9 : Keep h0 T9.heap [] := K_3.trans Kq9 (allS (Or.inr sz_b3) all0)
  refine oG T9 m 18 #[rv o0, iv 0] [(.ref b3)] (st9) ?_
  refine own_retA X9 hx hlk hret rfl rfl rfl (hb hB d20_18) (by decide) (by decide) ?_
  exact ⟨b3, rfl, N9, K_9, ⟨sz_b3, g_b3⟩, cf15, fq0_9, fq1_9, fq2_9, fq3_9, fq4_9⟩
theorem qQ48 (m : MethodId) (q0 : Addr) : entryFrame m #[(.ref q0)] 1 = mkF m 0 #[rv q0] [] := by first | (simp [entryFrame, mkF, argsToLocals, Value.category]; done) | rfl
theorem sp105 (l : Launch) (Z : State) (a0 : Array Value) (hw : ∀ d ∈ tables_1, d.before a0 Z = true) (ws : List Jvm.Cond) (o0 o1 : Addr) (h0 : Heap) (n0 : Nat) (Z0 : n0 ≤ h0.size) (E_o0 : Exa Z h0 o0 OwnK3) (F_mC_o0 : Fld Z h0 o0 OwnK5 "modCount" "I" (.int 3)) (F_root_o0 : Fld Z h0 o0 OwnK3 "root" OwnK8 (.ref o1)) (F_size_o0 : Fld Z h0 o0 OwnK3 "size" "I" (.int 1)) (F_mC_o1 : Fld Z h0 o1 OwnK5 "modCount" "I" (.int 3)) :
    OwnC l Z (⟨OwnK5, "listIterator", "()Ljava/util/ListIterator;"⟩ : MethodName) jdk_39_method_12_code 1 (some (.object "java/util/ListIterator")) ws ({ frames := 3, cells := 1, slots := 5, locals := 40 } : Room) #[(.ref o0)] h0 (fun v h L => ∃ (w0 : Addr), v = some (.ref w0) ∧ Fr n0 L ∧ Keep h0 h [] ∧ (h0.size ≤ w0 ∧ n0 ≤ w0) ∧ Exa Z h w0 OwnK2 ∧ Fld Z h w0 OwnK2 "this$0" OwnK7 (.ref o0) ∧ Fld Z h w0 OwnK2 "val$index" "I" (.int 0) ∧ Fld Z h w0 OwnK2 "cursor" "I" (.int 0) ∧ Fld Z h w0 OwnK2 "lastRet" "I" (.int (-1)) ∧ Fld Z h w0 OwnK2 "expectedModCount" "I" (.int 3)) := by
  refine own_entry qQ8 (fun m => qQ48 m o0) ?_
  intro p e s m below meth c T0 X0 hC e0
  obtain ⟨hx, hB, hml, hown, hnm, hret, hlk, hZ⟩ := hC
  have N0 := Fr.nil n0
  have K0 := Keep.refl h0 []
  refine oG T0 m 1 #[rv o0] [(.ref o0)] (fun t k => XS.aloadN X0.here hx rfl (hb hB d19_0) rfl rfl k) ?_
  refine oG T0 m 2 #[rv o0] [(.int 0), (.ref o0)] (fun t k => XS.iconst X0.here hx rfl (hb hB d19_1) k) ?_
  obtain ⟨_, T1, L1, X1, ⟨w0_1, rfl, Nq1, Kq1, syw0_1, fq0_1, fq1_1, fq2_1, fq3_1, fq4_1, fq5_1⟩, st1⟩ := own_virtual X0 hx hZ (y := (⟨OwnK5, "listIterator", "(I)Ljava/util/ListIterator;"⟩ : MethodName)) (z := (⟨OwnK3, "listIterator", "(I)Ljava/util/ListIterator;"⟩ : MethodName)) hown (oW hw 161 rfl) (oW hw 162 rfl) (own_nf (args := #[]) (mvT hZ (oW hw 159 rfl)) rfl) (oW hw 164 rfl) (oW hw 165 rfl) (oW hw 126 rfl) (oW hw 166 rfl) (by decide) (sp106 l Z a0 hw [] o0 o1 h0 n0 Z0 E_o0 F_mC_o0 F_root_o0 F_size_o0 F_mC_o1) e0 E_o0 0 (argsL := [(.int 0)]) (rest := []) (Ls := #[rv o0]) (by rw [hml]; rfl) (lenOf qQ30 rfl) rfl rfl (Nat.le_of_eq rfl) (hb hB d19_2) (by decide) (by decide) (by decide) (by decide)
  have g_w0_1 : n0 ≤ w0_1 := syw0_1.2
  have sz_w0_1 : h0.size ≤ w0_1 := Nat.le_trans K0.1 syw0_1.1
  have ne_o0_w0_1 : o0 ≠ w0_1 := Nat.ne_of_lt (Nat.lt_of_lt_of_le E_o0.lt syw0_1.1)
  have ne_o1_w0_1 : o1 ≠ w0_1 := Nat.ne_of_lt (Nat.lt_of_lt_of_le F_mC_o1.lt syw0_1.1)
  have N1 := Fr.app N0 Nq1
  have cf2 := E_o0.keep Kq1
  have cf3 := F_mC_o0.keep Kq1 nin0
  have cf4 := F_root_o0.keep Kq1 nin0
  have cf5 := F_size_o0.keep Kq1 nin0
  have cf6 := F_mC_o1.keep Kq1 nin0
  have Z_1 : n0 ≤ T1.heap.size := Nat.le_trans Z0 Kq1.1
  have K_1 : Keep h0 T1.heap [] := K0.trans Kq1 all0
  refine oG T1 m 5 #[rv o0] [(.ref w0_1)] (st1) ?_
  refine own_retA X1 hx hlk hret rfl rfl rfl (hb hB d19_5) (by decide) (by decide) ?_
  exact ⟨w0_1, rfl, N1, K_1, ⟨sz_w0_1, g_w0_1⟩, fq0_1, fq1_1, fq2_1, fq3_1, fq4_1, fq5_1⟩
theorem qQ42 (m : MethodId) (q0 : Addr) : entryFrame m #[(.ref q0)] 1 = mkF m 0 #[rv q0] [] := by first | (simp [entryFrame, mkF, argsToLocals, Value.category]; done) | rfl
theorem sp104 (l : Launch) (Z : State) (a0 : Array Value) (hw : ∀ d ∈ tables_1, d.before a0 Z = true) (ws : List Jvm.Cond) (o0 o1 : Addr) (h0 : Heap) (n0 : Nat) (Z0 : n0 ≤ h0.size) (E_o0 : Exa Z h0 o0 OwnK3) (F_mC_o0 : Fld Z h0 o0 OwnK5 "modCount" "I" (.int 3)) (F_root_o0 : Fld Z h0 o0 OwnK3 "root" OwnK8 (.ref o1)) (F_size_o0 : Fld Z h0 o0 OwnK3 "size" "I" (.int 1)) (F_mC_o1 : Fld Z h0 o1 OwnK5 "modCount" "I" (.int 3)) :
    OwnC l Z (⟨OwnK3, "iterator", "()Ljava/util/Iterator;"⟩ : MethodName) jdk_130_method_23_code 1 (some (.object "java/util/Iterator")) ws ({ frames := 4, cells := 1, slots := 5, locals := 52 } : Room) #[(.ref o0)] h0 (fun v h L => ∃ (w0 : Addr), v = some (.ref w0) ∧ Fr n0 L ∧ Keep h0 h [] ∧ (h0.size ≤ w0 ∧ n0 ≤ w0) ∧ Exa Z h w0 OwnK2 ∧ Fld Z h w0 OwnK2 "this$0" OwnK7 (.ref o0) ∧ Fld Z h w0 OwnK2 "val$index" "I" (.int 0) ∧ Fld Z h w0 OwnK2 "cursor" "I" (.int 0) ∧ Fld Z h w0 OwnK2 "lastRet" "I" (.int (-1)) ∧ Fld Z h w0 OwnK2 "expectedModCount" "I" (.int 3)) := by
  refine own_entry qQ11 (fun m => qQ42 m o0) ?_
  intro p e s m below meth c T0 X0 hC e0
  obtain ⟨hx, hB, hml, hown, hnm, hret, hlk, hZ⟩ := hC
  have N0 := Fr.nil n0
  have K0 := Keep.refl h0 []
  refine oG T0 m 1 #[rv o0] [(.ref o0)] (fun t k => XS.aloadN X0.here hx rfl (hb hB d18_0) rfl rfl k) ?_
  obtain ⟨_, T1, L1, X1, ⟨w0_1, rfl, Nq1, Kq1, syw0_1, fq0_1, fq1_1, fq2_1, fq3_1, fq4_1, fq5_1⟩, st1⟩ := own_virtualUp X0 hx hZ (x := (⟨OwnK3, "listIterator", "()Ljava/util/ListIterator;"⟩ : MethodName)) (y := (⟨OwnK5, "listIterator", "()Ljava/util/ListIterator;"⟩ : MethodName)) hown (oW hw 155 rfl) (oW hw 156 rfl) (oW hw 157 rfl) (by decide) (oW hw 159 rfl) (oW hw 158 rfl) (oW hw 37 rfl) (oW hw 160 rfl) (sp105 l Z a0 hw [] o0 o1 h0 n0 Z0 E_o0 F_mC_o0 F_root_o0 F_size_o0 F_mC_o1) e0 E_o0 0 (argsL := []) (rest := []) (Ls := #[rv o0]) (by rw [hml]; rfl) (lenOf qQ31 rfl) rfl rfl (Nat.le_of_eq rfl) (hb hB d18_1) (by decide) (by decide) (by decide) (by decide)
  have g_w0_1 : n0 ≤ w0_1 := syw0_1.2
  have sz_w0_1 : h0.size ≤ w0_1 := Nat.le_trans K0.1 syw0_1.1
  have ne_o0_w0_1 : o0 ≠ w0_1 := Nat.ne_of_lt (Nat.lt_of_lt_of_le E_o0.lt syw0_1.1)
  have ne_o1_w0_1 : o1 ≠ w0_1 := Nat.ne_of_lt (Nat.lt_of_lt_of_le F_mC_o1.lt syw0_1.1)
  have N1 := Fr.app N0 Nq1
  have cf2 := E_o0.keep Kq1
  have cf3 := F_mC_o0.keep Kq1 nin0
  have cf4 := F_root_o0.keep Kq1 nin0
  have cf5 := F_size_o0.keep Kq1 nin0
  have cf6 := F_mC_o1.keep Kq1 nin0
  have Z_1 : n0 ≤ T1.heap.size := Nat.le_trans Z0 Kq1.1
  have K_1 : Keep h0 T1.heap [] := K0.trans Kq1 all0
  refine oG T1 m 4 #[rv o0] [(.ref w0_1)] (st1) ?_
  refine own_retA X1 hx hlk hret rfl rfl rfl (hb hB d18_4) (by decide) (by decide) ?_
  exact ⟨w0_1, rfl, N1, K_1, ⟨sz_w0_1, g_w0_1⟩, fq0_1, fq1_1, fq2_1, fq3_1, fq4_1, fq5_1⟩
theorem qQ43 (m : MethodId) (q0 : Addr) : entryFrame m #[(.ref q0)] 3 = mkF m 0 #[rv q0, .unset, .unset] [] := by first | (simp [entryFrame, mkF, argsToLocals, Value.category]; done) | rfl
theorem sp107 (l : Launch) (Z : State) (a0 : Array Value) (hw : ∀ d ∈ tables_1, d.before a0 Z = true) (ws : List Jvm.Cond) (o0 o1 o2 o3 o4 o5 o6 : Addr) (c0 : ClassId) (h0 : Heap) (n0 : Nat) (Z0 : n0 ≤ h0.size) (E_o0 : Exa Z h0 o0 OwnK2) (F_cursor_o0 : Fld Z h0 o0 OwnK2 "cursor" "I" (.int 0)) (F_xM_o0 : Fld Z h0 o0 OwnK2 "expectedModCount" "I" (.int 3)) (F_lastRet_o0 : Fld Z h0 o0 OwnK2 "lastRet" "I" (.int (-1))) (F_this_0_o0 : Fld Z h0 o0 OwnK2 "this$0" OwnK7 (.ref o1)) (F_val_index_o0 : Fld Z h0 o0 OwnK2 "val$index" "I" (.int 0)) (F_offset_o1 : Fld Z h0 o1 OwnK3 "offset" "I" (.int 2)) (F_root_o1 : Fld Z h0 o1 OwnK3 "root" OwnK8 (.ref o2)) (F_size_o1 : Fld Z h0 o1 OwnK3 "size" "I" (.int 1)) (F_elementData_o2 : Fld Z h0 o2 OwnK4 "elementData" OwnK6 (.ref o3)) (F_mC_o2 : Fld Z h0 o2 OwnK5 "modCount" "I" (.int 3)) (V_o3 : Arv Z h0 o3 c0 (.object "java/lang/Object") (10 : Int32) [(.ref o4), (.ref o5), (.ref o6), .null, .null, .null, .null, .null, .null, .null] .null) (O_o3 : Ovr Z c0 "java/lang/Object") (ne_o0_o1 : o0 ≠ o1) (ne_o0_o2 : o0 ≠ o2) (ne_o0_o3 : o0 ≠ o3) (ne_o0_o4 : o0 ≠ o4) (ne_o0_o5 : o0 ≠ o5) (ne_o0_o6 : o0 ≠ o6) (g_o0 : n0 ≤ o0) :
    OwnC l Z (⟨OwnK2, "next", "()Ljava/lang/Object;"⟩ : MethodName) jdk_136_method_3_code 3 (some (.object "java/lang/Object")) ws ({ frames := 1, cells := 0, slots := 0, locals := 12 } : Room) #[(.ref o0)] h0 (fun v h L => v = some (.ref o6) ∧ Fr n0 L ∧ Keep h0 h [o0] ∧ Fld Z h o0 OwnK2 "expectedModCount" "I" (.int 3) ∧ Fld Z h o0 OwnK2 "this$0" OwnK7 (.ref o1) ∧ Fld Z h o0 OwnK2 "val$index" "I" (.int 0) ∧ Fld Z h o0 OwnK2 "cursor" "I" (.int 1) ∧ Fld Z h o0 OwnK2 "lastRet" "I" (.int 0)) := by
  refine own_entry qQ13 (fun m => qQ43 m o0) ?_
  intro p e s m below meth c T0 X0 hC e0
  obtain ⟨hx, hB, hml, hown, hnm, hret, hlk, hZ⟩ := hC
  have N0 := Fr.nil n0
  have K0 := Keep.refl h0 [o0]
  refine oG T0 m 1 #[rv o0, .unset, .unset] [(.ref o0)] (fun t k => XS.aloadN X0.here hx rfl (hb hB d25_0) rfl rfl k) ?_
  obtain ⟨_, T1, L1, X1, ⟨rfl, e1, rfl⟩, st1⟩ := own_virtual X0 hx hZ (y := (⟨OwnK2, "checkForComodification", "()V"⟩ : MethodName)) (z := (⟨OwnK2, "checkForComodification", "()V"⟩ : MethodName)) hown (oW hw 214 rfl) (oW hw 215 rfl) (notFace_of_selects (args := #[]) (mvT hZ (oW hw 217 rfl))) (oW hw 217 rfl) (oW hw 216 rfl) (oW hw 179 rfl) (oW hw 218 rfl) (by decide) (sp88 l Z a0 hw [] o0 o1 o2 h0 n0 Z0 F_xM_o0 F_this_0_o0 F_root_o1 F_mC_o2) e0 E_o0 0 (argsL := []) (rest := []) (Ls := #[rv o0, .unset, .unset]) (by rw [hml]; rfl) (lenOf qQ155 rfl) rfl rfl (Nat.le_of_eq rfl) (hb hB d25_1) (by decide) (by decide) (by decide) (by decide)
  replace X1 := own_nil X1
  refine oG T1 m 4 #[rv o0, .unset, .unset] [] (st1) ?_
  refine oG T1 m 5 #[rv o0, .unset, .unset] [(.ref o0)] (fun t k => XS.aloadN X1.here hx rfl (hb hB d25_4) rfl rfl k) ?_
  obtain ⟨T2, X2, e2, st2⟩ := getF X1 hx hZ hown (host := "") (Or.inl (oW hw 189 rfl)) Via.refl e1 F_cursor_o0 (g := (mkF m 5 #[rv o0, .unset, .unset] [(.ref o0)])) rfl rfl (hb hB d25_5)
  refine oG T2 m 8 #[rv o0, .unset, .unset] [(.int 0)] (st2) ?_
  refine oG T2 m 9 #[rv o0, iv 0, .unset] [] (fun t k => XS.istoreN X2.here hx rfl (hb hB d25_8) rfl rfl k) ?_
  refine oG T2 m 10 #[rv o0, iv 0, .unset] [(.int 0)] (fun t k => XS.iloadN X2.here hx rfl (hb hB d25_9) rfl k) ?_
  refine oG T2 m 11 #[rv o0, iv 0, .unset] [(.ref o0), (.int 0)] (fun t k => XS.aloadN X2.here hx rfl (hb hB d25_10) rfl rfl k) ?_
  obtain ⟨T3, X3, e3, st3⟩ := getF X2 hx hZ hown (host := "") (Or.inl (oW hw 184 rfl)) Via.refl e2 F_this_0_o0 (g := (mkF m 11 #[rv o0, iv 0, .unset] [(.ref o0), (.int 0)])) rfl rfl (hb hB d25_11)
  refine oG T3 m 14 #[rv o0, iv 0, .unset] [(.ref o1), (.int 0)] (st3) ?_
  refine oG T3 m 17 #[rv o0, iv 0, .unset] [(.int 1), (.int 0)] (own_getfRef X3 hx hZ hown (oW hw 205 rfl) e3 F_size_o1 (hb hB d25_14)) ?_
  refine oG T3 m 28 #[rv o0, iv 0, .unset] [] (fun t k => XS.icmpYes X3.here hx rfl (pc0 := 17) (pc' := 28) rfl (hb hB d25_17) rfl (tlt (by decide)).1 (by decide) (by decide) k) ?_
  refine oG T3 m 29 #[rv o0, iv 0, .unset] [(.ref o0)] (fun t k => XS.aloadN X3.here hx rfl (hb hB d25_28) rfl rfl k) ?_
  obtain ⟨T5, X5, e5, st5⟩ := getF X3 hx hZ hown (host := "") (Or.inl (oW hw 184 rfl)) Via.refl e3 F_this_0_o0 (g := (mkF m 29 #[rv o0, iv 0, .unset] [(.ref o0)])) rfl rfl (hb hB d25_29)
  refine oG T5 m 32 #[rv o0, iv 0, .unset] [(.ref o1)] (st5) ?_
  refine oG T5 m 35 #[rv o0, iv 0, .unset] [(.ref o2)] (own_getfRef X5 hx hZ hown (oW hw 219 rfl) e5 F_root_o1 (hb hB d25_32)) ?_
  obtain ⟨T7, X7, e7, st7⟩ := getF X5 hx hZ hown (host := "") (Or.inl (oW hw 221 rfl)) Via.refl e5 F_elementData_o2 (g := (mkF m 35 #[rv o0, iv 0, .unset] [(.ref o2)])) rfl rfl (hb hB d25_35)
  refine oG T7 m 38 #[rv o0, iv 0, .unset] [(.ref o3)] (st7) ?_
  refine oG T7 m 39 #[rv o0, iv 0, rv o3] [] (fun t k => XS.astoreN X7.here hx rfl (hb hB d25_38) rfl rfl rfl k) ?_
  refine oG T7 m 40 #[rv o0, iv 0, rv o3] [(.ref o0)] (fun t k => XS.aloadN X7.here hx rfl (hb hB d25_39) rfl rfl k) ?_
  obtain ⟨T8, X8, e8, st8⟩ := getF X7 hx hZ hown (host := "") (Or.inl (oW hw 184 rfl)) Via.refl e7 F_this_0_o0 (g := (mkF m 40 #[rv o0, iv 0, rv o3] [(.ref o0)])) rfl rfl (hb hB d25_40)
  refine oG T8 m 43 #[rv o0, iv 0, rv o3] [(.ref o1)] (st8) ?_
  refine oG T8 m 46 #[rv o0, iv 0, rv o3] [(.int 2)] (own_getfRef X8 hx hZ hown (oW hw 222 rfl) e8 F_offset_o1 (hb hB d25_43)) ?_
  refine oG T8 m 47 #[rv o0, iv 0, rv o3] [(.int 0), (.int 2)] (fun t k => XS.iloadN X8.here hx rfl (hb hB d25_46) rfl k) ?_
  refine oG T8 m 48 #[rv o0, iv 0, rv o3] [(.int ((2 : Int32) + (0 : Int32)))] (fun t k => XS.iadd X8.here hx rfl (hb hB d25_47) rfl k) ?_
  rw [show ((2 : Int32) + (0 : Int32)) = (2 : Int32) from by decide]
  refine oG T8 m 49 #[rv o0, iv 0, rv o3] [(.ref o3), (.int 2)] (fun t k => XS.aloadN X8.here hx rfl (hb hB d25_48) rfl rfl k) ?_
  refine oG T8 m 50 #[rv o0, iv 0, rv o3] [(.int 10), (.int 2)] (own_alen X8 hx hZ e8 V_o3 (hb hB d25_49)) ?_
  refine oG T8 m 61 #[rv o0, iv 0, rv o3] [] (fun t k => XS.icmpYes X8.here hx rfl (pc0 := 50) (pc' := 61) rfl (hb hB d25_50) rfl (tlt (by decide)).1 (by decide) (by decide) k) ?_
  refine oG T8 m 62 #[rv o0, iv 0, rv o3] [(.ref o0)] (fun t k => XS.aloadN X8.here hx rfl (hb hB d25_61) rfl rfl k) ?_
  refine oG T8 m 63 #[rv o0, iv 0, rv o3] [(.int 0), (.ref o0)] (fun t k => XS.iloadN X8.here hx rfl (hb hB d25_62) rfl k) ?_
  refine oG T8 m 64 #[rv o0, iv 0, rv o3] [(.int 1), (.int 0), (.ref o0)] (fun t k => XS.iconst X8.here hx rfl (hb hB d25_63) k) ?_
  refine oG T8 m 65 #[rv o0, iv 0, rv o3] [(.int ((0 : Int32) + (1 : Int32))), (.ref o0)] (fun t k => XS.iadd X8.here hx rfl (hb hB d25_64) rfl k) ?_
  rw [show ((0 : Int32) + (1 : Int32)) = (1 : Int32) from by decide]
  obtain ⟨T11, h11, X11, e11, W11, st11⟩ := putF X8 hx hZ hown (host := "") (Or.inl (oW hw 189 rfl)) Via.refl e8 F_cursor_o0 E_o0 (Or.inl (oW hw 190 rfl)) (oW hw 178 rfl) (ty := .int) (by decide) rfl rfl (g := (mkF m 65 #[rv o0, iv 0, rv o3] [(.int 1), (.ref o0)])) rfl rfl (hb hB d25_65)
  have F11 := F_cursor_o0.same W11
  have cf12 := E_o0.wr W11
  have cf13 := F_xM_o0.other W11 (Or.inr (slot_ne (Or.inl (oW hw 195 rfl)) (Or.inl (oW hw 190 rfl)) (by decide) (t := .int) (t' := .int) (by decide) (by decide)))
  have cf14 := F_lastRet_o0.other W11 (Or.inr (slot_ne (Or.inl (oW hw 192 rfl)) (Or.inl (oW hw 190 rfl)) (by decide) (t := .int) (t' := .int) (by decide) (by decide)))
  have cf15 := F_this_0_o0.other W11 (Or.inr (slot_ne (Or.inr (oW hw 185 rfl)) (Or.inl (oW hw 190 rfl)) (by decide) (t := (.object OwnK3)) (t' := .int) (by decide) (by decide)))
  have cf16 := F_val_index_o0.other W11 (Or.inr (slot_ne (Or.inr (oW hw 187 rfl)) (Or.inl (oW hw 190 rfl)) (by decide) (t := .int) (t' := .int) (by decide) (by decide)))
  have cf17 := F_offset_o1.other W11 (Or.inl (Ne.symm ne_o0_o1))
  have cf18 := F_root_o1.other W11 (Or.inl (Ne.symm ne_o0_o1))
  have cf19 := F_size_o1.other W11 (Or.inl (Ne.symm ne_o0_o1))
  have cf20 := F_elementData_o2.other W11 (Or.inl (Ne.symm ne_o0_o2))
  have cf21 := F_mC_o2.other W11 (Or.inl (Ne.symm ne_o0_o2))
  have cf22 := V_o3.other W11 (Ne.symm ne_o0_o3)
  have Z_11 : n0 ≤ h11.size := Nat.le_trans Z0 (Keep.of_wr W11).1
  have K_11 : Keep h0 h11 [o0] := K0.wr W11 (oI 0 rfl)
  have N11 := Fr.snoc X11 N0 g_o0
  refine oG T11 m 68 #[rv o0, iv 0, rv o3] [] (st11) ?_
  refine oG T11 m 69 #[rv o0, iv 0, rv o3] [(.ref o3)] (fun t k => XS.aloadN X11.here hx rfl (hb hB d25_68) rfl rfl k) ?_
  refine oG T11 m 70 #[rv o0, iv 0, rv o3] [(.ref o0), (.ref o3)] (fun t k => XS.aloadN X11.here hx rfl (hb hB d25_69) rfl rfl k) ?_
  obtain ⟨T23, X23, e23, st23⟩ := getF X11 hx hZ hown (host := "") (Or.inl (oW hw 184 rfl)) Via.refl e11 cf15 (g := (mkF m 70 #[rv o0, iv 0, rv o3] [(.ref o0), (.ref o3)])) rfl rfl (hb hB d25_70)
  refine oG T23 m 73 #[rv o0, iv 0, rv o3] [(.ref o1), (.ref o3)] (st23) ?_
  refine oG T23 m 76 #[rv o0, iv 0, rv o3] [(.int 2), (.ref o3)] (own_getfRef X23 hx hZ hown (oW hw 222 rfl) e23 cf17 (hb hB d25_73)) ?_
  refine oG T23 m 77 #[rv o0, iv 0, rv o3] [(.ref o0), (.int 2), (.ref o3)] (fun t k => XS.aloadN X23.here hx rfl (hb hB d25_76) rfl rfl k) ?_
  refine oG T23 m 78 #[rv o0, iv 0, rv o3] [(.int 0), (.ref o0), (.int 2), (.ref o3)] (fun t k => XS.iloadN X23.here hx rfl (hb hB d25_77) rfl k) ?_
  refine oG T23 m 79 #[rv o0, iv 0, rv o3] [(.int 0), (.ref o0), (.int 0), (.int 2), (.ref o3)] (fun t k => XS.dupX1 X23.here hx rfl (hb hB d25_78) rfl rfl rfl k) ?_
  obtain ⟨T25, h25, X25, e25, W25, st25⟩ := putF X23 hx hZ hown (host := "") (Or.inl (oW hw 191 rfl)) Via.refl e23 cf14 cf12 (Or.inl (oW hw 192 rfl)) (oW hw 178 rfl) (ty := .int) (by decide) rfl rfl (g := (mkF m 79 #[rv o0, iv 0, rv o3] [(.int 0), (.ref o0), (.int 0), (.int 2), (.ref o3)])) rfl rfl (hb hB d25_79)
  have F25 := cf14.same W25
  have cf26 := cf12.wr W25
  have cf27 := cf13.other W25 (Or.inr (slot_ne (Or.inl (oW hw 195 rfl)) (Or.inl (oW hw 192 rfl)) (by decide) (t := .int) (t' := .int) (by decide) (by decide)))
  have cf28 := cf15.other W25 (Or.inr (slot_ne (Or.inr (oW hw 185 rfl)) (Or.inl (oW hw 192 rfl)) (by decide) (t := (.object OwnK3)) (t' := .int) (by decide) (by decide)))
  have cf29 := cf16.other W25 (Or.inr (slot_ne (Or.inr (oW hw 187 rfl)) (Or.inl (oW hw 192 rfl)) (by decide) (t := .int) (t' := .int) (by decide) (by decide)))
  have cf30 := cf17.other W25 (Or.inl (Ne.symm ne_o0_o1))
  have cf31 := cf18.other W25 (Or.inl (Ne.symm ne_o0_o1))
  have cf32 := cf19.other W25 (Or.inl (Ne.symm ne_o0_o1))
  have cf33 := cf20.other W25 (Or.inl (Ne.symm ne_o0_o2))
  have cf34 := cf21.other W25 (Or.inl (Ne.symm ne_o0_o2))
  have cf35 := cf22.other W25 (Ne.symm ne_o0_o3)
  have cf36 := F11.other W25 (Or.inr (slot_ne (Or.inl (oW hw 190 rfl)) (Or.inl (oW hw 192 rfl)) (by decide) (t := .int) (t' := .int) (by decide) (by decide)))
  have Z_25 : n0 ≤ h25.size := Nat.le_trans Z_11 (Keep.of_wr W25).1
  have K_25 : Keep h0 h25 [o0] := K_11.wr W25 (oI 0 rfl)
  have N25 := Fr.snoc X25 N11 g_o0
  refine oG T25 m 82 #[rv o0, iv 0, rv o3] [(.int 0), (.int 2), (.ref o3)] (st25) ?_
  refine oG T25 m 83 #[rv o0, iv 0, rv o3] [(.int ((2 : Int32) + (0 : Int32))), (.ref o3)] (fun t k => XS.iadd X25.here hx rfl (hb hB d25_82) rfl k) ?_
  rw [show ((2 : Int32) + (0 : Int32)) = (2 : Int32) from by decide]
  refine oG T25 m 84 #[rv o0, iv 0, rv o3] [(.ref o6)] (own_aaload X25 hx hZ e25 cf35 rfl (j := (2 : Int32)) ⟨by decide, by decide⟩ rfl (hb hB d25_83)) ?_
  refine own_retA X25 hx hlk hret rfl rfl rfl (hb hB d25_84) (by decide) (by decide) ?_
  rw [e25]
  exact ⟨rfl, N25, K_25, cf27, cf28, cf29, cf36, F25⟩
theorem qQ51 (m : MethodId) (q0 : Addr) (q1 : Addr) : entryFrame m #[(.ref q0), (.ref q1)] 4 = mkF m 0 #[rv q0, rv q1, .unset, .unset] [] := by first | (simp [entryFrame, mkF, argsToLocals, Value.category]; done) | rfl
theorem sp100 (l : Launch) (Z : State) (a0 : Array Value) (hw : ∀ d ∈ tables_1, d.before a0 Z = true) (ws : List Jvm.Cond) (o0 o1 o2 o3 o4 o5 : Addr) (u0 : Int64) (u1 : Int64) (c0 : ClassId) (h0 : Heap) (n0 : Nat) (Z0 : n0 ≤ h0.size) (F_ahead_o0 : Fld Z h0 o0 OwnK1 "ahead" "I" (.int 2)) (F_changes_o0 : Fld Z h0 o0 OwnK1 "changes" "Ljava/util/List;" (.ref o2)) (E_o1 : Exa Z h0 o1 OwnK0) (F_id_o1 : Fld Z h0 o1 OwnK0 "id" "J" (.long u0)) (E_o2 : Exa Z h0 o2 OwnK4) (F_elementData_o2 : Fld Z h0 o2 OwnK4 "elementData" OwnK6 (.ref o3)) (F_mC_o2 : Fld Z h0 o2 OwnK5 "modCount" "I" (.int 3)) (F_size_o2 : Fld Z h0 o2 OwnK4 "size" "I" (.int 3)) (V_o3 : Arv Z h0 o3 c0 (.object "java/lang/Object") (10 : Int32) [(.ref o1), (.ref o4), (.ref o5), .null, .null, .null, .null, .null, .null, .null] .null) (O_o3 : Ovr Z c0 "java/lang/Object") (E_o4 : Exa Z h0 o4 OwnK0) (E_o5 : Exa Z h0 o5 OwnK0) (F_id_o5 : Fld Z h0 o5 OwnK0 "id" "J" (.long u1)) (ne_o0_o1 : o0 ≠ o1) (ne_o0_o2 : o0 ≠ o2) (ne_o0_o3 : o0 ≠ o3) (ne_o0_o4 : o0 ≠ o4) (ne_o0_o5 : o0 ≠ o5) (hq0 : ¬ (u1 = u0)) :
    OwnC l Z (⟨OwnK1, "isOfBacklog", "(Lcom/example/newt/newt/core/delivery/Change;)Z"⟩ : MethodName) prog_11_method_4_code 4 (some .boolean) ws ({ frames := 5, cells := 2, slots := 10, locals := 66 } : Room) #[(.ref o0), (.ref o1)] h0 (fun v h L => v = some (.int 0) ∧ Fr n0 L ∧ Keep h0 h []) := by
  refine own_entry qQ2 (fun m => qQ51 m o0 o1) ?_
  intro p e s m below meth c T0 X0 hC e0
  obtain ⟨hx, hB, hml, hown, hnm, hret, hlk, hZ⟩ := hC
  have N0 := Fr.nil n0
  have K0 := Keep.refl h0 []
  refine oG T0 m 1 #[rv o0, rv o1, .unset, .unset] [(.ref o0)] (fun t k => XS.aloadN X0.here hx rfl (hb hB d13_0) rfl rfl k) ?_
  obtain ⟨T1, X1, e1, st1⟩ := getF X0 hx hZ hown (host := "") (Or.inl (oW hw 58 rfl)) Via.refl e0 F_changes_o0 (g := (mkF m 1 #[rv o0, rv o1, .unset, .unset] [(.ref o0)])) rfl rfl (hb hB d13_1)
  refine oG T1 m 4 #[rv o0, rv o1, .unset, .unset] [(.ref o2)] (st1) ?_
  refine oG T1 m 5 #[rv o0, rv o1, .unset, .unset] [(.ref o0), (.ref o2)] (fun t k => XS.aloadN X1.here hx rfl (hb hB d13_4) rfl rfl k) ?_
  obtain ⟨T2, X2, e2, st2⟩ := getF X1 hx hZ hown (host := "") (Or.inl (oW hw 60 rfl)) Via.refl e1 F_ahead_o0 (g := (mkF m 5 #[rv o0, rv o1, .unset, .unset] [(.ref o0), (.ref o2)])) rfl rfl (hb hB d13_5)
  refine oG T2 m 8 #[rv o0, rv o1, .unset, .unset] [(.int 2), (.ref o2)] (st2) ?_
  refine oG T2 m 9 #[rv o0, rv o1, .unset, .unset] [(.ref o0), (.int 2), (.ref o2)] (fun t k => XS.aloadN X2.here hx rfl (hb hB d13_8) rfl rfl k) ?_
  obtain ⟨T3, X3, e3, st3⟩ := getF X2 hx hZ hown (host := "") (Or.inl (oW hw 58 rfl)) Via.refl e2 F_changes_o0 (g := (mkF m 9 #[rv o0, rv o1, .unset, .unset] [(.ref o0), (.int 2), (.ref o2)])) rfl rfl (hb hB d13_9)
  refine oG T3 m 12 #[rv o0, rv o1, .unset, .unset] [(.ref o2), (.int 2), (.ref o2)] (st3) ?_
  obtain ⟨_, T4, L4, X4, ⟨rfl, e4, rfl⟩, st4⟩ := own_interface X3 hx hZ (xi := (⟨"java/util/List", "size", "()I"⟩ : MethodName)) (y := (⟨OwnK4, "size", "()I"⟩ : MethodName)) hown (oW hw 103 rfl) (oW hw 104 rfl) (mvT hZ (oW hw 105 rfl)) (oW hw 106 rfl) (oW hw 107 rfl) (oW hw 108 rfl) (oW hw 109 rfl) (oW hw 110 rfl) (oW hw 29 rfl) (oW hw 111 rfl) (by decide) (sp76 l Z a0 hw [] o2 h0 n0 Z0 F_size_o2) e3 E_o2 2 (argsL := []) (rest := [(.int 2), (.ref o2)]) (Ls := #[rv o0, rv o1, .unset, .unset]) (by rw [hml]; rfl) (lenOf qQ153 rfl) rfl rfl (Nat.le_of_eq rfl) (hb hB d13_12) (by decide) (by decide) (by decide) (by decide)
  replace X4 := own_nil X4
  refine oG T4 m 17 #[rv o0, rv o1, .unset, .unset] [(.int 3), (.int 2), (.ref o2)] (st4) ?_
  obtain ⟨_, T5, L5, X5, ⟨w0_5, rfl, Nq5, Kq5, syw0_5, fq0_5, fq1_5, fq2_5, fq3_5, fq4_5⟩, st5⟩ := own_interface X4 hx hZ (xi := (⟨"java/util/List", "subList", "(II)Ljava/util/List;"⟩ : MethodName)) (y := (⟨OwnK4, "subList", "(II)Ljava/util/List;"⟩ : MethodName)) hown (oW hw 112 rfl) (oW hw 113 rfl) (mvT hZ (oW hw 114 rfl)) (oW hw 115 rfl) (oW hw 116 rfl) (oW hw 117 rfl) (oW hw 118 rfl) (oW hw 110 rfl) (oW hw 29 rfl) (oW hw 119 rfl) (by decide) (sp101 l Z a0 hw [] o2 h0 n0 Z0 F_mC_o2 F_size_o2) e4 E_o2 0 (argsL := [(.int 2), (.int 3)]) (rest := []) (Ls := #[rv o0, rv o1, .unset, .unset]) (by rw [hml]; rfl) (lenOf qQ39 rfl) rfl rfl (Nat.le_of_eq rfl) (hb hB d13_17) (by decide) (by decide) (by decide) (by decide)
  have g_w0_5 : n0 ≤ w0_5 := syw0_5.2
  have sz_w0_5 : h0.size ≤ w0_5 := Nat.le_trans K0.1 syw0_5.1
  have ne_o0_w0_5 : o0 ≠ w0_5 := Nat.ne_of_lt (Nat.lt_of_lt_of_le F_ahead_o0.lt syw0_5.1)
  have ne_o1_w0_5 : o1 ≠ w0_5 := Nat.ne_of_lt (Nat.lt_of_lt_of_le E_o1.lt syw0_5.1)
  have ne_o2_w0_5 : o2 ≠ w0_5 := Nat.ne_of_lt (Nat.lt_of_lt_of_le E_o2.lt syw0_5.1)
  have ne_o3_w0_5 : o3 ≠ w0_5 := Nat.ne_of_lt (Nat.lt_of_lt_of_le V_o3.lt syw0_5.1)
  have ne_o4_w0_5 : o4 ≠ w0_5 := Nat.ne_of_lt (Nat.lt_of_lt_of_le E_o4.lt syw0_5.1)
  have ne_o5_w0_5 : o5 ≠ w0_5 := Nat.ne_of_lt (Nat.lt_of_lt_of_le E_o5.lt syw0_5.1)
  have N5 := Fr.app N0 Nq5
  have cf6 := F_ahead_o0.keep Kq5 nin0
  have cf7 := F_changes_o0.keep Kq5 nin0
  have cf8 := E_o1.keep Kq5
  have cf9 := F_id_o1.keep Kq5 nin0
  have cf10 := E_o2.keep Kq5
  have cf11 := F_elementData_o2.keep Kq5 nin0
  have cf12 := F_mC_o2.keep Kq5 nin0
  have cf13 := F_size_o2.keep Kq5 nin0
  have cf14 := V_o3.keep Kq5 nin0
  have cf15 := E_o4.keep Kq5
  have cf16 := E_o5.keep Kq5
  have cf17 := F_id_o5.keep Kq5 nin0
  have Z_5 : n0 ≤ T5.heap.size := Nat.le_trans Z0 Kq5.1
  have K_5 : Keep h0 T5.heap [] := K0.trans Kq5 all0
  refine oG T5 m 22 #[rv o0, rv o1, .unset, .unset] [(.ref w0_5)] (st5) ?_
  obtain ⟨_, T18, L18, X18, ⟨w0_18, rfl, Nq18, Kq18, syw0_18, fq0_18, fq1_18, fq2_18, fq3_18, fq4_18, fq5_18⟩, st18⟩ := own_interface X5 hx hZ (xi := (⟨"java/util/List", "iterator", "()Ljava/util/Iterator;"⟩ : MethodName)) (y := (⟨OwnK3, "iterator", "()Ljava/util/Iterator;"⟩ : MethodName)) hown (oW hw 146 rfl) (oW hw 147 rfl) (mvT hZ (oW hw 148 rfl)) (oW hw 149 rfl) (oW hw 150 rfl) (oW hw 151 rfl) (oW hw 152 rfl) (oW hw 153 rfl) (oW hw 126 rfl) (oW hw 154 rfl) (by decide) (sp104 l Z a0 hw [] w0_5 o2 T5.heap n0 Z_5 fq0_5 fq4_5 fq1_5 fq3_5 cf12) rfl fq0_5 0 (argsL := []) (rest := []) (Ls := #[rv o0, rv o1, .unset, .unset]) (by rw [hml]; rfl) (lenOf qQ35 rfl) rfl rfl (Nat.le_of_eq rfl) (hb hB d13_22) (by decide) (by decide) (by decide) (by decide)
  have g_w0_18 : n0 ≤ w0_18 := syw0_18.2
  have sz_w0_18 : h0.size ≤ w0_18 := Nat.le_trans K_5.1 syw0_18.1
  have ne_o0_w0_18 : o0 ≠ w0_18 := Nat.ne_of_lt (Nat.lt_of_lt_of_le cf6.lt syw0_18.1)
  have ne_o1_w0_18 : o1 ≠ w0_18 := Nat.ne_of_lt (Nat.lt_of_lt_of_le cf8.lt syw0_18.1)
  have ne_o2_w0_18 : o2 ≠ w0_18 := Nat.ne_of_lt (Nat.lt_of_lt_of_le cf10.lt syw0_18.1)
  have ne_o3_w0_18 : o3 ≠ w0_18 := Nat.ne_of_lt (Nat.lt_of_lt_of_le cf14.lt syw0_18.1)
  have ne_o4_w0_18 : o4 ≠ w0_18 := Nat.ne_of_lt (Nat.lt_of_lt_of_le cf15.lt syw0_18.1)
  have ne_o5_w0_18 : o5 ≠ w0_18 := Nat.ne_of_lt (Nat.lt_of_lt_of_le cf16.lt syw0_18.1)
  have ne_w0_5_w0_18 : w0_5 ≠ w0_18 := Nat.ne_of_lt (Nat.lt_of_lt_of_le fq0_5.lt syw0_18.1)
  have N18 := Fr.app N5 Nq18
  have cf19 := cf6.keep Kq18 nin0
  have cf20 := cf7.keep Kq18 nin0
  have cf21 := cf8.keep Kq18
  have cf22 := cf9.keep Kq18 nin0
  have cf23 := cf10.keep Kq18
  have cf24 := cf11.keep Kq18 nin0
  have cf25 := cf12.keep Kq18 nin0
  have cf26 := cf13.keep Kq18 nin0
  have cf27 := cf14.keep Kq18 nin0
  have cf28 := cf15.keep Kq18
  have cf29 := cf16.keep Kq18
  have cf30 := cf17.keep Kq18 nin0
  have cf31 := fq0_5.keep Kq18
  have cf32 := fq1_5.keep Kq18 nin0
  have cf33 := fq2_5.keep Kq18 nin0
  have cf34 := fq3_5.keep Kq18 nin0
  have cf35 := fq4_5.keep Kq18 nin0
  have Z_18 : n0 ≤ T18.heap.size := Nat.le_trans Z_5 Kq18.1
  have K_18 : Keep h0 T18.heap [] := K_5.trans Kq18 all0
  refine oG T18 m 27 #[rv o0, rv o1, .unset, .unset] [(.ref w0_18)] (st18) ?_
  refine oG T18 m 28 #[rv o0, rv o1, rv w0_18, .unset] [] (fun t k => XS.astoreN X18.here hx rfl (hb hB d13_27) rfl rfl rfl k) ?_
  refine oG T18 m 29 #[rv o0, rv o1, rv w0_18, .unset] [(.ref w0_18)] (fun t k => XS.aloadN X18.here hx rfl (hb hB d13_28) rfl rfl k) ?_
  obtain ⟨_, T36, L36, X36, ⟨rfl, e36, rfl⟩, st36⟩ := own_interface X18 hx hZ (xi := (⟨"java/util/Iterator", "hasNext", "()Z"⟩ : MethodName)) (y := (⟨OwnK2, "hasNext", "()Z"⟩ : MethodName)) hown (oW hw 196 rfl) (oW hw 197 rfl) (mvT hZ (oW hw 198 rfl)) (oW hw 199 rfl) (oW hw 200 rfl) (oW hw 201 rfl) (oW hw 202 rfl) (oW hw 203 rfl) (oW hw 179 rfl) (oW hw 204 rfl) (by decide) (sp24 l Z a0 hw [] w0_18 w0_5 T18.heap n0 Z_18 fq3_18 fq1_18 cf34) rfl fq0_18 0 (argsL := []) (rest := []) (Ls := #[rv o0, rv o1, rv w0_18, .unset]) (by rw [hml]; rfl) (lenOf qQ158 rfl) rfl rfl (Nat.le_of_eq rfl) (hb hB d13_29) (by decide) (by decide) (by decide) (by decide)
  replace X36 := own_nil X36
  refine oG T36 m 34 #[rv o0, rv o1, rv w0_18, .unset] [(.int 1)] (st36) ?_
  refine oG T36 m 37 #[rv o0, rv o1, rv w0_18, .unset] [] (fun t k => XS.ifNo X36.here hx rfl (hb hB d13_34) rfl ((if0 _ _).trans (feq (by decide)).1) k) ?_
  refine oG T36 m 38 #[rv o0, rv o1, rv w0_18, .unset] [(.ref w0_18)] (fun t k => XS.aloadN X36.here hx rfl (hb hB d13_37) rfl rfl k) ?_
  obtain ⟨_, T37, L37, X37, ⟨rfl, Nq37, Kq37, fq0_37, fq1_37, fq2_37, fq3_37, fq4_37⟩, st37⟩ := own_interface X36 hx hZ (xi := (⟨"java/util/Iterator", "next", "()Ljava/lang/Object;"⟩ : MethodName)) (y := (⟨OwnK2, "next", "()Ljava/lang/Object;"⟩ : MethodName)) hown (oW hw 206 rfl) (oW hw 207 rfl) (mvT hZ (oW hw 208 rfl)) (oW hw 209 rfl) (oW hw 210 rfl) (oW hw 211 rfl) (oW hw 212 rfl) (oW hw 203 rfl) (oW hw 179 rfl) (oW hw 213 rfl) (by decide) (sp107 l Z a0 hw [] w0_18 w0_5 o2 o3 o1 o4 o5 c0 T18.heap n0 Z_18 fq0_18 fq3_18 fq5_18 fq4_18 fq1_18 fq2_18 cf33 cf32 cf34 cf24 cf25 cf27 O_o3 (Ne.symm ne_w0_5_w0_18) (Ne.symm ne_o2_w0_18) (Ne.symm ne_o3_w0_18) (Ne.symm ne_o1_w0_18) (Ne.symm ne_o4_w0_18) (Ne.symm ne_o5_w0_18) g_w0_18) e36 fq0_18 0 (argsL := []) (rest := []) (Ls := #[rv o0, rv o1, rv w0_18, .unset]) (by rw [hml]; rfl) (lenOf qQ38 rfl) rfl rfl (Nat.le_of_eq rfl) (hb hB d13_38) (by decide) (by decide) (by decide) (by decide)
  have N37 := Fr.app N18 Nq37
  have cf38 := cf19.keep Kq37 (ninS ne_o0_w0_18 nin0)
  have cf39 := cf20.keep Kq37 (ninS ne_o0_w0_18 nin0)
  have cf40 := cf21.keep Kq37
  have cf41 := cf22.keep Kq37 (ninS ne_o1_w0_18 nin0)
  have cf42 := cf23.keep Kq37
  have cf43 := cf24.keep Kq37 (ninS ne_o2_w0_18 nin0)
  have cf44 := cf25.keep Kq37 (ninS ne_o2_w0_18 nin0)
  have cf45 := cf26.keep Kq37 (ninS ne_o2_w0_18 nin0)
  have cf46 := cf27.keep Kq37 (ninS ne_o3_w0_18 nin0)
  have cf47 := cf28.keep Kq37
  have cf48 := cf29.keep Kq37
  have cf49 := cf30.keep Kq37 (ninS ne_o5_w0_18 nin0)
  have cf50 := cf31.keep Kq37
  have cf51 := cf32.keep Kq37 (ninS ne_w0_5_w0_18 nin0)
  have cf52 := cf33.keep Kq37 (ninS ne_w0_5_w0_18 nin0)
  have cf53 := cf34.keep Kq37 (ninS ne_w0_5_w0_18 nin0)
  have cf54 := cf35.keep Kq37 (ninS ne_w0_5_w0_18 nin0)
  have cf55 := fq0_18.keep Kq37
  have Z_37 : n0 ≤ T37.heap.size := Nat.le_trans Z_18 Kq37.1
  have K_37 : Keep h0 T37.heap [] := K_18.trans Kq37 (allS (Or.inr sz_w0_18) all0)
  refine oG T37 m 43 #[rv o0, rv o1, rv w0_18, .unset] [(.ref o5)] (st37) ?_
  obtain ⟨T56, X56, e56, st56⟩ := castY X37 hx hZ hown (oW hw 223 rfl) rfl (Ins.self cf48) (g := (mkF m 43 #[rv o0, rv o1, rv w0_18, .unset] [(.ref o5)])) rfl rfl (hb hB d13_43)
  refine oG T56 m 46 #[rv o0, rv o1, rv w0_18, .unset] [(.ref o5)] (st56) ?_
  refine oG T56 m 47 #[rv o0, rv o1, rv w0_18, rv o5] [] (fun t k => XS.astoreN X56.here hx rfl (hb hB d13_46) rfl rfl rfl k) ?_
  refine oG T56 m 48 #[rv o0, rv o1, rv w0_18, rv o5] [(.ref o5)] (fun t k => XS.aloadN X56.here hx rfl (hb hB d13_47) rfl rfl k) ?_
  obtain ⟨_, T57, L57, X57, ⟨rfl, e57, rfl⟩, st57⟩ := own_virtual X56 hx hZ (y := (⟨OwnK0, "getId", "()J"⟩ : MethodName)) (z := (⟨OwnK0, "getId", "()J"⟩ : MethodName)) hown (oW hw 225 rfl) (oW hw 226 rfl) (notFace_of_selects (args := #[]) (mvT hZ (oW hw 228 rfl))) (oW hw 228 rfl) (oW hw 227 rfl) (oW hw 3 rfl) (oW hw 229 rfl) (by decide) (sp27 l Z a0 hw [] o5 u1 T37.heap n0 Z_37 cf49) e56 cf48 0 (argsL := []) (rest := []) (Ls := #[rv o0, rv o1, rv w0_18, rv o5]) (by rw [hml]; rfl) (lenOf qQ159 rfl) rfl rfl (Nat.le_of_eq rfl) (hb hB d13_48) (by decide) (by decide) (by decide) (by decide)
  replace X57 := own_nil X57
  refine oG T57 m 51 #[rv o0, rv o1, rv w0_18, rv o5] [(.long u1)] (st57) ?_
  refine oG T57 m 52 #[rv o0, rv o1, rv w0_18, rv o5] [(.ref o1), (.long u1)] (fun t k => XS.aloadN X57.here hx rfl (hb hB d13_51) rfl rfl k) ?_
  obtain ⟨_, T58, L58, X58, ⟨rfl, e58, rfl⟩, st58⟩ := own_virtual X57 hx hZ (y := (⟨OwnK0, "getId", "()J"⟩ : MethodName)) (z := (⟨OwnK0, "getId", "()J"⟩ : MethodName)) hown (oW hw 225 rfl) (oW hw 226 rfl) (notFace_of_selects (args := #[]) (mvT hZ (oW hw 228 rfl))) (oW hw 228 rfl) (oW hw 227 rfl) (oW hw 3 rfl) (oW hw 229 rfl) (by decide) (sp27 l Z a0 hw [] o1 u0 T37.heap n0 Z_37 cf41) e57 cf40 2 (argsL := []) (rest := [(.long u1)]) (Ls := #[rv o0, rv o1, rv w0_18, rv o5]) (by rw [hml]; rfl) (lenOf qQ159 rfl) rfl rfl (Nat.le_of_eq rfl) (hb hB d13_52) (by decide) (by decide) (by decide) (by decide)
  replace X58 := own_nil X58
  refine oG T58 m 55 #[rv o0, rv o1, rv w0_18, rv o5] [(.long u0), (.long u1)] (st58) ?_
  refine oG T58 m 56 #[rv o0, rv o1, rv w0_18, rv o5] [(.int (lcmpW u1 u0))] (fun t k => XS.lcmp X58.here hx rfl (hb hB d13_55) rfl k) ?_
  refine oG T58 m 61 #[rv o0, rv o1, rv w0_18, rv o5] [] (fun t k => XS.ifYes X58.here hx rfl (pc0 := 56) (pc' := 61) rfl (hb hB d13_56) rfl ((if0 _ _).trans (feq (mt (lw_eq u1 u0).mp hq0)).2) (by decide) (by decide) k) ?_
  refine oG T58 m 28 #[rv o0, rv o1, rv w0_18, rv o5] [] (fun t k => XS.goto X58.here hx rfl (pc0 := 61) (pc' := 28) rfl (hb hB d13_61) (by decide) (by decide) k) ?_
  refine oG T58 m 29 #[rv o0, rv o1, rv w0_18, rv o5] [(.ref w0_18)] (fun t k => XS.aloadN X58.here hx rfl (hb hB d13_28) rfl rfl k) ?_
  obtain ⟨_, T59, L59, X59, ⟨rfl, e59, rfl⟩, st59⟩ := own_interface X58 hx hZ (xi := (⟨"java/util/Iterator", "hasNext", "()Z"⟩ : MethodName)) (y := (⟨OwnK2, "hasNext", "()Z"⟩ : MethodName)) hown (oW hw 196 rfl) (oW hw 197 rfl) (mvT hZ (oW hw 198 rfl)) (oW hw 199 rfl) (oW hw 200 rfl) (oW hw 201 rfl) (oW hw 202 rfl) (oW hw 203 rfl) (oW hw 179 rfl) (oW hw 204 rfl) (by decide) (sp63 l Z a0 hw [] w0_18 w0_5 T37.heap n0 Z_37 fq3_37 fq1_37 cf53) e58 cf55 0 (argsL := []) (rest := []) (Ls := #[rv o0, rv o1, rv w0_18, rv o5]) (by rw [hml]; rfl) (lenOf qQ158 rfl) rfl rfl (Nat.le_of_eq rfl) (hb hB d13_29) (by decide) (by decide) (by decide) (by decide)
  replace X59 := own_nil X59
  refine oG T59 m 34 #[rv o0, rv o1, rv w0_18, rv o5] [(.int 0)] (st59) ?_
  refine oG T59 m 64 #[rv o0, rv o1, rv w0_18, rv o5] [] (fun t k => XS.ifYes X59.here hx rfl (pc0 := 34) (pc' := 64) rfl (hb hB d13_34) rfl ((if0 _ _).trans (teq (by decide)).1) (by decide) (by decide) k) ?_
  refine oG T59 m 65 #[rv o0, rv o1, rv w0_18, rv o5] [(.int 0)] (fun t k => XS.iconst X59.here hx rfl (hb hB d13_64) k) ?_
  refine own_retZ X59 hx hlk hret (by decide) (hb hB d13_65) (by decide) (by decide) ?_
  rw [e59]
  exact ⟨rfl, N37, K_37⟩
theorem qQ52 (m : MethodId) (q0 : Addr) (q1 : Addr) (q2 : Int32) : entryFrame m #[(.ref q0), (.ref q1), (.int q2)] 3 = mkF m 0 #[rv q0, rv q1, iv q2] [] := by first | (simp [entryFrame, mkF, argsToLocals, Value.category]; done) | rfl
theorem sp108 (l : Launch) (Z : State) (a0 : Array Value) (hw : ∀ d ∈ tables_1, d.before a0 Z = true) (ws : List Jvm.Cond) (o0 o1 : Addr) (h0 : Heap) (n0 : Nat) (Z0 : n0 ≤ h0.size) (E_o0 : Exa Z h0 o0 OwnK1) (F_ahead_o0 : Fld Z h0 o0 OwnK1 "ahead" "I" (.int 0)) (F_changes_o0 : Fld Z h0 o0 OwnK1 "changes" "Ljava/util/List;" .null) (ne_o0_o1 : o0 ≠ o1) (g_o0 : n0 ≤ o0) :
    OwnC l Z (⟨OwnK1, "<init>", "(Ljava/util/List;I)V"⟩ : MethodName) prog_11_method_1_code 3 none ws ({ frames := 1, cells := 0, slots := 0, locals := 12 } : Room) #[(.ref o0), (.ref o1), (.int 3)] h0 (fun v h L => v = none ∧ Fr n0 L ∧ Keep h0 h [o0] ∧ Fld Z h o0 OwnK1 "changes" "Ljava/util/List;" (.ref o1) ∧ Fld Z h o0 OwnK1 "ahead" "I" (.int 3)) := by
  refine own_entry qQ3 (fun m => qQ52 m o0 o1 (3 : Int32)) ?_
  intro p e s m below meth c T0 X0 hC e0
  obtain ⟨hx, hB, hml, hown, hnm, hret, hlk, hZ⟩ := hC
  have N0 := Fr.nil n0
  have K0 := Keep.refl h0 [o0]
  refine oG T0 m 1 #[rv o0, rv o1, iv 3] [(.ref o0)] (fun t k => XS.aloadN X0.here hx rfl (hb hB d6_0) rfl rfl k) ?_
  obtain ⟨T1, X1, e1, st1⟩ := initO X0 hx hZ hown (oW hw 57 rfl) (oW hw 8 rfl) (oW hw 9 rfl) e0 (g := (mkF m 1 #[rv o0, rv o1, iv 3] [(.ref o0)])) rfl (by rw [hml]; rfl) rfl (hb hB d6_1) (by decide) (W := 0) (by show 2 * 0 + _ ≤ _; exact Nat.le_of_eq rfl) (by decide)
  refine oG T1 m 4 #[rv o0, rv o1, iv 3] [] (st1) ?_
  refine oG T1 m 5 #[rv o0, rv o1, iv 3] [(.ref o0)] (fun t k => XS.aloadN X1.here hx rfl (hb hB d6_4) rfl rfl k) ?_
  refine oG T1 m 6 #[rv o0, rv o1, iv 3] [(.ref o1), (.ref o0)] (fun t k => XS.aloadN X1.here hx rfl (hb hB d6_5) rfl rfl k) ?_
  obtain ⟨T2, h2, X2, e2, W2, st2⟩ := putF X1 hx hZ hown (host := "") (Or.inl (oW hw 58 rfl)) Via.refl e1 F_changes_o0 E_o0 (Or.inr ⟨(oW hw 59 rfl), rfl, hnm⟩) (oW hw 52 rfl) (ty := (.object "java/util/List")) (by decide) rfl rfl (g := (mkF m 6 #[rv o0, rv o1, iv 3] [(.ref o1), (.ref o0)])) rfl rfl (hb hB d6_6)
  have F2 := F_changes_o0.same W2
  have cf3 := E_o0.wr W2
  have cf4 := F_ahead_o0.other W2 (Or.inr (slot_ne (Or.inr (oW hw 61 rfl)) (Or.inr (oW hw 59 rfl)) (by decide) (t := .int) (t' := (.object "java/util/List")) (by decide) (by decide)))
  have Z_2 : n0 ≤ h2.size := Nat.le_trans Z0 (Keep.of_wr W2).1
  have K_2 : Keep h0 h2 [o0] := K0.wr W2 (oI 0 rfl)
  have N2 := Fr.snoc X2 N0 g_o0
  refine oG T2 m 9 #[rv o0, rv o1, iv 3] [] (st2) ?_
  refine oG T2 m 10 #[rv o0, rv o1, iv 3] [(.ref o0)] (fun t k => XS.aloadN X2.here hx rfl (hb hB d6_9) rfl rfl k) ?_
  refine oG T2 m 11 #[rv o0, rv o1, iv 3] [(.int 3), (.ref o0)] (fun t k => XS.iloadN X2.here hx rfl (hb hB d6_10) rfl k) ?_
  obtain ⟨T5, h5, X5, e5, W5, st5⟩ := putF X2 hx hZ hown (host := "") (Or.inl (oW hw 60 rfl)) Via.refl e2 cf4 cf3 (Or.inr ⟨(oW hw 61 rfl), rfl, hnm⟩) (oW hw 52 rfl) (ty := .int) (by decide) rfl rfl (g := (mkF m 11 #[rv o0, rv o1, iv 3] [(.int 3), (.ref o0)])) rfl rfl (hb hB d6_11)
  have F5 := cf4.same W5
  have cf6 := cf3.wr W5
  have cf7 := F2.other W5 (Or.inr (slot_ne (Or.inr (oW hw 59 rfl)) (Or.inr (oW hw 61 rfl)) (by decide) (t := (.object "java/util/List")) (t' := .int) (by decide) (by decide)))
  have Z_5 : n0 ≤ h5.size := Nat.le_trans Z_2 (Keep.of_wr W5).1
  have K_5 : Keep h0 h5 [o0] := K_2.wr W5 (oI 0 rfl)
  have N5 := Fr.snoc X5 N2 g_o0
  refine oG T5 m 14 #[rv o0, rv o1, iv 3] [] (st5) ?_
  refine own_retV X5 hx hlk hret (hb hB d6_14) (by decide) (by decide) ?_
  rw [e5]
  exact ⟨rfl, N5, K_5, cf7, F5⟩
theorem qQ49 (m : MethodId) (q0 : Addr) : entryFrame m #[(.ref q0)] 1 = mkF m 0 #[rv q0] [] := by first | (simp [entryFrame, mkF, argsToLocals, Value.category]; done) | rfl
theorem sp109 (l : Launch) (Z : State) (a0 : Array Value) (hw : ∀ d ∈ tables_1, d.before a0 Z = true) (ws : List Jvm.Cond) (o0 : Addr) (h0 : Heap) (n0 : Nat) (Z0 : n0 ≤ h0.size) (F_ahead_o0 : Fld Z h0 o0 OwnK1 "ahead" "I" (.int 3)) :
    OwnC l Z (⟨OwnK1, "hasAhead", "()Z"⟩ : MethodName) prog_11_method_3_code 1 (some .boolean) ws ({ frames := 0, cells := 0, slots := 0, locals := 0 } : Room) #[(.ref o0)] h0 (fun v h L => v = some (.int 1) ∧ h = h0 ∧ L = []) := by
  refine own_entry qQ9 (fun m => qQ49 m o0) ?_
  intro p e s m below meth c T0 X0 hC e0
  obtain ⟨hx, hB, hml, hown, hnm, hret, hlk, hZ⟩ := hC
  have N0 := Fr.nil n0
  have K0 := Keep.refl h0 []
  refine oG T0 m 1 #[rv o0] [(.ref o0)] (fun t k => XS.aloadN X0.here hx rfl (hb hB d7_0) rfl rfl k) ?_
  obtain ⟨T1, X1, e1, st1⟩ := getF X0 hx hZ hown (host := "") (Or.inl (oW hw 60 rfl)) Via.refl e0 F_ahead_o0 (g := (mkF m 1 #[rv o0] [(.ref o0)])) rfl rfl (hb hB d7_1)
  refine oG T1 m 4 #[rv o0] [(.int 3)] (st1) ?_
  refine oG T1 m 7 #[rv o0] [] (fun t k => XS.ifNo X1.here hx rfl (hb hB d7_4) rfl ((if0 _ _).trans (tlt (by decide)).2.2.2) k) ?_
  refine oG T1 m 8 #[rv o0] [(.int 1)] (fun t k => XS.iconst X1.here hx rfl (hb hB d7_7) k) ?_
  refine oG T1 m 12 #[rv o0] [(.int 1)] (fun t k => XS.goto X1.here hx rfl (pc0 := 8) (pc' := 12) rfl (hb hB d7_8) (by decide) (by decide) k) ?_
  refine own_retZ X1 hx hlk hret (by decide) (hb hB d7_12) (by decide) (by decide) ?_
  exact ⟨rfl, e1, rfl⟩
theorem qQ56 (m : MethodId) (q0 : Int32) (q1 : Int32) (q2 : Int32) : entryFrame m #[(.int q0), (.int q1), (.int q2)] 3 = mkF m 0 #[iv q0, iv q1, iv q2] [] := by first | (simp [entryFrame, mkF, argsToLocals, Value.category]; done) | rfl
theorem sp112 (l : Launch) (Z : State) (a0 : Array Value) (hw : ∀ d ∈ tables_1, d.before a0 Z = true) (ws : List Jvm.Cond) (h0 : Heap) (n0 : Nat) (Z0 : n0 ≤ h0.size) :
    OwnC l Z (⟨OwnK5, "subListRangeCheck", "(III)V"⟩ : MethodName) jdk_39_method_15_code 3 none ws ({ frames := 0, cells := 0, slots := 0, locals := 0 } : Room) #[(.int 3), (.int 3), (.int 3)] h0 (fun v h L => v = none ∧ h = h0 ∧ L = []) := by
  refine own_entry qQ19 (fun m => qQ56 m (3 : Int32) (3 : Int32) (3 : Int32)) ?_
  intro p e s m below meth c T0 X0 hC e0
  obtain ⟨hx, hB, hml, hown, hnm, hret, hlk, hZ⟩ := hC
  have N0 := Fr.nil n0
  have K0 := Keep.refl h0 []
  refine oG T0 m 1 #[iv 3, iv 3, iv 3] [(.int 3)] (fun t k => XS.iloadN X0.here hx rfl (hb hB d16_0) rfl k) ?_
  refine oG T0 m 31 #[iv 3, iv 3, iv 3] [] (fun t k => XS.ifYes X0.here hx rfl (pc0 := 1) (pc' := 31) rfl (hb hB d16_1) rfl ((if0 _ _).trans (flt (by decide)).2.1) (by decide) (by decide) k) ?_
  refine oG T0 m 32 #[iv 3, iv 3, iv 3] [(.int 3)] (fun t k => XS.iloadN X0.here hx rfl (hb hB d16_31) rfl k) ?_
  refine oG T0 m 33 #[iv 3, iv 3, iv 3] [(.int 3), (.int 3)] (fun t k => XS.iloadN X0.here hx rfl (hb hB d16_32) rfl k) ?_
  refine oG T0 m 63 #[iv 3, iv 3, iv 3] [] (fun t k => XS.icmpYes X0.here hx rfl (pc0 := 33) (pc' := 63) rfl (hb hB d16_33) rfl (flt (by decide)).2.2.2 (by decide) (by decide) k) ?_
  refine oG T0 m 64 #[iv 3, iv 3, iv 3] [(.int 3)] (fun t k => XS.iloadN X0.here hx rfl (hb hB d16_63) rfl k) ?_
  refine oG T0 m 65 #[iv 3, iv 3, iv 3] [(.int 3), (.int 3)] (fun t k => XS.iloadN X0.here hx rfl (hb hB d16_64) rfl k) ?_
  refine oG T0 m 109 #[iv 3, iv 3, iv 3] [] (fun t k => XS.icmpYes X0.here hx rfl (pc0 := 65) (pc' := 109) rfl (hb hB d16_65) rfl (flt (by decide)).2.2.2 (by decide) (by decide) k) ?_
  refine own_retV X0 hx hlk hret (hb hB d16_109) (by decide) (by decide) ?_
  exact ⟨rfl, e0, rfl⟩
theorem qQ45 (m : MethodId) (q0 : Addr) (q1 : Addr) (q2 : Int32) (q3 : Int32) : entryFrame m #[(.ref q0), (.ref q1), (.int q2), (.int q3)] 4 = mkF m 0 #[rv q0, rv q1, iv q2, iv q3] [] := by first | (simp [entryFrame, mkF, argsToLocals, Value.category]; done) | rfl
theorem sp113 (l : Launch) (Z : State) (a0 : Array Value) (hw : ∀ d ∈ tables_1, d.before a0 Z = true) (ws : List Jvm.Cond) (o0 o1 : Addr) (h0 : Heap) (n0 : Nat) (Z0 : n0 ≤ h0.size) (E_o0 : Exa Z h0 o0 OwnK3) (F_mC_o0 : Fld Z h0 o0 OwnK5 "modCount" "I" (.int 0)) (F_offset_o0 : Fld Z h0 o0 OwnK3 "offset" "I" (.int 0)) (F_parent_o0 : Fld Z h0 o0 OwnK3 "parent" OwnK7 .null) (F_root_o0 : Fld Z h0 o0 OwnK3 "root" OwnK8 .null) (F_size_o0 : Fld Z h0 o0 OwnK3 "size" "I" (.int 0)) (F_mC_o1 : Fld Z h0 o1 OwnK5 "modCount" "I" (.int 3)) (ne_o0_o1 : o0 ≠ o1) (g_o0 : n0 ≤ o0) :
    OwnC l Z (⟨OwnK3, "<init>", "(Ljava/util/ArrayList;II)V"⟩ : MethodName) jdk_130_method_1_code 4 none ws ({ frames := 3, cells := 0, slots := 0, locals := 36 } : Room) #[(.ref o0), (.ref o1), (.int 3), (.int 3)] h0 (fun v h L => v = none ∧ Fr n0 L ∧ Keep h0 h [o0] ∧ Fld Z h o0 OwnK3 "root" OwnK8 (.ref o1) ∧ Fld Z h o0 OwnK3 "offset" "I" (.int 3) ∧ Fld Z h o0 OwnK3 "size" "I" (.int 0) ∧ Fld Z h o0 OwnK5 "modCount" "I" (.int 3)) := by
  refine own_entry qQ10 (fun m => qQ45 m o0 o1 (3 : Int32) (3 : Int32)) ?_
  intro p e s m below meth c T0 X0 hC e0
  obtain ⟨hx, hB, hml, hown, hnm, hret, hlk, hZ⟩ := hC
  have N0 := Fr.nil n0
  have K0 := Keep.refl h0 [o0]
  refine oG T0 m 1 #[rv o0, rv o1, iv 3, iv 3] [(.ref o0)] (fun t k => XS.aloadN X0.here hx rfl (hb hB d17_0) rfl rfl k) ?_
  obtain ⟨_, T1, L1, X1, ⟨rfl, Nq1, Kq1, fq0_1, fq1_1, fq2_1, fq3_1, fq4_1⟩, st1⟩ := own_init X0 hx hZ (y := (⟨OwnK5, "<init>", "()V"⟩ : MethodName)) rfl hown (oW hw 131 rfl) (oW hw 34 rfl) (oW hw 37 rfl) (oW hw 38 rfl) (by decide) (sp17 l Z a0 hw [] o0 h0 n0 Z0 E_o0 F_mC_o0 F_offset_o0 F_parent_o0 F_root_o0 F_size_o0 g_o0) e0 (a := o0) 0 (argsL := []) (rest := []) (Ls := #[rv o0, rv o1, iv 3, iv 3]) (by rw [hml]; rfl) (lenOf qQ155 rfl) rfl rfl (Nat.le_of_eq rfl) (hb hB d17_1) (by decide) (by decide) (by decide) (by decide)
  have N1 := Fr.app N0 Nq1
  have cf2 := E_o0.keep Kq1
  have cf3 := F_mC_o1.keep Kq1 (ninS (Ne.symm ne_o0_o1) nin0)
  have Z_1 : n0 ≤ T1.heap.size := Nat.le_trans Z0 Kq1.1
  have K_1 : Keep h0 T1.heap [o0] := K0.trans Kq1 (allS (oI 0 rfl) all0)
  refine oG T1 m 4 #[rv o0, rv o1, iv 3, iv 3] [] (st1) ?_
  refine oG T1 m 5 #[rv o0, rv o1, iv 3, iv 3] [(.ref o0)] (fun t k => XS.aloadN X1.here hx rfl (hb hB d17_4) rfl rfl k) ?_
  refine oG T1 m 6 #[rv o0, rv o1, iv 3, iv 3] [(.ref o1), (.ref o0)] (fun t k => XS.aloadN X1.here hx rfl (hb hB d17_5) rfl rfl k) ?_
  obtain ⟨T4, h4, X4, e4, W4, st4⟩ := putF X1 hx hZ hown (host := "") (Or.inl (oW hw 135 rfl)) Via.refl rfl fq2_1 cf2 (Or.inr ⟨(oW hw 136 rfl), rfl, hnm⟩) (oW hw 125 rfl) (ty := (.object OwnK4)) (by decide) rfl rfl (g := (mkF m 6 #[rv o0, rv o1, iv 3, iv 3] [(.ref o1), (.ref o0)])) rfl rfl (hb hB d17_6)
  have F4 := fq2_1.same W4
  have cf5 := cf2.wr W4
  have cf6 := cf3.other W4 (Or.inl (Ne.symm ne_o0_o1))
  have cf7 := fq0_1.other W4 (Or.inr (slot_ne (Or.inr (oW hw 140 rfl)) (Or.inr (oW hw 136 rfl)) (by decide) (t := .int) (t' := (.object OwnK4)) (by decide) (by decide)))
  have cf8 := fq1_1.other W4 (Or.inr (slot_ne (Or.inr (oW hw 138 rfl)) (Or.inr (oW hw 136 rfl)) (by decide) (t := (.object OwnK3)) (t' := (.object OwnK4)) (by decide) (by decide)))
  have cf9 := fq3_1.other W4 (Or.inr (slot_ne (Or.inl (oW hw 142 rfl)) (Or.inr (oW hw 136 rfl)) (by decide) (t := .int) (t' := (.object OwnK4)) (by decide) (by decide)))
  have cf10 := fq4_1.other W4 (Or.inr (slot_ne (Or.inl (oW hw 134 rfl)) (Or.inr (oW hw 136 rfl)) (by decide) (t := .int) (t' := (.object OwnK4)) (by decide) (by decide)))
  have Z_4 : n0 ≤ h4.size := Nat.le_trans Z_1 (Keep.of_wr W4).1
  have K_4 : Keep h0 h4 [o0] := K_1.wr W4 (oI 0 rfl)
  have N4 := Fr.snoc X4 N1 g_o0
  refine oG T4 m 9 #[rv o0, rv o1, iv 3, iv 3] [] (st4) ?_
  refine oG T4 m 10 #[rv o0, rv o1, iv 3, iv 3] [(.ref o0)] (fun t k => XS.aloadN X4.here hx rfl (hb hB d17_9) rfl rfl k) ?_
  refine oG T4 m 11 #[rv o0, rv o1, iv 3, iv 3] [.null, (.ref o0)] (fun t k => XS.aconstNull X4.here hx rfl (hb hB d17_10) k) ?_
  obtain ⟨T11, h11, X11, e11, W11, st11⟩ := putF X4 hx hZ hown (host := "") (Or.inl (oW hw 137 rfl)) Via.refl e4 cf8 cf5 (Or.inr ⟨(oW hw 138 rfl), rfl, hnm⟩) (oW hw 125 rfl) (ty := (.object OwnK3)) (by decide) rfl rfl (g := (mkF m 11 #[rv o0, rv o1, iv 3, iv 3] [.null, (.ref o0)])) rfl rfl (hb hB d17_11)
  have F11 := cf8.same W11
  have cf12 := cf5.wr W11
  have cf13 := cf6.other W11 (Or.inl (Ne.symm ne_o0_o1))
  have cf14 := cf7.other W11 (Or.inr (slot_ne (Or.inr (oW hw 140 rfl)) (Or.inr (oW hw 138 rfl)) (by decide) (t := .int) (t' := (.object OwnK3)) (by decide) (by decide)))
  have cf15 := cf9.other W11 (Or.inr (slot_ne (Or.inl (oW hw 142 rfl)) (Or.inr (oW hw 138 rfl)) (by decide) (t := .int) (t' := (.object OwnK3)) (by decide) (by decide)))
  have cf16 := cf10.other W11 (Or.inr (slot_ne (Or.inl (oW hw 134 rfl)) (Or.inr (oW hw 138 rfl)) (by decide) (t := .int) (t' := (.object OwnK3)) (by decide) (by decide)))
  have cf17 := F4.other W11 (Or.inr (slot_ne (Or.inr (oW hw 136 rfl)) (Or.inr (oW hw 138 rfl)) (by decide) (t := (.object OwnK4)) (t' := (.object OwnK3)) (by decide) (by decide)))
  have Z_11 : n0 ≤ h11.size := Nat.le_trans Z_4 (Keep.of_wr W11).1
  have K_11 : Keep h0 h11 [o0] := K_4.wr W11 (oI 0 rfl)
  have N11 := Fr.snoc X11 N4 g_o0
  refine oG T11 m 14 #[rv o0, rv o1, iv 3, iv 3] [] (st11) ?_
  refine oG T11 m 15 #[rv o0, rv o1, iv 3, iv 3] [(.ref o0)] (fun t k => XS.aloadN X11.here hx rfl (hb hB d17_14) rfl rfl k) ?_
  refine oG T11 m 16 #[rv o0, rv o1, iv 3, iv 3] [(.int 3), (.ref o0)] (fun t k => XS.iloadN X11.here hx rfl (hb hB d17_15) rfl k) ?_
  obtain ⟨T18, h18, X18, e18, W18, st18⟩ := putF X11 hx hZ hown (host := "") (Or.inl (oW hw 139 rfl)) Via.refl e11 cf14 cf12 (Or.inr ⟨(oW hw 140 rfl), rfl, hnm⟩) (oW hw 125 rfl) (ty := .int) (by decide) rfl rfl (g := (mkF m 16 #[rv o0, rv o1, iv 3, iv 3] [(.int 3), (.ref o0)])) rfl rfl (hb hB d17_16)
  have F18 := cf14.same W18
  have cf19 := cf12.wr W18
  have cf20 := cf13.other W18 (Or.inl (Ne.symm ne_o0_o1))
  have cf21 := cf15.other W18 (Or.inr (slot_ne (Or.inl (oW hw 142 rfl)) (Or.inr (oW hw 140 rfl)) (by decide) (t := .int) (t' := .int) (by decide) (by decide)))
  have cf22 := cf16.other W18 (Or.inr (slot_ne (Or.inl (oW hw 134 rfl)) (Or.inr (oW hw 140 rfl)) (by decide) (t := .int) (t' := .int) (by decide) (by decide)))
  have cf23 := cf17.other W18 (Or.inr (slot_ne (Or.inr (oW hw 136 rfl)) (Or.inr (oW hw 140 rfl)) (by decide) (t := (.object OwnK4)) (t' := .int) (by decide) (by decide)))
  have cf24 := F11.other W18 (Or.inr (slot_ne (Or.inr (oW hw 138 rfl)) (Or.inr (oW hw 140 rfl)) (by decide) (t := (.object OwnK3)) (t' := .int) (by decide) (by decide)))
  have Z_18 : n0 ≤ h18.size := Nat.le_trans Z_11 (Keep.of_wr W18).1
  have K_18 : Keep h0 h18 [o0] := K_11.wr W18 (oI 0 rfl)
  have N18 := Fr.snoc X18 N11 g_o0
  refine oG T18 m 19 #[rv o0, rv o1, iv 3, iv 3] [] (st18) ?_
  refine oG T18 m 20 #[rv o0, rv o1, iv 3, iv 3] [(.ref o0)] (fun t k => XS.aloadN X18.here hx rfl (hb hB d17_19) rfl rfl k) ?_
  refine oG T18 m 21 #[rv o0, rv o1, iv 3, iv 3] [(.int 3), (.ref o0)] (fun t k => XS.iloadN X18.here hx rfl (hb hB d17_20) rfl k) ?_
  refine oG T18 m 22 #[rv o0, rv o1, iv 3, iv 3] [(.int 3), (.int 3), (.ref o0)] (fun t k => XS.iloadN X18.here hx rfl (hb hB d17_21) rfl k) ?_
  refine oG T18 m 23 #[rv o0, rv o1, iv 3, iv 3] [(.int ((3 : Int32) - (3 : Int32))), (.ref o0)] (fun t k => XS.isub X18.here hx rfl (hb hB d17_22) rfl k) ?_
  rw [show ((3 : Int32) - (3 : Int32)) = (0 : Int32) from by decide]
  obtain ⟨T25, h25, X25, e25, W25, st25⟩ := putF X18 hx hZ hown (host := "") (Or.inl (oW hw 141 rfl)) Via.refl e18 cf21 cf19 (Or.inl (oW hw 142 rfl)) (oW hw 125 rfl) (ty := .int) (by decide) rfl rfl (g := (mkF m 23 #[rv o0, rv o1, iv 3, iv 3] [(.int 0), (.ref o0)])) rfl rfl (hb hB d17_23)
  have F25 := cf21.same W25
  have cf26 := cf19.wr W25
  have cf27 := cf20.other W25 (Or.inl (Ne.symm ne_o0_o1))
  have cf28 := cf22.other W25 (Or.inr (slot_ne (Or.inl (oW hw 134 rfl)) (Or.inl (oW hw 142 rfl)) (by decide) (t := .int) (t' := .int) (by decide) (by decide)))
  have cf29 := cf23.other W25 (Or.inr (slot_ne (Or.inr (oW hw 136 rfl)) (Or.inl (oW hw 142 rfl)) (by decide) (t := (.object OwnK4)) (t' := .int) (by decide) (by decide)))
  have cf30 := cf24.other W25 (Or.inr (slot_ne (Or.inr (oW hw 138 rfl)) (Or.inl (oW hw 142 rfl)) (by decide) (t := (.object OwnK3)) (t' := .int) (by decide) (by decide)))
  have cf31 := F18.other W25 (Or.inr (slot_ne (Or.inr (oW hw 140 rfl)) (Or.inl (oW hw 142 rfl)) (by decide) (t := .int) (t' := .int) (by decide) (by decide)))
  have Z_25 : n0 ≤ h25.size := Nat.le_trans Z_18 (Keep.of_wr W25).1
  have K_25 : Keep h0 h25 [o0] := K_18.wr W25 (oI 0 rfl)
  have N25 := Fr.snoc X25 N18 g_o0
  refine oG T25 m 26 #[rv o0, rv o1, iv 3, iv 3] [] (st25) ?_
  refine oG T25 m 27 #[rv o0, rv o1, iv 3, iv 3] [(.ref o0)] (fun t k => XS.aloadN X25.here hx rfl (hb hB d17_26) rfl rfl k) ?_
  refine oG T25 m 28 #[rv o0, rv o1, iv 3, iv 3] [(.ref o1), (.ref o0)] (fun t k => XS.aloadN X25.here hx rfl (hb hB d17_27) rfl rfl k) ?_
  obtain ⟨T32, X32, e32, st32⟩ := getF X25 hx hZ hown (host := "") (Or.inl (oW hw 143 rfl)) (Via.of (oW hw 73 rfl)) e25 cf27 (g := (mkF m 28 #[rv o0, rv o1, iv 3, iv 3] [(.ref o1), (.ref o0)])) rfl rfl (hb hB d17_28)
  refine oG T32 m 31 #[rv o0, rv o1, iv 3, iv 3] [(.int 3), (.ref o0)] (st32) ?_
  obtain ⟨T33, h33, X33, e33, W33, st33⟩ := putF X32 hx hZ hown (host := "") (Or.inl (oW hw 144 rfl)) (Via.of (oW hw 145 rfl)) e32 cf28 cf26 (Or.inl (oW hw 134 rfl)) (oW hw 125 rfl) (ty := .int) (by decide) rfl rfl (g := (mkF m 31 #[rv o0, rv o1, iv 3, iv 3] [(.int 3), (.ref o0)])) rfl rfl (hb hB d17_31)
  have F33 := cf28.same W33
  have cf34 := cf26.wr W33
  have cf35 := cf27.other W33 (Or.inl (Ne.symm ne_o0_o1))
  have cf36 := cf29.other W33 (Or.inr (slot_ne (Or.inr (oW hw 136 rfl)) (Or.inl (oW hw 134 rfl)) (by decide) (t := (.object OwnK4)) (t' := .int) (by decide) (by decide)))
  have cf37 := cf30.other W33 (Or.inr (slot_ne (Or.inr (oW hw 138 rfl)) (Or.inl (oW hw 134 rfl)) (by decide) (t := (.object OwnK3)) (t' := .int) (by decide) (by decide)))
  have cf38 := cf31.other W33 (Or.inr (slot_ne (Or.inr (oW hw 140 rfl)) (Or.inl (oW hw 134 rfl)) (by decide) (t := .int) (t' := .int) (by decide) (by decide)))
  have cf39 := F25.other W33 (Or.inr (slot_ne (Or.inl (oW hw 142 rfl)) (Or.inl (oW hw 134 rfl)) (by decide) (t := .int) (t' := .int) (by decide) (by decide)))
  have Z_33 : n0 ≤ h33.size := Nat.le_trans Z_25 (Keep.of_wr W33).1
  have K_33 : Keep h0 h33 [o0] := K_25.wr W33 (oI 0 rfl)
  have N33 := Fr.snoc X33 N25 g_o0
  refine oG T33 m 34 #[rv o0, rv o1, iv 3, iv 3] [] (st33) ?_
  refine own_retV X33 hx hlk hret (hb hB d17_34) (by decide) (by decide) ?_
  rw [e33]
  exact ⟨rfl, N33, K_33, cf36, cf38, cf39, F33⟩
theorem qQ59 (m : MethodId) (q0 : Addr) (q1 : Int32) (q2 : Int32) : entryFrame m #[(.ref q0), (.int q1), (.int q2)] 3 = mkF m 0 #[rv q0, iv q1, iv q2] [] := by first | (simp [entryFrame, mkF, argsToLocals, Value.category]; done) | rfl
theorem sp111 (l : Launch) (Z : State) (a0 : Array Value) (hw : ∀ d ∈ tables_1, d.before a0 Z = true) (ws : List Jvm.Cond) (o0 : Addr) (h0 : Heap) (n0 : Nat) (Z0 : n0 ≤ h0.size) (F_mC_o0 : Fld Z h0 o0 OwnK5 "modCount" "I" (.int 3)) (F_size_o0 : Fld Z h0 o0 OwnK4 "size" "I" (.int 3)) :
    OwnC l Z (⟨OwnK4, "subList", "(II)Ljava/util/List;"⟩ : MethodName) jdk_38_method_56_code 3 (some (.object "java/util/List")) ws ({ frames := 4, cells := 1, slots := 5, locals := 52 } : Room) #[(.ref o0), (.int 3), (.int 3)] h0 (fun v h L => ∃ (w0 : Addr), v = some (.ref w0) ∧ Fr n0 L ∧ Keep h0 h [] ∧ (h0.size ≤ w0 ∧ n0 ≤ w0) ∧ Exa Z h w0 OwnK3 ∧ Fld Z h w0 OwnK3 "root" OwnK8 (.ref o0) ∧ Fld Z h w0 OwnK3 "offset" "I" (.int 3) ∧ Fld Z h w0 OwnK3 "size" "I" (.int 0) ∧ Fld Z h w0 OwnK5 "modCount" "I" (.int 3)) := by
  refine own_entry qQ17 (fun m => qQ59 m o0 (3 : Int32) (3 : Int32)) ?_
  intro p e s m below meth c T0 X0 hC e0
  obtain ⟨hx, hB, hml, hown, hnm, hret, hlk, hZ⟩ := hC
  have N0 := Fr.nil n0
  have K0 := Keep.refl h0 []
  refine oG T0 m 1 #[rv o0, iv 3, iv 3] [(.int 3)] (fun t k => XS.iloadN X0.here hx rfl (hb hB d15_0) rfl k) ?_
  refine oG T0 m 2 #[rv o0, iv 3, iv 3] [(.int 3), (.int 3)] (fun t k => XS.iloadN X0.here hx rfl (hb hB d15_1) rfl k) ?_
  refine oG T0 m 3 #[rv o0, iv 3, iv 3] [(.ref o0), (.int 3), (.int 3)] (fun t k => XS.aloadN X0.here hx rfl (hb hB d15_2) rfl rfl k) ?_
  obtain ⟨T1, X1, e1, st1⟩ := getF X0 hx hZ hown (host := "") (Or.inl (oW hw 74 rfl)) Via.refl e0 F_size_o0 (g := (mkF m 3 #[rv o0, iv 3, iv 3] [(.ref o0), (.int 3), (.int 3)])) rfl rfl (hb hB d15_3)
  refine oG T1 m 6 #[rv o0, iv 3, iv 3] [(.int 3), (.int 3), (.int 3)] (st1) ?_
  obtain ⟨_, T2, L2, X2, ⟨rfl, e2, rfl⟩, st2⟩ := own_staticUp X1 hx hZ (x := (⟨OwnK4, "subListRangeCheck", "(III)V"⟩ : MethodName)) hown (oW hw 120 rfl) (oW hw 121 rfl) (by decide) (oW hw 122 rfl) (oW hw 37 rfl) (oW hw 123 rfl) (sp112 l Z a0 hw []  h0 n0 Z0 ) e1 0 (argsL := [(.int 3), (.int 3), (.int 3)]) (rest := []) (Ls := #[rv o0, iv 3, iv 3]) (by rw [hml]; rfl) (lenOf qQ41 rfl) rfl rfl (Nat.le_of_eq rfl) (hb hB d15_6) (by decide) (by decide) (by decide) (by decide)
  replace X2 := own_nil X2
  refine oG T2 m 9 #[rv o0, iv 3, iv 3] [] (st2) ?_
  obtain ⟨T3, h3, X3, e3, E3, A3, D3, -, st3⟩ := newO X2 hx hZ hown (oW hw 124 rfl) (oW hw 125 rfl) (oW hw 126 rfl) e2 (g := (mkF m 9 #[rv o0, iv 3, iv 3] [])) rfl (hb hB d15_9) (by decide) (by decide)
  obtain ⟨b3, g3⟩ : ∃ z, z = h0.size := ⟨_, rfl⟩
  rw [← g3] at A3 D3 st3
  have ne_o0_b3 : o0 ≠ b3 := Nat.ne_of_lt (Nat.lt_of_lt_of_eq F_mC_o0.lt g3.symm)
  have g_b3 : n0 ≤ b3 := Nat.le_trans Z0 (Nat.le_of_eq g3.symm)
  have sz_b3 : h0.size ≤ b3 := Nat.le_trans K0.1 (Nat.le_of_eq g3.symm)
  have cf4 := F_mC_o0.ext E3
  have cf5 := F_size_o0.ext E3
  have Z_3 : n0 ≤ h3.size := Nat.le_trans Z0 E3.1
  have K_3 : Keep h0 h3 [] := K0.ext E3
  have F_mC_3 : Fld Z h3 b3 OwnK5 "modCount" "I" (.int 0) := D3 (Or.inl (oW hw 134 rfl)) (ty := .int) (by decide)
  have F_root_3 : Fld Z h3 b3 OwnK3 "root" OwnK8 .null := D3 (Or.inr (oW hw 136 rfl)) (ty := (.object OwnK4)) (by decide)
  have F_parent_3 : Fld Z h3 b3 OwnK3 "parent" OwnK7 .null := D3 (Or.inr (oW hw 138 rfl)) (ty := (.object OwnK3)) (by decide)
  have F_offset_3 : Fld Z h3 b3 OwnK3 "offset" "I" (.int 0) := D3 (Or.inr (oW hw 140 rfl)) (ty := .int) (by decide)
  have F_size_3 : Fld Z h3 b3 OwnK3 "size" "I" (.int 0) := D3 (Or.inl (oW hw 142 rfl)) (ty := .int) (by decide)
  refine oG T3 m 12 #[rv o0, iv 3, iv 3] [(.ref b3)] (st3) ?_
  refine oG T3 m 13 #[rv o0, iv 3, iv 3] [(.ref b3), (.ref b3)] (fun t k => XS.dup X3.here hx rfl (hb hB d15_12) rfl rfl k) ?_
  refine oG T3 m 14 #[rv o0, iv 3, iv 3] [(.ref o0), (.ref b3), (.ref b3)] (fun t k => XS.aloadN X3.here hx rfl (hb hB d15_13) rfl rfl k) ?_
  refine oG T3 m 15 #[rv o0, iv 3, iv 3] [(.int 3), (.ref o0), (.ref b3), (.ref b3)] (fun t k => XS.iloadN X3.here hx rfl (hb hB d15_14) rfl k) ?_
  refine oG T3 m 16 #[rv o0, iv 3, iv 3] [(.int 3), (.int 3), (.ref o0), (.ref b3), (.ref b3)] (fun t k => XS.iloadN X3.here hx rfl (hb hB d15_15) rfl k) ?_
  obtain ⟨_, T6, L6, X6, ⟨rfl, Nq6, Kq6, fq0_6, fq1_6, fq2_6, fq3_6⟩, st6⟩ := own_init X3 hx hZ (y := (⟨OwnK3, "<init>", "(Ljava/util/ArrayList;II)V"⟩ : MethodName)) rfl hown (oW hw 127 rfl) (oW hw 128 rfl) (oW hw 126 rfl) (oW hw 130 rfl) (by decide) (sp113 l Z a0 hw [] b3 o0 h3 n0 Z_3 A3 F_mC_3 F_offset_3 F_parent_3 F_root_3 F_size_3 cf4 (Ne.symm ne_o0_b3) g_b3) e3 (a := b3) 1 (argsL := [(.ref o0), (.int 3), (.int 3)]) (rest := [(.ref b3)]) (Ls := #[rv o0, iv 3, iv 3]) (by rw [hml]; rfl) (lenOf qQ32 rfl) rfl rfl (Nat.le_of_eq rfl) (hb hB d15_16) (by decide) (by decide) (by decide) (by decide)
  have N6 := Fr.app N0 Nq6
  have cf7 := cf4.keep Kq6 (ninS ne_o0_b3 nin0)
  have cf8 := cf5.keep Kq6 (ninS ne_o0_b3 nin0)
  have cf9 := A3.keep Kq6
  have Z_6 : n0 ≤ T6.heap.size := Nat.le_trans Z_3 Kq6.1
  have K_6 : Keep h0 T6.heap [] := K_3.trans Kq6 (allS (Or.inr sz_b3) all0)
  refine oG T6 m 19 #[rv o0, iv 3, iv 3] [(.ref b3)] (st6) ?_
  refine own_retA X6 hx hlk hret rfl rfl rfl (hb hB d15_19) (by decide) (by decide) ?_
  exact ⟨b3, rfl, N6, K_6, ⟨sz_b3, g_b3⟩, cf9, fq0_6, fq1_6, fq2_6, fq3_6⟩
theorem qQ57 (m : MethodId) (q0 : Addr) (q1 : Int32) : entryFrame m #[(.ref q0), (.int q1)] 2 = mkF m 0 #[rv q0, iv q1] [] := by first | (simp [entryFrame, mkF, argsToLocals, Value.category]; done) | rfl
theorem sp116 (l : Launch) (Z : State) (a0 : Array Value) (hw : ∀ d ∈ tables_1, d.before a0 Z = true) (ws : List Jvm.Cond) (o0 o1 : Addr) (h0 : Heap) (n0 : Nat) (Z0 : n0 ≤ h0.size) (E_o0 : Exa Z h0 o0 OwnK3) (F_mC_o0 : Fld Z h0 o0 OwnK5 "modCount" "I" (.int 3)) (F_root_o0 : Fld Z h0 o0 OwnK3 "root" OwnK8 (.ref o1)) (F_size_o0 : Fld Z h0 o0 OwnK3 "size" "I" (.int 0)) (F_mC_o1 : Fld Z h0 o1 OwnK5 "modCount" "I" (.int 3)) :
    OwnC l Z (⟨OwnK3, "listIterator", "(I)Ljava/util/ListIterator;"⟩ : MethodName) jdk_130_method_24_code 2 (some (.object "java/util/ListIterator")) ws ({ frames := 2, cells := 1, slots := 5, locals := 27 } : Room) #[(.ref o0), (.int 0)] h0 (fun v h L => ∃ (w0 : Addr), v = some (.ref w0) ∧ Fr n0 L ∧ Keep h0 h [] ∧ (h0.size ≤ w0 ∧ n0 ≤ w0) ∧ Exa Z h w0 OwnK2 ∧ Fld Z h w0 OwnK2 "this$0" OwnK7 (.ref o0) ∧ Fld Z h w0 OwnK2 "val$index" "I" (.int 0) ∧ Fld Z h w0 OwnK2 "cursor" "I" (.int 0) ∧ Fld Z h w0 OwnK2 "lastRet" "I" (.int (-1)) ∧ Fld Z h w0 OwnK2 "expectedModCount" "I" (.int 3)) := by
  refine own_entry qQ5 (fun m => qQ57 m o0 (0 : Int32)) ?_
  intro p e s m below meth c T0 X0 hC e0
  obtain ⟨hx, hB, hml, hown, hnm, hret, hlk, hZ⟩ := hC
  have N0 := Fr.nil n0
  have K0 := Keep.refl h0 []
  refine oG T0 m 1 #[rv o0, iv 0] [(.ref o0)] (fun t k => XS.aloadN X0.here hx rfl (hb hB d20_0) rfl rfl k) ?_
  obtain ⟨_, T1, L1, X1, ⟨rfl, e1, rfl⟩, st1⟩ := own_private X0 hx hZ (y := (⟨OwnK3, "checkForComodification", "()V"⟩ : MethodName)) hown (oW hw 167 rfl) (oW hw 168 rfl) (oW hw 169 rfl) (oW hw 125 rfl) (oW hw 126 rfl) (oW hw 171 rfl) (by decide) (sp83 l Z a0 hw [] o0 o1 h0 n0 Z0 F_mC_o0 F_root_o0 F_mC_o1) e0 E_o0 0 (argsL := []) (rest := []) (Ls := #[rv o0, iv 0]) (by rw [hml]; rfl) (lenOf qQ155 rfl) rfl rfl (Nat.le_of_eq rfl) (hb hB d20_1) (by decide) (by decide) (by decide) (by decide)
  replace X1 := own_nil X1
  refine oG T1 m 4 #[rv o0, iv 0] [] (st1) ?_
  refine oG T1 m 5 #[rv o0, iv 0] [(.ref o0)] (fun t k => XS.aloadN X1.here hx rfl (hb hB d20_4) rfl rfl k) ?_
  refine oG T1 m 6 #[rv o0, iv 0] [(.int 0), (.ref o0)] (fun t k => XS.iloadN X1.here hx rfl (hb hB d20_5) rfl k) ?_
  obtain ⟨_, T2, L2, X2, ⟨rfl, e2, rfl⟩, st2⟩ := own_private X1 hx hZ (y := (⟨OwnK3, "rangeCheckForAdd", "(I)V"⟩ : MethodName)) hown (oW hw 172 rfl) (oW hw 173 rfl) (oW hw 174 rfl) (oW hw 125 rfl) (oW hw 126 rfl) (oW hw 176 rfl) (by decide) (sp37 l Z a0 hw [] o0 h0 n0 Z0 F_size_o0) e1 E_o0 0 (argsL := [(.int 0)]) (rest := []) (Ls := #[rv o0, iv 0]) (by rw [hml]; rfl) (lenOf qQ64 rfl) rfl rfl (Nat.le_of_eq rfl) (hb hB d20_6) (by decide) (by decide) (by decide) (by decide)
  replace X2 := own_nil X2
  refine oG T2 m 9 #[rv o0, iv 0] [] (st2) ?_
  obtain ⟨T3, h3, X3, e3, E3, A3, D3, -, st3⟩ := newO X2 hx hZ hown (oW hw 177 rfl) (oW hw 178 rfl) (oW hw 179 rfl) e2 (g := (mkF m 9 #[rv o0, iv 0] [])) rfl (hb hB d20_9) (by decide) (by decide)
  obtain ⟨b3, g3⟩ : ∃ z, z = h0.size := ⟨_, rfl⟩
  rw [← g3] at A3 D3 st3
  have ne_o0_b3 : o0 ≠ b3 := Nat.ne_of_lt (Nat.lt_of_lt_of_eq E_o0.lt g3.symm)
  have ne_o1_b3 : o1 ≠ b3 := Nat.ne_of_lt (Nat.lt_of_lt_of_eq F_mC_o1.lt g3.symm)
  have g_b3 : n0 ≤ b3 := Nat.le_trans Z0 (Nat.le_of_eq g3.symm)
  have sz_b3 : h0.size ≤ b3 := Nat.le_trans K0.1 (Nat.le_of_eq g3.symm)
  have cf4 := E_o0.ext E3
  have cf5 := F_mC_o0.ext E3
  have cf6 := F_root_o0.ext E3
  have cf7 := F_size_o0.ext E3
  have cf8 := F_mC_o1.ext E3
  have Z_3 : n0 ≤ h3.size := Nat.le_trans Z0 E3.1
  have K_3 : Keep h0 h3 [] := K0.ext E3
  have F_this_0_3 : Fld Z h3 b3 OwnK2 "this$0" OwnK7 .null := D3 (Or.inr (oW hw 185 rfl)) (ty := (.object OwnK3)) (by decide)
  have F_val_index_3 : Fld Z h3 b3 OwnK2 "val$index" "I" (.int 0) := D3 (Or.inr (oW hw 187 rfl)) (ty := .int) (by decide)
  have F_cursor_3 : Fld Z h3 b3 OwnK2 "cursor" "I" (.int 0) := D3 (Or.inl (oW hw 190 rfl)) (ty := .int) (by decide)
  have F_lastRet_3 : Fld Z h3 b3 OwnK2 "lastRet" "I" (.int 0) := D3 (Or.inl (oW hw 192 rfl)) (ty := .int) (by decide)
  have F_xM_3 : Fld Z h3 b3 OwnK2 "expectedModCount" "I" (.int 0) := D3 (Or.inl (oW hw 195 rfl)) (ty := .int) (by decide)
  refine oG T3 m 12 #[rv o0, iv 0] [(.ref b3)] (st3) ?_
  refine oG T3 m 13 #[rv o0, iv 0] [(.ref b3), (.ref b3)] (fun t k => XS.dup X3.here hx rfl (hb hB d20_12) rfl rfl k) ?_
  refine oG T3 m 14 #[rv o0, iv 0] [(.ref o0), (.ref b3), (.ref b3)] (fun t k => XS.aloadN X3.here hx rfl (hb hB d20_13) rfl rfl k) ?_
  refine oG T3 m 15 #[rv o0, iv 0] [(.int 0), (.ref o0), (.ref b3), (.ref b3)] (fun t k => XS.iloadN X3.here hx rfl (hb hB d20_14) rfl k) ?_
  obtain ⟨_, T9, L9, X9, ⟨rfl, Nq9, Kq9, fq0_9, fq1_9, fq2_9, fq3_9, fq4_9⟩, st9⟩ := own_init X3 hx hZ (y := (⟨OwnK2, "<init>", "(Ljava/util/ArrayList$SubList;I)V"⟩ : MethodName)) rfl hown (oW hw 180 rfl) (oW hw 181 rfl) (oW hw 179 rfl) (oW hw 183 rfl) (by decide) (sp85 l Z a0 hw [] b3 o0 h3 n0 Z_3 A3 F_cursor_3 F_xM_3 F_lastRet_3 F_this_0_3 F_val_index_3 cf5 (Ne.symm ne_o0_b3) g_b3) e3 (a := b3) 1 (argsL := [(.ref o0), (.int 0)]) (rest := [(.ref b3)]) (Ls := #[rv o0, iv 0]) (by rw [hml]; rfl) (lenOf qQ26 rfl) rfl rfl (Nat.le_of_eq rfl) (hb hB d20_15) (by decide) (by decide) (by decide) (by decide)
  have N9 := Fr.app N0 Nq9
  have cf10 := cf4.keep Kq9
  have cf11 := cf5.keep Kq9 (ninS ne_o0_b3 nin0)
  have cf12 := cf6.keep Kq9 (ninS ne_o0_b3 nin0)
  have cf13 := cf7.keep Kq9 (ninS ne_o0_b3 nin0)
  have cf14 := cf8.keep Kq9 (ninS ne_o1_b3 nin0)
  have cf15 := A3.keep Kq9
  have Z_9 : n0 ≤ T9.heap.size := Nat.le_trans Z_3 Kq9.1
  have K_9 : Keep h0 T9.heap [] := K_3.trans Kq9 (allS (Or.inr sz_b3) all0)
  refine oG T9 m 18 #[rv o0, iv 0] [(.ref b3)] (st9) ?_
  refine own_retA X9 hx hlk hret rfl rfl rfl (hb hB d20_18) (by decide) (by decide) ?_
  exact ⟨b3, rfl, N9, K_9, ⟨sz_b3, g_b3⟩, cf15, fq0_9, fq1_9, fq2_9, fq3_9, fq4_9⟩
theorem qQ46 (m : MethodId) (q0 : Addr) : entryFrame m #[(.ref q0)] 1 = mkF m 0 #[rv q0] [] := by first | (simp [entryFrame, mkF, argsToLocals, Value.category]; done) | rfl
theorem sp115 (l : Launch) (Z : State) (a0 : Array Value) (hw : ∀ d ∈ tables_1, d.before a0 Z = true) (ws : List Jvm.Cond) (o0 o1 : Addr) (h0 : Heap) (n0 : Nat) (Z0 : n0 ≤ h0.size) (E_o0 : Exa Z h0 o0 OwnK3) (F_mC_o0 : Fld Z h0 o0 OwnK5 "modCount" "I" (.int 3)) (F_root_o0 : Fld Z h0 o0 OwnK3 "root" OwnK8 (.ref o1)) (F_size_o0 : Fld Z h0 o0 OwnK3 "size" "I" (.int 0)) (F_mC_o1 : Fld Z h0 o1 OwnK5 "modCount" "I" (.int 3)) :
    OwnC l Z (⟨OwnK5, "listIterator", "()Ljava/util/ListIterator;"⟩ : MethodName) jdk_39_method_12_code 1 (some (.object "java/util/ListIterator")) ws ({ frames := 3, cells := 1, slots := 5, locals := 40 } : Room) #[(.ref o0)] h0 (fun v h L => ∃ (w0 : Addr), v = some (.ref w0) ∧ Fr n0 L ∧ Keep h0 h [] ∧ (h0.size ≤ w0 ∧ n0 ≤ w0) ∧ Exa Z h w0 OwnK2 ∧ Fld Z h w0 OwnK2 "this$0" OwnK7 (.ref o0) ∧ Fld Z h w0 OwnK2 "val$index" "I" (.int 0) ∧ Fld Z h w0 OwnK2 "cursor" "I" (.int 0) ∧ Fld Z h w0 OwnK2 "lastRet" "I" (.int (-1)) ∧ Fld Z h w0 OwnK2 "expectedModCount" "I" (.int 3)) := by
  refine own_entry qQ8 (fun m => qQ46 m o0) ?_
  intro p e s m below meth c T0 X0 hC e0
  obtain ⟨hx, hB, hml, hown, hnm, hret, hlk, hZ⟩ := hC
  have N0 := Fr.nil n0
  have K0 := Keep.refl h0 []
  refine oG T0 m 1 #[rv o0] [(.ref o0)] (fun t k => XS.aloadN X0.here hx rfl (hb hB d19_0) rfl rfl k) ?_
  refine oG T0 m 2 #[rv o0] [(.int 0), (.ref o0)] (fun t k => XS.iconst X0.here hx rfl (hb hB d19_1) k) ?_
  obtain ⟨_, T1, L1, X1, ⟨w0_1, rfl, Nq1, Kq1, syw0_1, fq0_1, fq1_1, fq2_1, fq3_1, fq4_1, fq5_1⟩, st1⟩ := own_virtual X0 hx hZ (y := (⟨OwnK5, "listIterator", "(I)Ljava/util/ListIterator;"⟩ : MethodName)) (z := (⟨OwnK3, "listIterator", "(I)Ljava/util/ListIterator;"⟩ : MethodName)) hown (oW hw 161 rfl) (oW hw 162 rfl) (own_nf (args := #[]) (mvT hZ (oW hw 159 rfl)) rfl) (oW hw 164 rfl) (oW hw 165 rfl) (oW hw 126 rfl) (oW hw 166 rfl) (by decide) (sp116 l Z a0 hw [] o0 o1 h0 n0 Z0 E_o0 F_mC_o0 F_root_o0 F_size_o0 F_mC_o1) e0 E_o0 0 (argsL := [(.int 0)]) (rest := []) (Ls := #[rv o0]) (by rw [hml]; rfl) (lenOf qQ30 rfl) rfl rfl (Nat.le_of_eq rfl) (hb hB d19_2) (by decide) (by decide) (by decide) (by decide)
  have g_w0_1 : n0 ≤ w0_1 := syw0_1.2
  have sz_w0_1 : h0.size ≤ w0_1 := Nat.le_trans K0.1 syw0_1.1
  have ne_o0_w0_1 : o0 ≠ w0_1 := Nat.ne_of_lt (Nat.lt_of_lt_of_le E_o0.lt syw0_1.1)
  have ne_o1_w0_1 : o1 ≠ w0_1 := Nat.ne_of_lt (Nat.lt_of_lt_of_le F_mC_o1.lt syw0_1.1)
  have N1 := Fr.app N0 Nq1
  have cf2 := E_o0.keep Kq1
  have cf3 := F_mC_o0.keep Kq1 nin0
  have cf4 := F_root_o0.keep Kq1 nin0
  have cf5 := F_size_o0.keep Kq1 nin0
  have cf6 := F_mC_o1.keep Kq1 nin0
  have Z_1 : n0 ≤ T1.heap.size := Nat.le_trans Z0 Kq1.1
  have K_1 : Keep h0 T1.heap [] := K0.trans Kq1 all0
  refine oG T1 m 5 #[rv o0] [(.ref w0_1)] (st1) ?_
  refine own_retA X1 hx hlk hret rfl rfl rfl (hb hB d19_5) (by decide) (by decide) ?_
  exact ⟨w0_1, rfl, N1, K_1, ⟨sz_w0_1, g_w0_1⟩, fq0_1, fq1_1, fq2_1, fq3_1, fq4_1, fq5_1⟩
theorem qQ54 (m : MethodId) (q0 : Addr) : entryFrame m #[(.ref q0)] 1 = mkF m 0 #[rv q0] [] := by first | (simp [entryFrame, mkF, argsToLocals, Value.category]; done) | rfl
theorem sp114 (l : Launch) (Z : State) (a0 : Array Value) (hw : ∀ d ∈ tables_1, d.before a0 Z = true) (ws : List Jvm.Cond) (o0 o1 : Addr) (h0 : Heap) (n0 : Nat) (Z0 : n0 ≤ h0.size) (E_o0 : Exa Z h0 o0 OwnK3) (F_mC_o0 : Fld Z h0 o0 OwnK5 "modCount" "I" (.int 3)) (F_root_o0 : Fld Z h0 o0 OwnK3 "root" OwnK8 (.ref o1)) (F_size_o0 : Fld Z h0 o0 OwnK3 "size" "I" (.int 0)) (F_mC_o1 : Fld Z h0 o1 OwnK5 "modCount" "I" (.int 3)) :
    OwnC l Z (⟨OwnK3, "iterator", "()Ljava/util/Iterator;"⟩ : MethodName) jdk_130_method_23_code 1 (some (.object "java/util/Iterator")) ws ({ frames := 4, cells := 1, slots := 5, locals := 52 } : Room) #[(.ref o0)] h0 (fun v h L => ∃ (w0 : Addr), v = some (.ref w0) ∧ Fr n0 L ∧ Keep h0 h [] ∧ (h0.size ≤ w0 ∧ n0 ≤ w0) ∧ Exa Z h w0 OwnK2 ∧ Fld Z h w0 OwnK2 "this$0" OwnK7 (.ref o0) ∧ Fld Z h w0 OwnK2 "val$index" "I" (.int 0) ∧ Fld Z h w0 OwnK2 "cursor" "I" (.int 0) ∧ Fld Z h w0 OwnK2 "lastRet" "I" (.int (-1)) ∧ Fld Z h w0 OwnK2 "expectedModCount" "I" (.int 3)) := by
  refine own_entry qQ11 (fun m => qQ54 m o0) ?_
  intro p e s m below meth c T0 X0 hC e0
  obtain ⟨hx, hB, hml, hown, hnm, hret, hlk, hZ⟩ := hC
  have N0 := Fr.nil n0
  have K0 := Keep.refl h0 []
  refine oG T0 m 1 #[rv o0] [(.ref o0)] (fun t k => XS.aloadN X0.here hx rfl (hb hB d18_0) rfl rfl k) ?_
  obtain ⟨_, T1, L1, X1, ⟨w0_1, rfl, Nq1, Kq1, syw0_1, fq0_1, fq1_1, fq2_1, fq3_1, fq4_1, fq5_1⟩, st1⟩ := own_virtualUp X0 hx hZ (x := (⟨OwnK3, "listIterator", "()Ljava/util/ListIterator;"⟩ : MethodName)) (y := (⟨OwnK5, "listIterator", "()Ljava/util/ListIterator;"⟩ : MethodName)) hown (oW hw 155 rfl) (oW hw 156 rfl) (oW hw 157 rfl) (by decide) (oW hw 159 rfl) (oW hw 158 rfl) (oW hw 37 rfl) (oW hw 160 rfl) (sp115 l Z a0 hw [] o0 o1 h0 n0 Z0 E_o0 F_mC_o0 F_root_o0 F_size_o0 F_mC_o1) e0 E_o0 0 (argsL := []) (rest := []) (Ls := #[rv o0]) (by rw [hml]; rfl) (lenOf qQ31 rfl) rfl rfl (Nat.le_of_eq rfl) (hb hB d18_1) (by decide) (by decide) (by decide) (by decide)
  have g_w0_1 : n0 ≤ w0_1 := syw0_1.2
  have sz_w0_1 : h0.size ≤ w0_1 := Nat.le_trans K0.1 syw0_1.1
  have ne_o0_w0_1 : o0 ≠ w0_1 := Nat.ne_of_lt (Nat.lt_of_lt_of_le E_o0.lt syw0_1.1)
  have ne_o1_w0_1 : o1 ≠ w0_1 := Nat.ne_of_lt (Nat.lt_of_lt_of_le F_mC_o1.lt syw0_1.1)
  have N1 := Fr.app N0 Nq1
  have cf2 := E_o0.keep Kq1
  have cf3 := F_mC_o0.keep Kq1 nin0
  have cf4 := F_root_o0.keep Kq1 nin0
  have cf5 := F_size_o0.keep Kq1 nin0
  have cf6 := F_mC_o1.keep Kq1 nin0
  have Z_1 : n0 ≤ T1.heap.size := Nat.le_trans Z0 Kq1.1
  have K_1 : Keep h0 T1.heap [] := K0.trans Kq1 all0
  refine oG T1 m 4 #[rv o0] [(.ref w0_1)] (st1) ?_
  refine own_retA X1 hx hlk hret rfl rfl rfl (hb hB d18_4) (by decide) (by decide) ?_
  exact ⟨w0_1, rfl, N1, K_1, ⟨sz_w0_1, g_w0_1⟩, fq0_1, fq1_1, fq2_1, fq3_1, fq4_1, fq5_1⟩
theorem qQ44 (m : MethodId) (q0 : Addr) (q1 : Addr) : entryFrame m #[(.ref q0), (.ref q1)] 4 = mkF m 0 #[rv q0, rv q1, .unset, .unset] [] := by first | (simp [entryFrame, mkF, argsToLocals, Value.category]; done) | rfl
theorem sp110 (l : Launch) (Z : State) (a0 : Array Value) (hw : ∀ d ∈ tables_1, d.before a0 Z = true) (ws : List Jvm.Cond) (o0 o1 o2 : Addr) (h0 : Heap) (n0 : Nat) (Z0 : n0 ≤ h0.size) (F_ahead_o0 : Fld Z h0 o0 OwnK1 "ahead" "I" (.int 3)) (F_changes_o0 : Fld Z h0 o0 OwnK1 "changes" "Ljava/util/List;" (.ref o2)) (E_o1 : Exa Z h0 o1 OwnK0) (E_o2 : Exa Z h0 o2 OwnK4) (F_mC_o2 : Fld Z h0 o2 OwnK5 "modCount" "I" (.int 3)) (F_size_o2 : Fld Z h0 o2 OwnK4 "size" "I" (.int 3)) (ne_o0_o1 : o0 ≠ o1) (ne_o0_o2 : o0 ≠ o2) :
    OwnC l Z (⟨OwnK1, "isOfBacklog", "(Lcom/example/newt/newt/core/delivery/Change;)Z"⟩ : MethodName) prog_11_method_4_code 4 (some .boolean) ws ({ frames := 5, cells := 2, slots := 10, locals := 66 } : Room) #[(.ref o0), (.ref o1)] h0 (fun v h L => v = some (.int 0) ∧ Fr n0 L ∧ Keep h0 h []) := by
  refine own_entry qQ2 (fun m => qQ44 m o0 o1) ?_
  intro p e s m below meth c T0 X0 hC e0
  obtain ⟨hx, hB, hml, hown, hnm, hret, hlk, hZ⟩ := hC
  have N0 := Fr.nil n0
  have K0 := Keep.refl h0 []
  refine oG T0 m 1 #[rv o0, rv o1, .unset, .unset] [(.ref o0)] (fun t k => XS.aloadN X0.here hx rfl (hb hB d13_0) rfl rfl k) ?_
  obtain ⟨T1, X1, e1, st1⟩ := getF X0 hx hZ hown (host := "") (Or.inl (oW hw 58 rfl)) Via.refl e0 F_changes_o0 (g := (mkF m 1 #[rv o0, rv o1, .unset, .unset] [(.ref o0)])) rfl rfl (hb hB d13_1)
  refine oG T1 m 4 #[rv o0, rv o1, .unset, .unset] [(.ref o2)] (st1) ?_
  refine oG T1 m 5 #[rv o0, rv o1, .unset, .unset] [(.ref o0), (.ref o2)] (fun t k => XS.aloadN X1.here hx rfl (hb hB d13_4) rfl rfl k) ?_
  obtain ⟨T2, X2, e2, st2⟩ := getF X1 hx hZ hown (host := "") (Or.inl (oW hw 60 rfl)) Via.refl e1 F_ahead_o0 (g := (mkF m 5 #[rv o0, rv o1, .unset, .unset] [(.ref o0), (.ref o2)])) rfl rfl (hb hB d13_5)
  refine oG T2 m 8 #[rv o0, rv o1, .unset, .unset] [(.int 3), (.ref o2)] (st2) ?_
  refine oG T2 m 9 #[rv o0, rv o1, .unset, .unset] [(.ref o0), (.int 3), (.ref o2)] (fun t k => XS.aloadN X2.here hx rfl (hb hB d13_8) rfl rfl k) ?_
  obtain ⟨T3, X3, e3, st3⟩ := getF X2 hx hZ hown (host := "") (Or.inl (oW hw 58 rfl)) Via.refl e2 F_changes_o0 (g := (mkF m 9 #[rv o0, rv o1, .unset, .unset] [(.ref o0), (.int 3), (.ref o2)])) rfl rfl (hb hB d13_9)
  refine oG T3 m 12 #[rv o0, rv o1, .unset, .unset] [(.ref o2), (.int 3), (.ref o2)] (st3) ?_
  obtain ⟨_, T4, L4, X4, ⟨rfl, e4, rfl⟩, st4⟩ := own_interface X3 hx hZ (xi := (⟨"java/util/List", "size", "()I"⟩ : MethodName)) (y := (⟨OwnK4, "size", "()I"⟩ : MethodName)) hown (oW hw 103 rfl) (oW hw 104 rfl) (mvT hZ (oW hw 105 rfl)) (oW hw 106 rfl) (oW hw 107 rfl) (oW hw 108 rfl) (oW hw 109 rfl) (oW hw 110 rfl) (oW hw 29 rfl) (oW hw 111 rfl) (by decide) (sp76 l Z a0 hw [] o2 h0 n0 Z0 F_size_o2) e3 E_o2 2 (argsL := []) (rest := [(.int 3), (.ref o2)]) (Ls := #[rv o0, rv o1, .unset, .unset]) (by rw [hml]; rfl) (lenOf qQ153 rfl) rfl rfl (Nat.le_of_eq rfl) (hb hB d13_12) (by decide) (by decide) (by decide) (by decide)
  replace X4 := own_nil X4
  refine oG T4 m 17 #[rv o0, rv o1, .unset, .unset] [(.int 3), (.int 3), (.ref o2)] (st4) ?_
  obtain ⟨_, T5, L5, X5, ⟨w0_5, rfl, Nq5, Kq5, syw0_5, fq0_5, fq1_5, fq2_5, fq3_5, fq4_5⟩, st5⟩ := own_interface X4 hx hZ (xi := (⟨"java/util/List", "subList", "(II)Ljava/util/List;"⟩ : MethodName)) (y := (⟨OwnK4, "subList", "(II)Ljava/util/List;"⟩ : MethodName)) hown (oW hw 112 rfl) (oW hw 113 rfl) (mvT hZ (oW hw 114 rfl)) (oW hw 115 rfl) (oW hw 116 rfl) (oW hw 117 rfl) (oW hw 118 rfl) (oW hw 110 rfl) (oW hw 29 rfl) (oW hw 119 rfl) (by decide) (sp111 l Z a0 hw [] o2 h0 n0 Z0 F_mC_o2 F_size_o2) e4 E_o2 0 (argsL := [(.int 3), (.int 3)]) (rest := []) (Ls := #[rv o0, rv o1, .unset, .unset]) (by rw [hml]; rfl) (lenOf qQ39 rfl) rfl rfl (Nat.le_of_eq rfl) (hb hB d13_17) (by decide) (by decide) (by decide) (by decide)
  have g_w0_5 : n0 ≤ w0_5 := syw0_5.2
  have sz_w0_5 : h0.size ≤ w0_5 := Nat.le_trans K0.1 syw0_5.1
  have ne_o0_w0_5 : o0 ≠ w0_5 := Nat.ne_of_lt (Nat.lt_of_lt_of_le F_ahead_o0.lt syw0_5.1)
  have ne_o1_w0_5 : o1 ≠ w0_5 := Nat.ne_of_lt (Nat.lt_of_lt_of_le E_o1.lt syw0_5.1)
  have ne_o2_w0_5 : o2 ≠ w0_5 := Nat.ne_of_lt (Nat.lt_of_lt_of_le E_o2.lt syw0_5.1)
  have N5 := Fr.app N0 Nq5
  have cf6 := F_ahead_o0.keep Kq5 nin0
  have cf7 := F_changes_o0.keep Kq5 nin0
  have cf8 := E_o1.keep Kq5
  have cf9 := E_o2.keep Kq5
  have cf10 := F_mC_o2.keep Kq5 nin0
  have cf11 := F_size_o2.keep Kq5 nin0
  have Z_5 : n0 ≤ T5.heap.size := Nat.le_trans Z0 Kq5.1
  have K_5 : Keep h0 T5.heap [] := K0.trans Kq5 all0
  refine oG T5 m 22 #[rv o0, rv o1, .unset, .unset] [(.ref w0_5)] (st5) ?_
  obtain ⟨_, T12, L12, X12, ⟨w0_12, rfl, Nq12, Kq12, syw0_12, fq0_12, fq1_12, fq2_12, fq3_12, fq4_12, fq5_12⟩, st12⟩ := own_interface X5 hx hZ (xi := (⟨"java/util/List", "iterator", "()Ljava/util/Iterator;"⟩ : MethodName)) (y := (⟨OwnK3, "iterator", "()Ljava/util/Iterator;"⟩ : MethodName)) hown (oW hw 146 rfl) (oW hw 147 rfl) (mvT hZ (oW hw 148 rfl)) (oW hw 149 rfl) (oW hw 150 rfl) (oW hw 151 rfl) (oW hw 152 rfl) (oW hw 153 rfl) (oW hw 126 rfl) (oW hw 154 rfl) (by decide) (sp114 l Z a0 hw [] w0_5 o2 T5.heap n0 Z_5 fq0_5 fq4_5 fq1_5 fq3_5 cf10) rfl fq0_5 0 (argsL := []) (rest := []) (Ls := #[rv o0, rv o1, .unset, .unset]) (by rw [hml]; rfl) (lenOf qQ35 rfl) rfl rfl (Nat.le_of_eq rfl) (hb hB d13_22) (by decide) (by decide) (by decide) (by decide)
  have g_w0_12 : n0 ≤ w0_12 := syw0_12.2
  have sz_w0_12 : h0.size ≤ w0_12 := Nat.le_trans K_5.1 syw0_12.1
  have ne_o0_w0_12 : o0 ≠ w0_12 := Nat.ne_of_lt (Nat.lt_of_lt_of_le cf6.lt syw0_12.1)
  have ne_o1_w0_12 : o1 ≠ w0_12 := Nat.ne_of_lt (Nat.lt_of_lt_of_le cf8.lt syw0_12.1)
  have ne_o2_w0_12 : o2 ≠ w0_12 := Nat.ne_of_lt (Nat.lt_of_lt_of_le cf9.lt syw0_12.1)
  have ne_w0_5_w0_12 : w0_5 ≠ w0_12 := Nat.ne_of_lt (Nat.lt_of_lt_of_le fq0_5.lt syw0_12.1)
  have N12 := Fr.app N5 Nq12
  have cf13 := cf6.keep Kq12 nin0
  have cf14 := cf7.keep Kq12 nin0
  have cf15 := cf8.keep Kq12
  have cf16 := cf9.keep Kq12
  have cf17 := cf10.keep Kq12 nin0
  have cf18 := cf11.keep Kq12 nin0
  have cf19 := fq0_5.keep Kq12
  have cf20 := fq1_5.keep Kq12 nin0
  have cf21 := fq2_5.keep Kq12 nin0
  have cf22 := fq3_5.keep Kq12 nin0
  have cf23 := fq4_5.keep Kq12 nin0
  have Z_12 : n0 ≤ T12.heap.size := Nat.le_trans Z_5 Kq12.1
  have K_12 : Keep h0 T12.heap [] := K_5.trans Kq12 all0
  refine oG T12 m 27 #[rv o0, rv o1, .unset, .unset] [(.ref w0_12)] (st12) ?_
  refine oG T12 m 28 #[rv o0, rv o1, rv w0_12, .unset] [] (fun t k => XS.astoreN X12.here hx rfl (hb hB d13_27) rfl rfl rfl k) ?_
  refine oG T12 m 29 #[rv o0, rv o1, rv w0_12, .unset] [(.ref w0_12)] (fun t k => XS.aloadN X12.here hx rfl (hb hB d13_28) rfl rfl k) ?_
  obtain ⟨_, T24, L24, X24, ⟨rfl, e24, rfl⟩, st24⟩ := own_interface X12 hx hZ (xi := (⟨"java/util/Iterator", "hasNext", "()Z"⟩ : MethodName)) (y := (⟨OwnK2, "hasNext", "()Z"⟩ : MethodName)) hown (oW hw 196 rfl) (oW hw 197 rfl) (mvT hZ (oW hw 198 rfl)) (oW hw 199 rfl) (oW hw 200 rfl) (oW hw 201 rfl) (oW hw 202 rfl) (oW hw 203 rfl) (oW hw 179 rfl) (oW hw 204 rfl) (by decide) (sp38 l Z a0 hw [] w0_12 w0_5 T12.heap n0 Z_12 fq3_12 fq1_12 cf22) rfl fq0_12 0 (argsL := []) (rest := []) (Ls := #[rv o0, rv o1, rv w0_12, .unset]) (by rw [hml]; rfl) (lenOf qQ158 rfl) rfl rfl (Nat.le_of_eq rfl) (hb hB d13_29) (by decide) (by decide) (by decide) (by decide)
  replace X24 := own_nil X24
  refine oG T24 m 34 #[rv o0, rv o1, rv w0_12, .unset] [(.int 0)] (st24) ?_
  refine oG T24 m 64 #[rv o0, rv o1, rv w0_12, .unset] [] (fun t k => XS.ifYes X24.here hx rfl (pc0 := 34) (pc' := 64) rfl (hb hB d13_34) rfl ((if0 _ _).trans (teq (by decide)).1) (by decide) (by decide) k) ?_
  refine oG T24 m 65 #[rv o0, rv o1, rv w0_12, .unset] [(.int 0)] (fun t k => XS.iconst X24.here hx rfl (hb hB d13_64) k) ?_
  refine own_retZ X24 hx hlk hret (by decide) (hb hB d13_65) (by decide) (by decide) ?_
  rw [e24]
  exact ⟨rfl, N12, K_12⟩
theorem qQ163 (m : MethodId) (q0 : Int32) (q1 : Int32) (q2 : Int64) : entryFrame m #[(.int q0), (.int q1), (.long q2)] maxLocals = mkF m 0 #[iv q0, iv q1, .val (.long q2), .second, .unset, .unset, .unset, .unset, .unset, .unset, .unset, .unset] [] := by first | (simp [entryFrame, mkF, argsToLocals, Value.category, maxLocals]; done) | rfl
theorem rm0 (l : Launch) (Z : State) (a0 : Array Value) (hw : ∀ d ∈ tables_1, d.before a0 Z = true) (ws : List Jvm.Cond) (x0 : Int32) (x1 : Int32) (x2 : Int64) (aE : Addr) (kE : ClassId) (h0 : Heap) (n0 : Nat) (Z0 : n0 ≤ h0.size) (S_D : Sta Z h0 OwnK4 "DEFAULTCAPACITY_EMPTY_ELEMENTDATA" OwnK6 (.ref aE)) (V_E : Arv Z h0 aE kE (.object "java/lang/Object") 0 [] .null) :
    OwnC l Z x code maxLocals ret ws room_1 #[(.int x0), (.int x1), (.long x2)] h0 (fun v h L => v = some (.int 1) ∧ Fr n0 L) := by
  refine own_entry qQ6 (fun m => qQ163 m x0 x1 x2) ?_
  intro p e s m below meth c T0 X0 hC e0
  obtain ⟨hx, hB, hml, hown, hnm, hret, hlk, hZ⟩ := hC
  have hml : c.maxLocals = 12 := hml
  have N0 := Fr.nil n0
  refine oG T0 m 1 #[iv x0, iv x1, .val (.long x2), .second, .unset, .unset, .unset, .unset, .unset, .unset, .unset, .unset] [(.int x0)] (fun t k => XS.iloadN X0.here hx rfl (hb hB at_0) rfl k) ?_
  refine oG T0 m 2 #[iv x0, iv x1, .val (.long x2), .second, .unset, .unset, .unset, .unset, .unset, .unset, .unset, .unset] [(.int 3), (.int x0)] (fun t k => XS.iconst X0.here hx rfl (hb hB at_1) k) ?_
  refine oG T0 m 3 #[iv x0, iv x1, .val (.long x2), .second, .unset, .unset, .unset, .unset, .unset, .unset, .unset, .unset] [(.int (x0 &&& (3 : Int32)))] (fun t k => XS.iand X0.here hx rfl (hb hB at_2) rfl k) ?_
  refine oG T0 m 5 #[iv x0, iv x1, .val (.long x2), .second, iv (x0 &&& (3 : Int32)), .unset, .unset, .unset, .unset, .unset, .unset, .unset] [] (fun t k => XS.istore X0.here hx rfl (hb hB at_3) rfl rfl k) ?_
  refine oG T0 m 6 #[iv x0, iv x1, .val (.long x2), .second, iv (x0 &&& (3 : Int32)), .unset, .unset, .unset, .unset, .unset, .unset, .unset] [(.int x1)] (fun t k => XS.iloadN X0.here hx rfl (hb hB at_5) rfl k) ?_
  refine oG T0 m 8 #[iv x0, iv x1, .val (.long x2), .second, iv (x0 &&& (3 : Int32)), .unset, .unset, .unset, .unset, .unset, .unset, .unset] [(.int 2147483647), (.int x1)] (X0.ldcInt hx hown (mvT hZ (oW hw 0 rfl)) (g := (mkF m 6 #[iv x0, iv x1, .val (.long x2), .second, iv (x0 &&& (3 : Int32)), .unset, .unset, .unset, .unset, .unset, .unset, .unset] [(.int x1)])) rfl (hb hB at_6)) ?_
  refine oG T0 m 9 #[iv x0, iv x1, .val (.long x2), .second, iv (x0 &&& (3 : Int32)), .unset, .unset, .unset, .unset, .unset, .unset, .unset] [(.int (x1 &&& (2147483647 : Int32)))] (fun t k => XS.iand X0.here hx rfl (hb hB at_8) rfl k) ?_
  refine oG T0 m 11 #[iv x0, iv x1, .val (.long x2), .second, iv (x0 &&& (3 : Int32)), .unset, .unset, .unset, .unset, .unset, .unset, .unset] [(.int (x0 &&& (3 : Int32))), (.int (x1 &&& (2147483647 : Int32)))] (fun t k => XS.iload X0.here hx rfl (hb hB at_9) rfl k) ?_
  refine oG T0 m 12 #[iv x0, iv x1, .val (.long x2), .second, iv (x0 &&& (3 : Int32)), .unset, .unset, .unset, .unset, .unset, .unset, .unset] [(.int 1), (.int (x0 &&& (3 : Int32))), (.int (x1 &&& (2147483647 : Int32)))] (fun t k => XS.iconst X0.here hx rfl (hb hB at_11) k) ?_
  refine oG T0 m 13 #[iv x0, iv x1, .val (.long x2), .second, iv (x0 &&& (3 : Int32)), .unset, .unset, .unset, .unset, .unset, .unset, .unset] [(.int ((x0 &&& (3 : Int32)) + (1 : Int32))), (.int (x1 &&& (2147483647 : Int32)))] (fun t k => XS.iadd X0.here hx rfl (hb hB at_12) rfl k) ?_
  refine oG T0 m 14 #[iv x0, iv x1, .val (.long x2), .second, iv (x0 &&& (3 : Int32)), .unset, .unset, .unset, .unset, .unset, .unset, .unset] [(.int ((x1 &&& (2147483647 : Int32)) % ((x0 &&& (3 : Int32)) + (1 : Int32))))] (fun t k => own_rem_ne X0 hx rfl (hb hB at_13) rfl (own_nz x0) k) ?_
  refine oG T0 m 16 #[iv x0, iv x1, .val (.long x2), .second, iv (x0 &&& (3 : Int32)), iv ((x1 &&& (2147483647 : Int32)) % ((x0 &&& (3 : Int32)) + (1 : Int32))), .unset, .unset, .unset, .unset, .unset, .unset] [] (fun t k => XS.istore X0.here hx rfl (hb hB at_14) rfl rfl k) ?_
  obtain ⟨T1, h1, X1, e1, E1, A1, D1, -, st1⟩ := newO X0 hx hZ hown (oW hw 1 rfl) (oW hw 2 rfl) (oW hw 3 rfl) e0 (g := (mkF m 16 #[iv x0, iv x1, .val (.long x2), .second, iv (x0 &&& (3 : Int32)), iv ((x1 &&& (2147483647 : Int32)) % ((x0 &&& (3 : Int32)) + (1 : Int32))), .unset, .unset, .unset, .unset, .unset, .unset] [])) rfl (hb hB at_16) (by decide) (by decide)
  obtain ⟨b1, g1⟩ : ∃ z, z = h0.size := ⟨_, rfl⟩
  rw [← g1] at A1 D1 st1
  have ne_aE_b1 : aE ≠ b1 := Nat.ne_of_lt (Nat.lt_of_lt_of_eq V_E.lt g1.symm)
  have g_b1 : n0 ≤ b1 := Nat.le_trans Z0 (Nat.le_of_eq g1.symm)
  have cf2 := S_D.ext E1
  have cf3 := V_E.ext E1
  have Z_1 : n0 ≤ h1.size := Nat.le_trans Z0 E1.1
  have F_id_1 : Fld Z h1 b1 OwnK0 "id" "J" (.long 0) := D1 (Or.inr (oW hw 11 rfl)) (ty := .long) (by decide)
  have F_feed_1 : Fld Z h1 b1 OwnK0 "feed" "Ljava/lang/String;" .null := D1 (Or.inr (oW hw 13 rfl)) (ty := (.object "java/lang/String")) (by decide)
  have F_key_1 : Fld Z h1 b1 OwnK0 "key" "Ljava/lang/String;" .null := D1 (Or.inr (oW hw 15 rfl)) (ty := (.object "java/lang/String")) (by decide)
  have F_payload_1 : Fld Z h1 b1 OwnK0 "payload" "Ljava/lang/String;" .null := D1 (Or.inr (oW hw 17 rfl)) (ty := (.object "java/lang/String")) (by decide)
  have F_identifier_1 : Fld Z h1 b1 OwnK0 "identifier" "Ljava/util/Optional;" .null := D1 (Or.inr (oW hw 19 rfl)) (ty := (.object "java/util/Optional")) (by decide)
  have F_attempts_1 : Fld Z h1 b1 OwnK0 "attempts" "I" (.int 0) := D1 (Or.inr (oW hw 21 rfl)) (ty := .int) (by decide)
  have F_replayOf_1 : Fld Z h1 b1 OwnK0 "replayOf" "Ljava/util/OptionalLong;" .null := D1 (Or.inr (oW hw 23 rfl)) (ty := (.object "java/util/OptionalLong")) (by decide)
  have F_job_1 : Fld Z h1 b1 OwnK0 "job" "Ljava/util/Optional;" .null := D1 (Or.inr (oW hw 25 rfl)) (ty := (.object "java/util/Optional")) (by decide)
  refine oG T1 m 19 #[iv x0, iv x1, .val (.long x2), .second, iv (x0 &&& (3 : Int32)), iv ((x1 &&& (2147483647 : Int32)) % ((x0 &&& (3 : Int32)) + (1 : Int32))), .unset, .unset, .unset, .unset, .unset, .unset] [(.ref b1)] (st1) ?_
  refine oG T1 m 20 #[iv x0, iv x1, .val (.long x2), .second, iv (x0 &&& (3 : Int32)), iv ((x1 &&& (2147483647 : Int32)) % ((x0 &&& (3 : Int32)) + (1 : Int32))), .unset, .unset, .unset, .unset, .unset, .unset] [(.ref b1), (.ref b1)] (fun t k => XS.dup X1.here hx rfl (hb hB at_19) rfl rfl k) ?_
  refine oG T1 m 21 #[iv x0, iv x1, .val (.long x2), .second, iv (x0 &&& (3 : Int32)), iv ((x1 &&& (2147483647 : Int32)) % ((x0 &&& (3 : Int32)) + (1 : Int32))), .unset, .unset, .unset, .unset, .unset, .unset] [(.long x2), (.ref b1), (.ref b1)] (fun t k => XS.lloadN X1.here hx rfl (hb hB at_20) rfl k) ?_
  refine oG T1 m 22 #[iv x0, iv x1, .val (.long x2), .second, iv (x0 &&& (3 : Int32)), iv ((x1 &&& (2147483647 : Int32)) % ((x0 &&& (3 : Int32)) + (1 : Int32))), .unset, .unset, .unset, .unset, .unset, .unset] [.null, (.long x2), (.ref b1), (.ref b1)] (fun t k => XS.aconstNull X1.here hx rfl (hb hB at_21) k) ?_
  refine oG T1 m 23 #[iv x0, iv x1, .val (.long x2), .second, iv (x0 &&& (3 : Int32)), iv ((x1 &&& (2147483647 : Int32)) % ((x0 &&& (3 : Int32)) + (1 : Int32))), .unset, .unset, .unset, .unset, .unset, .unset] [.null, .null, (.long x2), (.ref b1), (.ref b1)] (fun t k => XS.aconstNull X1.here hx rfl (hb hB at_22) k) ?_
  refine oG T1 m 24 #[iv x0, iv x1, .val (.long x2), .second, iv (x0 &&& (3 : Int32)), iv ((x1 &&& (2147483647 : Int32)) % ((x0 &&& (3 : Int32)) + (1 : Int32))), .unset, .unset, .unset, .unset, .unset, .unset] [.null, .null, .null, (.long x2), (.ref b1), (.ref b1)] (fun t k => XS.aconstNull X1.here hx rfl (hb hB at_23) k) ?_
  refine oG T1 m 25 #[iv x0, iv x1, .val (.long x2), .second, iv (x0 &&& (3 : Int32)), iv ((x1 &&& (2147483647 : Int32)) % ((x0 &&& (3 : Int32)) + (1 : Int32))), .unset, .unset, .unset, .unset, .unset, .unset] [.null, .null, .null, .null, (.long x2), (.ref b1), (.ref b1)] (fun t k => XS.aconstNull X1.here hx rfl (hb hB at_24) k) ?_
  refine oG T1 m 26 #[iv x0, iv x1, .val (.long x2), .second, iv (x0 &&& (3 : Int32)), iv ((x1 &&& (2147483647 : Int32)) % ((x0 &&& (3 : Int32)) + (1 : Int32))), .unset, .unset, .unset, .unset, .unset, .unset] [(.int 0), .null, .null, .null, .null, (.long x2), (.ref b1), (.ref b1)] (fun t k => XS.iconst X1.here hx rfl (hb hB at_25) k) ?_
  refine oG T1 m 27 #[iv x0, iv x1, .val (.long x2), .second, iv (x0 &&& (3 : Int32)), iv ((x1 &&& (2147483647 : Int32)) % ((x0 &&& (3 : Int32)) + (1 : Int32))), .unset, .unset, .unset, .unset, .unset, .unset] [.null, (.int 0), .null, .null, .null, .null, (.long x2), (.ref b1), (.ref b1)] (fun t k => XS.aconstNull X1.here hx rfl (hb hB at_26) k) ?_
  refine oG T1 m 28 #[iv x0, iv x1, .val (.long x2), .second, iv (x0 &&& (3 : Int32)), iv ((x1 &&& (2147483647 : Int32)) % ((x0 &&& (3 : Int32)) + (1 : Int32))), .unset, .unset, .unset, .unset, .unset, .unset] [.null, .null, (.int 0), .null, .null, .null, .null, (.long x2), (.ref b1), (.ref b1)] (fun t k => XS.aconstNull X1.here hx rfl (hb hB at_27) k) ?_
  obtain ⟨_, T4, L4, X4, ⟨rfl, Nq4, Kq4, fq0_4⟩, st4⟩ := own_init X1 hx hZ (y := (⟨OwnK0, "<init>", "(JLjava/lang/String;Ljava/lang/String;Ljava/lang/String;Ljava/util/Optional;ILjava/util/OptionalLong;Ljava/util/Optional;)V"⟩ : MethodName)) rfl hown (oW hw 4 rfl) (oW hw 5 rfl) (oW hw 3 rfl) (oW hw 6 rfl) (by decide) (sp1 l Z a0 hw [] b1 x2 h1 n0 Z_1 A1 F_attempts_1 F_feed_1 F_id_1 F_identifier_1 F_job_1 F_key_1 F_payload_1 F_replayOf_1 g_b1) e1 (a := b1) 1 (argsL := [(.long x2), .null, .null, .null, .null, (.int 0), .null, .null]) (rest := [(.ref b1)]) (Ls := #[iv x0, iv x1, .val (.long x2), .second, iv (x0 &&& (3 : Int32)), iv ((x1 &&& (2147483647 : Int32)) % ((x0 &&& (3 : Int32)) + (1 : Int32))), .unset, .unset, .unset, .unset, .unset, .unset]) (by rw [hml]; rfl) (lenOf qQ1 rfl) rfl rfl (Nat.le_of_eq rfl) (hb hB at_28) (by decide) (by decide) (by decide) (by decide)
  have N4 := Fr.app N0 Nq4
  have cf5 := own_sta_keepL cf2 Kq4 (fun a cell h1 h2 => (ninS (own_sneE h1 h2 A1) nin0))
  have cf6 := cf3.keep Kq4 (ninS ne_aE_b1 nin0)
  have cf7 := A1.keep Kq4
  have Z_4 : n0 ≤ T4.heap.size := Nat.le_trans Z_1 Kq4.1
  refine oG T4 m 31 #[iv x0, iv x1, .val (.long x2), .second, iv (x0 &&& (3 : Int32)), iv ((x1 &&& (2147483647 : Int32)) % ((x0 &&& (3 : Int32)) + (1 : Int32))), .unset, .unset, .unset, .unset, .unset, .unset] [(.ref b1)] (st4) ?_
  refine oG T4 m 33 #[iv x0, iv x1, .val (.long x2), .second, iv (x0 &&& (3 : Int32)), iv ((x1 &&& (2147483647 : Int32)) % ((x0 &&& (3 : Int32)) + (1 : Int32))), rv b1, .unset, .unset, .unset, .unset, .unset] [] (fun t k => XS.astore X4.here hx rfl (hb hB at_31) rfl rfl rfl k) ?_
  obtain ⟨T8, h8, X8, e8, E8, A8, D8, -, st8⟩ := newO X4 hx hZ hown (oW hw 1 rfl) (oW hw 2 rfl) (oW hw 3 rfl) rfl (g := (mkF m 33 #[iv x0, iv x1, .val (.long x2), .second, iv (x0 &&& (3 : Int32)), iv ((x1 &&& (2147483647 : Int32)) % ((x0 &&& (3 : Int32)) + (1 : Int32))), rv b1, .unset, .unset, .unset, .unset, .unset] [])) rfl (hb hB at_33) (by decide) (by decide)
  obtain ⟨b8, g8⟩ : ∃ z, z = T4.heap.size := ⟨_, rfl⟩
  rw [← g8] at A8 D8 st8
  have ne_aE_b8 : aE ≠ b8 := Nat.ne_of_lt (Nat.lt_of_lt_of_eq cf6.lt g8.symm)
  have ne_b1_b8 : b1 ≠ b8 := Nat.ne_of_lt (Nat.lt_of_lt_of_eq cf7.lt g8.symm)
  have g_b8 : n0 ≤ b8 := Nat.le_trans Z_4 (Nat.le_of_eq g8.symm)
  have cf9 := cf5.ext E8
  have cf10 := cf6.ext E8
  have cf11 := cf7.ext E8
  have cf12 := fq0_4.ext E8
  have Z_8 : n0 ≤ h8.size := Nat.le_trans Z_4 E8.1
  have F_id_8 : Fld Z h8 b8 OwnK0 "id" "J" (.long 0) := D8 (Or.inr (oW hw 11 rfl)) (ty := .long) (by decide)
  have F_feed_8 : Fld Z h8 b8 OwnK0 "feed" "Ljava/lang/String;" .null := D8 (Or.inr (oW hw 13 rfl)) (ty := (.object "java/lang/String")) (by decide)
  have F_key_8 : Fld Z h8 b8 OwnK0 "key" "Ljava/lang/String;" .null := D8 (Or.inr (oW hw 15 rfl)) (ty := (.object "java/lang/String")) (by decide)
  have F_payload_8 : Fld Z h8 b8 OwnK0 "payload" "Ljava/lang/String;" .null := D8 (Or.inr (oW hw 17 rfl)) (ty := (.object "java/lang/String")) (by decide)
  have F_identifier_8 : Fld Z h8 b8 OwnK0 "identifier" "Ljava/util/Optional;" .null := D8 (Or.inr (oW hw 19 rfl)) (ty := (.object "java/util/Optional")) (by decide)
  have F_attempts_8 : Fld Z h8 b8 OwnK0 "attempts" "I" (.int 0) := D8 (Or.inr (oW hw 21 rfl)) (ty := .int) (by decide)
  have F_replayOf_8 : Fld Z h8 b8 OwnK0 "replayOf" "Ljava/util/OptionalLong;" .null := D8 (Or.inr (oW hw 23 rfl)) (ty := (.object "java/util/OptionalLong")) (by decide)
  have F_job_8 : Fld Z h8 b8 OwnK0 "job" "Ljava/util/Optional;" .null := D8 (Or.inr (oW hw 25 rfl)) (ty := (.object "java/util/Optional")) (by decide)
  refine oG T8 m 36 #[iv x0, iv x1, .val (.long x2), .second, iv (x0 &&& (3 : Int32)), iv ((x1 &&& (2147483647 : Int32)) % ((x0 &&& (3 : Int32)) + (1 : Int32))), rv b1, .unset, .unset, .unset, .unset, .unset] [(.ref b8)] (st8) ?_
  refine oG T8 m 37 #[iv x0, iv x1, .val (.long x2), .second, iv (x0 &&& (3 : Int32)), iv ((x1 &&& (2147483647 : Int32)) % ((x0 &&& (3 : Int32)) + (1 : Int32))), rv b1, .unset, .unset, .unset, .unset, .unset] [(.ref b8), (.ref b8)] (fun t k => XS.dup X8.here hx rfl (hb hB at_36) rfl rfl k) ?_
  refine oG T8 m 38 #[iv x0, iv x1, .val (.long x2), .second, iv (x0 &&& (3 : Int32)), iv ((x1 &&& (2147483647 : Int32)) % ((x0 &&& (3 : Int32)) + (1 : Int32))), rv b1, .unset, .unset, .unset, .unset, .unset] [(.long x2), (.ref b8), (.ref b8)] (fun t k => XS.lloadN X8.here hx rfl (hb hB at_37) rfl k) ?_
  refine oG T8 m 39 #[iv x0, iv x1, .val (.long x2), .second, iv (x0 &&& (3 : Int32)), iv ((x1 &&& (2147483647 : Int32)) % ((x0 &&& (3 : Int32)) + (1 : Int32))), rv b1, .unset, .unset, .unset, .unset, .unset] [(.long 1), (.long x2), (.ref b8), (.ref b8)] (fun t k => XS.lconst X8.here hx rfl (hb hB at_38) k) ?_
  refine oG T8 m 40 #[iv x0, iv x1, .val (.long x2), .second, iv (x0 &&& (3 : Int32)), iv ((x1 &&& (2147483647 : Int32)) % ((x0 &&& (3 : Int32)) + (1 : Int32))), rv b1, .unset, .unset, .unset, .unset, .unset] [(.long (x2 + (1 : Int64))), (.ref b8), (.ref b8)] (fun t k => XS.ladd X8.here hx rfl (hb hB at_39) rfl k) ?_
  refine oG T8 m 41 #[iv x0, iv x1, .val (.long x2), .second, iv (x0 &&& (3 : Int32)), iv ((x1 &&& (2147483647 : Int32)) % ((x0 &&& (3 : Int32)) + (1 : Int32))), rv b1, .unset, .unset, .unset, .unset, .unset] [.null, (.long (x2 + (1 : Int64))), (.ref b8), (.ref b8)] (fun t k => XS.aconstNull X8.here hx rfl (hb hB at_40) k) ?_
  refine oG T8 m 42 #[iv x0, iv x1, .val (.long x2), .second, iv (x0 &&& (3 : Int32)), iv ((x1 &&& (2147483647 : Int32)) % ((x0 &&& (3 : Int32)) + (1 : Int32))), rv b1, .unset, .unset, .unset, .unset, .unset] [.null, .null, (.long (x2 + (1 : Int64))), (.ref b8), (.ref b8)] (fun t k => XS.aconstNull X8.here hx rfl (hb hB at_41) k) ?_
  refine oG T8 m 43 #[iv x0, iv x1, .val (.long x2), .second, iv (x0 &&& (3 : Int32)), iv ((x1 &&& (2147483647 : Int32)) % ((x0 &&& (3 : Int32)) + (1 : Int32))), rv b1, .unset, .unset, .unset, .unset, .unset] [.null, .null, .null, (.long (x2 + (1 : Int64))), (.ref b8), (.ref b8)] (fun t k => XS.aconstNull X8.here hx rfl (hb hB at_42) k) ?_
  refine oG T8 m 44 #[iv x0, iv x1, .val (.long x2), .second, iv (x0 &&& (3 : Int32)), iv ((x1 &&& (2147483647 : Int32)) % ((x0 &&& (3 : Int32)) + (1 : Int32))), rv b1, .unset, .unset, .unset, .unset, .unset] [.null, .null, .null, .null, (.long (x2 + (1 : Int64))), (.ref b8), (.ref b8)] (fun t k => XS.aconstNull X8.here hx rfl (hb hB at_43) k) ?_
  refine oG T8 m 45 #[iv x0, iv x1, .val (.long x2), .second, iv (x0 &&& (3 : Int32)), iv ((x1 &&& (2147483647 : Int32)) % ((x0 &&& (3 : Int32)) + (1 : Int32))), rv b1, .unset, .unset, .unset, .unset, .unset] [(.int 0), .null, .null, .null, .null, (.long (x2 + (1 : Int64))), (.ref b8), (.ref b8)] (fun t k => XS.iconst X8.here hx rfl (hb hB at_44) k) ?_
  refine oG T8 m 46 #[iv x0, iv x1, .val (.long x2), .second, iv (x0 &&& (3 : Int32)), iv ((x1 &&& (2147483647 : Int32)) % ((x0 &&& (3 : Int32)) + (1 : Int32))), rv b1, .unset, .unset, .unset, .unset, .unset] [.null, (.int 0), .null, .null, .null, .null, (.long (x2 + (1 : Int64))), (.ref b8), (.ref b8)] (fun t k => XS.aconstNull X8.here hx rfl (hb hB at_45) k) ?_
  refine oG T8 m 47 #[iv x0, iv x1, .val (.long x2), .second, iv (x0 &&& (3 : Int32)), iv ((x1 &&& (2147483647 : Int32)) % ((x0 &&& (3 : Int32)) + (1 : Int32))), rv b1, .unset, .unset, .unset, .unset, .unset] [.null, .null, (.int 0), .null, .null, .null, .null, (.long (x2 + (1 : Int64))), (.ref b8), (.ref b8)] (fun t k => XS.aconstNull X8.here hx rfl (hb hB at_46) k) ?_
  obtain ⟨_, T13, L13, X13, ⟨rfl, Nq13, Kq13, fq0_13⟩, st13⟩ := own_init X8 hx hZ (y := (⟨OwnK0, "<init>", "(JLjava/lang/String;Ljava/lang/String;Ljava/lang/String;Ljava/util/Optional;ILjava/util/OptionalLong;Ljava/util/Optional;)V"⟩ : MethodName)) rfl hown (oW hw 4 rfl) (oW hw 5 rfl) (oW hw 3 rfl) (oW hw 6 rfl) (by decide) (sp1 l Z a0 hw [] b8 (x2 + (1 : Int64)) h8 n0 Z_8 A8 F_attempts_8 F_feed_8 F_id_8 F_identifier_8 F_job_8 F_key_8 F_payload_8 F_replayOf_8 g_b8) e8 (a := b8) 1 (argsL := [(.long (x2 + (1 : Int64))), .null, .null, .null, .null, (.int 0), .null, .null]) (rest := [(.ref b8)]) (Ls := #[iv x0, iv x1, .val (.long x2), .second, iv (x0 &&& (3 : Int32)), iv ((x1 &&& (2147483647 : Int32)) % ((x0 &&& (3 : Int32)) + (1 : Int32))), rv b1, .unset, .unset, .unset, .unset, .unset]) (by rw [hml]; rfl) (lenOf qQ1 rfl) rfl rfl (Nat.le_of_eq rfl) (hb hB at_47) (by decide) (by decide) (by decide) (by decide)
  have N13 := Fr.app N4 Nq13
  have cf14 := own_sta_keepL cf9 Kq13 (fun a cell h1 h2 => (ninS (own_sneE h1 h2 A8) nin0))
  have cf15 := cf10.keep Kq13 (ninS ne_aE_b8 nin0)
  have cf16 := cf11.keep Kq13
  have cf17 := cf12.keep Kq13 (ninS ne_b1_b8 nin0)
  have cf18 := A8.keep Kq13
  have Z_13 : n0 ≤ T13.heap.size := Nat.le_trans Z_8 Kq13.1
  refine oG T13 m 50 #[iv x0, iv x1, .val (.long x2), .second, iv (x0 &&& (3 : Int32)), iv ((x1 &&& (2147483647 : Int32)) % ((x0 &&& (3 : Int32)) + (1 : Int32))), rv b1, .unset, .unset, .unset, .unset, .unset] [(.ref b8)] (st13) ?_
  refine oG T13 m 52 #[iv x0, iv x1, .val (.long x2), .second, iv (x0 &&& (3 : Int32)), iv ((x1 &&& (2147483647 : Int32)) % ((x0 &&& (3 : Int32)) + (1 : Int32))), rv b1, rv b8, .unset, .unset, .unset, .unset] [] (fun t k => XS.astore X13.here hx rfl (hb hB at_50) rfl rfl rfl k) ?_
  obtain ⟨T19, h19, X19, e19, E19, A19, D19, -, st19⟩ := newO X13 hx hZ hown (oW hw 1 rfl) (oW hw 2 rfl) (oW hw 3 rfl) rfl (g := (mkF m 52 #[iv x0, iv x1, .val (.long x2), .second, iv (x0 &&& (3 : Int32)), iv ((x1 &&& (2147483647 : Int32)) % ((x0 &&& (3 : Int32)) + (1 : Int32))), rv b1, rv b8, .unset, .unset, .unset, .unset] [])) rfl (hb hB at_52) (by decide) (by decide)
  obtain ⟨b19, g19⟩ : ∃ z, z = T13.heap.size := ⟨_, rfl⟩
  rw [← g19] at A19 D19 st19
  have ne_aE_b19 : aE ≠ b19 := Nat.ne_of_lt (Nat.lt_of_lt_of_eq cf15.lt g19.symm)
  have ne_b1_b19 : b1 ≠ b19 := Nat.ne_of_lt (Nat.lt_of_lt_of_eq cf16.lt g19.symm)
  have ne_b8_b19 : b8 ≠ b19 := Nat.ne_of_lt (Nat.lt_of_lt_of_eq cf18.lt g19.symm)
  have g_b19 : n0 ≤ b19 := Nat.le_trans Z_13 (Nat.le_of_eq g19.symm)
  have cf20 := cf14.ext E19
  have cf21 := cf15.ext E19
  have cf22 := cf16.ext E19
  have cf23 := cf17.ext E19
  have cf24 := cf18.ext E19
  have cf25 := fq0_13.ext E19
  have Z_19 : n0 ≤ h19.size := Nat.le_trans Z_13 E19.1
  have F_id_19 : Fld Z h19 b19 OwnK0 "id" "J" (.long 0) := D19 (Or.inr (oW hw 11 rfl)) (ty := .long) (by decide)
  have F_feed_19 : Fld Z h19 b19 OwnK0 "feed" "Ljava/lang/String;" .null := D19 (Or.inr (oW hw 13 rfl)) (ty := (.object "java/lang/String")) (by decide)
  have F_key_19 : Fld Z h19 b19 OwnK0 "key" "Ljava/lang/String;" .null := D19 (Or.inr (oW hw 15 rfl)) (ty := (.object "java/lang/String")) (by decide)
  have F_payload_19 : Fld Z h19 b19 OwnK0 "payload" "Ljava/lang/String;" .null := D19 (Or.inr (oW hw 17 rfl)) (ty := (.object "java/lang/String")) (by decide)
  have F_identifier_19 : Fld Z h19 b19 OwnK0 "identifier" "Ljava/util/Optional;" .null := D19 (Or.inr (oW hw 19 rfl)) (ty := (.object "java/util/Optional")) (by decide)
  have F_attempts_19 : Fld Z h19 b19 OwnK0 "attempts" "I" (.int 0) := D19 (Or.inr (oW hw 21 rfl)) (ty := .int) (by decide)
  have F_replayOf_19 : Fld Z h19 b19 OwnK0 "replayOf" "Ljava/util/OptionalLong;" .null := D19 (Or.inr (oW hw 23 rfl)) (ty := (.object "java/util/OptionalLong")) (by decide)
  have F_job_19 : Fld Z h19 b19 OwnK0 "job" "Ljava/util/Optional;" .null := D19 (Or.inr (oW hw 25 rfl)) (ty := (.object "java/util/Optional")) (by decide)
  refine oG T19 m 55 #[iv x0, iv x1, .val (.long x2), .second, iv (x0 &&& (3 : Int32)), iv ((x1 &&& (2147483647 : Int32)) % ((x0 &&& (3 : Int32)) + (1 : Int32))), rv b1, rv b8, .unset, .unset, .unset, .unset] [(.ref b19)] (st19) ?_
  refine oG T19 m 56 #[iv x0, iv x1, .val (.long x2), .second, iv (x0 &&& (3 : Int32)), iv ((x1 &&& (2147483647 : Int32)) % ((x0 &&& (3 : Int32)) + (1 : Int32))), rv b1, rv b8, .unset, .unset, .unset, .unset] [(.ref b19), (.ref b19)] (fun t k => XS.dup X19.here hx rfl (hb hB at_55) rfl rfl k) ?_
  refine oG T19 m 57 #[iv x0, iv x1, .val (.long x2), .second, iv (x0 &&& (3 : Int32)), iv ((x1 &&& (2147483647 : Int32)) % ((x0 &&& (3 : Int32)) + (1 : Int32))), rv b1, rv b8, .unset, .unset, .unset, .unset] [(.long x2), (.ref b19), (.ref b19)] (fun t k => XS.lloadN X19.here hx rfl (hb hB at_56) rfl k) ?_
  refine oG T19 m 60 #[iv x0, iv x1, .val (.long x2), .second, iv (x0 &&& (3 : Int32)), iv ((x1 &&& (2147483647 : Int32)) % ((x0 &&& (3 : Int32)) + (1 : Int32))), rv b1, rv b8, .unset, .unset, .unset, .unset] [(.long 2), (.long x2), (.ref b19), (.ref b19)] (X19.ldc2Long hx hown (mvT hZ (oW hw 26 rfl)) (g := (mkF m 57 #[iv x0, iv x1, .val (.long x2), .second, iv (x0 &&& (3 : Int32)), iv ((x1 &&& (2147483647 : Int32)) % ((x0 &&& (3 : Int32)) + (1 : Int32))), rv b1, rv b8, .unset, .unset, .unset, .unset] [(.long x2), (.ref b19), (.ref b19)])) rfl (hb hB at_57)) ?_
  refine oG T19 m 61 #[iv x0, iv x1, .val (.long x2), .second, iv (x0 &&& (3 : Int32)), iv ((x1 &&& (2147483647 : Int32)) % ((x0 &&& (3 : Int32)) + (1 : Int32))), rv b1, rv b8, .unset, .unset, .unset, .unset] [(.long (x2 + (2 : Int64))), (.ref b19), (.ref b19)] (fun t k => XS.ladd X19.here hx rfl (hb hB at_60) rfl k) ?_
  refine oG T19 m 62 #[iv x0, iv x1, .val (.long x2), .second, iv (x0 &&& (3 : Int32)), iv ((x1 &&& (2147483647 : Int32)) % ((x0 &&& (3 : Int32)) + (1 : Int32))), rv b1, rv b8, .unset, .unset, .unset, .unset] [.null, (.long (x2 + (2 : Int64))), (.ref b19), (.ref b19)] (fun t k => XS.aconstNull X19.here hx rfl (hb hB at_61) k) ?_
  refine oG T19 m 63 #[iv x0, iv x1, .val (.long x2), .second, iv (x0 &&& (3 : Int32)), iv ((x1 &&& (2147483647 : Int32)) % ((x0 &&& (3 : Int32)) + (1 : Int32))), rv b1, rv b8, .unset, .unset, .unset, .unset] [.null, .null, (.long (x2 + (2 : Int64))), (.ref b19), (.ref b19)] (fun t k => XS.aconstNull X19.here hx rfl (hb hB at_62) k) ?_
  refine oG T19 m 64 #[iv x0, iv x1, .val (.long x2), .second, iv (x0 &&& (3 : Int32)), iv ((x1 &&& (2147483647 : Int32)) % ((x0 &&& (3 : Int32)) + (1 : Int32))), rv b1, rv b8, .unset, .unset, .unset, .unset] [.null, .null, .null, (.long (x2 + (2 : Int64))), (.ref b19), (.ref b19)] (fun t k => XS.aconstNull X19.here hx rfl (hb hB at_63) k) ?_
  refine oG T19 m 65 #[iv x0, iv x1, .val (.long x2), .second, iv (x0 &&& (3 : Int32)), iv ((x1 &&& (2147483647 : Int32)) % ((x0 &&& (3 : Int32)) + (1 : Int32))), rv b1, rv b8, .unset, .unset, .unset, .unset] [.null, .null, .null, .null, (.long (x2 + (2 : Int64))), (.ref b19), (.ref b19)] (fun t k => XS.aconstNull X19.here hx rfl (hb hB at_64) k) ?_
  refine oG T19 m 66 #[iv x0, iv x1, .val (.long x2), .second, iv (x0 &&& (3 : Int32)), iv ((x1 &&& (2147483647 : Int32)) % ((x0 &&& (3 : Int32)) + (1 : Int32))), rv b1, rv b8, .unset, .unset, .unset, .unset] [(.int 0), .null, .null, .null, .null, (.long (x2 + (2 : Int64))), (.ref b19), (.ref b19)] (fun t k => XS.iconst X19.here hx rfl (hb hB at_65) k) ?_
  refine oG T19 m 67 #[iv x0, iv x1, .val (.long x2), .second, iv (x0 &&& (3 : Int32)), iv ((x1 &&& (2147483647 : Int32)) % ((x0 &&& (3 : Int32)) + (1 : Int32))), rv b1, rv b8, .unset, .unset, .unset, .unset] [.null, (.int 0), .null, .null, .null, .null, (.long (x2 + (2 : Int64))), (.ref b19), (.ref b19)] (fun t k => XS.aconstNull X19.here hx rfl (hb hB at_66) k) ?_
  refine oG T19 m 68 #[iv x0, iv x1, .val (.long x2), .second, iv (x0 &&& (3 : Int32)), iv ((x1 &&& (2147483647 : Int32)) % ((x0 &&& (3 : Int32)) + (1 : Int32))), rv b1, rv b8, .unset, .unset, .unset, .unset] [.null, .null, (.int 0), .null, .null, .null, .null, (.long (x2 + (2 : Int64))), (.ref b19), (.ref b19)] (fun t k => XS.aconstNull X19.here hx rfl (hb hB at_67) k) ?_
  obtain ⟨_, T26, L26, X26, ⟨rfl, Nq26, Kq26, fq0_26⟩, st26⟩ := own_init X19 hx hZ (y := (⟨OwnK0, "<init>", "(JLjava/lang/String;Ljava/lang/String;Ljava/lang/String;Ljava/util/Optional;ILjava/util/OptionalLong;Ljava/util/Optional;)V"⟩ : MethodName)) rfl hown (oW hw 4 rfl) (oW hw 5 rfl) (oW hw 3 rfl) (oW hw 6 rfl) (by decide) (sp1 l Z a0 hw [] b19 (x2 + (2 : Int64)) h19 n0 Z_19 A19 F_attempts_19 F_feed_19 F_id_19 F_identifier_19 F_job_19 F_key_19 F_payload_19 F_replayOf_19 g_b19) e19 (a := b19) 1 (argsL := [(.long (x2 + (2 : Int64))), .null, .null, .null, .null, (.int 0), .null, .null]) (rest := [(.ref b19)]) (Ls := #[iv x0, iv x1, .val (.long x2), .second, iv (x0 &&& (3 : Int32)), iv ((x1 &&& (2147483647 : Int32)) % ((x0 &&& (3 : Int32)) + (1 : Int32))), rv b1, rv b8, .unset, .unset, .unset, .unset]) (by rw [hml]; rfl) (lenOf qQ1 rfl) rfl rfl (Nat.le_of_eq rfl) (hb hB at_68) (by decide) (by decide) (by decide) (by decide)
  have N26 := Fr.app N13 Nq26
  have cf27 := own_sta_keepL cf20 Kq26 (fun a cell h1 h2 => (ninS (own_sneE h1 h2 A19) nin0))
  have cf28 := cf21.keep Kq26 (ninS ne_aE_b19 nin0)
  have cf29 := cf22.keep Kq26
  have cf30 := cf23.keep Kq26 (ninS ne_b1_b19 nin0)
  have cf31 := cf24.keep Kq26
  have cf32 := cf25.keep Kq26 (ninS ne_b8_b19 nin0)
  have cf33 := A19.keep Kq26
  have Z_26 : n0 ≤ T26.heap.size := Nat.le_trans Z_19 Kq26.1
  refine oG T26 m 71 #[iv x0, iv x1, .val (.long x2), .second, iv (x0 &&& (3 : Int32)), iv ((x1 &&& (2147483647 : Int32)) % ((x0 &&& (3 : Int32)) + (1 : Int32))), rv b1, rv b8, .unset, .unset, .unset, .unset] [(.ref b19)] (st26) ?_
  refine oG T26 m 73 #[iv x0, iv x1, .val (.long x2), .second, iv (x0 &&& (3 : Int32)), iv ((x1 &&& (2147483647 : Int32)) % ((x0 &&& (3 : Int32)) + (1 : Int32))), rv b1, rv b8, rv b19, .unset, .unset, .unset] [] (fun t k => XS.astore X26.here hx rfl (hb hB at_71) rfl rfl rfl k) ?_
  obtain ⟨T34, h34, X34, e34, E34, A34, D34, -, st34⟩ := newO X26 hx hZ hown (oW hw 27 rfl) (oW hw 28 rfl) (oW hw 29 rfl) rfl (g := (mkF m 73 #[iv x0, iv x1, .val (.long x2), .second, iv (x0 &&& (3 : Int32)), iv ((x1 &&& (2147483647 : Int32)) % ((x0 &&& (3 : Int32)) + (1 : Int32))), rv b1, rv b8, rv b19, .unset, .unset, .unset] [])) rfl (hb hB at_73) (by decide) (by decide)
  obtain ⟨b34, g34⟩ : ∃ z, z = T26.heap.size := ⟨_, rfl⟩
  rw [← g34] at A34 D34 st34
  have ne_aE_b34 : aE ≠ b34 := Nat.ne_of_lt (Nat.lt_of_lt_of_eq cf28.lt g34.symm)
  have ne_b1_b34 : b1 ≠ b34 := Nat.ne_of_lt (Nat.lt_of_lt_of_eq cf29.lt g34.symm)
  have ne_b8_b34 : b8 ≠ b34 := Nat.ne_of_lt (Nat.lt_of_lt_of_eq cf31.lt g34.symm)
  have ne_b19_b34 : b19 ≠ b34 := Nat.ne_of_lt (Nat.lt_of_lt_of_eq cf33.lt g34.symm)
  have g_b34 : n0 ≤ b34 := Nat.le_trans Z_26 (Nat.le_of_eq g34.symm)
  have cf35 := cf27.ext E34
  have cf36 := cf28.ext E34
  have cf37 := cf29.ext E34
  have cf38 := cf30.ext E34
  have cf39 := cf31.ext E34
  have cf40 := cf32.ext E34
  have cf41 := cf33.ext E34
  have cf42 := fq0_26.ext E34
  have Z_34 : n0 ≤ h34.size := Nat.le_trans Z_26 E34.1
  have F_mC_34 : Fld Z h34 b34 OwnK5 "modCount" "I" (.int 0) := D34 (Or.inl (oW hw 47 rfl)) (ty := .int) (by decide)
  have F_elementData_34 : Fld Z h34 b34 OwnK4 "elementData" OwnK6 .null := D34 (Or.inl (oW hw 50 rfl)) (ty := (.array (.object "java/lang/Object"))) (by decide)
  have F_size_34 : Fld Z h34 b34 OwnK4 "size" "I" (.int 0) := D34 (Or.inl (oW hw 75 rfl)) (ty := .int) (by decide)
  refine oG T34 m 76 #[iv x0, iv x1, .val (.long x2), .second, iv (x0 &&& (3 : Int32)), iv ((x1 &&& (2147483647 : Int32)) % ((x0 &&& (3 : Int32)) + (1 : Int32))), rv b1, rv b8, rv b19, .unset, .unset, .unset] [(.ref b34)] (st34) ?_
  refine oG T34 m 77 #[iv x0, iv x1, .val (.long x2), .second, iv (x0 &&& (3 : Int32)), iv ((x1 &&& (2147483647 : Int32)) % ((x0 &&& (3 : Int32)) + (1 : Int32))), rv b1, rv b8, rv b19, .unset, .unset, .unset] [(.ref b34), (.ref b34)] (fun t k => XS.dup X34.here hx rfl (hb hB at_76) rfl rfl k) ?_
  obtain ⟨_, T43, L43, X43, ⟨rfl, Nq43, Kq43, fq0_43, fq1_43, fq2_43⟩, st43⟩ := own_init X34 hx hZ (y := (⟨OwnK4, "<init>", "()V"⟩ : MethodName)) rfl hown (oW hw 30 rfl) (oW hw 31 rfl) (oW hw 29 rfl) (oW hw 32 rfl) (by decide) (sp2 l Z a0 hw [] b34 aE h34 n0 Z_34 A34 F_elementData_34 F_mC_34 F_size_34 cf35 (Ne.symm ne_aE_b34) g_b34) e34 (a := b34) 1 (argsL := []) (rest := [(.ref b34)]) (Ls := #[iv x0, iv x1, .val (.long x2), .second, iv (x0 &&& (3 : Int32)), iv ((x1 &&& (2147483647 : Int32)) % ((x0 &&& (3 : Int32)) + (1 : Int32))), rv b1, rv b8, rv b19, .unset, .unset, .unset]) (by rw [hml]; rfl) (lenOf qQ155 rfl) rfl rfl (Nat.le_of_eq rfl) (hb hB at_77) (by decide) (by decide) (by decide) (by decide)
  have N43 := Fr.app N26 Nq43
  have cf44 := own_sta_keepL cf35 Kq43 (fun a cell h1 h2 => (ninS (own_sneE h1 h2 A34) nin0))
  have cf45 := cf36.keep Kq43 (ninS ne_aE_b34 nin0)
  have cf46 := cf37.keep Kq43
  have cf47 := cf38.keep Kq43 (ninS ne_b1_b34 nin0)
  have cf48 := cf39.keep Kq43
  have cf49 := cf40.keep Kq43 (ninS ne_b8_b34 nin0)
  have cf50 := cf41.keep Kq43
  have cf51 := cf42.keep Kq43 (ninS ne_b19_b34 nin0)
  have cf52 := A34.keep Kq43
  have Z_43 : n0 ≤ T43.heap.size := Nat.le_trans Z_34 Kq43.1
  refine oG T43 m 80 #[iv x0, iv x1, .val (.long x2), .second, iv (x0 &&& (3 : Int32)), iv ((x1 &&& (2147483647 : Int32)) % ((x0 &&& (3 : Int32)) + (1 : Int32))), rv b1, rv b8, rv b19, .unset, .unset, .unset] [(.ref b34)] (st43) ?_
  refine oG T43 m 82 #[iv x0, iv x1, .val (.long x2), .second, iv (x0 &&& (3 : Int32)), iv ((x1 &&& (2147483647 : Int32)) % ((x0 &&& (3 : Int32)) + (1 : Int32))), rv b1, rv b8, rv b19, rv b34, .unset, .unset] [] (fun t k => XS.astore X43.here hx rfl (hb hB at_80) rfl rfl rfl k) ?_
  rcases own_and3 x0 with hn3 | hn3 | hn3 | hn3
  · rw [hn3]
    refine oG T43 m 84 #[iv x0, iv x1, .val (.long x2), .second, iv 0, iv ((x1 &&& (2147483647 : Int32)) % ((0 : Int32) + (1 : Int32))), rv b1, rv b8, rv b19, rv b34, .unset, .unset] [(.int 0)] (fun t k => XS.iload X43.here hx rfl (hb hB at_82) rfl k) ?_
    refine oG T43 m 85 #[iv x0, iv x1, .val (.long x2), .second, iv 0, iv ((x1 &&& (2147483647 : Int32)) % ((0 : Int32) + (1 : Int32))), rv b1, rv b8, rv b19, rv b34, .unset, .unset] [(.int 1), (.int 0)] (fun t k => XS.iconst X43.here hx rfl (hb hB at_84) k) ?_
    refine oG T43 m 96 #[iv x0, iv x1, .val (.long x2), .second, iv 0, iv ((x1 &&& (2147483647 : Int32)) % ((0 : Int32) + (1 : Int32))), rv b1, rv b8, rv b19, rv b34, .unset, .unset] [] (fun t k => XS.icmpYes X43.here hx rfl (pc0 := 85) (pc' := 96) rfl (hb hB at_85) rfl (tlt (by decide)).1 (by decide) (by decide) k) ?_
    refine oG T43 m 98 #[iv x0, iv x1, .val (.long x2), .second, iv 0, iv ((x1 &&& (2147483647 : Int32)) % ((0 : Int32) + (1 : Int32))), rv b1, rv b8, rv b19, rv b34, .unset, .unset] [(.int 0)] (fun t k => XS.iload X43.here hx rfl (hb hB at_96) rfl k) ?_
    refine oG T43 m 99 #[iv x0, iv x1, .val (.long x2), .second, iv 0, iv ((x1 &&& (2147483647 : Int32)) % ((0 : Int32) + (1 : Int32))), rv b1, rv b8, rv b19, rv b34, .unset, .unset] [(.int 2), (.int 0)] (fun t k => XS.iconst X43.here hx rfl (hb hB at_98) k) ?_
    refine oG T43 m 110 #[iv x0, iv x1, .val (.long x2), .second, iv 0, iv ((x1 &&& (2147483647 : Int32)) % ((0 : Int32) + (1 : Int32))), rv b1, rv b8, rv b19, rv b34, .unset, .unset] [] (fun t k => XS.icmpYes X43.here hx rfl (pc0 := 99) (pc' := 110) rfl (hb hB at_99) rfl (tlt (by decide)).1 (by decide) (by decide) k) ?_
    refine oG T43 m 112 #[iv x0, iv x1, .val (.long x2), .second, iv 0, iv ((x1 &&& (2147483647 : Int32)) % ((0 : Int32) + (1 : Int32))), rv b1, rv b8, rv b19, rv b34, .unset, .unset] [(.int 0)] (fun t k => XS.iload X43.here hx rfl (hb hB at_110) rfl k) ?_
    refine oG T43 m 113 #[iv x0, iv x1, .val (.long x2), .second, iv 0, iv ((x1 &&& (2147483647 : Int32)) % ((0 : Int32) + (1 : Int32))), rv b1, rv b8, rv b19, rv b34, .unset, .unset] [(.int 3), (.int 0)] (fun t k => XS.iconst X43.here hx rfl (hb hB at_112) k) ?_
    refine oG T43 m 124 #[iv x0, iv x1, .val (.long x2), .second, iv 0, iv ((x1 &&& (2147483647 : Int32)) % ((0 : Int32) + (1 : Int32))), rv b1, rv b8, rv b19, rv b34, .unset, .unset] [] (fun t k => XS.icmpYes X43.here hx rfl (pc0 := 113) (pc' := 124) rfl (hb hB at_113) rfl (tlt (by decide)).1 (by decide) (by decide) k) ?_
    rw [own_md1 x1]
    obtain ⟨T53, h53, X53, e53, E53, A53, D53, -, st53⟩ := newO X43 hx hZ hown (oW hw 51 rfl) (oW hw 52 rfl) (oW hw 53 rfl) rfl (g := (mkF m 124 #[iv x0, iv x1, .val (.long x2), .second, iv 0, iv 0, rv b1, rv b8, rv b19, rv b34, .unset, .unset] [])) rfl (hb hB at_124) (by decide) (by decide)
    obtain ⟨b53, g53⟩ : ∃ z, z = T43.heap.size := ⟨_, rfl⟩
    rw [← g53] at A53 D53 st53
    have ne_aE_b53 : aE ≠ b53 := Nat.ne_of_lt (Nat.lt_of_lt_of_eq cf45.lt g53.symm)
    have ne_b1_b53 : b1 ≠ b53 := Nat.ne_of_lt (Nat.lt_of_lt_of_eq cf46.lt g53.symm)
    have ne_b8_b53 : b8 ≠ b53 := Nat.ne_of_lt (Nat.lt_of_lt_of_eq cf48.lt g53.symm)
    have ne_b19_b53 : b19 ≠ b53 := Nat.ne_of_lt (Nat.lt_of_lt_of_eq cf50.lt g53.symm)
    have ne_b34_b53 : b34 ≠ b53 := Nat.ne_of_lt (Nat.lt_of_lt_of_eq cf52.lt g53.symm)
    have g_b53 : n0 ≤ b53 := Nat.le_trans Z_43 (Nat.le_of_eq g53.symm)
    have cf54 := cf44.ext E53
    have cf55 := cf45.ext E53
    have cf56 := cf46.ext E53
    have cf57 := cf47.ext E53
    have cf58 := cf48.ext E53
    have cf59 := cf49.ext E53
    have cf60 := cf50.ext E53
    have cf61 := cf51.ext E53
    have cf62 := cf52.ext E53
    have cf63 := fq0_43.ext E53
    have cf64 := fq1_43.ext E53
    have cf65 := fq2_43.ext E53
    have Z_53 : n0 ≤ h53.size := Nat.le_trans Z_43 E53.1
    have F_changes_53 : Fld Z h53 b53 OwnK1 "changes" "Ljava/util/List;" .null := D53 (Or.inr (oW hw 59 rfl)) (ty := (.object "java/util/List")) (by decide)
    have F_ahead_53 : Fld Z h53 b53 OwnK1 "ahead" "I" (.int 0) := D53 (Or.inr (oW hw 61 rfl)) (ty := .int) (by decide)
    refine oG T53 m 127 #[iv x0, iv x1, .val (.long x2), .second, iv 0, iv 0, rv b1, rv b8, rv b19, rv b34, .unset, .unset] [(.ref b53)] (st53) ?_
    refine oG T53 m 128 #[iv x0, iv x1, .val (.long x2), .second, iv 0, iv 0, rv b1, rv b8, rv b19, rv b34, .unset, .unset] [(.ref b53), (.ref b53)] (fun t k => XS.dup X53.here hx rfl (hb hB at_127) rfl rfl k) ?_
    refine oG T53 m 130 #[iv x0, iv x1, .val (.long x2), .second, iv 0, iv 0, rv b1, rv b8, rv b19, rv b34, .unset, .unset] [(.ref b34), (.ref b53), (.ref b53)] (fun t k => XS.aload X53.here hx rfl (hb hB at_128) rfl rfl k) ?_
    refine oG T53 m 132 #[iv x0, iv x1, .val (.long x2), .second, iv 0, iv 0, rv b1, rv b8, rv b19, rv b34, .unset, .unset] [(.int 0), (.ref b34), (.ref b53), (.ref b53)] (fun t k => XS.iload X53.here hx rfl (hb hB at_130) rfl k) ?_
    obtain ⟨_, T66, L66, X66, ⟨rfl, Nq66, Kq66, fq0_66, fq1_66⟩, st66⟩ := own_init X53 hx hZ (y := (⟨OwnK1, "<init>", "(Ljava/util/List;I)V"⟩ : MethodName)) rfl hown (oW hw 54 rfl) (oW hw 55 rfl) (oW hw 53 rfl) (oW hw 56 rfl) (by decide) (sp5 l Z a0 hw [] b53 b34 h53 n0 Z_53 A53 F_ahead_53 F_changes_53 (Ne.symm ne_b34_b53) g_b53) e53 (a := b53) 1 (argsL := [(.ref b34), (.int 0)]) (rest := [(.ref b53)]) (Ls := #[iv x0, iv x1, .val (.long x2), .second, iv 0, iv 0, rv b1, rv b8, rv b19, rv b34, .unset, .unset]) (by rw [hml]; rfl) (lenOf qQ40 rfl) rfl rfl (Nat.le_of_eq rfl) (hb hB at_132) (by decide) (by decide) (by decide) (by decide)
    have N66 := Fr.app N43 Nq66
    have cf67 := own_sta_keepL cf54 Kq66 (fun a cell h1 h2 => (ninS (own_sneE h1 h2 A53) nin0))
    have cf68 := cf55.keep Kq66 (ninS ne_aE_b53 nin0)
    have cf69 := cf56.keep Kq66
    have cf70 := cf57.keep Kq66 (ninS ne_b1_b53 nin0)
    have cf71 := cf58.keep Kq66
    have cf72 := cf59.keep Kq66 (ninS ne_b8_b53 nin0)
    have cf73 := cf60.keep Kq66
    have cf74 := cf61.keep Kq66 (ninS ne_b19_b53 nin0)
    have cf75 := cf62.keep Kq66
    have cf76 := cf63.keep Kq66 (ninS ne_b34_b53 nin0)
    have cf77 := cf64.keep Kq66 (ninS ne_b34_b53 nin0)
    have cf78 := cf65.keep Kq66 (ninS ne_b34_b53 nin0)
    have cf79 := A53.keep Kq66
    have Z_66 : n0 ≤ T66.heap.size := Nat.le_trans Z_53 Kq66.1
    refine oG T66 m 135 #[iv x0, iv x1, .val (.long x2), .second, iv 0, iv 0, rv b1, rv b8, rv b19, rv b34, .unset, .unset] [(.ref b53)] (st66) ?_
    refine oG T66 m 137 #[iv x0, iv x1, .val (.long x2), .second, iv 0, iv 0, rv b1, rv b8, rv b19, rv b34, rv b53, .unset] [] (fun t k => XS.astore X66.here hx rfl (hb hB at_135) rfl rfl rfl k) ?_
    refine oG T66 m 139 #[iv x0, iv x1, .val (.long x2), .second, iv 0, iv 0, rv b1, rv b8, rv b19, rv b34, rv b53, .unset] [(.ref b53)] (fun t k => XS.aload X66.here hx rfl (hb hB at_137) rfl rfl k) ?_
    obtain ⟨_, T80, L80, X80, ⟨rfl, e80, rfl⟩, st80⟩ := own_virtual X66 hx hZ (y := (⟨OwnK1, "hasAhead", "()Z"⟩ : MethodName)) (z := (⟨OwnK1, "hasAhead", "()Z"⟩ : MethodName)) hown (oW hw 62 rfl) (oW hw 63 rfl) (notFace_of_selects (args := #[]) (mvT hZ (oW hw 65 rfl))) (oW hw 65 rfl) (oW hw 64 rfl) (oW hw 53 rfl) (oW hw 66 rfl) (by decide) (sp6 l Z a0 hw [] b53 T66.heap n0 Z_66 fq1_66) rfl cf79 0 (argsL := []) (rest := []) (Ls := #[iv x0, iv x1, .val (.long x2), .second, iv 0, iv 0, rv b1, rv b8, rv b19, rv b34, rv b53, .unset]) (by rw [hml]; rfl) (lenOf qQ158 rfl) rfl rfl (Nat.le_of_eq rfl) (hb hB at_139) (by decide) (by decide) (by decide) (by decide)
    replace X80 := own_nil X80
    refine oG T80 m 142 #[iv x0, iv x1, .val (.long x2), .second, iv 0, iv 0, rv b1, rv b8, rv b19, rv b34, rv b53, .unset] [(.int 0)] (st80) ?_
    refine oG T80 m 144 #[iv x0, iv x1, .val (.long x2), .second, iv 0, iv 0, rv b1, rv b8, rv b19, rv b34, rv b53, iv 0] [] (fun t k => XS.istore X80.here hx rfl (hb hB at_142) rfl rfl k) ?_
    refine oG T80 m 146 #[iv x0, iv x1, .val (.long x2), .second, iv 0, iv 0, rv b1, rv b8, rv b19, rv b34, rv b53, iv 0] [(.int 0)] (fun t k => XS.iload X80.here hx rfl (hb hB at_144) rfl k) ?_
    refine oG T80 m 148 #[iv x0, iv x1, .val (.long x2), .second, iv 0, iv 0, rv b1, rv b8, rv b19, rv b34, rv b53, iv 0] [(.int 0), (.int 0)] (fun t k => XS.iload X80.here hx rfl (hb hB at_146) rfl k) ?_
    refine oG T80 m 155 #[iv x0, iv x1, .val (.long x2), .second, iv 0, iv 0, rv b1, rv b8, rv b19, rv b34, rv b53, iv 0] [(.int 0)] (fun t k => XS.ifYes X80.here hx rfl (pc0 := 148) (pc' := 155) rfl (hb hB at_148) rfl ((if0 _ _).trans (flt (by decide)).2.2.2) (by decide) (by decide) k) ?_
    refine oG T80 m 156 #[iv x0, iv x1, .val (.long x2), .second, iv 0, iv 0, rv b1, rv b8, rv b19, rv b34, rv b53, iv 0] [(.int 0), (.int 0)] (fun t k => XS.iconst X80.here hx rfl (hb hB at_155) k) ?_
    refine oG T80 m 161 #[iv x0, iv x1, .val (.long x2), .second, iv 0, iv 0, rv b1, rv b8, rv b19, rv b34, rv b53, iv 0] [] (fun t k => XS.icmpYes X80.here hx rfl (pc0 := 156) (pc' := 161) rfl (hb hB at_156) rfl (teq (by decide)).1 (by decide) (by decide) k) ?_
    refine oG T80 m 163 #[iv x0, iv x1, .val (.long x2), .second, iv 0, iv 0, rv b1, rv b8, rv b19, rv b34, rv b53, iv 0] [(.int 0)] (fun t k => XS.iload X80.here hx rfl (hb hB at_161) rfl k) ?_
    refine oG T80 m 164 #[iv x0, iv x1, .val (.long x2), .second, iv 0, iv 0, rv b1, rv b8, rv b19, rv b34, rv b53, iv 0] [(.int 1), (.int 0)] (fun t k => XS.iconst X80.here hx rfl (hb hB at_163) k) ?_
    refine oG T80 m 181 #[iv x0, iv x1, .val (.long x2), .second, iv 0, iv 0, rv b1, rv b8, rv b19, rv b34, rv b53, iv 0] [] (fun t k => XS.icmpYes X80.here hx rfl (pc0 := 164) (pc' := 181) rfl (hb hB at_164) rfl (tlt (by decide)).1 (by decide) (by decide) k) ?_
    refine oG T80 m 182 #[iv x0, iv x1, .val (.long x2), .second, iv 0, iv 0, rv b1, rv b8, rv b19, rv b34, rv b53, iv 0] [(.int 1)] (fun t k => XS.iconst X80.here hx rfl (hb hB at_181) k) ?_
    refine own_retZ X80 hx hlk hret (by decide) (hb hB at_182) (by decide) (by decide) ?_
    exact ⟨rfl, N66⟩
  · rw [hn3]
    refine oG T43 m 84 #[iv x0, iv x1, .val (.long x2), .second, iv 1, iv ((x1 &&& (2147483647 : Int32)) % ((1 : Int32) + (1 : Int32))), rv b1, rv b8, rv b19, rv b34, .unset, .unset] [(.int 1)] (fun t k => XS.iload X43.here hx rfl (hb hB at_82) rfl k) ?_
    refine oG T43 m 85 #[iv x0, iv x1, .val (.long x2), .second, iv 1, iv ((x1 &&& (2147483647 : Int32)) % ((1 : Int32) + (1 : Int32))), rv b1, rv b8, rv b19, rv b34, .unset, .unset] [(.int 1), (.int 1)] (fun t k => XS.iconst X43.here hx rfl (hb hB at_84) k) ?_
    refine oG T43 m 88 #[iv x0, iv x1, .val (.long x2), .second, iv 1, iv ((x1 &&& (2147483647 : Int32)) % ((1 : Int32) + (1 : Int32))), rv b1, rv b8, rv b19, rv b34, .unset, .unset] [] (fun t k => XS.icmpNo X43.here hx rfl (hb hB at_85) rfl (flt (by decide)).1 k) ?_
    refine oG T43 m 90 #[iv x0, iv x1, .val (.long x2), .second, iv 1, iv ((x1 &&& (2147483647 : Int32)) % ((1 : Int32) + (1 : Int32))), rv b1, rv b8, rv b19, rv b34, .unset, .unset] [(.ref b34)] (fun t k => XS.aload X43.here hx rfl (hb hB at_88) rfl rfl k) ?_
    refine oG T43 m 92 #[iv x0, iv x1, .val (.long x2), .second, iv 1, iv ((x1 &&& (2147483647 : Int32)) % ((1 : Int32) + (1 : Int32))), rv b1, rv b8, rv b19, rv b34, .unset, .unset] [(.ref b1), (.ref b34)] (fun t k => XS.aload X43.here hx rfl (hb hB at_90) rfl rfl k) ?_
    obtain ⟨_, T81, L81, X81, ⟨w0_81, kw0_81, rfl, Nq81, Kq81, syw0_81, fq0_81, fq1_81, fq2_81, fq3_81, fq4_81⟩, st81⟩ := own_virtual X43 hx hZ (y := (⟨OwnK4, "add", "(Ljava/lang/Object;)Z"⟩ : MethodName)) (z := (⟨OwnK4, "add", "(Ljava/lang/Object;)Z"⟩ : MethodName)) hown (oW hw 67 rfl) (oW hw 68 rfl) (notFace_of_selects (args := #[]) (mvT hZ (oW hw 70 rfl))) (oW hw 70 rfl) (oW hw 69 rfl) (oW hw 29 rfl) (oW hw 71 rfl) (by decide) (sp7 l Z a0 hw [] b34 b1 aE kE T43.heap n0 Z_43 cf52 fq2_43 fq1_43 fq0_43 cf46 cf45 cf44 (Ne.symm ne_b1_b34) (Ne.symm ne_aE_b34) (Ne.symm ne_aE_b1) g_b34) rfl cf52 0 (argsL := [(.ref b1)]) (rest := []) (Ls := #[iv x0, iv x1, .val (.long x2), .second, iv 1, iv ((x1 &&& (2147483647 : Int32)) % ((1 : Int32) + (1 : Int32))), rv b1, rv b8, rv b19, rv b34, .unset, .unset]) (by rw [hml]; rfl) (lenOf qQ36 rfl) rfl rfl (Nat.le_of_eq rfl) (hb hB at_92) (by decide) (by decide) (by decide) (by decide)
    have g_w0_81 : n0 ≤ w0_81 := syw0_81.2
    have ne_aE_w0_81 : aE ≠ w0_81 := Nat.ne_of_lt (Nat.lt_of_lt_of_le cf45.lt syw0_81.1)
    have ne_b1_w0_81 : b1 ≠ w0_81 := Nat.ne_of_lt (Nat.lt_of_lt_of_le cf46.lt syw0_81.1)
    have ne_b8_w0_81 : b8 ≠ w0_81 := Nat.ne_of_lt (Nat.lt_of_lt_of_le cf48.lt syw0_81.1)
    have ne_b19_w0_81 : b19 ≠ w0_81 := Nat.ne_of_lt (Nat.lt_of_lt_of_le cf50.lt syw0_81.1)
    have ne_b34_w0_81 : b34 ≠ w0_81 := Nat.ne_of_lt (Nat.lt_of_lt_of_le cf52.lt syw0_81.1)
    have N81 := Fr.app N43 Nq81
    have cf82 := own_sta_keepL cf44 Kq81 (fun a cell h1 h2 => (ninS (own_sneE h1 h2 cf52) nin0))
    have cf83 := cf45.keep Kq81 (ninS ne_aE_b34 nin0)
    have cf84 := cf46.keep Kq81
    have cf85 := cf47.keep Kq81 (ninS ne_b1_b34 nin0)
    have cf86 := cf48.keep Kq81
    have cf87 := cf49.keep Kq81 (ninS ne_b8_b34 nin0)
    have cf88 := cf50.keep Kq81
    have cf89 := cf51.keep Kq81 (ninS ne_b19_b34 nin0)
    have cf90 := cf52.keep Kq81
    have Z_81 : n0 ≤ T81.heap.size := Nat.le_trans Z_43 Kq81.1
    refine oG T81 m 95 #[iv x0, iv x1, .val (.long x2), .second, iv 1, iv ((x1 &&& (2147483647 : Int32)) % ((1 : Int32) + (1 : Int32))), rv b1, rv b8, rv b19, rv b34, .unset, .unset] [(.int 1)] (st81) ?_
    refine oG T81 m 96 #[iv x0, iv x1, .val (.long x2), .second, iv 1, iv ((x1 &&& (2147483647 : Int32)) % ((1 : Int32) + (1 : Int32))), rv b1, rv b8, rv b19, rv b34, .unset, .unset] [] (fun t k => XS.pop X81.here hx rfl (hb hB at_95) rfl rfl k) ?_
    refine oG T81 m 98 #[iv x0, iv x1, .val (.long x2), .second, iv 1, iv ((x1 &&& (2147483647 : Int32)) % ((1 : Int32) + (1 : Int32))), rv b1, rv b8, rv b19, rv b34, .unset, .unset] [(.int 1)] (fun t k => XS.iload X81.here hx rfl (hb hB at_96) rfl k) ?_
    refine oG T81 m 99 #[iv x0, iv x1, .val (.long x2), .second, iv 1, iv ((x1 &&& (2147483647 : Int32)) % ((1 : Int32) + (1 : Int32))), rv b1, rv b8, rv b19, rv b34, .unset, .unset] [(.int 2), (.int 1)] (fun t k => XS.iconst X81.here hx rfl (hb hB at_98) k) ?_
    refine oG T81 m 110 #[iv x0, iv x1, .val (.long x2), .second, iv 1, iv ((x1 &&& (2147483647 : Int32)) % ((1 : Int32) + (1 : Int32))), rv b1, rv b8, rv b19, rv b34, .unset, .unset] [] (fun t k => XS.icmpYes X81.here hx rfl (pc0 := 99) (pc' := 110) rfl (hb hB at_99) rfl (tlt (by decide)).1 (by decide) (by decide) k) ?_
    refine oG T81 m 112 #[iv x0, iv x1, .val (.long x2), .second, iv 1, iv ((x1 &&& (2147483647 : Int32)) % ((1 : Int32) + (1 : Int32))), rv b1, rv b8, rv b19, rv b34, .unset, .unset] [(.int 1)] (fun t k => XS.iload X81.here hx rfl (hb hB at_110) rfl k) ?_
    refine oG T81 m 113 #[iv x0, iv x1, .val (.long x2), .second, iv 1, iv ((x1 &&& (2147483647 : Int32)) % ((1 : Int32) + (1 : Int32))), rv b1, rv b8, rv b19, rv b34, .unset, .unset] [(.int 3), (.int 1)] (fun t k => XS.iconst X81.here hx rfl (hb hB at_112) k) ?_
    refine oG T81 m 124 #[iv x0, iv x1, .val (.long x2), .second, iv 1, iv ((x1 &&& (2147483647 : Int32)) % ((1 : Int32) + (1 : Int32))), rv b1, rv b8, rv b19, rv b34, .unset, .unset] [] (fun t k => XS.icmpYes X81.here hx rfl (pc0 := 113) (pc' := 124) rfl (hb hB at_113) rfl (tlt (by decide)).1 (by decide) (by decide) k) ?_
    rcases own_md2 x1 with hm3 | hm3
    · rw [hm3]
      obtain ⟨T91, h91, X91, e91, E91, A91, D91, -, st91⟩ := newO X81 hx hZ hown (oW hw 51 rfl) (oW hw 52 rfl) (oW hw 53 rfl) rfl (g := (mkF m 124 #[iv x0, iv x1, .val (.long x2), .second, iv 1, iv 0, rv b1, rv b8, rv b19, rv b34, .unset, .unset] [])) rfl (hb hB at_124) (by decide) (by decide)
      obtain ⟨b91, g91⟩ : ∃ z, z = T81.heap.size := ⟨_, rfl⟩
      rw [← g91] at A91 D91 st91
      have ne_aE_b91 : aE ≠ b91 := Nat.ne_of_lt (Nat.lt_of_lt_of_eq cf83.lt g91.symm)
      have ne_b1_b91 : b1 ≠ b91 := Nat.ne_of_lt (Nat.lt_of_lt_of_eq cf84.lt g91.symm)
      have ne_b8_b91 : b8 ≠ b91 := Nat.ne_of_lt (Nat.lt_of_lt_of_eq cf86.lt g91.symm)
      have ne_b19_b91 : b19 ≠ b91 := Nat.ne_of_lt (Nat.lt_of_lt_of_eq cf88.lt g91.symm)
      have ne_b34_b91 : b34 ≠ b91 := Nat.ne_of_lt (Nat.lt_of_lt_of_eq cf90.lt g91.symm)
      have ne_w0_81_b91 : w0_81 ≠ b91 := Nat.ne_of_lt (Nat.lt_of_lt_of_eq fq2_81.lt g91.symm)
      have g_b91 : n0 ≤ b91 := Nat.le_trans Z_81 (Nat.le_of_eq g91.symm)
      have cf92 := cf82.ext E91
      have cf93 := cf83.ext E91
      have cf94 := cf84.ext E91
      have cf95 := cf85.ext E91
      have cf96 := cf86.ext E91
      have cf97 := cf87.ext E91
      have cf98 := cf88.ext E91
      have cf99 := cf89.ext E91
      have cf100 := cf90.ext E91
      have cf101 := fq0_81.ext E91
      have cf102 := fq1_81.ext E91
      have cf103 := fq2_81.ext E91
      have cf104 := fq4_81.ext E91
      have Z_91 : n0 ≤ h91.size := Nat.le_trans Z_81 E91.1
      have F_changes_91 : Fld Z h91 b91 OwnK1 "changes" "Ljava/util/List;" .null := D91 (Or.inr (oW hw 59 rfl)) (ty := (.object "java/util/List")) (by decide)
      have F_ahead_91 : Fld Z h91 b91 OwnK1 "ahead" "I" (.int 0) := D91 (Or.inr (oW hw 61 rfl)) (ty := .int) (by decide)
      refine oG T91 m 127 #[iv x0, iv x1, .val (.long x2), .second, iv 1, iv 0, rv b1, rv b8, rv b19, rv b34, .unset, .unset] [(.ref b91)] (st91) ?_
      refine oG T91 m 128 #[iv x0, iv x1, .val (.long x2), .second, iv 1, iv 0, rv b1, rv b8, rv b19, rv b34, .unset, .unset] [(.ref b91), (.ref b91)] (fun t k => XS.dup X91.here hx rfl (hb hB at_127) rfl rfl k) ?_
      refine oG T91 m 130 #[iv x0, iv x1, .val (.long x2), .second, iv 1, iv 0, rv b1, rv b8, rv b19, rv b34, .unset, .unset] [(.ref b34), (.ref b91), (.ref b91)] (fun t k => XS.aload X91.here hx rfl (hb hB at_128) rfl rfl k) ?_
      refine oG T91 m 132 #[iv x0, iv x1, .val (.long x2), .second, iv 1, iv 0, rv b1, rv b8, rv b19, rv b34, .unset, .unset] [(.int 0), (.ref b34), (.ref b91), (.ref b91)] (fun t k => XS.iload X91.here hx rfl (hb hB at_130) rfl k) ?_
      obtain ⟨_, T105, L105, X105, ⟨rfl, Nq105, Kq105, fq0_105, fq1_105⟩, st105⟩ := own_init X91 hx hZ (y := (⟨OwnK1, "<init>", "(Ljava/util/List;I)V"⟩ : MethodName)) rfl hown (oW hw 54 rfl) (oW hw 55 rfl) (oW hw 53 rfl) (oW hw 56 rfl) (by decide) (sp5 l Z a0 hw [] b91 b34 h91 n0 Z_91 A91 F_ahead_91 F_changes_91 (Ne.symm ne_b34_b91) g_b91) e91 (a := b91) 1 (argsL := [(.ref b34), (.int 0)]) (rest := [(.ref b91)]) (Ls := #[iv x0, iv x1, .val (.long x2), .second, iv 1, iv 0, rv b1, rv b8, rv b19, rv b34, .unset, .unset]) (by rw [hml]; rfl) (lenOf qQ40 rfl) rfl rfl (Nat.le_of_eq rfl) (hb hB at_132) (by decide) (by decide) (by decide) (by decide)
      have N105 := Fr.app N81 Nq105
      have cf106 := own_sta_keepL cf92 Kq105 (fun a cell h1 h2 => (ninS (own_sneE h1 h2 A91) nin0))
      have cf107 := cf93.keep Kq105 (ninS ne_aE_b91 nin0)
      have cf108 := cf94.keep Kq105
      have cf109 := cf95.keep Kq105 (ninS ne_b1_b91 nin0)
      have cf110 := cf96.keep Kq105
      have cf111 := cf97.keep Kq105 (ninS ne_b8_b91 nin0)
      have cf112 := cf98.keep Kq105
      have cf113 := cf99.keep Kq105 (ninS ne_b19_b91 nin0)
      have cf114 := cf100.keep Kq105
      have cf115 := cf101.keep Kq105 (ninS ne_b34_b91 nin0)
      have cf116 := cf102.keep Kq105 (ninS ne_b34_b91 nin0)
      have cf117 := cf103.keep Kq105 (ninS ne_w0_81_b91 nin0)
      have cf118 := cf104.keep Kq105 (ninS ne_b34_b91 nin0)
      have cf119 := A91.keep Kq105
      have Z_105 : n0 ≤ T105.heap.size := Nat.le_trans Z_91 Kq105.1
      refine oG T105 m 135 #[iv x0, iv x1, .val (.long x2), .second, iv 1, iv 0, rv b1, rv b8, rv b19, rv b34, .unset, .unset] [(.ref b91)] (st105) ?_
      refine oG T105 m 137 #[iv x0, iv x1, .val (.long x2), .second, iv 1, iv 0, rv b1, rv b8, rv b19, rv b34, rv b91, .unset] [] (fun t k => XS.astore X105.here hx rfl (hb hB at_135) rfl rfl rfl k) ?_
      refine oG T105 m 139 #[iv x0, iv x1, .val (.long x2), .second, iv 1, iv 0, rv b1, rv b8, rv b19, rv b34, rv b91, .unset] [(.ref b91)] (fun t k => XS.aload X105.here hx rfl (hb hB at_137) rfl rfl k) ?_
      obtain ⟨_, T120, L120, X120, ⟨rfl, e120, rfl⟩, st120⟩ := own_virtual X105 hx hZ (y := (⟨OwnK1, "hasAhead", "()Z"⟩ : MethodName)) (z := (⟨OwnK1, "hasAhead", "()Z"⟩ : MethodName)) hown (oW hw 62 rfl) (oW hw 63 rfl) (notFace_of_selects (args := #[]) (mvT hZ (oW hw 65 rfl))) (oW hw 65 rfl) (oW hw 64 rfl) (oW hw 53 rfl) (oW hw 66 rfl) (by decide) (sp6 l Z a0 hw [] b91 T105.heap n0 Z_105 fq1_105) rfl cf119 0 (argsL := []) (rest := []) (Ls := #[iv x0, iv x1, .val (.long x2), .second, iv 1, iv 0, rv b1, rv b8, rv b19, rv b34, rv b91, .unset]) (by rw [hml]; rfl) (lenOf qQ158 rfl) rfl rfl (Nat.le_of_eq rfl) (hb hB at_139) (by decide) (by decide) (by decide) (by decide)
      replace X120 := own_nil X120
      refine oG T120 m 142 #[iv x0, iv x1, .val (.long x2), .second, iv 1, iv 0, rv b1, rv b8, rv b19, rv b34, rv b91, .unset] [(.int 0)] (st120) ?_
      refine oG T120 m 144 #[iv x0, iv x1, .val (.long x2), .second, iv 1, iv 0, rv b1, rv b8, rv b19, rv b34, rv b91, iv 0] [] (fun t k => XS.istore X120.here hx rfl (hb hB at_142) rfl rfl k) ?_
      refine oG T120 m 146 #[iv x0, iv x1, .val (.long x2), .second, iv 1, iv 0, rv b1, rv b8, rv b19, rv b34, rv b91, iv 0] [(.int 0)] (fun t k => XS.iload X120.here hx rfl (hb hB at_144) rfl k) ?_
      refine oG T120 m 148 #[iv x0, iv x1, .val (.long x2), .second, iv 1, iv 0, rv b1, rv b8, rv b19, rv b34, rv b91, iv 0] [(.int 0), (.int 0)] (fun t k => XS.iload X120.here hx rfl (hb hB at_146) rfl k) ?_
      refine oG T120 m 155 #[iv x0, iv x1, .val (.long x2), .second, iv 1, iv 0, rv b1, rv b8, rv b19, rv b34, rv b91, iv 0] [(.int 0)] (fun t k => XS.ifYes X120.here hx rfl (pc0 := 148) (pc' := 155) rfl (hb hB at_148) rfl ((if0 _ _).trans (flt (by decide)).2.2.2) (by decide) (by decide) k) ?_
      refine oG T120 m 156 #[iv x0, iv x1, .val (.long x2), .second, iv 1, iv 0, rv b1, rv b8, rv b19, rv b34, rv b91, iv 0] [(.int 0), (.int 0)] (fun t k => XS.iconst X120.here hx rfl (hb hB at_155) k) ?_
      refine oG T120 m 161 #[iv x0, iv x1, .val (.long x2), .second, iv 1, iv 0, rv b1, rv b8, rv b19, rv b34, rv b91, iv 0] [] (fun t k => XS.icmpYes X120.here hx rfl (pc0 := 156) (pc' := 161) rfl (hb hB at_156) rfl (teq (by decide)).1 (by decide) (by decide) k) ?_
      refine oG T120 m 163 #[iv x0, iv x1, .val (.long x2), .second, iv 1, iv 0, rv b1, rv b8, rv b19, rv b34, rv b91, iv 0] [(.int 1)] (fun t k => XS.iload X120.here hx rfl (hb hB at_161) rfl k) ?_
      refine oG T120 m 164 #[iv x0, iv x1, .val (.long x2), .second, iv 1, iv 0, rv b1, rv b8, rv b19, rv b34, rv b91, iv 0] [(.int 1), (.int 1)] (fun t k => XS.iconst X120.here hx rfl (hb hB at_163) k) ?_
      refine oG T120 m 167 #[iv x0, iv x1, .val (.long x2), .second, iv 1, iv 0, rv b1, rv b8, rv b19, rv b34, rv b91, iv 0] [] (fun t k => XS.icmpNo X120.here hx rfl (hb hB at_164) rfl (flt (by decide)).1 k) ?_
      refine oG T120 m 169 #[iv x0, iv x1, .val (.long x2), .second, iv 1, iv 0, rv b1, rv b8, rv b19, rv b34, rv b91, iv 0] [(.int 0)] (fun t k => XS.iload X120.here hx rfl (hb hB at_167) rfl k) ?_
      refine oG T120 m 171 #[iv x0, iv x1, .val (.long x2), .second, iv 1, iv 0, rv b1, rv b8, rv b19, rv b34, rv b91, iv 0] [(.ref b91), (.int 0)] (fun t k => XS.aload X120.here hx rfl (hb hB at_169) rfl rfl k) ?_
      refine oG T120 m 173 #[iv x0, iv x1, .val (.long x2), .second, iv 1, iv 0, rv b1, rv b8, rv b19, rv b34, rv b91, iv 0] [(.ref b1), (.ref b91), (.int 0)] (fun t k => XS.aload X120.here hx rfl (hb hB at_171) rfl rfl k) ?_
      obtain ⟨_, T121, L121, X121, ⟨rfl, Nq121, Kq121⟩, st121⟩ := own_virtual X120 hx hZ (y := (⟨OwnK1, "isOfBacklog", "(Lcom/example/newt/newt/core/delivery/Change;)Z"⟩ : MethodName)) (z := (⟨OwnK1, "isOfBacklog", "(Lcom/example/newt/newt/core/delivery/Change;)Z"⟩ : MethodName)) hown (oW hw 98 rfl) (oW hw 99 rfl) (notFace_of_selects (args := #[]) (mvT hZ (oW hw 101 rfl))) (oW hw 101 rfl) (oW hw 100 rfl) (oW hw 53 rfl) (oW hw 102 rfl) (by decide) (sp12 l Z a0 hw [] b91 b1 b34 w0_81 x2 kw0_81 T105.heap n0 Z_105 fq1_105 fq0_105 cf108 cf109 cf114 cf116 cf115 cf118 cf117 fq3_81 (Ne.symm ne_b1_b91) (Ne.symm ne_b34_b91) (Ne.symm ne_w0_81_b91)) e120 cf119 1 (argsL := [(.ref b1)]) (rest := [(.int 0)]) (Ls := #[iv x0, iv x1, .val (.long x2), .second, iv 1, iv 0, rv b1, rv b8, rv b19, rv b34, rv b91, iv 0]) (by rw [hml]; rfl) (lenOf qQ20 rfl) rfl rfl (Nat.le_of_eq rfl) (hb hB at_173) (by decide) (by decide) (by decide) (by decide)
      have N121 := Fr.app N105 Nq121
      have cf122 := own_sta_keep cf106 Kq121
      have cf123 := cf107.keep Kq121 nin0
      have cf124 := cf108.keep Kq121
      have cf125 := cf109.keep Kq121 nin0
      have cf126 := cf110.keep Kq121
      have cf127 := cf111.keep Kq121 nin0
      have cf128 := cf112.keep Kq121
      have cf129 := cf113.keep Kq121 nin0
      have cf130 := cf114.keep Kq121
      have cf131 := cf115.keep Kq121 nin0
      have cf132 := cf116.keep Kq121 nin0
      have cf133 := cf117.keep Kq121 nin0
      have cf134 := cf118.keep Kq121 nin0
      have cf135 := cf119.keep Kq121
      have cf136 := fq0_105.keep Kq121 nin0
      have cf137 := fq1_105.keep Kq121 nin0
      have Z_121 : n0 ≤ T121.heap.size := Nat.le_trans Z_105 Kq121.1
      refine oG T121 m 176 #[iv x0, iv x1, .val (.long x2), .second, iv 1, iv 0, rv b1, rv b8, rv b19, rv b34, rv b91, iv 0] [(.int 1), (.int 0)] (st121) ?_
      refine oG T121 m 181 #[iv x0, iv x1, .val (.long x2), .second, iv 1, iv 0, rv b1, rv b8, rv b19, rv b34, rv b91, iv 0] [] (fun t k => XS.icmpYes X121.here hx rfl (pc0 := 176) (pc' := 181) rfl (hb hB at_176) rfl (feq (by decide)).2 (by decide) (by decide) k) ?_
      refine oG T121 m 182 #[iv x0, iv x1, .val (.long x2), .second, iv 1, iv 0, rv b1, rv b8, rv b19, rv b34, rv b91, iv 0] [(.int 1)] (fun t k => XS.iconst X121.here hx rfl (hb hB at_181) k) ?_
      refine own_retZ X121 hx hlk hret (by decide) (hb hB at_182) (by decide) (by decide) ?_
      exact ⟨rfl, N121⟩
    · rw [hm3]
      obtain ⟨T138, h138, X138, e138, E138, A138, D138, -, st138⟩ := newO X81 hx hZ hown (oW hw 51 rfl) (oW hw 52 rfl) (oW hw 53 rfl) rfl (g := (mkF m 124 #[iv x0, iv x1, .val (.long x2), .second, iv 1, iv 1, rv b1, rv b8, rv b19, rv b34, .unset, .unset] [])) rfl (hb hB at_124) (by decide) (by decide)
      obtain ⟨b138, g138⟩ : ∃ z, z = T81.heap.size := ⟨_, rfl⟩
      rw [← g138] at A138 D138 st138
      have ne_aE_b138 : aE ≠ b138 := Nat.ne_of_lt (Nat.lt_of_lt_of_eq cf83.lt g138.symm)
      have ne_b1_b138 : b1 ≠ b138 := Nat.ne_of_lt (Nat.lt_of_lt_of_eq cf84.lt g138.symm)
      have ne_b8_b138 : b8 ≠ b138 := Nat.ne_of_lt (Nat.lt_of_lt_of_eq cf86.lt g138.symm)
      have ne_b19_b138 : b19 ≠ b138 := Nat.ne_of_lt (Nat.lt_of_lt_of_eq cf88.lt g138.symm)
      have ne_b34_b138 : b34 ≠ b138 := Nat.ne_of_lt (Nat.lt_of_lt_of_eq cf90.lt g138.symm)
      have ne_w0_81_b138 : w0_81 ≠ b138 := Nat.ne_of_lt (Nat.lt_of_lt_of_eq fq2_81.lt g138.symm)
      have g_b138 : n0 ≤ b138 := Nat.le_trans Z_81 (Nat.le_of_eq g138.symm)
      have cf139 := cf82.ext E138
      have cf140 := cf83.ext E138
      have cf141 := cf84.ext E138
      have cf142 := cf85.ext E138
      have cf143 := cf86.ext E138
      have cf144 := cf87.ext E138
      have cf145 := cf88.ext E138
      have cf146 := cf89.ext E138
      have cf147 := cf90.ext E138
      have cf148 := fq0_81.ext E138
      have cf149 := fq1_81.ext E138
      have cf150 := fq2_81.ext E138
      have cf151 := fq4_81.ext E138
      have Z_138 : n0 ≤ h138.size := Nat.le_trans Z_81 E138.1
      have F_changes_138 : Fld Z h138 b138 OwnK1 "changes" "Ljava/util/List;" .null := D138 (Or.inr (oW hw 59 rfl)) (ty := (.object "java/util/List")) (by decide)
      have F_ahead_138 : Fld Z h138 b138 OwnK1 "ahead" "I" (.int 0) := D138 (Or.inr (oW hw 61 rfl)) (ty := .int) (by decide)
      refine oG T138 m 127 #[iv x0, iv x1, .val (.long x2), .second, iv 1, iv 1, rv b1, rv b8, rv b19, rv b34, .unset, .unset] [(.ref b138)] (st138) ?_
      refine oG T138 m 128 #[iv x0, iv x1, .val (.long x2), .second, iv 1, iv 1, rv b1, rv b8, rv b19, rv b34, .unset, .unset] [(.ref b138), (.ref b138)] (fun t k => XS.dup X138.here hx rfl (hb hB at_127) rfl rfl k) ?_
      refine oG T138 m 130 #[iv x0, iv x1, .val (.long x2), .second, iv 1, iv 1, rv b1, rv b8, rv b19, rv b34, .unset, .unset] [(.ref b34), (.ref b138), (.ref b138)] (fun t k => XS.aload X138.here hx rfl (hb hB at_128) rfl rfl k) ?_
      refine oG T138 m 132 #[iv x0, iv x1, .val (.long x2), .second, iv 1, iv 1, rv b1, rv b8, rv b19, rv b34, .unset, .unset] [(.int 1), (.ref b34), (.ref b138), (.ref b138)] (fun t k => XS.iload X138.here hx rfl (hb hB at_130) rfl k) ?_
      obtain ⟨_, T152, L152, X152, ⟨rfl, Nq152, Kq152, fq0_152, fq1_152⟩, st152⟩ := own_init X138 hx hZ (y := (⟨OwnK1, "<init>", "(Ljava/util/List;I)V"⟩ : MethodName)) rfl hown (oW hw 54 rfl) (oW hw 55 rfl) (oW hw 53 rfl) (oW hw 56 rfl) (by decide) (sp28 l Z a0 hw [] b138 b34 h138 n0 Z_138 A138 F_ahead_138 F_changes_138 (Ne.symm ne_b34_b138) g_b138) e138 (a := b138) 1 (argsL := [(.ref b34), (.int 1)]) (rest := [(.ref b138)]) (Ls := #[iv x0, iv x1, .val (.long x2), .second, iv 1, iv 1, rv b1, rv b8, rv b19, rv b34, .unset, .unset]) (by rw [hml]; rfl) (lenOf qQ40 rfl) rfl rfl (Nat.le_of_eq rfl) (hb hB at_132) (by decide) (by decide) (by decide) (by decide)
      have N152 := Fr.app N81 Nq152
      have cf153 := own_sta_keepL cf139 Kq152 (fun a cell h1 h2 => (ninS (own_sneE h1 h2 A138) nin0))
      have cf154 := cf140.keep Kq152 (ninS ne_aE_b138 nin0)
      have cf155 := cf141.keep Kq152
      have cf156 := cf142.keep Kq152 (ninS ne_b1_b138 nin0)
      have cf157 := cf143.keep Kq152
      have cf158 := cf144.keep Kq152 (ninS ne_b8_b138 nin0)
      have cf159 := cf145.keep Kq152
      have cf160 := cf146.keep Kq152 (ninS ne_b19_b138 nin0)
      have cf161 := cf147.keep Kq152
      have cf162 := cf148.keep Kq152 (ninS ne_b34_b138 nin0)
      have cf163 := cf149.keep Kq152 (ninS ne_b34_b138 nin0)
      have cf164 := cf150.keep Kq152 (ninS ne_w0_81_b138 nin0)
      have cf165 := cf151.keep Kq152 (ninS ne_b34_b138 nin0)
      have cf166 := A138.keep Kq152
      have Z_152 : n0 ≤ T152.heap.size := Nat.le_trans Z_138 Kq152.1
      refine oG T152 m 135 #[iv x0, iv x1, .val (.long x2), .second, iv 1, iv 1, rv b1, rv b8, rv b19, rv b34, .unset, .unset] [(.ref b138)] (st152) ?_
      refine oG T152 m 137 #[iv x0, iv x1, .val (.long x2), .second, iv 1, iv 1, rv b1, rv b8, rv b19, rv b34, rv b138, .unset] [] (fun t k => XS.astore X152.here hx rfl (hb hB at_135) rfl rfl rfl k) ?_
      refine oG T152 m 139 #[iv x0, iv x1, .val (.long x2), .second, iv 1, iv 1, rv b1, rv b8, rv b19, rv b34, rv b138, .unset] [(.ref b138)] (fun t k => XS.aload X152.here hx rfl (hb hB at_137) rfl rfl k) ?_
      obtain ⟨_, T167, L167, X167, ⟨rfl, e167, rfl⟩, st167⟩ := own_virtual X152 hx hZ (y := (⟨OwnK1, "hasAhead", "()Z"⟩ : MethodName)) (z := (⟨OwnK1, "hasAhead", "()Z"⟩ : MethodName)) hown (oW hw 62 rfl) (oW hw 63 rfl) (notFace_of_selects (args := #[]) (mvT hZ (oW hw 65 rfl))) (oW hw 65 rfl) (oW hw 64 rfl) (oW hw 53 rfl) (oW hw 66 rfl) (by decide) (sp29 l Z a0 hw [] b138 T152.heap n0 Z_152 fq1_152) rfl cf166 0 (argsL := []) (rest := []) (Ls := #[iv x0, iv x1, .val (.long x2), .second, iv 1, iv 1, rv b1, rv b8, rv b19, rv b34, rv b138, .unset]) (by rw [hml]; rfl) (lenOf qQ158 rfl) rfl rfl (Nat.le_of_eq rfl) (hb hB at_139) (by decide) (by decide) (by decide) (by decide)
      replace X167 := own_nil X167
      refine oG T167 m 142 #[iv x0, iv x1, .val (.long x2), .second, iv 1, iv 1, rv b1, rv b8, rv b19, rv b34, rv b138, .unset] [(.int 1)] (st167) ?_
      refine oG T167 m 144 #[iv x0, iv x1, .val (.long x2), .second, iv 1, iv 1, rv b1, rv b8, rv b19, rv b34, rv b138, iv 1] [] (fun t k => XS.istore X167.here hx rfl (hb hB at_142) rfl rfl k) ?_
      refine oG T167 m 146 #[iv x0, iv x1, .val (.long x2), .second, iv 1, iv 1, rv b1, rv b8, rv b19, rv b34, rv b138, iv 1] [(.int 1)] (fun t k => XS.iload X167.here hx rfl (hb hB at_144) rfl k) ?_
      refine oG T167 m 148 #[iv x0, iv x1, .val (.long x2), .second, iv 1, iv 1, rv b1, rv b8, rv b19, rv b34, rv b138, iv 1] [(.int 1), (.int 1)] (fun t k => XS.iload X167.here hx rfl (hb hB at_146) rfl k) ?_
      refine oG T167 m 151 #[iv x0, iv x1, .val (.long x2), .second, iv 1, iv 1, rv b1, rv b8, rv b19, rv b34, rv b138, iv 1] [(.int 1)] (fun t k => XS.ifNo X167.here hx rfl (hb hB at_148) rfl ((if0 _ _).trans (tlt (by decide)).2.2.2) k) ?_
      refine oG T167 m 152 #[iv x0, iv x1, .val (.long x2), .second, iv 1, iv 1, rv b1, rv b8, rv b19, rv b34, rv b138, iv 1] [(.int 1), (.int 1)] (fun t k => XS.iconst X167.here hx rfl (hb hB at_151) k) ?_
      refine oG T167 m 156 #[iv x0, iv x1, .val (.long x2), .second, iv 1, iv 1, rv b1, rv b8, rv b19, rv b34, rv b138, iv 1] [(.int 1), (.int 1)] (fun t k => XS.goto X167.here hx rfl (pc0 := 152) (pc' := 156) rfl (hb hB at_152) (by decide) (by decide) k) ?_
      refine oG T167 m 161 #[iv x0, iv x1, .val (.long x2), .second, iv 1, iv 1, rv b1, rv b8, rv b19, rv b34, rv b138, iv 1] [] (fun t k => XS.icmpYes X167.here hx rfl (pc0 := 156) (pc' := 161) rfl (hb hB at_156) rfl (teq (by decide)).1 (by decide) (by decide) k) ?_
      refine oG T167 m 163 #[iv x0, iv x1, .val (.long x2), .second, iv 1, iv 1, rv b1, rv b8, rv b19, rv b34, rv b138, iv 1] [(.int 1)] (fun t k => XS.iload X167.here hx rfl (hb hB at_161) rfl k) ?_
      refine oG T167 m 164 #[iv x0, iv x1, .val (.long x2), .second, iv 1, iv 1, rv b1, rv b8, rv b19, rv b34, rv b138, iv 1] [(.int 1), (.int 1)] (fun t k => XS.iconst X167.here hx rfl (hb hB at_163) k) ?_
      refine oG T167 m 167 #[iv x0, iv x1, .val (.long x2), .second, iv 1, iv 1, rv b1, rv b8, rv b19, rv b34, rv b138, iv 1] [] (fun t k => XS.icmpNo X167.here hx rfl (hb hB at_164) rfl (flt (by decide)).1 k) ?_
      refine oG T167 m 169 #[iv x0, iv x1, .val (.long x2), .second, iv 1, iv 1, rv b1, rv b8, rv b19, rv b34, rv b138, iv 1] [(.int 1)] (fun t k => XS.iload X167.here hx rfl (hb hB at_167) rfl k) ?_
      refine oG T167 m 171 #[iv x0, iv x1, .val (.long x2), .second, iv 1, iv 1, rv b1, rv b8, rv b19, rv b34, rv b138, iv 1] [(.ref b138), (.int 1)] (fun t k => XS.aload X167.here hx rfl (hb hB at_169) rfl rfl k) ?_
      refine oG T167 m 173 #[iv x0, iv x1, .val (.long x2), .second, iv 1, iv 1, rv b1, rv b8, rv b19, rv b34, rv b138, iv 1] [(.ref b1), (.ref b138), (.int 1)] (fun t k => XS.aload X167.here hx rfl (hb hB at_171) rfl rfl k) ?_
      obtain ⟨_, T168, L168, X168, ⟨rfl, Nq168, Kq168⟩, st168⟩ := own_virtual X167 hx hZ (y := (⟨OwnK1, "isOfBacklog", "(Lcom/example/newt/newt/core/delivery/Change;)Z"⟩ : MethodName)) (z := (⟨OwnK1, "isOfBacklog", "(Lcom/example/newt/newt/core/delivery/Change;)Z"⟩ : MethodName)) hown (oW hw 98 rfl) (oW hw 99 rfl) (notFace_of_selects (args := #[]) (mvT hZ (oW hw 101 rfl))) (oW hw 101 rfl) (oW hw 100 rfl) (oW hw 53 rfl) (oW hw 102 rfl) (by decide) (sp30 l Z a0 hw [] b138 b1 b34 T152.heap n0 Z_152 fq1_152 fq0_152 cf155 cf161 cf162 cf165 (Ne.symm ne_b1_b138) (Ne.symm ne_b34_b138)) e167 cf166 1 (argsL := [(.ref b1)]) (rest := [(.int 1)]) (Ls := #[iv x0, iv x1, .val (.long x2), .second, iv 1, iv 1, rv b1, rv b8, rv b19, rv b34, rv b138, iv 1]) (by rw [hml]; rfl) (lenOf qQ20 rfl) rfl rfl (Nat.le_of_eq rfl) (hb hB at_173) (by decide) (by decide) (by decide) (by decide)
      have N168 := Fr.app N152 Nq168
      have cf169 := own_sta_keep cf153 Kq168
      have cf170 := cf154.keep Kq168 nin0
      have cf171 := cf155.keep Kq168
      have cf172 := cf156.keep Kq168 nin0
      have cf173 := cf157.keep Kq168
      have cf174 := cf158.keep Kq168 nin0
      have cf175 := cf159.keep Kq168
      have cf176 := cf160.keep Kq168 nin0
      have cf177 := cf161.keep Kq168
      have cf178 := cf162.keep Kq168 nin0
      have cf179 := cf163.keep Kq168 nin0
      have cf180 := cf164.keep Kq168 nin0
      have cf181 := cf165.keep Kq168 nin0
      have cf182 := cf166.keep Kq168
      have cf183 := fq0_152.keep Kq168 nin0
      have cf184 := fq1_152.keep Kq168 nin0
      have Z_168 : n0 ≤ T168.heap.size := Nat.le_trans Z_152 Kq168.1
      refine oG T168 m 176 #[iv x0, iv x1, .val (.long x2), .second, iv 1, iv 1, rv b1, rv b8, rv b19, rv b34, rv b138, iv 1] [(.int 0), (.int 1)] (st168) ?_
      refine oG T168 m 181 #[iv x0, iv x1, .val (.long x2), .second, iv 1, iv 1, rv b1, rv b8, rv b19, rv b34, rv b138, iv 1] [] (fun t k => XS.icmpYes X168.here hx rfl (pc0 := 176) (pc' := 181) rfl (hb hB at_176) rfl (feq (by decide)).2 (by decide) (by decide) k) ?_
      refine oG T168 m 182 #[iv x0, iv x1, .val (.long x2), .second, iv 1, iv 1, rv b1, rv b8, rv b19, rv b34, rv b138, iv 1] [(.int 1)] (fun t k => XS.iconst X168.here hx rfl (hb hB at_181) k) ?_
      refine own_retZ X168 hx hlk hret (by decide) (hb hB at_182) (by decide) (by decide) ?_
      exact ⟨rfl, N168⟩
  · rw [hn3]
    refine oG T43 m 84 #[iv x0, iv x1, .val (.long x2), .second, iv 2, iv ((x1 &&& (2147483647 : Int32)) % ((2 : Int32) + (1 : Int32))), rv b1, rv b8, rv b19, rv b34, .unset, .unset] [(.int 2)] (fun t k => XS.iload X43.here hx rfl (hb hB at_82) rfl k) ?_
    refine oG T43 m 85 #[iv x0, iv x1, .val (.long x2), .second, iv 2, iv ((x1 &&& (2147483647 : Int32)) % ((2 : Int32) + (1 : Int32))), rv b1, rv b8, rv b19, rv b34, .unset, .unset] [(.int 1), (.int 2)] (fun t k => XS.iconst X43.here hx rfl (hb hB at_84) k) ?_
    refine oG T43 m 88 #[iv x0, iv x1, .val (.long x2), .second, iv 2, iv ((x1 &&& (2147483647 : Int32)) % ((2 : Int32) + (1 : Int32))), rv b1, rv b8, rv b19, rv b34, .unset, .unset] [] (fun t k => XS.icmpNo X43.here hx rfl (hb hB at_85) rfl (flt (by decide)).1 k) ?_
    refine oG T43 m 90 #[iv x0, iv x1, .val (.long x2), .second, iv 2, iv ((x1 &&& (2147483647 : Int32)) % ((2 : Int32) + (1 : Int32))), rv b1, rv b8, rv b19, rv b34, .unset, .unset] [(.ref b34)] (fun t k => XS.aload X43.here hx rfl (hb hB at_88) rfl rfl k) ?_
    refine oG T43 m 92 #[iv x0, iv x1, .val (.long x2), .second, iv 2, iv ((x1 &&& (2147483647 : Int32)) % ((2 : Int32) + (1 : Int32))), rv b1, rv b8, rv b19, rv b34, .unset, .unset] [(.ref b1), (.ref b34)] (fun t k => XS.aload X43.here hx rfl (hb hB at_90) rfl rfl k) ?_
    obtain ⟨_, T185, L185, X185, ⟨w0_185, kw0_185, rfl, Nq185, Kq185, syw0_185, fq0_185, fq1_185, fq2_185, fq3_185, fq4_185⟩, st185⟩ := own_virtual X43 hx hZ (y := (⟨OwnK4, "add", "(Ljava/lang/Object;)Z"⟩ : MethodName)) (z := (⟨OwnK4, "add", "(Ljava/lang/Object;)Z"⟩ : MethodName)) hown (oW hw 67 rfl) (oW hw 68 rfl) (notFace_of_selects (args := #[]) (mvT hZ (oW hw 70 rfl))) (oW hw 70 rfl) (oW hw 69 rfl) (oW hw 29 rfl) (oW hw 71 rfl) (by decide) (sp7 l Z a0 hw [] b34 b1 aE kE T43.heap n0 Z_43 cf52 fq2_43 fq1_43 fq0_43 cf46 cf45 cf44 (Ne.symm ne_b1_b34) (Ne.symm ne_aE_b34) (Ne.symm ne_aE_b1) g_b34) rfl cf52 0 (argsL := [(.ref b1)]) (rest := []) (Ls := #[iv x0, iv x1, .val (.long x2), .second, iv 2, iv ((x1 &&& (2147483647 : Int32)) % ((2 : Int32) + (1 : Int32))), rv b1, rv b8, rv b19, rv b34, .unset, .unset]) (by rw [hml]; rfl) (lenOf qQ36 rfl) rfl rfl (Nat.le_of_eq rfl) (hb hB at_92) (by decide) (by decide) (by decide) (by decide)
    have g_w0_185 : n0 ≤ w0_185 := syw0_185.2
    have ne_aE_w0_185 : aE ≠ w0_185 := Nat.ne_of_lt (Nat.lt_of_lt_of_le cf45.lt syw0_185.1)
    have ne_b1_w0_185 : b1 ≠ w0_185 := Nat.ne_of_lt (Nat.lt_of_lt_of_le cf46.lt syw0_185.1)
    have ne_b8_w0_185 : b8 ≠ w0_185 := Nat.ne_of_lt (Nat.lt_of_lt_of_le cf48.lt syw0_185.1)
    have ne_b19_w0_185 : b19 ≠ w0_185 := Nat.ne_of_lt (Nat.lt_of_lt_of_le cf50.lt syw0_185.1)
    have ne_b34_w0_185 : b34 ≠ w0_185 := Nat.ne_of_lt (Nat.lt_of_lt_of_le cf52.lt syw0_185.1)
    have N185 := Fr.app N43 Nq185
    have cf186 := own_sta_keepL cf44 Kq185 (fun a cell h1 h2 => (ninS (own_sneE h1 h2 cf52) nin0))
    have cf187 := cf45.keep Kq185 (ninS ne_aE_b34 nin0)
    have cf188 := cf46.keep Kq185
    have cf189 := cf47.keep Kq185 (ninS ne_b1_b34 nin0)
    have cf190 := cf48.keep Kq185
    have cf191 := cf49.keep Kq185 (ninS ne_b8_b34 nin0)
    have cf192 := cf50.keep Kq185
    have cf193 := cf51.keep Kq185 (ninS ne_b19_b34 nin0)
    have cf194 := cf52.keep Kq185
    have Z_185 : n0 ≤ T185.heap.size := Nat.le_trans Z_43 Kq185.1
    refine oG T185 m 95 #[iv x0, iv x1, .val (.long x2), .second, iv 2, iv ((x1 &&& (2147483647 : Int32)) % ((2 : Int32) + (1 : Int32))), rv b1, rv b8, rv b19, rv b34, .unset, .unset] [(.int 1)] (st185) ?_
    refine oG T185 m 96 #[iv x0, iv x1, .val (.long x2), .second, iv 2, iv ((x1 &&& (2147483647 : Int32)) % ((2 : Int32) + (1 : Int32))), rv b1, rv b8, rv b19, rv b34, .unset, .unset] [] (fun t k => XS.pop X185.here hx rfl (hb hB at_95) rfl rfl k) ?_
    refine oG T185 m 98 #[iv x0, iv x1, .val (.long x2), .second, iv 2, iv ((x1 &&& (2147483647 : Int32)) % ((2 : Int32) + (1 : Int32))), rv b1, rv b8, rv b19, rv b34, .unset, .unset] [(.int 2)] (fun t k => XS.iload X185.here hx rfl (hb hB at_96) rfl k) ?_
    refine oG T185 m 99 #[iv x0, iv x1, .val (.long x2), .second, iv 2, iv ((x1 &&& (2147483647 : Int32)) % ((2 : Int32) + (1 : Int32))), rv b1, rv b8, rv b19, rv b34, .unset, .unset] [(.int 2), (.int 2)] (fun t k => XS.iconst X185.here hx rfl (hb hB at_98) k) ?_
    refine oG T185 m 102 #[iv x0, iv x1, .val (.long x2), .second, iv 2, iv ((x1 &&& (2147483647 : Int32)) % ((2 : Int32) + (1 : Int32))), rv b1, rv b8, rv b19, rv b34, .unset, .unset] [] (fun t k => XS.icmpNo X185.here hx rfl (hb hB at_99) rfl (flt (by decide)).1 k) ?_
    refine oG T185 m 104 #[iv x0, iv x1, .val (.long x2), .second, iv 2, iv ((x1 &&& (2147483647 : Int32)) % ((2 : Int32) + (1 : Int32))), rv b1, rv b8, rv b19, rv b34, .unset, .unset] [(.ref b34)] (fun t k => XS.aload X185.here hx rfl (hb hB at_102) rfl rfl k) ?_
    refine oG T185 m 106 #[iv x0, iv x1, .val (.long x2), .second, iv 2, iv ((x1 &&& (2147483647 : Int32)) % ((2 : Int32) + (1 : Int32))), rv b1, rv b8, rv b19, rv b34, .unset, .unset] [(.ref b8), (.ref b34)] (fun t k => XS.aload X185.here hx rfl (hb hB at_104) rfl rfl k) ?_
    obtain ⟨_, T195, L195, X195, ⟨rfl, Nq195, Kq195, fq0_195, fq1_195, fq2_195, fq3_195⟩, st195⟩ := own_virtual X185 hx hZ (y := (⟨OwnK4, "add", "(Ljava/lang/Object;)Z"⟩ : MethodName)) (z := (⟨OwnK4, "add", "(Ljava/lang/Object;)Z"⟩ : MethodName)) hown (oW hw 67 rfl) (oW hw 68 rfl) (notFace_of_selects (args := #[]) (mvT hZ (oW hw 70 rfl))) (oW hw 70 rfl) (oW hw 69 rfl) (oW hw 29 rfl) (oW hw 71 rfl) (by decide) (sp39 l Z a0 hw [] b34 b8 w0_185 b1 kw0_185 T185.heap n0 Z_185 cf194 fq1_185 fq0_185 fq4_185 cf190 fq2_185 fq3_185 cf188 (Ne.symm ne_b8_b34) ne_b34_w0_185 (Ne.symm ne_b1_b34) ne_b8_w0_185 (Ne.symm ne_b1_w0_185) g_b34 g_w0_185) rfl cf194 0 (argsL := [(.ref b8)]) (rest := []) (Ls := #[iv x0, iv x1, .val (.long x2), .second, iv 2, iv ((x1 &&& (2147483647 : Int32)) % ((2 : Int32) + (1 : Int32))), rv b1, rv b8, rv b19, rv b34, .unset, .unset]) (by rw [hml]; rfl) (lenOf qQ36 rfl) rfl rfl (Nat.le_of_eq rfl) (hb hB at_106) (by decide) (by decide) (by decide) (by decide)
    have N195 := Fr.app N185 Nq195
    have cf196 := own_sta_keepL cf186 Kq195 (fun a cell h1 h2 => (ninS (own_sneE h1 h2 cf194) (ninS (own_sneA h1 h2 fq2_185) nin0)))
    have cf197 := cf187.keep Kq195 (ninS ne_aE_b34 (ninS ne_aE_w0_185 nin0))
    have cf198 := cf188.keep Kq195
    have cf199 := cf189.keep Kq195 (ninS ne_b1_b34 (ninS ne_b1_w0_185 nin0))
    have cf200 := cf190.keep Kq195
    have cf201 := cf191.keep Kq195 (ninS ne_b8_b34 (ninS ne_b8_w0_185 nin0))
    have cf202 := cf192.keep Kq195
    have cf203 := cf193.keep Kq195 (ninS ne_b19_b34 (ninS ne_b19_w0_185 nin0))
    have cf204 := cf194.keep Kq195
    have Z_195 : n0 ≤ T195.heap.size := Nat.le_trans Z_185 Kq195.1
    refine oG T195 m 109 #[iv x0, iv x1, .val (.long x2), .second, iv 2, iv ((x1 &&& (2147483647 : Int32)) % ((2 : Int32) + (1 : Int32))), rv b1, rv b8, rv b19, rv b34, .unset, .unset] [(.int 1)] (st195) ?_
    refine oG T195 m 110 #[iv x0, iv x1, .val (.long x2), .second, iv 2, iv ((x1 &&& (2147483647 : Int32)) % ((2 : Int32) + (1 : Int32))), rv b1, rv b8, rv b19, rv b34, .unset, .unset] [] (fun t k => XS.pop X195.here hx rfl (hb hB at_109) rfl rfl k) ?_
    refine oG T195 m 112 #[iv x0, iv x1, .val (.long x2), .second, iv 2, iv ((x1 &&& (2147483647 : Int32)) % ((2 : Int32) + (1 : Int32))), rv b1, rv b8, rv b19, rv b34, .unset, .unset] [(.int 2)] (fun t k => XS.iload X195.here hx rfl (hb hB at_110) rfl k) ?_
    refine oG T195 m 113 #[iv x0, iv x1, .val (.long x2), .second, iv 2, iv ((x1 &&& (2147483647 : Int32)) % ((2 : Int32) + (1 : Int32))), rv b1, rv b8, rv b19, rv b34, .unset, .unset] [(.int 3), (.int 2)] (fun t k => XS.iconst X195.here hx rfl (hb hB at_112) k) ?_
    refine oG T195 m 124 #[iv x0, iv x1, .val (.long x2), .second, iv 2, iv ((x1 &&& (2147483647 : Int32)) % ((2 : Int32) + (1 : Int32))), rv b1, rv b8, rv b19, rv b34, .unset, .unset] [] (fun t k => XS.icmpYes X195.here hx rfl (pc0 := 113) (pc' := 124) rfl (hb hB at_113) rfl (tlt (by decide)).1 (by decide) (by decide) k) ?_
    rcases own_md3 x1 with hm3 | hm3 | hm3
    · rw [hm3]
      obtain ⟨T205, h205, X205, e205, E205, A205, D205, -, st205⟩ := newO X195 hx hZ hown (oW hw 51 rfl) (oW hw 52 rfl) (oW hw 53 rfl) rfl (g := (mkF m 124 #[iv x0, iv x1, .val (.long x2), .second, iv 2, iv 0, rv b1, rv b8, rv b19, rv b34, .unset, .unset] [])) rfl (hb hB at_124) (by decide) (by decide)
      obtain ⟨b205, g205⟩ : ∃ z, z = T195.heap.size := ⟨_, rfl⟩
      rw [← g205] at A205 D205 st205
      have ne_aE_b205 : aE ≠ b205 := Nat.ne_of_lt (Nat.lt_of_lt_of_eq cf197.lt g205.symm)
      have ne_b1_b205 : b1 ≠ b205 := Nat.ne_of_lt (Nat.lt_of_lt_of_eq cf198.lt g205.symm)
      have ne_b8_b205 : b8 ≠ b205 := Nat.ne_of_lt (Nat.lt_of_lt_of_eq cf200.lt g205.symm)
      have ne_b19_b205 : b19 ≠ b205 := Nat.ne_of_lt (Nat.lt_of_lt_of_eq cf202.lt g205.symm)
      have ne_b34_b205 : b34 ≠ b205 := Nat.ne_of_lt (Nat.lt_of_lt_of_eq cf204.lt g205.symm)
      have ne_w0_185_b205 : w0_185 ≠ b205 := Nat.ne_of_lt (Nat.lt_of_lt_of_eq fq2_195.lt g205.symm)
      have g_b205 : n0 ≤ b205 := Nat.le_trans Z_195 (Nat.le_of_eq g205.symm)
      have cf206 := cf196.ext E205
      have cf207 := cf197.ext E205
      have cf208 := cf198.ext E205
      have cf209 := cf199.ext E205
      have cf210 := cf200.ext E205
      have cf211 := cf201.ext E205
      have cf212 := cf202.ext E205
      have cf213 := cf203.ext E205
      have cf214 := cf204.ext E205
      have cf215 := fq0_195.ext E205
      have cf216 := fq1_195.ext E205
      have cf217 := fq2_195.ext E205
      have cf218 := fq3_195.ext E205
      have Z_205 : n0 ≤ h205.size := Nat.le_trans Z_195 E205.1
      have F_changes_205 : Fld Z h205 b205 OwnK1 "changes" "Ljava/util/List;" .null := D205 (Or.inr (oW hw 59 rfl)) (ty := (.object "java/util/List")) (by decide)
      have F_ahead_205 : Fld Z h205 b205 OwnK1 "ahead" "I" (.int 0) := D205 (Or.inr (oW hw 61 rfl)) (ty := .int) (by decide)
      refine oG T205 m 127 #[iv x0, iv x1, .val (.long x2), .second, iv 2, iv 0, rv b1, rv b8, rv b19, rv b34, .unset, .unset] [(.ref b205)] (st205) ?_
      refine oG T205 m 128 #[iv x0, iv x1, .val (.long x2), .second, iv 2, iv 0, rv b1, rv b8, rv b19, rv b34, .unset, .unset] [(.ref b205), (.ref b205)] (fun t k => XS.dup X205.here hx rfl (hb hB at_127) rfl rfl k) ?_
      refine oG T205 m 130 #[iv x0, iv x1, .val (.long x2), .second, iv 2, iv 0, rv b1, rv b8, rv b19, rv b34, .unset, .unset] [(.ref b34), (.ref b205), (.ref b205)] (fun t k => XS.aload X205.here hx rfl (hb hB at_128) rfl rfl k) ?_
      refine oG T205 m 132 #[iv x0, iv x1, .val (.long x2), .second, iv 2, iv 0, rv b1, rv b8, rv b19, rv b34, .unset, .unset] [(.int 0), (.ref b34), (.ref b205), (.ref b205)] (fun t k => XS.iload X205.here hx rfl (hb hB at_130) rfl k) ?_
      obtain ⟨_, T219, L219, X219, ⟨rfl, Nq219, Kq219, fq0_219, fq1_219⟩, st219⟩ := own_init X205 hx hZ (y := (⟨OwnK1, "<init>", "(Ljava/util/List;I)V"⟩ : MethodName)) rfl hown (oW hw 54 rfl) (oW hw 55 rfl) (oW hw 53 rfl) (oW hw 56 rfl) (by decide) (sp5 l Z a0 hw [] b205 b34 h205 n0 Z_205 A205 F_ahead_205 F_changes_205 (Ne.symm ne_b34_b205) g_b205) e205 (a := b205) 1 (argsL := [(.ref b34), (.int 0)]) (rest := [(.ref b205)]) (Ls := #[iv x0, iv x1, .val (.long x2), .second, iv 2, iv 0, rv b1, rv b8, rv b19, rv b34, .unset, .unset]) (by rw [hml]; rfl) (lenOf qQ40 rfl) rfl rfl (Nat.le_of_eq rfl) (hb hB at_132) (by decide) (by decide) (by decide) (by decide)
      have N219 := Fr.app N195 Nq219
      have cf220 := own_sta_keepL cf206 Kq219 (fun a cell h1 h2 => (ninS (own_sneE h1 h2 A205) nin0))
      have cf221 := cf207.keep Kq219 (ninS ne_aE_b205 nin0)
      have cf222 := cf208.keep Kq219
      have cf223 := cf209.keep Kq219 (ninS ne_b1_b205 nin0)
      have cf224 := cf210.keep Kq219
      have cf225 := cf211.keep Kq219 (ninS ne_b8_b205 nin0)
      have cf226 := cf212.keep Kq219
      have cf227 := cf213.keep Kq219 (ninS ne_b19_b205 nin0)
      have cf228 := cf214.keep Kq219
      have cf229 := cf215.keep Kq219 (ninS ne_b34_b205 nin0)
      have cf230 := cf216.keep Kq219 (ninS ne_b34_b205 nin0)
      have cf231 := cf217.keep Kq219 (ninS ne_w0_185_b205 nin0)
      have cf232 := cf218.keep Kq219 (ninS ne_b34_b205 nin0)
      have cf233 := A205.keep Kq219
      have Z_219 : n0 ≤ T219.heap.size := Nat.le_trans Z_205 Kq219.1
      refine oG T219 m 135 #[iv x0, iv x1, .val (.long x2), .second, iv 2, iv 0, rv b1, rv b8, rv b19, rv b34, .unset, .unset] [(.ref b205)] (st219) ?_
      refine oG T219 m 137 #[iv x0, iv x1, .val (.long x2), .second, iv 2, iv 0, rv b1, rv b8, rv b19, rv b34, rv b205, .unset] [] (fun t k => XS.astore X219.here hx rfl (hb hB at_135) rfl rfl rfl k) ?_
      refine oG T219 m 139 #[iv x0, iv x1, .val (.long x2), .second, iv 2, iv 0, rv b1, rv b8, rv b19, rv b34, rv b205, .unset] [(.ref b205)] (fun t k => XS.aload X219.here hx rfl (hb hB at_137) rfl rfl k) ?_
      obtain ⟨_, T234, L234, X234, ⟨rfl, e234, rfl⟩, st234⟩ := own_virtual X219 hx hZ (y := (⟨OwnK1, "hasAhead", "()Z"⟩ : MethodName)) (z := (⟨OwnK1, "hasAhead", "()Z"⟩ : MethodName)) hown (oW hw 62 rfl) (oW hw 63 rfl) (notFace_of_selects (args := #[]) (mvT hZ (oW hw 65 rfl))) (oW hw 65 rfl) (oW hw 64 rfl) (oW hw 53 rfl) (oW hw 66 rfl) (by decide) (sp6 l Z a0 hw [] b205 T219.heap n0 Z_219 fq1_219) rfl cf233 0 (argsL := []) (rest := []) (Ls := #[iv x0, iv x1, .val (.long x2), .second, iv 2, iv 0, rv b1, rv b8, rv b19, rv b34, rv b205, .unset]) (by rw [hml]; rfl) (lenOf qQ158 rfl) rfl rfl (Nat.le_of_eq rfl) (hb hB at_139) (by decide) (by decide) (by decide) (by decide)
      replace X234 := own_nil X234
      refine oG T234 m 142 #[iv x0, iv x1, .val (.long x2), .second, iv 2, iv 0, rv b1, rv b8, rv b19, rv b34, rv b205, .unset] [(.int 0)] (st234) ?_
      refine oG T234 m 144 #[iv x0, iv x1, .val (.long x2), .second, iv 2, iv 0, rv b1, rv b8, rv b19, rv b34, rv b205, iv 0] [] (fun t k => XS.istore X234.here hx rfl (hb hB at_142) rfl rfl k) ?_
      refine oG T234 m 146 #[iv x0, iv x1, .val (.long x2), .second, iv 2, iv 0, rv b1, rv b8, rv b19, rv b34, rv b205, iv 0] [(.int 0)] (fun t k => XS.iload X234.here hx rfl (hb hB at_144) rfl k) ?_
      refine oG T234 m 148 #[iv x0, iv x1, .val (.long x2), .second, iv 2, iv 0, rv b1, rv b8, rv b19, rv b34, rv b205, iv 0] [(.int 0), (.int 0)] (fun t k => XS.iload X234.here hx rfl (hb hB at_146) rfl k) ?_
      refine oG T234 m 155 #[iv x0, iv x1, .val (.long x2), .second, iv 2, iv 0, rv b1, rv b8, rv b19, rv b34, rv b205, iv 0] [(.int 0)] (fun t k => XS.ifYes X234.here hx rfl (pc0 := 148) (pc' := 155) rfl (hb hB at_148) rfl ((if0 _ _).trans (flt (by decide)).2.2.2) (by decide) (by decide) k) ?_
      refine oG T234 m 156 #[iv x0, iv x1, .val (.long x2), .second, iv 2, iv 0, rv b1, rv b8, rv b19, rv b34, rv b205, iv 0] [(.int 0), (.int 0)] (fun t k => XS.iconst X234.here hx rfl (hb hB at_155) k) ?_
      refine oG T234 m 161 #[iv x0, iv x1, .val (.long x2), .second, iv 2, iv 0, rv b1, rv b8, rv b19, rv b34, rv b205, iv 0] [] (fun t k => XS.icmpYes X234.here hx rfl (pc0 := 156) (pc' := 161) rfl (hb hB at_156) rfl (teq (by decide)).1 (by decide) (by decide) k) ?_
      refine oG T234 m 163 #[iv x0, iv x1, .val (.long x2), .second, iv 2, iv 0, rv b1, rv b8, rv b19, rv b34, rv b205, iv 0] [(.int 2)] (fun t k => XS.iload X234.here hx rfl (hb hB at_161) rfl k) ?_
      refine oG T234 m 164 #[iv x0, iv x1, .val (.long x2), .second, iv 2, iv 0, rv b1, rv b8, rv b19, rv b34, rv b205, iv 0] [(.int 1), (.int 2)] (fun t k => XS.iconst X234.here hx rfl (hb hB at_163) k) ?_
      refine oG T234 m 167 #[iv x0, iv x1, .val (.long x2), .second, iv 2, iv 0, rv b1, rv b8, rv b19, rv b34, rv b205, iv 0] [] (fun t k => XS.icmpNo X234.here hx rfl (hb hB at_164) rfl (flt (by decide)).1 k) ?_
      refine oG T234 m 169 #[iv x0, iv x1, .val (.long x2), .second, iv 2, iv 0, rv b1, rv b8, rv b19, rv b34, rv b205, iv 0] [(.int 0)] (fun t k => XS.iload X234.here hx rfl (hb hB at_167) rfl k) ?_
      refine oG T234 m 171 #[iv x0, iv x1, .val (.long x2), .second, iv 2, iv 0, rv b1, rv b8, rv b19, rv b34, rv b205, iv 0] [(.ref b205), (.int 0)] (fun t k => XS.aload X234.here hx rfl (hb hB at_169) rfl rfl k) ?_
      refine oG T234 m 173 #[iv x0, iv x1, .val (.long x2), .second, iv 2, iv 0, rv b1, rv b8, rv b19, rv b34, rv b205, iv 0] [(.ref b1), (.ref b205), (.int 0)] (fun t k => XS.aload X234.here hx rfl (hb hB at_171) rfl rfl k) ?_
      obtain ⟨_, T235, L235, X235, ⟨rfl, Nq235, Kq235⟩, st235⟩ := own_virtual X234 hx hZ (y := (⟨OwnK1, "isOfBacklog", "(Lcom/example/newt/newt/core/delivery/Change;)Z"⟩ : MethodName)) (z := (⟨OwnK1, "isOfBacklog", "(Lcom/example/newt/newt/core/delivery/Change;)Z"⟩ : MethodName)) hown (oW hw 98 rfl) (oW hw 99 rfl) (notFace_of_selects (args := #[]) (mvT hZ (oW hw 101 rfl))) (oW hw 101 rfl) (oW hw 100 rfl) (oW hw 53 rfl) (oW hw 102 rfl) (by decide) (sp41 l Z a0 hw [] b205 b1 b34 w0_185 b8 x2 kw0_185 T219.heap n0 Z_219 fq1_219 fq0_219 cf222 cf223 cf228 cf229 cf230 cf232 cf231 fq3_185 cf224 (Ne.symm ne_b1_b205) (Ne.symm ne_b34_b205) (Ne.symm ne_w0_185_b205) (Ne.symm ne_b8_b205)) e234 cf233 1 (argsL := [(.ref b1)]) (rest := [(.int 0)]) (Ls := #[iv x0, iv x1, .val (.long x2), .second, iv 2, iv 0, rv b1, rv b8, rv b19, rv b34, rv b205, iv 0]) (by rw [hml]; rfl) (lenOf qQ20 rfl) rfl rfl (Nat.le_of_eq rfl) (hb hB at_173) (by decide) (by decide) (by decide) (by decide)
      have N235 := Fr.app N219 Nq235
      have cf236 := own_sta_keep cf220 Kq235
      have cf237 := cf221.keep Kq235 nin0
      have cf238 := cf222.keep Kq235
      have cf239 := cf223.keep Kq235 nin0
      have cf240 := cf224.keep Kq235
      have cf241 := cf225.keep Kq235 nin0
      have cf242 := cf226.keep Kq235
      have cf243 := cf227.keep Kq235 nin0
      have cf244 := cf228.keep Kq235
      have cf245 := cf229.keep Kq235 nin0
      have cf246 := cf230.keep Kq235 nin0
      have cf247 := cf231.keep Kq235 nin0
      have cf248 := cf232.keep Kq235 nin0
      have cf249 := cf233.keep Kq235
      have cf250 := fq0_219.keep Kq235 nin0
      have cf251 := fq1_219.keep Kq235 nin0
      have Z_235 : n0 ≤ T235.heap.size := Nat.le_trans Z_219 Kq235.1
      refine oG T235 m 176 #[iv x0, iv x1, .val (.long x2), .second, iv 2, iv 0, rv b1, rv b8, rv b19, rv b34, rv b205, iv 0] [(.int 1), (.int 0)] (st235) ?_
      refine oG T235 m 181 #[iv x0, iv x1, .val (.long x2), .second, iv 2, iv 0, rv b1, rv b8, rv b19, rv b34, rv b205, iv 0] [] (fun t k => XS.icmpYes X235.here hx rfl (pc0 := 176) (pc' := 181) rfl (hb hB at_176) rfl (feq (by decide)).2 (by decide) (by decide) k) ?_
      refine oG T235 m 182 #[iv x0, iv x1, .val (.long x2), .second, iv 2, iv 0, rv b1, rv b8, rv b19, rv b34, rv b205, iv 0] [(.int 1)] (fun t k => XS.iconst X235.here hx rfl (hb hB at_181) k) ?_
      refine own_retZ X235 hx hlk hret (by decide) (hb hB at_182) (by decide) (by decide) ?_
      exact ⟨rfl, N235⟩
    · rw [hm3]
      obtain ⟨T252, h252, X252, e252, E252, A252, D252, -, st252⟩ := newO X195 hx hZ hown (oW hw 51 rfl) (oW hw 52 rfl) (oW hw 53 rfl) rfl (g := (mkF m 124 #[iv x0, iv x1, .val (.long x2), .second, iv 2, iv 1, rv b1, rv b8, rv b19, rv b34, .unset, .unset] [])) rfl (hb hB at_124) (by decide) (by decide)
      obtain ⟨b252, g252⟩ : ∃ z, z = T195.heap.size := ⟨_, rfl⟩
      rw [← g252] at A252 D252 st252
      have ne_aE_b252 : aE ≠ b252 := Nat.ne_of_lt (Nat.lt_of_lt_of_eq cf197.lt g252.symm)
      have ne_b1_b252 : b1 ≠ b252 := Nat.ne_of_lt (Nat.lt_of_lt_of_eq cf198.lt g252.symm)
      have ne_b8_b252 : b8 ≠ b252 := Nat.ne_of_lt (Nat.lt_of_lt_of_eq cf200.lt g252.symm)
      have ne_b19_b252 : b19 ≠ b252 := Nat.ne_of_lt (Nat.lt_of_lt_of_eq cf202.lt g252.symm)
      have ne_b34_b252 : b34 ≠ b252 := Nat.ne_of_lt (Nat.lt_of_lt_of_eq cf204.lt g252.symm)
      have ne_w0_185_b252 : w0_185 ≠ b252 := Nat.ne_of_lt (Nat.lt_of_lt_of_eq fq2_195.lt g252.symm)
      have g_b252 : n0 ≤ b252 := Nat.le_trans Z_195 (Nat.le_of_eq g252.symm)
      have cf253 := cf196.ext E252
      have cf254 := cf197.ext E252
      have cf255 := cf198.ext E252
      have cf256 := cf199.ext E252
      have cf257 := cf200.ext E252
      have cf258 := cf201.ext E252
      have cf259 := cf202.ext E252
      have cf260 := cf203.ext E252
      have cf261 := cf204.ext E252
      have cf262 := fq0_195.ext E252
      have cf263 := fq1_195.ext E252
      have cf264 := fq2_195.ext E252
      have cf265 := fq3_195.ext E252
      have Z_252 : n0 ≤ h252.size := Nat.le_trans Z_195 E252.1
      have F_changes_252 : Fld Z h252 b252 OwnK1 "changes" "Ljava/util/List;" .null := D252 (Or.inr (oW hw 59 rfl)) (ty := (.object "java/util/List")) (by decide)
      have F_ahead_252 : Fld Z h252 b252 OwnK1 "ahead" "I" (.int 0) := D252 (Or.inr (oW hw 61 rfl)) (ty := .int) (by decide)
      refine oG T252 m 127 #[iv x0, iv x1, .val (.long x2), .second, iv 2, iv 1, rv b1, rv b8, rv b19, rv b34, .unset, .unset] [(.ref b252)] (st252) ?_
      refine oG T252 m 128 #[iv x0, iv x1, .val (.long x2), .second, iv 2, iv 1, rv b1, rv b8, rv b19, rv b34, .unset, .unset] [(.ref b252), (.ref b252)] (fun t k => XS.dup X252.here hx rfl (hb hB at_127) rfl rfl k) ?_
      refine oG T252 m 130 #[iv x0, iv x1, .val (.long x2), .second, iv 2, iv 1, rv b1, rv b8, rv b19, rv b34, .unset, .unset] [(.ref b34), (.ref b252), (.ref b252)] (fun t k => XS.aload X252.here hx rfl (hb hB at_128) rfl rfl k) ?_
      refine oG T252 m 132 #[iv x0, iv x1, .val (.long x2), .second, iv 2, iv 1, rv b1, rv b8, rv b19, rv b34, .unset, .unset] [(.int 1), (.ref b34), (.ref b252), (.ref b252)] (fun t k => XS.iload X252.here hx rfl (hb hB at_130) rfl k) ?_
      obtain ⟨_, T266, L266, X266, ⟨rfl, Nq266, Kq266, fq0_266, fq1_266⟩, st266⟩ := own_init X252 hx hZ (y := (⟨OwnK1, "<init>", "(Ljava/util/List;I)V"⟩ : MethodName)) rfl hown (oW hw 54 rfl) (oW hw 55 rfl) (oW hw 53 rfl) (oW hw 56 rfl) (by decide) (sp28 l Z a0 hw [] b252 b34 h252 n0 Z_252 A252 F_ahead_252 F_changes_252 (Ne.symm ne_b34_b252) g_b252) e252 (a := b252) 1 (argsL := [(.ref b34), (.int 1)]) (rest := [(.ref b252)]) (Ls := #[iv x0, iv x1, .val (.long x2), .second, iv 2, iv 1, rv b1, rv b8, rv b19, rv b34, .unset, .unset]) (by rw [hml]; rfl) (lenOf qQ40 rfl) rfl rfl (Nat.le_of_eq rfl) (hb hB at_132) (by decide) (by decide) (by decide) (by decide)
      have N266 := Fr.app N195 Nq266
      have cf267 := own_sta_keepL cf253 Kq266 (fun a cell h1 h2 => (ninS (own_sneE h1 h2 A252) nin0))
      have cf268 := cf254.keep Kq266 (ninS ne_aE_b252 nin0)
      have cf269 := cf255.keep Kq266
      have cf270 := cf256.keep Kq266 (ninS ne_b1_b252 nin0)
      have cf271 := cf257.keep Kq266
      have cf272 := cf258.keep Kq266 (ninS ne_b8_b252 nin0)
      have cf273 := cf259.keep Kq266
      have cf274 := cf260.keep Kq266 (ninS ne_b19_b252 nin0)
      have cf275 := cf261.keep Kq266
      have cf276 := cf262.keep Kq266 (ninS ne_b34_b252 nin0)
      have cf277 := cf263.keep Kq266 (ninS ne_b34_b252 nin0)
      have cf278 := cf264.keep Kq266 (ninS ne_w0_185_b252 nin0)
      have cf279 := cf265.keep Kq266 (ninS ne_b34_b252 nin0)
      have cf280 := A252.keep Kq266
      have Z_266 : n0 ≤ T266.heap.size := Nat.le_trans Z_252 Kq266.1
      refine oG T266 m 135 #[iv x0, iv x1, .val (.long x2), .second, iv 2, iv 1, rv b1, rv b8, rv b19, rv b34, .unset, .unset] [(.ref b252)] (st266) ?_
      refine oG T266 m 137 #[iv x0, iv x1, .val (.long x2), .second, iv 2, iv 1, rv b1, rv b8, rv b19, rv b34, rv b252, .unset] [] (fun t k => XS.astore X266.here hx rfl (hb hB at_135) rfl rfl rfl k) ?_
      refine oG T266 m 139 #[iv x0, iv x1, .val (.long x2), .second, iv 2, iv 1, rv b1, rv b8, rv b19, rv b34, rv b252, .unset] [(.ref b252)] (fun t k => XS.aload X266.here hx rfl (hb hB at_137) rfl rfl k) ?_
      obtain ⟨_, T281, L281, X281, ⟨rfl, e281, rfl⟩, st281⟩ := own_virtual X266 hx hZ (y := (⟨OwnK1, "hasAhead", "()Z"⟩ : MethodName)) (z := (⟨OwnK1, "hasAhead", "()Z"⟩ : MethodName)) hown (oW hw 62 rfl) (oW hw 63 rfl) (notFace_of_selects (args := #[]) (mvT hZ (oW hw 65 rfl))) (oW hw 65 rfl) (oW hw 64 rfl) (oW hw 53 rfl) (oW hw 66 rfl) (by decide) (sp29 l Z a0 hw [] b252 T266.heap n0 Z_266 fq1_266) rfl cf280 0 (argsL := []) (rest := []) (Ls := #[iv x0, iv x1, .val (.long x2), .second, iv 2, iv 1, rv b1, rv b8, rv b19, rv b34, rv b252, .unset]) (by rw [hml]; rfl) (lenOf qQ158 rfl) rfl rfl (Nat.le_of_eq rfl) (hb hB at_139) (by decide) (by decide) (by decide) (by decide)
      replace X281 := own_nil X281
      refine oG T281 m 142 #[iv x0, iv x1, .val (.long x2), .second, iv 2, iv 1, rv b1, rv b8, rv b19, rv b34, rv b252, .unset] [(.int 1)] (st281) ?_
      refine oG T281 m 144 #[iv x0, iv x1, .val (.long x2), .second, iv 2, iv 1, rv b1, rv b8, rv b19, rv b34, rv b252, iv 1] [] (fun t k => XS.istore X281.here hx rfl (hb hB at_142) rfl rfl k) ?_
      refine oG T281 m 146 #[iv x0, iv x1, .val (.long x2), .second, iv 2, iv 1, rv b1, rv b8, rv b19, rv b34, rv b252, iv 1] [(.int 1)] (fun t k => XS.iload X281.here hx rfl (hb hB at_144) rfl k) ?_
      refine oG T281 m 148 #[iv x0, iv x1, .val (.long x2), .second, iv 2, iv 1, rv b1, rv b8, rv b19, rv b34, rv b252, iv 1] [(.int 1), (.int 1)] (fun t k => XS.iload X281.here hx rfl (hb hB at_146) rfl k) ?_
      refine oG T281 m 151 #[iv x0, iv x1, .val (.long x2), .second, iv 2, iv 1, rv b1, rv b8, rv b19, rv b34, rv b252, iv 1] [(.int 1)] (fun t k => XS.ifNo X281.here hx rfl (hb hB at_148) rfl ((if0 _ _).trans (tlt (by decide)).2.2.2) k) ?_
      refine oG T281 m 152 #[iv x0, iv x1, .val (.long x2), .second, iv 2, iv 1, rv b1, rv b8, rv b19, rv b34, rv b252, iv 1] [(.int 1), (.int 1)] (fun t k => XS.iconst X281.here hx rfl (hb hB at_151) k) ?_
      refine oG T281 m 156 #[iv x0, iv x1, .val (.long x2), .second, iv 2, iv 1, rv b1, rv b8, rv b19, rv b34, rv b252, iv 1] [(.int 1), (.int 1)] (fun t k => XS.goto X281.here hx rfl (pc0 := 152) (pc' := 156) rfl (hb hB at_152) (by decide) (by decide) k) ?_
      refine oG T281 m 161 #[iv x0, iv x1, .val (.long x2), .second, iv 2, iv 1, rv b1, rv b8, rv b19, rv b34, rv b252, iv 1] [] (fun t k => XS.icmpYes X281.here hx rfl (pc0 := 156) (pc' := 161) rfl (hb hB at_156) rfl (teq (by decide)).1 (by decide) (by decide) k) ?_
      refine oG T281 m 163 #[iv x0, iv x1, .val (.long x2), .second, iv 2, iv 1, rv b1, rv b8, rv b19, rv b34, rv b252, iv 1] [(.int 2)] (fun t k => XS.iload X281.here hx rfl (hb hB at_161) rfl k) ?_
      refine oG T281 m 164 #[iv x0, iv x1, .val (.long x2), .second, iv 2, iv 1, rv b1, rv b8, rv b19, rv b34, rv b252, iv 1] [(.int 1), (.int 2)] (fun t k => XS.iconst X281.here hx rfl (hb hB at_163) k) ?_
      refine oG T281 m 167 #[iv x0, iv x1, .val (.long x2), .second, iv 2, iv 1, rv b1, rv b8, rv b19, rv b34, rv b252, iv 1] [] (fun t k => XS.icmpNo X281.here hx rfl (hb hB at_164) rfl (flt (by decide)).1 k) ?_
      refine oG T281 m 169 #[iv x0, iv x1, .val (.long x2), .second, iv 2, iv 1, rv b1, rv b8, rv b19, rv b34, rv b252, iv 1] [(.int 1)] (fun t k => XS.iload X281.here hx rfl (hb hB at_167) rfl k) ?_
      refine oG T281 m 171 #[iv x0, iv x1, .val (.long x2), .second, iv 2, iv 1, rv b1, rv b8, rv b19, rv b34, rv b252, iv 1] [(.ref b252), (.int 1)] (fun t k => XS.aload X281.here hx rfl (hb hB at_169) rfl rfl k) ?_
      refine oG T281 m 173 #[iv x0, iv x1, .val (.long x2), .second, iv 2, iv 1, rv b1, rv b8, rv b19, rv b34, rv b252, iv 1] [(.ref b1), (.ref b252), (.int 1)] (fun t k => XS.aload X281.here hx rfl (hb hB at_171) rfl rfl k) ?_
      obtain ⟨_, T282, L282, X282, ⟨rfl, Nq282, Kq282⟩, st282⟩ := own_virtual X281 hx hZ (y := (⟨OwnK1, "isOfBacklog", "(Lcom/example/newt/newt/core/delivery/Change;)Z"⟩ : MethodName)) (z := (⟨OwnK1, "isOfBacklog", "(Lcom/example/newt/newt/core/delivery/Change;)Z"⟩ : MethodName)) hown (oW hw 98 rfl) (oW hw 99 rfl) (notFace_of_selects (args := #[]) (mvT hZ (oW hw 101 rfl))) (oW hw 101 rfl) (oW hw 100 rfl) (oW hw 53 rfl) (oW hw 102 rfl) (by decide) (sp55 l Z a0 hw [] b252 b1 b34 w0_185 b8 x2 (x2 + (1 : Int64)) kw0_185 T266.heap n0 Z_266 fq1_266 fq0_266 cf269 cf270 cf275 cf276 cf277 cf279 cf278 fq3_185 cf271 cf272 (Ne.symm ne_b1_b252) (Ne.symm ne_b34_b252) (Ne.symm ne_w0_185_b252) (Ne.symm ne_b8_b252) (own_ne1 x2)) e281 cf280 1 (argsL := [(.ref b1)]) (rest := [(.int 1)]) (Ls := #[iv x0, iv x1, .val (.long x2), .second, iv 2, iv 1, rv b1, rv b8, rv b19, rv b34, rv b252, iv 1]) (by rw [hml]; rfl) (lenOf qQ20 rfl) rfl rfl (Nat.le_of_eq rfl) (hb hB at_173) (by decide) (by decide) (by decide) (by decide)
      have N282 := Fr.app N266 Nq282
      have cf283 := own_sta_keep cf267 Kq282
      have cf284 := cf268.keep Kq282 nin0
      have cf285 := cf269.keep Kq282
      have cf286 := cf270.keep Kq282 nin0
      have cf287 := cf271.keep Kq282
      have cf288 := cf272.keep Kq282 nin0
      have cf289 := cf273.keep Kq282
      have cf290 := cf274.keep Kq282 nin0
      have cf291 := cf275.keep Kq282
      have cf292 := cf276.keep Kq282 nin0
      have cf293 := cf277.keep Kq282 nin0
      have cf294 := cf278.keep Kq282 nin0
      have cf295 := cf279.keep Kq282 nin0
      have cf296 := cf280.keep Kq282
      have cf297 := fq0_266.keep Kq282 nin0
      have cf298 := fq1_266.keep Kq282 nin0
      have Z_282 : n0 ≤ T282.heap.size := Nat.le_trans Z_266 Kq282.1
      refine oG T282 m 176 #[iv x0, iv x1, .val (.long x2), .second, iv 2, iv 1, rv b1, rv b8, rv b19, rv b34, rv b252, iv 1] [(.int 0), (.int 1)] (st282) ?_
      refine oG T282 m 181 #[iv x0, iv x1, .val (.long x2), .second, iv 2, iv 1, rv b1, rv b8, rv b19, rv b34, rv b252, iv 1] [] (fun t k => XS.icmpYes X282.here hx rfl (pc0 := 176) (pc' := 181) rfl (hb hB at_176) rfl (feq (by decide)).2 (by decide) (by decide) k) ?_
      refine oG T282 m 182 #[iv x0, iv x1, .val (.long x2), .second, iv 2, iv 1, rv b1, rv b8, rv b19, rv b34, rv b252, iv 1] [(.int 1)] (fun t k => XS.iconst X282.here hx rfl (hb hB at_181) k) ?_
      refine own_retZ X282 hx hlk hret (by decide) (hb hB at_182) (by decide) (by decide) ?_
      exact ⟨rfl, N282⟩
    · rw [hm3]
      obtain ⟨T299, h299, X299, e299, E299, A299, D299, -, st299⟩ := newO X195 hx hZ hown (oW hw 51 rfl) (oW hw 52 rfl) (oW hw 53 rfl) rfl (g := (mkF m 124 #[iv x0, iv x1, .val (.long x2), .second, iv 2, iv 2, rv b1, rv b8, rv b19, rv b34, .unset, .unset] [])) rfl (hb hB at_124) (by decide) (by decide)
      obtain ⟨b299, g299⟩ : ∃ z, z = T195.heap.size := ⟨_, rfl⟩
      rw [← g299] at A299 D299 st299
      have ne_aE_b299 : aE ≠ b299 := Nat.ne_of_lt (Nat.lt_of_lt_of_eq cf197.lt g299.symm)
      have ne_b1_b299 : b1 ≠ b299 := Nat.ne_of_lt (Nat.lt_of_lt_of_eq cf198.lt g299.symm)
      have ne_b8_b299 : b8 ≠ b299 := Nat.ne_of_lt (Nat.lt_of_lt_of_eq cf200.lt g299.symm)
      have ne_b19_b299 : b19 ≠ b299 := Nat.ne_of_lt (Nat.lt_of_lt_of_eq cf202.lt g299.symm)
      have ne_b34_b299 : b34 ≠ b299 := Nat.ne_of_lt (Nat.lt_of_lt_of_eq cf204.lt g299.symm)
      have ne_w0_185_b299 : w0_185 ≠ b299 := Nat.ne_of_lt (Nat.lt_of_lt_of_eq fq2_195.lt g299.symm)
      have g_b299 : n0 ≤ b299 := Nat.le_trans Z_195 (Nat.le_of_eq g299.symm)
      have cf300 := cf196.ext E299
      have cf301 := cf197.ext E299
      have cf302 := cf198.ext E299
      have cf303 := cf199.ext E299
      have cf304 := cf200.ext E299
      have cf305 := cf201.ext E299
      have cf306 := cf202.ext E299
      have cf307 := cf203.ext E299
      have cf308 := cf204.ext E299
      have cf309 := fq0_195.ext E299
      have cf310 := fq1_195.ext E299
      have cf311 := fq2_195.ext E299
      have cf312 := fq3_195.ext E299
      have Z_299 : n0 ≤ h299.size := Nat.le_trans Z_195 E299.1
      have F_changes_299 : Fld Z h299 b299 OwnK1 "changes" "Ljava/util/List;" .null := D299 (Or.inr (oW hw 59 rfl)) (ty := (.object "java/util/List")) (by decide)
      have F_ahead_299 : Fld Z h299 b299 OwnK1 "ahead" "I" (.int 0) := D299 (Or.inr (oW hw 61 rfl)) (ty := .int) (by decide)
      refine oG T299 m 127 #[iv x0, iv x1, .val (.long x2), .second, iv 2, iv 2, rv b1, rv b8, rv b19, rv b34, .unset, .unset] [(.ref b299)] (st299) ?_
      refine oG T299 m 128 #[iv x0, iv x1, .val (.long x2), .second, iv 2, iv 2, rv b1, rv b8, rv b19, rv b34, .unset, .unset] [(.ref b299), (.ref b299)] (fun t k => XS.dup X299.here hx rfl (hb hB at_127) rfl rfl k) ?_
      refine oG T299 m 130 #[iv x0, iv x1, .val (.long x2), .second, iv 2, iv 2, rv b1, rv b8, rv b19, rv b34, .unset, .unset] [(.ref b34), (.ref b299), (.ref b299)] (fun t k => XS.aload X299.here hx rfl (hb hB at_128) rfl rfl k) ?_
      refine oG T299 m 132 #[iv x0, iv x1, .val (.long x2), .second, iv 2, iv 2, rv b1, rv b8, rv b19, rv b34, .unset, .unset] [(.int 2), (.ref b34), (.ref b299), (.ref b299)] (fun t k => XS.iload X299.here hx rfl (hb hB at_130) rfl k) ?_
      obtain ⟨_, T313, L313, X313, ⟨rfl, Nq313, Kq313, fq0_313, fq1_313⟩, st313⟩ := own_init X299 hx hZ (y := (⟨OwnK1, "<init>", "(Ljava/util/List;I)V"⟩ : MethodName)) rfl hown (oW hw 54 rfl) (oW hw 55 rfl) (oW hw 53 rfl) (oW hw 56 rfl) (by decide) (sp64 l Z a0 hw [] b299 b34 h299 n0 Z_299 A299 F_ahead_299 F_changes_299 (Ne.symm ne_b34_b299) g_b299) e299 (a := b299) 1 (argsL := [(.ref b34), (.int 2)]) (rest := [(.ref b299)]) (Ls := #[iv x0, iv x1, .val (.long x2), .second, iv 2, iv 2, rv b1, rv b8, rv b19, rv b34, .unset, .unset]) (by rw [hml]; rfl) (lenOf qQ40 rfl) rfl rfl (Nat.le_of_eq rfl) (hb hB at_132) (by decide) (by decide) (by decide) (by decide)
      have N313 := Fr.app N195 Nq313
      have cf314 := own_sta_keepL cf300 Kq313 (fun a cell h1 h2 => (ninS (own_sneE h1 h2 A299) nin0))
      have cf315 := cf301.keep Kq313 (ninS ne_aE_b299 nin0)
      have cf316 := cf302.keep Kq313
      have cf317 := cf303.keep Kq313 (ninS ne_b1_b299 nin0)
      have cf318 := cf304.keep Kq313
      have cf319 := cf305.keep Kq313 (ninS ne_b8_b299 nin0)
      have cf320 := cf306.keep Kq313
      have cf321 := cf307.keep Kq313 (ninS ne_b19_b299 nin0)
      have cf322 := cf308.keep Kq313
      have cf323 := cf309.keep Kq313 (ninS ne_b34_b299 nin0)
      have cf324 := cf310.keep Kq313 (ninS ne_b34_b299 nin0)
      have cf325 := cf311.keep Kq313 (ninS ne_w0_185_b299 nin0)
      have cf326 := cf312.keep Kq313 (ninS ne_b34_b299 nin0)
      have cf327 := A299.keep Kq313
      have Z_313 : n0 ≤ T313.heap.size := Nat.le_trans Z_299 Kq313.1
      refine oG T313 m 135 #[iv x0, iv x1, .val (.long x2), .second, iv 2, iv 2, rv b1, rv b8, rv b19, rv b34, .unset, .unset] [(.ref b299)] (st313) ?_
      refine oG T313 m 137 #[iv x0, iv x1, .val (.long x2), .second, iv 2, iv 2, rv b1, rv b8, rv b19, rv b34, rv b299, .unset] [] (fun t k => XS.astore X313.here hx rfl (hb hB at_135) rfl rfl rfl k) ?_
      refine oG T313 m 139 #[iv x0, iv x1, .val (.long x2), .second, iv 2, iv 2, rv b1, rv b8, rv b19, rv b34, rv b299, .unset] [(.ref b299)] (fun t k => XS.aload X313.here hx rfl (hb hB at_137) rfl rfl k) ?_
      obtain ⟨_, T328, L328, X328, ⟨rfl, e328, rfl⟩, st328⟩ := own_virtual X313 hx hZ (y := (⟨OwnK1, "hasAhead", "()Z"⟩ : MethodName)) (z := (⟨OwnK1, "hasAhead", "()Z"⟩ : MethodName)) hown (oW hw 62 rfl) (oW hw 63 rfl) (notFace_of_selects (args := #[]) (mvT hZ (oW hw 65 rfl))) (oW hw 65 rfl) (oW hw 64 rfl) (oW hw 53 rfl) (oW hw 66 rfl) (by decide) (sp65 l Z a0 hw [] b299 T313.heap n0 Z_313 fq1_313) rfl cf327 0 (argsL := []) (rest := []) (Ls := #[iv x0, iv x1, .val (.long x2), .second, iv 2, iv 2, rv b1, rv b8, rv b19, rv b34, rv b299, .unset]) (by rw [hml]; rfl) (lenOf qQ158 rfl) rfl rfl (Nat.le_of_eq rfl) (hb hB at_139) (by decide) (by decide) (by decide) (by decide)
      replace X328 := own_nil X328
      refine oG T328 m 142 #[iv x0, iv x1, .val (.long x2), .second, iv 2, iv 2, rv b1, rv b8, rv b19, rv b34, rv b299, .unset] [(.int 1)] (st328) ?_
      refine oG T328 m 144 #[iv x0, iv x1, .val (.long x2), .second, iv 2, iv 2, rv b1, rv b8, rv b19, rv b34, rv b299, iv 1] [] (fun t k => XS.istore X328.here hx rfl (hb hB at_142) rfl rfl k) ?_
      refine oG T328 m 146 #[iv x0, iv x1, .val (.long x2), .second, iv 2, iv 2, rv b1, rv b8, rv b19, rv b34, rv b299, iv 1] [(.int 1)] (fun t k => XS.iload X328.here hx rfl (hb hB at_144) rfl k) ?_
      refine oG T328 m 148 #[iv x0, iv x1, .val (.long x2), .second, iv 2, iv 2, rv b1, rv b8, rv b19, rv b34, rv b299, iv 1] [(.int 2), (.int 1)] (fun t k => XS.iload X328.here hx rfl (hb hB at_146) rfl k) ?_
      refine oG T328 m 151 #[iv x0, iv x1, .val (.long x2), .second, iv 2, iv 2, rv b1, rv b8, rv b19, rv b34, rv b299, iv 1] [(.int 1)] (fun t k => XS.ifNo X328.here hx rfl (hb hB at_148) rfl ((if0 _ _).trans (tlt (by decide)).2.2.2) k) ?_
      refine oG T328 m 152 #[iv x0, iv x1, .val (.long x2), .second, iv 2, iv 2, rv b1, rv b8, rv b19, rv b34, rv b299, iv 1] [(.int 1), (.int 1)] (fun t k => XS.iconst X328.here hx rfl (hb hB at_151) k) ?_
      refine oG T328 m 156 #[iv x0, iv x1, .val (.long x2), .second, iv 2, iv 2, rv b1, rv b8, rv b19, rv b34, rv b299, iv 1] [(.int 1), (.int 1)] (fun t k => XS.goto X328.here hx rfl (pc0 := 152) (pc' := 156) rfl (hb hB at_152) (by decide) (by decide) k) ?_
      refine oG T328 m 161 #[iv x0, iv x1, .val (.long x2), .second, iv 2, iv 2, rv b1, rv b8, rv b19, rv b34, rv b299, iv 1] [] (fun t k => XS.icmpYes X328.here hx rfl (pc0 := 156) (pc' := 161) rfl (hb hB at_156) rfl (teq (by decide)).1 (by decide) (by decide) k) ?_
      refine oG T328 m 163 #[iv x0, iv x1, .val (.long x2), .second, iv 2, iv 2, rv b1, rv b8, rv b19, rv b34, rv b299, iv 1] [(.int 2)] (fun t k => XS.iload X328.here hx rfl (hb hB at_161) rfl k) ?_
      refine oG T328 m 164 #[iv x0, iv x1, .val (.long x2), .second, iv 2, iv 2, rv b1, rv b8, rv b19, rv b34, rv b299, iv 1] [(.int 1), (.int 2)] (fun t k => XS.iconst X328.here hx rfl (hb hB at_163) k) ?_
      refine oG T328 m 167 #[iv x0, iv x1, .val (.long x2), .second, iv 2, iv 2, rv b1, rv b8, rv b19, rv b34, rv b299, iv 1] [] (fun t k => XS.icmpNo X328.here hx rfl (hb hB at_164) rfl (flt (by decide)).1 k) ?_
      refine oG T328 m 169 #[iv x0, iv x1, .val (.long x2), .second, iv 2, iv 2, rv b1, rv b8, rv b19, rv b34, rv b299, iv 1] [(.int 1)] (fun t k => XS.iload X328.here hx rfl (hb hB at_167) rfl k) ?_
      refine oG T328 m 171 #[iv x0, iv x1, .val (.long x2), .second, iv 2, iv 2, rv b1, rv b8, rv b19, rv b34, rv b299, iv 1] [(.ref b299), (.int 1)] (fun t k => XS.aload X328.here hx rfl (hb hB at_169) rfl rfl k) ?_
      refine oG T328 m 173 #[iv x0, iv x1, .val (.long x2), .second, iv 2, iv 2, rv b1, rv b8, rv b19, rv b34, rv b299, iv 1] [(.ref b1), (.ref b299), (.int 1)] (fun t k => XS.aload X328.here hx rfl (hb hB at_171) rfl rfl k) ?_
      obtain ⟨_, T329, L329, X329, ⟨rfl, Nq329, Kq329⟩, st329⟩ := own_virtual X328 hx hZ (y := (⟨OwnK1, "isOfBacklog", "(Lcom/example/newt/newt/core/delivery/Change;)Z"⟩ : MethodName)) (z := (⟨OwnK1, "isOfBacklog", "(Lcom/example/newt/newt/core/delivery/Change;)Z"⟩ : MethodName)) hown (oW hw 98 rfl) (oW hw 99 rfl) (notFace_of_selects (args := #[]) (mvT hZ (oW hw 101 rfl))) (oW hw 101 rfl) (oW hw 100 rfl) (oW hw 53 rfl) (oW hw 102 rfl) (by decide) (sp66 l Z a0 hw [] b299 b1 b34 T313.heap n0 Z_313 fq1_313 fq0_313 cf316 cf322 cf324 cf326 (Ne.symm ne_b1_b299) (Ne.symm ne_b34_b299)) e328 cf327 1 (argsL := [(.ref b1)]) (rest := [(.int 1)]) (Ls := #[iv x0, iv x1, .val (.long x2), .second, iv 2, iv 2, rv b1, rv b8, rv b19, rv b34, rv b299, iv 1]) (by rw [hml]; rfl) (lenOf qQ20 rfl) rfl rfl (Nat.le_of_eq rfl) (hb hB at_173) (by decide) (by decide) (by decide) (by decide)
      have N329 := Fr.app N313 Nq329
      have cf330 := own_sta_keep cf314 Kq329
      have cf331 := cf315.keep Kq329 nin0
      have cf332 := cf316.keep Kq329
      have cf333 := cf317.keep Kq329 nin0
      have cf334 := cf318.keep Kq329
      have cf335 := cf319.keep Kq329 nin0
      have cf336 := cf320.keep Kq329
      have cf337 := cf321.keep Kq329 nin0
      have cf338 := cf322.keep Kq329
      have cf339 := cf323.keep Kq329 nin0
      have cf340 := cf324.keep Kq329 nin0
      have cf341 := cf325.keep Kq329 nin0
      have cf342 := cf326.keep Kq329 nin0
      have cf343 := cf327.keep Kq329
      have cf344 := fq0_313.keep Kq329 nin0
      have cf345 := fq1_313.keep Kq329 nin0
      have Z_329 : n0 ≤ T329.heap.size := Nat.le_trans Z_313 Kq329.1
      refine oG T329 m 176 #[iv x0, iv x1, .val (.long x2), .second, iv 2, iv 2, rv b1, rv b8, rv b19, rv b34, rv b299, iv 1] [(.int 0), (.int 1)] (st329) ?_
      refine oG T329 m 181 #[iv x0, iv x1, .val (.long x2), .second, iv 2, iv 2, rv b1, rv b8, rv b19, rv b34, rv b299, iv 1] [] (fun t k => XS.icmpYes X329.here hx rfl (pc0 := 176) (pc' := 181) rfl (hb hB at_176) rfl (feq (by decide)).2 (by decide) (by decide) k) ?_
      refine oG T329 m 182 #[iv x0, iv x1, .val (.long x2), .second, iv 2, iv 2, rv b1, rv b8, rv b19, rv b34, rv b299, iv 1] [(.int 1)] (fun t k => XS.iconst X329.here hx rfl (hb hB at_181) k) ?_
      refine own_retZ X329 hx hlk hret (by decide) (hb hB at_182) (by decide) (by decide) ?_
      exact ⟨rfl, N329⟩
  · rw [hn3]
    refine oG T43 m 84 #[iv x0, iv x1, .val (.long x2), .second, iv 3, iv ((x1 &&& (2147483647 : Int32)) % ((3 : Int32) + (1 : Int32))), rv b1, rv b8, rv b19, rv b34, .unset, .unset] [(.int 3)] (fun t k => XS.iload X43.here hx rfl (hb hB at_82) rfl k) ?_
    refine oG T43 m 85 #[iv x0, iv x1, .val (.long x2), .second, iv 3, iv ((x1 &&& (2147483647 : Int32)) % ((3 : Int32) + (1 : Int32))), rv b1, rv b8, rv b19, rv b34, .unset, .unset] [(.int 1), (.int 3)] (fun t k => XS.iconst X43.here hx rfl (hb hB at_84) k) ?_
    refine oG T43 m 88 #[iv x0, iv x1, .val (.long x2), .second, iv 3, iv ((x1 &&& (2147483647 : Int32)) % ((3 : Int32) + (1 : Int32))), rv b1, rv b8, rv b19, rv b34, .unset, .unset] [] (fun t k => XS.icmpNo X43.here hx rfl (hb hB at_85) rfl (flt (by decide)).1 k) ?_
    refine oG T43 m 90 #[iv x0, iv x1, .val (.long x2), .second, iv 3, iv ((x1 &&& (2147483647 : Int32)) % ((3 : Int32) + (1 : Int32))), rv b1, rv b8, rv b19, rv b34, .unset, .unset] [(.ref b34)] (fun t k => XS.aload X43.here hx rfl (hb hB at_88) rfl rfl k) ?_
    refine oG T43 m 92 #[iv x0, iv x1, .val (.long x2), .second, iv 3, iv ((x1 &&& (2147483647 : Int32)) % ((3 : Int32) + (1 : Int32))), rv b1, rv b8, rv b19, rv b34, .unset, .unset] [(.ref b1), (.ref b34)] (fun t k => XS.aload X43.here hx rfl (hb hB at_90) rfl rfl k) ?_
    obtain ⟨_, T346, L346, X346, ⟨w0_346, kw0_346, rfl, Nq346, Kq346, syw0_346, fq0_346, fq1_346, fq2_346, fq3_346, fq4_346⟩, st346⟩ := own_virtual X43 hx hZ (y := (⟨OwnK4, "add", "(Ljava/lang/Object;)Z"⟩ : MethodName)) (z := (⟨OwnK4, "add", "(Ljava/lang/Object;)Z"⟩ : MethodName)) hown (oW hw 67 rfl) (oW hw 68 rfl) (notFace_of_selects (args := #[]) (mvT hZ (oW hw 70 rfl))) (oW hw 70 rfl) (oW hw 69 rfl) (oW hw 29 rfl) (oW hw 71 rfl) (by decide) (sp7 l Z a0 hw [] b34 b1 aE kE T43.heap n0 Z_43 cf52 fq2_43 fq1_43 fq0_43 cf46 cf45 cf44 (Ne.symm ne_b1_b34) (Ne.symm ne_aE_b34) (Ne.symm ne_aE_b1) g_b34) rfl cf52 0 (argsL := [(.ref b1)]) (rest := []) (Ls := #[iv x0, iv x1, .val (.long x2), .second, iv 3, iv ((x1 &&& (2147483647 : Int32)) % ((3 : Int32) + (1 : Int32))), rv b1, rv b8, rv b19, rv b34, .unset, .unset]) (by rw [hml]; rfl) (lenOf qQ36 rfl) rfl rfl (Nat.le_of_eq rfl) (hb hB at_92) (by decide) (by decide) (by decide) (by decide)
    have g_w0_346 : n0 ≤ w0_346 := syw0_346.2
    have ne_aE_w0_346 : aE ≠ w0_346 := Nat.ne_of_lt (Nat.lt_of_lt_of_le cf45.lt syw0_346.1)
    have ne_b1_w0_346 : b1 ≠ w0_346 := Nat.ne_of_lt (Nat.lt_of_lt_of_le cf46.lt syw0_346.1)
    have ne_b8_w0_346 : b8 ≠ w0_346 := Nat.ne_of_lt (Nat.lt_of_lt_of_le cf48.lt syw0_346.1)
    have ne_b19_w0_346 : b19 ≠ w0_346 := Nat.ne_of_lt (Nat.lt_of_lt_of_le cf50.lt syw0_346.1)
    have ne_b34_w0_346 : b34 ≠ w0_346 := Nat.ne_of_lt (Nat.lt_of_lt_of_le cf52.lt syw0_346.1)
    have N346 := Fr.app N43 Nq346
    have cf347 := own_sta_keepL cf44 Kq346 (fun a cell h1 h2 => (ninS (own_sneE h1 h2 cf52) nin0))
    have cf348 := cf45.keep Kq346 (ninS ne_aE_b34 nin0)
    have cf349 := cf46.keep Kq346
    have cf350 := cf47.keep Kq346 (ninS ne_b1_b34 nin0)
    have cf351 := cf48.keep Kq346
    have cf352 := cf49.keep Kq346 (ninS ne_b8_b34 nin0)
    have cf353 := cf50.keep Kq346
    have cf354 := cf51.keep Kq346 (ninS ne_b19_b34 nin0)
    have cf355 := cf52.keep Kq346
    have Z_346 : n0 ≤ T346.heap.size := Nat.le_trans Z_43 Kq346.1
    refine oG T346 m 95 #[iv x0, iv x1, .val (.long x2), .second, iv 3, iv ((x1 &&& (2147483647 : Int32)) % ((3 : Int32) + (1 : Int32))), rv b1, rv b8, rv b19, rv b34, .unset, .unset] [(.int 1)] (st346) ?_
    refine oG T346 m 96 #[iv x0, iv x1, .val (.long x2), .second, iv 3, iv ((x1 &&& (2147483647 : Int32)) % ((3 : Int32) + (1 : Int32))), rv b1, rv b8, rv b19, rv b34, .unset, .unset] [] (fun t k => XS.pop X346.here hx rfl (hb hB at_95) rfl rfl k) ?_
    refine oG T346 m 98 #[iv x0, iv x1, .val (.long x2), .second, iv 3, iv ((x1 &&& (2147483647 : Int32)) % ((3 : Int32) + (1 : Int32))), rv b1, rv b8, rv b19, rv b34, .unset, .unset] [(.int 3)] (fun t k => XS.iload X346.here hx rfl (hb hB at_96) rfl k) ?_
    refine oG T346 m 99 #[iv x0, iv x1, .val (.long x2), .second, iv 3, iv ((x1 &&& (2147483647 : Int32)) % ((3 : Int32) + (1 : Int32))), rv b1, rv b8, rv b19, rv b34, .unset, .unset] [(.int 2), (.int 3)] (fun t k => XS.iconst X346.here hx rfl (hb hB at_98) k) ?_
    refine oG T346 m 102 #[iv x0, iv x1, .val (.long x2), .second, iv 3, iv ((x1 &&& (2147483647 : Int32)) % ((3 : Int32) + (1 : Int32))), rv b1, rv b8, rv b19, rv b34, .unset, .unset] [] (fun t k => XS.icmpNo X346.here hx rfl (hb hB at_99) rfl (flt (by decide)).1 k) ?_
    refine oG T346 m 104 #[iv x0, iv x1, .val (.long x2), .second, iv 3, iv ((x1 &&& (2147483647 : Int32)) % ((3 : Int32) + (1 : Int32))), rv b1, rv b8, rv b19, rv b34, .unset, .unset] [(.ref b34)] (fun t k => XS.aload X346.here hx rfl (hb hB at_102) rfl rfl k) ?_
    refine oG T346 m 106 #[iv x0, iv x1, .val (.long x2), .second, iv 3, iv ((x1 &&& (2147483647 : Int32)) % ((3 : Int32) + (1 : Int32))), rv b1, rv b8, rv b19, rv b34, .unset, .unset] [(.ref b8), (.ref b34)] (fun t k => XS.aload X346.here hx rfl (hb hB at_104) rfl rfl k) ?_
    obtain ⟨_, T356, L356, X356, ⟨rfl, Nq356, Kq356, fq0_356, fq1_356, fq2_356, fq3_356⟩, st356⟩ := own_virtual X346 hx hZ (y := (⟨OwnK4, "add", "(Ljava/lang/Object;)Z"⟩ : MethodName)) (z := (⟨OwnK4, "add", "(Ljava/lang/Object;)Z"⟩ : MethodName)) hown (oW hw 67 rfl) (oW hw 68 rfl) (notFace_of_selects (args := #[]) (mvT hZ (oW hw 70 rfl))) (oW hw 70 rfl) (oW hw 69 rfl) (oW hw 29 rfl) (oW hw 71 rfl) (by decide) (sp39 l Z a0 hw [] b34 b8 w0_346 b1 kw0_346 T346.heap n0 Z_346 cf355 fq1_346 fq0_346 fq4_346 cf351 fq2_346 fq3_346 cf349 (Ne.symm ne_b8_b34) ne_b34_w0_346 (Ne.symm ne_b1_b34) ne_b8_w0_346 (Ne.symm ne_b1_w0_346) g_b34 g_w0_346) rfl cf355 0 (argsL := [(.ref b8)]) (rest := []) (Ls := #[iv x0, iv x1, .val (.long x2), .second, iv 3, iv ((x1 &&& (2147483647 : Int32)) % ((3 : Int32) + (1 : Int32))), rv b1, rv b8, rv b19, rv b34, .unset, .unset]) (by rw [hml]; rfl) (lenOf qQ36 rfl) rfl rfl (Nat.le_of_eq rfl) (hb hB at_106) (by decide) (by decide) (by decide) (by decide)
    have N356 := Fr.app N346 Nq356
    have cf357 := own_sta_keepL cf347 Kq356 (fun a cell h1 h2 => (ninS (own_sneE h1 h2 cf355) (ninS (own_sneA h1 h2 fq2_346) nin0)))
    have cf358 := cf348.keep Kq356 (ninS ne_aE_b34 (ninS ne_aE_w0_346 nin0))
    have cf359 := cf349.keep Kq356
    have cf360 := cf350.keep Kq356 (ninS ne_b1_b34 (ninS ne_b1_w0_346 nin0))
    have cf361 := cf351.keep Kq356
    have cf362 := cf352.keep Kq356 (ninS ne_b8_b34 (ninS ne_b8_w0_346 nin0))
    have cf363 := cf353.keep Kq356
    have cf364 := cf354.keep Kq356 (ninS ne_b19_b34 (ninS ne_b19_w0_346 nin0))
    have cf365 := cf355.keep Kq356
    have Z_356 : n0 ≤ T356.heap.size := Nat.le_trans Z_346 Kq356.1
    refine oG T356 m 109 #[iv x0, iv x1, .val (.long x2), .second, iv 3, iv ((x1 &&& (2147483647 : Int32)) % ((3 : Int32) + (1 : Int32))), rv b1, rv b8, rv b19, rv b34, .unset, .unset] [(.int 1)] (st356) ?_
    refine oG T356 m 110 #[iv x0, iv x1, .val (.long x2), .second, iv 3, iv ((x1 &&& (2147483647 : Int32)) % ((3 : Int32) + (1 : Int32))), rv b1, rv b8, rv b19, rv b34, .unset, .unset] [] (fun t k => XS.pop X356.here hx rfl (hb hB at_109) rfl rfl k) ?_
    refine oG T356 m 112 #[iv x0, iv x1, .val (.long x2), .second, iv 3, iv ((x1 &&& (2147483647 : Int32)) % ((3 : Int32) + (1 : Int32))), rv b1, rv b8, rv b19, rv b34, .unset, .unset] [(.int 3)] (fun t k => XS.iload X356.here hx rfl (hb hB at_110) rfl k) ?_
    refine oG T356 m 113 #[iv x0, iv x1, .val (.long x2), .second, iv 3, iv ((x1 &&& (2147483647 : Int32)) % ((3 : Int32) + (1 : Int32))), rv b1, rv b8, rv b19, rv b34, .unset, .unset] [(.int 3), (.int 3)] (fun t k => XS.iconst X356.here hx rfl (hb hB at_112) k) ?_
    refine oG T356 m 116 #[iv x0, iv x1, .val (.long x2), .second, iv 3, iv ((x1 &&& (2147483647 : Int32)) % ((3 : Int32) + (1 : Int32))), rv b1, rv b8, rv b19, rv b34, .unset, .unset] [] (fun t k => XS.icmpNo X356.here hx rfl (hb hB at_113) rfl (flt (by decide)).1 k) ?_
    refine oG T356 m 118 #[iv x0, iv x1, .val (.long x2), .second, iv 3, iv ((x1 &&& (2147483647 : Int32)) % ((3 : Int32) + (1 : Int32))), rv b1, rv b8, rv b19, rv b34, .unset, .unset] [(.ref b34)] (fun t k => XS.aload X356.here hx rfl (hb hB at_116) rfl rfl k) ?_
    refine oG T356 m 120 #[iv x0, iv x1, .val (.long x2), .second, iv 3, iv ((x1 &&& (2147483647 : Int32)) % ((3 : Int32) + (1 : Int32))), rv b1, rv b8, rv b19, rv b34, .unset, .unset] [(.ref b19), (.ref b34)] (fun t k => XS.aload X356.here hx rfl (hb hB at_118) rfl rfl k) ?_
    obtain ⟨_, T366, L366, X366, ⟨rfl, Nq366, Kq366, fq0_366, fq1_366, fq2_366, fq3_366⟩, st366⟩ := own_virtual X356 hx hZ (y := (⟨OwnK4, "add", "(Ljava/lang/Object;)Z"⟩ : MethodName)) (z := (⟨OwnK4, "add", "(Ljava/lang/Object;)Z"⟩ : MethodName)) hown (oW hw 67 rfl) (oW hw 68 rfl) (notFace_of_selects (args := #[]) (mvT hZ (oW hw 70 rfl))) (oW hw 70 rfl) (oW hw 69 rfl) (oW hw 29 rfl) (oW hw 71 rfl) (by decide) (sp73 l Z a0 hw [] b34 b19 w0_346 b1 b8 kw0_346 T356.heap n0 Z_356 cf365 fq0_356 fq1_356 fq3_356 cf363 fq2_356 fq3_346 cf359 cf361 (Ne.symm ne_b19_b34) ne_b34_w0_346 (Ne.symm ne_b1_b34) (Ne.symm ne_b8_b34) ne_b19_w0_346 (Ne.symm ne_b1_w0_346) (Ne.symm ne_b8_w0_346) g_b34 g_w0_346) rfl cf365 0 (argsL := [(.ref b19)]) (rest := []) (Ls := #[iv x0, iv x1, .val (.long x2), .second, iv 3, iv ((x1 &&& (2147483647 : Int32)) % ((3 : Int32) + (1 : Int32))), rv b1, rv b8, rv b19, rv b34, .unset, .unset]) (by rw [hml]; rfl) (lenOf qQ36 rfl) rfl rfl (Nat.le_of_eq rfl) (hb hB at_120) (by decide) (by decide) (by decide) (by decide)
    have N366 := Fr.app N356 Nq366
    have cf367 := own_sta_keepL cf357 Kq366 (fun a cell h1 h2 => (ninS (own_sneE h1 h2 cf365) (ninS (own_sneA h1 h2 fq2_356) nin0)))
    have cf368 := cf358.keep Kq366 (ninS ne_aE_b34 (ninS ne_aE_w0_346 nin0))
    have cf369 := cf359.keep Kq366
    have cf370 := cf360.keep Kq366 (ninS ne_b1_b34 (ninS ne_b1_w0_346 nin0))
    have cf371 := cf361.keep Kq366
    have cf372 := cf362.keep Kq366 (ninS ne_b8_b34 (ninS ne_b8_w0_346 nin0))
    have cf373 := cf363.keep Kq366
    have cf374 := cf364.keep Kq366 (ninS ne_b19_b34 (ninS ne_b19_w0_346 nin0))
    have cf375 := cf365.keep Kq366
    have Z_366 : n0 ≤ T366.heap.size := Nat.le_trans Z_356 Kq366.1
    refine oG T366 m 123 #[iv x0, iv x1, .val (.long x2), .second, iv 3, iv ((x1 &&& (2147483647 : Int32)) % ((3 : Int32) + (1 : Int32))), rv b1, rv b8, rv b19, rv b34, .unset, .unset] [(.int 1)] (st366) ?_
    refine oG T366 m 124 #[iv x0, iv x1, .val (.long x2), .second, iv 3, iv ((x1 &&& (2147483647 : Int32)) % ((3 : Int32) + (1 : Int32))), rv b1, rv b8, rv b19, rv b34, .unset, .unset] [] (fun t k => XS.pop X366.here hx rfl (hb hB at_123) rfl rfl k) ?_
    rcases own_md4 x1 with hm3 | hm3 | hm3 | hm3
    · rw [hm3]
      obtain ⟨T376, h376, X376, e376, E376, A376, D376, -, st376⟩ := newO X366 hx hZ hown (oW hw 51 rfl) (oW hw 52 rfl) (oW hw 53 rfl) rfl (g := (mkF m 124 #[iv x0, iv x1, .val (.long x2), .second, iv 3, iv 0, rv b1, rv b8, rv b19, rv b34, .unset, .unset] [])) rfl (hb hB at_124) (by decide) (by decide)
      obtain ⟨b376, g376⟩ : ∃ z, z = T366.heap.size := ⟨_, rfl⟩
      rw [← g376] at A376 D376 st376
      have ne_aE_b376 : aE ≠ b376 := Nat.ne_of_lt (Nat.lt_of_lt_of_eq cf368.lt g376.symm)
      have ne_b1_b376 : b1 ≠ b376 := Nat.ne_of_lt (Nat.lt_of_lt_of_eq cf369.lt g376.symm)
      have ne_b8_b376 : b8 ≠ b376 := Nat.ne_of_lt (Nat.lt_of_lt_of_eq cf371.lt g376.symm)
      have ne_b19_b376 : b19 ≠ b376 := Nat.ne_of_lt (Nat.lt_of_lt_of_eq cf373.lt g376.symm)
      have ne_b34_b376 : b34 ≠ b376 := Nat.ne_of_lt (Nat.lt_of_lt_of_eq cf375.lt g376.symm)
      have ne_w0_346_b376 : w0_346 ≠ b376 := Nat.ne_of_lt (Nat.lt_of_lt_of_eq fq2_366.lt g376.symm)
      have g_b376 : n0 ≤ b376 := Nat.le_trans Z_366 (Nat.le_of_eq g376.symm)
      have cf377 := cf367.ext E376
      have cf378 := cf368.ext E376
      have cf379 := cf369.ext E376
      have cf380 := cf370.ext E376
      have cf381 := cf371.ext E376
      have cf382 := cf372.ext E376
      have cf383 := cf373.ext E376
      have cf384 := cf374.ext E376
      have cf385 := cf375.ext E376
      have cf386 := fq0_366.ext E376
      have cf387 := fq1_366.ext E376
      have cf388 := fq2_366.ext E376
      have cf389 := fq3_366.ext E376
      have Z_376 : n0 ≤ h376.size := Nat.le_trans Z_366 E376.1
      have F_changes_376 : Fld Z h376 b376 OwnK1 "changes" "Ljava/util/List;" .null := D376 (Or.inr (oW hw 59 rfl)) (ty := (.object "java/util/List")) (by decide)
      have F_ahead_376 : Fld Z h376 b376 OwnK1 "ahead" "I" (.int 0) := D376 (Or.inr (oW hw 61 rfl)) (ty := .int) (by decide)
      refine oG T376 m 127 #[iv x0, iv x1, .val (.long x2), .second, iv 3, iv 0, rv b1, rv b8, rv b19, rv b34, .unset, .unset] [(.ref b376)] (st376) ?_
      refine oG T376 m 128 #[iv x0, iv x1, .val (.long x2), .second, iv 3, iv 0, rv b1, rv b8, rv b19, rv b34, .unset, .unset] [(.ref b376), (.ref b376)] (fun t k => XS.dup X376.here hx rfl (hb hB at_127) rfl rfl k) ?_
      refine oG T376 m 130 #[iv x0, iv x1, .val (.long x2), .second, iv 3, iv 0, rv b1, rv b8, rv b19, rv b34, .unset, .unset] [(.ref b34), (.ref b376), (.ref b376)] (fun t k => XS.aload X376.here hx rfl (hb hB at_128) rfl rfl k) ?_
      refine oG T376 m 132 #[iv x0, iv x1, .val (.long x2), .second, iv 3, iv 0, rv b1, rv b8, rv b19, rv b34, .unset, .unset] [(.int 0), (.ref b34), (.ref b376), (.ref b376)] (fun t k => XS.iload X376.here hx rfl (hb hB at_130) rfl k) ?_
      obtain ⟨_, T390, L390, X390, ⟨rfl, Nq390, Kq390, fq0_390, fq1_390⟩, st390⟩ := own_init X376 hx hZ (y := (⟨OwnK1, "<init>", "(Ljava/util/List;I)V"⟩ : MethodName)) rfl hown (oW hw 54 rfl) (oW hw 55 rfl) (oW hw 53 rfl) (oW hw 56 rfl) (by decide) (sp5 l Z a0 hw [] b376 b34 h376 n0 Z_376 A376 F_ahead_376 F_changes_376 (Ne.symm ne_b34_b376) g_b376) e376 (a := b376) 1 (argsL := [(.ref b34), (.int 0)]) (rest := [(.ref b376)]) (Ls := #[iv x0, iv x1, .val (.long x2), .second, iv 3, iv 0, rv b1, rv b8, rv b19, rv b34, .unset, .unset]) (by rw [hml]; rfl) (lenOf qQ40 rfl) rfl rfl (Nat.le_of_eq rfl) (hb hB at_132) (by decide) (by decide) (by decide) (by decide)
      have N390 := Fr.app N366 Nq390
      have cf391 := own_sta_keepL cf377 Kq390 (fun a cell h1 h2 => (ninS (own_sneE h1 h2 A376) nin0))
      have cf392 := cf378.keep Kq390 (ninS ne_aE_b376 nin0)
      have cf393 := cf379.keep Kq390
      have cf394 := cf380.keep Kq390 (ninS ne_b1_b376 nin0)
      have cf395 := cf381.keep Kq390
      have cf396 := cf382.keep Kq390 (ninS ne_b8_b376 nin0)
      have cf397 := cf383.keep Kq390
      have cf398 := cf384.keep Kq390 (ninS ne_b19_b376 nin0)
      have cf399 := cf385.keep Kq390
      have cf400 := cf386.keep Kq390 (ninS ne_b34_b376 nin0)
      have cf401 := cf387.keep Kq390 (ninS ne_b34_b376 nin0)
      have cf402 := cf388.keep Kq390 (ninS ne_w0_346_b376 nin0)
      have cf403 := cf389.keep Kq390 (ninS ne_b34_b376 nin0)
      have cf404 := A376.keep Kq390
      have Z_390 : n0 ≤ T390.heap.size := Nat.le_trans Z_376 Kq390.1
      refine oG T390 m 135 #[iv x0, iv x1, .val (.long x2), .second, iv 3, iv 0, rv b1, rv b8, rv b19, rv b34, .unset, .unset] [(.ref b376)] (st390) ?_
      refine oG T390 m 137 #[iv x0, iv x1, .val (.long x2), .second, iv 3, iv 0, rv b1, rv b8, rv b19, rv b34, rv b376, .unset] [] (fun t k => XS.astore X390.here hx rfl (hb hB at_135) rfl rfl rfl k) ?_
      refine oG T390 m 139 #[iv x0, iv x1, .val (.long x2), .second, iv 3, iv 0, rv b1, rv b8, rv b19, rv b34, rv b376, .unset] [(.ref b376)] (fun t k => XS.aload X390.here hx rfl (hb hB at_137) rfl rfl k) ?_
      obtain ⟨_, T405, L405, X405, ⟨rfl, e405, rfl⟩, st405⟩ := own_virtual X390 hx hZ (y := (⟨OwnK1, "hasAhead", "()Z"⟩ : MethodName)) (z := (⟨OwnK1, "hasAhead", "()Z"⟩ : MethodName)) hown (oW hw 62 rfl) (oW hw 63 rfl) (notFace_of_selects (args := #[]) (mvT hZ (oW hw 65 rfl))) (oW hw 65 rfl) (oW hw 64 rfl) (oW hw 53 rfl) (oW hw 66 rfl) (by decide) (sp6 l Z a0 hw [] b376 T390.heap n0 Z_390 fq1_390) rfl cf404 0 (argsL := []) (rest := []) (Ls := #[iv x0, iv x1, .val (.long x2), .second, iv 3, iv 0, rv b1, rv b8, rv b19, rv b34, rv b376, .unset]) (by rw [hml]; rfl) (lenOf qQ158 rfl) rfl rfl (Nat.le_of_eq rfl) (hb hB at_139) (by decide) (by decide) (by decide) (by decide)
      replace X405 := own_nil X405
      refine oG T405 m 142 #[iv x0, iv x1, .val (.long x2), .second, iv 3, iv 0, rv b1, rv b8, rv b19, rv b34, rv b376, .unset] [(.int 0)] (st405) ?_
      refine oG T405 m 144 #[iv x0, iv x1, .val (.long x2), .second, iv 3, iv 0, rv b1, rv b8, rv b19, rv b34, rv b376, iv 0] [] (fun t k => XS.istore X405.here hx rfl (hb hB at_142) rfl rfl k) ?_
      refine oG T405 m 146 #[iv x0, iv x1, .val (.long x2), .second, iv 3, iv 0, rv b1, rv b8, rv b19, rv b34, rv b376, iv 0] [(.int 0)] (fun t k => XS.iload X405.here hx rfl (hb hB at_144) rfl k) ?_
      refine oG T405 m 148 #[iv x0, iv x1, .val (.long x2), .second, iv 3, iv 0, rv b1, rv b8, rv b19, rv b34, rv b376, iv 0] [(.int 0), (.int 0)] (fun t k => XS.iload X405.here hx rfl (hb hB at_146) rfl k) ?_
      refine oG T405 m 155 #[iv x0, iv x1, .val (.long x2), .second, iv 3, iv 0, rv b1, rv b8, rv b19, rv b34, rv b376, iv 0] [(.int 0)] (fun t k => XS.ifYes X405.here hx rfl (pc0 := 148) (pc' := 155) rfl (hb hB at_148) rfl ((if0 _ _).trans (flt (by decide)).2.2.2) (by decide) (by decide) k) ?_
      refine oG T405 m 156 #[iv x0, iv x1, .val (.long x2), .second, iv 3, iv 0, rv b1, rv b8, rv b19, rv b34, rv b376, iv 0] [(.int 0), (.int 0)] (fun t k => XS.iconst X405.here hx rfl (hb hB at_155) k) ?_
      refine oG T405 m 161 #[iv x0, iv x1, .val (.long x2), .second, iv 3, iv 0, rv b1, rv b8, rv b19, rv b34, rv b376, iv 0] [] (fun t k => XS.icmpYes X405.here hx rfl (pc0 := 156) (pc' := 161) rfl (hb hB at_156) rfl (teq (by decide)).1 (by decide) (by decide) k) ?_
      refine oG T405 m 163 #[iv x0, iv x1, .val (.long x2), .second, iv 3, iv 0, rv b1, rv b8, rv b19, rv b34, rv b376, iv 0] [(.int 3)] (fun t k => XS.iload X405.here hx rfl (hb hB at_161) rfl k) ?_
      refine oG T405 m 164 #[iv x0, iv x1, .val (.long x2), .second, iv 3, iv 0, rv b1, rv b8, rv b19, rv b34, rv b376, iv 0] [(.int 1), (.int 3)] (fun t k => XS.iconst X405.here hx rfl (hb hB at_163) k) ?_
      refine oG T405 m 167 #[iv x0, iv x1, .val (.long x2), .second, iv 3, iv 0, rv b1, rv b8, rv b19, rv b34, rv b376, iv 0] [] (fun t k => XS.icmpNo X405.here hx rfl (hb hB at_164) rfl (flt (by decide)).1 k) ?_
      refine oG T405 m 169 #[iv x0, iv x1, .val (.long x2), .second, iv 3, iv 0, rv b1, rv b8, rv b19, rv b34, rv b376, iv 0] [(.int 0)] (fun t k => XS.iload X405.here hx rfl (hb hB at_167) rfl k) ?_
      refine oG T405 m 171 #[iv x0, iv x1, .val (.long x2), .second, iv 3, iv 0, rv b1, rv b8, rv b19, rv b34, rv b376, iv 0] [(.ref b376), (.int 0)] (fun t k => XS.aload X405.here hx rfl (hb hB at_169) rfl rfl k) ?_
      refine oG T405 m 173 #[iv x0, iv x1, .val (.long x2), .second, iv 3, iv 0, rv b1, rv b8, rv b19, rv b34, rv b376, iv 0] [(.ref b1), (.ref b376), (.int 0)] (fun t k => XS.aload X405.here hx rfl (hb hB at_171) rfl rfl k) ?_
      obtain ⟨_, T406, L406, X406, ⟨rfl, Nq406, Kq406⟩, st406⟩ := own_virtual X405 hx hZ (y := (⟨OwnK1, "isOfBacklog", "(Lcom/example/newt/newt/core/delivery/Change;)Z"⟩ : MethodName)) (z := (⟨OwnK1, "isOfBacklog", "(Lcom/example/newt/newt/core/delivery/Change;)Z"⟩ : MethodName)) hown (oW hw 98 rfl) (oW hw 99 rfl) (notFace_of_selects (args := #[]) (mvT hZ (oW hw 101 rfl))) (oW hw 101 rfl) (oW hw 100 rfl) (oW hw 53 rfl) (oW hw 102 rfl) (by decide) (sp75 l Z a0 hw [] b376 b1 b34 w0_346 b8 b19 x2 kw0_346 T390.heap n0 Z_390 fq1_390 fq0_390 cf393 cf394 cf399 cf400 cf401 cf403 cf402 fq3_346 cf395 cf397 (Ne.symm ne_b1_b376) (Ne.symm ne_b34_b376) (Ne.symm ne_w0_346_b376) (Ne.symm ne_b8_b376) (Ne.symm ne_b19_b376)) e405 cf404 1 (argsL := [(.ref b1)]) (rest := [(.int 0)]) (Ls := #[iv x0, iv x1, .val (.long x2), .second, iv 3, iv 0, rv b1, rv b8, rv b19, rv b34, rv b376, iv 0]) (by rw [hml]; rfl) (lenOf qQ20 rfl) rfl rfl (Nat.le_of_eq rfl) (hb hB at_173) (by decide) (by decide) (by decide) (by decide)
      have N406 := Fr.app N390 Nq406
      have cf407 := own_sta_keep cf391 Kq406
      have cf408 := cf392.keep Kq406 nin0
      have cf409 := cf393.keep Kq406
      have cf410 := cf394.keep Kq406 nin0
      have cf411 := cf395.keep Kq406
      have cf412 := cf396.keep Kq406 nin0
      have cf413 := cf397.keep Kq406
      have cf414 := cf398.keep Kq406 nin0
      have cf415 := cf399.keep Kq406
      have cf416 := cf400.keep Kq406 nin0
      have cf417 := cf401.keep Kq406 nin0
      have cf418 := cf402.keep Kq406 nin0
      have cf419 := cf403.keep Kq406 nin0
      have cf420 := cf404.keep Kq406
      have cf421 := fq0_390.keep Kq406 nin0
      have cf422 := fq1_390.keep Kq406 nin0
      have Z_406 : n0 ≤ T406.heap.size := Nat.le_trans Z_390 Kq406.1
      refine oG T406 m 176 #[iv x0, iv x1, .val (.long x2), .second, iv 3, iv 0, rv b1, rv b8, rv b19, rv b34, rv b376, iv 0] [(.int 1), (.int 0)] (st406) ?_
      refine oG T406 m 181 #[iv x0, iv x1, .val (.long x2), .second, iv 3, iv 0, rv b1, rv b8, rv b19, rv b34, rv b376, iv 0] [] (fun t k => XS.icmpYes X406.here hx rfl (pc0 := 176) (pc' := 181) rfl (hb hB at_176) rfl (feq (by decide)).2 (by decide) (by decide) k) ?_
      refine oG T406 m 182 #[iv x0, iv x1, .val (.long x2), .second, iv 3, iv 0, rv b1, rv b8, rv b19, rv b34, rv b376, iv 0] [(.int 1)] (fun t k => XS.iconst X406.here hx rfl (hb hB at_181) k) ?_
      refine own_retZ X406 hx hlk hret (by decide) (hb hB at_182) (by decide) (by decide) ?_
      exact ⟨rfl, N406⟩
    · rw [hm3]
      obtain ⟨T423, h423, X423, e423, E423, A423, D423, -, st423⟩ := newO X366 hx hZ hown (oW hw 51 rfl) (oW hw 52 rfl) (oW hw 53 rfl) rfl (g := (mkF m 124 #[iv x0, iv x1, .val (.long x2), .second, iv 3, iv 1, rv b1, rv b8, rv b19, rv b34, .unset, .unset] [])) rfl (hb hB at_124) (by decide) (by decide)
      obtain ⟨b423, g423⟩ : ∃ z, z = T366.heap.size := ⟨_, rfl⟩
      rw [← g423] at A423 D423 st423
      have ne_aE_b423 : aE ≠ b423 := Nat.ne_of_lt (Nat.lt_of_lt_of_eq cf368.lt g423.symm)
      have ne_b1_b423 : b1 ≠ b423 := Nat.ne_of_lt (Nat.lt_of_lt_of_eq cf369.lt g423.symm)
      have ne_b8_b423 : b8 ≠ b423 := Nat.ne_of_lt (Nat.lt_of_lt_of_eq cf371.lt g423.symm)
      have ne_b19_b423 : b19 ≠ b423 := Nat.ne_of_lt (Nat.lt_of_lt_of_eq cf373.lt g423.symm)
      have ne_b34_b423 : b34 ≠ b423 := Nat.ne_of_lt (Nat.lt_of_lt_of_eq cf375.lt g423.symm)
      have ne_w0_346_b423 : w0_346 ≠ b423 := Nat.ne_of_lt (Nat.lt_of_lt_of_eq fq2_366.lt g423.symm)
      have g_b423 : n0 ≤ b423 := Nat.le_trans Z_366 (Nat.le_of_eq g423.symm)
      have cf424 := cf367.ext E423
      have cf425 := cf368.ext E423
      have cf426 := cf369.ext E423
      have cf427 := cf370.ext E423
      have cf428 := cf371.ext E423
      have cf429 := cf372.ext E423
      have cf430 := cf373.ext E423
      have cf431 := cf374.ext E423
      have cf432 := cf375.ext E423
      have cf433 := fq0_366.ext E423
      have cf434 := fq1_366.ext E423
      have cf435 := fq2_366.ext E423
      have cf436 := fq3_366.ext E423
      have Z_423 : n0 ≤ h423.size := Nat.le_trans Z_366 E423.1
      have F_changes_423 : Fld Z h423 b423 OwnK1 "changes" "Ljava/util/List;" .null := D423 (Or.inr (oW hw 59 rfl)) (ty := (.object "java/util/List")) (by decide)
      have F_ahead_423 : Fld Z h423 b423 OwnK1 "ahead" "I" (.int 0) := D423 (Or.inr (oW hw 61 rfl)) (ty := .int) (by decide)
      refine oG T423 m 127 #[iv x0, iv x1, .val (.long x2), .second, iv 3, iv 1, rv b1, rv b8, rv b19, rv b34, .unset, .unset] [(.ref b423)] (st423) ?_
      refine oG T423 m 128 #[iv x0, iv x1, .val (.long x2), .second, iv 3, iv 1, rv b1, rv b8, rv b19, rv b34, .unset, .unset] [(.ref b423), (.ref b423)] (fun t k => XS.dup X423.here hx rfl (hb hB at_127) rfl rfl k) ?_
      refine oG T423 m 130 #[iv x0, iv x1, .val (.long x2), .second, iv 3, iv 1, rv b1, rv b8, rv b19, rv b34, .unset, .unset] [(.ref b34), (.ref b423), (.ref b423)] (fun t k => XS.aload X423.here hx rfl (hb hB at_128) rfl rfl k) ?_
      refine oG T423 m 132 #[iv x0, iv x1, .val (.long x2), .second, iv 3, iv 1, rv b1, rv b8, rv b19, rv b34, .unset, .unset] [(.int 1), (.ref b34), (.ref b423), (.ref b423)] (fun t k => XS.iload X423.here hx rfl (hb hB at_130) rfl k) ?_
      obtain ⟨_, T437, L437, X437, ⟨rfl, Nq437, Kq437, fq0_437, fq1_437⟩, st437⟩ := own_init X423 hx hZ (y := (⟨OwnK1, "<init>", "(Ljava/util/List;I)V"⟩ : MethodName)) rfl hown (oW hw 54 rfl) (oW hw 55 rfl) (oW hw 53 rfl) (oW hw 56 rfl) (by decide) (sp28 l Z a0 hw [] b423 b34 h423 n0 Z_423 A423 F_ahead_423 F_changes_423 (Ne.symm ne_b34_b423) g_b423) e423 (a := b423) 1 (argsL := [(.ref b34), (.int 1)]) (rest := [(.ref b423)]) (Ls := #[iv x0, iv x1, .val (.long x2), .second, iv 3, iv 1, rv b1, rv b8, rv b19, rv b34, .unset, .unset]) (by rw [hml]; rfl) (lenOf qQ40 rfl) rfl rfl (Nat.le_of_eq rfl) (hb hB at_132) (by decide) (by decide) (by decide) (by decide)
      have N437 := Fr.app N366 Nq437
      have cf438 := own_sta_keepL cf424 Kq437 (fun a cell h1 h2 => (ninS (own_sneE h1 h2 A423) nin0))
      have cf439 := cf425.keep Kq437 (ninS ne_aE_b423 nin0)
      have cf440 := cf426.keep Kq437
      have cf441 := cf427.keep Kq437 (ninS ne_b1_b423 nin0)
      have cf442 := cf428.keep Kq437
      have cf443 := cf429.keep Kq437 (ninS ne_b8_b423 nin0)
      have cf444 := cf430.keep Kq437
      have cf445 := cf431.keep Kq437 (ninS ne_b19_b423 nin0)
      have cf446 := cf432.keep Kq437
      have cf447 := cf433.keep Kq437 (ninS ne_b34_b423 nin0)
      have cf448 := cf434.keep Kq437 (ninS ne_b34_b423 nin0)
      have cf449 := cf435.keep Kq437 (ninS ne_w0_346_b423 nin0)
      have cf450 := cf436.keep Kq437 (ninS ne_b34_b423 nin0)
      have cf451 := A423.keep Kq437
      have Z_437 : n0 ≤ T437.heap.size := Nat.le_trans Z_423 Kq437.1
      refine oG T437 m 135 #[iv x0, iv x1, .val (.long x2), .second, iv 3, iv 1, rv b1, rv b8, rv b19, rv b34, .unset, .unset] [(.ref b423)] (st437) ?_
      refine oG T437 m 137 #[iv x0, iv x1, .val (.long x2), .second, iv 3, iv 1, rv b1, rv b8, rv b19, rv b34, rv b423, .unset] [] (fun t k => XS.astore X437.here hx rfl (hb hB at_135) rfl rfl rfl k) ?_
      refine oG T437 m 139 #[iv x0, iv x1, .val (.long x2), .second, iv 3, iv 1, rv b1, rv b8, rv b19, rv b34, rv b423, .unset] [(.ref b423)] (fun t k => XS.aload X437.here hx rfl (hb hB at_137) rfl rfl k) ?_
      obtain ⟨_, T452, L452, X452, ⟨rfl, e452, rfl⟩, st452⟩ := own_virtual X437 hx hZ (y := (⟨OwnK1, "hasAhead", "()Z"⟩ : MethodName)) (z := (⟨OwnK1, "hasAhead", "()Z"⟩ : MethodName)) hown (oW hw 62 rfl) (oW hw 63 rfl) (notFace_of_selects (args := #[]) (mvT hZ (oW hw 65 rfl))) (oW hw 65 rfl) (oW hw 64 rfl) (oW hw 53 rfl) (oW hw 66 rfl) (by decide) (sp29 l Z a0 hw [] b423 T437.heap n0 Z_437 fq1_437) rfl cf451 0 (argsL := []) (rest := []) (Ls := #[iv x0, iv x1, .val (.long x2), .second, iv 3, iv 1, rv b1, rv b8, rv b19, rv b34, rv b423, .unset]) (by rw [hml]; rfl) (lenOf qQ158 rfl) rfl rfl (Nat.le_of_eq rfl) (hb hB at_139) (by decide) (by decide) (by decide) (by decide)
      replace X452 := own_nil X452
      refine oG T452 m 142 #[iv x0, iv x1, .val (.long x2), .second, iv 3, iv 1, rv b1, rv b8, rv b19, rv b34, rv b423, .unset] [(.int 1)] (st452) ?_
      refine oG T452 m 144 #[iv x0, iv x1, .val (.long x2), .second, iv 3, iv 1, rv b1, rv b8, rv b19, rv b34, rv b423, iv 1] [] (fun t k => XS.istore X452.here hx rfl (hb hB at_142) rfl rfl k) ?_
      refine oG T452 m 146 #[iv x0, iv x1, .val (.long x2), .second, iv 3, iv 1, rv b1, rv b8, rv b19, rv b34, rv b423, iv 1] [(.int 1)] (fun t k => XS.iload X452.here hx rfl (hb hB at_144) rfl k) ?_
      refine oG T452 m 148 #[iv x0, iv x1, .val (.long x2), .second, iv 3, iv 1, rv b1, rv b8, rv b19, rv b34, rv b423, iv 1] [(.int 1), (.int 1)] (fun t k => XS.iload X452.here hx rfl (hb hB at_146) rfl k) ?_
      refine oG T452 m 151 #[iv x0, iv x1, .val (.long x2), .second, iv 3, iv 1, rv b1, rv b8, rv b19, rv b34, rv b423, iv 1] [(.int 1)] (fun t k => XS.ifNo X452.here hx rfl (hb hB at_148) rfl ((if0 _ _).trans (tlt (by decide)).2.2.2) k) ?_
      refine oG T452 m 152 #[iv x0, iv x1, .val (.long x2), .second, iv 3, iv 1, rv b1, rv b8, rv b19, rv b34, rv b423, iv 1] [(.int 1), (.int 1)] (fun t k => XS.iconst X452.here hx rfl (hb hB at_151) k) ?_
      refine oG T452 m 156 #[iv x0, iv x1, .val (.long x2), .second, iv 3, iv 1, rv b1, rv b8, rv b19, rv b34, rv b423, iv 1] [(.int 1), (.int 1)] (fun t k => XS.goto X452.here hx rfl (pc0 := 152) (pc' := 156) rfl (hb hB at_152) (by decide) (by decide) k) ?_
      refine oG T452 m 161 #[iv x0, iv x1, .val (.long x2), .second, iv 3, iv 1, rv b1, rv b8, rv b19, rv b34, rv b423, iv 1] [] (fun t k => XS.icmpYes X452.here hx rfl (pc0 := 156) (pc' := 161) rfl (hb hB at_156) rfl (teq (by decide)).1 (by decide) (by decide) k) ?_
      refine oG T452 m 163 #[iv x0, iv x1, .val (.long x2), .second, iv 3, iv 1, rv b1, rv b8, rv b19, rv b34, rv b423, iv 1] [(.int 3)] (fun t k => XS.iload X452.here hx rfl (hb hB at_161) rfl k) ?_
      refine oG T452 m 164 #[iv x0, iv x1, .val (.long x2), .second, iv 3, iv 1, rv b1, rv b8, rv b19, rv b34, rv b423, iv 1] [(.int 1), (.int 3)] (fun t k => XS.iconst X452.here hx rfl (hb hB at_163) k) ?_
      refine oG T452 m 167 #[iv x0, iv x1, .val (.long x2), .second, iv 3, iv 1, rv b1, rv b8, rv b19, rv b34, rv b423, iv 1] [] (fun t k => XS.icmpNo X452.here hx rfl (hb hB at_164) rfl (flt (by decide)).1 k) ?_
      refine oG T452 m 169 #[iv x0, iv x1, .val (.long x2), .second, iv 3, iv 1, rv b1, rv b8, rv b19, rv b34, rv b423, iv 1] [(.int 1)] (fun t k => XS.iload X452.here hx rfl (hb hB at_167) rfl k) ?_
      refine oG T452 m 171 #[iv x0, iv x1, .val (.long x2), .second, iv 3, iv 1, rv b1, rv b8, rv b19, rv b34, rv b423, iv 1] [(.ref b423), (.int 1)] (fun t k => XS.aload X452.here hx rfl (hb hB at_169) rfl rfl k) ?_
      refine oG T452 m 173 #[iv x0, iv x1, .val (.long x2), .second, iv 3, iv 1, rv b1, rv b8, rv b19, rv b34, rv b423, iv 1] [(.ref b1), (.ref b423), (.int 1)] (fun t k => XS.aload X452.here hx rfl (hb hB at_171) rfl rfl k) ?_
      obtain ⟨_, T453, L453, X453, ⟨rfl, Nq453, Kq453⟩, st453⟩ := own_virtual X452 hx hZ (y := (⟨OwnK1, "isOfBacklog", "(Lcom/example/newt/newt/core/delivery/Change;)Z"⟩ : MethodName)) (z := (⟨OwnK1, "isOfBacklog", "(Lcom/example/newt/newt/core/delivery/Change;)Z"⟩ : MethodName)) hown (oW hw 98 rfl) (oW hw 99 rfl) (notFace_of_selects (args := #[]) (mvT hZ (oW hw 101 rfl))) (oW hw 101 rfl) (oW hw 100 rfl) (oW hw 53 rfl) (oW hw 102 rfl) (by decide) (sp89 l Z a0 hw [] b423 b1 b34 w0_346 b8 b19 x2 (x2 + (1 : Int64)) (x2 + (2 : Int64)) kw0_346 T437.heap n0 Z_437 fq1_437 fq0_437 cf440 cf441 cf446 cf447 cf448 cf450 cf449 fq3_346 cf442 cf443 cf444 cf445 (Ne.symm ne_b1_b423) (Ne.symm ne_b34_b423) (Ne.symm ne_w0_346_b423) (Ne.symm ne_b8_b423) (Ne.symm ne_b19_b423) (own_ne1 x2) (own_ne2 x2)) e452 cf451 1 (argsL := [(.ref b1)]) (rest := [(.int 1)]) (Ls := #[iv x0, iv x1, .val (.long x2), .second, iv 3, iv 1, rv b1, rv b8, rv b19, rv b34, rv b423, iv 1]) (by rw [hml]; rfl) (lenOf qQ20 rfl) rfl rfl (Nat.le_of_eq rfl) (hb hB at_173) (by decide) (by decide) (by decide) (by decide)
      have N453 := Fr.app N437 Nq453
      have cf454 := own_sta_keep cf438 Kq453
      have cf455 := cf439.keep Kq453 nin0
      have cf456 := cf440.keep Kq453
      have cf457 := cf441.keep Kq453 nin0
      have cf458 := cf442.keep Kq453
      have cf459 := cf443.keep Kq453 nin0
      have cf460 := cf444.keep Kq453
      have cf461 := cf445.keep Kq453 nin0
      have cf462 := cf446.keep Kq453
      have cf463 := cf447.keep Kq453 nin0
      have cf464 := cf448.keep Kq453 nin0
      have cf465 := cf449.keep Kq453 nin0
      have cf466 := cf450.keep Kq453 nin0
      have cf467 := cf451.keep Kq453
      have cf468 := fq0_437.keep Kq453 nin0
      have cf469 := fq1_437.keep Kq453 nin0
      have Z_453 : n0 ≤ T453.heap.size := Nat.le_trans Z_437 Kq453.1
      refine oG T453 m 176 #[iv x0, iv x1, .val (.long x2), .second, iv 3, iv 1, rv b1, rv b8, rv b19, rv b34, rv b423, iv 1] [(.int 0), (.int 1)] (st453) ?_
      refine oG T453 m 181 #[iv x0, iv x1, .val (.long x2), .second, iv 3, iv 1, rv b1, rv b8, rv b19, rv b34, rv b423, iv 1] [] (fun t k => XS.icmpYes X453.here hx rfl (pc0 := 176) (pc' := 181) rfl (hb hB at_176) rfl (feq (by decide)).2 (by decide) (by decide) k) ?_
      refine oG T453 m 182 #[iv x0, iv x1, .val (.long x2), .second, iv 3, iv 1, rv b1, rv b8, rv b19, rv b34, rv b423, iv 1] [(.int 1)] (fun t k => XS.iconst X453.here hx rfl (hb hB at_181) k) ?_
      refine own_retZ X453 hx hlk hret (by decide) (hb hB at_182) (by decide) (by decide) ?_
      exact ⟨rfl, N453⟩
    · rw [hm3]
      obtain ⟨T470, h470, X470, e470, E470, A470, D470, -, st470⟩ := newO X366 hx hZ hown (oW hw 51 rfl) (oW hw 52 rfl) (oW hw 53 rfl) rfl (g := (mkF m 124 #[iv x0, iv x1, .val (.long x2), .second, iv 3, iv 2, rv b1, rv b8, rv b19, rv b34, .unset, .unset] [])) rfl (hb hB at_124) (by decide) (by decide)
      obtain ⟨b470, g470⟩ : ∃ z, z = T366.heap.size := ⟨_, rfl⟩
      rw [← g470] at A470 D470 st470
      have ne_aE_b470 : aE ≠ b470 := Nat.ne_of_lt (Nat.lt_of_lt_of_eq cf368.lt g470.symm)
      have ne_b1_b470 : b1 ≠ b470 := Nat.ne_of_lt (Nat.lt_of_lt_of_eq cf369.lt g470.symm)
      have ne_b8_b470 : b8 ≠ b470 := Nat.ne_of_lt (Nat.lt_of_lt_of_eq cf371.lt g470.symm)
      have ne_b19_b470 : b19 ≠ b470 := Nat.ne_of_lt (Nat.lt_of_lt_of_eq cf373.lt g470.symm)
      have ne_b34_b470 : b34 ≠ b470 := Nat.ne_of_lt (Nat.lt_of_lt_of_eq cf375.lt g470.symm)
      have ne_w0_346_b470 : w0_346 ≠ b470 := Nat.ne_of_lt (Nat.lt_of_lt_of_eq fq2_366.lt g470.symm)
      have g_b470 : n0 ≤ b470 := Nat.le_trans Z_366 (Nat.le_of_eq g470.symm)
      have cf471 := cf367.ext E470
      have cf472 := cf368.ext E470
      have cf473 := cf369.ext E470
      have cf474 := cf370.ext E470
      have cf475 := cf371.ext E470
      have cf476 := cf372.ext E470
      have cf477 := cf373.ext E470
      have cf478 := cf374.ext E470
      have cf479 := cf375.ext E470
      have cf480 := fq0_366.ext E470
      have cf481 := fq1_366.ext E470
      have cf482 := fq2_366.ext E470
      have cf483 := fq3_366.ext E470
      have Z_470 : n0 ≤ h470.size := Nat.le_trans Z_366 E470.1
      have F_changes_470 : Fld Z h470 b470 OwnK1 "changes" "Ljava/util/List;" .null := D470 (Or.inr (oW hw 59 rfl)) (ty := (.object "java/util/List")) (by decide)
      have F_ahead_470 : Fld Z h470 b470 OwnK1 "ahead" "I" (.int 0) := D470 (Or.inr (oW hw 61 rfl)) (ty := .int) (by decide)
      refine oG T470 m 127 #[iv x0, iv x1, .val (.long x2), .second, iv 3, iv 2, rv b1, rv b8, rv b19, rv b34, .unset, .unset] [(.ref b470)] (st470) ?_
      refine oG T470 m 128 #[iv x0, iv x1, .val (.long x2), .second, iv 3, iv 2, rv b1, rv b8, rv b19, rv b34, .unset, .unset] [(.ref b470), (.ref b470)] (fun t k => XS.dup X470.here hx rfl (hb hB at_127) rfl rfl k) ?_
      refine oG T470 m 130 #[iv x0, iv x1, .val (.long x2), .second, iv 3, iv 2, rv b1, rv b8, rv b19, rv b34, .unset, .unset] [(.ref b34), (.ref b470), (.ref b470)] (fun t k => XS.aload X470.here hx rfl (hb hB at_128) rfl rfl k) ?_
      refine oG T470 m 132 #[iv x0, iv x1, .val (.long x2), .second, iv 3, iv 2, rv b1, rv b8, rv b19, rv b34, .unset, .unset] [(.int 2), (.ref b34), (.ref b470), (.ref b470)] (fun t k => XS.iload X470.here hx rfl (hb hB at_130) rfl k) ?_
      obtain ⟨_, T484, L484, X484, ⟨rfl, Nq484, Kq484, fq0_484, fq1_484⟩, st484⟩ := own_init X470 hx hZ (y := (⟨OwnK1, "<init>", "(Ljava/util/List;I)V"⟩ : MethodName)) rfl hown (oW hw 54 rfl) (oW hw 55 rfl) (oW hw 53 rfl) (oW hw 56 rfl) (by decide) (sp64 l Z a0 hw [] b470 b34 h470 n0 Z_470 A470 F_ahead_470 F_changes_470 (Ne.symm ne_b34_b470) g_b470) e470 (a := b470) 1 (argsL := [(.ref b34), (.int 2)]) (rest := [(.ref b470)]) (Ls := #[iv x0, iv x1, .val (.long x2), .second, iv 3, iv 2, rv b1, rv b8, rv b19, rv b34, .unset, .unset]) (by rw [hml]; rfl) (lenOf qQ40 rfl) rfl rfl (Nat.le_of_eq rfl) (hb hB at_132) (by decide) (by decide) (by decide) (by decide)
      have N484 := Fr.app N366 Nq484
      have cf485 := own_sta_keepL cf471 Kq484 (fun a cell h1 h2 => (ninS (own_sneE h1 h2 A470) nin0))
      have cf486 := cf472.keep Kq484 (ninS ne_aE_b470 nin0)
      have cf487 := cf473.keep Kq484
      have cf488 := cf474.keep Kq484 (ninS ne_b1_b470 nin0)
      have cf489 := cf475.keep Kq484
      have cf490 := cf476.keep Kq484 (ninS ne_b8_b470 nin0)
      have cf491 := cf477.keep Kq484
      have cf492 := cf478.keep Kq484 (ninS ne_b19_b470 nin0)
      have cf493 := cf479.keep Kq484
      have cf494 := cf480.keep Kq484 (ninS ne_b34_b470 nin0)
      have cf495 := cf481.keep Kq484 (ninS ne_b34_b470 nin0)
      have cf496 := cf482.keep Kq484 (ninS ne_w0_346_b470 nin0)
      have cf497 := cf483.keep Kq484 (ninS ne_b34_b470 nin0)
      have cf498 := A470.keep Kq484
      have Z_484 : n0 ≤ T484.heap.size := Nat.le_trans Z_470 Kq484.1
      refine oG T484 m 135 #[iv x0, iv x1, .val (.long x2), .second, iv 3, iv 2, rv b1, rv b8, rv b19, rv b34, .unset, .unset] [(.ref b470)] (st484) ?_
      refine oG T484 m 137 #[iv x0, iv x1, .val (.long x2), .second, iv 3, iv 2, rv b1, rv b8, rv b19, rv b34, rv b470, .unset] [] (fun t k => XS.astore X484.here hx rfl (hb hB at_135) rfl rfl rfl k) ?_
      refine oG T484 m 139 #[iv x0, iv x1, .val (.long x2), .second, iv 3, iv 2, rv b1, rv b8, rv b19, rv b34, rv b470, .unset] [(.ref b470)] (fun t k => XS.aload X484.here hx rfl (hb hB at_137) rfl rfl k) ?_
      obtain ⟨_, T499, L499, X499, ⟨rfl, e499, rfl⟩, st499⟩ := own_virtual X484 hx hZ (y := (⟨OwnK1, "hasAhead", "()Z"⟩ : MethodName)) (z := (⟨OwnK1, "hasAhead", "()Z"⟩ : MethodName)) hown (oW hw 62 rfl) (oW hw 63 rfl) (notFace_of_selects (args := #[]) (mvT hZ (oW hw 65 rfl))) (oW hw 65 rfl) (oW hw 64 rfl) (oW hw 53 rfl) (oW hw 66 rfl) (by decide) (sp65 l Z a0 hw [] b470 T484.heap n0 Z_484 fq1_484) rfl cf498 0 (argsL := []) (rest := []) (Ls := #[iv x0, iv x1, .val (.long x2), .second, iv 3, iv 2, rv b1, rv b8, rv b19, rv b34, rv b470, .unset]) (by rw [hml]; rfl) (lenOf qQ158 rfl) rfl rfl (Nat.le_of_eq rfl) (hb hB at_139) (by decide) (by decide) (by decide) (by decide)
      replace X499 := own_nil X499
      refine oG T499 m 142 #[iv x0, iv x1, .val (.long x2), .second, iv 3, iv 2, rv b1, rv b8, rv b19, rv b34, rv b470, .unset] [(.int 1)] (st499) ?_
      refine oG T499 m 144 #[iv x0, iv x1, .val (.long x2), .second, iv 3, iv 2, rv b1, rv b8, rv b19, rv b34, rv b470, iv 1] [] (fun t k => XS.istore X499.here hx rfl (hb hB at_142) rfl rfl k) ?_
      refine oG T499 m 146 #[iv x0, iv x1, .val (.long x2), .second, iv 3, iv 2, rv b1, rv b8, rv b19, rv b34, rv b470, iv 1] [(.int 1)] (fun t k => XS.iload X499.here hx rfl (hb hB at_144) rfl k) ?_
      refine oG T499 m 148 #[iv x0, iv x1, .val (.long x2), .second, iv 3, iv 2, rv b1, rv b8, rv b19, rv b34, rv b470, iv 1] [(.int 2), (.int 1)] (fun t k => XS.iload X499.here hx rfl (hb hB at_146) rfl k) ?_
      refine oG T499 m 151 #[iv x0, iv x1, .val (.long x2), .second, iv 3, iv 2, rv b1, rv b8, rv b19, rv b34, rv b470, iv 1] [(.int 1)] (fun t k => XS.ifNo X499.here hx rfl (hb hB at_148) rfl ((if0 _ _).trans (tlt (by decide)).2.2.2) k) ?_
      refine oG T499 m 152 #[iv x0, iv x1, .val (.long x2), .second, iv 3, iv 2, rv b1, rv b8, rv b19, rv b34, rv b470, iv 1] [(.int 1), (.int 1)] (fun t k => XS.iconst X499.here hx rfl (hb hB at_151) k) ?_
      refine oG T499 m 156 #[iv x0, iv x1, .val (.long x2), .second, iv 3, iv 2, rv b1, rv b8, rv b19, rv b34, rv b470, iv 1] [(.int 1), (.int 1)] (fun t k => XS.goto X499.here hx rfl (pc0 := 152) (pc' := 156) rfl (hb hB at_152) (by decide) (by decide) k) ?_
      refine oG T499 m 161 #[iv x0, iv x1, .val (.long x2), .second, iv 3, iv 2, rv b1, rv b8, rv b19, rv b34, rv b470, iv 1] [] (fun t k => XS.icmpYes X499.here hx rfl (pc0 := 156) (pc' := 161) rfl (hb hB at_156) rfl (teq (by decide)).1 (by decide) (by decide) k) ?_
      refine oG T499 m 163 #[iv x0, iv x1, .val (.long x2), .second, iv 3, iv 2, rv b1, rv b8, rv b19, rv b34, rv b470, iv 1] [(.int 3)] (fun t k => XS.iload X499.here hx rfl (hb hB at_161) rfl k) ?_
      refine oG T499 m 164 #[iv x0, iv x1, .val (.long x2), .second, iv 3, iv 2, rv b1, rv b8, rv b19, rv b34, rv b470, iv 1] [(.int 1), (.int 3)] (fun t k => XS.iconst X499.here hx rfl (hb hB at_163) k) ?_
      refine oG T499 m 167 #[iv x0, iv x1, .val (.long x2), .second, iv 3, iv 2, rv b1, rv b8, rv b19, rv b34, rv b470, iv 1] [] (fun t k => XS.icmpNo X499.here hx rfl (hb hB at_164) rfl (flt (by decide)).1 k) ?_
      refine oG T499 m 169 #[iv x0, iv x1, .val (.long x2), .second, iv 3, iv 2, rv b1, rv b8, rv b19, rv b34, rv b470, iv 1] [(.int 1)] (fun t k => XS.iload X499.here hx rfl (hb hB at_167) rfl k) ?_
      refine oG T499 m 171 #[iv x0, iv x1, .val (.long x2), .second, iv 3, iv 2, rv b1, rv b8, rv b19, rv b34, rv b470, iv 1] [(.ref b470), (.int 1)] (fun t k => XS.aload X499.here hx rfl (hb hB at_169) rfl rfl k) ?_
      refine oG T499 m 173 #[iv x0, iv x1, .val (.long x2), .second, iv 3, iv 2, rv b1, rv b8, rv b19, rv b34, rv b470, iv 1] [(.ref b1), (.ref b470), (.int 1)] (fun t k => XS.aload X499.here hx rfl (hb hB at_171) rfl rfl k) ?_
      obtain ⟨_, T500, L500, X500, ⟨rfl, Nq500, Kq500⟩, st500⟩ := own_virtual X499 hx hZ (y := (⟨OwnK1, "isOfBacklog", "(Lcom/example/newt/newt/core/delivery/Change;)Z"⟩ : MethodName)) (z := (⟨OwnK1, "isOfBacklog", "(Lcom/example/newt/newt/core/delivery/Change;)Z"⟩ : MethodName)) hown (oW hw 98 rfl) (oW hw 99 rfl) (notFace_of_selects (args := #[]) (mvT hZ (oW hw 101 rfl))) (oW hw 101 rfl) (oW hw 100 rfl) (oW hw 53 rfl) (oW hw 102 rfl) (by decide) (sp100 l Z a0 hw [] b470 b1 b34 w0_346 b8 b19 x2 (x2 + (2 : Int64)) kw0_346 T484.heap n0 Z_484 fq1_484 fq0_484 cf487 cf488 cf493 cf494 cf495 cf497 cf496 fq3_346 cf489 cf491 cf492 (Ne.symm ne_b1_b470) (Ne.symm ne_b34_b470) (Ne.symm ne_w0_346_b470) (Ne.symm ne_b8_b470) (Ne.symm ne_b19_b470) (own_ne2 x2)) e499 cf498 1 (argsL := [(.ref b1)]) (rest := [(.int 1)]) (Ls := #[iv x0, iv x1, .val (.long x2), .second, iv 3, iv 2, rv b1, rv b8, rv b19, rv b34, rv b470, iv 1]) (by rw [hml]; rfl) (lenOf qQ20 rfl) rfl rfl (Nat.le_of_eq rfl) (hb hB at_173) (by decide) (by decide) (by decide) (by decide)
      have N500 := Fr.app N484 Nq500
      have cf501 := own_sta_keep cf485 Kq500
      have cf502 := cf486.keep Kq500 nin0
      have cf503 := cf487.keep Kq500
      have cf504 := cf488.keep Kq500 nin0
      have cf505 := cf489.keep Kq500
      have cf506 := cf490.keep Kq500 nin0
      have cf507 := cf491.keep Kq500
      have cf508 := cf492.keep Kq500 nin0
      have cf509 := cf493.keep Kq500
      have cf510 := cf494.keep Kq500 nin0
      have cf511 := cf495.keep Kq500 nin0
      have cf512 := cf496.keep Kq500 nin0
      have cf513 := cf497.keep Kq500 nin0
      have cf514 := cf498.keep Kq500
      have cf515 := fq0_484.keep Kq500 nin0
      have cf516 := fq1_484.keep Kq500 nin0
      have Z_500 : n0 ≤ T500.heap.size := Nat.le_trans Z_484 Kq500.1
      refine oG T500 m 176 #[iv x0, iv x1, .val (.long x2), .second, iv 3, iv 2, rv b1, rv b8, rv b19, rv b34, rv b470, iv 1] [(.int 0), (.int 1)] (st500) ?_
      refine oG T500 m 181 #[iv x0, iv x1, .val (.long x2), .second, iv 3, iv 2, rv b1, rv b8, rv b19, rv b34, rv b470, iv 1] [] (fun t k => XS.icmpYes X500.here hx rfl (pc0 := 176) (pc' := 181) rfl (hb hB at_176) rfl (feq (by decide)).2 (by decide) (by decide) k) ?_
      refine oG T500 m 182 #[iv x0, iv x1, .val (.long x2), .second, iv 3, iv 2, rv b1, rv b8, rv b19, rv b34, rv b470, iv 1] [(.int 1)] (fun t k => XS.iconst X500.here hx rfl (hb hB at_181) k) ?_
      refine own_retZ X500 hx hlk hret (by decide) (hb hB at_182) (by decide) (by decide) ?_
      exact ⟨rfl, N500⟩
    · rw [hm3]
      obtain ⟨T517, h517, X517, e517, E517, A517, D517, -, st517⟩ := newO X366 hx hZ hown (oW hw 51 rfl) (oW hw 52 rfl) (oW hw 53 rfl) rfl (g := (mkF m 124 #[iv x0, iv x1, .val (.long x2), .second, iv 3, iv 3, rv b1, rv b8, rv b19, rv b34, .unset, .unset] [])) rfl (hb hB at_124) (by decide) (by decide)
      obtain ⟨b517, g517⟩ : ∃ z, z = T366.heap.size := ⟨_, rfl⟩
      rw [← g517] at A517 D517 st517
      have ne_aE_b517 : aE ≠ b517 := Nat.ne_of_lt (Nat.lt_of_lt_of_eq cf368.lt g517.symm)
      have ne_b1_b517 : b1 ≠ b517 := Nat.ne_of_lt (Nat.lt_of_lt_of_eq cf369.lt g517.symm)
      have ne_b8_b517 : b8 ≠ b517 := Nat.ne_of_lt (Nat.lt_of_lt_of_eq cf371.lt g517.symm)
      have ne_b19_b517 : b19 ≠ b517 := Nat.ne_of_lt (Nat.lt_of_lt_of_eq cf373.lt g517.symm)
      have ne_b34_b517 : b34 ≠ b517 := Nat.ne_of_lt (Nat.lt_of_lt_of_eq cf375.lt g517.symm)
      have ne_w0_346_b517 : w0_346 ≠ b517 := Nat.ne_of_lt (Nat.lt_of_lt_of_eq fq2_366.lt g517.symm)
      have g_b517 : n0 ≤ b517 := Nat.le_trans Z_366 (Nat.le_of_eq g517.symm)
      have cf518 := cf367.ext E517
      have cf519 := cf368.ext E517
      have cf520 := cf369.ext E517
      have cf521 := cf370.ext E517
      have cf522 := cf371.ext E517
      have cf523 := cf372.ext E517
      have cf524 := cf373.ext E517
      have cf525 := cf374.ext E517
      have cf526 := cf375.ext E517
      have cf527 := fq0_366.ext E517
      have cf528 := fq1_366.ext E517
      have cf529 := fq2_366.ext E517
      have cf530 := fq3_366.ext E517
      have Z_517 : n0 ≤ h517.size := Nat.le_trans Z_366 E517.1
      have F_changes_517 : Fld Z h517 b517 OwnK1 "changes" "Ljava/util/List;" .null := D517 (Or.inr (oW hw 59 rfl)) (ty := (.object "java/util/List")) (by decide)
      have F_ahead_517 : Fld Z h517 b517 OwnK1 "ahead" "I" (.int 0) := D517 (Or.inr (oW hw 61 rfl)) (ty := .int) (by decide)
      refine oG T517 m 127 #[iv x0, iv x1, .val (.long x2), .second, iv 3, iv 3, rv b1, rv b8, rv b19, rv b34, .unset, .unset] [(.ref b517)] (st517) ?_
      refine oG T517 m 128 #[iv x0, iv x1, .val (.long x2), .second, iv 3, iv 3, rv b1, rv b8, rv b19, rv b34, .unset, .unset] [(.ref b517), (.ref b517)] (fun t k => XS.dup X517.here hx rfl (hb hB at_127) rfl rfl k) ?_
      refine oG T517 m 130 #[iv x0, iv x1, .val (.long x2), .second, iv 3, iv 3, rv b1, rv b8, rv b19, rv b34, .unset, .unset] [(.ref b34), (.ref b517), (.ref b517)] (fun t k => XS.aload X517.here hx rfl (hb hB at_128) rfl rfl k) ?_
      refine oG T517 m 132 #[iv x0, iv x1, .val (.long x2), .second, iv 3, iv 3, rv b1, rv b8, rv b19, rv b34, .unset, .unset] [(.int 3), (.ref b34), (.ref b517), (.ref b517)] (fun t k => XS.iload X517.here hx rfl (hb hB at_130) rfl k) ?_
      obtain ⟨_, T531, L531, X531, ⟨rfl, Nq531, Kq531, fq0_531, fq1_531⟩, st531⟩ := own_init X517 hx hZ (y := (⟨OwnK1, "<init>", "(Ljava/util/List;I)V"⟩ : MethodName)) rfl hown (oW hw 54 rfl) (oW hw 55 rfl) (oW hw 53 rfl) (oW hw 56 rfl) (by decide) (sp108 l Z a0 hw [] b517 b34 h517 n0 Z_517 A517 F_ahead_517 F_changes_517 (Ne.symm ne_b34_b517) g_b517) e517 (a := b517) 1 (argsL := [(.ref b34), (.int 3)]) (rest := [(.ref b517)]) (Ls := #[iv x0, iv x1, .val (.long x2), .second, iv 3, iv 3, rv b1, rv b8, rv b19, rv b34, .unset, .unset]) (by rw [hml]; rfl) (lenOf qQ40 rfl) rfl rfl (Nat.le_of_eq rfl) (hb hB at_132) (by decide) (by decide) (by decide) (by decide)
      have N531 := Fr.app N366 Nq531
      have cf532 := own_sta_keepL cf518 Kq531 (fun a cell h1 h2 => (ninS (own_sneE h1 h2 A517) nin0))
      have cf533 := cf519.keep Kq531 (ninS ne_aE_b517 nin0)
      have cf534 := cf520.keep Kq531
      have cf535 := cf521.keep Kq531 (ninS ne_b1_b517 nin0)
      have cf536 := cf522.keep Kq531
      have cf537 := cf523.keep Kq531 (ninS ne_b8_b517 nin0)
      have cf538 := cf524.keep Kq531
      have cf539 := cf525.keep Kq531 (ninS ne_b19_b517 nin0)
      have cf540 := cf526.keep Kq531
      have cf541 := cf527.keep Kq531 (ninS ne_b34_b517 nin0)
      have cf542 := cf528.keep Kq531 (ninS ne_b34_b517 nin0)
      have cf543 := cf529.keep Kq531 (ninS ne_w0_346_b517 nin0)
      have cf544 := cf530.keep Kq531 (ninS ne_b34_b517 nin0)
      have cf545 := A517.keep Kq531
      have Z_531 : n0 ≤ T531.heap.size := Nat.le_trans Z_517 Kq531.1
      refine oG T531 m 135 #[iv x0, iv x1, .val (.long x2), .second, iv 3, iv 3, rv b1, rv b8, rv b19, rv b34, .unset, .unset] [(.ref b517)] (st531) ?_
      refine oG T531 m 137 #[iv x0, iv x1, .val (.long x2), .second, iv 3, iv 3, rv b1, rv b8, rv b19, rv b34, rv b517, .unset] [] (fun t k => XS.astore X531.here hx rfl (hb hB at_135) rfl rfl rfl k) ?_
      refine oG T531 m 139 #[iv x0, iv x1, .val (.long x2), .second, iv 3, iv 3, rv b1, rv b8, rv b19, rv b34, rv b517, .unset] [(.ref b517)] (fun t k => XS.aload X531.here hx rfl (hb hB at_137) rfl rfl k) ?_
      obtain ⟨_, T546, L546, X546, ⟨rfl, e546, rfl⟩, st546⟩ := own_virtual X531 hx hZ (y := (⟨OwnK1, "hasAhead", "()Z"⟩ : MethodName)) (z := (⟨OwnK1, "hasAhead", "()Z"⟩ : MethodName)) hown (oW hw 62 rfl) (oW hw 63 rfl) (notFace_of_selects (args := #[]) (mvT hZ (oW hw 65 rfl))) (oW hw 65 rfl) (oW hw 64 rfl) (oW hw 53 rfl) (oW hw 66 rfl) (by decide) (sp109 l Z a0 hw [] b517 T531.heap n0 Z_531 fq1_531) rfl cf545 0 (argsL := []) (rest := []) (Ls := #[iv x0, iv x1, .val (.long x2), .second, iv 3, iv 3, rv b1, rv b8, rv b19, rv b34, rv b517, .unset]) (by rw [hml]; rfl) (lenOf qQ158 rfl) rfl rfl (Nat.le_of_eq rfl) (hb hB at_139) (by decide) (by decide) (by decide) (by decide)
      replace X546 := own_nil X546
      refine oG T546 m 142 #[iv x0, iv x1, .val (.long x2), .second, iv 3, iv 3, rv b1, rv b8, rv b19, rv b34, rv b517, .unset] [(.int 1)] (st546) ?_
      refine oG T546 m 144 #[iv x0, iv x1, .val (.long x2), .second, iv 3, iv 3, rv b1, rv b8, rv b19, rv b34, rv b517, iv 1] [] (fun t k => XS.istore X546.here hx rfl (hb hB at_142) rfl rfl k) ?_
      refine oG T546 m 146 #[iv x0, iv x1, .val (.long x2), .second, iv 3, iv 3, rv b1, rv b8, rv b19, rv b34, rv b517, iv 1] [(.int 1)] (fun t k => XS.iload X546.here hx rfl (hb hB at_144) rfl k) ?_
      refine oG T546 m 148 #[iv x0, iv x1, .val (.long x2), .second, iv 3, iv 3, rv b1, rv b8, rv b19, rv b34, rv b517, iv 1] [(.int 3), (.int 1)] (fun t k => XS.iload X546.here hx rfl (hb hB at_146) rfl k) ?_
      refine oG T546 m 151 #[iv x0, iv x1, .val (.long x2), .second, iv 3, iv 3, rv b1, rv b8, rv b19, rv b34, rv b517, iv 1] [(.int 1)] (fun t k => XS.ifNo X546.here hx rfl (hb hB at_148) rfl ((if0 _ _).trans (tlt (by decide)).2.2.2) k) ?_
      refine oG T546 m 152 #[iv x0, iv x1, .val (.long x2), .second, iv 3, iv 3, rv b1, rv b8, rv b19, rv b34, rv b517, iv 1] [(.int 1), (.int 1)] (fun t k => XS.iconst X546.here hx rfl (hb hB at_151) k) ?_
      refine oG T546 m 156 #[iv x0, iv x1, .val (.long x2), .second, iv 3, iv 3, rv b1, rv b8, rv b19, rv b34, rv b517, iv 1] [(.int 1), (.int 1)] (fun t k => XS.goto X546.here hx rfl (pc0 := 152) (pc' := 156) rfl (hb hB at_152) (by decide) (by decide) k) ?_
      refine oG T546 m 161 #[iv x0, iv x1, .val (.long x2), .second, iv 3, iv 3, rv b1, rv b8, rv b19, rv b34, rv b517, iv 1] [] (fun t k => XS.icmpYes X546.here hx rfl (pc0 := 156) (pc' := 161) rfl (hb hB at_156) rfl (teq (by decide)).1 (by decide) (by decide) k) ?_
      refine oG T546 m 163 #[iv x0, iv x1, .val (.long x2), .second, iv 3, iv 3, rv b1, rv b8, rv b19, rv b34, rv b517, iv 1] [(.int 3)] (fun t k => XS.iload X546.here hx rfl (hb hB at_161) rfl k) ?_
      refine oG T546 m 164 #[iv x0, iv x1, .val (.long x2), .second, iv 3, iv 3, rv b1, rv b8, rv b19, rv b34, rv b517, iv 1] [(.int 1), (.int 3)] (fun t k => XS.iconst X546.here hx rfl (hb hB at_163) k) ?_
      refine oG T546 m 167 #[iv x0, iv x1, .val (.long x2), .second, iv 3, iv 3, rv b1, rv b8, rv b19, rv b34, rv b517, iv 1] [] (fun t k => XS.icmpNo X546.here hx rfl (hb hB at_164) rfl (flt (by decide)).1 k) ?_
      refine oG T546 m 169 #[iv x0, iv x1, .val (.long x2), .second, iv 3, iv 3, rv b1, rv b8, rv b19, rv b34, rv b517, iv 1] [(.int 1)] (fun t k => XS.iload X546.here hx rfl (hb hB at_167) rfl k) ?_
      refine oG T546 m 171 #[iv x0, iv x1, .val (.long x2), .second, iv 3, iv 3, rv b1, rv b8, rv b19, rv b34, rv b517, iv 1] [(.ref b517), (.int 1)] (fun t k => XS.aload X546.here hx rfl (hb hB at_169) rfl rfl k) ?_
      refine oG T546 m 173 #[iv x0, iv x1, .val (.long x2), .second, iv 3, iv 3, rv b1, rv b8, rv b19, rv b34, rv b517, iv 1] [(.ref b1), (.ref b517), (.int 1)] (fun t k => XS.aload X546.here hx rfl (hb hB at_171) rfl rfl k) ?_
      obtain ⟨_, T547, L547, X547, ⟨rfl, Nq547, Kq547⟩, st547⟩ := own_virtual X546 hx hZ (y := (⟨OwnK1, "isOfBacklog", "(Lcom/example/newt/newt/core/delivery/Change;)Z"⟩ : MethodName)) (z := (⟨OwnK1, "isOfBacklog", "(Lcom/example/newt/newt/core/delivery/Change;)Z"⟩ : MethodName)) hown (oW hw 98 rfl) (oW hw 99 rfl) (notFace_of_selects (args := #[]) (mvT hZ (oW hw 101 rfl))) (oW hw 101 rfl) (oW hw 100 rfl) (oW hw 53 rfl) (oW hw 102 rfl) (by decide) (sp110 l Z a0 hw [] b517 b1 b34 T531.heap n0 Z_531 fq1_531 fq0_531 cf534 cf540 cf542 cf544 (Ne.symm ne_b1_b517) (Ne.symm ne_b34_b517)) e546 cf545 1 (argsL := [(.ref b1)]) (rest := [(.int 1)]) (Ls := #[iv x0, iv x1, .val (.long x2), .second, iv 3, iv 3, rv b1, rv b8, rv b19, rv b34, rv b517, iv 1]) (by rw [hml]; rfl) (lenOf qQ20 rfl) rfl rfl (Nat.le_of_eq rfl) (hb hB at_173) (by decide) (by decide) (by decide) (by decide)
      have N547 := Fr.app N531 Nq547
      have cf548 := own_sta_keep cf532 Kq547
      have cf549 := cf533.keep Kq547 nin0
      have cf550 := cf534.keep Kq547
      have cf551 := cf535.keep Kq547 nin0
      have cf552 := cf536.keep Kq547
      have cf553 := cf537.keep Kq547 nin0
      have cf554 := cf538.keep Kq547
      have cf555 := cf539.keep Kq547 nin0
      have cf556 := cf540.keep Kq547
      have cf557 := cf541.keep Kq547 nin0
      have cf558 := cf542.keep Kq547 nin0
      have cf559 := cf543.keep Kq547 nin0
      have cf560 := cf544.keep Kq547 nin0
      have cf561 := cf545.keep Kq547
      have cf562 := fq0_531.keep Kq547 nin0
      have cf563 := fq1_531.keep Kq547 nin0
      have Z_547 : n0 ≤ T547.heap.size := Nat.le_trans Z_531 Kq547.1
      refine oG T547 m 176 #[iv x0, iv x1, .val (.long x2), .second, iv 3, iv 3, rv b1, rv b8, rv b19, rv b34, rv b517, iv 1] [(.int 0), (.int 1)] (st547) ?_
      refine oG T547 m 181 #[iv x0, iv x1, .val (.long x2), .second, iv 3, iv 3, rv b1, rv b8, rv b19, rv b34, rv b517, iv 1] [] (fun t k => XS.icmpYes X547.here hx rfl (pc0 := 176) (pc' := 181) rfl (hb hB at_176) rfl (feq (by decide)).2 (by decide) (by decide) k) ?_
      refine oG T547 m 182 #[iv x0, iv x1, .val (.long x2), .second, iv 3, iv 3, rv b1, rv b8, rv b19, rv b34, rv b517, iv 1] [(.int 1)] (fun t k => XS.iconst X547.here hx rfl (hb hB at_181) k) ?_
      refine own_retZ X547 hx hlk hret (by decide) (hb hB at_182) (by decide) (by decide) ?_
      exact ⟨rfl, N547⟩
theorem comes_1 {Post : Tables → Env → Array Value → State → Outcome → State → Prop} (hpost : ∀ tb e args s v u, (limb_1_1.after args s (.returned v) u = true ∧ limb_1_2.after args s (.returned v) u = true ∧ True) → FrameEnd s (.returned v) u (Jvm.fieldLocs frame_1_writes args s ++ Jvm.arrayLocs frame_1_arrays args s ++ Jvm.staticLocs frame_1_statics s) 24 192 → Post tb e args s (.returned v) u) :
    ArmFor flags0 classFile x code maxLocals ret World_1 tables_1 room_1 Calls_1 rest_1 Pre_1 Post := by
  intro l hfl _ _ p e ha hc hk s m args below hf hA hF happ hP
  obtain ⟨hcalls, hrest, hpre⟩ := hP
  obtain ⟨-, -, -, hnamed, -, -, -, hat⟩ := (Spec.applies_iff hf).mp happ
  obtain ⟨hg, hn⟩ := and_e (Cond.before_iff.mp (show (Jvm.Cond.and given_1 narrow_1).before args s = true from hpre))
  obtain ⟨gg1, gg2⟩ := and_e hg
  obtain ⟨gg3, gg4⟩ := and_e gg2
  obtain ⟨gg5, gg6⟩ := and_e gg4
  obtain ⟨w0, w1, w2, rfl⟩ : ∃ w0 w1 w2 : Value, args = #[w0, w1, w2] := by
    have hs : args.size = 3 := by simpa [Cond.value, given_1] using gg1
    obtain ⟨L⟩ := args
    match L, hs with
    | [w0, w1, w2], _ => exact ⟨w0, w1, w2, rfl⟩
  have hw := fun d (hd : d ∈ tables_1) => atoms_spec (ws := Jvm.Cond.code x code maxLocals ret :: tables_1) hat d (List.mem_cons_of_mem _ hd)
  have hfit : Fit s := fun {y c} hc i hi => by
    obtain ⟨ha, rfl⟩ := Array.getElem?_eq_some_iff.mp hc
    have q := List.all_eq_true.mp ((Array.all_eq_true_iff_forall_mem.mp hF) _ (Array.getElem_mem ha)) i (List.mem_range.mpr hi)
    simpa [Array.getElem?_eq_getElem hi] using q
  obtain ⟨hsets, hown0⟩ := atoms_of _ (rest_1_c_eq ▸ (show rest_1_c.before _ s = true from hrest))
  obtain ⟨i0, ei0⟩ := is_v gg3
  obtain rfl : w0 = (.int i0) := Option.some.inj ei0
  obtain ⟨i1, ei1⟩ := is_v gg5
  obtain rfl : w1 = (.int i1) := Option.some.inj ei1
  obtain ⟨i2, ei2⟩ := isL_v gg6
  obtain rfl : w2 = (.long i2) := Option.some.inj ei2
  obtain ⟨aE, ev_E⟩ := arr_v (Cond.before_iff.mp (hsets _ (List.mem_of_getElem? (i := 6) rfl)))
  have S_D := Sta.start ev_E (Or.inr ⟨(oW hw 29 rfl), (hsets _ (List.mem_of_getElem? (i := 2) rfl))⟩)
  obtain ⟨kE, V_E⟩ := own_empty ev_E (hsets _ (List.mem_of_getElem? (i := 6) rfl)) (hsets _ (List.mem_of_getElem? (i := 8) rfl))
  obtain ⟨n, o, h1, h2, h3, _, L, rfl, ⟨rfl, N⟩, hq⟩ := rm0 l s _ hw tables_1 i0 i1 i2 aE kE s.heap s.heap.size (Nat.le_refl _) S_D V_E p e ha hc hk s m _ below hf ((Spec.applies_iff_loose hf).mp happ).1 ⟨rfl, State.Warmed39.refl s, rfl⟩ trivial
  refine ⟨n, _, h1, h2, h3, hpost _ _ _ _ _ _ ⟨Cond.after_iff.mpr rfl, Cond.after_iff.mpr (eq_i res_at (Term.int_eval (1)) rfl), trivial⟩ ⟨hq.1, hq.2.1, (hq.2.2.sift fun y hy => Or.inr (N y hy)).mono (by decide) (by decide)⟩⟩
theorem main_1_1 : Claimed_1_1 := comes_1 fun _ _ _ _ _ _ h hF => ⟨h.1, hF⟩
theorem main_1_2 : Claimed_1_2 := comes_1 fun _ _ _ _ _ _ h hF => ⟨h.2.1, hF⟩
end Jvm.Pilot.@@N@@
namespace Jvm.Pilot.@@N@@
open Jvm Jvm.ClassFile Sem Op Lib Jvm.Free Jvm.Stand Jvm.Pilot.@@N@@.Jvm.D
/-! MADE BY PROGRAM (witnessworld.py) out of the Statement's table words and the real class files: 24 classes; the members and pool entries that the words name. The judged class is class 1, her method 1. -/
namespace start1
open Jvm.ClassFile
def u (s : String) : CpInfo := .utf8 (stringToUtf16 s)
/-- a pool by its gaps: so many unusable entries, then the entry; so many at the end -/
def gap : Nat → List CpInfo → List CpInfo
  | 0, r => r
  | n + 1, r => .unusable :: gap n r
def poolList (es : List (Nat × CpInfo)) (last : Nat) : List CpInfo := es.foldr (fun e r => gap e.1 (e.2 :: r)) (gap last [])
def pool (es : List (Nat × CpInfo)) (last : Nat) : Array CpInfo := ⟨poolList es last⟩
def fileOf (pool : Array CpInfo) (this : Nat) (attrs : Array Attribute := #[]) (ms : Array MethodInfo := #[]) (fl : Nat := 33) (sup : Nat := 0) (ifs : Array Nat := #[]) (fds : Array FieldInfo := #[]) : ClassFile where
  minorVersion := 0
  majorVersion := 65
  constantPool := pool
  accessFlags := fl
  thisClass := this
  superClass := sup
  interfaces := ifs
  fields := fds
  methods := ms
  attributes := attrs
def plain (name : String) (sup : Option ClassId) : Class where
  name := name
  kind := .ordinary
  loader := none
  accessFlags := 33
  super := sup
  interfaces := #[]
  cf := none
  fields := #[]
  methods := #[]
  instanceTypes := #[]
  staticTypes := #[]
  resolved := #[]
  callSites := []
  init := .initialized
  statics := none
  mirror := none

def pool0 : Array CpInfo := pool [(5, u "<init>"), (0, u "()V"), (1, .class_ 10), (1, u "java/lang/Object")] 113

def k0c0 : Code := { maxStack := 0, maxLocals := 1, code := object_method_1_code, exceptionTable := #[], attributes := #[] }
def k0m0 : Method := { name := "<init>", desc := "()V", sig := { parameters := [], returnType := none }, accessFlags := 1, code := some k0c0 }
/-- java/lang/Object -/
def k0 : Class := { plain "java/lang/Object" none with
  accessFlags := 33
  interfaces := #[]
  cf := some (fileOf pool0 8 #[] #[{ accessFlags := 1, nameIndex := 5, descriptorIndex := 6, attributes := #[] }] 33 0 #[] #[])
  fields := #[]
  methods := #[k0m0]
  instanceTypes := #[]
  staticTypes := #[]
  resolved := Array.replicate 124 none
  statics := none }

def pool1 : Array CpInfo := pool [(2, .class_ 4), (0, .nameAndType 5 6), (0, u "java/lang/Object"), (0, u "<init>"), (0, u "()V"), (0, .integer 2147483647), (0, .class_ 9), (0, u "com/example/newt/newt/core/delivery/Change"), (0, .methodref 8 11), (0, .nameAndType 5 12), (0, u "(JLjava/lang/String;Ljava/lang/String;Ljava/lang/String;Ljava/util/Optional;ILjava/util/OptionalLong;Ljava/util/Optional;)V"), (0, .long 2), (1, .class_ 16), (0, u "java/util/ArrayList"), (0, .methodref 15 3), (0, .methodref 15 19), (0, .nameAndType 20 21), (0, u "add"), (0, u "(Ljava/lang/Object;)Z"), (0, .class_ 23), (0, u "com/example/newt/newt/core/delivery/Outbox$Claim"), (0, .methodref 22 25), (0, .nameAndType 5 26), (0, u "(Ljava/util/List;I)V"), (0, .methodref 22 28), (0, .nameAndType 29 30), (0, u "hasAhead"), (0, u "()Z"), (0, .methodref 22 32), (0, .nameAndType 33 34), (0, u "isOfBacklog"), (0, u "(Lcom/example/newt/newt/core/delivery/Change;)Z"), (0, .class_ 36), (0, u "com/example/newt/newt/core/delivery/ClaimHasAheadPinLaw"), (2, u "law"), (0, u "(IIJ)Z")] 7

def k1m0 : Method := { name := "<init>", desc := "()V", sig := { parameters := [], returnType := none }, accessFlags := 1, code := none }
def k1c1 : Code := { maxStack := 11, maxLocals := 12, code := code, exceptionTable := #[], attributes := #[] }
def k1m1 : Method := { name := "law", desc := "(IIJ)Z", sig := { parameters := [.int, .int, .long], returnType := some .boolean }, accessFlags := 9, code := some k1c1 }
/-- com/example/newt/newt/core/delivery/ClaimHasAheadPinLaw -/
def k1 : Class := { plain "com/example/newt/newt/core/delivery/ClaimHasAheadPinLaw" (some 0) with
  accessFlags := 49
  interfaces := #[]
  cf := some (fileOf pool1 35 #[] #[{ accessFlags := 1, nameIndex := 5, descriptorIndex := 6, attributes := #[] }, { accessFlags := 9, nameIndex := 39, descriptorIndex := 40, attributes := #[] }] 49 2 #[] #[])
  fields := #[]
  methods := #[k1m0, k1m1]
  instanceTypes := #[]
  staticTypes := #[]
  resolved := Array.replicate 48 none
  statics := none }

def pool2 : Array CpInfo := pool [(1, .methodref 2 3), (0, .class_ 4), (0, .nameAndType 5 6), (0, u "java/lang/Object"), (0, u "<init>"), (0, u "()V"), (0, .fieldref 8 9), (0, .class_ 10), (0, .nameAndType 11 12), (0, u "com/example/newt/newt/core/delivery/Change"), (0, u "id"), (0, u "J"), (0, .fieldref 8 14), (0, .nameAndType 15 16), (0, u "feed"), (0, u "Ljava/lang/String;"), (0, .fieldref 8 18), (0, .nameAndType 19 16), (0, u "key"), (0, .fieldref 8 21), (0, .nameAndType 22 16), (0, u "payload"), (0, .fieldref 8 24), (0, .nameAndType 25 26), (0, u "identifier"), (0, u "Ljava/util/Optional;"), (0, .fieldref 8 28), (0, .nameAndType 29 30), (0, u "attempts"), (0, u "I"), (0, .fieldref 8 32), (0, .nameAndType 33 34), (0, u "replayOf"), (0, u "Ljava/util/OptionalLong;"), (0, .fieldref 8 36), (0, .nameAndType 37 26), (0, u "job"), (3, u "(JLjava/lang/String;Ljava/lang/String;Ljava/lang/String;Ljava/util/Optional;ILjava/util/OptionalLong;Ljava/util/Optional;)V"), (3, u "getId"), (0, u "()J")] 18

def k2c0 : Code := { maxStack := 3, maxLocals := 10, code := prog_6_method_1_code, exceptionTable := #[], attributes := #[] }
def k2m0 : Method := { name := "<init>", desc := "(JLjava/lang/String;Ljava/lang/String;Ljava/lang/String;Ljava/util/Optional;ILjava/util/OptionalLong;Ljava/util/Optional;)V", sig := { parameters := [.long, (.object "java/lang/String"), (.object "java/lang/String"), (.object "java/lang/String"), (.object "java/util/Optional"), .int, (.object "java/util/OptionalLong"), (.object "java/util/Optional")], returnType := none }, accessFlags := 1, code := some k2c0 }
def k2c1 : Code := { maxStack := 2, maxLocals := 1, code := prog_6_method_2_code, exceptionTable := #[], attributes := #[] }
def k2m1 : Method := { name := "getId", desc := "()J", sig := { parameters := [], returnType := some .long }, accessFlags := 1, code := some k2c1 }
/-- com/example/newt/newt/core/delivery/Change -/
def k2 : Class := { plain "com/example/newt/newt/core/delivery/Change" (some 0) with
  accessFlags := 33
  interfaces := #[]
  cf := some (fileOf pool2 8 #[] #[{ accessFlags := 1, nameIndex := 5, descriptorIndex := 41, attributes := #[] }, { accessFlags := 1, nameIndex := 45, descriptorIndex := 46, attributes := #[] }] 33 2 #[] #[{ accessFlags := 18, nameIndex := 11, descriptorIndex := 12, attributes := #[] }, { accessFlags := 18, nameIndex := 15, descriptorIndex := 16, attributes := #[] }, { accessFlags := 18, nameIndex := 19, descriptorIndex := 16, attributes := #[] }, { accessFlags := 18, nameIndex := 22, descriptorIndex := 16, attributes := #[] }, { accessFlags := 18, nameIndex := 25, descriptorIndex := 26, attributes := #[] }, { accessFlags := 18, nameIndex := 29, descriptorIndex := 30, attributes := #[] }, { accessFlags := 18, nameIndex := 33, descriptorIndex := 34, attributes := #[] }, { accessFlags := 18, nameIndex := 37, descriptorIndex := 26, attributes := #[] }])
  fields := #[{ name := "id", type := .long, accessFlags := 18, slot := 0, constantValue := 0 }, { name := "feed", type := (.object "java/lang/String"), accessFlags := 18, slot := 1, constantValue := 0 }, { name := "key", type := (.object "java/lang/String"), accessFlags := 18, slot := 2, constantValue := 0 }, { name := "payload", type := (.object "java/lang/String"), accessFlags := 18, slot := 3, constantValue := 0 }, { name := "identifier", type := (.object "java/util/Optional"), accessFlags := 18, slot := 4, constantValue := 0 }, { name := "attempts", type := .int, accessFlags := 18, slot := 5, constantValue := 0 }, { name := "replayOf", type := (.object "java/util/OptionalLong"), accessFlags := 18, slot := 6, constantValue := 0 }, { name := "job", type := (.object "java/util/Optional"), accessFlags := 18, slot := 7, constantValue := 0 }]
  methods := #[k2m0, k2m1]
  instanceTypes := #[.long, (.object "java/lang/String"), (.object "java/lang/String"), (.object "java/lang/String"), (.object "java/util/Optional"), .int, (.object "java/util/OptionalLong"), (.object "java/util/Optional")]
  staticTypes := #[]
  resolved := Array.replicate 65 none
  statics := none }

def pool3 : Array CpInfo := pool [(8, .class_ 10), (1, u "java/lang/Iterable"), (24, .class_ 36), (0, u "java/lang/Object")] 25

/-- java/lang/Iterable -/
def k3 : Class := { plain "java/lang/Iterable" (some 0) with
  accessFlags := 1537
  interfaces := #[]
  cf := some (fileOf pool3 8 #[] #[] 1537 35 #[] #[])
  fields := #[]
  methods := #[]
  instanceTypes := #[]
  staticTypes := #[]
  resolved := Array.replicate 62 none
  statics := none }

def pool4 : Array CpInfo := pool [(10, .class_ 12), (1, u "java/util/Collection"), (47, .class_ 61), (0, u "java/lang/Object"), (0, .class_ 63), (0, u "java/lang/Iterable")] 51

/-- java/util/Collection -/
def k4 : Class := { plain "java/util/Collection" (some 0) with
  accessFlags := 1537
  interfaces := #[3]
  cf := some (fileOf pool4 10 #[] #[] 1537 60 #[62] #[])
  fields := #[]
  methods := #[]
  instanceTypes := #[]
  staticTypes := #[]
  resolved := Array.replicate 115 none
  statics := none }

def pool5 : Array CpInfo := pool [(1, .methodref 2 3), (0, .class_ 4), (0, .nameAndType 5 6), (0, u "java/lang/Object"), (0, u "<init>"), (0, u "()V"), (1, .class_ 10), (1, u "java/util/AbstractCollection"), (66, .class_ 78), (0, u "java/util/Collection")] 81

def k5c0 : Code := { maxStack := 1, maxLocals := 1, code := jdk_22_method_1_code, exceptionTable := #[], attributes := #[] }
def k5m0 : Method := { name := "<init>", desc := "()V", sig := { parameters := [], returnType := none }, accessFlags := 4, code := some k5c0 }
/-- java/util/AbstractCollection -/
def k5 : Class := { plain "java/util/AbstractCollection" (some 0) with
  accessFlags := 1057
  interfaces := #[4]
  cf := some (fileOf pool5 8 #[] #[{ accessFlags := 4, nameIndex := 5, descriptorIndex := 6, attributes := #[] }] 1057 2 #[77] #[])
  fields := #[]
  methods := #[k5m0]
  instanceTypes := #[]
  staticTypes := #[]
  resolved := Array.replicate 160 none
  statics := none }

def pool6 : Array CpInfo := pool [(8, .class_ 10), (1, u "java/util/SequencedCollection"), (15, .class_ 27), (0, u "java/lang/Object"), (0, .class_ 29), (0, u "java/util/Collection")] 27

/-- java/util/SequencedCollection -/
def k6 : Class := { plain "java/util/SequencedCollection" (some 0) with
  accessFlags := 1537
  interfaces := #[4]
  cf := some (fileOf pool6 8 #[] #[] 1537 26 #[28] #[])
  fields := #[]
  methods := #[]
  instanceTypes := #[]
  staticTypes := #[]
  resolved := Array.replicate 57 none
  statics := none }

def pool7 : Array CpInfo := pool [(8, .class_ 10), (1, u "java/util/List"), (68, u "size"), (0, u "()I"), (22, .class_ 104), (0, u "java/lang/Object"), (15, .class_ 121), (0, u "java/util/SequencedCollection"), (1, u "iterator"), (0, u "()Ljava/util/Iterator;"), (57, u "subList"), (0, u "(II)Ljava/util/List;")] 67

def k7m0 : Method := { name := "size", desc := "()I", sig := { parameters := [], returnType := some .int }, accessFlags := 1025, code := none }
def k7m1 : Method := { name := "iterator", desc := "()Ljava/util/Iterator;", sig := { parameters := [], returnType := some (.object "java/util/Iterator") }, accessFlags := 1025, code := none }
def k7m2 : Method := { name := "subList", desc := "(II)Ljava/util/List;", sig := { parameters := [.int, .int], returnType := some (.object "java/util/List") }, accessFlags := 1025, code := none }
/-- java/util/List -/
def k7 : Class := { plain "java/util/List" (some 0) with
  accessFlags := 1537
  interfaces := #[6]
  cf := some (fileOf pool7 8 #[] #[{ accessFlags := 1025, nameIndex := 79, descriptorIndex := 80, attributes := #[] }, { accessFlags := 1025, nameIndex := 123, descriptorIndex := 124, attributes := #[] }, { accessFlags := 1025, nameIndex := 182, descriptorIndex := 183, attributes := #[] }] 1537 103 #[120] #[])
  fields := #[]
  methods := #[k7m0, k7m1, k7m2]
  instanceTypes := #[]
  staticTypes := #[]
  resolved := Array.replicate 251 none
  statics := none }

def pool8 : Array CpInfo := pool [(1, .methodref 2 3), (0, .class_ 4), (0, .nameAndType 5 6), (0, u "java/util/AbstractCollection"), (0, u "<init>"), (0, u "()V"), (0, .fieldref 8 9), (0, .class_ 10), (0, .nameAndType 11 12), (0, u "java/util/AbstractList"), (0, u "modCount"), (0, u "I"), (13, u "listIterator"), (0, u "()Ljava/util/ListIterator;"), (19, .methodref 8 48), (0, .nameAndType 26 49), (0, u "(I)Ljava/util/ListIterator;"), (27, .class_ 78), (0, u "java/util/AbstractList$Itr"), (3, .class_ 83), (0, u "java/util/AbstractList$ListItr"), (5, u "subListRangeCheck"), (0, u "(III)V"), (2, .class_ 94), (0, u "java/util/AbstractList$RandomAccessSubList"), (3, .class_ 99), (0, u "java/util/AbstractList$SubList"), (33, .class_ 134), (0, u "java/util/List"), (73, .class_ 209), (0, u "java/util/AbstractList$SubList$1"), (0, .class_ 211), (0, u "java/util/AbstractList$RandomAccessSpliterator")] 6

def k8c0 : Code := { maxStack := 2, maxLocals := 1, code := jdk_39_method_1_code, exceptionTable := #[], attributes := #[] }
def k8m0 : Method := { name := "<init>", desc := "()V", sig := { parameters := [], returnType := none }, accessFlags := 4, code := some k8c0 }
def k8c1 : Code := { maxStack := 2, maxLocals := 1, code := jdk_39_method_12_code, exceptionTable := #[], attributes := #[] }
def k8m1 : Method := { name := "listIterator", desc := "()Ljava/util/ListIterator;", sig := { parameters := [], returnType := some (.object "java/util/ListIterator") }, accessFlags := 1, code := some k8c1 }
def k8c2 : Code := { maxStack := 4, maxLocals := 2, code := ⟨#[0x2a, 0x1b, 0xb6, 0x00, 0x3f, 0xbb, 0x00, 0x52, 0x59, 0x2a, 0x1b, 0xb7, 0x00, 0x54, 0xb0]⟩, exceptionTable := #[], attributes := #[] }
def k8m2 : Method := { name := "listIterator", desc := "(I)Ljava/util/ListIterator;", sig := { parameters := [.int], returnType := some (.object "java/util/ListIterator") }, accessFlags := 1, code := some k8c2 }
def k8c3 : Code := { maxStack := 4, maxLocals := 3, code := jdk_39_method_15_code, exceptionTable := #[], attributes := #[] }
def k8m3 : Method := { name := "subListRangeCheck", desc := "(III)V", sig := { parameters := [.int, .int, .int], returnType := none }, accessFlags := 8, code := some k8c3 }
/-- java/util/AbstractList -/
def k8 : Class := { plain "java/util/AbstractList" (some 5) with
  accessFlags := 1057
  interfaces := #[7]
  cf := some (fileOf pool8 8 #[.nestMembers #[93, 98, 208, 210, 82, 77]] #[{ accessFlags := 4, nameIndex := 5, descriptorIndex := 6, attributes := #[] }, { accessFlags := 1, nameIndex := 26, descriptorIndex := 27, attributes := #[] }, { accessFlags := 1, nameIndex := 26, descriptorIndex := 49, attributes := #[] }, { accessFlags := 8, nameIndex := 89, descriptorIndex := 90, attributes := #[] }] 1057 2 #[133] #[{ accessFlags := 132, nameIndex := 11, descriptorIndex := 12, attributes := #[] }])
  fields := #[{ name := "modCount", type := .int, accessFlags := 132, slot := 0, constantValue := 0 }]
  methods := #[k8m0, k8m1, k8m2, k8m3]
  instanceTypes := #[.int]
  staticTypes := #[]
  resolved := Array.replicate 218 none
  statics := none }

def pool9 : Array CpInfo := pool [(1, .class_ 2), (0, u "java/util/RandomAccess"), (0, .class_ 4), (0, u "java/lang/Object")] 2

/-- java/util/RandomAccess -/
def k9 : Class := { plain "java/util/RandomAccess" (some 0) with
  accessFlags := 1537
  interfaces := #[]
  cf := some (fileOf pool9 1 #[] #[] 1537 3 #[] #[])
  fields := #[]
  methods := #[]
  instanceTypes := #[]
  staticTypes := #[]
  resolved := Array.replicate 7 none
  statics := none }

def pool10 : Array CpInfo := pool [(1, .class_ 2), (0, u "java/lang/Cloneable"), (0, .class_ 4), (0, u "java/lang/Object")] 2

/-- java/lang/Cloneable -/
def k10 : Class := { plain "java/lang/Cloneable" (some 0) with
  accessFlags := 1537
  interfaces := #[]
  cf := some (fileOf pool10 1 #[] #[] 1537 3 #[] #[])
  fields := #[]
  methods := #[]
  instanceTypes := #[]
  staticTypes := #[]
  resolved := Array.replicate 7 none
  statics := none }

def pool11 : Array CpInfo := pool [(1, .class_ 2), (0, u "java/io/Serializable"), (0, .class_ 4), (0, u "java/lang/Object")] 2

/-- java/io/Serializable -/
def k11 : Class := { plain "java/io/Serializable" (some 0) with
  accessFlags := 1537
  interfaces := #[]
  cf := some (fileOf pool11 1 #[] #[] 1537 3 #[] #[])
  fields := #[]
  methods := #[]
  instanceTypes := #[]
  staticTypes := #[]
  resolved := Array.replicate 7 none
  statics := none }

def pool12 : Array CpInfo := pool [(1, .methodref 2 3), (0, .class_ 4), (0, .nameAndType 5 6), (0, u "java/util/AbstractList"), (0, u "<init>"), (0, u "()V"), (0, .class_ 8), (0, u "java/lang/Object"), (0, .fieldref 10 11), (0, .class_ 12), (0, .nameAndType 13 14), (0, u "java/util/ArrayList"), (0, u "elementData"), (0, u "[Ljava/lang/Object;"), (2, u "EMPTY_ELEMENTDATA"), (21, .fieldref 10 40), (0, .nameAndType 41 14), (0, u "DEFAULTCAPACITY_EMPTY_ELEMENTDATA"), (5, u "()[Ljava/lang/Object;"), (0, .fieldref 10 49), (0, .nameAndType 50 51), (0, u "size"), (0, u "I"), (11, .fieldref 10 64), (0, .nameAndType 65 51), (0, u "modCount"), (3, .methodref 10 70), (0, .nameAndType 71 72), (0, u "grow"), (0, u "(I)[Ljava/lang/Object;"), (6, .methodref 80 81), (0, .class_ 82), (0, .nameAndType 83 84), (0, u "java/lang/Math"), (0, u "max"), (0, u "(II)I"), (11, u "(Ljava/lang/Object;)Z"), (32, .methodref 10 130), (0, .nameAndType 71 47), (0, .methodref 10 132), (0, .nameAndType 133 134), (0, u "add"), (0, u "(Ljava/lang/Object;[Ljava/lang/Object;I)V"), (13, .class_ 149), (0, u "java/util/List"), (36, u "()I"), (75, .class_ 263), (0, u "java/util/ArrayList$ListItr"), (3, .class_ 268), (0, u "java/util/ArrayList$Itr"), (3, .methodref 10 273), (0, .nameAndType 274 275), (0, u "subListRangeCheck"), (0, u "(III)V"), (0, .class_ 277), (0, u "java/util/ArrayList$SubList"), (0, .methodref 276 279), (0, .nameAndType 5 280), (0, u "(Ljava/util/ArrayList;II)V"), (9, .class_ 291), (0, u "java/util/ArrayList$ArrayListSpliterator"), (37, .class_ 330), (0, u "java/util/RandomAccess"), (0, .class_ 332), (0, u "java/lang/Cloneable"), (0, .class_ 334), (0, u "java/io/Serializable"), (0, u "serialVersionUID"), (0, u "J"), (3, u "DEFAULT_CAPACITY"), (118, u "subList"), (0, u "(II)Ljava/util/List;"), (39, .class_ 501), (0, u "java/util/ArrayList$SubList$2"), (0, .class_ 503), (0, u "java/util/ArrayList$SubList$1")] 5

def k12c0 : Code := { maxStack := 2, maxLocals := 1, code := jdk_38_method_2_code, exceptionTable := #[], attributes := #[] }
def k12m0 : Method := { name := "<init>", desc := "()V", sig := { parameters := [], returnType := none }, accessFlags := 1, code := some k12c0 }
def k12c1 : Code := { maxStack := 4, maxLocals := 4, code := jdk_38_method_6_code, exceptionTable := #[], attributes := #[] }
def k12m1 : Method := { name := "grow", desc := "(I)[Ljava/lang/Object;", sig := { parameters := [.int], returnType := some (.array (.object "java/lang/Object")) }, accessFlags := 2, code := some k12c1 }
def k12c2 : Code := { maxStack := 3, maxLocals := 1, code := jdk_38_method_7_code, exceptionTable := #[], attributes := #[] }
def k12m2 : Method := { name := "grow", desc := "()[Ljava/lang/Object;", sig := { parameters := [], returnType := some (.array (.object "java/lang/Object")) }, accessFlags := 2, code := some k12c2 }
def k12c3 : Code := { maxStack := 1, maxLocals := 1, code := jdk_38_method_8_code, exceptionTable := #[], attributes := #[] }
def k12m3 : Method := { name := "size", desc := "()I", sig := { parameters := [], returnType := some .int }, accessFlags := 1, code := some k12c3 }
def k12c4 : Code := { maxStack := 3, maxLocals := 4, code := jdk_38_method_24_code, exceptionTable := #[], attributes := #[] }
def k12m4 : Method := { name := "add", desc := "(Ljava/lang/Object;[Ljava/lang/Object;I)V", sig := { parameters := [(.object "java/lang/Object"), (.array (.object "java/lang/Object")), .int], returnType := none }, accessFlags := 2, code := some k12c4 }
def k12c5 : Code := { maxStack := 4, maxLocals := 2, code := jdk_38_method_25_code, exceptionTable := #[], attributes := #[] }
def k12m5 : Method := { name := "add", desc := "(Ljava/lang/Object;)Z", sig := { parameters := [(.object "java/lang/Object")], returnType := some .boolean }, accessFlags := 1, code := some k12c5 }
def k12c6 : Code := { maxStack := 5, maxLocals := 3, code := jdk_38_method_56_code, exceptionTable := #[], attributes := #[] }
def k12m6 : Method := { name := "subList", desc := "(II)Ljava/util/List;", sig := { parameters := [.int, .int], returnType := some (.object "java/util/List") }, accessFlags := 1, code := some k12c6 }
/-- java/util/ArrayList -/
def k12 : Class := { plain "java/util/ArrayList" (some 8) with
  accessFlags := 33
  interfaces := #[7, 9, 10, 11]
  cf := some (fileOf pool12 10 #[.nestMembers #[290, 276, 500, 502, 262, 267]] #[{ accessFlags := 1, nameIndex := 5, descriptorIndex := 6, attributes := #[] }, { accessFlags := 2, nameIndex := 71, descriptorIndex := 72, attributes := #[] }, { accessFlags := 2, nameIndex := 71, descriptorIndex := 47, attributes := #[] }, { accessFlags := 1, nameIndex := 50, descriptorIndex := 186, attributes := #[] }, { accessFlags := 2, nameIndex := 133, descriptorIndex := 134, attributes := #[] }, { accessFlags := 1, nameIndex := 133, descriptorIndex := 96, attributes := #[] }, { accessFlags := 1, nameIndex := 459, descriptorIndex := 460, attributes := #[] }] 33 2 #[148, 329, 331, 333] #[{ accessFlags := 26, nameIndex := 335, descriptorIndex := 336, attributes := #[] }, { accessFlags := 26, nameIndex := 340, descriptorIndex := 51, attributes := #[] }, { accessFlags := 26, nameIndex := 17, descriptorIndex := 14, attributes := #[] }, { accessFlags := 26, nameIndex := 41, descriptorIndex := 14, attributes := #[] }, { accessFlags := 128, nameIndex := 13, descriptorIndex := 14, attributes := #[] }, { accessFlags := 2, nameIndex := 50, descriptorIndex := 51, attributes := #[] }])
  fields := #[{ name := "serialVersionUID", type := .long, accessFlags := 26, slot := 0, constantValue := 0 }, { name := "DEFAULT_CAPACITY", type := .int, accessFlags := 26, slot := 1, constantValue := 0 }, { name := "EMPTY_ELEMENTDATA", type := (.array (.object "java/lang/Object")), accessFlags := 26, slot := 2, constantValue := 0 }, { name := "DEFAULTCAPACITY_EMPTY_ELEMENTDATA", type := (.array (.object "java/lang/Object")), accessFlags := 26, slot := 3, constantValue := 0 }, { name := "elementData", type := (.array (.object "java/lang/Object")), accessFlags := 128, slot := 1, constantValue := 0 }, { name := "size", type := .int, accessFlags := 2, slot := 2, constantValue := 0 }]
  methods := #[k12m0, k12m1, k12m2, k12m3, k12m4, k12m5, k12m6]
  instanceTypes := #[.int, (.array (.object "java/lang/Object")), .int]
  staticTypes := #[.long, .int, (.array (.object "java/lang/Object")), (.array (.object "java/lang/Object"))]
  resolved := Array.replicate 509 none
  statics := some 0 }

def pool13 : Array CpInfo := pool [(1, .methodref 2 3), (0, .class_ 4), (0, .nameAndType 5 6), (0, u "java/lang/Object"), (0, u "<init>"), (0, u "()V"), (0, .fieldref 8 9), (0, .class_ 10), (0, .nameAndType 11 12), (0, u "com/example/newt/newt/core/delivery/Outbox$Claim"), (0, u "changes"), (0, u "Ljava/util/List;"), (0, .fieldref 8 14), (0, .nameAndType 15 16), (0, u "ahead"), (0, u "I"), (0, .interfaceMethodref 18 19), (0, .class_ 20), (0, .nameAndType 21 22), (0, u "java/util/List"), (0, u "size"), (0, u "()I"), (0, .interfaceMethodref 18 24), (0, .nameAndType 25 26), (0, u "subList"), (0, u "(II)Ljava/util/List;"), (0, .interfaceMethodref 18 28), (0, .nameAndType 29 30), (0, u "iterator"), (0, u "()Ljava/util/Iterator;"), (0, .interfaceMethodref 32 33), (0, .class_ 34), (0, .nameAndType 35 36), (0, u "java/util/Iterator"), (0, u "hasNext"), (0, u "()Z"), (0, .interfaceMethodref 32 38), (0, .nameAndType 39 40), (0, u "next"), (0, u "()Ljava/lang/Object;"), (0, .class_ 42), (0, u "com/example/newt/newt/core/delivery/Change"), (0, .methodref 41 44), (0, .nameAndType 45 46), (0, u "getId"), (0, u "()J"), (2, u "(Ljava/util/List;I)V"), (6, u "hasAhead"), (1, u "isOfBacklog"), (0, u "(Lcom/example/newt/newt/core/delivery/Change;)Z"), (3, .class_ 64), (0, u "com/example/newt/newt/core/delivery/Outbox")] 2

def k13c0 : Code := { maxStack := 2, maxLocals := 3, code := prog_11_method_1_code, exceptionTable := #[], attributes := #[] }
def k13m0 : Method := { name := "<init>", desc := "(Ljava/util/List;I)V", sig := { parameters := [(.object "java/util/List"), .int], returnType := none }, accessFlags := 0, code := some k13c0 }
def k13c1 : Code := { maxStack := 1, maxLocals := 1, code := prog_11_method_3_code, exceptionTable := #[], attributes := #[] }
def k13m1 : Method := { name := "hasAhead", desc := "()Z", sig := { parameters := [], returnType := some .boolean }, accessFlags := 0, code := some k13c1 }
def k13c2 : Code := { maxStack := 4, maxLocals := 4, code := prog_11_method_4_code, exceptionTable := #[], attributes := #[] }
def k13m2 : Method := { name := "isOfBacklog", desc := "(Lcom/example/newt/newt/core/delivery/Change;)Z", sig := { parameters := [(.object "com/example/newt/newt/core/delivery/Change")], returnType := some .boolean }, accessFlags := 0, code := some k13c2 }
/-- com/example/newt/newt/core/delivery/Outbox$Claim -/
def k13 : Class := { plain "com/example/newt/newt/core/delivery/Outbox$Claim" (some 0) with
  accessFlags := 32
  interfaces := #[]
  cf := some (fileOf pool13 8 #[.nestHost 63] #[{ accessFlags := 0, nameIndex := 5, descriptorIndex := 49, attributes := #[] }, { accessFlags := 0, nameIndex := 56, descriptorIndex := 36, attributes := #[] }, { accessFlags := 0, nameIndex := 58, descriptorIndex := 59, attributes := #[] }] 32 2 #[] #[{ accessFlags := 18, nameIndex := 11, descriptorIndex := 12, attributes := #[] }, { accessFlags := 18, nameIndex := 15, descriptorIndex := 16, attributes := #[] }])
  fields := #[{ name := "changes", type := (.object "java/util/List"), accessFlags := 18, slot := 0, constantValue := 0 }, { name := "ahead", type := .int, accessFlags := 18, slot := 1, constantValue := 0 }]
  methods := #[k13m0, k13m1, k13m2]
  instanceTypes := #[(.object "java/util/List"), .int]
  staticTypes := #[]
  resolved := Array.replicate 67 none
  statics := none }

def pool14 : Array CpInfo := pool [(1, .class_ 2), (0, u "java/lang/Math"), (1, .class_ 6), (1, u "java/lang/Object"), (0, u "<init>"), (0, u "()V"), (89, .class_ 100), (1, u "java/lang/Math$RandomNumberGeneratorHolder"), (71, u "negativeZeroFloatBits"), (0, u "J"), (2, u "negativeZeroDoubleBits"), (21, u "max"), (46, u "$assertionsDisabled"), (0, u "Z"), (88, u "(II)I"), (2, u "twoToTheDoubleScaleDown"), (0, u "D"), (4, u "twoToTheDoubleScaleUp"), (9, u "E"), (3, u "PI"), (2, u "TAU"), (2, u "DEGREES_TO_RADIANS"), (0, u "RADIANS_TO_DEGREES")] 94

def k14m0 : Method := { name := "<init>", desc := "()V", sig := { parameters := [], returnType := none }, accessFlags := 2, code := none }
def k14c1 : Code := { maxStack := 2, maxLocals := 2, code := jdk_29_method_65_code, exceptionTable := #[], attributes := #[] }
def k14m1 : Method := { name := "max", desc := "(II)I", sig := { parameters := [.int, .int], returnType := some .int }, accessFlags := 9, code := some k14c1 }
/-- java/lang/Math -/
def k14 : Class := { plain "java/lang/Math" (some 0) with
  accessFlags := 49
  interfaces := #[]
  cf := some (fileOf pool14 1 #[.nestMembers #[98]] #[{ accessFlags := 2, nameIndex := 7, descriptorIndex := 8, attributes := #[] }, { accessFlags := 9, nameIndex := 198, descriptorIndex := 335, attributes := #[] }] 49 4 #[] #[{ accessFlags := 25, nameIndex := 354, descriptorIndex := 339, attributes := #[] }, { accessFlags := 25, nameIndex := 358, descriptorIndex := 339, attributes := #[] }, { accessFlags := 25, nameIndex := 361, descriptorIndex := 339, attributes := #[] }, { accessFlags := 26, nameIndex := 364, descriptorIndex := 339, attributes := #[] }, { accessFlags := 26, nameIndex := 365, descriptorIndex := 339, attributes := #[] }, { accessFlags := 26, nameIndex := 172, descriptorIndex := 173, attributes := #[] }, { accessFlags := 26, nameIndex := 176, descriptorIndex := 173, attributes := #[] }, { accessFlags := 8, nameIndex := 344, descriptorIndex := 339, attributes := #[] }, { accessFlags := 8, nameIndex := 338, descriptorIndex := 339, attributes := #[] }, { accessFlags := 4120, nameIndex := 245, descriptorIndex := 246, attributes := #[] }])
  fields := #[{ name := "E", type := .double, accessFlags := 25, slot := 0, constantValue := 0 }, { name := "PI", type := .double, accessFlags := 25, slot := 1, constantValue := 0 }, { name := "TAU", type := .double, accessFlags := 25, slot := 2, constantValue := 0 }, { name := "DEGREES_TO_RADIANS", type := .double, accessFlags := 26, slot := 3, constantValue := 0 }, { name := "RADIANS_TO_DEGREES", type := .double, accessFlags := 26, slot := 4, constantValue := 0 }, { name := "negativeZeroFloatBits", type := .long, accessFlags := 26, slot := 5, constantValue := 0 }, { name := "negativeZeroDoubleBits", type := .long, accessFlags := 26, slot := 6, constantValue := 0 }, { name := "twoToTheDoubleScaleUp", type := .double, accessFlags := 8, slot := 7, constantValue := 0 }, { name := "twoToTheDoubleScaleDown", type := .double, accessFlags := 8, slot := 8, constantValue := 0 }, { name := "$assertionsDisabled", type := .boolean, accessFlags := 4120, slot := 9, constantValue := 0 }]
  methods := #[k14m0, k14m1]
  instanceTypes := #[]
  staticTypes := #[.double, .double, .double, .double, .double, .long, .long, .double, .double, .boolean]
  resolved := Array.replicate 460 none
  statics := none }

def pool15 : Array CpInfo := pool [(1, .methodref 2 3), (0, .class_ 4), (0, .nameAndType 5 6), (0, u "java/util/AbstractList"), (0, u "<init>"), (0, u "()V"), (0, .fieldref 8 9), (0, .class_ 10), (0, .nameAndType 11 12), (0, u "java/util/ArrayList$SubList"), (0, u "root"), (0, u "Ljava/util/ArrayList;"), (0, .fieldref 8 14), (0, .nameAndType 15 16), (0, u "parent"), (0, u "Ljava/util/ArrayList$SubList;"), (0, .fieldref 8 18), (0, .nameAndType 19 20), (0, u "offset"), (0, u "I"), (0, .fieldref 8 22), (0, .nameAndType 23 20), (0, u "size"), (0, .fieldref 25 26), (0, .class_ 27), (0, .nameAndType 28 20), (0, u "java/util/ArrayList"), (0, u "modCount"), (0, .fieldref 8 26), (6, .methodref 8 37), (0, .nameAndType 38 6), (0, u "checkForComodification"), (7, .methodref 8 47), (0, .nameAndType 48 49), (0, u "rangeCheckForAdd"), (0, u "(I)V"), (81, .methodref 8 132), (0, .nameAndType 133 134), (0, u "listIterator"), (0, u "()Ljava/util/ListIterator;"), (0, .class_ 136), (0, u "java/util/ArrayList$SubList$1"), (0, .methodref 135 138), (0, .nameAndType 5 139), (0, u "(Ljava/util/ArrayList$SubList;I)V"), (42, .class_ 183), (0, u "java/util/RandomAccess"), (3, u "(Ljava/util/ArrayList;II)V"), (63, u "iterator"), (0, u "()Ljava/util/Iterator;"), (1, u "(I)Ljava/util/ListIterator;")] 15

def k15c0 : Code := { maxStack := 3, maxLocals := 4, code := jdk_130_method_1_code, exceptionTable := #[], attributes := #[] }
def k15m0 : Method := { name := "<init>", desc := "(Ljava/util/ArrayList;II)V", sig := { parameters := [(.object "java/util/ArrayList"), .int, .int], returnType := none }, accessFlags := 1, code := some k15c0 }
def k15c1 : Code := { maxStack := 1, maxLocals := 1, code := jdk_130_method_23_code, exceptionTable := #[], attributes := #[] }
def k15m1 : Method := { name := "iterator", desc := "()Ljava/util/Iterator;", sig := { parameters := [], returnType := some (.object "java/util/Iterator") }, accessFlags := 1, code := some k15c1 }
def k15c2 : Code := { maxStack := 4, maxLocals := 2, code := jdk_130_method_24_code, exceptionTable := #[], attributes := #[] }
def k15m2 : Method := { name := "listIterator", desc := "(I)Ljava/util/ListIterator;", sig := { parameters := [.int], returnType := some (.object "java/util/ListIterator") }, accessFlags := 1, code := some k15c2 }
def k15c3 : Code := { maxStack := 4, maxLocals := 2, code := jdk_130_method_26_code, exceptionTable := #[], attributes := #[] }
def k15m3 : Method := { name := "rangeCheckForAdd", desc := "(I)V", sig := { parameters := [.int], returnType := none }, accessFlags := 2, code := some k15c3 }
def k15c4 : Code := { maxStack := 2, maxLocals := 1, code := jdk_130_method_28_code, exceptionTable := #[], attributes := #[] }
def k15m4 : Method := { name := "checkForComodification", desc := "()V", sig := { parameters := [], returnType := none }, accessFlags := 2, code := some k15c4 }
/-- java/util/ArrayList$SubList -/
def k15 : Class := { plain "java/util/ArrayList$SubList" (some 8) with
  accessFlags := 32
  interfaces := #[9]
  cf := some (fileOf pool15 8 #[.nestHost 25] #[{ accessFlags := 1, nameIndex := 5, descriptorIndex := 187, attributes := #[] }, { accessFlags := 1, nameIndex := 251, descriptorIndex := 252, attributes := #[] }, { accessFlags := 1, nameIndex := 133, descriptorIndex := 254, attributes := #[] }, { accessFlags := 2, nameIndex := 48, descriptorIndex := 49, attributes := #[] }, { accessFlags := 2, nameIndex := 38, descriptorIndex := 6, attributes := #[] }] 32 2 #[182] #[{ accessFlags := 18, nameIndex := 11, descriptorIndex := 12, attributes := #[] }, { accessFlags := 18, nameIndex := 15, descriptorIndex := 16, attributes := #[] }, { accessFlags := 18, nameIndex := 19, descriptorIndex := 20, attributes := #[] }, { accessFlags := 2, nameIndex := 23, descriptorIndex := 20, attributes := #[] }])
  fields := #[{ name := "root", type := (.object "java/util/ArrayList"), accessFlags := 18, slot := 1, constantValue := 0 }, { name := "parent", type := (.object "java/util/ArrayList$SubList"), accessFlags := 18, slot := 2, constantValue := 0 }, { name := "offset", type := .int, accessFlags := 18, slot := 3, constantValue := 0 }, { name := "size", type := .int, accessFlags := 2, slot := 4, constantValue := 0 }]
  methods := #[k15m0, k15m1, k15m2, k15m3, k15m4]
  instanceTypes := #[.int, (.object "java/util/ArrayList"), (.object "java/util/ArrayList$SubList"), .int, .int]
  staticTypes := #[]
  resolved := Array.replicate 270 none
  statics := none }

def pool16 : Array CpInfo := pool [(16, .class_ 18), (1, u "java/util/Iterator"), (0, u "hasNext"), (0, u "()Z"), (2, u "next"), (0, u "()Ljava/lang/Object;"), (6, .class_ 32), (0, u "java/lang/Object")] 20

def k16m0 : Method := { name := "hasNext", desc := "()Z", sig := { parameters := [], returnType := some .boolean }, accessFlags := 1025, code := none }
def k16m1 : Method := { name := "next", desc := "()Ljava/lang/Object;", sig := { parameters := [], returnType := some (.object "java/lang/Object") }, accessFlags := 1025, code := none }
/-- java/util/Iterator -/
def k16 : Class := { plain "java/util/Iterator" (some 0) with
  accessFlags := 1537
  interfaces := #[]
  cf := some (fileOf pool16 16 #[] #[{ accessFlags := 1025, nameIndex := 19, descriptorIndex := 20, attributes := #[] }, { accessFlags := 1025, nameIndex := 23, descriptorIndex := 24, attributes := #[] }] 1537 31 #[] #[])
  fields := #[]
  methods := #[k16m0, k16m1]
  instanceTypes := #[]
  staticTypes := #[]
  resolved := Array.replicate 53 none
  statics := none }

def pool17 : Array CpInfo := pool [(1, .class_ 2), (0, u "java/util/ListIterator"), (0, .class_ 4), (0, u "java/lang/Object"), (0, .class_ 6), (0, u "java/util/Iterator")] 20

/-- java/util/ListIterator -/
def k17 : Class := { plain "java/util/ListIterator" (some 0) with
  accessFlags := 1537
  interfaces := #[16]
  cf := some (fileOf pool17 1 #[] #[] 1537 3 #[5] #[])
  fields := #[]
  methods := #[]
  instanceTypes := #[]
  staticTypes := #[]
  resolved := Array.replicate 27 none
  statics := none }

def pool18 : Array CpInfo := pool [(1, .fieldref 2 3), (0, .class_ 4), (0, .nameAndType 5 6), (0, u "java/util/ArrayList$SubList$1"), (0, u "this$0"), (0, u "Ljava/util/ArrayList$SubList;"), (0, .fieldref 2 8), (0, .nameAndType 9 10), (0, u "val$index"), (0, u "I"), (0, .methodref 12 13), (0, .class_ 14), (0, .nameAndType 15 16), (0, u "java/lang/Object"), (0, u "<init>"), (0, u "()V"), (0, .fieldref 2 18), (0, .nameAndType 19 10), (0, u "cursor"), (0, .fieldref 2 21), (0, .nameAndType 22 10), (0, u "lastRet"), (0, .fieldref 24 25), (0, .class_ 26), (0, .nameAndType 27 10), (0, u "java/util/ArrayList$SubList"), (0, u "modCount"), (0, .fieldref 2 29), (0, .nameAndType 30 10), (0, u "expectedModCount"), (0, .fieldref 24 32), (0, .nameAndType 33 10), (0, u "size"), (0, .methodref 2 35), (0, .nameAndType 36 16), (0, u "checkForComodification"), (3, .fieldref 24 41), (0, .nameAndType 42 43), (0, u "root"), (0, u "Ljava/util/ArrayList;"), (0, .fieldref 45 46), (0, .class_ 47), (0, .nameAndType 48 49), (0, u "java/util/ArrayList"), (0, u "elementData"), (0, u "[Ljava/lang/Object;"), (0, .fieldref 24 51), (0, .nameAndType 52 10), (0, u "offset"), (9, .fieldref 45 25), (27, .class_ 91), (0, u "java/util/ListIterator"), (0, u "(Ljava/util/ArrayList$SubList;I)V"), (8, u "hasNext"), (0, u "()Z"), (1, u "next"), (0, u "()Ljava/lang/Object;")] 31

def k18c0 : Code := { maxStack := 2, maxLocals := 3, code := jdk_136_method_1_code, exceptionTable := #[], attributes := #[] }
def k18m0 : Method := { name := "<init>", desc := "(Ljava/util/ArrayList$SubList;I)V", sig := { parameters := [(.object "java/util/ArrayList$SubList"), .int], returnType := none }, accessFlags := 0, code := some k18c0 }
def k18c1 : Code := { maxStack := 2, maxLocals := 1, code := jdk_136_method_2_code, exceptionTable := #[], attributes := #[] }
def k18m1 : Method := { name := "hasNext", desc := "()Z", sig := { parameters := [], returnType := some .boolean }, accessFlags := 1, code := some k18c1 }
def k18c2 : Code := { maxStack := 5, maxLocals := 3, code := jdk_136_method_3_code, exceptionTable := #[], attributes := #[] }
def k18m2 : Method := { name := "next", desc := "()Ljava/lang/Object;", sig := { parameters := [], returnType := some (.object "java/lang/Object") }, accessFlags := 1, code := some k18c2 }
def k18c3 : Code := { maxStack := 2, maxLocals := 1, code := jdk_136_method_12_code, exceptionTable := #[], attributes := #[] }
def k18m3 : Method := { name := "checkForComodification", desc := "()V", sig := { parameters := [], returnType := none }, accessFlags := 16, code := some k18c3 }
/-- java/util/ArrayList$SubList$1 -/
def k18 : Class := { plain "java/util/ArrayList$SubList$1" (some 0) with
  accessFlags := 32
  interfaces := #[17]
  cf := some (fileOf pool18 2 #[.nestHost 45] #[{ accessFlags := 0, nameIndex := 15, descriptorIndex := 92, attributes := #[] }, { accessFlags := 1, nameIndex := 101, descriptorIndex := 102, attributes := #[] }, { accessFlags := 1, nameIndex := 104, descriptorIndex := 105, attributes := #[] }, { accessFlags := 16, nameIndex := 36, descriptorIndex := 16, attributes := #[] }] 32 12 #[90] #[{ accessFlags := 0, nameIndex := 19, descriptorIndex := 10, attributes := #[] }, { accessFlags := 0, nameIndex := 22, descriptorIndex := 10, attributes := #[] }, { accessFlags := 0, nameIndex := 30, descriptorIndex := 10, attributes := #[] }, { accessFlags := 4112, nameIndex := 9, descriptorIndex := 10, attributes := #[] }, { accessFlags := 4112, nameIndex := 5, descriptorIndex := 6, attributes := #[] }])
  fields := #[{ name := "cursor", type := .int, accessFlags := 0, slot := 0, constantValue := 0 }, { name := "lastRet", type := .int, accessFlags := 0, slot := 1, constantValue := 0 }, { name := "expectedModCount", type := .int, accessFlags := 0, slot := 2, constantValue := 0 }, { name := "val$index", type := .int, accessFlags := 4112, slot := 3, constantValue := 0 }, { name := "this$0", type := (.object "java/util/ArrayList$SubList"), accessFlags := 4112, slot := 4, constantValue := 0 }]
  methods := #[k18m0, k18m1, k18m2, k18m3]
  instanceTypes := #[.int, .int, .int, .int, (.object "java/util/ArrayList$SubList")]
  staticTypes := #[]
  resolved := (((Array.replicate 137 none).set! 31 (some (.field 15 3))).set! 40 (some (.field 15 0))).set! 50 (some (.field 15 2))
  statics := none }

/-- the primitive byte -/
def k19 : Class := { plain "byte" none with kind := .primitive 'B', accessFlags := 0x411 }
/-- [B -/
def k20 : Class := { plain "[B" (some 0) with kind := .array 19 .byte, interfaces := #[10, 11], accessFlags := 1041 }

/-- the primitive int -/
def k21 : Class := { plain "int" none with kind := .primitive 'I', accessFlags := 0x411 }
/-- [I -/
def k22 : Class := { plain "[I" (some 0) with kind := .array 21 .int, interfaces := #[10, 11], accessFlags := 1041 }

/-- [Ljava/lang/Object; -/
def k23 : Class := { plain "[Ljava/lang/Object;" (some 0) with kind := .array 0 (.object "java/lang/Object"), interfaces := #[10, 11], accessFlags := 1041 }

def heap : Heap := #[{ cls := 12, slots := #[.long 0, .int 0, .ref 1, .ref 2], vm := .statics 12 },
  { cls := 23, slots := #[], vm := .none },
  { cls := 23, slots := #[], vm := .none }]
def classes : Array Class := #[k0, k1, k2, k3, k4, k5, k6, k7, k8, k9, k10, k11, k12, k13, k14, k15, k16, k17, k18, k19, k20, k21, k22, k23]
def interned : List (Array UInt16 × Addr) := []
def slotsUsed : Nat := 4
def theMethod : MethodId := ⟨1, 1⟩
def args0 : Array Value := #[.int 0, .int 0, .long 0]
def aboutOver (below : List Frame) : State where
  vm := { classes := classes, interned := interned.toArray }
  heap := heap
  slotsUsed := slotsUsed
  threads := #[{ frames := .invoking theMethod args0 :: below }]
def below0 : List Frame := [.native { method := ⟨0, 0⟩, args := #[] }]
def about1 : State := aboutOver below0
def p0 : Program := .bare "" "" ""
def e0 : Env := launch0.env 0 0 0
theorem w_frames : about1.frames = Frame.invoking theMethod args0 :: below0 := rfl
set_option maxRecDepth 65536 in
theorem w_args : argsFit about1.vm theMethod args0 = true := by decide +kernel
set_option maxRecDepth 65536 in
theorem w_heap : heapFits about1 = true := by decide +kernel
set_option maxRecDepth 65536 in
theorem w_runnable : about1.curStatus? = some .runnable := by decide +kernel
set_option maxRecDepth 65536 in
theorem w_alone : about1.alone = true := by decide +kernel
set_option maxRecDepth 65536 in
theorem w_named : about1.methodNamed? x = some theMethod := by decide +kernel
set_option maxRecDepth 65536 in
theorem w_hears : about1.hears theMethod below0 = true := by decide +kernel
set_option maxRecDepth 65536 in
theorem w_ripe : about1.ripe theMethod args0 below0 = true := by decide +kernel
theorem w_running : about1.status = .running := rfl
set_option maxRecDepth 65536 in
theorem w_room : about1.hasRoom e0.platform room_1 = true :=
  launch0.hasRoom_least _ room_1 (by decide +kernel) (by decide +kernel) (by decide +kernel) (by decide +kernel) (by decide +kernel) (by decide +kernel)
theorem allAtoms_all (ts : List Jvm.Cond) (a : Array Jvm.Value) (st : Jvm.State) : (allAtoms ts).before a st = ts.all (fun c => c.before a st) := by
  induction ts with
  | nil => rfl
  | cons c t ih =>
    show (Jvm.Cond.and c (allAtoms t)).before a st = _
    rw [Jvm.Cond.before_and, ih, List.all_cons]
def words1 : List Jvm.Cond := Jvm.Cond.code x code maxLocals ret :: tables_1
/-- a 'code' word, met by the world's own term for the bytes: nothing is compared byte by byte -/
theorem code_word {y : MethodName} {bytes : ByteArray} {mx : Nat} {rt : Option FieldType} {a : Array Value} {s : State} {m : MethodId} {meth : Method} {c : Code} (h1 : s.methodNamed? y = some m) (h2 : s.vm.method? m = some meth) (h3 : meth.code = some c) (h4 : c.code = bytes)
    (h5 : (c.maxLocals == mx && c.exceptionTable.isEmpty && decide (c.maxStack ≤ mostOperands) && decide (meth.sig.returnType = rt) && !meth.locks && decide (parseMethodDescriptor y.desc = some meth.sig)) = true) : (Jvm.Cond.code y bytes mx rt).before a s = true := by
  simp only [Bool.and_eq_true, beq_iff_eq, Bool.not_eq_true', decide_eq_true_eq] at h5
  obtain ⟨⟨⟨⟨⟨g1, g2⟩, g3⟩, g4⟩, g5⟩, g6⟩ := h5
  simp [Cond.before, Cond.holds, Cond.value, h1, h2, h3, h4, g1, g2, g3, g4, g5, g6]
def isCode : Jvm.Cond → Bool
  | .code _ _ _ _ => true
  | _ => false
theorem all_split {L : List Jvm.Cond} {P : Jvm.Cond → Bool} (h1 : L.all (fun c => isCode c || P c) = true) (h2 : ∀ c ∈ L.filter isCode, P c = true) : L.all P = true := by
  refine List.all_eq_true.mpr fun c hc => ?_
  have h := List.all_eq_true.mp h1 c hc
  rcases Bool.eq_false_or_eq_true (isCode c) with hi | hi
  · exact h2 c (List.mem_filter.mpr ⟨hc, hi⟩)
  · simpa [hi] using h
set_option maxRecDepth 65536 in
theorem w_c0 : (Jvm.Cond.code x code maxLocals ret).before args0 about1 = true := code_word (m := ⟨1, 1⟩) (meth := k1m1) (c := k1c1) (by decide +kernel) rfl rfl rfl (by decide +kernel)
set_option maxRecDepth 65536 in
theorem w_c1 : (Jvm.Cond.code ({ cls := "com/example/newt/newt/core/delivery/Change", name := "<init>", desc := "(JLjava/lang/String;Ljava/lang/String;Ljava/lang/String;Ljava/util/Optional;ILjava/util/OptionalLong;Ljava/util/Optional;)V" } : Jvm.MethodName) prog_6_method_1_code (10 : Nat) (Option.none : Option Jvm.ClassFile.FieldType)).before args0 about1 = true := code_word (m := ⟨2, 0⟩) (meth := k2m0) (c := k2c0) (by decide +kernel) rfl rfl rfl (by decide +kernel)
set_option maxRecDepth 65536 in
theorem w_c2 : (Jvm.Cond.code ({ cls := "java/lang/Object", name := "<init>", desc := "()V" } : Jvm.MethodName) object_method_1_code (1 : Nat) (Option.none : Option Jvm.ClassFile.FieldType)).before args0 about1 = true := code_word (m := ⟨0, 0⟩) (meth := k0m0) (c := k0c0) (by decide +kernel) rfl rfl rfl (by decide +kernel)
set_option maxRecDepth 65536 in
theorem w_c3 : (Jvm.Cond.code ({ cls := "java/util/ArrayList", name := "<init>", desc := "()V" } : Jvm.MethodName) jdk_38_method_2_code (1 : Nat) (Option.none : Option Jvm.ClassFile.FieldType)).before args0 about1 = true := code_word (m := ⟨12, 0⟩) (meth := k12m0) (c := k12c0) (by decide +kernel) rfl rfl rfl (by decide +kernel)
set_option maxRecDepth 65536 in
theorem w_c4 : (Jvm.Cond.code ({ cls := "java/util/AbstractList", name := "<init>", desc := "()V" } : Jvm.MethodName) jdk_39_method_1_code (1 : Nat) (Option.none : Option Jvm.ClassFile.FieldType)).before args0 about1 = true := code_word (m := ⟨8, 0⟩) (meth := k8m0) (c := k8c0) (by decide +kernel) rfl rfl rfl (by decide +kernel)
set_option maxRecDepth 65536 in
theorem w_c5 : (Jvm.Cond.code ({ cls := "java/util/AbstractCollection", name := "<init>", desc := "()V" } : Jvm.MethodName) jdk_22_method_1_code (1 : Nat) (Option.none : Option Jvm.ClassFile.FieldType)).before args0 about1 = true := code_word (m := ⟨5, 0⟩) (meth := k5m0) (c := k5c0) (by decide +kernel) rfl rfl rfl (by decide +kernel)
set_option maxRecDepth 65536 in
theorem w_c6 : (Jvm.Cond.code ({ cls := "com/example/newt/newt/core/delivery/Outbox$Claim", name := "<init>", desc := "(Ljava/util/List;I)V" } : Jvm.MethodName) prog_11_method_1_code (3 : Nat) (Option.none : Option Jvm.ClassFile.FieldType)).before args0 about1 = true := code_word (m := ⟨13, 0⟩) (meth := k13m0) (c := k13c0) (by decide +kernel) rfl rfl rfl (by decide +kernel)
set_option maxRecDepth 65536 in
theorem w_c7 : (Jvm.Cond.code ({ cls := "com/example/newt/newt/core/delivery/Outbox$Claim", name := "hasAhead", desc := "()Z" } : Jvm.MethodName) prog_11_method_3_code (1 : Nat) (Option.some Jvm.ClassFile.FieldType.boolean)).before args0 about1 = true := code_word (m := ⟨13, 1⟩) (meth := k13m1) (c := k13c1) (by decide +kernel) rfl rfl rfl (by decide +kernel)
set_option maxRecDepth 65536 in
theorem w_c8 : (Jvm.Cond.code ({ cls := "java/util/ArrayList", name := "add", desc := "(Ljava/lang/Object;)Z" } : Jvm.MethodName) jdk_38_method_25_code (2 : Nat) (Option.some Jvm.ClassFile.FieldType.boolean)).before args0 about1 = true := code_word (m := ⟨12, 5⟩) (meth := k12m5) (c := k12c5) (by decide +kernel) rfl rfl rfl (by decide +kernel)
set_option maxRecDepth 65536 in
theorem w_c9 : (Jvm.Cond.code ({ cls := "java/util/ArrayList", name := "add", desc := "(Ljava/lang/Object;[Ljava/lang/Object;I)V" } : Jvm.MethodName) jdk_38_method_24_code (4 : Nat) (Option.none : Option Jvm.ClassFile.FieldType)).before args0 about1 = true := code_word (m := ⟨12, 4⟩) (meth := k12m4) (c := k12c4) (by decide +kernel) rfl rfl rfl (by decide +kernel)
set_option maxRecDepth 65536 in
theorem w_c10 : (Jvm.Cond.code ({ cls := "java/util/ArrayList", name := "grow", desc := "()[Ljava/lang/Object;" } : Jvm.MethodName) jdk_38_method_7_code (1 : Nat) (Option.some (Jvm.ClassFile.FieldType.array (Jvm.ClassFile.FieldType.object "java/lang/Object")))).before args0 about1 = true := code_word (m := ⟨12, 2⟩) (meth := k12m2) (c := k12c2) (by decide +kernel) rfl rfl rfl (by decide +kernel)
set_option maxRecDepth 65536 in
theorem w_c11 : (Jvm.Cond.code ({ cls := "java/util/ArrayList", name := "grow", desc := "(I)[Ljava/lang/Object;" } : Jvm.MethodName) jdk_38_method_6_code (4 : Nat) (Option.some (Jvm.ClassFile.FieldType.array (Jvm.ClassFile.FieldType.object "java/lang/Object")))).before args0 about1 = true := code_word (m := ⟨12, 1⟩) (meth := k12m1) (c := k12c1) (by decide +kernel) rfl rfl rfl (by decide +kernel)
set_option maxRecDepth 65536 in
theorem w_c12 : (Jvm.Cond.code ({ cls := "java/lang/Math", name := "max", desc := "(II)I" } : Jvm.MethodName) jdk_29_method_65_code (2 : Nat) (Option.some Jvm.ClassFile.FieldType.int)).before args0 about1 = true := code_word (m := ⟨14, 1⟩) (meth := k14m1) (c := k14c1) (by decide +kernel) rfl rfl rfl (by decide +kernel)
set_option maxRecDepth 65536 in
theorem w_c13 : (Jvm.Cond.code ({ cls := "com/example/newt/newt/core/delivery/Outbox$Claim", name := "isOfBacklog", desc := "(Lcom/example/newt/newt/core/delivery/Change;)Z" } : Jvm.MethodName) prog_11_method_4_code (4 : Nat) (Option.some Jvm.ClassFile.FieldType.boolean)).before args0 about1 = true := code_word (m := ⟨13, 2⟩) (meth := k13m2) (c := k13c2) (by decide +kernel) rfl rfl rfl (by decide +kernel)
set_option maxRecDepth 65536 in
theorem w_c14 : (Jvm.Cond.code ({ cls := "java/util/ArrayList", name := "size", desc := "()I" } : Jvm.MethodName) jdk_38_method_8_code (1 : Nat) (Option.some Jvm.ClassFile.FieldType.int)).before args0 about1 = true := code_word (m := ⟨12, 3⟩) (meth := k12m3) (c := k12c3) (by decide +kernel) rfl rfl rfl (by decide +kernel)
set_option maxRecDepth 65536 in
theorem w_c15 : (Jvm.Cond.code ({ cls := "java/util/ArrayList", name := "subList", desc := "(II)Ljava/util/List;" } : Jvm.MethodName) jdk_38_method_56_code (3 : Nat) (Option.some (Jvm.ClassFile.FieldType.object "java/util/List"))).before args0 about1 = true := code_word (m := ⟨12, 6⟩) (meth := k12m6) (c := k12c6) (by decide +kernel) rfl rfl rfl (by decide +kernel)
set_option maxRecDepth 65536 in
theorem w_c16 : (Jvm.Cond.code ({ cls := "java/util/AbstractList", name := "subListRangeCheck", desc := "(III)V" } : Jvm.MethodName) jdk_39_method_15_code (3 : Nat) (Option.none : Option Jvm.ClassFile.FieldType)).before args0 about1 = true := code_word (m := ⟨8, 3⟩) (meth := k8m3) (c := k8c3) (by decide +kernel) rfl rfl rfl (by decide +kernel)
set_option maxRecDepth 65536 in
theorem w_c17 : (Jvm.Cond.code ({ cls := "java/util/ArrayList$SubList", name := "<init>", desc := "(Ljava/util/ArrayList;II)V" } : Jvm.MethodName) jdk_130_method_1_code (4 : Nat) (Option.none : Option Jvm.ClassFile.FieldType)).before args0 about1 = true := code_word (m := ⟨15, 0⟩) (meth := k15m0) (c := k15c0) (by decide +kernel) rfl rfl rfl (by decide +kernel)
set_option maxRecDepth 65536 in
theorem w_c18 : (Jvm.Cond.code ({ cls := "java/util/ArrayList$SubList", name := "iterator", desc := "()Ljava/util/Iterator;" } : Jvm.MethodName) jdk_130_method_23_code (1 : Nat) (Option.some (Jvm.ClassFile.FieldType.object "java/util/Iterator"))).before args0 about1 = true := code_word (m := ⟨15, 1⟩) (meth := k15m1) (c := k15c1) (by decide +kernel) rfl rfl rfl (by decide +kernel)
set_option maxRecDepth 65536 in
theorem w_c19 : (Jvm.Cond.code ({ cls := "java/util/AbstractList", name := "listIterator", desc := "()Ljava/util/ListIterator;" } : Jvm.MethodName) jdk_39_method_12_code (1 : Nat) (Option.some (Jvm.ClassFile.FieldType.object "java/util/ListIterator"))).before args0 about1 = true := code_word (m := ⟨8, 1⟩) (meth := k8m1) (c := k8c1) (by decide +kernel) rfl rfl rfl (by decide +kernel)
set_option maxRecDepth 65536 in
theorem w_c20 : (Jvm.Cond.code ({ cls := "java/util/ArrayList$SubList", name := "listIterator", desc := "(I)Ljava/util/ListIterator;" } : Jvm.MethodName) jdk_130_method_24_code (2 : Nat) (Option.some (Jvm.ClassFile.FieldType.object "java/util/ListIterator"))).before args0 about1 = true := code_word (m := ⟨15, 2⟩) (meth := k15m2) (c := k15c2) (by decide +kernel) rfl rfl rfl (by decide +kernel)
set_option maxRecDepth 65536 in
theorem w_c21 : (Jvm.Cond.code ({ cls := "java/util/ArrayList$SubList", name := "checkForComodification", desc := "()V" } : Jvm.MethodName) jdk_130_method_28_code (1 : Nat) (Option.none : Option Jvm.ClassFile.FieldType)).before args0 about1 = true := code_word (m := ⟨15, 4⟩) (meth := k15m4) (c := k15c4) (by decide +kernel) rfl rfl rfl (by decide +kernel)
set_option maxRecDepth 65536 in
theorem w_c22 : (Jvm.Cond.code ({ cls := "java/util/ArrayList$SubList", name := "rangeCheckForAdd", desc := "(I)V" } : Jvm.MethodName) jdk_130_method_26_code (2 : Nat) (Option.none : Option Jvm.ClassFile.FieldType)).before args0 about1 = true := code_word (m := ⟨15, 3⟩) (meth := k15m3) (c := k15c3) (by decide +kernel) rfl rfl rfl (by decide +kernel)
set_option maxRecDepth 65536 in
theorem w_c23 : (Jvm.Cond.code ({ cls := "java/util/ArrayList$SubList$1", name := "<init>", desc := "(Ljava/util/ArrayList$SubList;I)V" } : Jvm.MethodName) jdk_136_method_1_code (3 : Nat) (Option.none : Option Jvm.ClassFile.FieldType)).before args0 about1 = true := code_word (m := ⟨18, 0⟩) (meth := k18m0) (c := k18c0) (by decide +kernel) rfl rfl rfl (by decide +kernel)
set_option maxRecDepth 65536 in
theorem w_c24 : (Jvm.Cond.code ({ cls := "java/util/ArrayList$SubList$1", name := "hasNext", desc := "()Z" } : Jvm.MethodName) jdk_136_method_2_code (1 : Nat) (Option.some Jvm.ClassFile.FieldType.boolean)).before args0 about1 = true := code_word (m := ⟨18, 1⟩) (meth := k18m1) (c := k18c1) (by decide +kernel) rfl rfl rfl (by decide +kernel)
set_option maxRecDepth 65536 in
theorem w_c25 : (Jvm.Cond.code ({ cls := "java/util/ArrayList$SubList$1", name := "next", desc := "()Ljava/lang/Object;" } : Jvm.MethodName) jdk_136_method_3_code (3 : Nat) (Option.some (Jvm.ClassFile.FieldType.object "java/lang/Object"))).before args0 about1 = true := code_word (m := ⟨18, 2⟩) (meth := k18m2) (c := k18c2) (by decide +kernel) rfl rfl rfl (by decide +kernel)
set_option maxRecDepth 65536 in
theorem w_c26 : (Jvm.Cond.code ({ cls := "java/util/ArrayList$SubList$1", name := "checkForComodification", desc := "()V" } : Jvm.MethodName) jdk_136_method_12_code (1 : Nat) (Option.none : Option Jvm.ClassFile.FieldType)).before args0 about1 = true := code_word (m := ⟨18, 3⟩) (meth := k18m3) (c := k18c3) (by decide +kernel) rfl rfl rfl (by decide +kernel)
set_option maxRecDepth 65536 in
theorem w_c27 : (Jvm.Cond.code ({ cls := "com/example/newt/newt/core/delivery/Change", name := "getId", desc := "()J" } : Jvm.MethodName) prog_6_method_2_code (1 : Nat) (Option.some Jvm.ClassFile.FieldType.long)).before args0 about1 = true := code_word (m := ⟨2, 1⟩) (meth := k2m1) (c := k2c1) (by decide +kernel) rfl rfl rfl (by decide +kernel)
def codes1 : List Jvm.Cond := [Jvm.Cond.code x code maxLocals ret, Jvm.Cond.code ({ cls := "com/example/newt/newt/core/delivery/Change", name := "<init>", desc := "(JLjava/lang/String;Ljava/lang/String;Ljava/lang/String;Ljava/util/Optional;ILjava/util/OptionalLong;Ljava/util/Optional;)V" } : Jvm.MethodName) prog_6_method_1_code (10 : Nat) (Option.none : Option Jvm.ClassFile.FieldType), Jvm.Cond.code ({ cls := "java/lang/Object", name := "<init>", desc := "()V" } : Jvm.MethodName) object_method_1_code (1 : Nat) (Option.none : Option Jvm.ClassFile.FieldType), Jvm.Cond.code ({ cls := "java/util/ArrayList", name := "<init>", desc := "()V" } : Jvm.MethodName) jdk_38_method_2_code (1 : Nat) (Option.none : Option Jvm.ClassFile.FieldType), Jvm.Cond.code ({ cls := "java/util/AbstractList", name := "<init>", desc := "()V" } : Jvm.MethodName) jdk_39_method_1_code (1 : Nat) (Option.none : Option Jvm.ClassFile.FieldType), Jvm.Cond.code ({ cls := "java/util/AbstractCollection", name := "<init>", desc := "()V" } : Jvm.MethodName) jdk_22_method_1_code (1 : Nat) (Option.none : Option Jvm.ClassFile.FieldType), Jvm.Cond.code ({ cls := "com/example/newt/newt/core/delivery/Outbox$Claim", name := "<init>", desc := "(Ljava/util/List;I)V" } : Jvm.MethodName) prog_11_method_1_code (3 : Nat) (Option.none : Option Jvm.ClassFile.FieldType), Jvm.Cond.code ({ cls := "com/example/newt/newt/core/delivery/Outbox$Claim", name := "hasAhead", desc := "()Z" } : Jvm.MethodName) prog_11_method_3_code (1 : Nat) (Option.some Jvm.ClassFile.FieldType.boolean), Jvm.Cond.code ({ cls := "java/util/ArrayList", name := "add", desc := "(Ljava/lang/Object;)Z" } : Jvm.MethodName) jdk_38_method_25_code (2 : Nat) (Option.some Jvm.ClassFile.FieldType.boolean), Jvm.Cond.code ({ cls := "java/util/ArrayList", name := "add", desc := "(Ljava/lang/Object;[Ljava/lang/Object;I)V" } : Jvm.MethodName) jdk_38_method_24_code (4 : Nat) (Option.none : Option Jvm.ClassFile.FieldType), Jvm.Cond.code ({ cls := "java/util/ArrayList", name := "grow", desc := "()[Ljava/lang/Object;" } : Jvm.MethodName) jdk_38_method_7_code (1 : Nat) (Option.some (Jvm.ClassFile.FieldType.array (Jvm.ClassFile.FieldType.object "java/lang/Object"))), Jvm.Cond.code ({ cls := "java/util/ArrayList", name := "grow", desc := "(I)[Ljava/lang/Object;" } : Jvm.MethodName) jdk_38_method_6_code (4 : Nat) (Option.some (Jvm.ClassFile.FieldType.array (Jvm.ClassFile.FieldType.object "java/lang/Object"))), Jvm.Cond.code ({ cls := "java/lang/Math", name := "max", desc := "(II)I" } : Jvm.MethodName) jdk_29_method_65_code (2 : Nat) (Option.some Jvm.ClassFile.FieldType.int), Jvm.Cond.code ({ cls := "com/example/newt/newt/core/delivery/Outbox$Claim", name := "isOfBacklog", desc := "(Lcom/example/newt/newt/core/delivery/Change;)Z" } : Jvm.MethodName) prog_11_method_4_code (4 : Nat) (Option.some Jvm.ClassFile.FieldType.boolean), Jvm.Cond.code ({ cls := "java/util/ArrayList", name := "size", desc := "()I" } : Jvm.MethodName) jdk_38_method_8_code (1 : Nat) (Option.some Jvm.ClassFile.FieldType.int), Jvm.Cond.code ({ cls := "java/util/ArrayList", name := "subList", desc := "(II)Ljava/util/List;" } : Jvm.MethodName) jdk_38_method_56_code (3 : Nat) (Option.some (Jvm.ClassFile.FieldType.object "java/util/List")), Jvm.Cond.code ({ cls := "java/util/AbstractList", name := "subListRangeCheck", desc := "(III)V" } : Jvm.MethodName) jdk_39_method_15_code (3 : Nat) (Option.none : Option Jvm.ClassFile.FieldType), Jvm.Cond.code ({ cls := "java/util/ArrayList$SubList", name := "<init>", desc := "(Ljava/util/ArrayList;II)V" } : Jvm.MethodName) jdk_130_method_1_code (4 : Nat) (Option.none : Option Jvm.ClassFile.FieldType), Jvm.Cond.code ({ cls := "java/util/ArrayList$SubList", name := "iterator", desc := "()Ljava/util/Iterator;" } : Jvm.MethodName) jdk_130_method_23_code (1 : Nat) (Option.some (Jvm.ClassFile.FieldType.object "java/util/Iterator")), Jvm.Cond.code ({ cls := "java/util/AbstractList", name := "listIterator", desc := "()Ljava/util/ListIterator;" } : Jvm.MethodName) jdk_39_method_12_code (1 : Nat) (Option.some (Jvm.ClassFile.FieldType.object "java/util/ListIterator")), Jvm.Cond.code ({ cls := "java/util/ArrayList$SubList", name := "listIterator", desc := "(I)Ljava/util/ListIterator;" } : Jvm.MethodName) jdk_130_method_24_code (2 : Nat) (Option.some (Jvm.ClassFile.FieldType.object "java/util/ListIterator")), Jvm.Cond.code ({ cls := "java/util/ArrayList$SubList", name := "checkForComodification", desc := "()V" } : Jvm.MethodName) jdk_130_method_28_code (1 : Nat) (Option.none : Option Jvm.ClassFile.FieldType), Jvm.Cond.code ({ cls := "java/util/ArrayList$SubList", name := "rangeCheckForAdd", desc := "(I)V" } : Jvm.MethodName) jdk_130_method_26_code (2 : Nat) (Option.none : Option Jvm.ClassFile.FieldType), Jvm.Cond.code ({ cls := "java/util/ArrayList$SubList$1", name := "<init>", desc := "(Ljava/util/ArrayList$SubList;I)V" } : Jvm.MethodName) jdk_136_method_1_code (3 : Nat) (Option.none : Option Jvm.ClassFile.FieldType), Jvm.Cond.code ({ cls := "java/util/ArrayList$SubList$1", name := "hasNext", desc := "()Z" } : Jvm.MethodName) jdk_136_method_2_code (1 : Nat) (Option.some Jvm.ClassFile.FieldType.boolean), Jvm.Cond.code ({ cls := "java/util/ArrayList$SubList$1", name := "next", desc := "()Ljava/lang/Object;" } : Jvm.MethodName) jdk_136_method_3_code (3 : Nat) (Option.some (Jvm.ClassFile.FieldType.object "java/lang/Object")), Jvm.Cond.code ({ cls := "java/util/ArrayList$SubList$1", name := "checkForComodification", desc := "()V" } : Jvm.MethodName) jdk_136_method_12_code (1 : Nat) (Option.none : Option Jvm.ClassFile.FieldType), Jvm.Cond.code ({ cls := "com/example/newt/newt/core/delivery/Change", name := "getId", desc := "()J" } : Jvm.MethodName) prog_6_method_2_code (1 : Nat) (Option.some Jvm.ClassFile.FieldType.long)]
set_option maxRecDepth 65536 in
theorem codes_eq : words1.filter isCode = codes1 := rfl
theorem w_codes : ∀ c ∈ words1.filter isCode, c.before args0 about1 = true := by
  rw [codes_eq]
  intro c hc
  simp only [codes1, List.mem_cons, List.not_mem_nil, or_false] at hc
  rcases hc with rfl | rfl | rfl | rfl | rfl | rfl | rfl | rfl | rfl | rfl | rfl | rfl | rfl | rfl | rfl | rfl | rfl | rfl | rfl | rfl | rfl | rfl | rfl | rfl | rfl | rfl | rfl | rfl
  · exact w_c0
  · exact w_c1
  · exact w_c2
  · exact w_c3
  · exact w_c4
  · exact w_c5
  · exact w_c6
  · exact w_c7
  · exact w_c8
  · exact w_c9
  · exact w_c10
  · exact w_c11
  · exact w_c12
  · exact w_c13
  · exact w_c14
  · exact w_c15
  · exact w_c16
  · exact w_c17
  · exact w_c18
  · exact w_c19
  · exact w_c20
  · exact w_c21
  · exact w_c22
  · exact w_c23
  · exact w_c24
  · exact w_c25
  · exact w_c26
  · exact w_c27
set_option maxRecDepth 65536 in
theorem w_t1 : (words1.take 24).all (fun c => isCode c || c.before args0 about1) = true := by decide +kernel
set_option maxRecDepth 65536 in
theorem w_t2 : ((words1.drop 24).take 24).all (fun c => isCode c || c.before args0 about1) = true := by decide +kernel
set_option maxRecDepth 65536 in
theorem w_t3 : (((words1.drop 24).drop 24).take 24).all (fun c => isCode c || c.before args0 about1) = true := by decide +kernel
set_option maxRecDepth 65536 in
theorem w_t4 : ((((words1.drop 24).drop 24).drop 24).take 24).all (fun c => isCode c || c.before args0 about1) = true := by decide +kernel
set_option maxRecDepth 65536 in
theorem w_t5 : (((((words1.drop 24).drop 24).drop 24).drop 24).take 24).all (fun c => isCode c || c.before args0 about1) = true := by decide +kernel
set_option maxRecDepth 65536 in
theorem w_t6 : ((((((words1.drop 24).drop 24).drop 24).drop 24).drop 24).take 24).all (fun c => isCode c || c.before args0 about1) = true := by decide +kernel
set_option maxRecDepth 65536 in
theorem w_t7 : (((((((words1.drop 24).drop 24).drop 24).drop 24).drop 24).drop 24).take 24).all (fun c => isCode c || c.before args0 about1) = true := by decide +kernel
set_option maxRecDepth 65536 in
theorem w_t8 : ((((((((words1.drop 24).drop 24).drop 24).drop 24).drop 24).drop 24).drop 24).take 24).all (fun c => isCode c || c.before args0 about1) = true := by decide +kernel
set_option maxRecDepth 65536 in
theorem w_t9 : (((((((((words1.drop 24).drop 24).drop 24).drop 24).drop 24).drop 24).drop 24).drop 24).take 24).all (fun c => isCode c || c.before args0 about1) = true := by decide +kernel
set_option maxRecDepth 65536 in
theorem w_t10 : (((((((((words1.drop 24).drop 24).drop 24).drop 24).drop 24).drop 24).drop 24).drop 24).drop 24).all (fun c => isCode c || c.before args0 about1) = true := by decide +kernel
theorem w_tables : (allAtoms (Jvm.Cond.code x code maxLocals ret :: tables_1)).before args0 about1 = true := by
  rw [allAtoms_all]
  show words1.all (fun c => c.before args0 about1) = true
  refine all_split ?_ w_codes
  rw [← List.take_append_drop 24 words1, List.all_append, w_t1, ← List.take_append_drop 24 (words1.drop 24), List.all_append, w_t2, ← List.take_append_drop 24 ((words1.drop 24).drop 24), List.all_append, w_t3, ← List.take_append_drop 24 (((words1.drop 24).drop 24).drop 24), List.all_append, w_t4, ← List.take_append_drop 24 ((((words1.drop 24).drop 24).drop 24).drop 24), List.all_append, w_t5, ← List.take_append_drop 24 (((((words1.drop 24).drop 24).drop 24).drop 24).drop 24), List.all_append, w_t6, ← List.take_append_drop 24 ((((((words1.drop 24).drop 24).drop 24).drop 24).drop 24).drop 24), List.all_append, w_t7, ← List.take_append_drop 24 (((((((words1.drop 24).drop 24).drop 24).drop 24).drop 24).drop 24).drop 24), List.all_append, w_t8, ← List.take_append_drop 24 ((((((((words1.drop 24).drop 24).drop 24).drop 24).drop 24).drop 24).drop 24).drop 24), List.all_append, w_t9, w_t10]
  rfl
set_option maxRecDepth 65536 in
theorem w_rest : rest_1_c.before args0 about1 = true := by decide +kernel
set_option maxRecDepth 65536 in
theorem w_case : (Jvm.Cond.and given_1 narrow_1).before args0 about1 = true := by decide +kernel
theorem w_applies : (headSpec (Jvm.Cond.code x code maxLocals ret :: tables_1) room_1).applies x e0.platform about1 = true :=
  (Spec.applies_iff w_frames).mpr ⟨w_running, w_runnable, w_alone, w_named, w_hears, w_ripe, w_room, w_tables⟩
theorem atStart : AtStart classFile x code maxLocals ret World_1 tables_1 room_1 Calls_1 rest_1 Pre_1 launch0 p0 e0 about1 theMethod args0 below0 :=
  ⟨lists_1, trivial, launch0.admits_env _ _ _, launch0.least_env, fairChoices_fair.cas, fairChoices_fair.clock, w_frames, w_args, w_heap, w_applies, trivial, w_rest, w_case⟩
end start1
theorem witness_1 : WitnessClaimed_1 := ⟨start1.p0, start1.e0, start1.about1, start1.theMethod, start1.args0, start1.below0, start1.atStart⟩
end Jvm.Pilot.@@N@@
