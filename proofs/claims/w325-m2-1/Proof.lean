import JvmDerived
import JvmDerived.Pilot.@@N@@Statement
import JvmDerived.Pilot.@@N@@Code
set_option linter.unusedVariables false
set_option linter.unusedSimpArgs false
namespace Jvm.RoadKit
open Sem ClassFile Op Lib Jvm.Stand Jvm.Free Jvm.LawKit
section OwnKit
variable {p : Program} {l : Launch} {e : Env} {R : Room} {s : State} {m : MethodId} {args : Array Value} {below : List Frame} {meth : Method} {c : Code} {T : State} {locs : List Loc} {cells slots : Nat} {Z : State} {a0 : Array Value} {h : Heap}
abbrev OwnP : Type := Option Value → Heap → List Loc → Prop
/-- from the state A the run comes back with what P says -/
def OwnG (tb : Tables) (e : Env) (below : List Frame) (s : State) (P : OwnP) (rc rs : Nat) (A : State) : Prop :=
  ∃ s₂ o, Steps tb e below A s₂ ∧ s₂.status = .running ∧ Ended s₂ below o ∧ ∃ v L, o = .returned v ∧ P v s₂.heap L ∧ FrameEnd s o s₂ L rc rs
theorem own_go {tb : Tables} {P : OwnP} {rc rs : Nat} {A : State} (T' : State) (m' : MethodId) (pc : Nat) (Ls : Array Slot) (st : List Value) (f : ∀ t, Steps tb e below (T'.setTop (mkF m' pc Ls st)) t → Steps tb e below A t) (k : OwnG tb e below s P rc rs (T'.setTop (mkF m' pc Ls st))) : OwnG tb e below s P rc rs A := by
  obtain ⟨s₂, o, h1, h2⟩ := k
  exact ⟨s₂, o, f _ h1, h2⟩
theorem own_mono {tb : Tables} {P P' : OwnP} {rc rs : Nat} {A : State} (f : ∀ v h L, P v h L → P' v h L) (k : OwnG tb e below s P rc rs A) : OwnG tb e below s P' rc rs A := by
  obtain ⟨s₂, o, h1, h2, h3, v, L, h4, h5, h6⟩ := k
  exact ⟨s₂, o, h1, h2, h3, v, L, h4, f _ _ _ h5, h6⟩
/-- what a walk knows of the body -/
def OwnX (Z : State) (p : Program) (s : State) (m : MethodId) (meth : Method) (c : Code) (bytes : ByteArray) (maxL : Nat) (ret : Option FieldType) (own nm : String) : Prop :=
  p.tables.exec = Jvm.exec ∧ c.code = bytes ∧ c.maxLocals = maxL ∧ s.vm.findClass own = some m.cls ∧ meth.name = nm ∧ meth.sig.returnType = ret ∧ meth.locks = false ∧ Z.Warmed39 s.vm
/-- a body's contract -/
abbrev OwnC (l : Launch) (Z : State) (y : MethodName) (bytes : ByteArray) (maxL : Nat) (ret : Option FieldType) (ws : List Cond) (rm : Room) (as' : Array Value) (h0 : Heap) (P : OwnP) : Prop :=
  MetFree l y (head1 (Cond.code y bytes maxL ret :: ws) rm) (fun a U => a = as' ∧ Z.Warmed39 U.vm ∧ U.heap = h0) (fun _ _ _ _ _ => True) (fun _ U o U' => ∃ v L, o = .returned v ∧ P v U'.heap L ∧ FrameEnd U o U' L rm.cells rm.slots)
theorem own_entry {y : MethodName} {bytes : ByteArray} {maxL : Nat} {ret : Option FieldType} {ws : List Cond} {rm : Room} {as' : Array Value} {h0 : Heap} {P : OwnP} {Ls : Array Slot} (hpl : plainFor y = true) (ef : ∀ m, entryFrame m as' maxL = mkF m 0 Ls [])
    (body : ∀ (p : Program) (e : Env) (s : State) (m : MethodId) (below : List Frame) (meth : Method) (c : Code) (T : State), Stand p l e rm s m as' below meth c T [] 0 0 → OwnX Z p s m meth c bytes maxL ret y.cls y.name → T.heap = h0 → OwnG p.tables e below s P rm.cells rm.slots (T.setTop (mkF m 0 Ls []))) :
    OwnC l Z y bytes maxL ret ws rm as' h0 P := by
  refine MetFree.of_bodySF hpl hisR ?_
  intro p e s m args below meth c s₁ Bd hml0 hP hK
  obtain ⟨rfl, hZ, hh⟩ := hP
  have e0 : s₁.heap = h0 := by rw [← hh, Bd.state]; rfl
  obtain ⟨s₂, o, h1, h2⟩ := body p e s m below meth c s₁ (Stand.of_body Bd) ⟨Bd.exec, Bd.bytes, hml0, findClass_of_methodNamed Bd.named, (name_of_methodNamed Bd.named Bd.method).1, Bd.returns, Bd.notSynchronized, hZ⟩ e0
  exact ⟨s₂, o, castTop (ef m) h1, h2⟩
theorem own_ret {P : OwnP} {rc rs : Nat} (X : Stand p l e R s m args below meth c T locs cells slots) (hx : p.tables.exec = Jvm.exec) (hlk : meth.locks = false) {pc : Nat} {Ls : Array Slot} {w : Value} {t : FieldType} {i : Instr} {rest : List Value} (hret : meth.sig.returnType = some t) (hn : narrow t w = w)
    (hi : (i = .ireturn ∧ (t = .int ∨ t = .boolean ∨ t = .byte ∨ t = .char ∨ t = .short) ∧ ∃ z, w = .int z) ∨ (i = .lreturn ∧ t = .long ∧ ∃ z, w = .long z) ∨ (i = .dreturn ∧ t = .double ∧ ∃ z, w = .double z) ∨ (i = .freturn ∧ t = .float ∧ ∃ z, w = .float z) ∨ (i = .areturn ∧ t.isReference = true ∧ w.isRef = true))
    (hd : decode c.code pc = .ok (i, 1)) (hc : cells ≤ rc) (hs : slots ≤ rs) (hP : P (some w) T.heap locs) : OwnG p.tables e below s P rc rs (T.setTop (mkF m pc Ls (w :: rest))) := by
  obtain ⟨fs, hr, hrun, hended, hW, hsame⟩ := X.leave (v := some w) (fun h => by rw [hret] at h; cases h) hlk
  exact ⟨_, _, retOut X hx hret hn hi hd hr, hrun, hended, _, _, rfl, hP, ⟨_, rfl⟩, hW, hsame.mono hc hs⟩
theorem own_retI {P : OwnP} {rc rs : Nat} (X : Stand p l e R s m args below meth c T locs cells slots) (hx : p.tables.exec = Jvm.exec) (hlk : meth.locks = false) {pc : Nat} {Ls : Array Slot} {z : Int32} {rest : List Value} (hret : meth.sig.returnType = some .int)
    (hd : decode c.code pc = .ok (.ireturn, 1)) (hc : cells ≤ rc) (hs : slots ≤ rs) (hP : P (some (.int z)) T.heap locs) : OwnG p.tables e below s P rc rs (T.setTop (mkF m pc Ls (.int z :: rest))) :=
  own_ret X hx hlk hret rfl (Or.inl ⟨rfl, Or.inl rfl, z, rfl⟩) hd hc hs hP
theorem own_retZ {P : OwnP} {rc rs : Nat} (X : Stand p l e R s m args below meth c T locs cells slots) (hx : p.tables.exec = Jvm.exec) (hlk : meth.locks = false) {pc : Nat} {Ls : Array Slot} {z : Int32} {rest : List Value} (hret : meth.sig.returnType = some .boolean) (hz : z = 0 ∨ z = 1)
    (hd : decode c.code pc = .ok (.ireturn, 1)) (hc : cells ≤ rc) (hs : slots ≤ rs) (hP : P (some (.int z)) T.heap locs) : OwnG p.tables e below s P rc rs (T.setTop (mkF m pc Ls (.int z :: rest))) :=
  own_ret X hx hlk hret (by rcases hz with rfl | rfl <;> rfl) (Or.inl ⟨rfl, Or.inr (Or.inl rfl), z, rfl⟩) hd hc hs hP
theorem own_retB {P : OwnP} {rc rs : Nat} (X : Stand p l e R s m args below meth c T locs cells slots) (hx : p.tables.exec = Jvm.exec) (hlk : meth.locks = false) {pc : Nat} {Ls : Array Slot} {z : Int32} {rest : List Value} (hret : meth.sig.returnType = some .byte) (hz : narrow .byte (.int z) = .int z)
    (hd : decode c.code pc = .ok (.ireturn, 1)) (hc : cells ≤ rc) (hs : slots ≤ rs) (hP : P (some (.int z)) T.heap locs) : OwnG p.tables e below s P rc rs (T.setTop (mkF m pc Ls (.int z :: rest))) :=
  own_ret X hx hlk hret hz (Or.inl ⟨rfl, Or.inr (Or.inr (Or.inl rfl)), z, rfl⟩) hd hc hs hP
theorem own_retJ {P : OwnP} {rc rs : Nat} (X : Stand p l e R s m args below meth c T locs cells slots) (hx : p.tables.exec = Jvm.exec) (hlk : meth.locks = false) {pc : Nat} {Ls : Array Slot} {z : Int64} {rest : List Value} (hret : meth.sig.returnType = some .long)
    (hd : decode c.code pc = .ok (.lreturn, 1)) (hc : cells ≤ rc) (hs : slots ≤ rs) (hP : P (some (.long z)) T.heap locs) : OwnG p.tables e below s P rc rs (T.setTop (mkF m pc Ls (.long z :: rest))) :=
  own_ret X hx hlk hret rfl (Or.inr (Or.inl ⟨rfl, rfl, z, rfl⟩)) hd hc hs hP
theorem own_retA {P : OwnP} {rc rs : Nat} (X : Stand p l e R s m args below meth c T locs cells slots) (hx : p.tables.exec = Jvm.exec) (hlk : meth.locks = false) {pc : Nat} {Ls : Array Slot} {w : Value} {t : FieldType} {rest : List Value} (hret : meth.sig.returnType = some t) (hn : narrow t w = w) (ht : t.isReference = true) (hw : w.isRef = true)
    (hd : decode c.code pc = .ok (.areturn, 1)) (hc : cells ≤ rc) (hs : slots ≤ rs) (hP : P (some w) T.heap locs) : OwnG p.tables e below s P rc rs (T.setTop (mkF m pc Ls (w :: rest))) :=
  own_ret X hx hlk hret hn (Or.inr (Or.inr (Or.inr (Or.inr ⟨rfl, ht, hw⟩)))) hd hc hs hP
theorem own_retV {P : OwnP} {rc rs : Nat} (X : Stand p l e R s m args below meth c T locs cells slots) (hx : p.tables.exec = Jvm.exec) (hlk : meth.locks = false) {pc : Nat} {Ls : Array Slot} (hret : meth.sig.returnType = none)
    (hd : decode c.code pc = .ok (.return_, 1)) (hc : cells ≤ rc) (hs : slots ≤ rs) (hP : P none T.heap locs) : OwnG p.tables e below s P rc rs (T.setTop (mkF m pc Ls [])) := by
  obtain ⟨fs, hr, hrun, hended, hW, hsame⟩ := X.leave (v := none) (fun _ => rfl) hlk
  exact ⟨_, _, X.returnOut hx hret hd hr, hrun, hended, _, _, rfl, hP, ⟨_, rfl⟩, hW, hsame.mono hc hs⟩
theorem own_static (X : Stand p l e R s m args below meth c T locs cells slots) (hx : p.tables.exec = Jvm.exec) (hZ : Z.Warmed39 s.vm) {own : String} {index : Nat} {y : MethodName} {bytes : ByteArray} {maxL : Nat} {ret : Option FieldType} {rm : Room} {as' : Array Value} {P : OwnP}
    (hown : s.vm.findClass own = some m.cls) (w1 : (Cond.methodLink own index y).before a0 Z = true) (w2 : (Cond.static y).before a0 Z = true) (w3 : (Cond.initialized y.cls).before a0 Z = true) (w4 : (Cond.code y bytes maxL ret).before a0 Z = true) (hy : y.cls ≠ "java/lang/invoke/MethodHandle" ∧ y.cls ≠ "java/lang/invoke/VarHandle")
    (hM : OwnC l Z y bytes maxL ret [] rm as' h P) (eT : T.heap = h) {pc : Nat} {Ls : Array Slot} {argsL rest : List Value} (W : Nat) {st : List Value} (hsz : Ls.size = c.maxLocals) (hlen : ∀ sig, parseMethodDescriptor y.desc = some sig → argsL.length = sig.parameters.length) (has : argsL.toArray = as') (hst : st = argsL.reverse ++ rest) (hW : (rest.map fun v => v.category).sum ≤ W)
    (hd : decode c.code pc = .ok (.invokestatic index, 3)) (hf : rm.frames + 1 ≤ R.frames) (hl : W + (maxL + 11) + rm.locals ≤ R.locals) (hc : cells + rm.cells ≤ R.cells) (hs : slots + rm.slots ≤ R.slots) :
    ∃ v T' L, Stand p l e R s m args below meth c T' (locs ++ L) (cells + rm.cells) (slots + rm.slots) ∧ P v T'.heap L ∧ ∀ t, Steps p.tables e below (T'.setTop (mkF m (pc + 3) Ls (v.toList ++ rest))) t → Steps p.tables e below (T.setTop (mkF m pc Ls st)) t := by
  obtain ⟨v, vm₁, ⟨T', L', k', n'⟩, -, X', ⟨L, hQ, l1, l2, l3⟩, stp⟩ := Jvm.LawKit.callS X hx hown (mvT hZ w1) (mvT hZ w2) (mvT hZ w3) (mvT hZ w4) hy (backOf (W := W) hM hZ w4 w3 hf hl) (g := mkF m pc Ls st) rfl hsz (argsL := argsL) (rest := rest) hlen hst (by show 2 * 0 + _ ≤ _; omega) hd (fun _ _ => ⟨has, eT, hc, hs⟩)
  dsimp only [Pt.U, Pt.locs, Pt.cells, Pt.slots] at X' l1 l2 l3 stp hQ
  subst l1 l2 l3
  exact ⟨v, T', L, X', hQ, stp⟩
theorem own_init (X : Stand p l e R s m args below meth c T locs cells slots) (hx : p.tables.exec = Jvm.exec) (hZ : Z.Warmed39 s.vm) {own : String} {index : Nat} {y : MethodName} {bytes : ByteArray} {maxL : Nat} {rm : Room} {as' : Array Value} {P : OwnP} (hy1 : y.name = "<init>")
    (hown : s.vm.findClass own = some m.cls) (w1 : (Cond.methodLink own index y).before a0 Z = true) (w2 : (Cond.instanceMethod y).before a0 Z = true) (w3 : (Cond.initialized y.cls).before a0 Z = true) (w4 : (Cond.code y bytes maxL none).before a0 Z = true) (hy : y.cls ≠ "java/lang/invoke/MethodHandle" ∧ y.cls ≠ "java/lang/invoke/VarHandle")
    (hM : OwnC l Z y bytes maxL none [] rm as' h P) (eT : T.heap = h) {pc : Nat} {Ls : Array Slot} {a : Addr} {argsL rest : List Value} (W : Nat) {st : List Value} (hsz : Ls.size = c.maxLocals) (hlen : ∀ sig, parseMethodDescriptor y.desc = some sig → argsL.length = sig.parameters.length) (has : (.ref a :: argsL).toArray = as') (hst : st = argsL.reverse ++ .ref a :: rest) (hW : (rest.map fun v => v.category).sum ≤ W)
    (hd : decode c.code pc = .ok (.invokespecial index, 3)) (hf : rm.frames + 1 ≤ R.frames) (hl : W + (maxL + 11) + rm.locals ≤ R.locals) (hc : cells + rm.cells ≤ R.cells) (hs : slots + rm.slots ≤ R.slots) :
    ∃ v T' L, Stand p l e R s m args below meth c T' (locs ++ L) (cells + rm.cells) (slots + rm.slots) ∧ P v T'.heap L ∧ ∀ t, Steps p.tables e below (T'.setTop (mkF m (pc + 3) Ls (v.toList ++ rest))) t → Steps p.tables e below (T.setTop (mkF m pc Ls st)) t := by
  obtain ⟨v, vm₁, ⟨T', L', k', n'⟩, -, X', ⟨L, hQ, l1, l2, l3⟩, stp⟩ := X.specialBack hx hy1 hown (mvT hZ w1) (mvT hZ w2) (mvT hZ w4) hy (backOf (W := W) hM hZ w4 w3 hf hl) (g := mkF m pc Ls st) rfl hsz (Steps.refl _) (a := a) (argsL := argsL) (rest := rest) hlen hst (by show 2 * 0 + _ ≤ _; omega) hd (fun _ _ => ⟨has, eT, hc, hs⟩)
  dsimp only [Pt.U, Pt.locs, Pt.cells, Pt.slots] at X' l1 l2 l3 stp hQ
  subst l1 l2 l3
  exact ⟨v, T', L, X', hQ, fun t k => stp.trans k⟩
theorem own_virtual (X : Stand p l e R s m args below meth c T locs cells slots) (hx : p.tables.exec = Jvm.exec) (hZ : Z.Warmed39 s.vm) {own C : String} {index : Nat} {y z : MethodName} {bytes : ByteArray} {maxL : Nat} {ret : Option FieldType} {rm : Room} {as' : Array Value} {P : OwnP}
    (hown : s.vm.findClass own = some m.cls) (w1 : (Cond.methodLink own index y).before a0 Z = true) (w2 : (Cond.declares y).before a0 Z = true) (hnf : NotFace s y) (w5 : (Cond.selects C y z).before a0 Z = true) (w6 : (Cond.instanceMethod z).before a0 Z = true) (w3 : (Cond.initialized z.cls).before a0 Z = true) (w4 : (Cond.code z bytes maxL ret).before a0 Z = true) (hy : y.cls ≠ "java/lang/invoke/MethodHandle" ∧ y.cls ≠ "java/lang/invoke/VarHandle")
    (hM : OwnC l Z z bytes maxL ret [] rm as' h P) (eT : T.heap = h) {a : Addr} (E : Exa Z h a C) {pc : Nat} {Ls : Array Slot} {argsL rest : List Value} (W : Nat) {st : List Value} (hsz : Ls.size = c.maxLocals) (hlen : ∀ sig, parseMethodDescriptor y.desc = some sig → argsL.length = sig.parameters.length) (has : (.ref a :: argsL).toArray = as') (hst : st = argsL.reverse ++ .ref a :: rest) (hW : (rest.map fun v => v.category).sum ≤ W)
    (hd : decode c.code pc = .ok (.invokevirtual index, 3)) (hf : rm.frames + 1 ≤ R.frames) (hl : W + (maxL + 11) + rm.locals ≤ R.locals) (hc : cells + rm.cells ≤ R.cells) (hs : slots + rm.slots ≤ R.slots) :
    ∃ v T' L, Stand p l e R s m args below meth c T' (locs ++ L) (cells + rm.cells) (slots + rm.slots) ∧ P v T'.heap L ∧ ∀ t, Steps p.tables e below (T'.setTop (mkF m (pc + 3) Ls (v.toList ++ rest))) t → Steps p.tables e below (T.setTop (mkF m pc Ls st)) t := by
  obtain ⟨cq, kq, qa, qb, qc⟩ := isOf hZ eT E
  obtain ⟨v, vm₁, ⟨T', L', k', n'⟩, -, X', ⟨L, hQ, l1, l2, l3⟩, stp⟩ := X.virtualBack hx (y := y) (z := z) hown (mvT hZ w1) (mvT hZ w2) hnf (mvT hZ w5) (mvT hZ w6) hy (backOf (W := W) hM hZ w4 w3 hf hl) qa qc (g := mkF m pc Ls st) rfl hsz (Steps.refl _) (argsL := argsL) (rest := rest) hlen hst (by show 2 * 0 + _ ≤ _; omega) hd (fun _ _ => ⟨has, eT, hc, hs⟩)
  dsimp only [Pt.U, Pt.locs, Pt.cells, Pt.slots] at X' l1 l2 l3 stp hQ
  subst l1 l2 l3
  exact ⟨v, T', L, X', hQ, fun t k => stp.trans k⟩
/-- a body that writes nothing and makes nothing -/
def OwnPure (w : Value) (h0 : Heap) : OwnP := fun v h L => v = some w ∧ h = h0 ∧ L = []
theorem own_nil (X : Stand p l e R s m args below meth c T (locs ++ []) cells slots) : Stand p l e R s m args below meth c T locs cells slots := by rwa [List.append_nil] at X
theorem own_iaload (X : Stand p l e R s m args below meth c T locs cells slots) (hx : p.tables.exec = Jvm.exec) (hZ : Z.Warmed39 s.vm) (eT : T.heap = h) {a : Addr} {k : ClassId} {n : Int32} {vs : List Value} {dv : Value} (V : Arv Z h a k .int n vs dv) {j x : Int32} (hj : ¬ j < 0 ∧ j < n) (hv : vs.getD j.toNatClampNeg dv = .int x)
    {pc : Nat} {Ls : Array Slot} {rest : List Value} (hd : decode c.code pc = .ok (.iaload, 1)) : ∀ t, Steps p.tables e below (T.setTop (mkF m (pc + 1) Ls (.int x :: rest))) t → Steps p.tables e below (T.setTop (mkF m pc Ls (.int j :: .ref a :: rest))) t := by
  obtain ⟨cl, A, -, S, -, H, -⟩ := V
  exact fun t k => X.iaload hx (by rw [eT]; exact A.1) (State.isArrayOf_alike hZ.alike A.2.1) A.2.2 (inb_of S hj) (H.at (inb_of S hj) hv) (g := mkF m pc Ls (.int j :: .ref a :: rest)) rfl rfl hd t k
theorem own_baload (X : Stand p l e R s m args below meth c T locs cells slots) (hx : p.tables.exec = Jvm.exec) (hZ : Z.Warmed39 s.vm) (eT : T.heap = h) {a : Addr} {k : ClassId} {n : Int32} {vs : List Value} {dv : Value} (V : Arv Z h a k .byte n vs dv) {j x : Int32} (hj : ¬ j < 0 ∧ j < n) (hv : vs.getD j.toNatClampNeg dv = .int x)
    {pc : Nat} {Ls : Array Slot} {rest : List Value} (hd : decode c.code pc = .ok (.baload, 1)) : ∀ t, Steps p.tables e below (T.setTop (mkF m (pc + 1) Ls (.int x :: rest))) t → Steps p.tables e below (T.setTop (mkF m pc Ls (.int j :: .ref a :: rest))) t := by
  obtain ⟨cl, A, -, S, -, H, -⟩ := V
  exact fun t k => X.baloadBytes hx (by rw [eT]; exact A.1) (State.isArrayOf_alike hZ.alike A.2.1) A.2.2 (inb_of S hj) (H.at (inb_of S hj) hv) (g := mkF m pc Ls (.int j :: .ref a :: rest)) rfl rfl hd t k
theorem own_aaload (X : Stand p l e R s m args below meth c T locs cells slots) (hx : p.tables.exec = Jvm.exec) (hZ : Z.Warmed39 s.vm) (eT : T.heap = h) {a : Addr} {k : ClassId} {ty : FieldType} {n : Int32} {vs : List Value} {dv : Value} (V : Arv Z h a k ty n vs dv) (hty : ty.isReference = true) {j : Int32} {w : Value} (hj : ¬ j < 0 ∧ j < n) (hv : vs.getD j.toNatClampNeg dv = w)
    {pc : Nat} {Ls : Array Slot} {rest : List Value} (hd : decode c.code pc = .ok (.aaload, 1)) : ∀ t, Steps p.tables e below (T.setTop (mkF m (pc + 1) Ls (w :: rest))) t → Steps p.tables e below (T.setTop (mkF m pc Ls (.int j :: .ref a :: rest))) t := by
  obtain ⟨cl, A, -, S, -, H, -⟩ := V
  exact fun t k => X.aaload hx (by rw [eT]; exact A.1) (State.isArrayOf_alike hZ.alike A.2.1) hty A.2.2 (inb_of S hj) (H.at (inb_of S hj) hv) (g := mkF m pc Ls (.int j :: .ref a :: rest)) rfl rfl hd t k
theorem own_alen (X : Stand p l e R s m args below meth c T locs cells slots) (hx : p.tables.exec = Jvm.exec) (hZ : Z.Warmed39 s.vm) (eT : T.heap = h) {a : Addr} {k : ClassId} {ty : FieldType} {n : Int32} {vs : List Value} {dv : Value} (V : Arv Z h a k ty n vs dv)
    {pc : Nat} {Ls : Array Slot} {rest : List Value} (hd : decode c.code pc = .ok (.arraylength, 1)) : ∀ t, Steps p.tables e below (T.setTop (mkF m (pc + 1) Ls (.int n :: rest))) t → Steps p.tables e below (T.setTop (mkF m pc Ls (.ref a :: rest))) t := by
  obtain ⟨cl, A, -, S, N, H, -⟩ := V
  intro t q
  refine X.arraylength hx (by rw [eT]; exact A.1) (State.isArrayOf_alike hZ.alike A.2.1) (g := mkF m pc Ls (.ref a :: rest)) rfl rfl hd t ?_
  rw [len_of S N]
  exact q
theorem own_iastore (X : Stand p l e R s m args below meth c T locs cells slots) (hx : p.tables.exec = Jvm.exec) (hZ : Z.Warmed39 s.vm) (eT : T.heap = h) {a : Addr} {k : ClassId} {n : Int32} {vs : List Value} {dv : Value} (V : Arv Z h a k .int n vs dv) {j x : Int32} (hj : ¬ j < 0 ∧ j < n) (i : Nat) (hi : j.toNatClampNeg = i) (hl : i < vs.length)
    {pc : Nat} {Ls : Array Slot} {rest : List Value} (hd : decode c.code pc = .ok (.iastore, 1)) : ∃ T' h', Stand p l e R s m args below meth c T' (locs ++ [⟨a, i⟩]) cells slots ∧ T'.heap = h' ∧ Wr h h' a i (.int x) ∧ Arv Z h' a k .int n (vs.set i (.int x)) dv ∧ ∀ t, Steps p.tables e below (T'.setTop (mkF m (pc + 1) Ls rest)) t → Steps p.tables e below (T.setTop (mkF m pc Ls (.int x :: .int j :: .ref a :: rest))) t := by
  obtain ⟨cl, A, q1, S, N, H, G⟩ := V
  obtain ⟨T', h', X', e', W', st⟩ := stI X hx hZ eT A (j := j) (x := x) (inb_of S hj) (g := mkF m pc Ls (.int x :: .int j :: .ref a :: rest)) rfl rfl hd
  have V' := Arv.set A q1 S N H G (v := .int x) rfl W' i hi hl
  rw [hi] at X' W'
  exact ⟨T', h', X', e', W', V', st⟩
theorem own_bastore (X : Stand p l e R s m args below meth c T locs cells slots) (hx : p.tables.exec = Jvm.exec) (hZ : Z.Warmed39 s.vm) (eT : T.heap = h) {a : Addr} {k : ClassId} {n : Int32} {vs : List Value} {dv : Value} (V : Arv Z h a k .byte n vs dv) {j x : Int32} (hj : ¬ j < 0 ∧ j < n) (i : Nat) (hi : j.toNatClampNeg = i) (hl : i < vs.length)
    {pc : Nat} {Ls : Array Slot} {rest : List Value} (hd : decode c.code pc = .ok (.bastore, 1)) : ∃ T' h', Stand p l e R s m args below meth c T' (locs ++ [⟨a, i⟩]) cells slots ∧ T'.heap = h' ∧ Wr h h' a i (.int x.toInt8.toInt32) ∧ Arv Z h' a k .byte n (vs.set i (.int x.toInt8.toInt32)) dv ∧ ∀ t, Steps p.tables e below (T'.setTop (mkF m (pc + 1) Ls rest)) t → Steps p.tables e below (T.setTop (mkF m pc Ls (.int x :: .int j :: .ref a :: rest))) t := by
  obtain ⟨cl, A, q1, S, N, H, G⟩ := V
  obtain ⟨T', h', X', e', W', st⟩ := stB X hx hZ eT A (j := j) (x := x) (inb_of S hj) (g := mkF m pc Ls (.int x :: .int j :: .ref a :: rest)) rfl rfl hd
  have V' := Arv.set A q1 S N H G (v := .int x.toInt8.toInt32) (fits_nar_byte x) W' i hi hl
  rw [hi] at X' W'
  exact ⟨T', h', X', e', W', V', st⟩
theorem own_aastore (X : Stand p l e R s m args below meth c T locs cells slots) (hx : p.tables.exec = Jvm.exec) (hZ : Z.Warmed39 s.vm) (eT : T.heap = h) {a : Addr} {k : ClassId} {ty : FieldType} {n : Int32} {vs : List Value} {dv : Value} (V : Arv Z h a k ty n vs dv) (hty : ty.isReference = true) {C : String} (O : Ovr Z k C) {y : Addr} (I : Ins Z h y C true) {j : Int32} (hj : ¬ j < 0 ∧ j < n) (i : Nat) (hi : j.toNatClampNeg = i) (hl : i < vs.length)
    {pc : Nat} {Ls : Array Slot} {rest : List Value} (hd : decode c.code pc = .ok (.aastore, 1)) : ∃ T' h', Stand p l e R s m args below meth c T' (locs ++ [⟨a, i⟩]) cells slots ∧ T'.heap = h' ∧ Wr h h' a i (.ref y) ∧ Arv Z h' a k ty n (vs.set i (.ref y)) dv ∧ ∀ t, Steps p.tables e below (T'.setTop (mkF m (pc + 1) Ls rest)) t → Steps p.tables e below (T.setTop (mkF m pc Ls (.ref y :: .int j :: .ref a :: rest))) t := by
  obtain ⟨cl, A, q1, S, N, H, G⟩ := V
  obtain ⟨T', h', X', e', W', st⟩ := stR X hx hZ eT A (j := j) (v := .ref y) (inb_of S hj) hty (Sto.ofV A q1 O I) (g := mkF m pc Ls (.ref y :: .int j :: .ref a :: rest)) rfl rfl hd
  have V' := Arv.set A q1 S N H G (v := .ref y) (by cases ty <;> first | rfl | (simp [FieldType.isReference] at hty)) W' i hi hl
  rw [hi] at X' W'
  exact ⟨T', h', X', e', W', V', st⟩
theorem own_lt_eq {x y : Int64} (h : x = y) : lcmpW x y = 0 := (lw_eq x y).mpr h
theorem own_rem_ne {x y : Int32} {target : State} {g : JFrame} (X : Stand p l e R s m args below meth c T locs cells slots) (hx : p.tables.exec = Jvm.exec) (hg : g.method = m) {rest : List Value} (hd : decode c.code g.pc = .ok (.irem, 1)) (hs : g.stack = .int y :: .int x :: rest) (hy : y ≠ 0)
    (hr : Steps p.tables e below (T.setTop { g with pc := g.pc + 1, stack := .int (x % y) :: rest }) target) : Steps p.tables e below (T.setTop g) target := iremM X hx hg hd hs hy hr
theorem own_lrem {x y : Int64} {target : State} {g : JFrame} (X : Stand p l e R s m args below meth c T locs cells slots) (hx : p.tables.exec = Jvm.exec) (hg : g.method = m) {rest : List Value} (hd : decode c.code g.pc = .ok (.lrem, 1)) (hs : g.stack = .long y :: .long x :: rest) (hy : y ≠ 0)
    (hr : Steps p.tables e below (T.setTop { g with pc := g.pc + 1, stack := .long (x % y) :: rest }) target) : Steps p.tables e below (T.setTop g) target := by
  refine XS.lrem X.here hx hg hd hs hy ?_
  rw [lrem_mod]
  exact hr
theorem own_fld_int {args : Array Value} {t : Term} {C n d : String} {k : Int32} {a : Addr} (ev : t.eval args Z none [] Z = some (.ref a)) (h : (Cond.eq (Term.field t C n d) (Term.int k)).value args Z none Z [] = some true) : Fld Z Z.heap a C n d (.int k) := by
  obtain ⟨x, y, h1, h2, h3, h4⟩ := cmp_v (Or.inl h)
  have hy : y = .int k := by rw [Term.int_eval] at h2; exact (Option.some.inj h2).symm
  subst hy
  obtain ⟨z, rfl⟩ : ∃ z, x = .int z := h4
  have hz : z = k := by simpa [Cond.value, h1, h2] using h
  subst hz
  rw [fld_at ev] at h1
  exact Fld.start h1
theorem own_sta_keep {C n d : String} {v : Value} {h' : Heap} (F : Sta Z h C n d v) (K : Keep h h' []) : Sta Z h' C n d v := by
  obtain ⟨cf, i, k, f, st, cell, h1, h2, h3, h4, h5, h6⟩ := F
  exact ⟨cf, i, k, f, st, cell, h1, h2, h3, h4, K.2.1 _ _ h5 nin0, h6⟩
/-- the objects of C are no K: C's superclasses are named, K is a class that has objects -/
theorem own_nsroot {O K : String} {n : Nat} (w : (Cond.noSuperclass O).before a0 Z = true) (wk : (Cond.instantiable K n).before a0 Z = true) (hn : O ≠ K) : NS Z O K := by
  obtain ⟨c, k, h1, h2, h3, -, -⟩ := Cond.noSuperclass_spec w
  obtain ⟨t, kt, g1, -⟩ := Cond.instantiable_spec wk
  have ne := ids_ne h1 g1 hn
  refine ⟨c, t, h1, g1, fun fuel => ?_⟩
  cases fuel with
  | zero => rfl
  | succ f => simp [Vm.isSubclassAux, ne, h2, h3]
theorem own_nsno {C S K : String} {n : Nat} (w : (Cond.superclass C S).before a0 Z = true) (wk : (Cond.instantiable K n).before a0 Z = true) (q : NS Z C K) (hn : C ≠ K) : ∃ c t, Z.vm.findClass C = some c ∧ Z.vm.findClass K = some t ∧ Z.vm.assignable c t = false := by
  obtain ⟨c, t, h0, g0, n3⟩ := q
  obtain ⟨p, k, kp, h1, h2, h3, h4, h5, -, h7⟩ := Cond.superclass_spec h0 w
  obtain ⟨t', kt, g1, g2, g3, g4, -⟩ := Cond.instantiable_spec wk
  cases g0.symm.trans g1
  have g5 : kt.isInterface = false := by
    cases hq : kt.isInterface with
    | false => rfl
    | true => rw [hq] at g4; simp at g4
  have ne := ids_ne h0 g0 hn
  refine ⟨c, t, h0, g0, ?_⟩
  show Z.vm.assignableAux (255 + 1) c t = false
  simp [Vm.assignableAux, ne, h2, g2, h5, g3, g5, Vm.isSubclass, n3]
theorem own_s16 (x : Int32) : x.toInt16.toInt32.toInt16.toInt32 = x.toInt16.toInt32 := by simp
theorem own_virtualUp (X : Stand p l e R s m args below meth c T locs cells slots) (hx : p.tables.exec = Jvm.exec) (hZ : Z.Warmed39 s.vm) {own C owner : String} {index : Nat} {x y : MethodName} {bytes : ByteArray} {maxL : Nat} {ret : Option FieldType} {rm : Room} {as' : Array Value} {P : OwnP}
    (hown : s.vm.findClass own = some m.cls) (w1 : (Cond.methodLink own index x).before a0 Z = true) (w2 : (Cond.sameMethod x.cls owner x.name x.desc).before a0 Z = true) (w7 : (Cond.declares ⟨owner, x.name, x.desc⟩).before a0 Z = true) (hy : owner ≠ "java/lang/invoke/MethodHandle" ∧ owner ≠ "java/lang/invoke/VarHandle") (w5 : (Cond.selects C x y).before a0 Z = true) (w6 : (Cond.instanceMethod y).before a0 Z = true) (w3 : (Cond.initialized y.cls).before a0 Z = true) (w4 : (Cond.code y bytes maxL ret).before a0 Z = true)
    (hM : OwnC l Z y bytes maxL ret [] rm as' h P) (eT : T.heap = h) {a : Addr} (E : Exa Z h a C) {pc : Nat} {Ls : Array Slot} {argsL rest : List Value} (W : Nat) {st : List Value} (hsz : Ls.size = c.maxLocals) (hlen : ∀ sig, parseMethodDescriptor x.desc = some sig → argsL.length = sig.parameters.length) (has : (.ref a :: argsL).toArray = as') (hst : st = argsL.reverse ++ .ref a :: rest) (hW : (rest.map fun v => v.category).sum ≤ W)
    (hd : decode c.code pc = .ok (.invokevirtual index, 3)) (hf : rm.frames + 1 ≤ R.frames) (hl : W + (maxL + 11) + rm.locals ≤ R.locals) (hc : cells + rm.cells ≤ R.cells) (hs : slots + rm.slots ≤ R.slots) :
    ∃ v T' L, Stand p l e R s m args below meth c T' (locs ++ L) (cells + rm.cells) (slots + rm.slots) ∧ P v T'.heap L ∧ ∀ t, Steps p.tables e below (T'.setTop (mkF m (pc + 3) Ls (v.toList ++ rest))) t → Steps p.tables e below (T.setTop (mkF m pc Ls st)) t := by
  obtain ⟨cq, kq, qa, qb, qc⟩ := isOf hZ eT E
  obtain ⟨v, vm₁, ⟨T', L', k', n'⟩, -, X', ⟨L, hQ, l1, l2, l3⟩, stp⟩ := X.virtualBackUp hx (x := x) (y := y) hown (mvT hZ w1) (mvT hZ w2) (mvT hZ w7) hy (mvT hZ w5) (mvT hZ w6) (backOf (W := W) hM hZ w4 w3 hf hl) qa qc (g := mkF m pc Ls st) rfl hsz (Steps.refl _) (argsL := argsL) (rest := rest) hlen hst (by show 2 * 0 + _ ≤ _; omega) hd (fun _ _ => ⟨has, eT, hc, hs⟩)
  dsimp only [Pt.U, Pt.locs, Pt.cells, Pt.slots] at X' l1 l2 l3 stp hQ
  subst l1 l2 l3
  exact ⟨v, T', L, X', hQ, fun t k => stp.trans k⟩
theorem own_castore (X : Stand p l e R s m args below meth c T locs cells slots) (hx : p.tables.exec = Jvm.exec) (hZ : Z.Warmed39 s.vm) (eT : T.heap = h) {a : Addr} {k : ClassId} {n : Int32} {vs : List Value} {dv : Value} (V : Arv Z h a k .char n vs dv) {j x : Int32} (hj : ¬ j < 0 ∧ j < n) (i : Nat) (hi : j.toNatClampNeg = i) (hl : i < vs.length)
    {pc : Nat} {Ls : Array Slot} {rest : List Value} (hd : decode c.code pc = .ok (.castore, 1)) : ∃ T' h', Stand p l e R s m args below meth c T' (locs ++ [⟨a, i⟩]) cells slots ∧ T'.heap = h' ∧ Wr h h' a i (.int x.toUInt32.toUInt16.toUInt32.toInt32) ∧ Arv Z h' a k .char n (vs.set i (.int x.toUInt32.toUInt16.toUInt32.toInt32)) dv ∧ ∀ t, Steps p.tables e below (T'.setTop (mkF m (pc + 1) Ls rest)) t → Steps p.tables e below (T.setTop (mkF m pc Ls (.int x :: .int j :: .ref a :: rest))) t := by
  obtain ⟨cl, A, q1, S, N, H, G⟩ := V
  obtain ⟨T', h', X', e', W', st⟩ := stC X hx hZ eT A (j := j) (x := x) (inb_of S hj) (g := mkF m pc Ls (.int x :: .int j :: .ref a :: rest)) rfl rfl hd
  have V' := Arv.set A q1 S N H G (v := .int x.toUInt32.toUInt16.toUInt32.toInt32) (fits_nar_char x) W' i hi hl
  rw [hi] at X' W'
  exact ⟨T', h', X', e', W', V', st⟩
theorem own_sta_keep1 {C n d C' : String} {v : Value} {h' : Heap} {a : Addr} (F : Sta Z h C n d v) (K : Keep h h' [a]) (E : Exa Z h a C') : Sta Z h' C n d v := by
  obtain ⟨cf, i, k, f, st, cell, h1, h2, h3, h4, h5, h6, h7⟩ := F
  obtain ⟨cell', k', e1, -, -, e4, -⟩ := E
  have hne : st ≠ a := fun q => by
    subst q
    cases h5.symm.trans e1
    rw [h6] at e4
    cases e4
  exact ⟨cf, i, k, f, st, cell, h1, h2, h3, h4, K.2.1 _ _ h5 (ninS hne nin0), h6, h7⟩
theorem own_private (X : Stand p l e R s m args below meth c T locs cells slots) (hx : p.tables.exec = Jvm.exec) (hZ : Z.Warmed39 s.vm) {own C : String} {index n : Nat} {y : MethodName} {bytes : ByteArray} {maxL : Nat} {ret : Option FieldType} {rm : Room} {as' : Array Value} {P : OwnP}
    (hown : s.vm.findClass own = some m.cls) (w1 : (Cond.methodLink own index y).before a0 Z = true) (w2 : (Cond.instanceMethod y).before a0 Z = true) (wp : (Cond.privateMethod y).before a0 Z = true) (wi : (Cond.instantiable y.cls n).before a0 Z = true) (w3 : (Cond.initialized y.cls).before a0 Z = true) (w4 : (Cond.code y bytes maxL ret).before a0 Z = true) (hy : y.cls ≠ "java/lang/invoke/MethodHandle" ∧ y.cls ≠ "java/lang/invoke/VarHandle")
    (hM : OwnC l Z y bytes maxL ret [] rm as' h P) (eT : T.heap = h) {a : Addr} (E : Exa Z h a C) {pc : Nat} {Ls : Array Slot} {argsL rest : List Value} (W : Nat) {st : List Value} (hsz : Ls.size = c.maxLocals) (hlen : ∀ sig, parseMethodDescriptor y.desc = some sig → argsL.length = sig.parameters.length) (has : (.ref a :: argsL).toArray = as') (hst : st = argsL.reverse ++ .ref a :: rest) (hW : (rest.map fun v => v.category).sum ≤ W)
    (hd : decode c.code pc = .ok (.invokevirtual index, 3)) (hf : rm.frames + 1 ≤ R.frames) (hl : W + (maxL + 11) + rm.locals ≤ R.locals) (hc : cells + rm.cells ≤ R.cells) (hs : slots + rm.slots ≤ R.slots) :
    ∃ v T' L, Stand p l e R s m args below meth c T' (locs ++ L) (cells + rm.cells) (slots + rm.slots) ∧ P v T'.heap L ∧ ∀ t, Steps p.tables e below (T'.setTop (mkF m (pc + 3) Ls (v.toList ++ rest))) t → Steps p.tables e below (T.setTop (mkF m pc Ls st)) t := by
  obtain ⟨cell, hcell, hobj⟩ := E.cell
  have hpriv := Cond.privateMethod_at (mvP hZ wp (args := args))
  obtain ⟨ci, ki, i1, i2, i3, i4, -⟩ := Cond.instantiable_spec (show (Cond.instantiable y.cls n).before args s = true from mvT hZ wi)
  have hni : ki.isInterface = false := by
    cases hq : ki.isInterface with
    | false => rfl
    | true => rw [hq] at i4; simp at i4
  have hsel := selects_self_of_private (args := args) i1 i2 hni hpriv (mvT hZ w2) hy
  obtain ⟨v, vm₁, ⟨T', L', k', n'⟩, -, X', ⟨L, hQ, l1, l2, l3⟩, stp⟩ := X.privateBack hx (y := y) hown (mvT hZ w1) (mvT hZ w2) hsel hpriv (mvT hZ w4) hy (backOf (W := W) hM hZ w4 w3 hf hl) (g := mkF m pc Ls st) rfl hsz (Steps.refl _) (a := a) (by rw [eT]; exact hcell) hobj (argsL := argsL) (rest := rest) hlen hst (by show 2 * 0 + _ ≤ _; omega) hd (fun _ _ => ⟨has, eT, hc, hs⟩)
  dsimp only [Pt.U, Pt.locs, Pt.cells, Pt.slots] at X' l1 l2 l3 stp hQ
  subst l1 l2 l3
  exact ⟨v, T', L, X', hQ, fun t k => stp.trans k⟩
theorem own_interface (X : Stand p l e R s m args below meth c T locs cells slots) (hx : p.tables.exec = Jvm.exec) (hZ : Z.Warmed39 s.vm) {own C : String} {index count : Nat} {xi y : MethodName} {bytes : ByteArray} {maxL : Nat} {ret : Option FieldType} {rm : Room} {as' : Array Value} {P : OwnP}
    (hown : s.vm.findClass own = some m.cls) (w1 : (Cond.methodLink own index xi).before a0 Z = true) (w2 : (Cond.declares xi).before a0 Z = true) (w7 : (Cond.interfaceMethod xi.cls xi.cls xi.name xi.desc).before args s = true) (w5 : (Cond.selects C xi y).before a0 Z = true) (w6 : (Cond.instanceMethod y).before a0 Z = true) (w8 : (Cond.publicMethod y).before a0 Z = true) (w9 : (Cond.unhidden C xi.name xi.desc).before a0 Z = true) (w10 : (Cond.castable C xi.cls).before a0 Z = true) (w3 : (Cond.initialized y.cls).before a0 Z = true) (w4 : (Cond.code y bytes maxL ret).before a0 Z = true) (hy : xi.cls ≠ "java/lang/invoke/MethodHandle" ∧ xi.cls ≠ "java/lang/invoke/VarHandle")
    (hM : OwnC l Z y bytes maxL ret [] rm as' h P) (eT : T.heap = h) {a : Addr} (E : Exa Z h a C) {pc : Nat} {Ls : Array Slot} {argsL rest : List Value} (W : Nat) {st : List Value} (hsz : Ls.size = c.maxLocals) (hlen : ∀ sig, parseMethodDescriptor xi.desc = some sig → argsL.length = sig.parameters.length) (has : (.ref a :: argsL).toArray = as') (hst : st = argsL.reverse ++ .ref a :: rest) (hW : (rest.map fun v => v.category).sum ≤ W)
    (hd : decode c.code pc = .ok (.invokeinterface index count, 5)) (hf : rm.frames + 1 ≤ R.frames) (hl : W + (maxL + 11) + rm.locals ≤ R.locals) (hc : cells + rm.cells ≤ R.cells) (hs : slots + rm.slots ≤ R.slots) :
    ∃ v T' L, Stand p l e R s m args below meth c T' (locs ++ L) (cells + rm.cells) (slots + rm.slots) ∧ P v T'.heap L ∧ ∀ t, Steps p.tables e below (T'.setTop (mkF m (pc + 5) Ls (v.toList ++ rest))) t → Steps p.tables e below (T.setTop (mkF m pc Ls st)) t := by
  obtain ⟨cq, kq, qa, qb, qc⟩ := isOf hZ eT E
  obtain ⟨v, vm₁, ⟨T', L', k', n'⟩, -, X', ⟨L, hQ, l1, l2, l3⟩, stp⟩ := X.interfaceBack hx (xi := xi) (y := y) hown (mvT hZ w1) (mvT hZ w2) w7 (mvT hZ w5) (mvT hZ w6) (mvT hZ w8) (mvT hZ w9) (mvT hZ w10) hy (backOf (W := W) hM hZ w4 w3 hf hl) qa qb qc (g := mkF m pc Ls st) rfl hsz (Steps.refl _) (argsL := argsL) (rest := rest) hlen hst (by show 2 * 0 + _ ≤ _; omega) hd (fun _ _ => ⟨has, eT, hc, hs⟩)
  dsimp only [Pt.U, Pt.locs, Pt.cells, Pt.slots] at X' l1 l2 l3 stp hQ
  subst l1 l2 l3
  exact ⟨v, T', L, X', hQ, fun t k => stp.trans k⟩
theorem own_staticUp (X : Stand p l e R s m args below meth c T locs cells slots) (hx : p.tables.exec = Jvm.exec) (hZ : Z.Warmed39 s.vm) {own owner : String} {index : Nat} {x : MethodName} {bytes : ByteArray} {maxL : Nat} {ret : Option FieldType} {rm : Room} {as' : Array Value} {P : OwnP}
    (hown : s.vm.findClass own = some m.cls) (w1 : (Cond.methodLink own index x).before a0 Z = true) (w2 : (Cond.sameMethod x.cls owner x.name x.desc).before a0 Z = true) (hy : owner ≠ "java/lang/invoke/MethodHandle" ∧ owner ≠ "java/lang/invoke/VarHandle") (w5 : (Cond.static ⟨owner, x.name, x.desc⟩).before a0 Z = true) (w3 : (Cond.initialized owner).before a0 Z = true) (w4 : (Cond.code ⟨owner, x.name, x.desc⟩ bytes maxL ret).before a0 Z = true)
    (hM : OwnC l Z ⟨owner, x.name, x.desc⟩ bytes maxL ret [] rm as' h P) (eT : T.heap = h) {pc : Nat} {Ls : Array Slot} {argsL rest : List Value} (W : Nat) {st : List Value} (hsz : Ls.size = c.maxLocals) (hlen : ∀ sig, parseMethodDescriptor x.desc = some sig → argsL.length = sig.parameters.length) (has : argsL.toArray = as') (hst : st = argsL.reverse ++ rest) (hW : (rest.map fun v => v.category).sum ≤ W)
    (hd : decode c.code pc = .ok (.invokestatic index, 3)) (hf : rm.frames + 1 ≤ R.frames) (hl : W + (maxL + 11) + rm.locals ≤ R.locals) (hc : cells + rm.cells ≤ R.cells) (hs : slots + rm.slots ≤ R.slots) :
    ∃ v T' L, Stand p l e R s m args below meth c T' (locs ++ L) (cells + rm.cells) (slots + rm.slots) ∧ P v T'.heap L ∧ ∀ t, Steps p.tables e below (T'.setTop (mkF m (pc + 3) Ls (v.toList ++ rest))) t → Steps p.tables e below (T.setTop (mkF m pc Ls st)) t := by
  have c4 : (Cond.code ⟨owner, x.name, x.desc⟩ bytes maxL ret).before args s = true := mvT hZ w4
  obtain ⟨mk, hnamed⟩ := Cond.code_named c4
  obtain ⟨methM, cM, hmethM, -, -, -, -, -, -, hsigM⟩ := Cond.code_spec hnamed c4
  have hstatic : methM.isStatic = true := Cond.static_spec hnamed hmethM (mvT (args := args) hZ w5)
  obtain ⟨kP, hkP, -⟩ := className_of_methodNamed hnamed
  have hinitP : kP.init = .initialized := Cond.initialized_spec (findClass_of_methodNamed hnamed) hkP (mvT (args := args) hZ w3)
  obtain ⟨vm₁, X₁, hstep₁⟩ := X.invokestaticUp hx hown (mvT hZ w1) (mvT hZ w2) hy hnamed hmethM hstatic hkP hinitP (g := mkF m pc Ls st) rfl (argsL := argsL) (rest := rest) (hlen _ hsigM) hst hd
  obtain ⟨v, ⟨T', L', k', n'⟩, X', ⟨L, hQ, l1, l2, l3⟩, hsteps⟩ := (backOf (len := 3) (W := W) hM hZ w4 w3 hf hl) m meth c ⟨T.setVm vm₁, locs, cells, slots⟩ { mkF m pc Ls st with stack := rest } (.invokestatic index) mk argsL.toArray X₁ rfl hsz hd (by show 2 * 0 + (rest.map fun v => v.category).sum ≤ W; rw [Nat.mul_zero, Nat.zero_add]; exact hW) (X₁.named hnamed) ⟨has, eT, hc, hs⟩
  dsimp only [Pt.U, Pt.locs, Pt.cells, Pt.slots] at X' l1 l2 l3 hsteps hQ
  subst l1 l2 l3
  exact ⟨v, T', L, X', hQ, fun t k => ((hstep₁ _ fun acts => by rw [doInvoke_state]; exact Steps.refl _).trans hsteps).trans k⟩
theorem own_getfRef (X : Stand p l e R s m args below meth c T locs cells slots) (hx : p.tables.exec = Jvm.exec) (hZ : Z.Warmed39 s.vm) {own O n d : String} {index : Nat} (hown : s.vm.findClass own = some m.cls) (w : (Cond.fieldRef own index O n d).before a0 Z = true) (eT : T.heap = h) {a : Addr} {v : Value} (F : Fld Z h a O n d v)
    {pc : Nat} {Ls : Array Slot} {rest : List Value} (hd : decode c.code pc = .ok (.getfield index, 3)) : ∀ t, Steps p.tables e below (T.setTop (mkF m (pc + 3) Ls (v :: rest))) t → Steps p.tables e below (T.setTop (mkF m pc Ls (.ref a :: rest))) t := by
  obtain ⟨cell, cf, k, i, f, h1, h2, h3, h4, -, -, h7⟩ := F
  have hW : Z.Warmed39 T.vm := wtrans hZ X.warmed
  have hw := Cond.fieldRef_warmed39 hW w
  have hcur : (Z.setVm T.vm).vm.findClass own = some m.cls := by
    show T.vm.findClass own = _
    rw [X.warmed.alike.findClass]
    exact hown
  obtain ⟨c', k', i', f', q1, q2⟩ := Cond.fieldRef_spec hcur hw
  obtain ⟨k2, hi, -⟩ := State.fieldFound?_setVm (s := Z) hW.alike h2
  rw [hi] at q1
  cases q1
  exact fun t kk => (X.getfieldR hx (g := mkF m pc Ls (.ref a :: rest)) rfl q2 h3 rfl (by rw [eT]; exact h1) h4 h7 hd (Steps.refl _)).trans kk
theorem own_sneE {a b : Addr} {cell : Cell} {C : String} (h1 : h[a]? = some cell) (h2 : cell.vm.isStatics = true) (E : Exa Z h b C) : a ≠ b := fun q => by
  obtain ⟨cell', k', e1, -, -, e4, -⟩ := E
  subst q
  cases h1.symm.trans e1
  rw [h2] at e4
  cases e4
theorem own_sneA {a b : Addr} {cell : Cell} {k : ClassId} {ty : FieldType} {n : Int32} {vs : List Value} {dv : Value} (h1 : h[a]? = some cell) (h2 : cell.vm.isStatics = true) (V : Arv Z h b k ty n vs dv) : a ≠ b := fun q => by
  obtain ⟨cl, A, -⟩ := V
  subst q
  cases h1.symm.trans A.1
  have := A.plain
  rw [h2] at this
  cases this
theorem own_sta_keepL {C n d : String} {v : Value} {h' : Heap} {ws : List Addr} (F : Sta Z h C n d v) (K : Keep h h' ws) (q : ∀ (a : Addr) (cell : Cell), h[a]? = some cell → cell.vm.isStatics = true → a ∉ ws) : Sta Z h' C n d v := by
  obtain ⟨cf, i, k, f, st, cell, h1, h2, h3, h4, h5, h6, h7⟩ := F
  exact ⟨cf, i, k, f, st, cell, h1, h2, h3, h4, K.2.1 _ _ h5 (q _ _ h5 h6), h6, h7⟩
theorem own_nf {args : Array Value} {s : State} {C : String} {x y z : MethodName} (hsel : (Cond.selects C x z).before args s = true) (hc : y.cls = z.cls) : NotFace s y := fun r0 h0 => by
  obtain ⟨c2, r2, m2, q1, q2, q3, q4, kP, hkP, hkPi⟩ := Cond.selects_spec hsel
  have e1 := findClass_of_methodNamed h0
  have e2 := findClass_of_methodNamed q3
  rw [hc] at e1
  have e3 : r0.cls = m2.cls := Option.some.inj (e1.symm.trans e2)
  exact ⟨kP, by rw [e3]; exact hkP, hkPi⟩
end OwnKit
end Jvm.RoadKit
namespace Jvm.Pilot.@@N@@
open Jvm Jvm.ClassFile Sem Op Lib Jvm.Free Jvm.Stand Jvm.LawKit Jvm.RoadKit Bundle Jvm.Pilot.@@N@@.Jvm.D
theorem own_w {Z : State} {a0 : Array Value} (hw : ∀ d ∈ tables_1, d.before a0 Z = true) (i : Nat) {d : Jvm.Cond} (h : tables_1[i]? = some d) : d.before a0 Z = true := hw _ (List.mem_of_getElem? h)
theorem own_i {a : Addr} {L : List Addr} {Q : Prop} (i : Nat) (h : L[i]? = some a) : a ∈ L ∨ Q := Or.inl (List.mem_of_getElem? h)
theorem pd___Z : parseMethodDescriptor "()Z" = some ⟨[], some .boolean⟩ := by decide +kernel
def own_ended (a c f x : Addr) : Int32 := if a = c then 1 else if a = f then 1 else if a = x then 1 else 0
theorem own_mod5 (k : Int32) : (k &&& 2147483647) % 5 = 0 ∨ (k &&& 2147483647) % 5 = 1 ∨ (k &&& 2147483647) % 5 = 2 ∨ (k &&& 2147483647) % 5 = 3 ∨ (k &&& 2147483647) % 5 = 4 := by
  have h1 := c_mask k 2147483647 31 (by decide) (by decide)
  have h2 := (c_irem (k &&& 2147483647) 5 5 (by decide)).1
  simp only [← Int32.toInt_inj]
  have h3 : 0 ≤ (k &&& 2147483647).toInt := by omega
  have h4 := h2 h3
  have e0 : (0 : Int32).toInt = 0 := by decide
  have e1 : (1 : Int32).toInt = 1 := by decide
  have e2 : (2 : Int32).toInt = 2 := by decide
  have e3 : (3 : Int32).toInt = 3 := by decide
  have e4 : (4 : Int32).toInt = 4 := by decide
  omega
theorem d1_0 : decode prog_26_method_5_code 0 = .ok (.aload_n 0, 1) := by decide +kernel
theorem d1_1 : decode prog_26_method_5_code 1 = .ok (.getstatic 10, 3) := by decide +kernel
theorem d1_4 : decode prog_26_method_5_code 4 = .ok (.if_acmp .eq 17, 3) := by decide +kernel
theorem d1_7 : decode prog_26_method_5_code 7 = .ok (.aload_n 0, 1) := by decide +kernel
theorem d1_8 : decode prog_26_method_5_code 8 = .ok (.getstatic 13, 3) := by decide +kernel
theorem d1_11 : decode prog_26_method_5_code 11 = .ok (.if_acmp .eq 10, 3) := by decide +kernel
theorem d1_14 : decode prog_26_method_5_code 14 = .ok (.aload_n 0, 1) := by decide +kernel
theorem d1_15 : decode prog_26_method_5_code 15 = .ok (.getstatic 16, 3) := by decide +kernel
theorem d1_18 : decode prog_26_method_5_code 18 = .ok (.if_acmp .ne 7, 3) := by decide +kernel
theorem d1_21 : decode prog_26_method_5_code 21 = .ok (.iconst 1, 1) := by decide +kernel
theorem d1_22 : decode prog_26_method_5_code 22 = .ok (.goto 4, 3) := by decide +kernel
theorem d1_25 : decode prog_26_method_5_code 25 = .ok (.iconst 0, 1) := by decide +kernel
theorem d1_26 : decode prog_26_method_5_code 26 = .ok (.ireturn, 1) := by decide +kernel
theorem pf_com_example_newt_newt_core_jobs_JobStatus_hasEnded___Z : plainFor (⟨"com/example/newt/newt/core/jobs/JobStatus", "hasEnded", "()Z"⟩ : MethodName) = true := by first | exact plainFor_of_name (by first | (simp [plainName, overriddenIn]; done) | decide +kernel) | exact Jvm.Free.JP.mathPlain rfl (by decide +kernel) | decide +kernel
theorem ef_rm1 (m : MethodId) (q0 : Addr) : entryFrame m #[(.ref q0)] 1 = mkF m 0 #[rv q0] [] := by first | (simp [entryFrame, mkF, argsToLocals, Value.category]; done) | rfl
set_option maxRecDepth 65536 in
set_option maxHeartbeats 40000000 in
theorem rm1 (l : Launch) (Z : State) (a0 : Array Value) (hw : ∀ d ∈ tables_1, d.before a0 Z = true) (ws : List Jvm.Cond) (x0 : Addr) (a_COMPLETED a_FAILED a_CANCELLED : Addr) (h0 : Heap) (S_COMPLETED : Sta Z h0 "com/example/newt/newt/core/jobs/JobStatus" "COMPLETED" "Lcom/example/newt/newt/core/jobs/JobStatus;" (.ref a_COMPLETED)) (S_FAILED : Sta Z h0 "com/example/newt/newt/core/jobs/JobStatus" "FAILED" "Lcom/example/newt/newt/core/jobs/JobStatus;" (.ref a_FAILED)) (S_CANCELLED : Sta Z h0 "com/example/newt/newt/core/jobs/JobStatus" "CANCELLED" "Lcom/example/newt/newt/core/jobs/JobStatus;" (.ref a_CANCELLED)) :
    OwnC l Z (⟨"com/example/newt/newt/core/jobs/JobStatus", "hasEnded", "()Z"⟩ : MethodName) prog_26_method_5_code 1 (some .boolean) ws ({ frames := 0, cells := 0, slots := 0, locals := 0 } : Room) #[(.ref x0)] h0 (OwnPure (.int (own_ended x0 a_COMPLETED a_FAILED a_CANCELLED)) h0) := by
  refine own_entry pf_com_example_newt_newt_core_jobs_JobStatus_hasEnded___Z (fun m => ef_rm1 m x0) ?_
  intro p e s m below meth c T0 X0 hC e0
  obtain ⟨hx, hby, hml, hown, hnm, hret, hlk, hZ⟩ := hC
  refine own_go T0 m 1 #[rv x0] [(.ref x0)] (fun t k => XS.aloadN X0.here hx rfl (hb hby d1_0) rfl rfl k) ?_
  obtain ⟨T1, X1, e1, st1⟩ := getS2 X0 hx hZ hown (host := "") (Or.inl (own_w hw 20 rfl)) Via.refl e0 S_COMPLETED (g := (mkF m 1 #[rv x0] [(.ref x0)])) rfl (hb hby d1_1)
  refine own_go T1 m 4 #[rv x0] [(.ref a_COMPLETED), (.ref x0)] (st1) ?_
  by_cases ha4_2 : x0 = a_COMPLETED
  · refine own_go T1 m 21 #[rv x0] [] (fun t k => Jvm.RoadKit.acmp (g := (mkF m 4 #[rv x0] [(.ref a_COMPLETED), (.ref x0)])) X1 hx rfl rfl rfl (pc0 := 4) (pc' := 21) (same := true) rfl (hb hby d1_4) rfl (decide_eq_true (congrArg Value.ref ha4_2)) (by decide) (by decide) k) ?_
    refine own_go T1 m 22 #[rv x0] [(.int 1)] (fun t k => XS.iconst X1.here hx rfl (hb hby d1_21) k) ?_
    refine own_go T1 m 26 #[rv x0] [(.int 1)] (fun t k => XS.goto X1.here hx rfl (pc0 := 22) (pc' := 26) rfl (hb hby d1_22) (by decide) (by decide) k) ?_
    refine own_retZ X1 hx hlk hret (by decide) (hb hby d1_26) (by decide) (by decide) ?_
    refine ⟨?_, e1, rfl⟩
    simp [own_ended, ha4_2]
  · refine own_go T1 m 7 #[rv x0] [] (fun t k => Jvm.RoadKit.acmp (g := (mkF m 4 #[rv x0] [(.ref a_COMPLETED), (.ref x0)])) X1 hx rfl rfl rfl (pc0 := 4) (pc' := 7) (same := false) rfl (hb hby d1_4) rfl (decide_eq_false fun q => ha4_2 (Value.ref.inj q)) (by decide) (by decide) k) ?_
    refine own_go T1 m 8 #[rv x0] [(.ref x0)] (fun t k => XS.aloadN X1.here hx rfl (hb hby d1_7) rfl rfl k) ?_
    obtain ⟨T3, X3, e3, st3⟩ := getS2 X1 hx hZ hown (host := "") (Or.inl (own_w hw 21 rfl)) Via.refl e1 S_FAILED (g := (mkF m 8 #[rv x0] [(.ref x0)])) rfl (hb hby d1_8)
    refine own_go T3 m 11 #[rv x0] [(.ref a_FAILED), (.ref x0)] (st3) ?_
    by_cases ha11_4 : x0 = a_FAILED
    · refine own_go T3 m 21 #[rv x0] [] (fun t k => Jvm.RoadKit.acmp (g := (mkF m 11 #[rv x0] [(.ref a_FAILED), (.ref x0)])) X3 hx rfl rfl rfl (pc0 := 11) (pc' := 21) (same := true) rfl (hb hby d1_11) rfl (decide_eq_true (congrArg Value.ref ha11_4)) (by decide) (by decide) k) ?_
      refine own_go T3 m 22 #[rv x0] [(.int 1)] (fun t k => XS.iconst X3.here hx rfl (hb hby d1_21) k) ?_
      refine own_go T3 m 26 #[rv x0] [(.int 1)] (fun t k => XS.goto X3.here hx rfl (pc0 := 22) (pc' := 26) rfl (hb hby d1_22) (by decide) (by decide) k) ?_
      refine own_retZ X3 hx hlk hret (by decide) (hb hby d1_26) (by decide) (by decide) ?_
      refine ⟨?_, e3, rfl⟩
      simp [own_ended, ha4_2, ha11_4]
    · refine own_go T3 m 14 #[rv x0] [] (fun t k => Jvm.RoadKit.acmp (g := (mkF m 11 #[rv x0] [(.ref a_FAILED), (.ref x0)])) X3 hx rfl rfl rfl (pc0 := 11) (pc' := 14) (same := false) rfl (hb hby d1_11) rfl (decide_eq_false fun q => ha11_4 (Value.ref.inj q)) (by decide) (by decide) k) ?_
      refine own_go T3 m 15 #[rv x0] [(.ref x0)] (fun t k => XS.aloadN X3.here hx rfl (hb hby d1_14) rfl rfl k) ?_
      obtain ⟨T5, X5, e5, st5⟩ := getS2 X3 hx hZ hown (host := "") (Or.inl (own_w hw 22 rfl)) Via.refl e3 S_CANCELLED (g := (mkF m 15 #[rv x0] [(.ref x0)])) rfl (hb hby d1_15)
      refine own_go T5 m 18 #[rv x0] [(.ref a_CANCELLED), (.ref x0)] (st5) ?_
      by_cases ha18_6 : x0 = a_CANCELLED
      · refine own_go T5 m 21 #[rv x0] [] (fun t k => Jvm.RoadKit.acmp (g := (mkF m 18 #[rv x0] [(.ref a_CANCELLED), (.ref x0)])) X5 hx rfl rfl rfl (pc0 := 18) (pc' := 21) (same := true) rfl (hb hby d1_18) rfl (decide_eq_true (congrArg Value.ref ha18_6)) (by decide) (by decide) k) ?_
        refine own_go T5 m 22 #[rv x0] [(.int 1)] (fun t k => XS.iconst X5.here hx rfl (hb hby d1_21) k) ?_
        refine own_go T5 m 26 #[rv x0] [(.int 1)] (fun t k => XS.goto X5.here hx rfl (pc0 := 22) (pc' := 26) rfl (hb hby d1_22) (by decide) (by decide) k) ?_
        refine own_retZ X5 hx hlk hret (by decide) (hb hby d1_26) (by decide) (by decide) ?_
        refine ⟨?_, e5, rfl⟩
        simp [own_ended, ha4_2, ha11_4, ha18_6]
      · refine own_go T5 m 25 #[rv x0] [] (fun t k => Jvm.RoadKit.acmp (g := (mkF m 18 #[rv x0] [(.ref a_CANCELLED), (.ref x0)])) X5 hx rfl rfl rfl (pc0 := 18) (pc' := 25) (same := false) rfl (hb hby d1_18) rfl (decide_eq_false fun q => ha18_6 (Value.ref.inj q)) (by decide) (by decide) k) ?_
        refine own_go T5 m 26 #[rv x0] [(.int 0)] (fun t k => XS.iconst X5.here hx rfl (hb hby d1_25) k) ?_
        refine own_retZ X5 hx hlk hret (by decide) (hb hby d1_26) (by decide) (by decide) ?_
        refine ⟨?_, e5, rfl⟩
        simp [own_ended, ha4_2, ha11_4, ha18_6]
theorem pf_com_example_newt_newt_core_jobs_JobStatusHasEndedPinLaw_law__I_Z : plainFor (⟨"com/example/newt/newt/core/jobs/JobStatusHasEndedPinLaw", "law", "(I)Z"⟩ : MethodName) = true := by first | exact plainFor_of_name (by first | (simp [plainName, overriddenIn]; done) | decide +kernel) | exact Jvm.Free.JP.mathPlain rfl (by decide +kernel) | decide +kernel
theorem ef_rm0 (m : MethodId) (q0 : Int32) : entryFrame m #[(.int q0)] maxLocals = mkF m 0 #[iv q0, .unset, .unset, .unset, .unset, .unset] [] := by first | (simp [entryFrame, mkF, argsToLocals, Value.category, maxLocals]; done) | rfl
set_option maxRecDepth 65536 in
set_option maxHeartbeats 40000000 in
theorem rm0 (l : Launch) (Z : State) (a0 : Array Value) (hw : ∀ d ∈ tables_1, d.before a0 Z = true) (ws : List Jvm.Cond) (x0 : Int32) (a_SUBMITTED a_IN_PROGRESS a_COMPLETED a_FAILED a_CANCELLED : Addr) (h0 : Heap) (n0 : Nat) (Z0 : n0 ≤ h0.size) (S_SUBMITTED : Sta Z h0 "com/example/newt/newt/core/jobs/JobStatus" "SUBMITTED" "Lcom/example/newt/newt/core/jobs/JobStatus;" (.ref a_SUBMITTED)) (S_IN_PROGRESS : Sta Z h0 "com/example/newt/newt/core/jobs/JobStatus" "IN_PROGRESS" "Lcom/example/newt/newt/core/jobs/JobStatus;" (.ref a_IN_PROGRESS)) (S_COMPLETED : Sta Z h0 "com/example/newt/newt/core/jobs/JobStatus" "COMPLETED" "Lcom/example/newt/newt/core/jobs/JobStatus;" (.ref a_COMPLETED)) (S_FAILED : Sta Z h0 "com/example/newt/newt/core/jobs/JobStatus" "FAILED" "Lcom/example/newt/newt/core/jobs/JobStatus;" (.ref a_FAILED)) (S_CANCELLED : Sta Z h0 "com/example/newt/newt/core/jobs/JobStatus" "CANCELLED" "Lcom/example/newt/newt/core/jobs/JobStatus;" (.ref a_CANCELLED)) (E_SUBMITTED : Exa Z h0 a_SUBMITTED "com/example/newt/newt/core/jobs/JobStatus") (E_IN_PROGRESS : Exa Z h0 a_IN_PROGRESS "com/example/newt/newt/core/jobs/JobStatus") (E_COMPLETED : Exa Z h0 a_COMPLETED "com/example/newt/newt/core/jobs/JobStatus") (E_FAILED : Exa Z h0 a_FAILED "com/example/newt/newt/core/jobs/JobStatus") (E_CANCELLED : Exa Z h0 a_CANCELLED "com/example/newt/newt/core/jobs/JobStatus") (ne_SUBMITTED_COMPLETED : a_SUBMITTED ≠ a_COMPLETED) (ne_SUBMITTED_FAILED : a_SUBMITTED ≠ a_FAILED) (ne_SUBMITTED_CANCELLED : a_SUBMITTED ≠ a_CANCELLED) (ne_IN_PROGRESS_COMPLETED : a_IN_PROGRESS ≠ a_COMPLETED) (ne_IN_PROGRESS_FAILED : a_IN_PROGRESS ≠ a_FAILED) (ne_IN_PROGRESS_CANCELLED : a_IN_PROGRESS ≠ a_CANCELLED) (ne_COMPLETED_FAILED : a_COMPLETED ≠ a_FAILED) (ne_COMPLETED_CANCELLED : a_COMPLETED ≠ a_CANCELLED) (ne_FAILED_COMPLETED : a_FAILED ≠ a_COMPLETED) (ne_FAILED_CANCELLED : a_FAILED ≠ a_CANCELLED) (ne_CANCELLED_COMPLETED : a_CANCELLED ≠ a_COMPLETED) (ne_CANCELLED_FAILED : a_CANCELLED ≠ a_FAILED) :
    OwnC l Z x code maxLocals ret ws room_1 #[(.int x0)] h0 (fun v h L => v = some (.int 1) ∧ Fr n0 L) := by
  refine own_entry pf_com_example_newt_newt_core_jobs_JobStatusHasEndedPinLaw_law__I_Z (fun m => ef_rm0 m x0) ?_
  intro p e s m below meth c T0 X0 hC e0
  obtain ⟨hx, hby, hml, hown, hnm, hret, hlk, hZ⟩ := hC
  have hml : c.maxLocals = 6 := hml
  have N0 := Fr.nil n0
  refine own_go T0 m 1 #[iv x0, .unset, .unset, .unset, .unset, .unset] [(.int 5)] (fun t k => XS.iconst X0.here hx rfl (hb hby at_0) k) ?_
  obtain ⟨T1, h1, k1, X1, e1, E1, A1, O1, st1⟩ := newR X0 hx hZ hown (own_w hw 0 rfl) (own_w hw 1 rfl) e0 (g := (mkF m 1 #[iv x0, .unset, .unset, .unset, .unset, .unset] [(.int 5)])) rfl (hb hby at_1) rfl (by decide) (cap := 5) (by decide) (by decide) (by decide) (by decide)
  obtain ⟨b1, g1⟩ : ∃ z, z = h0.size := ⟨_, rfl⟩
  rw [← g1] at A1 st1
  have ne_a_SUBMITTED_b1 : a_SUBMITTED ≠ b1 := Nat.ne_of_lt (Nat.lt_of_lt_of_eq E_SUBMITTED.lt g1.symm)
  have ne_a_IN_PROGRESS_b1 : a_IN_PROGRESS ≠ b1 := Nat.ne_of_lt (Nat.lt_of_lt_of_eq E_IN_PROGRESS.lt g1.symm)
  have ne_a_COMPLETED_b1 : a_COMPLETED ≠ b1 := Nat.ne_of_lt (Nat.lt_of_lt_of_eq E_COMPLETED.lt g1.symm)
  have ne_a_FAILED_b1 : a_FAILED ≠ b1 := Nat.ne_of_lt (Nat.lt_of_lt_of_eq E_FAILED.lt g1.symm)
  have ne_a_CANCELLED_b1 : a_CANCELLED ≠ b1 := Nat.ne_of_lt (Nat.lt_of_lt_of_eq E_CANCELLED.lt g1.symm)
  have g_b1 : n0 ≤ b1 := Nat.le_trans Z0 (Nat.le_of_eq g1.symm)
  have cf2 := S_SUBMITTED.ext E1
  have cf3 := S_IN_PROGRESS.ext E1
  have cf4 := S_COMPLETED.ext E1
  have cf5 := S_FAILED.ext E1
  have cf6 := S_CANCELLED.ext E1
  have cf7 := E_SUBMITTED.ext E1
  have cf8 := E_IN_PROGRESS.ext E1
  have cf9 := E_COMPLETED.ext E1
  have cf10 := E_FAILED.ext E1
  have cf11 := E_CANCELLED.ext E1
  have Z_1 : n0 ≤ h1.size := Nat.le_trans Z0 E1.1
  have V_b1 : Arv Z h1 b1 k1 (.object "com/example/newt/newt/core/jobs/JobStatus") (5 : Int32) [.null, .null, .null, .null, .null] .null := (Arv.new A1 (by decide)).pad (pad_rep [] .null 5)
  refine own_go T1 m 4 #[iv x0, .unset, .unset, .unset, .unset, .unset] [(.ref b1)] (st1) ?_
  refine own_go T1 m 5 #[iv x0, .unset, .unset, .unset, .unset, .unset] [(.ref b1), (.ref b1)] (fun t k => XS.dup X1.here hx rfl (hb hby at_4) rfl rfl k) ?_
  refine own_go T1 m 6 #[iv x0, .unset, .unset, .unset, .unset, .unset] [(.int 0), (.ref b1), (.ref b1)] (fun t k => XS.iconst X1.here hx rfl (hb hby at_5) k) ?_
  obtain ⟨T12, X12, e12, st12⟩ := getS2 X1 hx hZ hown (host := "") (Or.inl (own_w hw 2 rfl)) Via.refl e1 cf2 (g := (mkF m 6 #[iv x0, .unset, .unset, .unset, .unset, .unset] [(.int 0), (.ref b1), (.ref b1)])) rfl (hb hby at_6)
  refine own_go T12 m 9 #[iv x0, .unset, .unset, .unset, .unset, .unset] [(.ref a_SUBMITTED), (.int 0), (.ref b1), (.ref b1)] (st12) ?_
  obtain ⟨T13, h13, X13, e13, W13, V13, st13⟩ := own_aastore X12 hx hZ e12 V_b1 rfl O1 (Ins.self cf7) (j := (0 : Int32)) ⟨by decide, by decide⟩ 0 rfl (Nat.le_of_ble_eq_true rfl) (Ls := #[iv x0, .unset, .unset, .unset, .unset, .unset]) (rest := [(.ref b1)]) (hb hby at_9)
  replace V13 : Arv Z h13 b1 k1 (.object "com/example/newt/newt/core/jobs/JobStatus") (5 : Int32) [(.ref a_SUBMITTED), .null, .null, .null, .null] .null := V13
  have cf14 := cf2.wr W13
  have cf15 := cf3.wr W13
  have cf16 := cf4.wr W13
  have cf17 := cf5.wr W13
  have cf18 := cf6.wr W13
  have cf19 := cf7.wr W13
  have cf20 := cf8.wr W13
  have cf21 := cf9.wr W13
  have cf22 := cf10.wr W13
  have cf23 := cf11.wr W13
  have Z_13 : n0 ≤ h13.size := Nat.le_trans Z_1 (Keep.of_wr W13).1
  have N13 := Fr.snoc X13 N0 g_b1
  refine own_go T13 m 10 #[iv x0, .unset, .unset, .unset, .unset, .unset] [(.ref b1)] (st13) ?_
  refine own_go T13 m 11 #[iv x0, .unset, .unset, .unset, .unset, .unset] [(.ref b1), (.ref b1)] (fun t k => XS.dup X13.here hx rfl (hb hby at_10) rfl rfl k) ?_
  refine own_go T13 m 12 #[iv x0, .unset, .unset, .unset, .unset, .unset] [(.int 1), (.ref b1), (.ref b1)] (fun t k => XS.iconst X13.here hx rfl (hb hby at_11) k) ?_
  obtain ⟨T24, X24, e24, st24⟩ := getS2 X13 hx hZ hown (host := "") (Or.inl (own_w hw 6 rfl)) Via.refl e13 cf15 (g := (mkF m 12 #[iv x0, .unset, .unset, .unset, .unset, .unset] [(.int 1), (.ref b1), (.ref b1)])) rfl (hb hby at_12)
  refine own_go T24 m 15 #[iv x0, .unset, .unset, .unset, .unset, .unset] [(.ref a_IN_PROGRESS), (.int 1), (.ref b1), (.ref b1)] (st24) ?_
  obtain ⟨T25, h25, X25, e25, W25, V25, st25⟩ := own_aastore X24 hx hZ e24 V13 rfl O1 (Ins.self cf20) (j := (1 : Int32)) ⟨by decide, by decide⟩ 1 rfl (Nat.le_of_ble_eq_true rfl) (Ls := #[iv x0, .unset, .unset, .unset, .unset, .unset]) (rest := [(.ref b1)]) (hb hby at_15)
  replace V25 : Arv Z h25 b1 k1 (.object "com/example/newt/newt/core/jobs/JobStatus") (5 : Int32) [(.ref a_SUBMITTED), (.ref a_IN_PROGRESS), .null, .null, .null] .null := V25
  have cf26 := cf14.wr W25
  have cf27 := cf15.wr W25
  have cf28 := cf16.wr W25
  have cf29 := cf17.wr W25
  have cf30 := cf18.wr W25
  have cf31 := cf19.wr W25
  have cf32 := cf20.wr W25
  have cf33 := cf21.wr W25
  have cf34 := cf22.wr W25
  have cf35 := cf23.wr W25
  have Z_25 : n0 ≤ h25.size := Nat.le_trans Z_13 (Keep.of_wr W25).1
  have N25 := Fr.snoc X25 N13 g_b1
  refine own_go T25 m 16 #[iv x0, .unset, .unset, .unset, .unset, .unset] [(.ref b1)] (st25) ?_
  refine own_go T25 m 17 #[iv x0, .unset, .unset, .unset, .unset, .unset] [(.ref b1), (.ref b1)] (fun t k => XS.dup X25.here hx rfl (hb hby at_16) rfl rfl k) ?_
  refine own_go T25 m 18 #[iv x0, .unset, .unset, .unset, .unset, .unset] [(.int 2), (.ref b1), (.ref b1)] (fun t k => XS.iconst X25.here hx rfl (hb hby at_17) k) ?_
  obtain ⟨T36, X36, e36, st36⟩ := getS2 X25 hx hZ hown (host := "") (Or.inl (own_w hw 8 rfl)) Via.refl e25 cf28 (g := (mkF m 18 #[iv x0, .unset, .unset, .unset, .unset, .unset] [(.int 2), (.ref b1), (.ref b1)])) rfl (hb hby at_18)
  refine own_go T36 m 21 #[iv x0, .unset, .unset, .unset, .unset, .unset] [(.ref a_COMPLETED), (.int 2), (.ref b1), (.ref b1)] (st36) ?_
  obtain ⟨T37, h37, X37, e37, W37, V37, st37⟩ := own_aastore X36 hx hZ e36 V25 rfl O1 (Ins.self cf33) (j := (2 : Int32)) ⟨by decide, by decide⟩ 2 rfl (Nat.le_of_ble_eq_true rfl) (Ls := #[iv x0, .unset, .unset, .unset, .unset, .unset]) (rest := [(.ref b1)]) (hb hby at_21)
  replace V37 : Arv Z h37 b1 k1 (.object "com/example/newt/newt/core/jobs/JobStatus") (5 : Int32) [(.ref a_SUBMITTED), (.ref a_IN_PROGRESS), (.ref a_COMPLETED), .null, .null] .null := V37
  have cf38 := cf26.wr W37
  have cf39 := cf27.wr W37
  have cf40 := cf28.wr W37
  have cf41 := cf29.wr W37
  have cf42 := cf30.wr W37
  have cf43 := cf31.wr W37
  have cf44 := cf32.wr W37
  have cf45 := cf33.wr W37
  have cf46 := cf34.wr W37
  have cf47 := cf35.wr W37
  have Z_37 : n0 ≤ h37.size := Nat.le_trans Z_25 (Keep.of_wr W37).1
  have N37 := Fr.snoc X37 N25 g_b1
  refine own_go T37 m 22 #[iv x0, .unset, .unset, .unset, .unset, .unset] [(.ref b1)] (st37) ?_
  refine own_go T37 m 23 #[iv x0, .unset, .unset, .unset, .unset, .unset] [(.ref b1), (.ref b1)] (fun t k => XS.dup X37.here hx rfl (hb hby at_22) rfl rfl k) ?_
  refine own_go T37 m 24 #[iv x0, .unset, .unset, .unset, .unset, .unset] [(.int 3), (.ref b1), (.ref b1)] (fun t k => XS.iconst X37.here hx rfl (hb hby at_23) k) ?_
  obtain ⟨T48, X48, e48, st48⟩ := getS2 X37 hx hZ hown (host := "") (Or.inl (own_w hw 10 rfl)) Via.refl e37 cf41 (g := (mkF m 24 #[iv x0, .unset, .unset, .unset, .unset, .unset] [(.int 3), (.ref b1), (.ref b1)])) rfl (hb hby at_24)
  refine own_go T48 m 27 #[iv x0, .unset, .unset, .unset, .unset, .unset] [(.ref a_FAILED), (.int 3), (.ref b1), (.ref b1)] (st48) ?_
  obtain ⟨T49, h49, X49, e49, W49, V49, st49⟩ := own_aastore X48 hx hZ e48 V37 rfl O1 (Ins.self cf46) (j := (3 : Int32)) ⟨by decide, by decide⟩ 3 rfl (Nat.le_of_ble_eq_true rfl) (Ls := #[iv x0, .unset, .unset, .unset, .unset, .unset]) (rest := [(.ref b1)]) (hb hby at_27)
  replace V49 : Arv Z h49 b1 k1 (.object "com/example/newt/newt/core/jobs/JobStatus") (5 : Int32) [(.ref a_SUBMITTED), (.ref a_IN_PROGRESS), (.ref a_COMPLETED), (.ref a_FAILED), .null] .null := V49
  have cf50 := cf38.wr W49
  have cf51 := cf39.wr W49
  have cf52 := cf40.wr W49
  have cf53 := cf41.wr W49
  have cf54 := cf42.wr W49
  have cf55 := cf43.wr W49
  have cf56 := cf44.wr W49
  have cf57 := cf45.wr W49
  have cf58 := cf46.wr W49
  have cf59 := cf47.wr W49
  have Z_49 : n0 ≤ h49.size := Nat.le_trans Z_37 (Keep.of_wr W49).1
  have N49 := Fr.snoc X49 N37 g_b1
  refine own_go T49 m 28 #[iv x0, .unset, .unset, .unset, .unset, .unset] [(.ref b1)] (st49) ?_
  refine own_go T49 m 29 #[iv x0, .unset, .unset, .unset, .unset, .unset] [(.ref b1), (.ref b1)] (fun t k => XS.dup X49.here hx rfl (hb hby at_28) rfl rfl k) ?_
  refine own_go T49 m 30 #[iv x0, .unset, .unset, .unset, .unset, .unset] [(.int 4), (.ref b1), (.ref b1)] (fun t k => XS.iconst X49.here hx rfl (hb hby at_29) k) ?_
  obtain ⟨T60, X60, e60, st60⟩ := getS2 X49 hx hZ hown (host := "") (Or.inl (own_w hw 12 rfl)) Via.refl e49 cf54 (g := (mkF m 30 #[iv x0, .unset, .unset, .unset, .unset, .unset] [(.int 4), (.ref b1), (.ref b1)])) rfl (hb hby at_30)
  refine own_go T60 m 33 #[iv x0, .unset, .unset, .unset, .unset, .unset] [(.ref a_CANCELLED), (.int 4), (.ref b1), (.ref b1)] (st60) ?_
  obtain ⟨T61, h61, X61, e61, W61, V61, st61⟩ := own_aastore X60 hx hZ e60 V49 rfl O1 (Ins.self cf59) (j := (4 : Int32)) ⟨by decide, by decide⟩ 4 rfl (Nat.le_of_ble_eq_true rfl) (Ls := #[iv x0, .unset, .unset, .unset, .unset, .unset]) (rest := [(.ref b1)]) (hb hby at_33)
  replace V61 : Arv Z h61 b1 k1 (.object "com/example/newt/newt/core/jobs/JobStatus") (5 : Int32) [(.ref a_SUBMITTED), (.ref a_IN_PROGRESS), (.ref a_COMPLETED), (.ref a_FAILED), (.ref a_CANCELLED)] .null := V61
  have cf62 := cf50.wr W61
  have cf63 := cf51.wr W61
  have cf64 := cf52.wr W61
  have cf65 := cf53.wr W61
  have cf66 := cf54.wr W61
  have cf67 := cf55.wr W61
  have cf68 := cf56.wr W61
  have cf69 := cf57.wr W61
  have cf70 := cf58.wr W61
  have cf71 := cf59.wr W61
  have Z_61 : n0 ≤ h61.size := Nat.le_trans Z_49 (Keep.of_wr W61).1
  have N61 := Fr.snoc X61 N49 g_b1
  refine own_go T61 m 34 #[iv x0, .unset, .unset, .unset, .unset, .unset] [(.ref b1)] (st61) ?_
  refine own_go T61 m 35 #[iv x0, rv b1, .unset, .unset, .unset, .unset] [] (fun t k => XS.astoreN X61.here hx rfl (hb hby at_34) rfl rfl rfl k) ?_
  refine own_go T61 m 36 #[iv x0, rv b1, .unset, .unset, .unset, .unset] [(.int x0)] (fun t k => XS.iloadN X61.here hx rfl (hb hby at_35) rfl k) ?_
  refine own_go T61 m 38 #[iv x0, rv b1, .unset, .unset, .unset, .unset] [(.int 2147483647), (.int x0)] (X61.ldcInt hx hown (mvT hZ (own_w hw 14 rfl)) (g := (mkF m 36 #[iv x0, rv b1, .unset, .unset, .unset, .unset] [(.int x0)])) rfl (hb hby at_36)) ?_
  refine own_go T61 m 39 #[iv x0, rv b1, .unset, .unset, .unset, .unset] [(.int (x0 &&& (2147483647 : Int32)))] (fun t k => XS.iand X61.here hx rfl (hb hby at_38) rfl k) ?_
  refine own_go T61 m 40 #[iv x0, rv b1, .unset, .unset, .unset, .unset] [(.int 5), (.int (x0 &&& (2147483647 : Int32)))] (fun t k => XS.iconst X61.here hx rfl (hb hby at_39) k) ?_
  refine own_go T61 m 41 #[iv x0, rv b1, .unset, .unset, .unset, .unset] [(.int ((x0 &&& (2147483647 : Int32)) % (5 : Int32)))] (fun t k => own_rem_ne X61 hx rfl (hb hby at_40) rfl (by decide) k) ?_
  rcases own_mod5 x0 with hq | hq | hq | hq | hq
  · rw [hq]
    refine own_go T61 m 42 #[iv x0, rv b1, iv 0, .unset, .unset, .unset] [] (fun t k => XS.istoreN X61.here hx rfl (hb hby at_41) rfl rfl k) ?_
    refine own_go T61 m 43 #[iv x0, rv b1, iv 0, .unset, .unset, .unset] [(.ref b1)] (fun t k => XS.aloadN X61.here hx rfl (hb hby at_42) rfl rfl k) ?_
    refine own_go T61 m 44 #[iv x0, rv b1, iv 0, .unset, .unset, .unset] [(.int 0), (.ref b1)] (fun t k => XS.iloadN X61.here hx rfl (hb hby at_43) rfl k) ?_
    refine own_go T61 m 45 #[iv x0, rv b1, iv 0, .unset, .unset, .unset] [(.ref a_SUBMITTED)] (own_aaload X61 hx hZ e61 V61 rfl (j := (0 : Int32)) ⟨by decide, by decide⟩ rfl (hb hby at_44)) ?_
    refine own_go T61 m 46 #[iv x0, rv b1, iv 0, rv a_SUBMITTED, .unset, .unset] [] (fun t k => XS.astoreN X61.here hx rfl (hb hby at_45) rfl rfl rfl k) ?_
    refine own_go T61 m 47 #[iv x0, rv b1, iv 0, rv a_SUBMITTED, .unset, .unset] [(.int 0)] (fun t k => XS.iloadN X61.here hx rfl (hb hby at_46) rfl k) ?_
    refine own_go T61 m 55 #[iv x0, rv b1, iv 0, rv a_SUBMITTED, .unset, .unset] [] (fun t k => XS.ifYes X61.here hx rfl (pc0 := 47) (pc' := 55) rfl (hb hby at_47) rfl ((if0 _ _).trans (teq (by decide)).1) (by decide) (by decide) k) ?_
    refine own_go T61 m 56 #[iv x0, rv b1, iv 0, rv a_SUBMITTED, .unset, .unset] [(.int 1)] (fun t k => XS.iconst X61.here hx rfl (hb hby at_55) k) ?_
    refine own_go T61 m 60 #[iv x0, rv b1, iv 0, rv a_SUBMITTED, .unset, .unset] [(.int 1)] (fun t k => XS.goto X61.here hx rfl (pc0 := 56) (pc' := 60) rfl (hb hby at_56) (by decide) (by decide) k) ?_
    refine own_go T61 m 62 #[iv x0, rv b1, iv 0, rv a_SUBMITTED, iv 1, .unset] [] (fun t k => XS.istore X61.here hx rfl (hb hby at_60) rfl rfl k) ?_
    refine own_go T61 m 64 #[iv x0, rv b1, iv 0, rv a_SUBMITTED, iv 1, .unset] [(.int 1)] (fun t k => XS.iload X61.here hx rfl (hb hby at_62) rfl k) ?_
    refine own_go T61 m 71 #[iv x0, rv b1, iv 0, rv a_SUBMITTED, iv 1, .unset] [] (fun t k => XS.ifYes X61.here hx rfl (pc0 := 64) (pc' := 71) rfl (hb hby at_64) rfl ((if0 _ _).trans (feq (by decide)).2) (by decide) (by decide) k) ?_
    refine own_go T61 m 72 #[iv x0, rv b1, iv 0, rv a_SUBMITTED, iv 1, .unset] [(.int 0)] (fun t k => XS.iconst X61.here hx rfl (hb hby at_71) k) ?_
    refine own_go T61 m 74 #[iv x0, rv b1, iv 0, rv a_SUBMITTED, iv 1, iv 0] [] (fun t k => XS.istore X61.here hx rfl (hb hby at_72) rfl rfl k) ?_
    refine own_go T61 m 75 #[iv x0, rv b1, iv 0, rv a_SUBMITTED, iv 1, iv 0] [(.ref a_SUBMITTED)] (fun t k => XS.aloadN X61.here hx rfl (hb hby at_74) rfl rfl k) ?_
    obtain ⟨_, T73, L73, X73, ⟨rfl, e73, rfl⟩, st73⟩ := own_virtual X61 hx hZ (y := (⟨"com/example/newt/newt/core/jobs/JobStatus", "hasEnded", "()Z"⟩ : MethodName)) (z := (⟨"com/example/newt/newt/core/jobs/JobStatus", "hasEnded", "()Z"⟩ : MethodName)) hown (own_w hw 15 rfl) (own_w hw 16 rfl) (notFace_of_selects (args := #[]) (mvT hZ (own_w hw 18 rfl))) (own_w hw 18 rfl) (own_w hw 17 rfl) (own_w hw 3 rfl) (own_w hw 19 rfl) (by decide) (rm1 l Z a0 hw [] a_SUBMITTED a_COMPLETED a_FAILED a_CANCELLED h61 cf64 cf65 cf66) e61 cf67 0 (argsL := []) (rest := []) (Ls := #[iv x0, rv b1, iv 0, rv a_SUBMITTED, iv 1, iv 0]) (by rw [hml]; rfl) (lenOf pd___Z rfl) rfl rfl (Nat.le_of_eq rfl) (hb hby at_75) (by decide) (by decide) (by decide) (by decide)
    replace X73 := own_nil X73
    refine own_go T73 m 78 #[iv x0, rv b1, iv 0, rv a_SUBMITTED, iv 1, iv 0] [(.int (own_ended a_SUBMITTED a_COMPLETED a_FAILED a_CANCELLED))] (st73) ?_
    rw [show (own_ended a_SUBMITTED a_COMPLETED a_FAILED a_CANCELLED) = (0 : Int32) from by simp [own_ended, ne_SUBMITTED_COMPLETED, ne_SUBMITTED_FAILED, ne_SUBMITTED_CANCELLED]]
    refine own_go T73 m 80 #[iv x0, rv b1, iv 0, rv a_SUBMITTED, iv 1, iv 0] [(.int 0), (.int 0)] (fun t k => XS.iload X73.here hx rfl (hb hby at_78) rfl k) ?_
    refine own_go T73 m 83 #[iv x0, rv b1, iv 0, rv a_SUBMITTED, iv 1, iv 0] [] (fun t k => XS.icmpNo X73.here hx rfl (hb hby at_80) rfl (teq (by decide)).2 k) ?_
    refine own_go T73 m 84 #[iv x0, rv b1, iv 0, rv a_SUBMITTED, iv 1, iv 0] [(.int 1)] (fun t k => XS.iconst X73.here hx rfl (hb hby at_83) k) ?_
    refine own_go T73 m 88 #[iv x0, rv b1, iv 0, rv a_SUBMITTED, iv 1, iv 0] [(.int 1)] (fun t k => XS.goto X73.here hx rfl (pc0 := 84) (pc' := 88) rfl (hb hby at_84) (by decide) (by decide) k) ?_
    refine own_retZ X73 hx hlk hret (by decide) (hb hby at_88) (by decide) (by decide) ?_
    exact ⟨rfl, N61⟩
  · rw [hq]
    refine own_go T61 m 42 #[iv x0, rv b1, iv 1, .unset, .unset, .unset] [] (fun t k => XS.istoreN X61.here hx rfl (hb hby at_41) rfl rfl k) ?_
    refine own_go T61 m 43 #[iv x0, rv b1, iv 1, .unset, .unset, .unset] [(.ref b1)] (fun t k => XS.aloadN X61.here hx rfl (hb hby at_42) rfl rfl k) ?_
    refine own_go T61 m 44 #[iv x0, rv b1, iv 1, .unset, .unset, .unset] [(.int 1), (.ref b1)] (fun t k => XS.iloadN X61.here hx rfl (hb hby at_43) rfl k) ?_
    refine own_go T61 m 45 #[iv x0, rv b1, iv 1, .unset, .unset, .unset] [(.ref a_IN_PROGRESS)] (own_aaload X61 hx hZ e61 V61 rfl (j := (1 : Int32)) ⟨by decide, by decide⟩ rfl (hb hby at_44)) ?_
    refine own_go T61 m 46 #[iv x0, rv b1, iv 1, rv a_IN_PROGRESS, .unset, .unset] [] (fun t k => XS.astoreN X61.here hx rfl (hb hby at_45) rfl rfl rfl k) ?_
    refine own_go T61 m 47 #[iv x0, rv b1, iv 1, rv a_IN_PROGRESS, .unset, .unset] [(.int 1)] (fun t k => XS.iloadN X61.here hx rfl (hb hby at_46) rfl k) ?_
    refine own_go T61 m 50 #[iv x0, rv b1, iv 1, rv a_IN_PROGRESS, .unset, .unset] [] (fun t k => XS.ifNo X61.here hx rfl (hb hby at_47) rfl ((if0 _ _).trans (feq (by decide)).1) k) ?_
    refine own_go T61 m 51 #[iv x0, rv b1, iv 1, rv a_IN_PROGRESS, .unset, .unset] [(.int 1)] (fun t k => XS.iloadN X61.here hx rfl (hb hby at_50) rfl k) ?_
    refine own_go T61 m 52 #[iv x0, rv b1, iv 1, rv a_IN_PROGRESS, .unset, .unset] [(.int 1), (.int 1)] (fun t k => XS.iconst X61.here hx rfl (hb hby at_51) k) ?_
    refine own_go T61 m 55 #[iv x0, rv b1, iv 1, rv a_IN_PROGRESS, .unset, .unset] [] (fun t k => XS.icmpNo X61.here hx rfl (hb hby at_52) rfl (teq (by decide)).2 k) ?_
    refine own_go T61 m 56 #[iv x0, rv b1, iv 1, rv a_IN_PROGRESS, .unset, .unset] [(.int 1)] (fun t k => XS.iconst X61.here hx rfl (hb hby at_55) k) ?_
    refine own_go T61 m 60 #[iv x0, rv b1, iv 1, rv a_IN_PROGRESS, .unset, .unset] [(.int 1)] (fun t k => XS.goto X61.here hx rfl (pc0 := 56) (pc' := 60) rfl (hb hby at_56) (by decide) (by decide) k) ?_
    refine own_go T61 m 62 #[iv x0, rv b1, iv 1, rv a_IN_PROGRESS, iv 1, .unset] [] (fun t k => XS.istore X61.here hx rfl (hb hby at_60) rfl rfl k) ?_
    refine own_go T61 m 64 #[iv x0, rv b1, iv 1, rv a_IN_PROGRESS, iv 1, .unset] [(.int 1)] (fun t k => XS.iload X61.here hx rfl (hb hby at_62) rfl k) ?_
    refine own_go T61 m 71 #[iv x0, rv b1, iv 1, rv a_IN_PROGRESS, iv 1, .unset] [] (fun t k => XS.ifYes X61.here hx rfl (pc0 := 64) (pc' := 71) rfl (hb hby at_64) rfl ((if0 _ _).trans (feq (by decide)).2) (by decide) (by decide) k) ?_
    refine own_go T61 m 72 #[iv x0, rv b1, iv 1, rv a_IN_PROGRESS, iv 1, .unset] [(.int 0)] (fun t k => XS.iconst X61.here hx rfl (hb hby at_71) k) ?_
    refine own_go T61 m 74 #[iv x0, rv b1, iv 1, rv a_IN_PROGRESS, iv 1, iv 0] [] (fun t k => XS.istore X61.here hx rfl (hb hby at_72) rfl rfl k) ?_
    refine own_go T61 m 75 #[iv x0, rv b1, iv 1, rv a_IN_PROGRESS, iv 1, iv 0] [(.ref a_IN_PROGRESS)] (fun t k => XS.aloadN X61.here hx rfl (hb hby at_74) rfl rfl k) ?_
    obtain ⟨_, T75, L75, X75, ⟨rfl, e75, rfl⟩, st75⟩ := own_virtual X61 hx hZ (y := (⟨"com/example/newt/newt/core/jobs/JobStatus", "hasEnded", "()Z"⟩ : MethodName)) (z := (⟨"com/example/newt/newt/core/jobs/JobStatus", "hasEnded", "()Z"⟩ : MethodName)) hown (own_w hw 15 rfl) (own_w hw 16 rfl) (notFace_of_selects (args := #[]) (mvT hZ (own_w hw 18 rfl))) (own_w hw 18 rfl) (own_w hw 17 rfl) (own_w hw 3 rfl) (own_w hw 19 rfl) (by decide) (rm1 l Z a0 hw [] a_IN_PROGRESS a_COMPLETED a_FAILED a_CANCELLED h61 cf64 cf65 cf66) e61 cf68 0 (argsL := []) (rest := []) (Ls := #[iv x0, rv b1, iv 1, rv a_IN_PROGRESS, iv 1, iv 0]) (by rw [hml]; rfl) (lenOf pd___Z rfl) rfl rfl (Nat.le_of_eq rfl) (hb hby at_75) (by decide) (by decide) (by decide) (by decide)
    replace X75 := own_nil X75
    refine own_go T75 m 78 #[iv x0, rv b1, iv 1, rv a_IN_PROGRESS, iv 1, iv 0] [(.int (own_ended a_IN_PROGRESS a_COMPLETED a_FAILED a_CANCELLED))] (st75) ?_
    rw [show (own_ended a_IN_PROGRESS a_COMPLETED a_FAILED a_CANCELLED) = (0 : Int32) from by simp [own_ended, ne_IN_PROGRESS_COMPLETED, ne_IN_PROGRESS_FAILED, ne_IN_PROGRESS_CANCELLED]]
    refine own_go T75 m 80 #[iv x0, rv b1, iv 1, rv a_IN_PROGRESS, iv 1, iv 0] [(.int 0), (.int 0)] (fun t k => XS.iload X75.here hx rfl (hb hby at_78) rfl k) ?_
    refine own_go T75 m 83 #[iv x0, rv b1, iv 1, rv a_IN_PROGRESS, iv 1, iv 0] [] (fun t k => XS.icmpNo X75.here hx rfl (hb hby at_80) rfl (teq (by decide)).2 k) ?_
    refine own_go T75 m 84 #[iv x0, rv b1, iv 1, rv a_IN_PROGRESS, iv 1, iv 0] [(.int 1)] (fun t k => XS.iconst X75.here hx rfl (hb hby at_83) k) ?_
    refine own_go T75 m 88 #[iv x0, rv b1, iv 1, rv a_IN_PROGRESS, iv 1, iv 0] [(.int 1)] (fun t k => XS.goto X75.here hx rfl (pc0 := 84) (pc' := 88) rfl (hb hby at_84) (by decide) (by decide) k) ?_
    refine own_retZ X75 hx hlk hret (by decide) (hb hby at_88) (by decide) (by decide) ?_
    exact ⟨rfl, N61⟩
  · rw [hq]
    refine own_go T61 m 42 #[iv x0, rv b1, iv 2, .unset, .unset, .unset] [] (fun t k => XS.istoreN X61.here hx rfl (hb hby at_41) rfl rfl k) ?_
    refine own_go T61 m 43 #[iv x0, rv b1, iv 2, .unset, .unset, .unset] [(.ref b1)] (fun t k => XS.aloadN X61.here hx rfl (hb hby at_42) rfl rfl k) ?_
    refine own_go T61 m 44 #[iv x0, rv b1, iv 2, .unset, .unset, .unset] [(.int 2), (.ref b1)] (fun t k => XS.iloadN X61.here hx rfl (hb hby at_43) rfl k) ?_
    refine own_go T61 m 45 #[iv x0, rv b1, iv 2, .unset, .unset, .unset] [(.ref a_COMPLETED)] (own_aaload X61 hx hZ e61 V61 rfl (j := (2 : Int32)) ⟨by decide, by decide⟩ rfl (hb hby at_44)) ?_
    refine own_go T61 m 46 #[iv x0, rv b1, iv 2, rv a_COMPLETED, .unset, .unset] [] (fun t k => XS.astoreN X61.here hx rfl (hb hby at_45) rfl rfl rfl k) ?_
    refine own_go T61 m 47 #[iv x0, rv b1, iv 2, rv a_COMPLETED, .unset, .unset] [(.int 2)] (fun t k => XS.iloadN X61.here hx rfl (hb hby at_46) rfl k) ?_
    refine own_go T61 m 50 #[iv x0, rv b1, iv 2, rv a_COMPLETED, .unset, .unset] [] (fun t k => XS.ifNo X61.here hx rfl (hb hby at_47) rfl ((if0 _ _).trans (feq (by decide)).1) k) ?_
    refine own_go T61 m 51 #[iv x0, rv b1, iv 2, rv a_COMPLETED, .unset, .unset] [(.int 2)] (fun t k => XS.iloadN X61.here hx rfl (hb hby at_50) rfl k) ?_
    refine own_go T61 m 52 #[iv x0, rv b1, iv 2, rv a_COMPLETED, .unset, .unset] [(.int 1), (.int 2)] (fun t k => XS.iconst X61.here hx rfl (hb hby at_51) k) ?_
    refine own_go T61 m 59 #[iv x0, rv b1, iv 2, rv a_COMPLETED, .unset, .unset] [] (fun t k => XS.icmpYes X61.here hx rfl (pc0 := 52) (pc' := 59) rfl (hb hby at_52) rfl (feq (by decide)).2 (by decide) (by decide) k) ?_
    refine own_go T61 m 60 #[iv x0, rv b1, iv 2, rv a_COMPLETED, .unset, .unset] [(.int 0)] (fun t k => XS.iconst X61.here hx rfl (hb hby at_59) k) ?_
    refine own_go T61 m 62 #[iv x0, rv b1, iv 2, rv a_COMPLETED, iv 0, .unset] [] (fun t k => XS.istore X61.here hx rfl (hb hby at_60) rfl rfl k) ?_
    refine own_go T61 m 64 #[iv x0, rv b1, iv 2, rv a_COMPLETED, iv 0, .unset] [(.int 0)] (fun t k => XS.iload X61.here hx rfl (hb hby at_62) rfl k) ?_
    refine own_go T61 m 67 #[iv x0, rv b1, iv 2, rv a_COMPLETED, iv 0, .unset] [] (fun t k => XS.ifNo X61.here hx rfl (hb hby at_64) rfl ((if0 _ _).trans (teq (by decide)).2) k) ?_
    refine own_go T61 m 68 #[iv x0, rv b1, iv 2, rv a_COMPLETED, iv 0, .unset] [(.int 1)] (fun t k => XS.iconst X61.here hx rfl (hb hby at_67) k) ?_
    refine own_go T61 m 72 #[iv x0, rv b1, iv 2, rv a_COMPLETED, iv 0, .unset] [(.int 1)] (fun t k => XS.goto X61.here hx rfl (pc0 := 68) (pc' := 72) rfl (hb hby at_68) (by decide) (by decide) k) ?_
    refine own_go T61 m 74 #[iv x0, rv b1, iv 2, rv a_COMPLETED, iv 0, iv 1] [] (fun t k => XS.istore X61.here hx rfl (hb hby at_72) rfl rfl k) ?_
    refine own_go T61 m 75 #[iv x0, rv b1, iv 2, rv a_COMPLETED, iv 0, iv 1] [(.ref a_COMPLETED)] (fun t k => XS.aloadN X61.here hx rfl (hb hby at_74) rfl rfl k) ?_
    obtain ⟨_, T77, L77, X77, ⟨rfl, e77, rfl⟩, st77⟩ := own_virtual X61 hx hZ (y := (⟨"com/example/newt/newt/core/jobs/JobStatus", "hasEnded", "()Z"⟩ : MethodName)) (z := (⟨"com/example/newt/newt/core/jobs/JobStatus", "hasEnded", "()Z"⟩ : MethodName)) hown (own_w hw 15 rfl) (own_w hw 16 rfl) (notFace_of_selects (args := #[]) (mvT hZ (own_w hw 18 rfl))) (own_w hw 18 rfl) (own_w hw 17 rfl) (own_w hw 3 rfl) (own_w hw 19 rfl) (by decide) (rm1 l Z a0 hw [] a_COMPLETED a_COMPLETED a_FAILED a_CANCELLED h61 cf64 cf65 cf66) e61 cf69 0 (argsL := []) (rest := []) (Ls := #[iv x0, rv b1, iv 2, rv a_COMPLETED, iv 0, iv 1]) (by rw [hml]; rfl) (lenOf pd___Z rfl) rfl rfl (Nat.le_of_eq rfl) (hb hby at_75) (by decide) (by decide) (by decide) (by decide)
    replace X77 := own_nil X77
    refine own_go T77 m 78 #[iv x0, rv b1, iv 2, rv a_COMPLETED, iv 0, iv 1] [(.int (own_ended a_COMPLETED a_COMPLETED a_FAILED a_CANCELLED))] (st77) ?_
    rw [show (own_ended a_COMPLETED a_COMPLETED a_FAILED a_CANCELLED) = (1 : Int32) from by simp [own_ended, ne_COMPLETED_FAILED, ne_COMPLETED_CANCELLED]]
    refine own_go T77 m 80 #[iv x0, rv b1, iv 2, rv a_COMPLETED, iv 0, iv 1] [(.int 1), (.int 1)] (fun t k => XS.iload X77.here hx rfl (hb hby at_78) rfl k) ?_
    refine own_go T77 m 83 #[iv x0, rv b1, iv 2, rv a_COMPLETED, iv 0, iv 1] [] (fun t k => XS.icmpNo X77.here hx rfl (hb hby at_80) rfl (teq (by decide)).2 k) ?_
    refine own_go T77 m 84 #[iv x0, rv b1, iv 2, rv a_COMPLETED, iv 0, iv 1] [(.int 1)] (fun t k => XS.iconst X77.here hx rfl (hb hby at_83) k) ?_
    refine own_go T77 m 88 #[iv x0, rv b1, iv 2, rv a_COMPLETED, iv 0, iv 1] [(.int 1)] (fun t k => XS.goto X77.here hx rfl (pc0 := 84) (pc' := 88) rfl (hb hby at_84) (by decide) (by decide) k) ?_
    refine own_retZ X77 hx hlk hret (by decide) (hb hby at_88) (by decide) (by decide) ?_
    exact ⟨rfl, N61⟩
  · rw [hq]
    refine own_go T61 m 42 #[iv x0, rv b1, iv 3, .unset, .unset, .unset] [] (fun t k => XS.istoreN X61.here hx rfl (hb hby at_41) rfl rfl k) ?_
    refine own_go T61 m 43 #[iv x0, rv b1, iv 3, .unset, .unset, .unset] [(.ref b1)] (fun t k => XS.aloadN X61.here hx rfl (hb hby at_42) rfl rfl k) ?_
    refine own_go T61 m 44 #[iv x0, rv b1, iv 3, .unset, .unset, .unset] [(.int 3), (.ref b1)] (fun t k => XS.iloadN X61.here hx rfl (hb hby at_43) rfl k) ?_
    refine own_go T61 m 45 #[iv x0, rv b1, iv 3, .unset, .unset, .unset] [(.ref a_FAILED)] (own_aaload X61 hx hZ e61 V61 rfl (j := (3 : Int32)) ⟨by decide, by decide⟩ rfl (hb hby at_44)) ?_
    refine own_go T61 m 46 #[iv x0, rv b1, iv 3, rv a_FAILED, .unset, .unset] [] (fun t k => XS.astoreN X61.here hx rfl (hb hby at_45) rfl rfl rfl k) ?_
    refine own_go T61 m 47 #[iv x0, rv b1, iv 3, rv a_FAILED, .unset, .unset] [(.int 3)] (fun t k => XS.iloadN X61.here hx rfl (hb hby at_46) rfl k) ?_
    refine own_go T61 m 50 #[iv x0, rv b1, iv 3, rv a_FAILED, .unset, .unset] [] (fun t k => XS.ifNo X61.here hx rfl (hb hby at_47) rfl ((if0 _ _).trans (feq (by decide)).1) k) ?_
    refine own_go T61 m 51 #[iv x0, rv b1, iv 3, rv a_FAILED, .unset, .unset] [(.int 3)] (fun t k => XS.iloadN X61.here hx rfl (hb hby at_50) rfl k) ?_
    refine own_go T61 m 52 #[iv x0, rv b1, iv 3, rv a_FAILED, .unset, .unset] [(.int 1), (.int 3)] (fun t k => XS.iconst X61.here hx rfl (hb hby at_51) k) ?_
    refine own_go T61 m 59 #[iv x0, rv b1, iv 3, rv a_FAILED, .unset, .unset] [] (fun t k => XS.icmpYes X61.here hx rfl (pc0 := 52) (pc' := 59) rfl (hb hby at_52) rfl (feq (by decide)).2 (by decide) (by decide) k) ?_
    refine own_go T61 m 60 #[iv x0, rv b1, iv 3, rv a_FAILED, .unset, .unset] [(.int 0)] (fun t k => XS.iconst X61.here hx rfl (hb hby at_59) k) ?_
    refine own_go T61 m 62 #[iv x0, rv b1, iv 3, rv a_FAILED, iv 0, .unset] [] (fun t k => XS.istore X61.here hx rfl (hb hby at_60) rfl rfl k) ?_
    refine own_go T61 m 64 #[iv x0, rv b1, iv 3, rv a_FAILED, iv 0, .unset] [(.int 0)] (fun t k => XS.iload X61.here hx rfl (hb hby at_62) rfl k) ?_
    refine own_go T61 m 67 #[iv x0, rv b1, iv 3, rv a_FAILED, iv 0, .unset] [] (fun t k => XS.ifNo X61.here hx rfl (hb hby at_64) rfl ((if0 _ _).trans (teq (by decide)).2) k) ?_
    refine own_go T61 m 68 #[iv x0, rv b1, iv 3, rv a_FAILED, iv 0, .unset] [(.int 1)] (fun t k => XS.iconst X61.here hx rfl (hb hby at_67) k) ?_
    refine own_go T61 m 72 #[iv x0, rv b1, iv 3, rv a_FAILED, iv 0, .unset] [(.int 1)] (fun t k => XS.goto X61.here hx rfl (pc0 := 68) (pc' := 72) rfl (hb hby at_68) (by decide) (by decide) k) ?_
    refine own_go T61 m 74 #[iv x0, rv b1, iv 3, rv a_FAILED, iv 0, iv 1] [] (fun t k => XS.istore X61.here hx rfl (hb hby at_72) rfl rfl k) ?_
    refine own_go T61 m 75 #[iv x0, rv b1, iv 3, rv a_FAILED, iv 0, iv 1] [(.ref a_FAILED)] (fun t k => XS.aloadN X61.here hx rfl (hb hby at_74) rfl rfl k) ?_
    obtain ⟨_, T79, L79, X79, ⟨rfl, e79, rfl⟩, st79⟩ := own_virtual X61 hx hZ (y := (⟨"com/example/newt/newt/core/jobs/JobStatus", "hasEnded", "()Z"⟩ : MethodName)) (z := (⟨"com/example/newt/newt/core/jobs/JobStatus", "hasEnded", "()Z"⟩ : MethodName)) hown (own_w hw 15 rfl) (own_w hw 16 rfl) (notFace_of_selects (args := #[]) (mvT hZ (own_w hw 18 rfl))) (own_w hw 18 rfl) (own_w hw 17 rfl) (own_w hw 3 rfl) (own_w hw 19 rfl) (by decide) (rm1 l Z a0 hw [] a_FAILED a_COMPLETED a_FAILED a_CANCELLED h61 cf64 cf65 cf66) e61 cf70 0 (argsL := []) (rest := []) (Ls := #[iv x0, rv b1, iv 3, rv a_FAILED, iv 0, iv 1]) (by rw [hml]; rfl) (lenOf pd___Z rfl) rfl rfl (Nat.le_of_eq rfl) (hb hby at_75) (by decide) (by decide) (by decide) (by decide)
    replace X79 := own_nil X79
    refine own_go T79 m 78 #[iv x0, rv b1, iv 3, rv a_FAILED, iv 0, iv 1] [(.int (own_ended a_FAILED a_COMPLETED a_FAILED a_CANCELLED))] (st79) ?_
    rw [show (own_ended a_FAILED a_COMPLETED a_FAILED a_CANCELLED) = (1 : Int32) from by simp [own_ended, ne_FAILED_COMPLETED, ne_FAILED_CANCELLED]]
    refine own_go T79 m 80 #[iv x0, rv b1, iv 3, rv a_FAILED, iv 0, iv 1] [(.int 1), (.int 1)] (fun t k => XS.iload X79.here hx rfl (hb hby at_78) rfl k) ?_
    refine own_go T79 m 83 #[iv x0, rv b1, iv 3, rv a_FAILED, iv 0, iv 1] [] (fun t k => XS.icmpNo X79.here hx rfl (hb hby at_80) rfl (teq (by decide)).2 k) ?_
    refine own_go T79 m 84 #[iv x0, rv b1, iv 3, rv a_FAILED, iv 0, iv 1] [(.int 1)] (fun t k => XS.iconst X79.here hx rfl (hb hby at_83) k) ?_
    refine own_go T79 m 88 #[iv x0, rv b1, iv 3, rv a_FAILED, iv 0, iv 1] [(.int 1)] (fun t k => XS.goto X79.here hx rfl (pc0 := 84) (pc' := 88) rfl (hb hby at_84) (by decide) (by decide) k) ?_
    refine own_retZ X79 hx hlk hret (by decide) (hb hby at_88) (by decide) (by decide) ?_
    exact ⟨rfl, N61⟩
  · rw [hq]
    refine own_go T61 m 42 #[iv x0, rv b1, iv 4, .unset, .unset, .unset] [] (fun t k => XS.istoreN X61.here hx rfl (hb hby at_41) rfl rfl k) ?_
    refine own_go T61 m 43 #[iv x0, rv b1, iv 4, .unset, .unset, .unset] [(.ref b1)] (fun t k => XS.aloadN X61.here hx rfl (hb hby at_42) rfl rfl k) ?_
    refine own_go T61 m 44 #[iv x0, rv b1, iv 4, .unset, .unset, .unset] [(.int 4), (.ref b1)] (fun t k => XS.iloadN X61.here hx rfl (hb hby at_43) rfl k) ?_
    refine own_go T61 m 45 #[iv x0, rv b1, iv 4, .unset, .unset, .unset] [(.ref a_CANCELLED)] (own_aaload X61 hx hZ e61 V61 rfl (j := (4 : Int32)) ⟨by decide, by decide⟩ rfl (hb hby at_44)) ?_
    refine own_go T61 m 46 #[iv x0, rv b1, iv 4, rv a_CANCELLED, .unset, .unset] [] (fun t k => XS.astoreN X61.here hx rfl (hb hby at_45) rfl rfl rfl k) ?_
    refine own_go T61 m 47 #[iv x0, rv b1, iv 4, rv a_CANCELLED, .unset, .unset] [(.int 4)] (fun t k => XS.iloadN X61.here hx rfl (hb hby at_46) rfl k) ?_
    refine own_go T61 m 50 #[iv x0, rv b1, iv 4, rv a_CANCELLED, .unset, .unset] [] (fun t k => XS.ifNo X61.here hx rfl (hb hby at_47) rfl ((if0 _ _).trans (feq (by decide)).1) k) ?_
    refine own_go T61 m 51 #[iv x0, rv b1, iv 4, rv a_CANCELLED, .unset, .unset] [(.int 4)] (fun t k => XS.iloadN X61.here hx rfl (hb hby at_50) rfl k) ?_
    refine own_go T61 m 52 #[iv x0, rv b1, iv 4, rv a_CANCELLED, .unset, .unset] [(.int 1), (.int 4)] (fun t k => XS.iconst X61.here hx rfl (hb hby at_51) k) ?_
    refine own_go T61 m 59 #[iv x0, rv b1, iv 4, rv a_CANCELLED, .unset, .unset] [] (fun t k => XS.icmpYes X61.here hx rfl (pc0 := 52) (pc' := 59) rfl (hb hby at_52) rfl (feq (by decide)).2 (by decide) (by decide) k) ?_
    refine own_go T61 m 60 #[iv x0, rv b1, iv 4, rv a_CANCELLED, .unset, .unset] [(.int 0)] (fun t k => XS.iconst X61.here hx rfl (hb hby at_59) k) ?_
    refine own_go T61 m 62 #[iv x0, rv b1, iv 4, rv a_CANCELLED, iv 0, .unset] [] (fun t k => XS.istore X61.here hx rfl (hb hby at_60) rfl rfl k) ?_
    refine own_go T61 m 64 #[iv x0, rv b1, iv 4, rv a_CANCELLED, iv 0, .unset] [(.int 0)] (fun t k => XS.iload X61.here hx rfl (hb hby at_62) rfl k) ?_
    refine own_go T61 m 67 #[iv x0, rv b1, iv 4, rv a_CANCELLED, iv 0, .unset] [] (fun t k => XS.ifNo X61.here hx rfl (hb hby at_64) rfl ((if0 _ _).trans (teq (by decide)).2) k) ?_
    refine own_go T61 m 68 #[iv x0, rv b1, iv 4, rv a_CANCELLED, iv 0, .unset] [(.int 1)] (fun t k => XS.iconst X61.here hx rfl (hb hby at_67) k) ?_
    refine own_go T61 m 72 #[iv x0, rv b1, iv 4, rv a_CANCELLED, iv 0, .unset] [(.int 1)] (fun t k => XS.goto X61.here hx rfl (pc0 := 68) (pc' := 72) rfl (hb hby at_68) (by decide) (by decide) k) ?_
    refine own_go T61 m 74 #[iv x0, rv b1, iv 4, rv a_CANCELLED, iv 0, iv 1] [] (fun t k => XS.istore X61.here hx rfl (hb hby at_72) rfl rfl k) ?_
    refine own_go T61 m 75 #[iv x0, rv b1, iv 4, rv a_CANCELLED, iv 0, iv 1] [(.ref a_CANCELLED)] (fun t k => XS.aloadN X61.here hx rfl (hb hby at_74) rfl rfl k) ?_
    obtain ⟨_, T81, L81, X81, ⟨rfl, e81, rfl⟩, st81⟩ := own_virtual X61 hx hZ (y := (⟨"com/example/newt/newt/core/jobs/JobStatus", "hasEnded", "()Z"⟩ : MethodName)) (z := (⟨"com/example/newt/newt/core/jobs/JobStatus", "hasEnded", "()Z"⟩ : MethodName)) hown (own_w hw 15 rfl) (own_w hw 16 rfl) (notFace_of_selects (args := #[]) (mvT hZ (own_w hw 18 rfl))) (own_w hw 18 rfl) (own_w hw 17 rfl) (own_w hw 3 rfl) (own_w hw 19 rfl) (by decide) (rm1 l Z a0 hw [] a_CANCELLED a_COMPLETED a_FAILED a_CANCELLED h61 cf64 cf65 cf66) e61 cf71 0 (argsL := []) (rest := []) (Ls := #[iv x0, rv b1, iv 4, rv a_CANCELLED, iv 0, iv 1]) (by rw [hml]; rfl) (lenOf pd___Z rfl) rfl rfl (Nat.le_of_eq rfl) (hb hby at_75) (by decide) (by decide) (by decide) (by decide)
    replace X81 := own_nil X81
    refine own_go T81 m 78 #[iv x0, rv b1, iv 4, rv a_CANCELLED, iv 0, iv 1] [(.int (own_ended a_CANCELLED a_COMPLETED a_FAILED a_CANCELLED))] (st81) ?_
    rw [show (own_ended a_CANCELLED a_COMPLETED a_FAILED a_CANCELLED) = (1 : Int32) from by simp [own_ended, ne_CANCELLED_COMPLETED, ne_CANCELLED_FAILED]]
    refine own_go T81 m 80 #[iv x0, rv b1, iv 4, rv a_CANCELLED, iv 0, iv 1] [(.int 1), (.int 1)] (fun t k => XS.iload X81.here hx rfl (hb hby at_78) rfl k) ?_
    refine own_go T81 m 83 #[iv x0, rv b1, iv 4, rv a_CANCELLED, iv 0, iv 1] [] (fun t k => XS.icmpNo X81.here hx rfl (hb hby at_80) rfl (teq (by decide)).2 k) ?_
    refine own_go T81 m 84 #[iv x0, rv b1, iv 4, rv a_CANCELLED, iv 0, iv 1] [(.int 1)] (fun t k => XS.iconst X81.here hx rfl (hb hby at_83) k) ?_
    refine own_go T81 m 88 #[iv x0, rv b1, iv 4, rv a_CANCELLED, iv 0, iv 1] [(.int 1)] (fun t k => XS.goto X81.here hx rfl (pc0 := 84) (pc' := 88) rfl (hb hby at_84) (by decide) (by decide) k) ?_
    refine own_retZ X81 hx hlk hret (by decide) (hb hby at_88) (by decide) (by decide) ?_
    exact ⟨rfl, N61⟩
set_option maxRecDepth 65536 in
set_option maxHeartbeats 40000000 in
theorem comes_1 {Post : Tables → Env → Array Value → State → Outcome → State → Prop} (hpost : ∀ tb e args s v u, (limb_1_1.after args s (.returned v) u = true ∧ limb_1_2.after args s (.returned v) u = true ∧ True) → FrameEnd s (.returned v) u (Jvm.fieldLocs frame_1_writes args s ++ Jvm.arrayLocs frame_1_arrays args s ++ Jvm.staticLocs frame_1_statics s) 16 128 → Post tb e args s (.returned v) u) :
    ArmFor flags0 classFile x code maxLocals ret World_1 tables_1 room_1 Calls_1 rest_1 Pre_1 Post := by
  intro l hfl _ _ p e ha hc hk s m args below hf hA hF happ hP
  obtain ⟨hcalls, hrest, hpre⟩ := hP
  obtain ⟨-, -, -, hnamed, -, -, -, hat⟩ := (Spec.applies_iff hf).mp happ
  obtain ⟨hg, hn⟩ := and_e (Cond.before_iff.mp (show (Jvm.Cond.and given_1 narrow_1).before args s = true from hpre))
  obtain ⟨gg1, gg2⟩ := and_e hg
  obtain ⟨w0, rfl⟩ : ∃ w0 : Value, args = #[w0] := by
    have hs : args.size = 1 := by simpa [Cond.value, given_1] using gg1
    obtain ⟨L⟩ := args
    match L, hs with
    | [w0], _ => exact ⟨w0, rfl⟩
  have hw := fun d (hd : d ∈ tables_1) => atoms_spec (ws := Jvm.Cond.code x code maxLocals ret :: tables_1) hat d (List.mem_cons_of_mem _ hd)
  have hfit : Fit s := fun {y c} hc i hi => by
    obtain ⟨ha, rfl⟩ := Array.getElem?_eq_some_iff.mp hc
    have q := List.all_eq_true.mp ((Array.all_eq_true_iff_forall_mem.mp hF) _ (Array.getElem_mem ha)) i (List.mem_range.mpr hi)
    simpa [Array.getElem?_eq_getElem hi] using q
  obtain ⟨i0, ei0⟩ := is_v gg2
  obtain rfl : w0 = (.int i0) := Option.some.inj ei0
  obtain ⟨hn0, hm0⟩ := and_e hn
  obtain ⟨a_SUBMITTED, ev_SUBMITTED⟩ := exa_v hn0
  have S_SUBMITTED := Sta.start ev_SUBMITTED (Or.inr ⟨(own_w hw 3 rfl), (own_w hw 4 rfl)⟩)
  have E_SUBMITTED := Exa.start ev_SUBMITTED hn0
  obtain ⟨hn1, hm1⟩ := and_e hm0
  obtain ⟨a_IN_PROGRESS, ev_IN_PROGRESS⟩ := exa_v hn1
  have S_IN_PROGRESS := Sta.start ev_IN_PROGRESS (Or.inr ⟨(own_w hw 3 rfl), (own_w hw 7 rfl)⟩)
  have E_IN_PROGRESS := Exa.start ev_IN_PROGRESS hn1
  obtain ⟨hn2, hm2⟩ := and_e hm1
  obtain ⟨a_COMPLETED, ev_COMPLETED⟩ := exa_v hn2
  have S_COMPLETED := Sta.start ev_COMPLETED (Or.inr ⟨(own_w hw 3 rfl), (own_w hw 9 rfl)⟩)
  have E_COMPLETED := Exa.start ev_COMPLETED hn2
  obtain ⟨hn3, hm3⟩ := and_e hm2
  obtain ⟨a_FAILED, ev_FAILED⟩ := exa_v hn3
  have S_FAILED := Sta.start ev_FAILED (Or.inr ⟨(own_w hw 3 rfl), (own_w hw 11 rfl)⟩)
  have E_FAILED := Exa.start ev_FAILED hn3
  obtain ⟨hn4, hm4⟩ := and_e hm3
  obtain ⟨a_CANCELLED, ev_CANCELLED⟩ := exa_v hn4
  have S_CANCELLED := Sta.start ev_CANCELLED (Or.inr ⟨(own_w hw 3 rfl), (own_w hw 13 rfl)⟩)
  have E_CANCELLED := Exa.start ev_CANCELLED hn4
  obtain ⟨hn5, hm5⟩ := and_e hm4
  have O_SUBMITTED := own_fld_int ev_SUBMITTED hn5
  obtain ⟨hn6, hm6⟩ := and_e hm5
  have O_COMPLETED := own_fld_int ev_COMPLETED hn6
  obtain ⟨hn7, hm7⟩ := and_e hm6
  have O_FAILED := own_fld_int ev_FAILED hn7
  obtain ⟨hn8, hm8⟩ := and_e hm7
  have O_CANCELLED := own_fld_int ev_CANCELLED hn8
  have O_IN_PROGRESS := own_fld_int ev_IN_PROGRESS hm8
  obtain ⟨n, o, h1, h2, h3, _, L, rfl, ⟨rfl, N⟩, hq⟩ := rm0 l s _ hw tables_1 i0 a_SUBMITTED a_IN_PROGRESS a_COMPLETED a_FAILED a_CANCELLED s.heap s.heap.size (Nat.le_refl _) S_SUBMITTED S_IN_PROGRESS S_COMPLETED S_FAILED S_CANCELLED E_SUBMITTED E_IN_PROGRESS E_COMPLETED E_FAILED E_CANCELLED (Fld.ne O_SUBMITTED O_COMPLETED (by decide)) (Fld.ne O_SUBMITTED O_FAILED (by decide)) (Fld.ne O_SUBMITTED O_CANCELLED (by decide)) (Fld.ne O_IN_PROGRESS O_COMPLETED (by decide)) (Fld.ne O_IN_PROGRESS O_FAILED (by decide)) (Fld.ne O_IN_PROGRESS O_CANCELLED (by decide)) (Fld.ne O_COMPLETED O_FAILED (by decide)) (Fld.ne O_COMPLETED O_CANCELLED (by decide)) (Fld.ne O_FAILED O_COMPLETED (by decide)) (Fld.ne O_FAILED O_CANCELLED (by decide)) (Fld.ne O_CANCELLED O_COMPLETED (by decide)) (Fld.ne O_CANCELLED O_FAILED (by decide)) p e ha hc hk s m _ below hf ((Spec.applies_iff_loose hf).mp happ).1 ⟨rfl, State.Warmed39.refl s, rfl⟩ trivial
  refine ⟨n, _, h1, h2, h3, hpost _ _ _ _ _ _ ⟨Cond.after_iff.mpr rfl, Cond.after_iff.mpr (eq_i res_at (Term.int_eval (1)) rfl), trivial⟩ ⟨hq.1, hq.2.1, (hq.2.2.sift fun y hy => Or.inr (N y hy)).mono (by decide) (by decide)⟩⟩
theorem main_1_1 : Claimed_1_1 := comes_1 fun _ _ _ _ _ _ h hF => ⟨h.1, hF⟩
theorem main_1_2 : Claimed_1_2 := comes_1 fun _ _ _ _ _ _ h hF => ⟨h.2.1, hF⟩
end Jvm.Pilot.@@N@@
namespace Jvm.Pilot.@@N@@
open Jvm Jvm.ClassFile Sem Op Lib Jvm.Free Jvm.Stand Jvm.Pilot.@@N@@.Jvm.D
/-! MADE BY PROGRAM (witnessworld.py) out of the Statement's table words and the real class files: 13 classes; the members and pool entries that the words name. The judged class is class 1, her method 1. -/
namespace start1
open Jvm.ClassFile
def u (s : String) : CpInfo := .utf8 (stringToUtf16 s)
/-- a pool by its gaps: so many unusable entries, then the entry; so many at the end -/
def gap : Nat → List CpInfo → List CpInfo
  | 0, r => r
  | n + 1, r => .unusable :: gap n r
def poolList (es : List (Nat × CpInfo)) (last : Nat) : List CpInfo := es.foldr (fun e r => gap e.1 (e.2 :: r)) (gap last [])
def pool (es : List (Nat × CpInfo)) (last : Nat) : Array CpInfo := ⟨poolList es last⟩
def fileOf (pool : Array CpInfo) (this : Nat) (attrs : Array Attribute := #[]) (ms : Array MethodInfo := #[]) (fl : Nat := 33) (sup : Nat := 0) (ifs : Array Nat := #[]) (fds : Array FieldInfo := #[]) : ClassFile where
  minorVersion := 0
  majorVersion := 65
  constantPool := pool
  accessFlags := fl
  thisClass := this
  superClass := sup
  interfaces := ifs
  fields := fds
  methods := ms
  attributes := attrs
def plain (name : String) (sup : Option ClassId) : Class where
  name := name
  kind := .ordinary
  loader := none
  accessFlags := 33
  super := sup
  interfaces := #[]
  cf := none
  fields := #[]
  methods := #[]
  instanceTypes := #[]
  staticTypes := #[]
  resolved := #[]
  callSites := []
  init := .initialized
  statics := none
  mirror := none

def pool0 : Array CpInfo := pool [(5, u "<init>"), (0, u "()V"), (1, .class_ 10), (1, u "java/lang/Object")] 113

def k0m0 : Method := { name := "<init>", desc := "()V", sig := { parameters := [], returnType := none }, accessFlags := 1, code := none }
/-- java/lang/Object -/
def k0 : Class := { plain "java/lang/Object" none with
  accessFlags := 33
  interfaces := #[]
  cf := some (fileOf pool0 8 #[] #[{ accessFlags := 1, nameIndex := 5, descriptorIndex := 6, attributes := #[] }] 33 0 #[] #[])
  fields := #[]
  methods := #[k0m0]
  instanceTypes := #[]
  staticTypes := #[]
  resolved := Array.replicate 124 none
  statics := none }

def pool1 : Array CpInfo := pool [(2, .class_ 4), (1, u "java/lang/Object"), (0, u "<init>"), (0, u "()V"), (0, .class_ 8), (0, u "com/example/newt/newt/core/jobs/JobStatus"), (0, .fieldref 7 10), (0, .nameAndType 11 12), (0, u "SUBMITTED"), (0, u "Lcom/example/newt/newt/core/jobs/JobStatus;"), (0, .fieldref 7 14), (0, .nameAndType 15 12), (0, u "IN_PROGRESS"), (0, .fieldref 7 17), (0, .nameAndType 18 12), (0, u "COMPLETED"), (0, .fieldref 7 20), (0, .nameAndType 21 12), (0, u "FAILED"), (0, .fieldref 7 23), (0, .nameAndType 24 12), (0, u "CANCELLED"), (0, .integer 2147483647), (0, .methodref 7 27), (0, .nameAndType 28 29), (0, u "hasEnded"), (0, u "()Z"), (0, .class_ 31), (0, u "com/example/newt/newt/core/jobs/JobStatusHasEndedPinLaw"), (2, u "law"), (0, u "(I)Z")] 5

def k1m0 : Method := { name := "<init>", desc := "()V", sig := { parameters := [], returnType := none }, accessFlags := 1, code := none }
def k1c1 : Code := { maxStack := 4, maxLocals := 6, code := code, exceptionTable := #[], attributes := #[] }
def k1m1 : Method := { name := "law", desc := "(I)Z", sig := { parameters := [.int], returnType := some .boolean }, accessFlags := 9, code := some k1c1 }
/-- com/example/newt/newt/core/jobs/JobStatusHasEndedPinLaw -/
def k1 : Class := { plain "com/example/newt/newt/core/jobs/JobStatusHasEndedPinLaw" (some 0) with
  accessFlags := 49
  interfaces := #[]
  cf := some (fileOf pool1 30 #[] #[{ accessFlags := 1, nameIndex := 5, descriptorIndex := 6, attributes := #[] }, { accessFlags := 9, nameIndex := 34, descriptorIndex := 35, attributes := #[] }] 49 2 #[] #[])
  fields := #[]
  methods := #[k1m0, k1m1]
  instanceTypes := #[]
  staticTypes := #[]
  resolved := Array.replicate 41 none
  statics := none }

def pool2 : Array CpInfo := pool [(1, .class_ 2), (0, u "java/lang/constant/Constable"), (0, .class_ 4), (0, u "java/lang/Object")] 6

/-- java/lang/constant/Constable -/
def k2 : Class := { plain "java/lang/constant/Constable" (some 0) with
  accessFlags := 1537
  interfaces := #[]
  cf := some (fileOf pool2 1 #[] #[] 1537 3 #[] #[])
  fields := #[]
  methods := #[]
  instanceTypes := #[]
  staticTypes := #[]
  resolved := Array.replicate 11 none
  statics := none }

def pool3 : Array CpInfo := pool [(1, .class_ 2), (0, u "java/lang/Comparable"), (0, .class_ 4), (0, u "java/lang/Object")] 7

/-- java/lang/Comparable -/
def k3 : Class := { plain "java/lang/Comparable" (some 0) with
  accessFlags := 1537
  interfaces := #[]
  cf := some (fileOf pool3 1 #[] #[] 1537 3 #[] #[])
  fields := #[]
  methods := #[]
  instanceTypes := #[]
  staticTypes := #[]
  resolved := Array.replicate 12 none
  statics := none }

def pool4 : Array CpInfo := pool [(1, .class_ 2), (0, u "java/io/Serializable"), (0, .class_ 4), (0, u "java/lang/Object")] 2

/-- java/io/Serializable -/
def k4 : Class := { plain "java/io/Serializable" (some 0) with
  accessFlags := 1537
  interfaces := #[]
  cf := some (fileOf pool4 1 #[] #[] 1537 3 #[] #[])
  fields := #[]
  methods := #[]
  instanceTypes := #[]
  staticTypes := #[]
  resolved := Array.replicate 7 none
  statics := none }

def pool5 : Array CpInfo := pool [(2, .class_ 4), (1, u "java/lang/Enum"), (0, u "name"), (0, u "Ljava/lang/String;"), (2, u "ordinal"), (0, u "I"), (1, .class_ 14), (1, u "java/lang/Object"), (4, u "hash"), (86, .class_ 108), (1, u "java/lang/Enum$EnumDesc"), (2, .class_ 112), (0, u "java/lang/constant/Constable"), (0, .class_ 114), (0, u "java/lang/Comparable"), (0, .class_ 116), (0, u "java/io/Serializable")] 87

/-- java/lang/Enum -/
def k5 : Class := { plain "java/lang/Enum" (some 0) with
  accessFlags := 1057
  interfaces := #[2, 3, 4]
  cf := some (fileOf pool5 2 #[.nestMembers #[106]] #[] 1057 12 #[111, 113, 115] #[{ accessFlags := 18, nameIndex := 5, descriptorIndex := 6, attributes := #[] }, { accessFlags := 18, nameIndex := 9, descriptorIndex := 10, attributes := #[] }, { accessFlags := 2, nameIndex := 19, descriptorIndex := 10, attributes := #[] }])
  fields := #[{ name := "name", type := (.object "java/lang/String"), accessFlags := 18, slot := 0, constantValue := 0 }, { name := "ordinal", type := .int, accessFlags := 18, slot := 1, constantValue := 0 }, { name := "hash", type := .int, accessFlags := 2, slot := 2, constantValue := 0 }]
  methods := #[]
  instanceTypes := #[(.object "java/lang/String"), .int, .int]
  staticTypes := #[]
  resolved := Array.replicate 204 none
  statics := none }

def pool6 : Array CpInfo := pool [(1, .class_ 2), (0, u "com/example/newt/newt/core/jobs/JobStatus"), (2, u "SUBMITTED"), (0, u "Lcom/example/newt/newt/core/jobs/JobStatus;"), (2, u "IN_PROGRESS"), (0, .fieldref 1 11), (0, .nameAndType 12 6), (0, u "COMPLETED"), (0, .fieldref 1 14), (0, .nameAndType 15 6), (0, u "FAILED"), (0, .fieldref 1 17), (0, .nameAndType 18 6), (0, u "CANCELLED"), (2, u "$VALUES"), (0, u "[Lcom/example/newt/newt/core/jobs/JobStatus;"), (6, .class_ 31), (1, u "java/lang/Enum"), (47, u "hasEnded"), (0, u "()Z")] 7

def k6c0 : Code := { maxStack := 2, maxLocals := 1, code := prog_26_method_5_code, exceptionTable := #[], attributes := #[] }
def k6m0 : Method := { name := "hasEnded", desc := "()Z", sig := { parameters := [], returnType := some .boolean }, accessFlags := 1, code := some k6c0 }
/-- com/example/newt/newt/core/jobs/JobStatus -/
def k6 : Class := { plain "com/example/newt/newt/core/jobs/JobStatus" (some 5) with
  accessFlags := 16433
  interfaces := #[]
  cf := some (fileOf pool6 1 #[] #[{ accessFlags := 1, nameIndex := 79, descriptorIndex := 80, attributes := #[] }] 16433 29 #[] #[{ accessFlags := 16409, nameIndex := 5, descriptorIndex := 6, attributes := #[] }, { accessFlags := 16409, nameIndex := 9, descriptorIndex := 6, attributes := #[] }, { accessFlags := 16409, nameIndex := 12, descriptorIndex := 6, attributes := #[] }, { accessFlags := 16409, nameIndex := 15, descriptorIndex := 6, attributes := #[] }, { accessFlags := 16409, nameIndex := 18, descriptorIndex := 6, attributes := #[] }, { accessFlags := 4122, nameIndex := 21, descriptorIndex := 22, attributes := #[] }])
  fields := #[{ name := "SUBMITTED", type := (.object "com/example/newt/newt/core/jobs/JobStatus"), accessFlags := 16409, slot := 0, constantValue := 0 }, { name := "IN_PROGRESS", type := (.object "com/example/newt/newt/core/jobs/JobStatus"), accessFlags := 16409, slot := 1, constantValue := 0 }, { name := "COMPLETED", type := (.object "com/example/newt/newt/core/jobs/JobStatus"), accessFlags := 16409, slot := 2, constantValue := 0 }, { name := "FAILED", type := (.object "com/example/newt/newt/core/jobs/JobStatus"), accessFlags := 16409, slot := 3, constantValue := 0 }, { name := "CANCELLED", type := (.object "com/example/newt/newt/core/jobs/JobStatus"), accessFlags := 16409, slot := 4, constantValue := 0 }, { name := "$VALUES", type := (.array (.object "com/example/newt/newt/core/jobs/JobStatus")), accessFlags := 4122, slot := 5, constantValue := 0 }]
  methods := #[k6m0]
  instanceTypes := #[(.object "java/lang/String"), .int, .int]
  staticTypes := #[(.object "com/example/newt/newt/core/jobs/JobStatus"), (.object "com/example/newt/newt/core/jobs/JobStatus"), (.object "com/example/newt/newt/core/jobs/JobStatus"), (.object "com/example/newt/newt/core/jobs/JobStatus"), (.object "com/example/newt/newt/core/jobs/JobStatus"), (.array (.object "com/example/newt/newt/core/jobs/JobStatus"))]
  resolved := Array.replicate 88 none
  statics := some 0 }

def pool7 : Array CpInfo := pool [(1, u "java/lang/Cloneable"), (0, .class_ 1), (0, u "java/lang/Object"), (0, .class_ 3)] 3

/-- java/lang/Cloneable -/
def k7 : Class := { plain "java/lang/Cloneable" (some 0) with
  accessFlags := 1537
  interfaces := #[]
  cf := some (fileOf pool7 2 #[] #[] 1537 4 #[] #[])
  fields := #[]
  methods := #[]
  instanceTypes := #[]
  staticTypes := #[]
  resolved := Array.replicate 8 none
  statics := none }

/-- the primitive byte -/
def k8 : Class := { plain "byte" none with kind := .primitive 'B', accessFlags := 0x411 }
/-- [B -/
def k9 : Class := { plain "[B" (some 0) with kind := .array 8 .byte, interfaces := #[7, 4], accessFlags := 1041 }

/-- the primitive int -/
def k10 : Class := { plain "int" none with kind := .primitive 'I', accessFlags := 0x411 }
/-- [I -/
def k11 : Class := { plain "[I" (some 0) with kind := .array 10 .int, interfaces := #[7, 4], accessFlags := 1041 }

/-- [Lcom/example/newt/newt/core/jobs/JobStatus; -/
def k12 : Class := { plain "[Lcom/example/newt/newt/core/jobs/JobStatus;" (some 0) with kind := .array 6 (.object "com/example/newt/newt/core/jobs/JobStatus"), interfaces := #[7, 4], accessFlags := 1041 }

def heap : Heap := #[{ cls := 6, slots := #[.ref 1, .ref 2, .ref 3, .ref 4, .ref 5, .null], vm := .statics 6 },
  { cls := 6, slots := #[.null, .int 0, .int 0], vm := .none },
  { cls := 6, slots := #[.null, .int 1, .int 0], vm := .none },
  { cls := 6, slots := #[.null, .int 2, .int 0], vm := .none },
  { cls := 6, slots := #[.null, .int 3, .int 0], vm := .none },
  { cls := 6, slots := #[.null, .int 4, .int 0], vm := .none }]
def classes : Array Class := #[k0, k1, k2, k3, k4, k5, k6, k7, k8, k9, k10, k11, k12]
def interned : List (Array UInt16 × Addr) := []
def slotsUsed : Nat := 21
def theMethod : MethodId := ⟨1, 1⟩
def args0 : Array Value := #[.int 0]
def aboutOver (below : List Frame) : State where
  vm := { classes := classes, interned := interned.toArray }
  heap := heap
  slotsUsed := slotsUsed
  threads := #[{ frames := .invoking theMethod args0 :: below }]
def below0 : List Frame := [.native { method := ⟨0, 0⟩, args := #[] }]
def about1 : State := aboutOver below0
def p0 : Program := .bare "" "" ""
def e0 : Env := launch0.env 0 0 0
theorem w_frames : about1.frames = Frame.invoking theMethod args0 :: below0 := rfl
set_option maxRecDepth 65536 in
theorem w_args : argsFit about1.vm theMethod args0 = true := by decide +kernel
set_option maxRecDepth 65536 in
theorem w_heap : heapFits about1 = true := by decide +kernel
set_option maxRecDepth 65536 in
theorem w_runnable : about1.curStatus? = some .runnable := by decide +kernel
set_option maxRecDepth 65536 in
theorem w_alone : about1.alone = true := by decide +kernel
set_option maxRecDepth 65536 in
theorem w_named : about1.methodNamed? x = some theMethod := by decide +kernel
set_option maxRecDepth 65536 in
theorem w_hears : about1.hears theMethod below0 = true := by decide +kernel
set_option maxRecDepth 65536 in
theorem w_ripe : about1.ripe theMethod args0 below0 = true := by decide +kernel
theorem w_running : about1.status = .running := rfl
set_option maxRecDepth 65536 in
theorem w_room : about1.hasRoom e0.platform room_1 = true :=
  launch0.hasRoom_least _ room_1 (by decide +kernel) (by decide +kernel) (by decide +kernel) (by decide +kernel) (by decide +kernel) (by decide +kernel)
theorem allAtoms_all (ts : List Jvm.Cond) (a : Array Jvm.Value) (st : Jvm.State) : (allAtoms ts).before a st = ts.all (fun c => c.before a st) := by
  induction ts with
  | nil => rfl
  | cons c t ih =>
    show (Jvm.Cond.and c (allAtoms t)).before a st = _
    rw [Jvm.Cond.before_and, ih, List.all_cons]
def words1 : List Jvm.Cond := Jvm.Cond.code x code maxLocals ret :: tables_1
/-- a 'code' word, met by the world's own term for the bytes: nothing is compared byte by byte -/
theorem code_word {y : MethodName} {bytes : ByteArray} {mx : Nat} {rt : Option FieldType} {a : Array Value} {s : State} {m : MethodId} {meth : Method} {c : Code} (h1 : s.methodNamed? y = some m) (h2 : s.vm.method? m = some meth) (h3 : meth.code = some c) (h4 : c.code = bytes)
    (h5 : (c.maxLocals == mx && c.exceptionTable.isEmpty && decide (c.maxStack ≤ mostOperands) && decide (meth.sig.returnType = rt) && !meth.locks && decide (parseMethodDescriptor y.desc = some meth.sig)) = true) : (Jvm.Cond.code y bytes mx rt).before a s = true := by
  simp only [Bool.and_eq_true, beq_iff_eq, Bool.not_eq_true', decide_eq_true_eq] at h5
  obtain ⟨⟨⟨⟨⟨g1, g2⟩, g3⟩, g4⟩, g5⟩, g6⟩ := h5
  simp [Cond.before, Cond.holds, Cond.value, h1, h2, h3, h4, g1, g2, g3, g4, g5, g6]
def isCode : Jvm.Cond → Bool
  | .code _ _ _ _ => true
  | _ => false
theorem all_split {L : List Jvm.Cond} {P : Jvm.Cond → Bool} (h1 : L.all (fun c => isCode c || P c) = true) (h2 : ∀ c ∈ L.filter isCode, P c = true) : L.all P = true := by
  refine List.all_eq_true.mpr fun c hc => ?_
  have h := List.all_eq_true.mp h1 c hc
  rcases Bool.eq_false_or_eq_true (isCode c) with hi | hi
  · exact h2 c (List.mem_filter.mpr ⟨hc, hi⟩)
  · simpa [hi] using h
set_option maxRecDepth 65536 in
theorem w_c0 : (Jvm.Cond.code x code maxLocals ret).before args0 about1 = true := code_word (m := ⟨1, 1⟩) (meth := k1m1) (c := k1c1) (by decide +kernel) rfl rfl rfl (by decide +kernel)
set_option maxRecDepth 65536 in
theorem w_c1 : (Jvm.Cond.code ({ cls := "com/example/newt/newt/core/jobs/JobStatus", name := "hasEnded", desc := "()Z" } : Jvm.MethodName) prog_26_method_5_code (1 : Nat) (Option.some Jvm.ClassFile.FieldType.boolean)).before args0 about1 = true := code_word (m := ⟨6, 0⟩) (meth := k6m0) (c := k6c0) (by decide +kernel) rfl rfl rfl (by decide +kernel)
def codes1 : List Jvm.Cond := [Jvm.Cond.code x code maxLocals ret, Jvm.Cond.code ({ cls := "com/example/newt/newt/core/jobs/JobStatus", name := "hasEnded", desc := "()Z" } : Jvm.MethodName) prog_26_method_5_code (1 : Nat) (Option.some Jvm.ClassFile.FieldType.boolean)]
set_option maxRecDepth 65536 in
theorem codes_eq : words1.filter isCode = codes1 := rfl
theorem w_codes : ∀ c ∈ words1.filter isCode, c.before args0 about1 = true := by
  rw [codes_eq]
  intro c hc
  simp only [codes1, List.mem_cons, List.not_mem_nil, or_false] at hc
  rcases hc with rfl | rfl
  · exact w_c0
  · exact w_c1
set_option maxRecDepth 65536 in
theorem w_t1 : words1.all (fun c => isCode c || c.before args0 about1) = true := by decide +kernel
theorem w_tables : (allAtoms (Jvm.Cond.code x code maxLocals ret :: tables_1)).before args0 about1 = true := by
  rw [allAtoms_all]
  show words1.all (fun c => c.before args0 about1) = true
  refine all_split ?_ w_codes
  rw [w_t1]
set_option maxRecDepth 65536 in
theorem w_case : (Jvm.Cond.and given_1 narrow_1).before args0 about1 = true := by decide +kernel
theorem w_applies : (headSpec (Jvm.Cond.code x code maxLocals ret :: tables_1) room_1).applies x e0.platform about1 = true :=
  (Spec.applies_iff w_frames).mpr ⟨w_running, w_runnable, w_alone, w_named, w_hears, w_ripe, w_room, w_tables⟩
theorem atStart : AtStart classFile x code maxLocals ret World_1 tables_1 room_1 Calls_1 rest_1 Pre_1 launch0 p0 e0 about1 theMethod args0 below0 :=
  ⟨lists_1, trivial, launch0.admits_env _ _ _, launch0.least_env, fairChoices_fair.cas, fairChoices_fair.clock, w_frames, w_args, w_heap, w_applies, trivial, trivial, w_case⟩
end start1
theorem witness_1 : WitnessClaimed_1 := ⟨start1.p0, start1.e0, start1.about1, start1.theMethod, start1.args0, start1.below0, start1.atStart⟩
end Jvm.Pilot.@@N@@
