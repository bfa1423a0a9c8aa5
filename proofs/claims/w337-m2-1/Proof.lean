import JvmDerived
import JvmDerived.Pilot.@@N@@Statement
import JvmDerived.Pilot.@@N@@Code
set_option linter.unusedVariables false
set_option linter.unusedSimpArgs false
namespace Jvm.RoadKit
open Sem ClassFile Op Lib Jvm.Stand Jvm.Free Jvm.LawKit
section OwnKit
variable {p : Program} {l : Launch} {e : Env} {R : Room} {s : State} {m : MethodId} {args : Array Value} {below : List Frame} {meth : Method} {c : Code} {T : State} {locs : List Loc} {cells slots : Nat} {Z : State} {a0 : Array Value} {h : Heap}
abbrev OwnP : Type := Option Value → Heap → List Loc → Prop
/-- from the state A the run comes back with what P says -/
def OwnG (tb : Tables) (e : Env) (below : List Frame) (s : State) (P : OwnP) (rc rs : Nat) (A : State) : Prop :=
  ∃ s₂ o, Steps tb e below A s₂ ∧ s₂.status = .running ∧ Ended s₂ below o ∧ ∃ v L, o = .returned v ∧ P v s₂.heap L ∧ FrameEnd s o s₂ L rc rs
theorem own_go {tb : Tables} {P : OwnP} {rc rs : Nat} {A : State} (T' : State) (m' : MethodId) (pc : Nat) (Ls : Array Slot) (st : List Value) (f : ∀ t, Steps tb e below (T'.setTop (mkF m' pc Ls st)) t → Steps tb e below A t) (k : OwnG tb e below s P rc rs (T'.setTop (mkF m' pc Ls st))) : OwnG tb e below s P rc rs A := by
  obtain ⟨s₂, o, h1, h2⟩ := k
  exact ⟨s₂, o, f _ h1, h2⟩
theorem own_mono {tb : Tables} {P P' : OwnP} {rc rs : Nat} {A : State} (f : ∀ v h L, P v h L → P' v h L) (k : OwnG tb e below s P rc rs A) : OwnG tb e below s P' rc rs A := by
  obtain ⟨s₂, o, h1, h2, h3, v, L, h4, h5, h6⟩ := k
  exact ⟨s₂, o, h1, h2, h3, v, L, h4, f _ _ _ h5, h6⟩
/-- what a walk knows of the body -/
def OwnX (Z : State) (p : Program) (s : State) (m : MethodId) (meth : Method) (c : Code) (bytes : ByteArray) (maxL : Nat) (ret : Option FieldType) (own nm : String) : Prop :=
  p.tables.exec = Jvm.exec ∧ c.code = bytes ∧ c.maxLocals = maxL ∧ s.vm.findClass own = some m.cls ∧ meth.name = nm ∧ meth.sig.returnType = ret ∧ meth.locks = false ∧ Z.Warmed39 s.vm
/-- a body's contract -/
abbrev OwnC (l : Launch) (Z : State) (y : MethodName) (bytes : ByteArray) (maxL : Nat) (ret : Option FieldType) (ws : List Cond) (rm : Room) (as' : Array Value) (h0 : Heap) (P : OwnP) : Prop :=
  MetFree l y (head1 (Cond.code y bytes maxL ret :: ws) rm) (fun a U => a = as' ∧ Z.Warmed39 U.vm ∧ U.heap = h0) (fun _ _ _ _ _ => True) (fun _ U o U' => ∃ v L, o = .returned v ∧ P v U'.heap L ∧ FrameEnd U o U' L rm.cells rm.slots)
theorem own_entry {y : MethodName} {bytes : ByteArray} {maxL : Nat} {ret : Option FieldType} {ws : List Cond} {rm : Room} {as' : Array Value} {h0 : Heap} {P : OwnP} {Ls : Array Slot} (hpl : plainFor y = true) (ef : ∀ m, entryFrame m as' maxL = mkF m 0 Ls [])
    (body : ∀ (p : Program) (e : Env) (s : State) (m : MethodId) (below : List Frame) (meth : Method) (c : Code) (T : State), Stand p l e rm s m as' below meth c T [] 0 0 → OwnX Z p s m meth c bytes maxL ret y.cls y.name → T.heap = h0 → OwnG p.tables e below s P rm.cells rm.slots (T.setTop (mkF m 0 Ls []))) :
    OwnC l Z y bytes maxL ret ws rm as' h0 P := by
  refine MetFree.of_bodySF hpl hisR ?_
  intro p e s m args below meth c s₁ Bd hml0 hP hK
  obtain ⟨rfl, hZ, hh⟩ := hP
  have e0 : s₁.heap = h0 := by rw [← hh, Bd.state]; rfl
  obtain ⟨s₂, o, h1, h2⟩ := body p e s m below meth c s₁ (Stand.of_body Bd) ⟨Bd.exec, Bd.bytes, hml0, findClass_of_methodNamed Bd.named, (name_of_methodNamed Bd.named Bd.method).1, Bd.returns, Bd.notSynchronized, hZ⟩ e0
  exact ⟨s₂, o, castTop (ef m) h1, h2⟩
theorem own_ret {P : OwnP} {rc rs : Nat} (X : Stand p l e R s m args below meth c T locs cells slots) (hx : p.tables.exec = Jvm.exec) (hlk : meth.locks = false) {pc : Nat} {Ls : Array Slot} {w : Value} {t : FieldType} {i : Instr} {rest : List Value} (hret : meth.sig.returnType = some t) (hn : narrow t w = w)
    (hi : (i = .ireturn ∧ (t = .int ∨ t = .boolean ∨ t = .byte ∨ t = .char ∨ t = .short) ∧ ∃ z, w = .int z) ∨ (i = .lreturn ∧ t = .long ∧ ∃ z, w = .long z) ∨ (i = .dreturn ∧ t = .double ∧ ∃ z, w = .double z) ∨ (i = .freturn ∧ t = .float ∧ ∃ z, w = .float z) ∨ (i = .areturn ∧ t.isReference = true ∧ w.isRef = true))
    (hd : decode c.code pc = .ok (i, 1)) (hc : cells ≤ rc) (hs : slots ≤ rs) (hP : P (some w) T.heap locs) : OwnG p.tables e below s P rc rs (T.setTop (mkF m pc Ls (w :: rest))) := by
  obtain ⟨fs, hr, hrun, hended, hW, hsame⟩ := X.leave (v := some w) (fun h => by rw [hret] at h; cases h) hlk
  exact ⟨_, _, retOut X hx hret hn hi hd hr, hrun, hended, _, _, rfl, hP, ⟨_, rfl⟩, hW, hsame.mono hc hs⟩
theorem own_retI {P : OwnP} {rc rs : Nat} (X : Stand p l e R s m args below meth c T locs cells slots) (hx : p.tables.exec = Jvm.exec) (hlk : meth.locks = false) {pc : Nat} {Ls : Array Slot} {z : Int32} {rest : List Value} (hret : meth.sig.returnType = some .int)
    (hd : decode c.code pc = .ok (.ireturn, 1)) (hc : cells ≤ rc) (hs : slots ≤ rs) (hP : P (some (.int z)) T.heap locs) : OwnG p.tables e below s P rc rs (T.setTop (mkF m pc Ls (.int z :: rest))) :=
  own_ret X hx hlk hret rfl (Or.inl ⟨rfl, Or.inl rfl, z, rfl⟩) hd hc hs hP
theorem own_retZ {P : OwnP} {rc rs : Nat} (X : Stand p l e R s m args below meth c T locs cells slots) (hx : p.tables.exec = Jvm.exec) (hlk : meth.locks = false) {pc : Nat} {Ls : Array Slot} {z : Int32} {rest : List Value} (hret : meth.sig.returnType = some .boolean) (hz : z = 0 ∨ z = 1)
    (hd : decode c.code pc = .ok (.ireturn, 1)) (hc : cells ≤ rc) (hs : slots ≤ rs) (hP : P (some (.int z)) T.heap locs) : OwnG p.tables e below s P rc rs (T.setTop (mkF m pc Ls (.int z :: rest))) :=
  own_ret X hx hlk hret (by rcases hz with rfl | rfl <;> rfl) (Or.inl ⟨rfl, Or.inr (Or.inl rfl), z, rfl⟩) hd hc hs hP
theorem own_retB {P : OwnP} {rc rs : Nat} (X : Stand p l e R s m args below meth c T locs cells slots) (hx : p.tables.exec = Jvm.exec) (hlk : meth.locks = false) {pc : Nat} {Ls : Array Slot} {z : Int32} {rest : List Value} (hret : meth.sig.returnType = some .byte) (hz : narrow .byte (.int z) = .int z)
    (hd : decode c.code pc = .ok (.ireturn, 1)) (hc : cells ≤ rc) (hs : slots ≤ rs) (hP : P (some (.int z)) T.heap locs) : OwnG p.tables e below s P rc rs (T.setTop (mkF m pc Ls (.int z :: rest))) :=
  own_ret X hx hlk hret hz (Or.inl ⟨rfl, Or.inr (Or.inr (Or.inl rfl)), z, rfl⟩) hd hc hs hP
theorem own_retJ {P : OwnP} {rc rs : Nat} (X : Stand p l e R s m args below meth c T locs cells slots) (hx : p.tables.exec = Jvm.exec) (hlk : meth.locks = false) {pc : Nat} {Ls : Array Slot} {z : Int64} {rest : List Value} (hret : meth.sig.returnType = some .long)
    (hd : decode c.code pc = .ok (.lreturn, 1)) (hc : cells ≤ rc) (hs : slots ≤ rs) (hP : P (some (.long z)) T.heap locs) : OwnG p.tables e below s P rc rs (T.setTop (mkF m pc Ls (.long z :: rest))) :=
  own_ret X hx hlk hret rfl (Or.inr (Or.inl ⟨rfl, rfl, z, rfl⟩)) hd hc hs hP
theorem own_retA {P : OwnP} {rc rs : Nat} (X : Stand p l e R s m args below meth c T locs cells slots) (hx : p.tables.exec = Jvm.exec) (hlk : meth.locks = false) {pc : Nat} {Ls : Array Slot} {w : Value} {t : FieldType} {rest : List Value} (hret : meth.sig.returnType = some t) (hn : narrow t w = w) (ht : t.isReference = true) (hw : w.isRef = true)
    (hd : decode c.code pc = .ok (.areturn, 1)) (hc : cells ≤ rc) (hs : slots ≤ rs) (hP : P (some w) T.heap locs) : OwnG p.tables e below s P rc rs (T.setTop (mkF m pc Ls (w :: rest))) :=
  own_ret X hx hlk hret hn (Or.inr (Or.inr (Or.inr (Or.inr ⟨rfl, ht, hw⟩)))) hd hc hs hP
theorem own_retV {P : OwnP} {rc rs : Nat} (X : Stand p l e R s m args below meth c T locs cells slots) (hx : p.tables.exec = Jvm.exec) (hlk : meth.locks = false) {pc : Nat} {Ls : Array Slot} (hret : meth.sig.returnType = none)
    (hd : decode c.code pc = .ok (.return_, 1)) (hc : cells ≤ rc) (hs : slots ≤ rs) (hP : P none T.heap locs) : OwnG p.tables e below s P rc rs (T.setTop (mkF m pc Ls [])) := by
  obtain ⟨fs, hr, hrun, hended, hW, hsame⟩ := X.leave (v := none) (fun _ => rfl) hlk
  exact ⟨_, _, X.returnOut hx hret hd hr, hrun, hended, _, _, rfl, hP, ⟨_, rfl⟩, hW, hsame.mono hc hs⟩
theorem own_static (X : Stand p l e R s m args below meth c T locs cells slots) (hx : p.tables.exec = Jvm.exec) (hZ : Z.Warmed39 s.vm) {own : String} {index : Nat} {y : MethodName} {bytes : ByteArray} {maxL : Nat} {ret : Option FieldType} {rm : Room} {as' : Array Value} {P : OwnP}
    (hown : s.vm.findClass own = some m.cls) (w1 : (Cond.methodLink own index y).before a0 Z = true) (w2 : (Cond.static y).before a0 Z = true) (w3 : (Cond.initialized y.cls).before a0 Z = true) (w4 : (Cond.code y bytes maxL ret).before a0 Z = true) (hy : y.cls ≠ "java/lang/invoke/MethodHandle" ∧ y.cls ≠ "java/lang/invoke/VarHandle")
    (hM : OwnC l Z y bytes maxL ret [] rm as' h P) (eT : T.heap = h) {pc : Nat} {Ls : Array Slot} {argsL rest : List Value} (W : Nat) {st : List Value} (hsz : Ls.size = c.maxLocals) (hlen : ∀ sig, parseMethodDescriptor y.desc = some sig → argsL.length = sig.parameters.length) (has : argsL.toArray = as') (hst : st = argsL.reverse ++ rest) (hW : (rest.map fun v => v.category).sum ≤ W)
    (hd : decode c.code pc = .ok (.invokestatic index, 3)) (hf : rm.frames + 1 ≤ R.frames) (hl : W + (maxL + 11) + rm.locals ≤ R.locals) (hc : cells + rm.cells ≤ R.cells) (hs : slots + rm.slots ≤ R.slots) :
    ∃ v T' L, Stand p l e R s m args below meth c T' (locs ++ L) (cells + rm.cells) (slots + rm.slots) ∧ P v T'.heap L ∧ ∀ t, Steps p.tables e below (T'.setTop (mkF m (pc + 3) Ls (v.toList ++ rest))) t → Steps p.tables e below (T.setTop (mkF m pc Ls st)) t := by
  obtain ⟨v, vm₁, ⟨T', L', k', n'⟩, -, X', ⟨L, hQ, l1, l2, l3⟩, stp⟩ := Jvm.LawKit.callS X hx hown (mvT hZ w1) (mvT hZ w2) (mvT hZ w3) (mvT hZ w4) hy (backOf (W := W) hM hZ w4 w3 hf hl) (g := mkF m pc Ls st) rfl hsz (argsL := argsL) (rest := rest) hlen hst (by show 2 * 0 + _ ≤ _; omega) hd (fun _ _ => ⟨has, eT, hc, hs⟩)
  dsimp only [Pt.U, Pt.locs, Pt.cells, Pt.slots] at X' l1 l2 l3 stp hQ
  subst l1 l2 l3
  exact ⟨v, T', L, X', hQ, stp⟩
theorem own_init (X : Stand p l e R s m args below meth c T locs cells slots) (hx : p.tables.exec = Jvm.exec) (hZ : Z.Warmed39 s.vm) {own : String} {index : Nat} {y : MethodName} {bytes : ByteArray} {maxL : Nat} {rm : Room} {as' : Array Value} {P : OwnP} (hy1 : y.name = "<init>")
    (hown : s.vm.findClass own = some m.cls) (w1 : (Cond.methodLink own index y).before a0 Z = true) (w2 : (Cond.instanceMethod y).before a0 Z = true) (w3 : (Cond.initialized y.cls).before a0 Z = true) (w4 : (Cond.code y bytes maxL none).before a0 Z = true) (hy : y.cls ≠ "java/lang/invoke/MethodHandle" ∧ y.cls ≠ "java/lang/invoke/VarHandle")
    (hM : OwnC l Z y bytes maxL none [] rm as' h P) (eT : T.heap = h) {pc : Nat} {Ls : Array Slot} {a : Addr} {argsL rest : List Value} (W : Nat) {st : List Value} (hsz : Ls.size = c.maxLocals) (hlen : ∀ sig, parseMethodDescriptor y.desc = some sig → argsL.length = sig.parameters.length) (has : (.ref a :: argsL).toArray = as') (hst : st = argsL.reverse ++ .ref a :: rest) (hW : (rest.map fun v => v.category).sum ≤ W)
    (hd : decode c.code pc = .ok (.invokespecial index, 3)) (hf : rm.frames + 1 ≤ R.frames) (hl : W + (maxL + 11) + rm.locals ≤ R.locals) (hc : cells + rm.cells ≤ R.cells) (hs : slots + rm.slots ≤ R.slots) :
    ∃ v T' L, Stand p l e R s m args below meth c T' (locs ++ L) (cells + rm.cells) (slots + rm.slots) ∧ P v T'.heap L ∧ ∀ t, Steps p.tables e below (T'.setTop (mkF m (pc + 3) Ls (v.toList ++ rest))) t → Steps p.tables e below (T.setTop (mkF m pc Ls st)) t := by
  obtain ⟨v, vm₁, ⟨T', L', k', n'⟩, -, X', ⟨L, hQ, l1, l2, l3⟩, stp⟩ := X.specialBack hx hy1 hown (mvT hZ w1) (mvT hZ w2) (mvT hZ w4) hy (backOf (W := W) hM hZ w4 w3 hf hl) (g := mkF m pc Ls st) rfl hsz (Steps.refl _) (a := a) (argsL := argsL) (rest := rest) hlen hst (by show 2 * 0 + _ ≤ _; omega) hd (fun _ _ => ⟨has, eT, hc, hs⟩)
  dsimp only [Pt.U, Pt.locs, Pt.cells, Pt.slots] at X' l1 l2 l3 stp hQ
  subst l1 l2 l3
  exact ⟨v, T', L, X', hQ, fun t k => stp.trans k⟩
theorem own_virtual (X : Stand p l e R s m args below meth c T locs cells slots) (hx : p.tables.exec = Jvm.exec) (hZ : Z.Warmed39 s.vm) {own C : String} {index : Nat} {y z : MethodName} {bytes : ByteArray} {maxL : Nat} {ret : Option FieldType} {rm : Room} {as' : Array Value} {P : OwnP}
    (hown : s.vm.findClass own = some m.cls) (w1 : (Cond.methodLink own index y).before a0 Z = true) (w2 : (Cond.declares y).before a0 Z = true) (hnf : NotFace s y) (w5 : (Cond.selects C y z).before a0 Z = true) (w6 : (Cond.instanceMethod z).before a0 Z = true) (w3 : (Cond.initialized z.cls).before a0 Z = true) (w4 : (Cond.code z bytes maxL ret).before a0 Z = true) (hy : y.cls ≠ "java/lang/invoke/MethodHandle" ∧ y.cls ≠ "java/lang/invoke/VarHandle")
    (hM : OwnC l Z z bytes maxL ret [] rm as' h P) (eT : T.heap = h) {a : Addr} (E : Exa Z h a C) {pc : Nat} {Ls : Array Slot} {argsL rest : List Value} (W : Nat) {st : List Value} (hsz : Ls.size = c.maxLocals) (hlen : ∀ sig, parseMethodDescriptor y.desc = some sig → argsL.length = sig.parameters.length) (has : (.ref a :: argsL).toArray = as') (hst : st = argsL.reverse ++ .ref a :: rest) (hW : (rest.map fun v => v.category).sum ≤ W)
    (hd : decode c.code pc = .ok (.invokevirtual index, 3)) (hf : rm.frames + 1 ≤ R.frames) (hl : W + (maxL + 11) + rm.locals ≤ R.locals) (hc : cells + rm.cells ≤ R.cells) (hs : slots + rm.slots ≤ R.slots) :
    ∃ v T' L, Stand p l e R s m args below meth c T' (locs ++ L) (cells + rm.cells) (slots + rm.slots) ∧ P v T'.heap L ∧ ∀ t, Steps p.tables e below (T'.setTop (mkF m (pc + 3) Ls (v.toList ++ rest))) t → Steps p.tables e below (T.setTop (mkF m pc Ls st)) t := by
  obtain ⟨cq, kq, qa, qb, qc⟩ := isOf hZ eT E
  obtain ⟨v, vm₁, ⟨T', L', k', n'⟩, -, X', ⟨L, hQ, l1, l2, l3⟩, stp⟩ := X.virtualBack hx (y := y) (z := z) hown (mvT hZ w1) (mvT hZ w2) hnf (mvT hZ w5) (mvT hZ w6) hy (backOf (W := W) hM hZ w4 w3 hf hl) qa qc (g := mkF m pc Ls st) rfl hsz (Steps.refl _) (argsL := argsL) (rest := rest) hlen hst (by show 2 * 0 + _ ≤ _; omega) hd (fun _ _ => ⟨has, eT, hc, hs⟩)
  dsimp only [Pt.U, Pt.locs, Pt.cells, Pt.slots] at X' l1 l2 l3 stp hQ
  subst l1 l2 l3
  exact ⟨v, T', L, X', hQ, fun t k => stp.trans k⟩
/-- a body that writes nothing and makes nothing -/
def OwnPure (w : Value) (h0 : Heap) : OwnP := fun v h L => v = some w ∧ h = h0 ∧ L = []
theorem own_nil (X : Stand p l e R s m args below meth c T (locs ++ []) cells slots) : Stand p l e R s m args below meth c T locs cells slots := by rwa [List.append_nil] at X
theorem own_iaload (X : Stand p l e R s m args below meth c T locs cells slots) (hx : p.tables.exec = Jvm.exec) (hZ : Z.Warmed39 s.vm) (eT : T.heap = h) {a : Addr} {k : ClassId} {n : Int32} {vs : List Value} {dv : Value} (V : Arv Z h a k .int n vs dv) {j x : Int32} (hj : ¬ j < 0 ∧ j < n) (hv : vs.getD j.toNatClampNeg dv = .int x)
    {pc : Nat} {Ls : Array Slot} {rest : List Value} (hd : decode c.code pc = .ok (.iaload, 1)) : ∀ t, Steps p.tables e below (T.setTop (mkF m (pc + 1) Ls (.int x :: rest))) t → Steps p.tables e below (T.setTop (mkF m pc Ls (.int j :: .ref a :: rest))) t := by
  obtain ⟨cl, A, -, S, -, H, -⟩ := V
  exact fun t k => X.iaload hx (by rw [eT]; exact A.1) (State.isArrayOf_alike hZ.alike A.2.1) A.2.2 (inb_of S hj) (H.at (inb_of S hj) hv) (g := mkF m pc Ls (.int j :: .ref a :: rest)) rfl rfl hd t k
theorem own_baload (X : Stand p l e R s m args below meth c T locs cells slots) (hx : p.tables.exec = Jvm.exec) (hZ : Z.Warmed39 s.vm) (eT : T.heap = h) {a : Addr} {k : ClassId} {n : Int32} {vs : List Value} {dv : Value} (V : Arv Z h a k .byte n vs dv) {j x : Int32} (hj : ¬ j < 0 ∧ j < n) (hv : vs.getD j.toNatClampNeg dv = .int x)
    {pc : Nat} {Ls : Array Slot} {rest : List Value} (hd : decode c.code pc = .ok (.baload, 1)) : ∀ t, Steps p.tables e below (T.setTop (mkF m (pc + 1) Ls (.int x :: rest))) t → Steps p.tables e below (T.setTop (mkF m pc Ls (.int j :: .ref a :: rest))) t := by
  obtain ⟨cl, A, -, S, -, H, -⟩ := V
  exact fun t k => X.baloadBytes hx (by rw [eT]; exact A.1) (State.isArrayOf_alike hZ.alike A.2.1) A.2.2 (inb_of S hj) (H.at (inb_of S hj) hv) (g := mkF m pc Ls (.int j :: .ref a :: rest)) rfl rfl hd t k
theorem own_aaload (X : Stand p l e R s m args below meth c T locs cells slots) (hx : p.tables.exec = Jvm.exec) (hZ : Z.Warmed39 s.vm) (eT : T.heap = h) {a : Addr} {k : ClassId} {ty : FieldType} {n : Int32} {vs : List Value} {dv : Value} (V : Arv Z h a k ty n vs dv) (hty : ty.isReference = true) {j : Int32} {w : Value} (hj : ¬ j < 0 ∧ j < n) (hv : vs.getD j.toNatClampNeg dv = w)
    {pc : Nat} {Ls : Array Slot} {rest : List Value} (hd : decode c.code pc = .ok (.aaload, 1)) : ∀ t, Steps p.tables e below (T.setTop (mkF m (pc + 1) Ls (w :: rest))) t → Steps p.tables e below (T.setTop (mkF m pc Ls (.int j :: .ref a :: rest))) t := by
  obtain ⟨cl, A, -, S, -, H, -⟩ := V
  exact fun t k => X.aaload hx (by rw [eT]; exact A.1) (State.isArrayOf_alike hZ.alike A.2.1) hty A.2.2 (inb_of S hj) (H.at (inb_of S hj) hv) (g := mkF m pc Ls (.int j :: .ref a :: rest)) rfl rfl hd t k
theorem own_alen (X : Stand p l e R s m args below meth c T locs cells slots) (hx : p.tables.exec = Jvm.exec) (hZ : Z.Warmed39 s.vm) (eT : T.heap = h) {a : Addr} {k : ClassId} {ty : FieldType} {n : Int32} {vs : List Value} {dv : Value} (V : Arv Z h a k ty n vs dv)
    {pc : Nat} {Ls : Array Slot} {rest : List Value} (hd : decode c.code pc = .ok (.arraylength, 1)) : ∀ t, Steps p.tables e below (T.setTop (mkF m (pc + 1) Ls (.int n :: rest))) t → Steps p.tables e below (T.setTop (mkF m pc Ls (.ref a :: rest))) t := by
  obtain ⟨cl, A, -, S, N, H, -⟩ := V
  intro t q
  refine X.arraylength hx (by rw [eT]; exact A.1) (State.isArrayOf_alike hZ.alike A.2.1) (g := mkF m pc Ls (.ref a :: rest)) rfl rfl hd t ?_
  rw [len_of S N]
  exact q
theorem own_iastore (X : Stand p l e R s m args below meth c T locs cells slots) (hx : p.tables.exec = Jvm.exec) (hZ : Z.Warmed39 s.vm) (eT : T.heap = h) {a : Addr} {k : ClassId} {n : Int32} {vs : List Value} {dv : Value} (V : Arv Z h a k .int n vs dv) {j x : Int32} (hj : ¬ j < 0 ∧ j < n) (i : Nat) (hi : j.toNatClampNeg = i) (hl : i < vs.length)
    {pc : Nat} {Ls : Array Slot} {rest : List Value} (hd : decode c.code pc = .ok (.iastore, 1)) : ∃ T' h', Stand p l e R s m args below meth c T' (locs ++ [⟨a, i⟩]) cells slots ∧ T'.heap = h' ∧ Wr h h' a i (.int x) ∧ Arv Z h' a k .int n (vs.set i (.int x)) dv ∧ ∀ t, Steps p.tables e below (T'.setTop (mkF m (pc + 1) Ls rest)) t → Steps p.tables e below (T.setTop (mkF m pc Ls (.int x :: .int j :: .ref a :: rest))) t := by
  obtain ⟨cl, A, q1, S, N, H, G⟩ := V
  obtain ⟨T', h', X', e', W', st⟩ := stI X hx hZ eT A (j := j) (x := x) (inb_of S hj) (g := mkF m pc Ls (.int x :: .int j :: .ref a :: rest)) rfl rfl hd
  have V' := Arv.set A q1 S N H G (v := .int x) rfl W' i hi hl
  rw [hi] at X' W'
  exact ⟨T', h', X', e', W', V', st⟩
theorem own_bastore (X : Stand p l e R s m args below meth c T locs cells slots) (hx : p.tables.exec = Jvm.exec) (hZ : Z.Warmed39 s.vm) (eT : T.heap = h) {a : Addr} {k : ClassId} {n : Int32} {vs : List Value} {dv : Value} (V : Arv Z h a k .byte n vs dv) {j x : Int32} (hj : ¬ j < 0 ∧ j < n) (i : Nat) (hi : j.toNatClampNeg = i) (hl : i < vs.length)
    {pc : Nat} {Ls : Array Slot} {rest : List Value} (hd : decode c.code pc = .ok (.bastore, 1)) : ∃ T' h', Stand p l e R s m args below meth c T' (locs ++ [⟨a, i⟩]) cells slots ∧ T'.heap = h' ∧ Wr h h' a i (.int x.toInt8.toInt32) ∧ Arv Z h' a k .byte n (vs.set i (.int x.toInt8.toInt32)) dv ∧ ∀ t, Steps p.tables e below (T'.setTop (mkF m (pc + 1) Ls rest)) t → Steps p.tables e below (T.setTop (mkF m pc Ls (.int x :: .int j :: .ref a :: rest))) t := by
  obtain ⟨cl, A, q1, S, N, H, G⟩ := V
  obtain ⟨T', h', X', e', W', st⟩ := stB X hx hZ eT A (j := j) (x := x) (inb_of S hj) (g := mkF m pc Ls (.int x :: .int j :: .ref a :: rest)) rfl rfl hd
  have V' := Arv.set A q1 S N H G (v := .int x.toInt8.toInt32) (fits_nar_byte x) W' i hi hl
  rw [hi] at X' W'
  exact ⟨T', h', X', e', W', V', st⟩
theorem own_aastore (X : Stand p l e R s m args below meth c T locs cells slots) (hx : p.tables.exec = Jvm.exec) (hZ : Z.Warmed39 s.vm) (eT : T.heap = h) {a : Addr} {k : ClassId} {ty : FieldType} {n : Int32} {vs : List Value} {dv : Value} (V : Arv Z h a k ty n vs dv) (hty : ty.isReference = true) {C : String} (O : Ovr Z k C) {y : Addr} (I : Ins Z h y C true) {j : Int32} (hj : ¬ j < 0 ∧ j < n) (i : Nat) (hi : j.toNatClampNeg = i) (hl : i < vs.length)
    {pc : Nat} {Ls : Array Slot} {rest : List Value} (hd : decode c.code pc = .ok (.aastore, 1)) : ∃ T' h', Stand p l e R s m args below meth c T' (locs ++ [⟨a, i⟩]) cells slots ∧ T'.heap = h' ∧ Wr h h' a i (.ref y) ∧ Arv Z h' a k ty n (vs.set i (.ref y)) dv ∧ ∀ t, Steps p.tables e below (T'.setTop (mkF m (pc + 1) Ls rest)) t → Steps p.tables e below (T.setTop (mkF m pc Ls (.ref y :: .int j :: .ref a :: rest))) t := by
  obtain ⟨cl, A, q1, S, N, H, G⟩ := V
  obtain ⟨T', h', X', e', W', st⟩ := stR X hx hZ eT A (j := j) (v := .ref y) (inb_of S hj) hty (Sto.ofV A q1 O I) (g := mkF m pc Ls (.ref y :: .int j :: .ref a :: rest)) rfl rfl hd
  have V' := Arv.set A q1 S N H G (v := .ref y) (by cases ty <;> first | rfl | (simp [FieldType.isReference] at hty)) W' i hi hl
  rw [hi] at X' W'
  exact ⟨T', h', X', e', W', V', st⟩
theorem own_lt_eq {x y : Int64} (h : x = y) : lcmpW x y = 0 := (lw_eq x y).mpr h
theorem own_rem_ne {x y : Int32} {target : State} {g : JFrame} (X : Stand p l e R s m args below meth c T locs cells slots) (hx : p.tables.exec = Jvm.exec) (hg : g.method = m) {rest : List Value} (hd : decode c.code g.pc = .ok (.irem, 1)) (hs : g.stack = .int y :: .int x :: rest) (hy : y ≠ 0)
    (hr : Steps p.tables e below (T.setTop { g with pc := g.pc + 1, stack := .int (x % y) :: rest }) target) : Steps p.tables e below (T.setTop g) target := iremM X hx hg hd hs hy hr
theorem own_lrem {x y : Int64} {target : State} {g : JFrame} (X : Stand p l e R s m args below meth c T locs cells slots) (hx : p.tables.exec = Jvm.exec) (hg : g.method = m) {rest : List Value} (hd : decode c.code g.pc = .ok (.lrem, 1)) (hs : g.stack = .long y :: .long x :: rest) (hy : y ≠ 0)
    (hr : Steps p.tables e below (T.setTop { g with pc := g.pc + 1, stack := .long (x % y) :: rest }) target) : Steps p.tables e below (T.setTop g) target := by
  refine XS.lrem X.here hx hg hd hs hy ?_
  rw [lrem_mod]
  exact hr
theorem own_fld_int {args : Array Value} {t : Term} {C n d : String} {k : Int32} {a : Addr} (ev : t.eval args Z none [] Z = some (.ref a)) (h : (Cond.eq (Term.field t C n d) (Term.int k)).value args Z none Z [] = some true) : Fld Z Z.heap a C n d (.int k) := by
  obtain ⟨x, y, h1, h2, h3, h4⟩ := cmp_v (Or.inl h)
  have hy : y = .int k := by rw [Term.int_eval] at h2; exact (Option.some.inj h2).symm
  subst hy
  obtain ⟨z, rfl⟩ : ∃ z, x = .int z := h4
  have hz : z = k := by simpa [Cond.value, h1, h2] using h
  subst hz
  rw [fld_at ev] at h1
  exact Fld.start h1
theorem own_sta_keep {C n d : String} {v : Value} {h' : Heap} (F : Sta Z h C n d v) (K : Keep h h' []) : Sta Z h' C n d v := by
  obtain ⟨cf, i, k, f, st, cell, h1, h2, h3, h4, h5, h6⟩ := F
  exact ⟨cf, i, k, f, st, cell, h1, h2, h3, h4, K.2.1 _ _ h5 nin0, h6⟩
/-- the objects of C are no K: C's superclasses are named, K is a class that has objects -/
theorem own_nsroot {O K : String} {n : Nat} (w : (Cond.noSuperclass O).before a0 Z = true) (wk : (Cond.instantiable K n).before a0 Z = true) (hn : O ≠ K) : NS Z O K := by
  obtain ⟨c, k, h1, h2, h3, -, -⟩ := Cond.noSuperclass_spec w
  obtain ⟨t, kt, g1, -⟩ := Cond.instantiable_spec wk
  have ne := ids_ne h1 g1 hn
  refine ⟨c, t, h1, g1, fun fuel => ?_⟩
  cases fuel with
  | zero => rfl
  | succ f => simp [Vm.isSubclassAux, ne, h2, h3]
theorem own_nsno {C S K : String} {n : Nat} (w : (Cond.superclass C S).before a0 Z = true) (wk : (Cond.instantiable K n).before a0 Z = true) (q : NS Z C K) (hn : C ≠ K) : ∃ c t, Z.vm.findClass C = some c ∧ Z.vm.findClass K = some t ∧ Z.vm.assignable c t = false := by
  obtain ⟨c, t, h0, g0, n3⟩ := q
  obtain ⟨p, k, kp, h1, h2, h3, h4, h5, -, h7⟩ := Cond.superclass_spec h0 w
  obtain ⟨t', kt, g1, g2, g3, g4, -⟩ := Cond.instantiable_spec wk
  cases g0.symm.trans g1
  have g5 : kt.isInterface = false := by
    cases hq : kt.isInterface with
    | false => rfl
    | true => rw [hq] at g4; simp at g4
  have ne := ids_ne h0 g0 hn
  refine ⟨c, t, h0, g0, ?_⟩
  show Z.vm.assignableAux (255 + 1) c t = false
  simp [Vm.assignableAux, ne, h2, g2, h5, g3, g5, Vm.isSubclass, n3]
theorem own_s16 (x : Int32) : x.toInt16.toInt32.toInt16.toInt32 = x.toInt16.toInt32 := by simp
theorem own_virtualUp (X : Stand p l e R s m args below meth c T locs cells slots) (hx : p.tables.exec = Jvm.exec) (hZ : Z.Warmed39 s.vm) {own C owner : String} {index : Nat} {x y : MethodName} {bytes : ByteArray} {maxL : Nat} {ret : Option FieldType} {rm : Room} {as' : Array Value} {P : OwnP}
    (hown : s.vm.findClass own = some m.cls) (w1 : (Cond.methodLink own index x).before a0 Z = true) (w2 : (Cond.sameMethod x.cls owner x.name x.desc).before a0 Z = true) (w7 : (Cond.declares ⟨owner, x.name, x.desc⟩).before a0 Z = true) (hy : owner ≠ "java/lang/invoke/MethodHandle" ∧ owner ≠ "java/lang/invoke/VarHandle") (w5 : (Cond.selects C x y).before a0 Z = true) (w6 : (Cond.instanceMethod y).before a0 Z = true) (w3 : (Cond.initialized y.cls).before a0 Z = true) (w4 : (Cond.code y bytes maxL ret).before a0 Z = true)
    (hM : OwnC l Z y bytes maxL ret [] rm as' h P) (eT : T.heap = h) {a : Addr} (E : Exa Z h a C) {pc : Nat} {Ls : Array Slot} {argsL rest : List Value} (W : Nat) {st : List Value} (hsz : Ls.size = c.maxLocals) (hlen : ∀ sig, parseMethodDescriptor x.desc = some sig → argsL.length = sig.parameters.length) (has : (.ref a :: argsL).toArray = as') (hst : st = argsL.reverse ++ .ref a :: rest) (hW : (rest.map fun v => v.category).sum ≤ W)
    (hd : decode c.code pc = .ok (.invokevirtual index, 3)) (hf : rm.frames + 1 ≤ R.frames) (hl : W + (maxL + 11) + rm.locals ≤ R.locals) (hc : cells + rm.cells ≤ R.cells) (hs : slots + rm.slots ≤ R.slots) :
    ∃ v T' L, Stand p l e R s m args below meth c T' (locs ++ L) (cells + rm.cells) (slots + rm.slots) ∧ P v T'.heap L ∧ ∀ t, Steps p.tables e below (T'.setTop (mkF m (pc + 3) Ls (v.toList ++ rest))) t → Steps p.tables e below (T.setTop (mkF m pc Ls st)) t := by
  obtain ⟨cq, kq, qa, qb, qc⟩ := isOf hZ eT E
  obtain ⟨v, vm₁, ⟨T', L', k', n'⟩, -, X', ⟨L, hQ, l1, l2, l3⟩, stp⟩ := X.virtualBackUp hx (x := x) (y := y) hown (mvT hZ w1) (mvT hZ w2) (mvT hZ w7) hy (mvT hZ w5) (mvT hZ w6) (backOf (W := W) hM hZ w4 w3 hf hl) qa qc (g := mkF m pc Ls st) rfl hsz (Steps.refl _) (argsL := argsL) (rest := rest) hlen hst (by show 2 * 0 + _ ≤ _; omega) hd (fun _ _ => ⟨has, eT, hc, hs⟩)
  dsimp only [Pt.U, Pt.locs, Pt.cells, Pt.slots] at X' l1 l2 l3 stp hQ
  subst l1 l2 l3
  exact ⟨v, T', L, X', hQ, fun t k => stp.trans k⟩
theorem own_castore (X : Stand p l e R s m args below meth c T locs cells slots) (hx : p.tables.exec = Jvm.exec) (hZ : Z.Warmed39 s.vm) (eT : T.heap = h) {a : Addr} {k : ClassId} {n : Int32} {vs : List Value} {dv : Value} (V : Arv Z h a k .char n vs dv) {j x : Int32} (hj : ¬ j < 0 ∧ j < n) (i : Nat) (hi : j.toNatClampNeg = i) (hl : i < vs.length)
    {pc : Nat} {Ls : Array Slot} {rest : List Value} (hd : decode c.code pc = .ok (.castore, 1)) : ∃ T' h', Stand p l e R s m args below meth c T' (locs ++ [⟨a, i⟩]) cells slots ∧ T'.heap = h' ∧ Wr h h' a i (.int x.toUInt32.toUInt16.toUInt32.toInt32) ∧ Arv Z h' a k .char n (vs.set i (.int x.toUInt32.toUInt16.toUInt32.toInt32)) dv ∧ ∀ t, Steps p.tables e below (T'.setTop (mkF m (pc + 1) Ls rest)) t → Steps p.tables e below (T.setTop (mkF m pc Ls (.int x :: .int j :: .ref a :: rest))) t := by
  obtain ⟨cl, A, q1, S, N, H, G⟩ := V
  obtain ⟨T', h', X', e', W', st⟩ := stC X hx hZ eT A (j := j) (x := x) (inb_of S hj) (g := mkF m pc Ls (.int x :: .int j :: .ref a :: rest)) rfl rfl hd
  have V' := Arv.set A q1 S N H G (v := .int x.toUInt32.toUInt16.toUInt32.toInt32) (fits_nar_char x) W' i hi hl
  rw [hi] at X' W'
  exact ⟨T', h', X', e', W', V', st⟩
theorem own_sta_keep1 {C n d C' : String} {v : Value} {h' : Heap} {a : Addr} (F : Sta Z h C n d v) (K : Keep h h' [a]) (E : Exa Z h a C') : Sta Z h' C n d v := by
  obtain ⟨cf, i, k, f, st, cell, h1, h2, h3, h4, h5, h6, h7⟩ := F
  obtain ⟨cell', k', e1, -, -, e4, -⟩ := E
  have hne : st ≠ a := fun q => by
    subst q
    cases h5.symm.trans e1
    rw [h6] at e4
    cases e4
  exact ⟨cf, i, k, f, st, cell, h1, h2, h3, h4, K.2.1 _ _ h5 (ninS hne nin0), h6, h7⟩
theorem own_private (X : Stand p l e R s m args below meth c T locs cells slots) (hx : p.tables.exec = Jvm.exec) (hZ : Z.Warmed39 s.vm) {own C : String} {index n : Nat} {y : MethodName} {bytes : ByteArray} {maxL : Nat} {ret : Option FieldType} {rm : Room} {as' : Array Value} {P : OwnP}
    (hown : s.vm.findClass own = some m.cls) (w1 : (Cond.methodLink own index y).before a0 Z = true) (w2 : (Cond.instanceMethod y).before a0 Z = true) (wp : (Cond.privateMethod y).before a0 Z = true) (wi : (Cond.instantiable y.cls n).before a0 Z = true) (w3 : (Cond.initialized y.cls).before a0 Z = true) (w4 : (Cond.code y bytes maxL ret).before a0 Z = true) (hy : y.cls ≠ "java/lang/invoke/MethodHandle" ∧ y.cls ≠ "java/lang/invoke/VarHandle")
    (hM : OwnC l Z y bytes maxL ret [] rm as' h P) (eT : T.heap = h) {a : Addr} (E : Exa Z h a C) {pc : Nat} {Ls : Array Slot} {argsL rest : List Value} (W : Nat) {st : List Value} (hsz : Ls.size = c.maxLocals) (hlen : ∀ sig, parseMethodDescriptor y.desc = some sig → argsL.length = sig.parameters.length) (has : (.ref a :: argsL).toArray = as') (hst : st = argsL.reverse ++ .ref a :: rest) (hW : (rest.map fun v => v.category).sum ≤ W)
    (hd : decode c.code pc = .ok (.invokevirtual index, 3)) (hf : rm.frames + 1 ≤ R.frames) (hl : W + (maxL + 11) + rm.locals ≤ R.locals) (hc : cells + rm.cells ≤ R.cells) (hs : slots + rm.slots ≤ R.slots) :
    ∃ v T' L, Stand p l e R s m args below meth c T' (locs ++ L) (cells + rm.cells) (slots + rm.slots) ∧ P v T'.heap L ∧ ∀ t, Steps p.tables e below (T'.setTop (mkF m (pc + 3) Ls (v.toList ++ rest))) t → Steps p.tables e below (T.setTop (mkF m pc Ls st)) t := by
  obtain ⟨cell, hcell, hobj⟩ := E.cell
  have hpriv := Cond.privateMethod_at (mvP hZ wp (args := args))
  obtain ⟨ci, ki, i1, i2, i3, i4, -⟩ := Cond.instantiable_spec (show (Cond.instantiable y.cls n).before args s = true from mvT hZ wi)
  have hni : ki.isInterface = false := by
    cases hq : ki.isInterface with
    | false => rfl
    | true => rw [hq] at i4; simp at i4
  have hsel := selects_self_of_private (args := args) i1 i2 hni hpriv (mvT hZ w2) hy
  obtain ⟨v, vm₁, ⟨T', L', k', n'⟩, -, X', ⟨L, hQ, l1, l2, l3⟩, stp⟩ := X.privateBack hx (y := y) hown (mvT hZ w1) (mvT hZ w2) hsel hpriv (mvT hZ w4) hy (backOf (W := W) hM hZ w4 w3 hf hl) (g := mkF m pc Ls st) rfl hsz (Steps.refl _) (a := a) (by rw [eT]; exact hcell) hobj (argsL := argsL) (rest := rest) hlen hst (by show 2 * 0 + _ ≤ _; omega) hd (fun _ _ => ⟨has, eT, hc, hs⟩)
  dsimp only [Pt.U, Pt.locs, Pt.cells, Pt.slots] at X' l1 l2 l3 stp hQ
  subst l1 l2 l3
  exact ⟨v, T', L, X', hQ, fun t k => stp.trans k⟩
theorem own_interface (X : Stand p l e R s m args below meth c T locs cells slots) (hx : p.tables.exec = Jvm.exec) (hZ : Z.Warmed39 s.vm) {own C : String} {index count : Nat} {xi y : MethodName} {bytes : ByteArray} {maxL : Nat} {ret : Option FieldType} {rm : Room} {as' : Array Value} {P : OwnP}
    (hown : s.vm.findClass own = some m.cls) (w1 : (Cond.methodLink own index xi).before a0 Z = true) (w2 : (Cond.declares xi).before a0 Z = true) (w7 : (Cond.interfaceMethod xi.cls xi.cls xi.name xi.desc).before args s = true) (w5 : (Cond.selects C xi y).before a0 Z = true) (w6 : (Cond.instanceMethod y).before a0 Z = true) (w8 : (Cond.publicMethod y).before a0 Z = true) (w9 : (Cond.unhidden C xi.name xi.desc).before a0 Z = true) (w10 : (Cond.castable C xi.cls).before a0 Z = true) (w3 : (Cond.initialized y.cls).before a0 Z = true) (w4 : (Cond.code y bytes maxL ret).before a0 Z = true) (hy : xi.cls ≠ "java/lang/invoke/MethodHandle" ∧ xi.cls ≠ "java/lang/invoke/VarHandle")
    (hM : OwnC l Z y bytes maxL ret [] rm as' h P) (eT : T.heap = h) {a : Addr} (E : Exa Z h a C) {pc : Nat} {Ls : Array Slot} {argsL rest : List Value} (W : Nat) {st : List Value} (hsz : Ls.size = c.maxLocals) (hlen : ∀ sig, parseMethodDescriptor xi.desc = some sig → argsL.length = sig.parameters.length) (has : (.ref a :: argsL).toArray = as') (hst : st = argsL.reverse ++ .ref a :: rest) (hW : (rest.map fun v => v.category).sum ≤ W)
    (hd : decode c.code pc = .ok (.invokeinterface index count, 5)) (hf : rm.frames + 1 ≤ R.frames) (hl : W + (maxL + 11) + rm.locals ≤ R.locals) (hc : cells + rm.cells ≤ R.cells) (hs : slots + rm.slots ≤ R.slots) :
    ∃ v T' L, Stand p l e R s m args below meth c T' (locs ++ L) (cells + rm.cells) (slots + rm.slots) ∧ P v T'.heap L ∧ ∀ t, Steps p.tables e below (T'.setTop (mkF m (pc + 5) Ls (v.toList ++ rest))) t → Steps p.tables e below (T.setTop (mkF m pc Ls st)) t := by
  obtain ⟨cq, kq, qa, qb, qc⟩ := isOf hZ eT E
  obtain ⟨v, vm₁, ⟨T', L', k', n'⟩, -, X', ⟨L, hQ, l1, l2, l3⟩, stp⟩ := X.interfaceBack hx (xi := xi) (y := y) hown (mvT hZ w1) (mvT hZ w2) w7 (mvT hZ w5) (mvT hZ w6) (mvT hZ w8) (mvT hZ w9) (mvT hZ w10) hy (backOf (W := W) hM hZ w4 w3 hf hl) qa qb qc (g := mkF m pc Ls st) rfl hsz (Steps.refl _) (argsL := argsL) (rest := rest) hlen hst (by show 2 * 0 + _ ≤ _; omega) hd (fun _ _ => ⟨has, eT, hc, hs⟩)
  dsimp only [Pt.U, Pt.locs, Pt.cells, Pt.slots] at X' l1 l2 l3 stp hQ
  subst l1 l2 l3
  exact ⟨v, T', L, X', hQ, fun t k => stp.trans k⟩
theorem own_staticUp (X : Stand p l e R s m args below meth c T locs cells slots) (hx : p.tables.exec = Jvm.exec) (hZ : Z.Warmed39 s.vm) {own owner : String} {index : Nat} {x : MethodName} {bytes : ByteArray} {maxL : Nat} {ret : Option FieldType} {rm : Room} {as' : Array Value} {P : OwnP}
    (hown : s.vm.findClass own = some m.cls) (w1 : (Cond.methodLink own index x).before a0 Z = true) (w2 : (Cond.sameMethod x.cls owner x.name x.desc).before a0 Z = true) (hy : owner ≠ "java/lang/invoke/MethodHandle" ∧ owner ≠ "java/lang/invoke/VarHandle") (w5 : (Cond.static ⟨owner, x.name, x.desc⟩).before a0 Z = true) (w3 : (Cond.initialized owner).before a0 Z = true) (w4 : (Cond.code ⟨owner, x.name, x.desc⟩ bytes maxL ret).before a0 Z = true)
    (hM : OwnC l Z ⟨owner, x.name, x.desc⟩ bytes maxL ret [] rm as' h P) (eT : T.heap = h) {pc : Nat} {Ls : Array Slot} {argsL rest : List Value} (W : Nat) {st : List Value} (hsz : Ls.size = c.maxLocals) (hlen : ∀ sig, parseMethodDescriptor x.desc = some sig → argsL.length = sig.parameters.length) (has : argsL.toArray = as') (hst : st = argsL.reverse ++ rest) (hW : (rest.map fun v => v.category).sum ≤ W)
    (hd : decode c.code pc = .ok (.invokestatic index, 3)) (hf : rm.frames + 1 ≤ R.frames) (hl : W + (maxL + 11) + rm.locals ≤ R.locals) (hc : cells + rm.cells ≤ R.cells) (hs : slots + rm.slots ≤ R.slots) :
    ∃ v T' L, Stand p l e R s m args below meth c T' (locs ++ L) (cells + rm.cells) (slots + rm.slots) ∧ P v T'.heap L ∧ ∀ t, Steps p.tables e below (T'.setTop (mkF m (pc + 3) Ls (v.toList ++ rest))) t → Steps p.tables e below (T.setTop (mkF m pc Ls st)) t := by
  have c4 : (Cond.code ⟨owner, x.name, x.desc⟩ bytes maxL ret).before args s = true := mvT hZ w4
  obtain ⟨mk, hnamed⟩ := Cond.code_named c4
  obtain ⟨methM, cM, hmethM, -, -, -, -, -, -, hsigM⟩ := Cond.code_spec hnamed c4
  have hstatic : methM.isStatic = true := Cond.static_spec hnamed hmethM (mvT (args := args) hZ w5)
  obtain ⟨kP, hkP, -⟩ := className_of_methodNamed hnamed
  have hinitP : kP.init = .initialized := Cond.initialized_spec (findClass_of_methodNamed hnamed) hkP (mvT (args := args) hZ w3)
  obtain ⟨vm₁, X₁, hstep₁⟩ := X.invokestaticUp hx hown (mvT hZ w1) (mvT hZ w2) hy hnamed hmethM hstatic hkP hinitP (g := mkF m pc Ls st) rfl (argsL := argsL) (rest := rest) (hlen _ hsigM) hst hd
  obtain ⟨v, ⟨T', L', k', n'⟩, X', ⟨L, hQ, l1, l2, l3⟩, hsteps⟩ := (backOf (len := 3) (W := W) hM hZ w4 w3 hf hl) m meth c ⟨T.setVm vm₁, locs, cells, slots⟩ { mkF m pc Ls st with stack := rest } (.invokestatic index) mk argsL.toArray X₁ rfl hsz hd (by show 2 * 0 + (rest.map fun v => v.category).sum ≤ W; rw [Nat.mul_zero, Nat.zero_add]; exact hW) (X₁.named hnamed) ⟨has, eT, hc, hs⟩
  dsimp only [Pt.U, Pt.locs, Pt.cells, Pt.slots] at X' l1 l2 l3 hsteps hQ
  subst l1 l2 l3
  exact ⟨v, T', L, X', hQ, fun t k => ((hstep₁ _ fun acts => by rw [doInvoke_state]; exact Steps.refl _).trans hsteps).trans k⟩
theorem own_getfRef (X : Stand p l e R s m args below meth c T locs cells slots) (hx : p.tables.exec = Jvm.exec) (hZ : Z.Warmed39 s.vm) {own O n d : String} {index : Nat} (hown : s.vm.findClass own = some m.cls) (w : (Cond.fieldRef own index O n d).before a0 Z = true) (eT : T.heap = h) {a : Addr} {v : Value} (F : Fld Z h a O n d v)
    {pc : Nat} {Ls : Array Slot} {rest : List Value} (hd : decode c.code pc = .ok (.getfield index, 3)) : ∀ t, Steps p.tables e below (T.setTop (mkF m (pc + 3) Ls (v :: rest))) t → Steps p.tables e below (T.setTop (mkF m pc Ls (.ref a :: rest))) t := by
  obtain ⟨cell, cf, k, i, f, h1, h2, h3, h4, -, -, h7⟩ := F
  have hW : Z.Warmed39 T.vm := wtrans hZ X.warmed
  have hw := Cond.fieldRef_warmed39 hW w
  have hcur : (Z.setVm T.vm).vm.findClass own = some m.cls := by
    show T.vm.findClass own = _
    rw [X.warmed.alike.findClass]
    exact hown
  obtain ⟨c', k', i', f', q1, q2⟩ := Cond.fieldRef_spec hcur hw
  obtain ⟨k2, hi, -⟩ := State.fieldFound?_setVm (s := Z) hW.alike h2
  rw [hi] at q1
  cases q1
  exact fun t kk => (X.getfieldR hx (g := mkF m pc Ls (.ref a :: rest)) rfl q2 h3 rfl (by rw [eT]; exact h1) h4 h7 hd (Steps.refl _)).trans kk
theorem own_sneE {a b : Addr} {cell : Cell} {C : String} (h1 : h[a]? = some cell) (h2 : cell.vm.isStatics = true) (E : Exa Z h b C) : a ≠ b := fun q => by
  obtain ⟨cell', k', e1, -, -, e4, -⟩ := E
  subst q
  cases h1.symm.trans e1
  rw [h2] at e4
  cases e4
theorem own_sneA {a b : Addr} {cell : Cell} {k : ClassId} {ty : FieldType} {n : Int32} {vs : List Value} {dv : Value} (h1 : h[a]? = some cell) (h2 : cell.vm.isStatics = true) (V : Arv Z h b k ty n vs dv) : a ≠ b := fun q => by
  obtain ⟨cl, A, -⟩ := V
  subst q
  cases h1.symm.trans A.1
  have := A.plain
  rw [h2] at this
  cases this
theorem own_sta_keepL {C n d : String} {v : Value} {h' : Heap} {ws : List Addr} (F : Sta Z h C n d v) (K : Keep h h' ws) (q : ∀ (a : Addr) (cell : Cell), h[a]? = some cell → cell.vm.isStatics = true → a ∉ ws) : Sta Z h' C n d v := by
  obtain ⟨cf, i, k, f, st, cell, h1, h2, h3, h4, h5, h6, h7⟩ := F
  exact ⟨cf, i, k, f, st, cell, h1, h2, h3, h4, K.2.1 _ _ h5 (q _ _ h5 h6), h6, h7⟩
theorem own_nf {args : Array Value} {s : State} {C : String} {x y z : MethodName} (hsel : (Cond.selects C x z).before args s = true) (hc : y.cls = z.cls) : NotFace s y := fun r0 h0 => by
  obtain ⟨c2, r2, m2, q1, q2, q3, q4, kP, hkP, hkPi⟩ := Cond.selects_spec hsel
  have e1 := findClass_of_methodNamed h0
  have e2 := findClass_of_methodNamed q3
  rw [hc] at e1
  have e3 : r0.cls = m2.cls := Option.some.inj (e1.symm.trans e2)
  exact ⟨kP, by rw [e3]; exact hkP, hkPi⟩
end OwnKit
end Jvm.RoadKit
namespace Jvm.RoadKit
open Sem ClassFile Op Lib Jvm.Stand Jvm.Free Jvm.LawKit
section OwnS
variable {p : Program} {l : Launch} {e : Env} {R : Room} {s : State} {m : MethodId} {args : Array Value} {below : List Frame} {meth : Method} {c : Code} {T : State} {locs : List Loc} {cells slots : Nat} {Z : State} {a0 : Array Value} {h : Heap}
/-- OwnG of a walk that may intern -/
def OwnW (tb : Tables) (e : Env) (below : List Frame) (s : State) (P : OwnP) (rc rs : Nat) (A : State) : Prop :=
  ∃ s₂ o, Steps tb e below A s₂ ∧ s₂.status = .running ∧ Ended s₂ below o ∧ ∃ v L, o = .returned v ∧ P v s₂.heap L ∧ ReturnedEndW s o s₂ L rc rs
theorem ownw_go {tb : Tables} {P : OwnP} {rc rs : Nat} {A : State} (T' : State) (m' : MethodId) (pc : Nat) (Ls : Array Slot) (st : List Value) (f : ∀ t, Steps tb e below (T'.setTop (mkF m' pc Ls st)) t → Steps tb e below A t) (k : OwnW tb e below s P rc rs (T'.setTop (mkF m' pc Ls st))) : OwnW tb e below s P rc rs A := by
  obtain ⟨s₂, o, h1, h2⟩ := k
  exact ⟨s₂, o, f _ h1, h2⟩
theorem ownw_of {tb : Tables} {P : OwnP} {rc rs : Nat} {A : State} {vm0 : Vm} {k0 : Nat} (hS : s.Since vm0 k0) (k : OwnG tb e below (s.setVm vm0) (fun v h L => P v h L ∧ k0 ≤ h.size) rc rs A) : OwnW tb e below s P rc rs A := by
  obtain ⟨s₂, o, h1, h2, h3, v, L, h4, ⟨h5, h6⟩, h7, h8, h9⟩ := k
  obtain ⟨a, b, c'⟩ := hS.ended (U := s₂) h8 h6 h9
  exact ⟨s₂, o, h1, h2, h3, v, L, h4, h5, h7, a, b, c'⟩
/-- a body's contract, where the tables' methods and the frames beneath are known -/
abbrev OwnCK (l : Launch) (Z : State) (y : MethodName) (bytes : ByteArray) (maxL : Nat) (ret : Option FieldType) (ws : List Cond) (rm : Room) (as' : Array Value) (h0 : Heap) (P : OwnP) : Prop :=
  MetFree l y (head1 (Cond.code y bytes maxL ret :: ws) rm) (fun a U => a = as' ∧ Z.Warmed39 U.vm ∧ U.heap = h0) (fun _ _ bl s _ => s.vm.MethodsKnown ∧ s.vm.FramesKnown bl) (fun _ U o U' => ∃ v L, o = .returned v ∧ P v U'.heap L ∧ FrameEnd U o U' L rm.cells rm.slots)
abbrev OwnCW (l : Launch) (Z : State) (y : MethodName) (bytes : ByteArray) (maxL : Nat) (ret : Option FieldType) (ws : List Cond) (rm : Room) (as' : Array Value) (h0 : Heap) (P : OwnP) : Prop :=
  MetFree l y (head1 (Cond.code y bytes maxL ret :: ws) rm) (fun a U => a = as' ∧ Z.Warmed39 U.vm ∧ U.heap = h0) (fun _ _ bl s _ => s.vm.MethodsKnown ∧ s.vm.FramesKnown bl) (fun _ U o U' => ∃ v L, o = .returned v ∧ P v U'.heap L ∧ ReturnedEndW U o U' L rm.cells rm.slots)
theorem own_entryK {y : MethodName} {bytes : ByteArray} {maxL : Nat} {ret : Option FieldType} {ws : List Cond} {rm : Room} {as' : Array Value} {h0 : Heap} {P : OwnP} {Ls : Array Slot} (hpl : plainFor y = true) (ef : ∀ m, entryFrame m as' maxL = mkF m 0 Ls [])
    (body : ∀ (p : Program) (e : Env) (s : State) (m : MethodId) (below : List Frame) (meth : Method) (c : Code) (T : State), Stand p l e rm s m as' below meth c T [] 0 0 → OwnX Z p s m meth c bytes maxL ret y.cls y.name → T.heap = h0 → s.heap = h0 → s.vm.MethodsKnown → s.vm.FramesKnown below → OwnG p.tables e below s P rm.cells rm.slots (T.setTop (mkF m 0 Ls []))) :
    OwnCK l Z y bytes maxL ret ws rm as' h0 P := by
  refine MetFree.of_bodySF hpl hisR ?_
  intro p e s m args below meth c s₁ Bd hml0 hP hK
  obtain ⟨rfl, hZ, hh⟩ := hP
  have e0 : s₁.heap = h0 := by rw [← hh, Bd.state]; rfl
  obtain ⟨s₂, o, h1, h2⟩ := body p e s m below meth c s₁ (Stand.of_body Bd) ⟨Bd.exec, Bd.bytes, hml0, findClass_of_methodNamed Bd.named, (name_of_methodNamed Bd.named Bd.method).1, Bd.returns, Bd.notSynchronized, hZ⟩ e0 hh hK.1 hK.2
  exact ⟨s₂, o, castTop (ef m) h1, h2⟩
theorem own_entryW {y : MethodName} {bytes : ByteArray} {maxL : Nat} {ret : Option FieldType} {ws : List Cond} {rm : Room} {as' : Array Value} {h0 : Heap} {P : OwnP} {Ls : Array Slot} (hpl : plainFor y = true) (ef : ∀ m, entryFrame m as' maxL = mkF m 0 Ls [])
    (body : ∀ (p : Program) (e : Env) (s : State) (m : MethodId) (below : List Frame) (meth : Method) (c : Code) (T : State), Stand p l e rm s m as' below meth c T [] 0 0 → OwnX Z p s m meth c bytes maxL ret y.cls y.name → T.heap = h0 → s.heap = h0 → s.vm.MethodsKnown → s.vm.FramesKnown below → OwnW p.tables e below s P rm.cells rm.slots (T.setTop (mkF m 0 Ls []))) :
    OwnCW l Z y bytes maxL ret ws rm as' h0 P := by
  refine MetFree.of_bodySF hpl hisR ?_
  intro p e s m args below meth c s₁ Bd hml0 hP hK
  obtain ⟨rfl, hZ, hh⟩ := hP
  have e0 : s₁.heap = h0 := by rw [← hh, Bd.state]; rfl
  obtain ⟨s₂, o, h1, h2⟩ := body p e s m below meth c s₁ (Stand.of_body Bd) ⟨Bd.exec, Bd.bytes, hml0, findClass_of_methodNamed Bd.named, (name_of_methodNamed Bd.named Bd.method).1, Bd.returns, Bd.notSynchronized, hZ⟩ e0 hh hK.1 hK.2
  exact ⟨s₂, o, castTop (ef m) h1, h2⟩
theorem own_initK (X : Stand p l e R s m args below meth c T locs cells slots) (hx : p.tables.exec = Jvm.exec) (hZ : Z.Warmed39 s.vm) {own : String} {index : Nat} {y : MethodName} {bytes : ByteArray} {maxL : Nat} {rm : Room} {as' : Array Value} {P : OwnP} (hTK : s.vm.MethodsKnown) (hBl : s.vm.FramesKnown below) (hy1 : y.name = "<init>")
    (hown : s.vm.findClass own = some m.cls) (w1 : (Cond.methodLink own index y).before a0 Z = true) (w2 : (Cond.instanceMethod y).before a0 Z = true) (w3 : (Cond.initialized y.cls).before a0 Z = true) (w4 : (Cond.code y bytes maxL none).before a0 Z = true) (hy : y.cls ≠ "java/lang/invoke/MethodHandle" ∧ y.cls ≠ "java/lang/invoke/VarHandle")
    (hM : OwnCK l Z y bytes maxL none [] rm as' h P) (eT : T.heap = h) {pc : Nat} {Ls : Array Slot} {a : Addr} {argsL rest : List Value} (W : Nat) {st : List Value} (hsz : Ls.size = c.maxLocals) (hlen : ∀ sig, parseMethodDescriptor y.desc = some sig → argsL.length = sig.parameters.length) (has : (.ref a :: argsL).toArray = as') (hst : st = argsL.reverse ++ .ref a :: rest) (hW : (rest.map fun v => v.category).sum ≤ W)
    (hd : decode c.code pc = .ok (.invokespecial index, 3)) (hf : rm.frames + 1 ≤ R.frames) (hl : W + (maxL + 11) + rm.locals ≤ R.locals) (hc : cells + rm.cells ≤ R.cells) (hs : slots + rm.slots ≤ R.slots) :
    ∃ v T' L, Stand p l e R s m args below meth c T' (locs ++ L) (cells + rm.cells) (slots + rm.slots) ∧ P v T'.heap L ∧ ∀ t, Steps p.tables e below (T'.setTop (mkF m (pc + 3) Ls (v.toList ++ rest))) t → Steps p.tables e below (T.setTop (mkF m pc Ls st)) t := by
  obtain ⟨v, vm₁, ⟨T', L', k', n'⟩, -, X', ⟨L, hQ, l1, l2, l3⟩, stp⟩ := X.specialBack hx hy1 hown (mvT hZ w1) (mvT hZ w2) (mvT hZ w4) hy (backOfKL (W := W) hM hZ w4 w3 hf hl hTK hBl) (g := mkF m pc Ls st) rfl hsz (Steps.refl _) (a := a) (argsL := argsL) (rest := rest) hlen hst (by show 2 * 0 + _ ≤ _; omega) hd (fun _ _ => ⟨has, eT, hc, hs⟩)
  dsimp only [Pt.U, Pt.locs, Pt.cells, Pt.slots] at X' l1 l2 l3 stp hQ
  subst l1 l2 l3
  exact ⟨v, T', L, X', hQ, fun t k => stp.trans k⟩
/-- the heap has not shrunk since the body's start -/
theorem own_grow (X : Stand p l e R s m args below meth c T locs cells slots) : s.heap.size ≤ T.heap.size := X.same.2.1
theorem own_mk {vm1 : Vm} (hal : s.Warmed39 vm1) (k : s.vm.MethodsKnown) : (s.setVm vm1).vm.MethodsKnown := Vm.MethodsKnown.alikeC hal.alike k
theorem own_fk {vm1 : Vm} (hal : s.Warmed39 vm1) (k : s.vm.FramesKnown below) : (s.setVm vm1).vm.FramesKnown below := Vm.FramesKnown.alikeC hal.alike k
end OwnS
end Jvm.RoadKit
namespace Jvm.Pilot.@@N@@
open Jvm Jvm.ClassFile Sem Op Lib Jvm.Free Jvm.Stand Jvm.LawKit Jvm.RoadKit Bundle Jvm.Pilot.@@N@@.Jvm.D
abbrev OwnK0 : String := "com/example/bowerbird/bowerbird/core/TwoStage"
abbrev OwnK1 : String := "com/example/bowerbird/bowerbird/core/QueryLikelihood"
abbrev OwnK2 : String := "com/example/bowerbird/bowerbird/core/LocalContext"
abbrev OwnK3 : String := "com/example/bowerbird/bowerbird/core/Prior"
theorem own_w {Z : State} {a0 : Array Value} (hw : ∀ d ∈ tables_1, d.before a0 Z = true) (i : Nat) {d : Jvm.Cond} (h : tables_1[i]? = some d) : d.before a0 Z = true := hw _ (List.mem_of_getElem? h)
theorem own_i {a : Addr} {L : List Addr} {Q : Prop} (i : Nat) (h : L[i]? = some a) : a ∈ L ∨ Q := Or.inl (List.mem_of_getElem? h)
theorem pd__DDLcom_example_bowerbird_bowerbird_core_LocalContext_Lcom_example_bowerbird_bowerbird_core_Prior__V : parseMethodDescriptor "(DDLcom/example/bowerbird/bowerbird/core/LocalContext;Lcom/example/bowerbird/bowerbird/core/Prior;)V" = some ⟨[.double, .double, (.object OwnK2), (.object OwnK3)], none⟩ := by decide +kernel
theorem pd__Lcom_example_bowerbird_bowerbird_core_LocalContext_Lcom_example_bowerbird_bowerbird_core_Prior__V : parseMethodDescriptor "(Lcom/example/bowerbird/bowerbird/core/LocalContext;Lcom/example/bowerbird/bowerbird/core/Prior;)V" = some ⟨[(.object OwnK2), (.object OwnK3)], none⟩ := by decide +kernel
theorem pd___V : parseMethodDescriptor "()V" = some ⟨[], none⟩ := by decide +kernel
theorem pd__Ljava_lang_Object_Ljava_lang_String__Ljava_lang_Object_ : parseMethodDescriptor "(Ljava/lang/Object;Ljava/lang/String;)Ljava/lang/Object;" = some ⟨[(.object "java/lang/Object"), (.object "java/lang/String")], some (.object "java/lang/Object")⟩ := by decide +kernel
theorem pd__Ljava_lang_String_D_D : parseMethodDescriptor "(Ljava/lang/String;D)D" = some ⟨[(.object "java/lang/String"), .double], some .double⟩ := by decide +kernel
theorem pd__D_D : parseMethodDescriptor "(D)D" = some ⟨[.double], some .double⟩ := by decide +kernel
theorem pd__IIDD_D : parseMethodDescriptor "(IIDD)D" = some ⟨[.int, .int, .double, .double], some .double⟩ := by decide +kernel
section OwnFP
open Jvm.FP Jvm.FP.Core
theorem own_iu (c : Nat) (q e : Int) : inUnits c q e = c * 2 ^ (q - e).toNat := rfl
theorem own_un {c M : Nat} {q k m e0 : Int} (h1 : m ≤ q) (h2 : e0 ≤ m + k) : inUnits (c * M) (q + k) e0 = inUnits c q m * (M * 2 ^ (m + k - e0).toNat) := by
  rw [own_iu, own_iu, show (q + k - e0).toNat = (q - m).toNat + (m + k - e0).toNat by omega, Nat.pow_add]
  ac_rfl
theorem own_mag {f : Fmt} (hf : Good f) {s : Bool} {A A' B : Nat} {e e' e0 : Int} (hB : 0 < B) (h0 : e0 < f.qmin) (h1 : e0 ≤ e) (h2 : e0 ≤ e')
    (h : inUnits A e e0 ≤ inUnits A' e' e0) : zmag f (roundRatio f s A B e) ≤ zmag f (roundRatio f s A' B e') := by
  have F1 := roundRatio_fits hf s A hB e
  have F2 := roundRatio_fits hf s A' hB e'
  have h0' : e0 ≤ f.qmin := by omega
  rcases roundRatio_cases f s A' B e' with ⟨c', q', hR'⟩ | hR'
  · rcases roundRatio_cases f s A B e with ⟨c, q, hR⟩ | hR
    · refine Nat.le_of_not_lt fun hlt => ?_
      have c1 : ¬ inUnits A e e0 ≤ zmag f (roundRatio f s A' B e') * 2 ^ (f.qmin - e0).toNat * B := fun c1 => absurd (zmag_roundRatio_le hf (s := s) hB F2 (roundRatio_ne_nan _ _ _ _ _) h0' h1 c1) (by omega)
      have c2 : ¬ zmag f (roundRatio f s A B e) * 2 ^ (f.qmin - e0).toNat * B ≤ inUnits A' e' e0 := fun c2 => absurd (zmag_roundRatio_ge hf (s := s) hB F1 h0' h2 c2) (by omega)
      have F1' : Core.fits f (.fin s c q) := hR ▸ F1
      have F2' : Core.fits f (.fin s c' q') := hR' ▸ F2
      have d1 : ((inUnits A e e0 : Int) - (inUnits c q e0 : Int) * (B : Int)).natAbs ≤ ((inUnits A e e0 : Int) - (inUnits c' q' e0 : Int) * (B : Int)).natAbs := roundRatio_nearest hf hB hR F2'.1 F2'.2.1 h0' h1
      have d2 : ((inUnits A' e' e0 : Int) - (inUnits c' q' e0 : Int) * (B : Int)).natAbs ≤ ((inUnits A' e' e0 : Int) - (inUnits c q e0 : Int) * (B : Int)).natAbs := roundRatio_nearest hf hB hR' F1'.1 F1'.2.1 h0' h2
      have u1 : inUnits c q e0 = zmag f (roundRatio f s A B e) * 2 ^ (f.qmin - e0).toNat := by rw [hR]; exact units_fin F1' h0'
      have u2 : inUnits c' q' e0 = zmag f (roundRatio f s A' B e') * 2 ^ (f.qmin - e0).toNat := by rw [hR']; exact units_fin F2' h0'
      rw [u1, u2, ← Int.natCast_mul, ← Int.natCast_mul] at d1
      rw [u1, u2, ← Int.natCast_mul, ← Int.natCast_mul] at d2
      have hXY : inUnits A e e0 = inUnits A' e' e0 := by
        generalize zmag f (roundRatio f s A B e) * 2 ^ (f.qmin - e0).toNat * B = r at *
        generalize zmag f (roundRatio f s A' B e') * 2 ^ (f.qmin - e0).toNat * B = r' at *
        generalize inUnits A e e0 = X at *
        generalize inUnits A' e' e0 = Y at *
        omega
      have hc : roundRatio f s A B e = roundRatio f s A' B e' := by
        refine roundRatio_congr hB hB ?_
        rw [own_iu, own_iu] at hXY
        rcases Int.le_total e e' with g | g
        · rw [show (e - e').toNat = 0 by omega, Nat.pow_zero, Nat.mul_one]
          rw [show (e' - e0).toNat = (e' - e).toNat + (e - e0).toNat by omega, Nat.pow_add, ← Nat.mul_assoc] at hXY
          rw [Nat.eq_of_mul_eq_mul_right (Nat.two_pow_pos _) hXY]
          ac_rfl
        · rw [show (e' - e).toNat = 0 by omega, Nat.pow_zero, Nat.mul_one]
          rw [show (e - e0).toNat = (e - e').toNat + (e' - e0).toNat by omega, Nat.pow_add, ← Nat.mul_assoc] at hXY
          rw [← Nat.eq_of_mul_eq_mul_right (Nat.two_pow_pos _) hXY]
          ac_rfl
      rw [hc] at hlt
      exact Nat.lt_irrefl _ hlt
    · exfalso
      have i1 := (roundRatio_inf hf hB h0 h1).mp hR
      have i2 := (roundRatio_inf hf (s := s) hB h0 h2).mpr (Nat.le_trans i1 h)
      rw [i2] at hR'
      cases hR'
  · rw [hR']
    exact zmag_le_top hf F1
theorem own_rr0 (f : Fmt) (u : Bool) (B : Nat) (d : Int) : zmag f (roundRatio f u 0 B d) = 0 := by
  show inUnits 0 f.qmin f.qmin = 0
  rw [own_iu, Nat.zero_mul]
theorem own_mono {f : Fmt} (hf : Good f) {s t : Bool} {A A' B : Nat} {e e' e0 : Int} (hB : 0 < B) (h0 : e0 < f.qmin) (h1 : e0 ≤ e) (h2 : e0 ≤ e')
    (h : signed s (inUnits A e e0) ≤ signed t (inUnits A' e' e0)) : zval f (roundRatio f s A B e) ≤ zval f (roundRatio f t A' B e') := by
  show signed (sgn (roundRatio f s A B e)) (zmag f (roundRatio f s A B e)) ≤ signed (sgn (roundRatio f t A' B e')) (zmag f (roundRatio f t A' B e'))
  rw [sgn_roundRatio, sgn_roundRatio]
  have z : ∀ (u : Bool) (D : Nat) (d : Int), inUnits D d e0 = 0 → zmag f (roundRatio f u D B d) = 0 := by
    intro u D d hz
    have : D = 0 := by
      rw [own_iu] at hz
      rcases Nat.mul_eq_zero.mp hz with h | h
      · exact h
      · have := Nat.two_pow_pos (d - e0).toNat; omega
    subst this
    exact own_rr0 f u B d
  cases s <;> cases t
  · have h' : ((inUnits A e e0 : Nat) : Int) ≤ (inUnits A' e' e0 : Nat) := h
    have := own_mag hf (s := false) (A := A) (A' := A') (e := e) (e' := e') hB h0 h1 h2 (by omega)
    show ((zmag f (roundRatio f false A B e) : Nat) : Int) ≤ (zmag f (roundRatio f false A' B e') : Nat)
    omega
  · have h' : ((inUnits A e e0 : Nat) : Int) ≤ -((inUnits A' e' e0 : Nat) : Int) := h
    have a := z false A e (by omega)
    have b := z true A' e' (by omega)
    show ((zmag f (roundRatio f false A B e) : Nat) : Int) ≤ -((zmag f (roundRatio f true A' B e') : Nat) : Int)
    omega
  · show -((zmag f (roundRatio f true A B e) : Nat) : Int) ≤ ((zmag f (roundRatio f false A' B e') : Nat) : Int)
    omega
  · have h' : -((inUnits A e e0 : Nat) : Int) ≤ -((inUnits A' e' e0 : Nat) : Int) := h
    have := own_mag hf (s := true) (A := A') (A' := A) (e := e') (e' := e) hB h0 h2 h1 (by omega)
    show -((zmag f (roundRatio f true A B e) : Nat) : Int) ≤ -((zmag f (roundRatio f true A' B e') : Nat) : Int)
    omega
theorem own_l2d (b : Int64) : val64 (FP.l2d b) = roundRatio b64 (decide (b.toInt < 0)) b.toInt.natAbs 1 0 := val64_l2d b
theorem own_sgk (i : Int) : signed (decide (i < 0)) i.natAbs = i := by
  by_cases q : i < 0
  · rw [decide_eq_true q]
    show -((i.natAbs : Nat) : Int) = i
    omega
  · rw [decide_eq_false q]
    show ((i.natAbs : Nat) : Int) = i
    omega
theorem own_l2d_le {a b : Int64} (h : a.toInt ≤ b.toInt) : zval b64 (val64 (FP.l2d a)) ≤ zval b64 (val64 (FP.l2d b)) := by
  rw [own_l2d, own_l2d]
  refine own_mono good_b64 (e0 := b64.qmin - 1) (by decide) (by omega) (by decide) (by decide) ?_
  rw [own_iu, own_iu, signed_mul, signed_mul, own_sgk, own_sgk]
  exact Int.mul_le_mul_of_nonneg_right h (Int.natCast_nonneg _)
theorem own_mul_le {x y k : UInt64} {M : Nat} {r0 : Int} (hk : val64 k = .fin false M r0) (hr : r0 < 0) (hx : DFin x) (hy : DFin y) (h : zval b64 (val64 x) ≤ zval b64 (val64 y)) : zval b64 (val64 (FP.dmul x k)) ≤ zval b64 (val64 (FP.dmul y k)) := by
  obtain ⟨s, c, q, ex⟩ := hx
  obtain ⟨t, d, r, ey⟩ := hy
  have fx := val64_fits x
  have fy := val64_fits y
  rw [ex] at fx h
  rw [ey] at fy h
  have h' : signed s (inUnits c q b64.qmin) ≤ signed t (inUnits d r b64.qmin) := h
  have e1 : val64 (FP.dmul x k) = roundRatio b64 (s != false) (c * M) 1 (q + r0) := by
    refine (val64_dmul x k).trans ?_
    rw [ex, hk]
    rfl
  have e2 : val64 (FP.dmul y k) = roundRatio b64 (t != false) (d * M) 1 (r + r0) := by
    refine (val64_dmul y k).trans ?_
    rw [ey, hk]
    rfl
  have b1 : ∀ u : Bool, (u != false) = u := by intro u; cases u <;> rfl
  rw [e1, e2, b1, b1]
  refine own_mono good_b64 (e0 := b64.qmin + r0) (by decide) (by omega) (by have := fx.2.1; omega) (by have := fy.2.1; omega) ?_
  have u1 := own_un (c := c) (M := M) (q := q) (k := r0) (m := b64.qmin) (e0 := b64.qmin + r0) fx.2.1 (by omega)
  have u2 := own_un (c := d) (M := M) (q := r) (k := r0) (m := b64.qmin) (e0 := b64.qmin + r0) fy.2.1 (by omega)
  rw [u1, u2, signed_mul, signed_mul]
  exact Int.mul_le_mul_of_nonneg_right h' (Int.natCast_nonneg _)
theorem own_div_le {x y k : UInt64} {D : Nat} {r0 : Int} (hk : val64 k = .fin false D r0) (hD : D ≠ 0) (hx : DFin x) (hy : DFin y) (h : zval b64 (val64 x) ≤ zval b64 (val64 y)) : zval b64 (val64 (FP.ddiv x k)) ≤ zval b64 (val64 (FP.ddiv y k)) := by
  obtain ⟨s, c, q, ex⟩ := hx
  obtain ⟨t, d, r, ey⟩ := hy
  have fx := val64_fits x
  have fy := val64_fits y
  rw [ex] at fx h
  rw [ey] at fy h
  have h' : signed s (inUnits c q b64.qmin) ≤ signed t (inUnits d r b64.qmin) := h
  have e1 : val64 (FP.ddiv x k) = roundRatio b64 (s != false) c D (q - r0) := by
    refine (val64_ddiv x k).trans ?_
    rw [ex, hk]
    exact if_neg hD
  have e2 : val64 (FP.ddiv y k) = roundRatio b64 (t != false) d D (r - r0) := by
    refine (val64_ddiv y k).trans ?_
    rw [ey, hk]
    exact if_neg hD
  have b1 : ∀ u : Bool, (u != false) = u := by intro u; cases u <;> rfl
  rw [e1, e2, b1, b1]
  have g1 := fx.2.1
  have g2 := fy.2.1
  refine own_mono good_b64 (e0 := b64.qmin - 1 - (r0.natAbs : Int)) (Nat.pos_of_ne_zero hD) (by omega) (by omega) (by omega) ?_
  have u1 := own_un (c := c) (M := 1) (q := q) (k := -r0) (m := b64.qmin) (e0 := b64.qmin - 1 - (r0.natAbs : Int)) g1 (by omega)
  have u2 := own_un (c := d) (M := 1) (q := r) (k := -r0) (m := b64.qmin) (e0 := b64.qmin - 1 - (r0.natAbs : Int)) g2 (by omega)
  rw [Nat.mul_one] at u1 u2
  rw [show q - r0 = q + -r0 from rfl, show r - r0 = r + -r0 from rfl, u1, u2, signed_mul, signed_mul]
  exact Int.mul_le_mul_of_nonneg_right h' (Int.natCast_nonneg _)
/-- a positive whole number as a double -/
theorem own_pos {n : Int64} (h : 1 ≤ n.toInt) : ∃ D r, val64 (FP.l2d n) = .fin false D r ∧ D ≠ 0 := by
  obtain ⟨s, c, q, e⟩ := Core.l2d_fin n
  have hs : s = false := by
    have := sgn_roundRatio b64 (decide (n.toInt < 0)) n.toInt.natAbs 1 0
    rw [← own_l2d] at this
    rw [e] at this
    have g : s = decide (n.toInt < 0) := this
    rw [g]
    exact decide_eq_false (by omega)
  subst hs
  refine ⟨c, q, e, fun hc => ?_⟩
  subst hc
  have o1 : (1 : Int64).toInt = 1 := by decide
  have h1 := own_l2d_le (a := 1) (b := n) (by omega)
  have h2 := whole_zval good_b64 (val64_fits (FP.l2d 1)) (l2d_whole (a := 1) ⟨by decide, by decide⟩)
  rw [show val64 (FP.l2d n) = .fin false 0 q from e] at h1
  have h3 : zval b64 (.fin false 0 q) = 0 := by
    show ((inUnits 0 q b64.qmin : Nat) : Int) = 0
    rw [own_iu, Nat.zero_mul]
    rfl
  rw [h3, h2, o1] at h1
  have := Nat.two_pow_pos (-b64.qmin).toNat
  omega
/-- a quotient that is a whole number -/
theorem own_quo {a b c : Int64} (ha : B53 a) (hb : B53 b) (hc : B53 c) (hb0 : 1 ≤ b.toInt) (h : a.toInt = c.toInt * b.toInt) : zval b64 (val64 (FP.ddiv (FP.l2d a) (FP.l2d b))) = zval b64 (val64 (FP.l2d c)) := by
  obtain ⟨D, r, eb, hD⟩ := own_pos hb0
  obtain ⟨s, m, q, ea⟩ := Core.l2d_fin a
  have fa := val64_fits (FP.l2d a)
  have fb := val64_fits (FP.l2d b)
  rw [show val64 (FP.l2d a) = .fin s m q from ea] at fa
  rw [eb] at fb
  have za := whole_zval good_b64 (val64_fits (FP.l2d a)) (l2d_whole (sm ha))
  have zb := whole_zval good_b64 (val64_fits (FP.l2d b)) (l2d_whole (sm hb))
  have zc := whole_zval good_b64 (val64_fits (FP.l2d c)) (l2d_whole (sm hc))
  have sa : s = decide (a.toInt < 0) := by
    have := sgn_roundRatio b64 (decide (a.toInt < 0)) a.toInt.natAbs 1 0
    rw [← own_l2d] at this
    rw [show val64 (FP.l2d a) = .fin s m q from ea] at this
    exact this
  have sc : sgn (val64 (FP.l2d c)) = decide (c.toInt < 0) := by
    rw [own_l2d]; exact sgn_roundRatio ..
  have eq : val64 (FP.ddiv (FP.l2d a) (FP.l2d b)) = roundRatio b64 (s != false) m D (q - r) := by
    refine (val64_ddiv _ _).trans ?_
    rw [show val64 (FP.l2d a) = .fin s m q from ea, eb]
    exact if_neg hD
  have b1 : ∀ u : Bool, (u != false) = u := by intro u; cases u <;> rfl
  rw [b1] at eq
  have hU : 0 < 2 ^ (-b64.qmin).toNat := Nat.two_pow_pos _
  -- the magnitudes
  have ma : inUnits m q b64.qmin = a.toInt.natAbs * 2 ^ (-b64.qmin).toNat := by
    have := congrArg Int.natAbs za
    rw [show val64 (FP.l2d a) = .fin s m q from ea] at this
    rw [Int.natAbs_mul, Int.natAbs_natCast] at this
    rw [← this]
    exact (natAbs_signed s _).symm
  have mb : inUnits D r b64.qmin = b.toInt.natAbs * 2 ^ (-b64.qmin).toNat := by
    have := congrArg Int.natAbs zb
    rw [eb] at this
    rw [Int.natAbs_mul, Int.natAbs_natCast] at this
    rw [← this]
    exact (natAbs_signed false _).symm
  have mc : zmag b64 (val64 (FP.l2d c)) = c.toInt.natAbs * 2 ^ (-b64.qmin).toNat := by
    have := congrArg Int.natAbs zc
    rw [Int.natAbs_mul, Int.natAbs_natCast] at this
    rw [← this]
    exact (natAbs_signed _ _).symm
  have key : inUnits m (q - r) (b64.qmin - 1 - (r.natAbs : Int)) = zmag b64 (val64 (FP.l2d c)) * 2 ^ (b64.qmin - (b64.qmin - 1 - (r.natAbs : Int))).toNat * D := by
    have g1 := fa.2.1
    have g2 := fb.2.1
    have hq : b64.qmin = -1074 := qmin_b64
    refine Nat.eq_of_mul_eq_mul_right (Nat.two_pow_pos (r - b64.qmin).toNat) ?_
    rw [own_iu, mc]
    have x1 : m * 2 ^ (q - r - (b64.qmin - 1 - (r.natAbs : Int))).toNat * 2 ^ (r - b64.qmin).toNat = (m * 2 ^ (q - b64.qmin).toNat) * 2 ^ (-(b64.qmin - 1 - (r.natAbs : Int))).toNat := by
      rw [Nat.mul_assoc, Nat.mul_assoc, ← Nat.pow_add, ← Nat.pow_add]
      congr 2
      omega
    have x2 : 2 ^ (-(b64.qmin - 1 - (r.natAbs : Int))).toNat = 2 ^ (b64.qmin - (b64.qmin - 1 - (r.natAbs : Int))).toNat * 2 ^ (-b64.qmin).toNat := by
      rw [← Nat.pow_add]
      congr 1
      omega
    rw [x1, show m * 2 ^ (q - b64.qmin).toNat = inUnits m q b64.qmin from rfl, ma, x2]
    have x3 : D * 2 ^ (r - b64.qmin).toNat = b.toInt.natAbs * 2 ^ (-b64.qmin).toNat := mb
    have x4 : a.toInt.natAbs = c.toInt.natAbs * b.toInt.natAbs := by rw [h, Int.natAbs_mul]
    rw [x4]
    generalize 2 ^ (-b64.qmin).toNat = U at *
    generalize 2 ^ (b64.qmin - (b64.qmin - 1 - (r.natAbs : Int))).toNat = Q at *
    calc c.toInt.natAbs * b.toInt.natAbs * U * (Q * U) = c.toInt.natAbs * U * Q * (b.toInt.natAbs * U) := by ac_rfl
      _ = c.toInt.natAbs * U * Q * (D * 2 ^ (r - b64.qmin).toNat) := by rw [x3]
      _ = c.toInt.natAbs * U * Q * D * 2 ^ (r - b64.qmin).toNat := by ac_rfl
  have g1 := fa.2.1
  have hz : zmag b64 (roundRatio b64 s m D (q - r)) = zmag b64 (val64 (FP.l2d c)) :=
    Nat.le_antisymm (zmag_roundRatio_le good_b64 (s := s) (e0 := b64.qmin - 1 - (r.natAbs : Int)) (Nat.pos_of_ne_zero hD) (val64_fits _) (Whole.ne_nan (l2d_whole (sm hc))) (by omega) (by omega) (Nat.le_of_eq key))
      (zmag_roundRatio_ge good_b64 (s := s) (e0 := b64.qmin - 1 - (r.natAbs : Int)) (Nat.pos_of_ne_zero hD) (val64_fits _) (by omega) (by omega) (Nat.le_of_eq key.symm))
  rw [eq]
  show signed (sgn (roundRatio b64 s m D (q - r))) (zmag b64 (roundRatio b64 s m D (q - r))) = signed (sgn (val64 (FP.l2d c))) (zmag b64 (val64 (FP.l2d c)))
  rw [sgn_roundRatio, hz, sc, sa]
  by_cases c0 : c.toInt = 0
  · rw [mc, c0, show (0 : Int).natAbs = 0 from rfl, Nat.zero_mul]
    cases (decide (a.toInt < 0)) <;> cases (decide ((0 : Int) < 0)) <;> rfl
  · congr 1
    rw [decide_eq_decide, h]
    constructor
    · intro g
      refine Int.lt_of_not_ge fun g2 => ?_
      have := Int.mul_nonneg g2 (show (0 : Int) ≤ b.toInt by omega)
      omega
    · intro g
      exact Int.mul_neg_of_neg_of_pos g (by omega)
end OwnFP
section OwnDY
open Jvm.FP Jvm.FP.Core Jvm.Free.Fl
def OwnU : Nat := 2 ^ (-b64.qmin).toNat
theorem own_Ue : OwnU = 2 ^ (-b64.qmin).toNat := rfl
theorem own_Up : 0 < OwnU := Nat.two_pow_pos _
/-- the double x is N / 2^j -/
def OwnDy (x : UInt64) (N : Int) (j : Nat) : Prop := ∃ s c q, val64 x = .fin s c q ∧ inUnits c q b64.qmin * 2 ^ j = N.natAbs * OwnU ∧ signed s N.natAbs = N
theorem own_rx {s : Bool} {A B N : Nat} {e : Int} {j K : Nat} (hB : 0 < B) (hN : N < 2 ^ 53) (hj : j ≤ 1074) (h0 : 0 ≤ e + j + K) (h : A * 2 ^ (e + j + K).toNat = N * B * 2 ^ K) :
    ∃ c q, roundRatio b64 s A B e = .fin s c q ∧ inUnits c q b64.qmin * 2 ^ j = N * OwnU := by
  have hq := qmin_b64
  have hm : b64.qmax = 971 := by decide
  have e1 : roundRatio b64 s A B e = roundRatio b64 s N 1 (-(j : Int)) := by
    refine roundRatio_congr hB (by decide) ?_
    rw [Nat.mul_one]
    rcases Int.le_total 0 (e + j) with g | g
    · have hk : 2 ^ (e + j + K).toNat = 2 ^ (e - -(j : Int)).toNat * 2 ^ K := by
        rw [← Nat.pow_add]
        congr 1
        omega
      rw [show (-(j : Int) - e).toNat = 0 by omega, Nat.pow_zero, Nat.mul_one]
      rw [hk, ← Nat.mul_assoc] at h
      exact Nat.eq_of_mul_eq_mul_right (Nat.two_pow_pos K) h
    · have hk : 2 ^ K = 2 ^ (-(j : Int) - e).toNat * 2 ^ (e + j + K).toNat := by
        rw [← Nat.pow_add]
        congr 1
        omega
      rw [show (e - -(j : Int)).toNat = 0 by omega, Nat.pow_zero, Nat.mul_one]
      rw [hk, ← Nat.mul_assoc] at h
      exact Nat.eq_of_mul_eq_mul_right (Nat.two_pow_pos _) h
  obtain ⟨c, q, r1, r2⟩ := round_exact good_b64 s (c := N) (q := -(j : Int)) hN (by omega) (by omega)
  refine ⟨c, q, e1.trans r1, ?_⟩
  rw [r2, own_iu, Nat.mul_assoc, ← Nat.pow_add, own_Ue]
  congr 2
  omega
theorem own_dn {x : UInt64} {N : Int} {j : Nat} (h : OwnDy x N j) : NoNaN64 x := by
  obtain ⟨s, c, q, e, -⟩ := h
  refine noNaN64_no.mpr ((notNaN_iff _).mpr ?_)
  rw [e]
  exact Datum.noConfusion
theorem own_df {x : UInt64} {N : Int} {j : Nat} (h : OwnDy x N j) : Fin64 x := by
  obtain ⟨s, c, q, e, -⟩ := h
  exact fin64_core.mpr ⟨s, c, q, e⟩
theorem own_dz {x : UInt64} {N : Int} {j : Nat} (h : OwnDy x N j) : val64 x ≠ .nan ∧ zval b64 (val64 x) * ((2 ^ j : Nat) : Int) = N * ((OwnU : Nat) : Int) := by
  obtain ⟨s, c, q, e, h1, h2⟩ := h
  rw [e]
  refine ⟨Datum.noConfusion, ?_⟩
  show signed s (inUnits c q b64.qmin) * _ = _
  rw [← signed_mul, h1, signed_mul, h2]
theorem own_ac1 (c d p r j i : Nat) : c * d * (p * r * (j * i)) = c * p * j * (d * r * i) := by ac_rfl
theorem own_ac2 (c p j i u : Nat) : c * (p * (j * i) * u) = c * p * j * (i * u) := by ac_rfl
theorem own_ac3 (n u d r : Nat) : n * u * (d * r) = n * d * (r * u) := by ac_rfl
theorem own_dscale {x : UInt64} {N : Int} {j : Nat} (i : Nat) (h : OwnDy x N j) : OwnDy x (N * ((2 ^ i : Nat) : Int)) (j + i) := by
  obtain ⟨s, c, q, e, h1, h2⟩ := h
  refine ⟨s, c, q, e, ?_, ?_⟩
  · rw [Nat.pow_add, ← Nat.mul_assoc, h1, Int.natAbs_mul, Int.natAbs_natCast]
    exact Nat.mul_right_comm _ _ _
  · rw [Int.natAbs_mul, Int.natAbs_natCast, signed_mul, h2]
theorem own_dl2d {a : Int64} (ha : B53 a) : OwnDy (FP.l2d a) a.toInt 0 := by
  obtain ⟨s, c, q, e⟩ := Core.l2d_fin a
  have za := whole_zval good_b64 (val64_fits (FP.l2d a)) (l2d_whole (sm ha))
  rw [← own_Ue] at za
  have e' : val64 (FP.l2d a) = .fin s c q := e
  refine ⟨s, c, q, e', ?_, ?_⟩
  · have := congrArg Int.natAbs za
    rw [e'] at this
    rw [Int.natAbs_mul, Int.natAbs_natCast] at this
    rw [← this, Nat.pow_zero, Nat.mul_one]
    exact (natAbs_signed s _).symm
  · have := sgn_roundRatio b64 (decide (a.toInt < 0)) a.toInt.natAbs 1 0
    rw [← own_l2d, e'] at this
    have g : s = decide (a.toInt < 0) := this
    rw [g]
    exact own_sgk a.toInt
theorem own_sg2 (s t : Bool) (a b : Nat) : signed (s != t) (a * b) = signed s a * signed t b := by
  cases s <;> cases t
  · exact Int.natCast_mul a b
  · show -((a * b : Nat) : Int) = (a : Int) * -(b : Int)
    rw [Int.natCast_mul, Int.mul_neg]
  · show -((a * b : Nat) : Int) = -(a : Int) * (b : Int)
    rw [Int.natCast_mul, Int.neg_mul]
  · show ((a * b : Nat) : Int) = -(a : Int) * -(b : Int)
    rw [Int.natCast_mul, Int.neg_mul_neg]
theorem own_dmul {x y : UInt64} {N M : Int} {i j : Nat} (hx : OwnDy x N j) (hy : OwnDy y M i) (hb : (N * M).natAbs < 2 ^ 53) (hj : j + i ≤ 1074) : OwnDy (FP.dmul x y) (N * M) (j + i) := by
  obtain ⟨s, c, q, ex, x1, x2⟩ := hx
  obtain ⟨t, d, r, ey, y1, y2⟩ := hy
  have fx := val64_fits x
  have fy := val64_fits y
  rw [ex] at fx
  rw [ey] at fy
  have hq := qmin_b64
  have g1 := fx.2.1
  have g2 := fy.2.1
  have e1 : val64 (FP.dmul x y) = roundRatio b64 (s != t) (c * d) 1 (q + r) := by
    refine (val64_dmul x y).trans ?_
    rw [ex, ey]
    rfl
  obtain ⟨c', q', r1, r2⟩ := own_rx (s := (s != t)) (A := c * d) (B := 1) (N := (N * M).natAbs) (e := q + r) (j := j + i) (K := (-b64.qmin).toNat + (-b64.qmin).toNat) (by decide) hb hj (by omega) (by
    have hk : (q + r + ((j + i : Nat) : Int) + (((-b64.qmin).toNat + (-b64.qmin).toNat : Nat) : Int)).toNat = (q - b64.qmin).toNat + (r - b64.qmin).toNat + (j + i) := by omega
    rw [hk, Int.natAbs_mul, Nat.mul_one, Nat.pow_add, Nat.pow_add, Nat.pow_add, Nat.pow_add, ← own_Ue]
    rw [own_iu] at x1 y1
    calc c * d * (2 ^ (q - b64.qmin).toNat * 2 ^ (r - b64.qmin).toNat * (2 ^ j * 2 ^ i)) = c * 2 ^ (q - b64.qmin).toNat * 2 ^ j * (d * 2 ^ (r - b64.qmin).toNat * 2 ^ i) := own_ac1 _ _ _ _ _ _
      _ = N.natAbs * OwnU * (M.natAbs * OwnU) := by rw [x1, y1]
      _ = N.natAbs * M.natAbs * (OwnU * OwnU) := Nat.mul_mul_mul_comm _ _ _ _)
  refine ⟨s != t, c', q', e1.trans r1, r2, ?_⟩
  rw [Int.natAbs_mul, own_sg2, x2, y2]
theorem own_ddiv {x y : UInt64} {N : Int} {i j : Nat} (hx : OwnDy x N j) (hy : OwnDy y ((2 ^ i : Nat) : Int) 0) (hb : N.natAbs < 2 ^ 53) (hj : j + i ≤ 1074) : OwnDy (FP.ddiv x y) N (j + i) := by
  obtain ⟨s, c, q, ex, x1, x2⟩ := hx
  obtain ⟨t, d, r, ey, y1, y2⟩ := hy
  have fx := val64_fits x
  have fy := val64_fits y
  rw [ex] at fx
  rw [ey] at fy
  have hq := qmin_b64
  have g1 := fx.2.1
  have g2 := fy.2.1
  rw [Int.natAbs_natCast] at y1 y2
  rw [Nat.pow_zero, Nat.mul_one] at y1
  have p1 := Nat.two_pow_pos i
  have p2 := own_Up
  have ht : t = false := by
    cases t
    · rfl
    · have y3 : -((2 ^ i : Nat) : Int) = ((2 ^ i : Nat) : Int) := y2
      omega
  subst ht
  have hd : d ≠ 0 := fun hd => by
    rw [hd, own_iu, Nat.zero_mul] at y1
    have := Nat.mul_pos p1 p2
    omega
  have b1 : (s != false) = s := by cases s <;> rfl
  have e1 : val64 (FP.ddiv x y) = roundRatio b64 s c d (q - r) := by
    refine (val64_ddiv x y).trans ?_
    rw [ex, ey]
    refine (if_neg hd).trans ?_
    rw [b1]
  obtain ⟨c', q', r1, r2⟩ := own_rx (s := s) (A := c) (B := d) (N := N.natAbs) (e := q - r) (j := j + i) (K := (r - b64.qmin).toNat + (-b64.qmin).toNat) (Nat.pos_of_ne_zero hd) hb hj (by omega) (by
    have hk : (q - r + ((j + i : Nat) : Int) + (((r - b64.qmin).toNat + (-b64.qmin).toNat : Nat) : Int)).toNat = (q - b64.qmin).toNat + (j + i) + (-b64.qmin).toNat := by omega
    rw [hk, Nat.pow_add, Nat.pow_add, Nat.pow_add, Nat.pow_add, ← own_Ue]
    rw [own_iu] at x1 y1
    calc c * (2 ^ (q - b64.qmin).toNat * (2 ^ j * 2 ^ i) * OwnU) = c * 2 ^ (q - b64.qmin).toNat * 2 ^ j * (2 ^ i * OwnU) := own_ac2 _ _ _ _ _
      _ = N.natAbs * OwnU * (d * 2 ^ (r - b64.qmin).toNat) := by rw [x1, y1]
      _ = N.natAbs * d * (2 ^ (r - b64.qmin).toNat * OwnU) := own_ac3 _ _ _ _)
  exact ⟨s, c', q', e1.trans r1, r2, x2⟩
theorem own_dsum {s t : Bool} {c d : Nat} {q r N M : Int} {j : Nat} (fx : Core.fits b64 (.fin s c q)) (fy : Core.fits b64 (.fin t d r)) (x1 : inUnits c q b64.qmin * 2 ^ j = N.natAbs * OwnU) (x2 : signed s N.natAbs = N) (y1 : inUnits d r b64.qmin * 2 ^ j = M.natAbs * OwnU) (y2 : signed t M.natAbs = M)
    (hb : (N + M).natAbs < 2 ^ 53) (hj : j ≤ 1074) : ∃ u c' q', round b64 (exactSum (.fin s c q) (.fin t d r)) = .fin u c' q' ∧ inUnits c' q' b64.qmin * 2 ^ j = (N + M).natAbs * OwnU ∧ signed u (N + M).natAbs = N + M := by
  obtain ⟨sg, n, e, h1, h2, h3⟩ := sum_units fx fy
  have hq := qmin_b64
  have p2 := own_Up
  have h4 : signed sg (inUnits n e b64.qmin * 2 ^ j) = (N + M) * ((OwnU : Nat) : Int) := by
    rw [signed_mul, h3]
    show (signed s (inUnits c q b64.qmin) + signed t (inUnits d r b64.qmin)) * _ = _
    rw [Int.add_mul, ← signed_mul, ← signed_mul, x1, y1, signed_mul, signed_mul, x2, y2, Int.add_mul]
  have h5 : inUnits n e b64.qmin * 2 ^ j = (N + M).natAbs * OwnU := by
    have := congrArg Int.natAbs h4
    rw [natAbs_signed, Int.natAbs_mul, Int.natAbs_natCast] at this
    exact this
  obtain ⟨c', q', r1, r2⟩ := own_rx (s := sg) (A := n) (B := 1) (N := (N + M).natAbs) (e := e) (j := j) (K := (-b64.qmin).toNat) (by decide) hb hj (by omega) (by
    have hk : (e + (j : Int) + ((-b64.qmin).toNat : Nat)).toNat = (e - b64.qmin).toNat + j := by omega
    rw [hk, Nat.mul_one, Nat.pow_add, ← Nat.mul_assoc, ← own_Ue]
    exact h5)
  refine ⟨sg, c', q', ?_, r2, ?_⟩
  · rw [h1]
    exact r1
  · rw [h5, signed_mul] at h4
    exact Int.eq_of_mul_eq_mul_right (by omega) h4
theorem own_dadd {x y : UInt64} {N M : Int} {j : Nat} (hx : OwnDy x N j) (hy : OwnDy y M j) (hb : (N + M).natAbs < 2 ^ 53) (hj : j ≤ 1074) : OwnDy (FP.dadd x y) (N + M) j := by
  obtain ⟨s, c, q, ex, x1, x2⟩ := hx
  obtain ⟨t, d, r, ey, y1, y2⟩ := hy
  have fx := val64_fits x
  have fy := val64_fits y
  rw [ex] at fx
  rw [ey] at fy
  obtain ⟨u, c', q', h1, h2, h3⟩ := own_dsum fx fy x1 x2 y1 y2 hb hj
  refine ⟨u, c', q', (val64_dadd x y).trans ?_, h2, h3⟩
  rw [ex, ey]
  exact h1
theorem own_dsub {x y : UInt64} {N M : Int} {j : Nat} (hx : OwnDy x N j) (hy : OwnDy y M j) (hb : (N + -M).natAbs < 2 ^ 53) (hj : j ≤ 1074) : OwnDy (FP.dsub x y) (N + -M) j := by
  obtain ⟨s, c, q, ex, x1, x2⟩ := hx
  obtain ⟨t, d, r, ey, y1, y2⟩ := hy
  have fx := val64_fits x
  have fy := val64_fits y
  rw [ex] at fx
  rw [ey] at fy
  have fy' : Core.fits b64 (.fin (!t) d r) := fy
  have y3 : signed (!t) (-M).natAbs = -M := by
    rw [Int.natAbs_neg]
    have : ∀ k : Nat, signed (!t) k = -signed t k := by
      intro k
      cases t
      · rfl
      · show (k : Int) = - -(k : Int)
        omega
    rw [this, y2]
  obtain ⟨u, c', q', h1, h2, h3⟩ := own_dsum fx fy' x1 x2 (by rw [Int.natAbs_neg]; exact y1) y3 hb hj
  refine ⟨u, c', q', (val64_dsub x y).trans ?_, h2, h3⟩
  rw [ex, ey]
  exact h1
theorem own_deq {x y : UInt64} {N : Int} {j : Nat} (hx : OwnDy x N j) (hy : OwnDy y N j) : (cmpValue (FP.dcmp x y) .l) = (0 : Int32) := by
  obtain ⟨n1, z1⟩ := own_dz hx
  obtain ⟨n2, z2⟩ := own_dz hy
  have p1 := Nat.two_pow_pos j
  have : zval b64 (val64 x) = zval b64 (val64 y) := Int.eq_of_mul_eq_mul_right (a := ((2 ^ j : Nat) : Int)) (by omega) (z1.trans z2.symm)
  rw [show FP.dcmp x y = _ from dcmp_zval n1 n2, cmpV_l]
  exact (cmpInt_l_eq _).mpr (congrArg some ((compare_eq_iff _ _).mpr this))
theorem own_dord {x y : UInt64} {N M : Int} {j : Nat} (hx : OwnDy x N j) (hy : OwnDy y M j) : FP.dcmp x y = some (compare N M) := by
  obtain ⟨n1, z1⟩ := own_dz hx
  obtain ⟨n2, z2⟩ := own_dz hy
  have p1 := Nat.two_pow_pos j
  have p2 := own_Up
  rw [show FP.dcmp x y = _ from dcmp_zval n1 n2]
  refine congrArg some (compare_congr ?_ ?_)
  · have a1 : zval b64 (val64 x) < zval b64 (val64 y) ↔ zval b64 (val64 x) * ((2 ^ j : Nat) : Int) < zval b64 (val64 y) * ((2 ^ j : Nat) : Int) := ⟨fun h => Int.mul_lt_mul_of_pos_right h (by omega), fun h => Int.lt_of_mul_lt_mul_right h (by omega)⟩
    have a2 : N < M ↔ N * ((OwnU : Nat) : Int) < M * ((OwnU : Nat) : Int) := ⟨fun h => Int.mul_lt_mul_of_pos_right h (by omega), fun h => Int.lt_of_mul_lt_mul_right h (by omega)⟩
    rw [a1, a2, z1, z2]
  · constructor
    · intro h
      rw [h] at z1
      exact Int.eq_of_mul_eq_mul_right (a := ((OwnU : Nat) : Int)) (by omega) (z1.symm.trans z2)
    · intro h
      rw [h] at z1
      exact Int.eq_of_mul_eq_mul_right (a := ((2 ^ j : Nat) : Int)) (by omega) (z1.trans z2.symm)
end OwnDY
section OwnTwo
open Jvm.FP Jvm.FP.Core Jvm.Free.Fl
theorem own_f4 : (4616189618054758400 : UInt64) = FP.l2d 4 := by decide +kernel
theorem own_f256 : (4643211215818981376 : UInt64) = FP.l2d 256 := by decide +kernel
theorem own_f1 : (4607182418800017408 : UInt64) = FP.l2d 1 := by decide +kernel
theorem own_i53 (x : Int32) : B53 x.toInt64 := by
  have a := c_i2l x
  have b := rng32 x
  exact ⟨by omega, by omega⟩
theorem own_di2d (x : Int32) : OwnDy (FP.i2d x) x.toInt 0 := by
  rw [i2d_w, ← c_i2l x]
  exact own_dl2d (own_i53 x)
theorem own_d4 : OwnDy (4616189618054758400 : UInt64) ((2 ^ 2 : Nat) : Int) 0 := by
  rw [own_f4]
  have := own_dl2d (a := 4) ⟨by decide, by decide⟩
  rw [show (4 : Int64).toInt = ((2 ^ 2 : Nat) : Int) by decide] at this
  exact this
theorem own_d256 : OwnDy (4643211215818981376 : UInt64) ((2 ^ 8 : Nat) : Int) 0 := by
  rw [own_f256]
  have := own_dl2d (a := 256) ⟨by decide, by decide⟩
  rw [show (256 : Int64).toInt = ((2 ^ 8 : Nat) : Int) by decide] at this
  exact this
theorem own_d1 : OwnDy (4607182418800017408 : UInt64) 4 2 := by
  have := own_dl2d (a := 1) ⟨by decide, by decide⟩
  rw [← own_f1, show (1 : Int64).toInt = 1 by decide] at this
  have h := own_dscale 2 this
  rw [show (1 : Int) * ((2 ^ 2 : Nat) : Int) = 4 by decide, Nat.zero_add] at h
  exact h
theorem own_d0 : OwnDy (0 : UInt64) 0 0 := by
  have := own_dl2d (a := 0) ⟨by decide, by decide⟩
  rw [RoadKit.l2d_zero, show (0 : Int64).toInt = 0 by decide] at this
  exact this
theorem own_mb {x y : Int} {A B : Nat} (h1 : x.natAbs ≤ A) (h2 : y.natAbs ≤ B) : (x * y).natAbs ≤ A * B := by
  rw [Int.natAbs_mul]
  exact Nat.mul_le_mul h1 h2
theorem own_prod {x y : Int64} {A B : Nat} (h1 : x.toInt.natAbs ≤ A) (h2 : y.toInt.natAbs ≤ B) (h : A * B < 9223372036854775808) : (x * y).toInt = x.toInt * y.toInt ∧ (x.toInt * y.toInt).natAbs ≤ A * B := by
  have m := own_mb h1 h2
  have c := c_lmul x y
  have r := rng64 (x * y)
  refine ⟨?_, m⟩
  generalize x.toInt * y.toInt = z at *
  generalize A * B = w at *
  omega
/-- what the law's ints are -/
def OwnI (kk aa bb ct ln : Int32) (mm pw : Int64) (k : Nat) : Prop := k ≤ 31 ∧ pw.toInt = ((2 ^ k : Nat) : Int) ∧ pw.toInt ≤ 2147483648 ∧ 0 ≤ ln.toInt ∧ ln.toInt < pw.toInt ∧ mm.toInt = pw.toInt - ln.toInt ∧ 0 ≤ ct.toInt ∧ ct.toInt ≤ ln.toInt ∧ 0 ≤ aa.toInt ∧ aa.toInt ≤ 256 ∧ 0 ≤ kk.toInt ∧ kk.toInt ≤ 4 ∧ 1 ≤ bb.toInt ∧ bb.toInt ≤ 256
section
variable {kk aa bb ct ln : Int32} {mm pw : Int64} {k : Nat}
theorem own_lam (H : OwnI kk aa bb ct ln mm pw k) : OwnDy (FP.ddiv (FP.i2d kk) (4616189618054758400 : UInt64)) kk.toInt 2 := by
  obtain ⟨-, -, -, -, -, -, -, -, -, -, h1, h2, -, -⟩ := H
  exact own_ddiv (own_di2d kk) own_d4 (by omega) (by decide)
theorem own_pa (H : OwnI kk aa bb ct ln mm pw k) : OwnDy (FP.ddiv (FP.i2d aa) (4643211215818981376 : UInt64)) aa.toInt 8 := by
  obtain ⟨-, -, -, -, -, -, -, -, h1, h2, -, -, -, -⟩ := H
  exact own_ddiv (own_di2d aa) own_d256 (by omega) (by decide)
theorem own_pb (H : OwnI kk aa bb ct ln mm pw k) : OwnDy (FP.ddiv (FP.i2d bb) (4643211215818981376 : UInt64)) bb.toInt 8 := by
  obtain ⟨-, -, -, -, -, -, -, -, -, -, -, -, h1, h2⟩ := H
  exact own_ddiv (own_di2d bb) own_d256 (by omega) (by decide)
theorem own_mu (H : OwnI kk aa bb ct ln mm pw k) : OwnDy (FP.l2d mm) mm.toInt 0 := by
  obtain ⟨-, -, g, g1, g2, g3, -⟩ := H
  exact own_dl2d ⟨by omega, by omega⟩
theorem own_e1 (H : OwnI kk aa bb ct ln mm pw k) : OwnDy (FP.dsub (4607182418800017408 : UInt64) (FP.ddiv (FP.i2d kk) (4616189618054758400 : UInt64))) (4 + -kk.toInt) 2 := by
  have := own_lam H
  obtain ⟨-, -, -, -, -, -, -, -, -, -, h1, h2, -, -⟩ := H
  exact own_dsub own_d1 this (by omega) (by decide)
theorem own_e2 (H : OwnI kk aa bb ct ln mm pw k) : OwnDy (FP.dmul (FP.l2d mm) (FP.ddiv (FP.i2d aa) (4643211215818981376 : UInt64))) (mm.toInt * aa.toInt) 8 := by
  have a := own_mu H
  have b := own_pa H
  obtain ⟨-, -, g, g1, g2, g3, -, -, h1, h2, -, -, -, -⟩ := H
  have := own_mb (x := mm.toInt) (y := aa.toInt) (A := 2147483648) (B := 256) (by omega) (by omega)
  exact own_dmul a b (by omega) (by decide)
theorem own_e3 (H : OwnI kk aa bb ct ln mm pw k) : OwnDy (FP.dadd (FP.i2d ct) (FP.dmul (FP.l2d mm) (FP.ddiv (FP.i2d aa) (4643211215818981376 : UInt64)))) (ct.toInt * 256 + mm.toInt * aa.toInt) 8 := by
  have b := own_e2 H
  have a := own_dscale 8 (own_di2d ct)
  rw [show ((2 ^ 8 : Nat) : Int) = 256 by decide, Nat.zero_add] at a
  obtain ⟨-, -, g, g1, g2, g3, q1, q2, h1, h2, -, -, -, -⟩ := H
  have := own_mb (x := mm.toInt) (y := aa.toInt) (A := 2147483648) (B := 256) (by omega) (by omega)
  exact own_dadd a b (by omega) (by decide)
theorem own_e4 (H : OwnI kk aa bb ct ln mm pw k) : OwnDy (FP.dmul (FP.dsub (4607182418800017408 : UInt64) (FP.ddiv (FP.i2d kk) (4616189618054758400 : UInt64))) (FP.dadd (FP.i2d ct) (FP.dmul (FP.l2d mm) (FP.ddiv (FP.i2d aa) (4643211215818981376 : UInt64))))) ((4 + -kk.toInt) * (ct.toInt * 256 + mm.toInt * aa.toInt)) 10 ∧ ((4 + -kk.toInt) * (ct.toInt * 256 + mm.toInt * aa.toInt)).natAbs ≤ 4398046511104 := by
  have a := own_e1 H
  have b := own_e3 H
  obtain ⟨-, -, g, g1, g2, g3, q1, q2, h1, h2, k1, k2, -, -⟩ := H
  have m1 := own_mb (x := mm.toInt) (y := aa.toInt) (A := 2147483648) (B := 256) (by omega) (by omega)
  have m2 := own_mb (x := 4 + -kk.toInt) (y := ct.toInt * 256 + mm.toInt * aa.toInt) (A := 4) (B := 1099511627776) (by omega) (by omega)
  exact ⟨own_dmul a b (by omega) (by decide), m2⟩
theorem own_e5 (H : OwnI kk aa bb ct ln mm pw k) : OwnDy (FP.dadd (FP.i2d ln) (FP.l2d mm)) ((2 ^ k : Nat) : Int) 0 := by
  have a := own_mu H
  obtain ⟨-, p, g, g1, g2, g3, -⟩ := H
  have := own_dadd (own_di2d ln) a (by omega) (by decide)
  rw [← p, show pw.toInt = ln.toInt + mm.toInt by omega]
  exact this
theorem own_e6 (H : OwnI kk aa bb ct ln mm pw k) : OwnDy (FP.ddiv (FP.dmul (FP.dsub (4607182418800017408 : UInt64) (FP.ddiv (FP.i2d kk) (4616189618054758400 : UInt64))) (FP.dadd (FP.i2d ct) (FP.dmul (FP.l2d mm) (FP.ddiv (FP.i2d aa) (4643211215818981376 : UInt64))))) (FP.dadd (FP.i2d ln) (FP.l2d mm))) ((4 + -kk.toInt) * (ct.toInt * 256 + mm.toInt * aa.toInt)) (10 + k) := by
  obtain ⟨a, b⟩ := own_e4 H
  have c := own_e5 H
  obtain ⟨g, -⟩ := H
  exact own_ddiv a c (by omega) (by omega)
theorem own_e7 (H : OwnI kk aa bb ct ln mm pw k) : OwnDy (FP.dmul (FP.ddiv (FP.i2d kk) (4616189618054758400 : UInt64)) (FP.ddiv (FP.i2d bb) (4643211215818981376 : UInt64))) (kk.toInt * bb.toInt) 10 := by
  have a := own_lam H
  have b := own_pb H
  obtain ⟨-, -, -, -, -, -, -, -, -, -, k1, k2, b1, b2⟩ := H
  have := own_mb (x := kk.toInt) (y := bb.toInt) (A := 4) (B := 256) (by omega) (by omega)
  exact own_dmul a b (by omega) (by decide)
theorem own_num (H : OwnI kk aa bb ct ln mm pw k) : (4 + -kk.toInt) * (ct.toInt * 256 + mm.toInt * aa.toInt) + kk.toInt * bb.toInt * ((2 ^ k : Nat) : Int) = ((((4 : Int64) - kk.toInt64) * (((256 : Int64) * ct.toInt64) + (mm * aa.toInt64))) + ((kk.toInt64 * bb.toInt64) * pw)).toInt ∧ ((((4 : Int64) - kk.toInt64) * (((256 : Int64) * ct.toInt64) + (mm * aa.toInt64))) + ((kk.toInt64 * bb.toInt64) * pw)).toInt.natAbs ≤ 8796093022208 := by
  have e4' := (own_e4 H).2
  obtain ⟨-, p, g, g1, g2, g3, q1, q2, h1, h2, k1, k2, b1, b2⟩ := H
  have c4 : (4 : Int64).toInt = 4 := by decide
  have c256 : (256 : Int64).toInt = 256 := by decide
  have ik := c_i2l kk
  have ic := c_i2l ct
  have ia := c_i2l aa
  have ib := c_i2l bb
  have s1 := c_lsub 4 kk.toInt64
  have r1 := rng64 (4 - kk.toInt64)
  have v1 : ((4 : Int64) - kk.toInt64).toInt = 4 + -kk.toInt := by omega
  obtain ⟨v2, w2⟩ := own_prod (x := (256 : Int64)) (y := ct.toInt64) (A := 256) (B := 2147483648) (by decide) (by omega) (by decide)
  obtain ⟨v3, w3⟩ := own_prod (x := mm) (y := aa.toInt64) (A := 2147483648) (B := 256) (by omega) (by omega) (by decide)
  have s4 := c_ladd ((256 : Int64) * ct.toInt64) (mm * aa.toInt64)
  have r4 := rng64 ((256 : Int64) * ct.toInt64 + mm * aa.toInt64)
  rw [ia] at v3 w3
  have v4 : ((256 : Int64) * ct.toInt64 + mm * aa.toInt64).toInt = ct.toInt * 256 + mm.toInt * aa.toInt := by
    rw [c256, ic] at v2
    generalize mm.toInt * aa.toInt = z at *
    omega
  have w4 : (ct.toInt * 256 + mm.toInt * aa.toInt).natAbs ≤ 1099511627776 := by
    generalize mm.toInt * aa.toInt = z at *
    omega
  obtain ⟨v5, w5⟩ := own_prod (x := (4 : Int64) - kk.toInt64) (y := (256 : Int64) * ct.toInt64 + mm * aa.toInt64) (A := 4) (B := 1099511627776) (by rw [v1]; omega) (by rw [v4]; exact w4) (by decide)
  obtain ⟨v6, w6⟩ := own_prod (x := kk.toInt64) (y := bb.toInt64) (A := 4) (B := 256) (by omega) (by omega) (by decide)
  obtain ⟨v7, w7⟩ := own_prod (x := kk.toInt64 * bb.toInt64) (y := pw) (A := 4 * 256) (B := 2147483648) (by rw [v6]; exact w6) (by omega) (by decide)
  have s8 := c_ladd (((4 : Int64) - kk.toInt64) * ((256 : Int64) * ct.toInt64 + mm * aa.toInt64)) (kk.toInt64 * bb.toInt64 * pw)
  have r8 := rng64 ((((4 : Int64) - kk.toInt64) * (((256 : Int64) * ct.toInt64) + (mm * aa.toInt64))) + ((kk.toInt64 * bb.toInt64) * pw))
  rw [v1, v4] at v5 w5
  rw [v6] at v7 w7
  rw [ik, ib, p] at v7 w7
  rw [v5, v7] at s8
  generalize (4 + -kk.toInt) * (ct.toInt * 256 + mm.toInt * aa.toInt) = z1 at *
  generalize kk.toInt * bb.toInt * ((2 ^ k : Nat) : Int) = z2 at *
  omega
theorem own_act (H : OwnI kk aa bb ct ln mm pw k) : OwnDy (FP.dadd (FP.ddiv (FP.dmul (FP.dsub (4607182418800017408 : UInt64) (FP.ddiv (FP.i2d kk) (4616189618054758400 : UInt64))) (FP.dadd (FP.i2d ct) (FP.dmul (FP.l2d mm) (FP.ddiv (FP.i2d aa) (4643211215818981376 : UInt64))))) (FP.dadd (FP.i2d ln) (FP.l2d mm))) (FP.dmul (FP.ddiv (FP.i2d kk) (4616189618054758400 : UInt64)) (FP.ddiv (FP.i2d bb) (4643211215818981376 : UInt64)))) ((((4 : Int64) - kk.toInt64) * (((256 : Int64) * ct.toInt64) + (mm * aa.toInt64))) + ((kk.toInt64 * bb.toInt64) * pw)).toInt (10 + k) := by
  obtain ⟨a, b⟩ := own_num H
  have c := own_e6 H
  have d := own_dscale k (own_e7 H)
  rw [← a]
  refine own_dadd c d ?_ ?_
  · rw [a]
    omega
  · obtain ⟨g, -⟩ := H
    omega
theorem own_exp (H : OwnI kk aa bb ct ln mm pw k) : OwnDy (FP.ddiv (FP.l2d ((((4 : Int64) - kk.toInt64) * (((256 : Int64) * ct.toInt64) + (mm * aa.toInt64))) + ((kk.toInt64 * bb.toInt64) * pw))) (FP.l2d ((1024 : Int64) * pw))) ((((4 : Int64) - kk.toInt64) * (((256 : Int64) * ct.toInt64) + (mm * aa.toInt64))) + ((kk.toInt64 * bb.toInt64) * pw)).toInt (10 + k) := by
  obtain ⟨a, b⟩ := own_num H
  obtain ⟨g0, p, g, -⟩ := H
  have pp := Nat.two_pow_pos k
  obtain ⟨v, w⟩ := own_prod (x := (1024 : Int64)) (y := pw) (A := 1024) (B := 2147483648) (by decide) (by omega) (by decide)
  have e : (1024 : Int64).toInt = ((2 ^ 10 : Nat) : Int) := by decide
  have v' : ((1024 : Int64) * pw).toInt = 1024 * pw.toInt := by rw [v, show (1024 : Int64).toInt = 1024 by decide]
  have d := own_dl2d (a := (1024 : Int64) * pw) ⟨by rw [v']; omega, by rw [v']; omega⟩
  rw [v, e, p, ← Int.natCast_mul, ← Nat.pow_add] at d
  have := own_ddiv (own_dl2d (a := ((((4 : Int64) - kk.toInt64) * (((256 : Int64) * ct.toInt64) + (mm * aa.toInt64))) + ((kk.toInt64 * bb.toInt64) * pw))) ⟨by omega, by omega⟩) d (by omega) (by omega)
  rw [Nat.zero_add] at this
  exact this
theorem own_two (H : OwnI kk aa bb ct ln mm pw k) : (cmpValue (FP.dcmp (FP.dadd (FP.ddiv (FP.dmul (FP.dsub (4607182418800017408 : UInt64) (FP.ddiv (FP.i2d kk) (4616189618054758400 : UInt64))) (FP.dadd (FP.i2d ct) (FP.dmul (FP.l2d mm) (FP.ddiv (FP.i2d aa) (4643211215818981376 : UInt64))))) (FP.dadd (FP.i2d ln) (FP.l2d mm))) (FP.dmul (FP.ddiv (FP.i2d kk) (4616189618054758400 : UInt64)) (FP.ddiv (FP.i2d bb) (4643211215818981376 : UInt64)))) (FP.ddiv (FP.l2d ((((4 : Int64) - kk.toInt64) * (((256 : Int64) * ct.toInt64) + (mm * aa.toInt64))) + ((kk.toInt64 * bb.toInt64) * pw))) (FP.l2d ((1024 : Int64) * pw)))) .l) = (0 : Int32) := own_deq (own_act H) (own_exp H)
theorem own_s0 (H : OwnI kk aa bb ct ln mm pw k) : ¬ ((cmpValue (FP.dcmp (FP.ddiv (FP.i2d kk) (4616189618054758400 : UInt64)) (0 : UInt64)) .l) < (0 : Int32)) := by
  have h1 := own_lam H
  have h2 := own_dscale 2 own_d0
  rw [Int.zero_mul, Nat.zero_add] at h2
  obtain ⟨-, -, -, -, -, -, -, -, -, -, k1, k2, -, -⟩ := H
  rw [own_dord h1 h2, cmpV_l]
  intro g
  rcases (cmpInt_l_lt _).mp g with g | g
  · have := (compare_lt_iff _ _).mp (Option.some.inj g)
    omega
  · cases g
theorem own_s1 (H : OwnI kk aa bb ct ln mm pw k) : ¬ ((0 : Int32) < (cmpValue (FP.dcmp (FP.ddiv (FP.i2d kk) (4616189618054758400 : UInt64)) (4607182418800017408 : UInt64)) .g)) := by
  have h1 := own_lam H
  obtain ⟨-, -, -, -, -, -, -, -, -, -, k1, k2, -, -⟩ := H
  rw [own_dord h1 own_d1, cmpV_g]
  intro g
  rcases (cmpInt_g_gt _).mp g with g | g
  · have := (compare_gt_iff _ _).mp (Option.some.inj g)
    omega
  · cases g
theorem own_s2 (H : OwnI kk aa bb ct ln mm pw k) : (0 : Int32) < (cmpValue (FP.dcmp (FP.l2d mm) (0 : UInt64)) .l) := by
  have h1 := own_mu H
  obtain ⟨-, -, g, g1, g2, g3, -⟩ := H
  rw [own_dord h1 own_d0, cmpV_l]
  exact (cmpInt_l_gt _).mpr (congrArg some ((compare_gt_iff _ _).mpr (by omega)))
theorem own_s3 (mm : Int64) : (cmpValue (FP.dcmp (FP.l2d mm) (9218868437227405312 : UInt64)) .g) < (0 : Int32) := by
  rw [dcmp_pinf (Jvm.Free.Fl.l2d_fin mm)]
  decide
end
theorem own_rem64 (x y : Int64) (h1 : 0 ≤ x.toInt) (h2 : 1 ≤ y.toInt) : 0 ≤ (x % y).toInt ∧ (x % y).toInt < y.toInt := by
  rw [Int64.toInt_mod, Int.tmod_eq_emod_of_nonneg h1]
  exact ⟨Int.emod_nonneg _ (by omega), Int.emod_lt_of_pos _ (by omega)⟩
theorem own_msk (x : Int32) : 0 ≤ (x &&& (2147483647 : Int32)).toInt ∧ (x &&& (2147483647 : Int32)).toInt < 2147483648 := by
  have h1 := c_mask x 2147483647 31 (by decide) (by decide)
  omega
theorem own_pw {x0 ee : Int32} {pw : Int64} (h1 : ee = ((x0 &&& (2147483647 : Int32)) % (32 : Int32))) (h2 : pw = ((1 : Int64) <<< (ee &&& 0x3f).toInt64)) : ∃ k : Nat, k ≤ 31 ∧ pw.toInt = ((2 ^ k : Nat) : Int) ∧ 1 ≤ pw.toInt ∧ pw.toInt ≤ 2147483648 := by
  obtain ⟨m1, m2⟩ := own_msk x0
  have r := (c_irem (x0 &&& (2147483647 : Int32)) (32 : Int32) 32 (by decide)).1 m1
  rw [← h1] at r
  have e1 : 0 ≤ ee.toInt ∧ ee.toInt < 32 := by omega
  have e2 : ee.toBitVec.toNat = ee.toInt.toNat := by
    have q : ee.toBitVec.toInt = ee.toInt := rfl
    rw [BitVec.toInt_eq_toNat_cond] at q
    have := ee.toBitVec.isLt
    split at q <;> omega
  have s := c_lshl (1 : Int64) ee ee.toInt.toNat (by rw [e2]; omega)
  rw [← h2] at s
  have o : (1 : Int64).toInt = 1 := by decide
  rw [o, Int.one_mul] at s
  have k1 : ee.toInt.toNat ≤ 31 := by omega
  generalize ee.toInt.toNat = k at *
  have p1 : 2 ^ k ≤ 2 ^ 31 := Nat.pow_le_pow_right (by decide) k1
  have p2 := Nat.two_pow_pos k
  have rr := rng64 pw
  have p3 : (2 : Nat) ^ 31 = 2147483648 := by decide
  refine ⟨k, k1, ?_, ?_, ?_⟩ <;> omega
theorem own_ints {x0 x1 x2 x3 x4 x5 ee ln ct aa kk bb : Int32} {pw mm : Int64} (h1 : ee = ((x0 &&& (2147483647 : Int32)) % (32 : Int32))) (h2 : pw = ((1 : Int64) <<< (ee &&& 0x3f).toInt64)) (h3 : ln = ((x1 &&& (2147483647 : Int32)).toInt64 % pw).toInt32) (h4 : mm = (pw - ln.toInt64))
    (h5 : ct = ((x2 &&& (2147483647 : Int32)).toInt64 % (ln.toInt64 + (1 : Int64))).toInt32) (h6 : aa = ((x3 &&& (2147483647 : Int32)) % (257 : Int32))) (h7 : kk = ((x4 &&& (2147483647 : Int32)) % (5 : Int32))) (h8 : bb = ((1 : Int32) + (x5 &&& (255 : Int32)))) : ∃ k, OwnI kk aa bb ct ln mm pw k := by
  obtain ⟨k, k1, k2, k3, k4⟩ := own_pw h1 h2
  obtain ⟨a1, a2⟩ := own_msk x1
  have b1 := c_i2l (x1 &&& (2147483647 : Int32))
  obtain ⟨c1, c2⟩ := own_rem64 (x1 &&& (2147483647 : Int32)).toInt64 pw (by omega) k3
  have d1 := c_l2i ((x1 &&& (2147483647 : Int32)).toInt64 % pw)
  rw [← h3] at d1
  have e1 := rng32 ln
  have f1 := c_i2l ln
  have f2 := c_lsub pw ln.toInt64
  rw [← h4] at f2
  have f3 := rng64 mm
  have l1 : ln.toInt = ((x1 &&& (2147483647 : Int32)).toInt64 % pw).toInt := by omega
  have o : (1 : Int64).toInt = 1 := by decide
  have g1 := c_ladd ln.toInt64 (1 : Int64)
  have g2 := rng64 (ln.toInt64 + (1 : Int64))
  have g3 : (ln.toInt64 + (1 : Int64)).toInt = ln.toInt + 1 := by omega
  obtain ⟨i1, i2⟩ := own_msk x2
  have j1 := c_i2l (x2 &&& (2147483647 : Int32))
  obtain ⟨j2, j3⟩ := own_rem64 (x2 &&& (2147483647 : Int32)).toInt64 (ln.toInt64 + (1 : Int64)) (by omega) (by omega)
  have j4 := c_l2i ((x2 &&& (2147483647 : Int32)).toInt64 % (ln.toInt64 + (1 : Int64)))
  rw [← h5] at j4
  have j5 := rng32 ct
  obtain ⟨m1, m2⟩ := own_msk x3
  have m3 := (c_irem (x3 &&& (2147483647 : Int32)) (257 : Int32) 257 (by decide)).1 m1
  rw [← h6] at m3
  obtain ⟨n1, n2⟩ := own_msk x4
  have n3 := (c_irem (x4 &&& (2147483647 : Int32)) (5 : Int32) 5 (by decide)).1 n1
  rw [← h7] at n3
  have q1 := c_mask x5 255 8 (by decide) (by decide)
  have q2 := c_iadd (1 : Int32) (x5 &&& (255 : Int32))
  rw [← h8] at q2
  have q3 := rng32 bb
  have o3 : (1 : Int32).toInt = 1 := by decide
  refine ⟨k, k1, k2, k4, ?_, ?_, ?_, ?_, ?_, ?_, ?_, ?_, ?_, ?_, ?_⟩ <;> omega
end OwnTwo
theorem own_retD {p : Program} {l : Launch} {e : Env} {R : Room} {s : State} {m : MethodId} {args : Array Value} {below : List Frame} {meth : Method} {c : Code} {T : State} {locs : List Loc} {cells slots : Nat} {P : OwnP} {rc rs : Nat} (X : Stand p l e R s m args below meth c T locs cells slots) (hx : p.tables.exec = Jvm.exec) (hlk : meth.locks = false) {pc : Nat} {Ls : Array Slot} {z : UInt64} {rest : List Value} (hret : meth.sig.returnType = some .double)
    (hd : decode c.code pc = .ok (.dreturn, 1)) (hc : cells ≤ rc) (hs : slots ≤ rs) (hP : P (some (.double z)) T.heap locs) : OwnG p.tables e below s P rc rs (T.setTop (mkF m pc Ls (.double z :: rest))) :=
  own_ret X hx hlk hret rfl (Or.inr (Or.inr (Or.inl ⟨rfl, rfl, z, rfl⟩))) hd hc hs hP
theorem own_sa {Z : State} {a0 : Array Value} (hw : ∀ d ∈ tables_1, d.before a0 Z = true) : ∀ d ∈ Bundle.stringAtoms, d.before a0 Z = true := fun d hd => hw d ((by decide +kernel : ∀ d ∈ Bundle.stringAtoms, d ∈ tables_1) d hd)
abbrev OwnCS (l : Launch) (Z : State) (y : MethodName) (bytes : ByteArray) (maxL : Nat) (ret : Option FieldType) (ws : List Jvm.Cond) (rm : Room) (as' : Array Value) (h0 : Heap) (P : OwnP) : Prop :=
  MetFree l y (head1 (Jvm.Cond.code y bytes maxL ret :: ws) rm) (fun a U => a = as' ∧ Z.Warmed39 U.vm ∧ U.heap = h0) (fun _ _ _ _ _ => True) (fun _ U o U' => ∃ v L, o = .returned v ∧ P v U'.heap L ∧ ReturnedEndW U o U' L rm.cells rm.slots)
theorem own_entryS {l : Launch} {Z : State} {y : MethodName} {bytes : ByteArray} {maxL : Nat} {ret : Option FieldType} {ws : List Jvm.Cond} {rm : Room} {as' : Array Value} {h0 : Heap} {P : OwnP} {Ls : Array Slot} (hpl : plainFor y = true) (ef : ∀ m, entryFrame m as' maxL = mkF m 0 Ls [])
    (body : ∀ (p : Program) (e : Env) (s : State) (m : MethodId) (below : List Frame) (meth : Method) (c : Code) (T : State), Stand p l e rm s m as' below meth c T [] 0 0 → OwnX Z p s m meth c bytes maxL ret y.cls y.name → T.heap = h0 → OwnW p.tables e below s P rm.cells rm.slots (T.setTop (mkF m 0 Ls []))) :
    OwnCS l Z y bytes maxL ret ws rm as' h0 P := by
  refine MetFree.of_bodySF hpl hisR ?_
  intro p e s m args below meth c s₁ Bd hml0 hP hK
  obtain ⟨rfl, hZ, hh⟩ := hP
  have e0 : s₁.heap = h0 := by rw [← hh, Bd.state]; rfl
  obtain ⟨s₂, o, h1, h2⟩ := body p e s m below meth c s₁ (Stand.of_body Bd) ⟨Bd.exec, Bd.bytes, hml0, findClass_of_methodNamed Bd.named, (name_of_methodNamed Bd.named Bd.method).1, Bd.returns, Bd.notSynchronized, hZ⟩ e0
  exact ⟨s₂, o, castTop (ef m) h1, h2⟩
theorem own_initS {p : Program} {l : Launch} {e : Env} {R : Room} {s : State} {m : MethodId} {args : Array Value} {below : List Frame} {meth : Method} {c : Code} {T : State} {locs : List Loc} {cells slots : Nat} {Z : State} {a0 : Array Value} {h : Heap} {vm0 : Vm} {k0 : Nat} (X : Stand p l e R (s.setVm vm0) m args below meth c T locs cells slots) (hx : p.tables.exec = Jvm.exec) (hZ : Z.Warmed39 (s.setVm vm0).vm) (hS : s.Since vm0 k0) (hk : k0 ≤ h.size) {own : String} {index : Nat} {y : MethodName} {bytes : ByteArray} {maxL : Nat} {rm : Room} {as' : Array Value} {P : OwnP} (hy1 : y.name = "<init>")
    (hown : (s.setVm vm0).vm.findClass own = some m.cls) (w1 : (Jvm.Cond.methodLink own index y).before a0 Z = true) (w2 : (Jvm.Cond.instanceMethod y).before a0 Z = true) (w3 : (Jvm.Cond.initialized y.cls).before a0 Z = true) (w4 : (Jvm.Cond.code y bytes maxL none).before a0 Z = true) (hy : y.cls ≠ "java/lang/invoke/MethodHandle" ∧ y.cls ≠ "java/lang/invoke/VarHandle")
    (hM : OwnCS l Z y bytes maxL none [] rm as' h P) (eT : T.heap = h) {pc : Nat} {Ls : Array Slot} {a : Addr} {argsL rest : List Value} (W : Nat) {st : List Value} (hsz : Ls.size = c.maxLocals) (hlen : ∀ sig, parseMethodDescriptor y.desc = some sig → argsL.length = sig.parameters.length) (has : (.ref a :: argsL).toArray = as') (hst : st = argsL.reverse ++ .ref a :: rest) (hW : (rest.map fun v => v.category).sum ≤ W)
    (hd : decode c.code pc = .ok (.invokespecial index, 3)) (hf : rm.frames + 1 ≤ R.frames) (hl : W + (maxL + 11) + rm.locals ≤ R.locals) (hc : cells + rm.cells ≤ R.cells) (hs : slots + rm.slots ≤ R.slots) :
    ∃ v T' L, Stand p l e R (s.setVm T'.vm) m args below meth c T' (locs ++ L) (cells + rm.cells) (slots + rm.slots) ∧ P v T'.heap L ∧ s.Since T'.vm T'.heap.size ∧ Z.Warmed39 (s.setVm T'.vm).vm ∧ (s.setVm T'.vm).vm.findClass own = some m.cls ∧ ∀ t, Steps p.tables e below (T'.setTop (mkF m (pc + 3) Ls (v.toList ++ rest))) t → Steps p.tables e below (T.setTop (mkF m pc Ls st)) t := by
  obtain ⟨v, vm₁, ⟨T', L', k', n'⟩, -, X', h2, g, ⟨L, hQ, l1, l2, l3⟩, stp⟩ := X.specialBackS hx hy1 hown (mvT hZ w1) (mvT hZ w2) (mvT hZ w4) hy (backOfS (W := W) hM hZ w4 w3 hf hl) (g := mkF m pc Ls st) rfl hsz (Steps.refl _) (a := a) (argsL := argsL) (rest := rest) hlen hst (by show 2 * 0 + _ ≤ _; omega) hd (fun _ _ => ⟨has, eT, hc, hs⟩)
  dsimp only [Pt.U, Pt.locs, Pt.cells, Pt.slots] at X' h2 g l1 l2 l3 stp hQ
  subst l1 l2 l3
  obtain ⟨X2, S2, Z2, O2⟩ := rebS hS (show k0 ≤ T.heap.size by rw [eT]; exact hk) X' h2 g hZ hown
  exact ⟨v, T', L, X2, hQ, S2, Z2, O2, fun t k => stp.trans k⟩
theorem d4_0 : decode jdk_31_method_11_code 0 = .ok (.aload_n 0, 1) := by decide +kernel
theorem d4_1 : decode jdk_31_method_11_code 1 = .ok (.ifnonnull 12, 3) := by decide +kernel
theorem d4_4 : decode jdk_31_method_11_code 4 = .ok (.new 84, 3) := by decide +kernel
theorem d4_7 : decode jdk_31_method_11_code 7 = .ok (.dup, 1) := by decide +kernel
theorem d4_8 : decode jdk_31_method_11_code 8 = .ok (.aload_n 1, 1) := by decide +kernel
theorem d4_9 : decode jdk_31_method_11_code 9 = .ok (.invokespecial 87, 3) := by decide +kernel
theorem d4_12 : decode jdk_31_method_11_code 12 = .ok (.athrow, 1) := by decide +kernel
theorem d4_13 : decode jdk_31_method_11_code 13 = .ok (.aload_n 0, 1) := by decide +kernel
theorem d4_14 : decode jdk_31_method_11_code 14 = .ok (.areturn, 1) := by decide +kernel
theorem pf_java_util_Objects_requireNonNull__Ljava_lang_Object_Ljava_lang_String__Ljava_lang_Object_ : plainFor (⟨"java/util/Objects", "requireNonNull", "(Ljava/lang/Object;Ljava/lang/String;)Ljava/lang/Object;"⟩ : MethodName) = true := by first | exact plainFor_of_name (by first | (simp [plainName, overriddenIn]; done) | decide +kernel) | exact Jvm.Free.JP.mathPlain rfl (by decide +kernel) | decide +kernel
theorem ef_rm4 (m : MethodId) (q0 : Addr) (q1 : Addr) : entryFrame m #[(.ref q0), (.ref q1)] 2 = mkF m 0 #[rv q0, rv q1] [] := by first | (simp [entryFrame, mkF, argsToLocals, Value.category]; done) | rfl
set_option maxRecDepth 65536 in
set_option maxHeartbeats 40000000 in
theorem rm4 (l : Launch) (Z : State) (a0 : Array Value) (hw : ∀ d ∈ tables_1, d.before a0 Z = true) (ws : List Jvm.Cond) (x0 : Addr) (x1 : Addr) (h0 : Heap) :
    OwnC l Z (⟨"java/util/Objects", "requireNonNull", "(Ljava/lang/Object;Ljava/lang/String;)Ljava/lang/Object;"⟩ : MethodName) jdk_31_method_11_code 2 (some (.object "java/lang/Object")) ws ({ frames := 0, cells := 0, slots := 0, locals := 0 } : Room) #[(.ref x0), (.ref x1)] h0 (OwnPure (.ref x0) h0) := by
  refine own_entry pf_java_util_Objects_requireNonNull__Ljava_lang_Object_Ljava_lang_String__Ljava_lang_Object_ (fun m => ef_rm4 m x0 x1) ?_
  intro p e s m below meth c T0 X0 hC e0
  obtain ⟨hx, hby, hml, hown, hnm, hret, hlk, hZ⟩ := hC
  refine own_go T0 m 1 #[rv x0, rv x1] [(.ref x0)] (fun t k => XS.aloadN X0.here hx rfl (hb hby d4_0) rfl rfl k) ?_
  refine own_go T0 m 13 #[rv x0, rv x1] [] (fun t k => XS.ifnonnullYes X0.here hx rfl (pc0 := 1) (pc' := 13) rfl (hb hby d4_1) rfl (by decide) (by decide) k) ?_
  refine own_go T0 m 14 #[rv x0, rv x1] [(.ref x0)] (fun t k => XS.aloadN X0.here hx rfl (hb hby d4_13) rfl rfl k) ?_
  refine own_retA X0 hx hlk hret rfl rfl rfl (hb hby d4_14) (by decide) (by decide) ?_
  exact ⟨rfl, e0, rfl⟩
theorem d5_0 : decode prog_40_method_5_code 0 = .ok (.dload_n 1, 1) := by decide +kernel
theorem d5_1 : decode prog_40_method_5_code 1 = .ok (.dconst 0, 1) := by decide +kernel
theorem d5_2 : decode prog_40_method_5_code 2 = .ok (.dcmp .l, 1) := by decide +kernel
theorem d5_3 : decode prog_40_method_5_code 3 = .ok (.ifCond .lt 9, 3) := by decide +kernel
theorem d5_6 : decode prog_40_method_5_code 6 = .ok (.dload_n 1, 1) := by decide +kernel
theorem d5_7 : decode prog_40_method_5_code 7 = .ok (.dconst 1, 1) := by decide +kernel
theorem d5_8 : decode prog_40_method_5_code 8 = .ok (.dcmp .g, 1) := by decide +kernel
theorem d5_9 : decode prog_40_method_5_code 9 = .ok (.ifCond .le 18, 3) := by decide +kernel
theorem d5_12 : decode prog_40_method_5_code 12 = .ok (.new 180, 3) := by decide +kernel
theorem d5_15 : decode prog_40_method_5_code 15 = .ok (.dup, 1) := by decide +kernel
theorem d5_16 : decode prog_40_method_5_code 16 = .ok (.aload_n 0, 1) := by decide +kernel
theorem d5_17 : decode prog_40_method_5_code 17 = .ok (.dload_n 1, 1) := by decide +kernel
theorem d5_18 : decode prog_40_method_5_code 18 = .ok (.invokedynamic 182, 5) := by decide +kernel
theorem d5_23 : decode prog_40_method_5_code 23 = .ok (.invokespecial 186, 3) := by decide +kernel
theorem d5_26 : decode prog_40_method_5_code 26 = .ok (.athrow, 1) := by decide +kernel
theorem d5_27 : decode prog_40_method_5_code 27 = .ok (.dload_n 1, 1) := by decide +kernel
theorem d5_28 : decode prog_40_method_5_code 28 = .ok (.dreturn, 1) := by decide +kernel
theorem pf_com_example_bowerbird_bowerbird_core_QueryLikelihood_checkShare__Ljava_lang_String_D_D : plainFor (⟨OwnK1, "checkShare", "(Ljava/lang/String;D)D"⟩ : MethodName) = true := by first | exact plainFor_of_name (by first | (simp [plainName, overriddenIn]; done) | decide +kernel) | exact Jvm.Free.JP.mathPlain rfl (by decide +kernel) | decide +kernel
theorem ef_rm5 (m : MethodId) (q0 : Addr) (q1 : UInt64) : entryFrame m #[(.ref q0), (.double q1)] 3 = mkF m 0 #[rv q0, .val (.double q1), .second] [] := by first | (simp [entryFrame, mkF, argsToLocals, Value.category]; done) | rfl
set_option maxRecDepth 65536 in
set_option maxHeartbeats 40000000 in
theorem rm5 (l : Launch) (Z : State) (a0 : Array Value) (hw : ∀ d ∈ tables_1, d.before a0 Z = true) (ws : List Jvm.Cond) (x0 : Addr) (x1 : UInt64) (h0 : Heap) (s0 : ¬ ((cmpValue (FP.dcmp x1 (0 : UInt64)) .l) < (0 : Int32))) (s1 : ¬ ((0 : Int32) < (cmpValue (FP.dcmp x1 (4607182418800017408 : UInt64)) .g))) :
    OwnC l Z (⟨OwnK1, "checkShare", "(Ljava/lang/String;D)D"⟩ : MethodName) prog_40_method_5_code 3 (some .double) ws ({ frames := 0, cells := 0, slots := 0, locals := 0 } : Room) #[(.ref x0), (.double x1)] h0 (OwnPure (.double x1) h0) := by
  refine own_entry pf_com_example_bowerbird_bowerbird_core_QueryLikelihood_checkShare__Ljava_lang_String_D_D (fun m => ef_rm5 m x0 x1) ?_
  intro p e s m below meth c T0 X0 hC e0
  obtain ⟨hx, hby, hml, hown, hnm, hret, hlk, hZ⟩ := hC
  refine own_go T0 m 1 #[rv x0, .val (.double x1), .second] [(.double x1)] (fun t k => XS.dloadN X0.here hx rfl (hb hby d5_0) rfl k) ?_
  refine own_go T0 m 2 #[rv x0, .val (.double x1), .second] [(.double (0 : UInt64)), (.double x1)] (fun t k => XS.dconst0 X0.here hx rfl (hb hby d5_1) rfl k) ?_
  refine own_go T0 m 3 #[rv x0, .val (.double x1), .second] [(.int (cmpValue (FP.dcmp x1 (0 : UInt64)) .l))] (fun t k => XS.dcmpS X0.here hx rfl (hb hby d5_2) rfl rfl k) ?_
  refine own_go T0 m 6 #[rv x0, .val (.double x1), .second] [] (fun t k => XS.ifNo X0.here hx rfl (hb hby d5_3) rfl ((if0 _ _).trans (flt s0).1) k) ?_
  refine own_go T0 m 7 #[rv x0, .val (.double x1), .second] [(.double x1)] (fun t k => XS.dloadN X0.here hx rfl (hb hby d5_6) rfl k) ?_
  refine own_go T0 m 8 #[rv x0, .val (.double x1), .second] [(.double (4607182418800017408 : UInt64)), (.double x1)] (fun t k => XS.dconst1 X0.here hx rfl (hb hby d5_7) rfl k) ?_
  refine own_go T0 m 9 #[rv x0, .val (.double x1), .second] [(.int (cmpValue (FP.dcmp x1 (4607182418800017408 : UInt64)) .g))] (fun t k => XS.dcmpS X0.here hx rfl (hb hby d5_8) rfl rfl k) ?_
  refine own_go T0 m 27 #[rv x0, .val (.double x1), .second] [] (fun t k => XS.ifYes X0.here hx rfl (pc0 := 9) (pc' := 27) rfl (hb hby d5_9) rfl ((if0 _ _).trans (flt s1).2.2.2) (by decide) (by decide) k) ?_
  refine own_go T0 m 28 #[rv x0, .val (.double x1), .second] [(.double x1)] (fun t k => XS.dloadN X0.here hx rfl (hb hby d5_27) rfl k) ?_
  refine own_retD X0 hx hlk hret (hb hby d5_28) (by decide) (by decide) ?_
  exact ⟨rfl, e0, rfl⟩
theorem d6_0 : decode prog_40_method_6_code 0 = .ok (.dload_n 0, 1) := by decide +kernel
theorem d6_1 : decode prog_40_method_6_code 1 = .ok (.dconst 0, 1) := by decide +kernel
theorem d6_2 : decode prog_40_method_6_code 2 = .ok (.dcmp .l, 1) := by decide +kernel
theorem d6_3 : decode prog_40_method_6_code 3 = .ok (.ifCond .le 11, 3) := by decide +kernel
theorem d6_6 : decode prog_40_method_6_code 6 = .ok (.dload_n 0, 1) := by decide +kernel
theorem d6_7 : decode prog_40_method_6_code 7 = .ok (.ldc2_w 191, 3) := by decide +kernel
theorem d6_10 : decode prog_40_method_6_code 10 = .ok (.dcmp .g, 1) := by decide +kernel
theorem d6_11 : decode prog_40_method_6_code 11 = .ok (.ifCond .lt 17, 3) := by decide +kernel
theorem d6_14 : decode prog_40_method_6_code 14 = .ok (.new 180, 3) := by decide +kernel
theorem d6_17 : decode prog_40_method_6_code 17 = .ok (.dup, 1) := by decide +kernel
theorem d6_18 : decode prog_40_method_6_code 18 = .ok (.dload_n 0, 1) := by decide +kernel
theorem d6_19 : decode prog_40_method_6_code 19 = .ok (.invokedynamic 193, 5) := by decide +kernel
theorem d6_24 : decode prog_40_method_6_code 24 = .ok (.invokespecial 186, 3) := by decide +kernel
theorem d6_27 : decode prog_40_method_6_code 27 = .ok (.athrow, 1) := by decide +kernel
theorem d6_28 : decode prog_40_method_6_code 28 = .ok (.dload_n 0, 1) := by decide +kernel
theorem d6_29 : decode prog_40_method_6_code 29 = .ok (.dreturn, 1) := by decide +kernel
theorem pf_com_example_bowerbird_bowerbird_core_QueryLikelihood_checkMu__D_D : plainFor (⟨OwnK1, "checkMu", "(D)D"⟩ : MethodName) = true := by first | exact plainFor_of_name (by first | (simp [plainName, overriddenIn]; done) | decide +kernel) | exact Jvm.Free.JP.mathPlain rfl (by decide +kernel) | decide +kernel
theorem ef_rm6 (m : MethodId) (q0 : UInt64) : entryFrame m #[(.double q0)] 2 = mkF m 0 #[.val (.double q0), .second] [] := by first | (simp [entryFrame, mkF, argsToLocals, Value.category]; done) | rfl
set_option maxRecDepth 65536 in
set_option maxHeartbeats 40000000 in
theorem rm6 (l : Launch) (Z : State) (a0 : Array Value) (hw : ∀ d ∈ tables_1, d.before a0 Z = true) (ws : List Jvm.Cond) (x0 : UInt64) (h0 : Heap) (s2 : (0 : Int32) < (cmpValue (FP.dcmp x0 (0 : UInt64)) .l)) (s3 : (cmpValue (FP.dcmp x0 (9218868437227405312 : UInt64)) .g) < (0 : Int32)) :
    OwnC l Z (⟨OwnK1, "checkMu", "(D)D"⟩ : MethodName) prog_40_method_6_code 2 (some .double) ws ({ frames := 0, cells := 0, slots := 0, locals := 0 } : Room) #[(.double x0)] h0 (OwnPure (.double x0) h0) := by
  refine own_entry pf_com_example_bowerbird_bowerbird_core_QueryLikelihood_checkMu__D_D (fun m => ef_rm6 m x0) ?_
  intro p e s m below meth c T0 X0 hC e0
  obtain ⟨hx, hby, hml, hown, hnm, hret, hlk, hZ⟩ := hC
  refine own_go T0 m 1 #[.val (.double x0), .second] [(.double x0)] (fun t k => XS.dloadN X0.here hx rfl (hb hby d6_0) rfl k) ?_
  refine own_go T0 m 2 #[.val (.double x0), .second] [(.double (0 : UInt64)), (.double x0)] (fun t k => XS.dconst0 X0.here hx rfl (hb hby d6_1) rfl k) ?_
  refine own_go T0 m 3 #[.val (.double x0), .second] [(.int (cmpValue (FP.dcmp x0 (0 : UInt64)) .l))] (fun t k => XS.dcmpS X0.here hx rfl (hb hby d6_2) rfl rfl k) ?_
  refine own_go T0 m 6 #[.val (.double x0), .second] [] (fun t k => XS.ifNo X0.here hx rfl (hb hby d6_3) rfl ((if0 _ _).trans (tlt s2).2.2.2) k) ?_
  refine own_go T0 m 7 #[.val (.double x0), .second] [(.double x0)] (fun t k => XS.dloadN X0.here hx rfl (hb hby d6_6) rfl k) ?_
  refine own_go T0 m 10 #[.val (.double x0), .second] [(.double (9218868437227405312 : UInt64)), (.double x0)] (X0.ldc2DoubleC hx hown (mvT hZ (own_w hw 54 rfl)) (g := (mkF m 7 #[.val (.double x0), .second] [(.double x0)])) rfl (hb hby d6_7)) ?_
  refine own_go T0 m 11 #[.val (.double x0), .second] [(.int (cmpValue (FP.dcmp x0 (9218868437227405312 : UInt64)) .g))] (fun t k => XS.dcmpS X0.here hx rfl (hb hby d6_10) rfl rfl k) ?_
  refine own_go T0 m 28 #[.val (.double x0), .second] [] (fun t k => XS.ifYes X0.here hx rfl (pc0 := 11) (pc' := 28) rfl (hb hby d6_11) rfl ((if0 _ _).trans (tlt s3).1) (by decide) (by decide) k) ?_
  refine own_go T0 m 29 #[.val (.double x0), .second] [(.double x0)] (fun t k => XS.dloadN X0.here hx rfl (hb hby d6_28) rfl k) ?_
  refine own_retD X0 hx hlk hret (hb hby d6_29) (by decide) (by decide) ?_
  exact ⟨rfl, e0, rfl⟩
theorem d7_0 : decode prog_54_method_2_code 0 = .ok (.dconst 1, 1) := by decide +kernel
theorem d7_1 : decode prog_54_method_2_code 1 = .ok (.aload_n 0, 1) := by decide +kernel
theorem d7_2 : decode prog_54_method_2_code 2 = .ok (.getfield 15, 3) := by decide +kernel
theorem d7_5 : decode prog_54_method_2_code 5 = .ok (.dsub, 1) := by decide +kernel
theorem d7_6 : decode prog_54_method_2_code 6 = .ok (.iload_n 1, 1) := by decide +kernel
theorem d7_7 : decode prog_54_method_2_code 7 = .ok (.i2d, 1) := by decide +kernel
theorem d7_8 : decode prog_54_method_2_code 8 = .ok (.aload_n 0, 1) := by decide +kernel
theorem d7_9 : decode prog_54_method_2_code 9 = .ok (.getfield 22, 3) := by decide +kernel
theorem d7_12 : decode prog_54_method_2_code 12 = .ok (.dload_n 3, 1) := by decide +kernel
theorem d7_13 : decode prog_54_method_2_code 13 = .ok (.dmul, 1) := by decide +kernel
theorem d7_14 : decode prog_54_method_2_code 14 = .ok (.dadd, 1) := by decide +kernel
theorem d7_15 : decode prog_54_method_2_code 15 = .ok (.dmul, 1) := by decide +kernel
theorem d7_16 : decode prog_54_method_2_code 16 = .ok (.iload_n 2, 1) := by decide +kernel
theorem d7_17 : decode prog_54_method_2_code 17 = .ok (.i2d, 1) := by decide +kernel
theorem d7_18 : decode prog_54_method_2_code 18 = .ok (.aload_n 0, 1) := by decide +kernel
theorem d7_19 : decode prog_54_method_2_code 19 = .ok (.getfield 22, 3) := by decide +kernel
theorem d7_22 : decode prog_54_method_2_code 22 = .ok (.dadd, 1) := by decide +kernel
theorem d7_23 : decode prog_54_method_2_code 23 = .ok (.ddiv, 1) := by decide +kernel
theorem d7_24 : decode prog_54_method_2_code 24 = .ok (.aload_n 0, 1) := by decide +kernel
theorem d7_25 : decode prog_54_method_2_code 25 = .ok (.getfield 15, 3) := by decide +kernel
theorem d7_28 : decode prog_54_method_2_code 28 = .ok (.dload 5, 2) := by decide +kernel
theorem d7_30 : decode prog_54_method_2_code 30 = .ok (.dmul, 1) := by decide +kernel
theorem d7_31 : decode prog_54_method_2_code 31 = .ok (.dadd, 1) := by decide +kernel
theorem d7_32 : decode prog_54_method_2_code 32 = .ok (.dreturn, 1) := by decide +kernel
theorem pf_com_example_bowerbird_bowerbird_core_TwoStage_probability__IIDD_D : plainFor (⟨OwnK0, "probability", "(IIDD)D"⟩ : MethodName) = true := by first | exact plainFor_of_name (by first | (simp [plainName, overriddenIn]; done) | decide +kernel) | exact Jvm.Free.JP.mathPlain rfl (by decide +kernel) | decide +kernel
theorem ef_rm7 (m : MethodId) (q0 : Addr) (q1 : Int32) (q2 : Int32) (q3 : UInt64) (q4 : UInt64) : entryFrame m #[(.ref q0), (.int q1), (.int q2), (.double q3), (.double q4)] 7 = mkF m 0 #[rv q0, iv q1, iv q2, .val (.double q3), .second, .val (.double q4), .second] [] := by first | (simp [entryFrame, mkF, argsToLocals, Value.category]; done) | rfl
set_option maxRecDepth 65536 in
set_option maxHeartbeats 40000000 in
theorem rm7 (l : Launch) (Z : State) (a0 : Array Value) (hw : ∀ d ∈ tables_1, d.before a0 Z = true) (ws : List Jvm.Cond) (x0 : Addr) (x1 : Int32) (x2 : Int32) (x3 : UInt64) (x4 : UInt64) (u1 u2 : UInt64) (h0 : Heap) (F1 : Fld Z h0 x0 OwnK0 "lambda" "D" (.double u1)) (F2 : Fld Z h0 x0 OwnK0 "mu" "D" (.double u2)) (n0 : Jvm.Free.Fl.NoNaN64 (FP.dsub (4607182418800017408 : UInt64) u1)) (n1 : Jvm.Free.Fl.NoNaN64 (FP.dmul u2 x3)) (n2 : Jvm.Free.Fl.NoNaN64 (FP.dadd (FP.i2d x1) (FP.dmul u2 x3))) (n3 : Jvm.Free.Fl.NoNaN64 (FP.dmul (FP.dsub (4607182418800017408 : UInt64) u1) (FP.dadd (FP.i2d x1) (FP.dmul u2 x3)))) (n4 : Jvm.Free.Fl.NoNaN64 (FP.dadd (FP.i2d x2) u2)) (n5 : Jvm.Free.Fl.NoNaN64 (FP.ddiv (FP.dmul (FP.dsub (4607182418800017408 : UInt64) u1) (FP.dadd (FP.i2d x1) (FP.dmul u2 x3))) (FP.dadd (FP.i2d x2) u2))) (n6 : Jvm.Free.Fl.NoNaN64 (FP.dmul u1 x4)) (n7 : Jvm.Free.Fl.NoNaN64 (FP.dadd (FP.ddiv (FP.dmul (FP.dsub (4607182418800017408 : UInt64) u1) (FP.dadd (FP.i2d x1) (FP.dmul u2 x3))) (FP.dadd (FP.i2d x2) u2)) (FP.dmul u1 x4))) :
    OwnC l Z (⟨OwnK0, "probability", "(IIDD)D"⟩ : MethodName) prog_54_method_2_code 7 (some .double) ws ({ frames := 0, cells := 0, slots := 0, locals := 0 } : Room) #[(.ref x0), (.int x1), (.int x2), (.double x3), (.double x4)] h0 (OwnPure (.double (FP.dadd (FP.ddiv (FP.dmul (FP.dsub (4607182418800017408 : UInt64) u1) (FP.dadd (FP.i2d x1) (FP.dmul u2 x3))) (FP.dadd (FP.i2d x2) u2)) (FP.dmul u1 x4))) h0) := by
  refine own_entry pf_com_example_bowerbird_bowerbird_core_TwoStage_probability__IIDD_D (fun m => ef_rm7 m x0 x1 x2 x3 x4) ?_
  intro p e s m below meth c T0 X0 hC e0
  obtain ⟨hx, hby, hml, hown, hnm, hret, hlk, hZ⟩ := hC
  refine own_go T0 m 1 #[rv x0, iv x1, iv x2, .val (.double x3), .second, .val (.double x4), .second] [(.double (4607182418800017408 : UInt64))] (fun t k => XS.dconst1 X0.here hx rfl (hb hby d7_0) rfl k) ?_
  refine own_go T0 m 2 #[rv x0, iv x1, iv x2, .val (.double x3), .second, .val (.double x4), .second] [(.ref x0), (.double (4607182418800017408 : UInt64))] (fun t k => XS.aloadN X0.here hx rfl (hb hby d7_1) rfl rfl k) ?_
  obtain ⟨T1, X1, e1, st1⟩ := getF X0 hx hZ hown (host := "") (Or.inl (own_w hw 48 rfl)) Via.refl e0 F1 (g := (mkF m 2 #[rv x0, iv x1, iv x2, .val (.double x3), .second, .val (.double x4), .second] [(.ref x0), (.double (4607182418800017408 : UInt64))])) rfl rfl (hb hby d7_2)
  refine own_go T1 m 5 #[rv x0, iv x1, iv x2, .val (.double x3), .second, .val (.double x4), .second] [(.double u1), (.double (4607182418800017408 : UInt64))] (st1) ?_
  refine own_go T1 m 6 #[rv x0, iv x1, iv x2, .val (.double x3), .second, .val (.double x4), .second] [(.double (FP.dsub (4607182418800017408 : UInt64) u1))] (fun t k => XS.dsubS X1.here hx rfl (hb hby d7_5) rfl n0 rfl k) ?_
  refine own_go T1 m 7 #[rv x0, iv x1, iv x2, .val (.double x3), .second, .val (.double x4), .second] [(.int x1), (.double (FP.dsub (4607182418800017408 : UInt64) u1))] (fun t k => XS.iloadN X1.here hx rfl (hb hby d7_6) rfl k) ?_
  refine own_go T1 m 8 #[rv x0, iv x1, iv x2, .val (.double x3), .second, .val (.double x4), .second] [(.double (FP.i2d x1)), (.double (FP.dsub (4607182418800017408 : UInt64) u1))] (fun t k => XS.i2dS X1.here hx rfl (hb hby d7_7) rfl rfl k) ?_
  refine own_go T1 m 9 #[rv x0, iv x1, iv x2, .val (.double x3), .second, .val (.double x4), .second] [(.ref x0), (.double (FP.i2d x1)), (.double (FP.dsub (4607182418800017408 : UInt64) u1))] (fun t k => XS.aloadN X1.here hx rfl (hb hby d7_8) rfl rfl k) ?_
  obtain ⟨T2, X2, e2, st2⟩ := getF X1 hx hZ hown (host := "") (Or.inl (own_w hw 55 rfl)) Via.refl e1 F2 (g := (mkF m 9 #[rv x0, iv x1, iv x2, .val (.double x3), .second, .val (.double x4), .second] [(.ref x0), (.double (FP.i2d x1)), (.double (FP.dsub (4607182418800017408 : UInt64) u1))])) rfl rfl (hb hby d7_9)
  refine own_go T2 m 12 #[rv x0, iv x1, iv x2, .val (.double x3), .second, .val (.double x4), .second] [(.double u2), (.double (FP.i2d x1)), (.double (FP.dsub (4607182418800017408 : UInt64) u1))] (st2) ?_
  refine own_go T2 m 13 #[rv x0, iv x1, iv x2, .val (.double x3), .second, .val (.double x4), .second] [(.double x3), (.double u2), (.double (FP.i2d x1)), (.double (FP.dsub (4607182418800017408 : UInt64) u1))] (fun t k => XS.dloadN X2.here hx rfl (hb hby d7_12) rfl k) ?_
  refine own_go T2 m 14 #[rv x0, iv x1, iv x2, .val (.double x3), .second, .val (.double x4), .second] [(.double (FP.dmul u2 x3)), (.double (FP.i2d x1)), (.double (FP.dsub (4607182418800017408 : UInt64) u1))] (fun t k => XS.dmulS X2.here hx rfl (hb hby d7_13) rfl n1 rfl k) ?_
  refine own_go T2 m 15 #[rv x0, iv x1, iv x2, .val (.double x3), .second, .val (.double x4), .second] [(.double (FP.dadd (FP.i2d x1) (FP.dmul u2 x3))), (.double (FP.dsub (4607182418800017408 : UInt64) u1))] (fun t k => XS.daddS X2.here hx rfl (hb hby d7_14) rfl n2 rfl k) ?_
  refine own_go T2 m 16 #[rv x0, iv x1, iv x2, .val (.double x3), .second, .val (.double x4), .second] [(.double (FP.dmul (FP.dsub (4607182418800017408 : UInt64) u1) (FP.dadd (FP.i2d x1) (FP.dmul u2 x3))))] (fun t k => XS.dmulS X2.here hx rfl (hb hby d7_15) rfl n3 rfl k) ?_
  refine own_go T2 m 17 #[rv x0, iv x1, iv x2, .val (.double x3), .second, .val (.double x4), .second] [(.int x2), (.double (FP.dmul (FP.dsub (4607182418800017408 : UInt64) u1) (FP.dadd (FP.i2d x1) (FP.dmul u2 x3))))] (fun t k => XS.iloadN X2.here hx rfl (hb hby d7_16) rfl k) ?_
  refine own_go T2 m 18 #[rv x0, iv x1, iv x2, .val (.double x3), .second, .val (.double x4), .second] [(.double (FP.i2d x2)), (.double (FP.dmul (FP.dsub (4607182418800017408 : UInt64) u1) (FP.dadd (FP.i2d x1) (FP.dmul u2 x3))))] (fun t k => XS.i2dS X2.here hx rfl (hb hby d7_17) rfl rfl k) ?_
  refine own_go T2 m 19 #[rv x0, iv x1, iv x2, .val (.double x3), .second, .val (.double x4), .second] [(.ref x0), (.double (FP.i2d x2)), (.double (FP.dmul (FP.dsub (4607182418800017408 : UInt64) u1) (FP.dadd (FP.i2d x1) (FP.dmul u2 x3))))] (fun t k => XS.aloadN X2.here hx rfl (hb hby d7_18) rfl rfl k) ?_
  obtain ⟨T3, X3, e3, st3⟩ := getF X2 hx hZ hown (host := "") (Or.inl (own_w hw 55 rfl)) Via.refl e2 F2 (g := (mkF m 19 #[rv x0, iv x1, iv x2, .val (.double x3), .second, .val (.double x4), .second] [(.ref x0), (.double (FP.i2d x2)), (.double (FP.dmul (FP.dsub (4607182418800017408 : UInt64) u1) (FP.dadd (FP.i2d x1) (FP.dmul u2 x3))))])) rfl rfl (hb hby d7_19)
  refine own_go T3 m 22 #[rv x0, iv x1, iv x2, .val (.double x3), .second, .val (.double x4), .second] [(.double u2), (.double (FP.i2d x2)), (.double (FP.dmul (FP.dsub (4607182418800017408 : UInt64) u1) (FP.dadd (FP.i2d x1) (FP.dmul u2 x3))))] (st3) ?_
  refine own_go T3 m 23 #[rv x0, iv x1, iv x2, .val (.double x3), .second, .val (.double x4), .second] [(.double (FP.dadd (FP.i2d x2) u2)), (.double (FP.dmul (FP.dsub (4607182418800017408 : UInt64) u1) (FP.dadd (FP.i2d x1) (FP.dmul u2 x3))))] (fun t k => XS.daddS X3.here hx rfl (hb hby d7_22) rfl n4 rfl k) ?_
  refine own_go T3 m 24 #[rv x0, iv x1, iv x2, .val (.double x3), .second, .val (.double x4), .second] [(.double (FP.ddiv (FP.dmul (FP.dsub (4607182418800017408 : UInt64) u1) (FP.dadd (FP.i2d x1) (FP.dmul u2 x3))) (FP.dadd (FP.i2d x2) u2)))] (fun t k => XS.ddivS X3.here hx rfl (hb hby d7_23) rfl n5 rfl k) ?_
  refine own_go T3 m 25 #[rv x0, iv x1, iv x2, .val (.double x3), .second, .val (.double x4), .second] [(.ref x0), (.double (FP.ddiv (FP.dmul (FP.dsub (4607182418800017408 : UInt64) u1) (FP.dadd (FP.i2d x1) (FP.dmul u2 x3))) (FP.dadd (FP.i2d x2) u2)))] (fun t k => XS.aloadN X3.here hx rfl (hb hby d7_24) rfl rfl k) ?_
  obtain ⟨T4, X4, e4, st4⟩ := getF X3 hx hZ hown (host := "") (Or.inl (own_w hw 48 rfl)) Via.refl e3 F1 (g := (mkF m 25 #[rv x0, iv x1, iv x2, .val (.double x3), .second, .val (.double x4), .second] [(.ref x0), (.double (FP.ddiv (FP.dmul (FP.dsub (4607182418800017408 : UInt64) u1) (FP.dadd (FP.i2d x1) (FP.dmul u2 x3))) (FP.dadd (FP.i2d x2) u2)))])) rfl rfl (hb hby d7_25)
  refine own_go T4 m 28 #[rv x0, iv x1, iv x2, .val (.double x3), .second, .val (.double x4), .second] [(.double u1), (.double (FP.ddiv (FP.dmul (FP.dsub (4607182418800017408 : UInt64) u1) (FP.dadd (FP.i2d x1) (FP.dmul u2 x3))) (FP.dadd (FP.i2d x2) u2)))] (st4) ?_
  refine own_go T4 m 30 #[rv x0, iv x1, iv x2, .val (.double x3), .second, .val (.double x4), .second] [(.double x4), (.double u1), (.double (FP.ddiv (FP.dmul (FP.dsub (4607182418800017408 : UInt64) u1) (FP.dadd (FP.i2d x1) (FP.dmul u2 x3))) (FP.dadd (FP.i2d x2) u2)))] (fun t k => XS.dload X4.here hx rfl (hb hby d7_28) rfl k) ?_
  refine own_go T4 m 31 #[rv x0, iv x1, iv x2, .val (.double x3), .second, .val (.double x4), .second] [(.double (FP.dmul u1 x4)), (.double (FP.ddiv (FP.dmul (FP.dsub (4607182418800017408 : UInt64) u1) (FP.dadd (FP.i2d x1) (FP.dmul u2 x3))) (FP.dadd (FP.i2d x2) u2)))] (fun t k => XS.dmulS X4.here hx rfl (hb hby d7_30) rfl n6 rfl k) ?_
  refine own_go T4 m 32 #[rv x0, iv x1, iv x2, .val (.double x3), .second, .val (.double x4), .second] [(.double (FP.dadd (FP.ddiv (FP.dmul (FP.dsub (4607182418800017408 : UInt64) u1) (FP.dadd (FP.i2d x1) (FP.dmul u2 x3))) (FP.dadd (FP.i2d x2) u2)) (FP.dmul u1 x4)))] (fun t k => XS.daddS X4.here hx rfl (hb hby d7_31) rfl n7 rfl k) ?_
  refine own_retD X4 hx hlk hret (hb hby d7_32) (by decide) (by decide) ?_
  exact ⟨rfl, e4, rfl⟩
theorem d2_0 : decode prog_40_method_2_code 0 = .ok (.aload_n 0, 1) := by decide +kernel
theorem d2_1 : decode prog_40_method_2_code 1 = .ok (.invokespecial 1, 3) := by decide +kernel
theorem d2_4 : decode prog_40_method_2_code 4 = .ok (.aload_n 0, 1) := by decide +kernel
theorem d2_5 : decode prog_40_method_2_code 5 = .ok (.aload_n 1, 1) := by decide +kernel
theorem d2_6 : decode prog_40_method_2_code 6 = .ok (.ldc 26, 2) := by decide +kernel
theorem d2_8 : decode prog_40_method_2_code 8 = .ok (.invokestatic 15, 3) := by decide +kernel
theorem d2_11 : decode prog_40_method_2_code 11 = .ok (.checkcast 27, 3) := by decide +kernel
theorem d2_14 : decode prog_40_method_2_code 14 = .ok (.putfield 7, 3) := by decide +kernel
theorem d2_17 : decode prog_40_method_2_code 17 = .ok (.aload_n 0, 1) := by decide +kernel
theorem d2_18 : decode prog_40_method_2_code 18 = .ok (.aload_n 2, 1) := by decide +kernel
theorem d2_19 : decode prog_40_method_2_code 19 = .ok (.ldc 13, 2) := by decide +kernel
theorem d2_21 : decode prog_40_method_2_code 21 = .ok (.invokestatic 15, 3) := by decide +kernel
theorem d2_24 : decode prog_40_method_2_code 24 = .ok (.checkcast 21, 3) := by decide +kernel
theorem d2_27 : decode prog_40_method_2_code 27 = .ok (.putfield 23, 3) := by decide +kernel
theorem d2_30 : decode prog_40_method_2_code 30 = .ok (.return_, 1) := by decide +kernel
theorem pf_com_example_bowerbird_bowerbird_core_QueryLikelihood__init___Lcom_example_bowerbird_bowerbird_core_LocalContext_Lcom_example_bowerbird_bowerbird_core_Prior__V : plainFor (⟨OwnK1, "<init>", "(Lcom/example/bowerbird/bowerbird/core/LocalContext;Lcom/example/bowerbird/bowerbird/core/Prior;)V"⟩ : MethodName) = true := by first | exact plainFor_of_name (by first | (simp [plainName, overriddenIn]; done) | decide +kernel) | exact Jvm.Free.JP.mathPlain rfl (by decide +kernel) | decide +kernel
theorem ef_rm2 (m : MethodId) (q0 : Addr) (q1 : Addr) (q2 : Addr) : entryFrame m #[(.ref q0), (.ref q1), (.ref q2)] 3 = mkF m 0 #[rv q0, rv q1, rv q2] [] := by first | (simp [entryFrame, mkF, argsToLocals, Value.category]; done) | rfl
set_option maxRecDepth 65536 in
set_option maxHeartbeats 40000000 in
theorem rm2 (l : Launch) (Z : State) (a0 : Array Value) (hw : ∀ d ∈ tables_1, d.before a0 Z = true) (ws : List Jvm.Cond) (x0 : Addr) (x1 : Addr) (x2 : Addr) (h0 : Heap) (n0 : Nat) (Z0 : n0 ≤ h0.size) (E_x0 : Exa Z h0 x0 OwnK0) (g_x0 : n0 ≤ x0) (F_context : Fld Z h0 x0 OwnK1 "context" "Lcom/example/bowerbird/bowerbird/core/LocalContext;" .null) (F_prior : Fld Z h0 x0 OwnK1 "prior" "Lcom/example/bowerbird/bowerbird/core/Prior;" .null) (F_lambda : Fld Z h0 x0 OwnK0 "lambda" "D" (.double (0 : UInt64))) (F_mu : Fld Z h0 x0 OwnK0 "mu" "D" (.double (0 : UInt64))) (E_x1 : Exa Z h0 x1 OwnK2) (E_x2 : Exa Z h0 x2 OwnK3) (ne1 : x0 ≠ x1) (ne2 : x0 ≠ x2) :
    OwnCS l Z (⟨OwnK1, "<init>", "(Lcom/example/bowerbird/bowerbird/core/LocalContext;Lcom/example/bowerbird/bowerbird/core/Prior;)V"⟩ : MethodName) prog_40_method_2_code 3 none ws ({ frames := 1, cells := 4, slots := 56, locals := 14 } : Room) #[(.ref x0), (.ref x1), (.ref x2)] h0 (fun v h L => v = none ∧ Fr n0 L ∧ Keep h0 h [x0] ∧ Exa Z h x0 OwnK0 ∧ Fld Z h x0 OwnK0 "lambda" "D" (.double (0 : UInt64)) ∧ Fld Z h x0 OwnK0 "mu" "D" (.double (0 : UInt64))) := by
  refine own_entryS pf_com_example_bowerbird_bowerbird_core_QueryLikelihood__init___Lcom_example_bowerbird_bowerbird_core_LocalContext_Lcom_example_bowerbird_bowerbird_core_Prior__V (fun m => ef_rm2 m x0 x1 x2) ?_
  intro p e s m below meth c T0 X0 hC e0
  obtain ⟨hx, hby, hml, hown, hnm, hret, hlk, hZ⟩ := hC
  have N0 := Fr.nil n0
  have K0 := Keep.refl h0 [x0]
  have hS := (State.WarmedH.refl s).since h0.size
  have hk := Nat.le_refl h0.size
  refine ownw_go T0 m 1 #[rv x0, rv x1, rv x2] [(.ref x0)] (fun t k => XS.aloadN X0.here hx rfl (hb hby d2_0) rfl rfl k) ?_
  obtain ⟨T21, X21, e21, st21⟩ := initO X0 hx hZ hown (own_w hw 19 rfl) (own_w hw 20 rfl) (own_w hw 21 rfl) e0 (g := (mkF m 1 #[rv x0, rv x1, rv x2] [(.ref x0)])) rfl (by rw [hml]; rfl) rfl (hb hby d2_1) (by decide) (W := 0) (by show 2 * 0 + _ ≤ _; exact Nat.le_of_eq rfl) (by decide)
  refine ownw_go T21 m 4 #[rv x0, rv x1, rv x2] [] (st21) ?_
  refine ownw_go T21 m 5 #[rv x0, rv x1, rv x2] [(.ref x0)] (fun t k => XS.aloadN X21.here hx rfl (hb hby d2_4) rfl rfl k) ?_
  refine ownw_go T21 m 6 #[rv x0, rv x1, rv x2] [(.ref x1), (.ref x0)] (fun t k => XS.aloadN X21.here hx rfl (hb hby d2_5) rfl rfl k) ?_
  obtain ⟨r22, T22, h22, k22, X22, e22, E22, hS, hk22, hZ, hown, st22⟩ := ldcS (vm0 := s.vm) X21 hx hZ hown (own_w hw 22 rfl) (own_sa hw) e21 hS hk (g := (mkF m 6 #[rv x0, rv x1, rv x2] [(.ref x1), (.ref x0)])) rfl (hb hby d2_6) (n := 28) (by decide) (by decide) (by decide) (by decide)
  have cf23 := E_x0.ext E22
  have cf24 := F_context.ext E22
  have cf25 := F_prior.ext E22
  have cf26 := F_lambda.ext E22
  have cf27 := F_mu.ext E22
  have cf28 := E_x1.ext E22
  have cf29 := E_x2.ext E22
  have hk30 := Nat.le_trans hk E22.1
  have Z_22 : n0 ≤ h22.size := Nat.le_trans Z0 E22.1
  have K_22 : Keep h0 h22 [x0] := K0.ext E22
  refine ownw_go T22 m 8 #[rv x0, rv x1, rv x2] [(.ref r22), (.ref x1), (.ref x0)] (st22) ?_
  obtain ⟨_, T31, L31, X31, ⟨rfl, e31, rfl⟩, st31⟩ := own_static X22 hx hZ (y := (⟨"java/util/Objects", "requireNonNull", "(Ljava/lang/Object;Ljava/lang/String;)Ljava/lang/Object;"⟩ : MethodName)) hown (own_w hw 30 rfl) (own_w hw 31 rfl) (own_w hw 32 rfl) (own_w hw 33 rfl) (by decide) (rm4 l Z a0 hw [] x1 r22 h22) e22 1 (argsL := [(.ref x1), (.ref r22)]) (rest := [(.ref x0)]) (Ls := #[rv x0, rv x1, rv x2]) (by rw [hml]; rfl) (lenOf pd__Ljava_lang_Object_Ljava_lang_String__Ljava_lang_Object_ rfl) rfl rfl (Nat.le_of_eq rfl) (hb hby d2_8) (by decide) (by decide) (by decide) (by decide)
  replace X31 := own_nil X31
  refine ownw_go T31 m 11 #[rv x0, rv x1, rv x2] [(.ref x1), (.ref x0)] (st31) ?_
  obtain ⟨T32, X32, e32, st32⟩ := castY X31 hx hZ hown (own_w hw 34 rfl) e31 (Ins.self cf28) (g := (mkF m 11 #[rv x0, rv x1, rv x2] [(.ref x1), (.ref x0)])) rfl rfl (hb hby d2_11)
  refine ownw_go T32 m 14 #[rv x0, rv x1, rv x2] [(.ref x1), (.ref x0)] (st32) ?_
  obtain ⟨T33, h33, X33, e33, W33, st33⟩ := putF X32 hx hZ hown (host := "") (Or.inl (own_w hw 36 rfl)) Via.refl e32 cf24 cf23 (Or.inr ⟨(own_w hw 37 rfl), rfl, hnm⟩) (own_w hw 8 rfl) (ty := (.object OwnK2)) (by decide) rfl rfl (g := (mkF m 14 #[rv x0, rv x1, rv x2] [(.ref x1), (.ref x0)])) rfl rfl (hb hby d2_14)
  have F33 := cf24.same W33
  have cf34 := cf23.wr W33
  have cf35 := cf25.other W33 (Or.inr (slot_ne (Or.inr (own_w hw 42 rfl)) (Or.inr (own_w hw 37 rfl)) (by decide) (t := (.object OwnK3)) (t' := (.object OwnK2)) (by decide) (by decide)))
  have cf36 := cf26.other W33 (Or.inr (slot_ne (Or.inr (own_w hw 49 rfl)) (Or.inr (own_w hw 37 rfl)) (by decide) (t := .double) (t' := (.object OwnK2)) (by decide) (by decide)))
  have cf37 := cf27.other W33 (Or.inr (slot_ne (Or.inr (own_w hw 56 rfl)) (Or.inr (own_w hw 37 rfl)) (by decide) (t := .double) (t' := (.object OwnK2)) (by decide) (by decide)))
  have cf38 := cf28.wr W33
  have cf39 := cf29.wr W33
  have hk40 := Nat.le_trans hk22 (Keep.of_wr W33).1
  have Z_33 : n0 ≤ h33.size := Nat.le_trans Z_22 (Keep.of_wr W33).1
  have K_33 : Keep h0 h33 [x0] := K_22.wr W33 (own_i 0 rfl)
  have N33 := Fr.snoc X33 N0 g_x0
  refine ownw_go T33 m 17 #[rv x0, rv x1, rv x2] [] (st33) ?_
  refine ownw_go T33 m 18 #[rv x0, rv x1, rv x2] [(.ref x0)] (fun t k => XS.aloadN X33.here hx rfl (hb hby d2_17) rfl rfl k) ?_
  refine ownw_go T33 m 19 #[rv x0, rv x1, rv x2] [(.ref x2), (.ref x0)] (fun t k => XS.aloadN X33.here hx rfl (hb hby d2_18) rfl rfl k) ?_
  obtain ⟨r41, T41, h41, k41, X41, e41, E41, hS, hk41, hZ, hown, st41⟩ := ldcS (vm0 := T22.vm) X33 hx hZ hown (own_w hw 38 rfl) (own_sa hw) e33 hS hk40 (g := (mkF m 19 #[rv x0, rv x1, rv x2] [(.ref x2), (.ref x0)])) rfl (hb hby d2_19) (n := 20) (by decide) (by decide) (by decide) (by decide)
  have cf42 := cf34.ext E41
  have cf43 := cf35.ext E41
  have cf44 := cf36.ext E41
  have cf45 := cf37.ext E41
  have cf46 := cf38.ext E41
  have cf47 := cf39.ext E41
  have hk48 := Nat.le_trans hk40 E41.1
  have cf49 := F33.ext E41
  have Z_41 : n0 ≤ h41.size := Nat.le_trans Z_33 E41.1
  have K_41 : Keep h0 h41 [x0] := K_33.ext E41
  refine ownw_go T41 m 21 #[rv x0, rv x1, rv x2] [(.ref r41), (.ref x2), (.ref x0)] (st41) ?_
  obtain ⟨_, T50, L50, X50, ⟨rfl, e50, rfl⟩, st50⟩ := own_static X41 hx hZ (y := (⟨"java/util/Objects", "requireNonNull", "(Ljava/lang/Object;Ljava/lang/String;)Ljava/lang/Object;"⟩ : MethodName)) hown (own_w hw 30 rfl) (own_w hw 31 rfl) (own_w hw 32 rfl) (own_w hw 33 rfl) (by decide) (rm4 l Z a0 hw [] x2 r41 h41) e41 1 (argsL := [(.ref x2), (.ref r41)]) (rest := [(.ref x0)]) (Ls := #[rv x0, rv x1, rv x2]) (by rw [hml]; rfl) (lenOf pd__Ljava_lang_Object_Ljava_lang_String__Ljava_lang_Object_ rfl) rfl rfl (Nat.le_of_eq rfl) (hb hby d2_21) (by decide) (by decide) (by decide) (by decide)
  replace X50 := own_nil X50
  refine ownw_go T50 m 24 #[rv x0, rv x1, rv x2] [(.ref x2), (.ref x0)] (st50) ?_
  obtain ⟨T51, X51, e51, st51⟩ := castY X50 hx hZ hown (own_w hw 39 rfl) e50 (Ins.self cf47) (g := (mkF m 24 #[rv x0, rv x1, rv x2] [(.ref x2), (.ref x0)])) rfl rfl (hb hby d2_24)
  refine ownw_go T51 m 27 #[rv x0, rv x1, rv x2] [(.ref x2), (.ref x0)] (st51) ?_
  obtain ⟨T52, h52, X52, e52, W52, st52⟩ := putF X51 hx hZ hown (host := "") (Or.inl (own_w hw 41 rfl)) Via.refl e51 cf43 cf42 (Or.inr ⟨(own_w hw 42 rfl), rfl, hnm⟩) (own_w hw 8 rfl) (ty := (.object OwnK3)) (by decide) rfl rfl (g := (mkF m 27 #[rv x0, rv x1, rv x2] [(.ref x2), (.ref x0)])) rfl rfl (hb hby d2_27)
  have F52 := cf43.same W52
  have cf53 := cf42.wr W52
  have cf54 := cf44.other W52 (Or.inr (slot_ne (Or.inr (own_w hw 49 rfl)) (Or.inr (own_w hw 42 rfl)) (by decide) (t := .double) (t' := (.object OwnK3)) (by decide) (by decide)))
  have cf55 := cf45.other W52 (Or.inr (slot_ne (Or.inr (own_w hw 56 rfl)) (Or.inr (own_w hw 42 rfl)) (by decide) (t := .double) (t' := (.object OwnK3)) (by decide) (by decide)))
  have cf56 := cf46.wr W52
  have cf57 := cf47.wr W52
  have hk58 := Nat.le_trans hk41 (Keep.of_wr W52).1
  have cf59 := cf49.other W52 (Or.inr (slot_ne (Or.inr (own_w hw 37 rfl)) (Or.inr (own_w hw 42 rfl)) (by decide) (t := (.object OwnK2)) (t' := (.object OwnK3)) (by decide) (by decide)))
  have Z_52 : n0 ≤ h52.size := Nat.le_trans Z_41 (Keep.of_wr W52).1
  have K_52 : Keep h0 h52 [x0] := K_41.wr W52 (own_i 0 rfl)
  have N52 := Fr.snoc X52 N33 g_x0
  refine ownw_go T52 m 30 #[rv x0, rv x1, rv x2] [] (st52) ?_
  refine ownw_of hS ?_
  refine own_retV X52 hx hlk hret (hb hby d2_30) (by decide) (by decide) ?_
  rw [e52]
  exact ⟨⟨rfl, N52, K_52, cf53, cf54, cf55⟩, hk58⟩
theorem d1_0 : decode prog_54_method_1_code 0 = .ok (.aload_n 0, 1) := by decide +kernel
theorem d1_1 : decode prog_54_method_1_code 1 = .ok (.aload 5, 2) := by decide +kernel
theorem d1_3 : decode prog_54_method_1_code 3 = .ok (.aload 6, 2) := by decide +kernel
theorem d1_5 : decode prog_54_method_1_code 5 = .ok (.invokespecial 1, 3) := by decide +kernel
theorem d1_8 : decode prog_54_method_1_code 8 = .ok (.aload_n 0, 1) := by decide +kernel
theorem d1_9 : decode prog_54_method_1_code 9 = .ok (.ldc 7, 2) := by decide +kernel
theorem d1_11 : decode prog_54_method_1_code 11 = .ok (.dload_n 1, 1) := by decide +kernel
theorem d1_12 : decode prog_54_method_1_code 12 = .ok (.invokestatic 9, 3) := by decide +kernel
theorem d1_15 : decode prog_54_method_1_code 15 = .ok (.putfield 15, 3) := by decide +kernel
theorem d1_18 : decode prog_54_method_1_code 18 = .ok (.aload_n 0, 1) := by decide +kernel
theorem d1_19 : decode prog_54_method_1_code 19 = .ok (.dload_n 3, 1) := by decide +kernel
theorem d1_20 : decode prog_54_method_1_code 20 = .ok (.invokestatic 18, 3) := by decide +kernel
theorem d1_23 : decode prog_54_method_1_code 23 = .ok (.putfield 22, 3) := by decide +kernel
theorem d1_26 : decode prog_54_method_1_code 26 = .ok (.return_, 1) := by decide +kernel
theorem pf_com_example_bowerbird_bowerbird_core_TwoStage__init___DDLcom_example_bowerbird_bowerbird_core_LocalContext_Lcom_example_bowerbird_bowerbird_core_Prior__V : plainFor (⟨OwnK0, "<init>", "(DDLcom/example/bowerbird/bowerbird/core/LocalContext;Lcom/example/bowerbird/bowerbird/core/Prior;)V"⟩ : MethodName) = true := by first | exact plainFor_of_name (by first | (simp [plainName, overriddenIn]; done) | decide +kernel) | exact Jvm.Free.JP.mathPlain rfl (by decide +kernel) | decide +kernel
theorem ef_rm1 (m : MethodId) (q0 : Addr) (q1 : UInt64) (q2 : UInt64) (q3 : Addr) (q4 : Addr) : entryFrame m #[(.ref q0), (.double q1), (.double q2), (.ref q3), (.ref q4)] 7 = mkF m 0 #[rv q0, .val (.double q1), .second, .val (.double q2), .second, rv q3, rv q4] [] := by first | (simp [entryFrame, mkF, argsToLocals, Value.category]; done) | rfl
set_option maxRecDepth 65536 in
set_option maxHeartbeats 40000000 in
theorem rm1 (l : Launch) (Z : State) (a0 : Array Value) (hw : ∀ d ∈ tables_1, d.before a0 Z = true) (ws : List Jvm.Cond) (x0 : Addr) (x1 : UInt64) (x2 : UInt64) (x3 : Addr) (x4 : Addr) (h0 : Heap) (n0 : Nat) (Z0 : n0 ≤ h0.size) (E_x0 : Exa Z h0 x0 OwnK0) (g_x0 : n0 ≤ x0) (F_context : Fld Z h0 x0 OwnK1 "context" "Lcom/example/bowerbird/bowerbird/core/LocalContext;" .null) (F_prior : Fld Z h0 x0 OwnK1 "prior" "Lcom/example/bowerbird/bowerbird/core/Prior;" .null) (F_lambda : Fld Z h0 x0 OwnK0 "lambda" "D" (.double (0 : UInt64))) (F_mu : Fld Z h0 x0 OwnK0 "mu" "D" (.double (0 : UInt64))) (E_x3 : Exa Z h0 x3 OwnK2) (E_x4 : Exa Z h0 x4 OwnK3) (ne1 : x0 ≠ x3) (ne2 : x0 ≠ x4) (s0 : ¬ ((cmpValue (FP.dcmp x1 (0 : UInt64)) .l) < (0 : Int32))) (s1 : ¬ ((0 : Int32) < (cmpValue (FP.dcmp x1 (4607182418800017408 : UInt64)) .g))) (s2 : (0 : Int32) < (cmpValue (FP.dcmp x2 (0 : UInt64)) .l)) (s3 : (cmpValue (FP.dcmp x2 (9218868437227405312 : UInt64)) .g) < (0 : Int32)) :
    OwnCS l Z (⟨OwnK0, "<init>", "(DDLcom/example/bowerbird/bowerbird/core/LocalContext;Lcom/example/bowerbird/bowerbird/core/Prior;)V"⟩ : MethodName) prog_54_method_1_code 7 none ws ({ frames := 2, cells := 6, slots := 84, locals := 28 } : Room) #[(.ref x0), (.double x1), (.double x2), (.ref x3), (.ref x4)] h0 (fun v h L => v = none ∧ Fr n0 L ∧ Keep h0 h [x0] ∧ Exa Z h x0 OwnK0 ∧ Fld Z h x0 OwnK0 "lambda" "D" (.double x1) ∧ Fld Z h x0 OwnK0 "mu" "D" (.double x2)) := by
  refine own_entryS pf_com_example_bowerbird_bowerbird_core_TwoStage__init___DDLcom_example_bowerbird_bowerbird_core_LocalContext_Lcom_example_bowerbird_bowerbird_core_Prior__V (fun m => ef_rm1 m x0 x1 x2 x3 x4) ?_
  intro p e s m below meth c T0 X0 hC e0
  obtain ⟨hx, hby, hml, hown, hnm, hret, hlk, hZ⟩ := hC
  have N0 := Fr.nil n0
  have K0 := Keep.refl h0 [x0]
  have hS := (State.WarmedH.refl s).since h0.size
  have hk := Nat.le_refl h0.size
  refine ownw_go T0 m 1 #[rv x0, .val (.double x1), .second, .val (.double x2), .second, rv x3, rv x4] [(.ref x0)] (fun t k => XS.aloadN X0.here hx rfl (hb hby d1_0) rfl rfl k) ?_
  refine ownw_go T0 m 3 #[rv x0, .val (.double x1), .second, .val (.double x2), .second, rv x3, rv x4] [(.ref x3), (.ref x0)] (fun t k => XS.aload X0.here hx rfl (hb hby d1_1) rfl rfl k) ?_
  refine ownw_go T0 m 5 #[rv x0, .val (.double x1), .second, .val (.double x2), .second, rv x3, rv x4] [(.ref x4), (.ref x3), (.ref x0)] (fun t k => XS.aload X0.here hx rfl (hb hby d1_3) rfl rfl k) ?_
  obtain ⟨_, T21, L21, X21, ⟨rfl, Nq21, Kq21, Aq21, Fl21, Fm21⟩, hS, hZ, hown, st21⟩ := own_initS (vm0 := s.vm) X0 hx hZ hS hk (y := (⟨OwnK1, "<init>", "(Lcom/example/bowerbird/bowerbird/core/LocalContext;Lcom/example/bowerbird/bowerbird/core/Prior;)V"⟩ : MethodName)) rfl hown (own_w hw 14 rfl) (own_w hw 15 rfl) (own_w hw 17 rfl) (own_w hw 18 rfl) (by decide) (rm2 l Z a0 hw [] x0 x3 x4 h0 n0 Z0 E_x0 g_x0 F_context F_prior F_lambda F_mu E_x3 E_x4 ne1 ne2) e0 (a := x0) 0 (argsL := [(.ref x3), (.ref x4)]) (rest := []) (Ls := #[rv x0, .val (.double x1), .second, .val (.double x2), .second, rv x3, rv x4]) (by rw [hml]; rfl) (lenOf pd__Lcom_example_bowerbird_bowerbird_core_LocalContext_Lcom_example_bowerbird_bowerbird_core_Prior__V rfl) rfl rfl (Nat.le_of_eq rfl) (hb hby d1_5) (by decide) (by decide) (by decide) (by decide)
  have N21 := Fr.app N0 Nq21
  have cf22 := E_x0.keep Kq21
  have cf23 := E_x3.keep Kq21
  have cf24 := E_x4.keep Kq21
  have hk25 := Nat.le_trans hk Kq21.1
  have Z_21 : n0 ≤ T21.heap.size := Nat.le_trans Z0 Kq21.1
  have K_21 : Keep h0 T21.heap [x0] := K0.trans Kq21 (allS (own_i 0 rfl) all0)
  refine ownw_go T21 m 8 #[rv x0, .val (.double x1), .second, .val (.double x2), .second, rv x3, rv x4] [] (st21) ?_
  have hk21 := Nat.le_refl T21.heap.size
  refine ownw_go T21 m 9 #[rv x0, .val (.double x1), .second, .val (.double x2), .second, rv x3, rv x4] [(.ref x0)] (fun t k => XS.aloadN X21.here hx rfl (hb hby d1_8) rfl rfl k) ?_
  obtain ⟨r26, T26, h26, k26, X26, e26, E26, hS, hk26, hZ, hown, st26⟩ := ldcS (vm0 := T21.vm) X21 hx hZ hown (own_w hw 43 rfl) (own_sa hw) rfl hS hk21 (g := (mkF m 9 #[rv x0, .val (.double x1), .second, .val (.double x2), .second, rv x3, rv x4] [(.ref x0)])) rfl (hb hby d1_9) (n := 24) (by decide) (by decide) (by decide) (by decide)
  have cf27 := Aq21.ext E26
  have cf28 := cf23.ext E26
  have cf29 := cf24.ext E26
  have hk30 := Nat.le_trans hk21 E26.1
  have cf31 := Fl21.ext E26
  have cf32 := Fm21.ext E26
  have Z_26 : n0 ≤ h26.size := Nat.le_trans Z_21 E26.1
  have K_26 : Keep h0 h26 [x0] := K_21.ext E26
  refine ownw_go T26 m 11 #[rv x0, .val (.double x1), .second, .val (.double x2), .second, rv x3, rv x4] [(.ref r26), (.ref x0)] (st26) ?_
  refine ownw_go T26 m 12 #[rv x0, .val (.double x1), .second, .val (.double x2), .second, rv x3, rv x4] [(.double x1), (.ref r26), (.ref x0)] (fun t k => XS.dloadN X26.here hx rfl (hb hby d1_11) rfl k) ?_
  obtain ⟨_, T33, L33, X33, ⟨rfl, e33, rfl⟩, st33⟩ := own_staticUp X26 hx hZ (x := (⟨OwnK0, "checkShare", "(Ljava/lang/String;D)D"⟩ : MethodName)) hown (own_w hw 44 rfl) (own_w hw 45 rfl) (by decide) (own_w hw 46 rfl) (own_w hw 17 rfl) (own_w hw 47 rfl) (rm5 l Z a0 hw [] r26 x1 h26 s0 s1) e26 1 (argsL := [(.ref r26), (.double x1)]) (rest := [(.ref x0)]) (Ls := #[rv x0, .val (.double x1), .second, .val (.double x2), .second, rv x3, rv x4]) (by rw [hml]; rfl) (lenOf pd__Ljava_lang_String_D_D rfl) rfl rfl (Nat.le_of_eq rfl) (hb hby d1_12) (by decide) (by decide) (by decide) (by decide)
  replace X33 := own_nil X33
  refine ownw_go T33 m 15 #[rv x0, .val (.double x1), .second, .val (.double x2), .second, rv x3, rv x4] [(.double x1), (.ref x0)] (st33) ?_
  obtain ⟨T34, h34, X34, e34, W34, st34⟩ := putF X33 hx hZ hown (host := "") (Or.inl (own_w hw 48 rfl)) Via.refl e33 cf31 cf27 (Or.inr ⟨(own_w hw 49 rfl), rfl, hnm⟩) (own_w hw 8 rfl) (ty := .double) (by decide) rfl rfl (g := (mkF m 15 #[rv x0, .val (.double x1), .second, .val (.double x2), .second, rv x3, rv x4] [(.double x1), (.ref x0)])) rfl rfl (hb hby d1_15)
  have F34 := cf31.same W34
  have cf35 := cf27.wr W34
  have cf36 := cf28.wr W34
  have cf37 := cf29.wr W34
  have hk38 := Nat.le_trans hk26 (Keep.of_wr W34).1
  have cf39 := cf32.other W34 (Or.inr (slot_ne (Or.inr (own_w hw 56 rfl)) (Or.inr (own_w hw 49 rfl)) (by decide) (t := .double) (t' := .double) (by decide) (by decide)))
  have Z_34 : n0 ≤ h34.size := Nat.le_trans Z_26 (Keep.of_wr W34).1
  have K_34 : Keep h0 h34 [x0] := K_26.wr W34 (own_i 0 rfl)
  have N34 := Fr.snoc X34 N21 g_x0
  refine ownw_go T34 m 18 #[rv x0, .val (.double x1), .second, .val (.double x2), .second, rv x3, rv x4] [] (st34) ?_
  refine ownw_go T34 m 19 #[rv x0, .val (.double x1), .second, .val (.double x2), .second, rv x3, rv x4] [(.ref x0)] (fun t k => XS.aloadN X34.here hx rfl (hb hby d1_18) rfl rfl k) ?_
  refine ownw_go T34 m 20 #[rv x0, .val (.double x1), .second, .val (.double x2), .second, rv x3, rv x4] [(.double x2), (.ref x0)] (fun t k => XS.dloadN X34.here hx rfl (hb hby d1_19) rfl k) ?_
  obtain ⟨_, T40, L40, X40, ⟨rfl, e40, rfl⟩, st40⟩ := own_staticUp X34 hx hZ (x := (⟨OwnK0, "checkMu", "(D)D"⟩ : MethodName)) hown (own_w hw 50 rfl) (own_w hw 51 rfl) (by decide) (own_w hw 52 rfl) (own_w hw 17 rfl) (own_w hw 53 rfl) (rm6 l Z a0 hw [] x2 h34 s2 s3) e34 1 (argsL := [(.double x2)]) (rest := [(.ref x0)]) (Ls := #[rv x0, .val (.double x1), .second, .val (.double x2), .second, rv x3, rv x4]) (by rw [hml]; rfl) (lenOf pd__D_D rfl) rfl rfl (Nat.le_of_eq rfl) (hb hby d1_20) (by decide) (by decide) (by decide) (by decide)
  replace X40 := own_nil X40
  refine ownw_go T40 m 23 #[rv x0, .val (.double x1), .second, .val (.double x2), .second, rv x3, rv x4] [(.double x2), (.ref x0)] (st40) ?_
  obtain ⟨T41, h41, X41, e41, W41, st41⟩ := putF X40 hx hZ hown (host := "") (Or.inl (own_w hw 55 rfl)) Via.refl e40 cf39 cf35 (Or.inr ⟨(own_w hw 56 rfl), rfl, hnm⟩) (own_w hw 8 rfl) (ty := .double) (by decide) rfl rfl (g := (mkF m 23 #[rv x0, .val (.double x1), .second, .val (.double x2), .second, rv x3, rv x4] [(.double x2), (.ref x0)])) rfl rfl (hb hby d1_23)
  have F41 := cf39.same W41
  have cf42 := cf35.wr W41
  have cf43 := cf36.wr W41
  have cf44 := cf37.wr W41
  have hk45 := Nat.le_trans hk38 (Keep.of_wr W41).1
  have cf46 := F34.other W41 (Or.inr (slot_ne (Or.inr (own_w hw 49 rfl)) (Or.inr (own_w hw 56 rfl)) (by decide) (t := .double) (t' := .double) (by decide) (by decide)))
  have Z_41 : n0 ≤ h41.size := Nat.le_trans Z_34 (Keep.of_wr W41).1
  have K_41 : Keep h0 h41 [x0] := K_34.wr W41 (own_i 0 rfl)
  have N41 := Fr.snoc X41 N34 g_x0
  refine ownw_go T41 m 26 #[rv x0, .val (.double x1), .second, .val (.double x2), .second, rv x3, rv x4] [] (st41) ?_
  refine ownw_of hS ?_
  refine own_retV X41 hx hlk hret (hb hby d1_26) (by decide) (by decide) ?_
  rw [e41]
  exact ⟨⟨rfl, N41, K_41, cf42, cf46, F41⟩, hk45⟩
theorem own_nz1 {x1 ln : Int32} {pw : Int64} (k3 : 1 ≤ pw.toInt) (k4 : pw.toInt ≤ 2147483648) (h3 : ln = ((x1 &&& (2147483647 : Int32)).toInt64 % pw).toInt32) : ¬ (ln.toInt64 + (1 : Int64)) = 0 := by
  obtain ⟨a1, a2⟩ := own_msk x1
  have b1 := c_i2l (x1 &&& (2147483647 : Int32))
  obtain ⟨c1, c2⟩ := own_rem64 (x1 &&& (2147483647 : Int32)).toInt64 pw (by omega) k3
  have d1 := c_l2i ((x1 &&& (2147483647 : Int32)).toInt64 % pw)
  rw [← h3] at d1
  have e1 := rng32 ln
  have f1 := c_i2l ln
  have o : (1 : Int64).toInt = 1 := by decide
  have g1 := c_ladd ln.toInt64 (1 : Int64)
  have g2 := rng64 (ln.toInt64 + (1 : Int64))
  intro q
  rw [q] at g1 g2
  have z : (0 : Int64).toInt = 0 := by decide
  omega
theorem pf_com_example_bowerbird_bowerbird_core_TwoStageProbabilityPinLaw_law__IIIIII_Z : plainFor (⟨"com/example/bowerbird/bowerbird/core/TwoStageProbabilityPinLaw", "law", "(IIIIII)Z"⟩ : MethodName) = true := by first | exact plainFor_of_name (by first | (simp [plainName, overriddenIn]; done) | decide +kernel) | exact Jvm.Free.JP.mathPlain rfl (by decide +kernel) | decide +kernel
theorem ef_rm0 (m : MethodId) (q0 : Int32) (q1 : Int32) (q2 : Int32) (q3 : Int32) (q4 : Int32) (q5 : Int32) : entryFrame m #[(.int q0), (.int q1), (.int q2), (.int q3), (.int q4), (.int q5)] maxLocals = mkF m 0 #[iv q0, iv q1, iv q2, iv q3, iv q4, iv q5, .unset, .unset, .unset, .unset, .unset, .unset, .unset, .unset, .unset, .unset, .unset, .unset, .unset, .unset, .unset, .unset, .unset, .unset, .unset] [] := by first | (simp [entryFrame, mkF, argsToLocals, Value.category, maxLocals]; done) | rfl
set_option maxRecDepth 65536 in
set_option maxHeartbeats 40000000 in
theorem rm0 (l : Launch) (Z : State) (a0 : Array Value) (hw : ∀ d ∈ tables_1, d.before a0 Z = true) (ws : List Jvm.Cond) (x0 : Int32) (x1 : Int32) (x2 : Int32) (x3 : Int32) (x4 : Int32) (x5 : Int32) (aD aS aN aI : Addr) (h0 : Heap) (n0 : Nat) (Z0 : n0 ≤ h0.size) (S_aD : Sta Z h0 OwnK2 "DOCUMENT" "Lcom/example/bowerbird/bowerbird/core/LocalContext;" (.ref aD)) (E_aD : Exa Z h0 aD OwnK2) (S_aS : Sta Z h0 OwnK2 "SURROUNDING" "Lcom/example/bowerbird/bowerbird/core/LocalContext;" (.ref aS)) (E_aS : Exa Z h0 aS OwnK2) (S_aN : Sta Z h0 OwnK3 "NONE" "Lcom/example/bowerbird/bowerbird/core/Prior;" (.ref aN)) (E_aN : Exa Z h0 aN OwnK3) (S_aI : Sta Z h0 OwnK3 "IMPORTANCE" "Lcom/example/bowerbird/bowerbird/core/Prior;" (.ref aI)) (E_aI : Exa Z h0 aI OwnK3) :
    OwnCS l Z x code maxLocals ret ws room_1 #[(.int x0), (.int x1), (.int x2), (.int x3), (.int x4), (.int x5)] h0 (fun v h L => v = some (.int 1) ∧ Fr n0 L) := by
  refine own_entryS pf_com_example_bowerbird_bowerbird_core_TwoStageProbabilityPinLaw_law__IIIIII_Z (fun m => ef_rm0 m x0 x1 x2 x3 x4 x5) ?_
  intro p e s m below meth c T0 X0 hC e0
  obtain ⟨hx, hby, hml, hown, hnm, hret, hlk, hZ⟩ := hC
  have hml : c.maxLocals = 25 := hml
  have N0 := Fr.nil n0
  refine ownw_go T0 m 1 #[iv x0, iv x1, iv x2, iv x3, iv x4, iv x5, .unset, .unset, .unset, .unset, .unset, .unset, .unset, .unset, .unset, .unset, .unset, .unset, .unset, .unset, .unset, .unset, .unset, .unset, .unset] [(.int x0)] (fun t k => XS.iloadN X0.here hx rfl (hb hby at_0) rfl k) ?_
  refine ownw_go T0 m 3 #[iv x0, iv x1, iv x2, iv x3, iv x4, iv x5, .unset, .unset, .unset, .unset, .unset, .unset, .unset, .unset, .unset, .unset, .unset, .unset, .unset, .unset, .unset, .unset, .unset, .unset, .unset] [(.int 2147483647), (.int x0)] (X0.ldcInt hx hown (mvT hZ (own_w hw 0 rfl)) (g := (mkF m 1 #[iv x0, iv x1, iv x2, iv x3, iv x4, iv x5, .unset, .unset, .unset, .unset, .unset, .unset, .unset, .unset, .unset, .unset, .unset, .unset, .unset, .unset, .unset, .unset, .unset, .unset, .unset] [(.int x0)])) rfl (hb hby at_1)) ?_
  refine ownw_go T0 m 4 #[iv x0, iv x1, iv x2, iv x3, iv x4, iv x5, .unset, .unset, .unset, .unset, .unset, .unset, .unset, .unset, .unset, .unset, .unset, .unset, .unset, .unset, .unset, .unset, .unset, .unset, .unset] [(.int (x0 &&& (2147483647 : Int32)))] (fun t k => XS.iand X0.here hx rfl (hb hby at_3) rfl k) ?_
  refine ownw_go T0 m 6 #[iv x0, iv x1, iv x2, iv x3, iv x4, iv x5, .unset, .unset, .unset, .unset, .unset, .unset, .unset, .unset, .unset, .unset, .unset, .unset, .unset, .unset, .unset, .unset, .unset, .unset, .unset] [(.int 32), (.int (x0 &&& (2147483647 : Int32)))] (fun t k => XS.bipush X0.here hx rfl (hb hby at_4) k) ?_
  refine ownw_go T0 m 7 #[iv x0, iv x1, iv x2, iv x3, iv x4, iv x5, .unset, .unset, .unset, .unset, .unset, .unset, .unset, .unset, .unset, .unset, .unset, .unset, .unset, .unset, .unset, .unset, .unset, .unset, .unset] [(.int ((x0 &&& (2147483647 : Int32)) % (32 : Int32)))] (fun t k => own_rem_ne X0 hx rfl (hb hby at_6) rfl (by decide) k) ?_
  refine ownw_go T0 m 9 #[iv x0, iv x1, iv x2, iv x3, iv x4, iv x5, iv ((x0 &&& (2147483647 : Int32)) % (32 : Int32)), .unset, .unset, .unset, .unset, .unset, .unset, .unset, .unset, .unset, .unset, .unset, .unset, .unset, .unset, .unset, .unset, .unset, .unset] [] (fun t k => XS.istore X0.here hx rfl (hb hby at_7) rfl rfl k) ?_
  obtain ⟨ee, hd_ee⟩ : ∃ z, z = ((x0 &&& (2147483647 : Int32)) % (32 : Int32)) := ⟨_, rfl⟩
  rw [← hd_ee]
  refine ownw_go T0 m 10 #[iv x0, iv x1, iv x2, iv x3, iv x4, iv x5, iv ee, .unset, .unset, .unset, .unset, .unset, .unset, .unset, .unset, .unset, .unset, .unset, .unset, .unset, .unset, .unset, .unset, .unset, .unset] [(.long 1)] (fun t k => XS.lconst X0.here hx rfl (hb hby at_9) k) ?_
  refine ownw_go T0 m 12 #[iv x0, iv x1, iv x2, iv x3, iv x4, iv x5, iv ee, .unset, .unset, .unset, .unset, .unset, .unset, .unset, .unset, .unset, .unset, .unset, .unset, .unset, .unset, .unset, .unset, .unset, .unset] [(.int ee), (.long 1)] (fun t k => XS.iload X0.here hx rfl (hb hby at_10) rfl k) ?_
  refine ownw_go T0 m 13 #[iv x0, iv x1, iv x2, iv x3, iv x4, iv x5, iv ee, .unset, .unset, .unset, .unset, .unset, .unset, .unset, .unset, .unset, .unset, .unset, .unset, .unset, .unset, .unset, .unset, .unset, .unset] [(.long ((1 : Int64) <<< (ee &&& 0x3f).toInt64))] (fun t k => XS.lshl X0.here hx rfl (hb hby at_12) rfl k) ?_
  refine ownw_go T0 m 15 #[iv x0, iv x1, iv x2, iv x3, iv x4, iv x5, iv ee, .val (.long ((1 : Int64) <<< (ee &&& 0x3f).toInt64)), .second, .unset, .unset, .unset, .unset, .unset, .unset, .unset, .unset, .unset, .unset, .unset, .unset, .unset, .unset, .unset, .unset] [] (fun t k => XS.lstore X0.here hx rfl (hb hby at_13) rfl rfl k) ?_
  obtain ⟨pw, hd_pw⟩ : ∃ z, z = ((1 : Int64) <<< (ee &&& 0x3f).toInt64) := ⟨_, rfl⟩
  rw [← hd_pw]
  obtain ⟨k0, kk1, kk2, kk3, kk4⟩ := own_pw hd_ee hd_pw
  have hnz22 : ¬ pw = 0 := fun q => by
    rw [q] at kk3
    exact absurd kk3 (by decide)
  refine ownw_go T0 m 16 #[iv x0, iv x1, iv x2, iv x3, iv x4, iv x5, iv ee, .val (.long pw), .second, .unset, .unset, .unset, .unset, .unset, .unset, .unset, .unset, .unset, .unset, .unset, .unset, .unset, .unset, .unset, .unset] [(.int x1)] (fun t k => XS.iloadN X0.here hx rfl (hb hby at_15) rfl k) ?_
  refine ownw_go T0 m 18 #[iv x0, iv x1, iv x2, iv x3, iv x4, iv x5, iv ee, .val (.long pw), .second, .unset, .unset, .unset, .unset, .unset, .unset, .unset, .unset, .unset, .unset, .unset, .unset, .unset, .unset, .unset, .unset] [(.int 2147483647), (.int x1)] (X0.ldcInt hx hown (mvT hZ (own_w hw 0 rfl)) (g := (mkF m 16 #[iv x0, iv x1, iv x2, iv x3, iv x4, iv x5, iv ee, .val (.long pw), .second, .unset, .unset, .unset, .unset, .unset, .unset, .unset, .unset, .unset, .unset, .unset, .unset, .unset, .unset, .unset, .unset] [(.int x1)])) rfl (hb hby at_16)) ?_
  refine ownw_go T0 m 19 #[iv x0, iv x1, iv x2, iv x3, iv x4, iv x5, iv ee, .val (.long pw), .second, .unset, .unset, .unset, .unset, .unset, .unset, .unset, .unset, .unset, .unset, .unset, .unset, .unset, .unset, .unset, .unset] [(.int (x1 &&& (2147483647 : Int32)))] (fun t k => XS.iand X0.here hx rfl (hb hby at_18) rfl k) ?_
  refine ownw_go T0 m 20 #[iv x0, iv x1, iv x2, iv x3, iv x4, iv x5, iv ee, .val (.long pw), .second, .unset, .unset, .unset, .unset, .unset, .unset, .unset, .unset, .unset, .unset, .unset, .unset, .unset, .unset, .unset, .unset] [(.long (x1 &&& (2147483647 : Int32)).toInt64)] (fun t k => XS.i2l X0.here hx rfl (hb hby at_19) rfl k) ?_
  refine ownw_go T0 m 22 #[iv x0, iv x1, iv x2, iv x3, iv x4, iv x5, iv ee, .val (.long pw), .second, .unset, .unset, .unset, .unset, .unset, .unset, .unset, .unset, .unset, .unset, .unset, .unset, .unset, .unset, .unset, .unset] [(.long pw), (.long (x1 &&& (2147483647 : Int32)).toInt64)] (fun t k => XS.lload X0.here hx rfl (hb hby at_20) rfl k) ?_
  refine ownw_go T0 m 23 #[iv x0, iv x1, iv x2, iv x3, iv x4, iv x5, iv ee, .val (.long pw), .second, .unset, .unset, .unset, .unset, .unset, .unset, .unset, .unset, .unset, .unset, .unset, .unset, .unset, .unset, .unset, .unset] [(.long ((x1 &&& (2147483647 : Int32)).toInt64 % pw))] (fun t k => own_lrem X0 hx rfl (hb hby at_22) rfl hnz22 k) ?_
  refine ownw_go T0 m 24 #[iv x0, iv x1, iv x2, iv x3, iv x4, iv x5, iv ee, .val (.long pw), .second, .unset, .unset, .unset, .unset, .unset, .unset, .unset, .unset, .unset, .unset, .unset, .unset, .unset, .unset, .unset, .unset] [(.int ((x1 &&& (2147483647 : Int32)).toInt64 % pw).toInt32)] (fun t k => XS.l2i X0.here hx rfl (hb hby at_23) rfl k) ?_
  refine ownw_go T0 m 26 #[iv x0, iv x1, iv x2, iv x3, iv x4, iv x5, iv ee, .val (.long pw), .second, iv ((x1 &&& (2147483647 : Int32)).toInt64 % pw).toInt32, .unset, .unset, .unset, .unset, .unset, .unset, .unset, .unset, .unset, .unset, .unset, .unset, .unset, .unset, .unset] [] (fun t k => XS.istore X0.here hx rfl (hb hby at_24) rfl rfl k) ?_
  obtain ⟨ln, hd_ln⟩ : ∃ z, z = ((x1 &&& (2147483647 : Int32)).toInt64 % pw).toInt32 := ⟨_, rfl⟩
  rw [← hd_ln]
  refine ownw_go T0 m 28 #[iv x0, iv x1, iv x2, iv x3, iv x4, iv x5, iv ee, .val (.long pw), .second, iv ln, .unset, .unset, .unset, .unset, .unset, .unset, .unset, .unset, .unset, .unset, .unset, .unset, .unset, .unset, .unset] [(.long pw)] (fun t k => XS.lload X0.here hx rfl (hb hby at_26) rfl k) ?_
  refine ownw_go T0 m 30 #[iv x0, iv x1, iv x2, iv x3, iv x4, iv x5, iv ee, .val (.long pw), .second, iv ln, .unset, .unset, .unset, .unset, .unset, .unset, .unset, .unset, .unset, .unset, .unset, .unset, .unset, .unset, .unset] [(.int ln), (.long pw)] (fun t k => XS.iload X0.here hx rfl (hb hby at_28) rfl k) ?_
  refine ownw_go T0 m 31 #[iv x0, iv x1, iv x2, iv x3, iv x4, iv x5, iv ee, .val (.long pw), .second, iv ln, .unset, .unset, .unset, .unset, .unset, .unset, .unset, .unset, .unset, .unset, .unset, .unset, .unset, .unset, .unset] [(.long ln.toInt64), (.long pw)] (fun t k => XS.i2l X0.here hx rfl (hb hby at_30) rfl k) ?_
  refine ownw_go T0 m 32 #[iv x0, iv x1, iv x2, iv x3, iv x4, iv x5, iv ee, .val (.long pw), .second, iv ln, .unset, .unset, .unset, .unset, .unset, .unset, .unset, .unset, .unset, .unset, .unset, .unset, .unset, .unset, .unset] [(.long (pw - ln.toInt64))] (fun t k => XS.lsub X0.here hx rfl (hb hby at_31) rfl k) ?_
  refine ownw_go T0 m 34 #[iv x0, iv x1, iv x2, iv x3, iv x4, iv x5, iv ee, .val (.long pw), .second, iv ln, .val (.long (pw - ln.toInt64)), .second, .unset, .unset, .unset, .unset, .unset, .unset, .unset, .unset, .unset, .unset, .unset, .unset, .unset] [] (fun t k => XS.lstore X0.here hx rfl (hb hby at_32) rfl rfl k) ?_
  obtain ⟨mm, hd_mm⟩ : ∃ z, z = (pw - ln.toInt64) := ⟨_, rfl⟩
  rw [← hd_mm]
  have hnz44 : ¬ (ln.toInt64 + (1 : Int64)) = 0 := own_nz1 kk3 kk4 hd_ln
  refine ownw_go T0 m 35 #[iv x0, iv x1, iv x2, iv x3, iv x4, iv x5, iv ee, .val (.long pw), .second, iv ln, .val (.long mm), .second, .unset, .unset, .unset, .unset, .unset, .unset, .unset, .unset, .unset, .unset, .unset, .unset, .unset] [(.int x2)] (fun t k => XS.iloadN X0.here hx rfl (hb hby at_34) rfl k) ?_
  refine ownw_go T0 m 37 #[iv x0, iv x1, iv x2, iv x3, iv x4, iv x5, iv ee, .val (.long pw), .second, iv ln, .val (.long mm), .second, .unset, .unset, .unset, .unset, .unset, .unset, .unset, .unset, .unset, .unset, .unset, .unset, .unset] [(.int 2147483647), (.int x2)] (X0.ldcInt hx hown (mvT hZ (own_w hw 0 rfl)) (g := (mkF m 35 #[iv x0, iv x1, iv x2, iv x3, iv x4, iv x5, iv ee, .val (.long pw), .second, iv ln, .val (.long mm), .second, .unset, .unset, .unset, .unset, .unset, .unset, .unset, .unset, .unset, .unset, .unset, .unset, .unset] [(.int x2)])) rfl (hb hby at_35)) ?_
  refine ownw_go T0 m 38 #[iv x0, iv x1, iv x2, iv x3, iv x4, iv x5, iv ee, .val (.long pw), .second, iv ln, .val (.long mm), .second, .unset, .unset, .unset, .unset, .unset, .unset, .unset, .unset, .unset, .unset, .unset, .unset, .unset] [(.int (x2 &&& (2147483647 : Int32)))] (fun t k => XS.iand X0.here hx rfl (hb hby at_37) rfl k) ?_
  refine ownw_go T0 m 39 #[iv x0, iv x1, iv x2, iv x3, iv x4, iv x5, iv ee, .val (.long pw), .second, iv ln, .val (.long mm), .second, .unset, .unset, .unset, .unset, .unset, .unset, .unset, .unset, .unset, .unset, .unset, .unset, .unset] [(.long (x2 &&& (2147483647 : Int32)).toInt64)] (fun t k => XS.i2l X0.here hx rfl (hb hby at_38) rfl k) ?_
  refine ownw_go T0 m 41 #[iv x0, iv x1, iv x2, iv x3, iv x4, iv x5, iv ee, .val (.long pw), .second, iv ln, .val (.long mm), .second, .unset, .unset, .unset, .unset, .unset, .unset, .unset, .unset, .unset, .unset, .unset, .unset, .unset] [(.int ln), (.long (x2 &&& (2147483647 : Int32)).toInt64)] (fun t k => XS.iload X0.here hx rfl (hb hby at_39) rfl k) ?_
  refine ownw_go T0 m 42 #[iv x0, iv x1, iv x2, iv x3, iv x4, iv x5, iv ee, .val (.long pw), .second, iv ln, .val (.long mm), .second, .unset, .unset, .unset, .unset, .unset, .unset, .unset, .unset, .unset, .unset, .unset, .unset, .unset] [(.long ln.toInt64), (.long (x2 &&& (2147483647 : Int32)).toInt64)] (fun t k => XS.i2l X0.here hx rfl (hb hby at_41) rfl k) ?_
  refine ownw_go T0 m 43 #[iv x0, iv x1, iv x2, iv x3, iv x4, iv x5, iv ee, .val (.long pw), .second, iv ln, .val (.long mm), .second, .unset, .unset, .unset, .unset, .unset, .unset, .unset, .unset, .unset, .unset, .unset, .unset, .unset] [(.long 1), (.long ln.toInt64), (.long (x2 &&& (2147483647 : Int32)).toInt64)] (fun t k => XS.lconst X0.here hx rfl (hb hby at_42) k) ?_
  refine ownw_go T0 m 44 #[iv x0, iv x1, iv x2, iv x3, iv x4, iv x5, iv ee, .val (.long pw), .second, iv ln, .val (.long mm), .second, .unset, .unset, .unset, .unset, .unset, .unset, .unset, .unset, .unset, .unset, .unset, .unset, .unset] [(.long (ln.toInt64 + (1 : Int64))), (.long (x2 &&& (2147483647 : Int32)).toInt64)] (fun t k => XS.ladd X0.here hx rfl (hb hby at_43) rfl k) ?_
  refine ownw_go T0 m 45 #[iv x0, iv x1, iv x2, iv x3, iv x4, iv x5, iv ee, .val (.long pw), .second, iv ln, .val (.long mm), .second, .unset, .unset, .unset, .unset, .unset, .unset, .unset, .unset, .unset, .unset, .unset, .unset, .unset] [(.long ((x2 &&& (2147483647 : Int32)).toInt64 % (ln.toInt64 + (1 : Int64))))] (fun t k => own_lrem X0 hx rfl (hb hby at_44) rfl hnz44 k) ?_
  refine ownw_go T0 m 46 #[iv x0, iv x1, iv x2, iv x3, iv x4, iv x5, iv ee, .val (.long pw), .second, iv ln, .val (.long mm), .second, .unset, .unset, .unset, .unset, .unset, .unset, .unset, .unset, .unset, .unset, .unset, .unset, .unset] [(.int ((x2 &&& (2147483647 : Int32)).toInt64 % (ln.toInt64 + (1 : Int64))).toInt32)] (fun t k => XS.l2i X0.here hx rfl (hb hby at_45) rfl k) ?_
  refine ownw_go T0 m 48 #[iv x0, iv x1, iv x2, iv x3, iv x4, iv x5, iv ee, .val (.long pw), .second, iv ln, .val (.long mm), .second, iv ((x2 &&& (2147483647 : Int32)).toInt64 % (ln.toInt64 + (1 : Int64))).toInt32, .unset, .unset, .unset, .unset, .unset, .unset, .unset, .unset, .unset, .unset, .unset, .unset] [] (fun t k => XS.istore X0.here hx rfl (hb hby at_46) rfl rfl k) ?_
  obtain ⟨ct, hd_ct⟩ : ∃ z, z = ((x2 &&& (2147483647 : Int32)).toInt64 % (ln.toInt64 + (1 : Int64))).toInt32 := ⟨_, rfl⟩
  rw [← hd_ct]
  refine ownw_go T0 m 49 #[iv x0, iv x1, iv x2, iv x3, iv x4, iv x5, iv ee, .val (.long pw), .second, iv ln, .val (.long mm), .second, iv ct, .unset, .unset, .unset, .unset, .unset, .unset, .unset, .unset, .unset, .unset, .unset, .unset] [(.int x3)] (fun t k => XS.iloadN X0.here hx rfl (hb hby at_48) rfl k) ?_
  refine ownw_go T0 m 51 #[iv x0, iv x1, iv x2, iv x3, iv x4, iv x5, iv ee, .val (.long pw), .second, iv ln, .val (.long mm), .second, iv ct, .unset, .unset, .unset, .unset, .unset, .unset, .unset, .unset, .unset, .unset, .unset, .unset] [(.int 2147483647), (.int x3)] (X0.ldcInt hx hown (mvT hZ (own_w hw 0 rfl)) (g := (mkF m 49 #[iv x0, iv x1, iv x2, iv x3, iv x4, iv x5, iv ee, .val (.long pw), .second, iv ln, .val (.long mm), .second, iv ct, .unset, .unset, .unset, .unset, .unset, .unset, .unset, .unset, .unset, .unset, .unset, .unset] [(.int x3)])) rfl (hb hby at_49)) ?_
  refine ownw_go T0 m 52 #[iv x0, iv x1, iv x2, iv x3, iv x4, iv x5, iv ee, .val (.long pw), .second, iv ln, .val (.long mm), .second, iv ct, .unset, .unset, .unset, .unset, .unset, .unset, .unset, .unset, .unset, .unset, .unset, .unset] [(.int (x3 &&& (2147483647 : Int32)))] (fun t k => XS.iand X0.here hx rfl (hb hby at_51) rfl k) ?_
  refine ownw_go T0 m 55 #[iv x0, iv x1, iv x2, iv x3, iv x4, iv x5, iv ee, .val (.long pw), .second, iv ln, .val (.long mm), .second, iv ct, .unset, .unset, .unset, .unset, .unset, .unset, .unset, .unset, .unset, .unset, .unset, .unset] [(.int 257), (.int (x3 &&& (2147483647 : Int32)))] (fun t k => XS.sipush X0.here hx rfl (hb hby at_52) k) ?_
  refine ownw_go T0 m 56 #[iv x0, iv x1, iv x2, iv x3, iv x4, iv x5, iv ee, .val (.long pw), .second, iv ln, .val (.long mm), .second, iv ct, .unset, .unset, .unset, .unset, .unset, .unset, .unset, .unset, .unset, .unset, .unset, .unset] [(.int ((x3 &&& (2147483647 : Int32)) % (257 : Int32)))] (fun t k => own_rem_ne X0 hx rfl (hb hby at_55) rfl (by decide) k) ?_
  refine ownw_go T0 m 58 #[iv x0, iv x1, iv x2, iv x3, iv x4, iv x5, iv ee, .val (.long pw), .second, iv ln, .val (.long mm), .second, iv ct, iv ((x3 &&& (2147483647 : Int32)) % (257 : Int32)), .unset, .unset, .unset, .unset, .unset, .unset, .unset, .unset, .unset, .unset, .unset] [] (fun t k => XS.istore X0.here hx rfl (hb hby at_56) rfl rfl k) ?_
  obtain ⟨aa, hd_aa⟩ : ∃ z, z = ((x3 &&& (2147483647 : Int32)) % (257 : Int32)) := ⟨_, rfl⟩
  rw [← hd_aa]
  refine ownw_go T0 m 60 #[iv x0, iv x1, iv x2, iv x3, iv x4, iv x5, iv ee, .val (.long pw), .second, iv ln, .val (.long mm), .second, iv ct, iv aa, .unset, .unset, .unset, .unset, .unset, .unset, .unset, .unset, .unset, .unset, .unset] [(.int x4)] (fun t k => XS.iload X0.here hx rfl (hb hby at_58) rfl k) ?_
  refine ownw_go T0 m 62 #[iv x0, iv x1, iv x2, iv x3, iv x4, iv x5, iv ee, .val (.long pw), .second, iv ln, .val (.long mm), .second, iv ct, iv aa, .unset, .unset, .unset, .unset, .unset, .unset, .unset, .unset, .unset, .unset, .unset] [(.int 2147483647), (.int x4)] (X0.ldcInt hx hown (mvT hZ (own_w hw 0 rfl)) (g := (mkF m 60 #[iv x0, iv x1, iv x2, iv x3, iv x4, iv x5, iv ee, .val (.long pw), .second, iv ln, .val (.long mm), .second, iv ct, iv aa, .unset, .unset, .unset, .unset, .unset, .unset, .unset, .unset, .unset, .unset, .unset] [(.int x4)])) rfl (hb hby at_60)) ?_
  refine ownw_go T0 m 63 #[iv x0, iv x1, iv x2, iv x3, iv x4, iv x5, iv ee, .val (.long pw), .second, iv ln, .val (.long mm), .second, iv ct, iv aa, .unset, .unset, .unset, .unset, .unset, .unset, .unset, .unset, .unset, .unset, .unset] [(.int (x4 &&& (2147483647 : Int32)))] (fun t k => XS.iand X0.here hx rfl (hb hby at_62) rfl k) ?_
  refine ownw_go T0 m 64 #[iv x0, iv x1, iv x2, iv x3, iv x4, iv x5, iv ee, .val (.long pw), .second, iv ln, .val (.long mm), .second, iv ct, iv aa, .unset, .unset, .unset, .unset, .unset, .unset, .unset, .unset, .unset, .unset, .unset] [(.int 5), (.int (x4 &&& (2147483647 : Int32)))] (fun t k => XS.iconst X0.here hx rfl (hb hby at_63) k) ?_
  refine ownw_go T0 m 65 #[iv x0, iv x1, iv x2, iv x3, iv x4, iv x5, iv ee, .val (.long pw), .second, iv ln, .val (.long mm), .second, iv ct, iv aa, .unset, .unset, .unset, .unset, .unset, .unset, .unset, .unset, .unset, .unset, .unset] [(.int ((x4 &&& (2147483647 : Int32)) % (5 : Int32)))] (fun t k => own_rem_ne X0 hx rfl (hb hby at_64) rfl (by decide) k) ?_
  refine ownw_go T0 m 67 #[iv x0, iv x1, iv x2, iv x3, iv x4, iv x5, iv ee, .val (.long pw), .second, iv ln, .val (.long mm), .second, iv ct, iv aa, iv ((x4 &&& (2147483647 : Int32)) % (5 : Int32)), .unset, .unset, .unset, .unset, .unset, .unset, .unset, .unset, .unset, .unset] [] (fun t k => XS.istore X0.here hx rfl (hb hby at_65) rfl rfl k) ?_
  obtain ⟨kk, hd_kk⟩ : ∃ z, z = ((x4 &&& (2147483647 : Int32)) % (5 : Int32)) := ⟨_, rfl⟩
  rw [← hd_kk]
  refine ownw_go T0 m 68 #[iv x0, iv x1, iv x2, iv x3, iv x4, iv x5, iv ee, .val (.long pw), .second, iv ln, .val (.long mm), .second, iv ct, iv aa, iv kk, .unset, .unset, .unset, .unset, .unset, .unset, .unset, .unset, .unset, .unset] [(.int 1)] (fun t k => XS.iconst X0.here hx rfl (hb hby at_67) k) ?_
  refine ownw_go T0 m 70 #[iv x0, iv x1, iv x2, iv x3, iv x4, iv x5, iv ee, .val (.long pw), .second, iv ln, .val (.long mm), .second, iv ct, iv aa, iv kk, .unset, .unset, .unset, .unset, .unset, .unset, .unset, .unset, .unset, .unset] [(.int x5), (.int 1)] (fun t k => XS.iload X0.here hx rfl (hb hby at_68) rfl k) ?_
  refine ownw_go T0 m 73 #[iv x0, iv x1, iv x2, iv x3, iv x4, iv x5, iv ee, .val (.long pw), .second, iv ln, .val (.long mm), .second, iv ct, iv aa, iv kk, .unset, .unset, .unset, .unset, .unset, .unset, .unset, .unset, .unset, .unset] [(.int 255), (.int x5), (.int 1)] (fun t k => XS.sipush X0.here hx rfl (hb hby at_70) k) ?_
  refine ownw_go T0 m 74 #[iv x0, iv x1, iv x2, iv x3, iv x4, iv x5, iv ee, .val (.long pw), .second, iv ln, .val (.long mm), .second, iv ct, iv aa, iv kk, .unset, .unset, .unset, .unset, .unset, .unset, .unset, .unset, .unset, .unset] [(.int (x5 &&& (255 : Int32))), (.int 1)] (fun t k => XS.iand X0.here hx rfl (hb hby at_73) rfl k) ?_
  refine ownw_go T0 m 75 #[iv x0, iv x1, iv x2, iv x3, iv x4, iv x5, iv ee, .val (.long pw), .second, iv ln, .val (.long mm), .second, iv ct, iv aa, iv kk, .unset, .unset, .unset, .unset, .unset, .unset, .unset, .unset, .unset, .unset] [(.int ((1 : Int32) + (x5 &&& (255 : Int32))))] (fun t k => XS.iadd X0.here hx rfl (hb hby at_74) rfl k) ?_
  refine ownw_go T0 m 77 #[iv x0, iv x1, iv x2, iv x3, iv x4, iv x5, iv ee, .val (.long pw), .second, iv ln, .val (.long mm), .second, iv ct, iv aa, iv kk, iv ((1 : Int32) + (x5 &&& (255 : Int32))), .unset, .unset, .unset, .unset, .unset, .unset, .unset, .unset, .unset] [] (fun t k => XS.istore X0.here hx rfl (hb hby at_75) rfl rfl k) ?_
  obtain ⟨bb, hd_bb⟩ : ∃ z, z = ((1 : Int32) + (x5 &&& (255 : Int32))) := ⟨_, rfl⟩
  rw [← hd_bb]
  obtain ⟨kx, HI⟩ := own_ints hd_ee hd_pw hd_ln hd_mm hd_ct hd_aa hd_kk hd_bb
  refine ownw_go T0 m 79 #[iv x0, iv x1, iv x2, iv x3, iv x4, iv x5, iv ee, .val (.long pw), .second, iv ln, .val (.long mm), .second, iv ct, iv aa, iv kk, iv bb, .unset, .unset, .unset, .unset, .unset, .unset, .unset, .unset, .unset] [(.int x5)] (fun t k => XS.iload X0.here hx rfl (hb hby at_77) rfl k) ?_
  refine ownw_go T0 m 81 #[iv x0, iv x1, iv x2, iv x3, iv x4, iv x5, iv ee, .val (.long pw), .second, iv ln, .val (.long mm), .second, iv ct, iv aa, iv kk, iv bb, .unset, .unset, .unset, .unset, .unset, .unset, .unset, .unset, .unset] [(.int 8), (.int x5)] (fun t k => XS.bipush X0.here hx rfl (hb hby at_79) k) ?_
  refine ownw_go T0 m 82 #[iv x0, iv x1, iv x2, iv x3, iv x4, iv x5, iv ee, .val (.long pw), .second, iv ln, .val (.long mm), .second, iv ct, iv aa, iv kk, iv bb, .unset, .unset, .unset, .unset, .unset, .unset, .unset, .unset, .unset] [(.int ((x5.toUInt32 >>> ((8 : Int32) &&& 31).toUInt32).toInt32))] (fun t k => XS.iushr X0.here hx rfl (hb hby at_81) rfl k) ?_
  refine ownw_go T0 m 83 #[iv x0, iv x1, iv x2, iv x3, iv x4, iv x5, iv ee, .val (.long pw), .second, iv ln, .val (.long mm), .second, iv ct, iv aa, iv kk, iv bb, .unset, .unset, .unset, .unset, .unset, .unset, .unset, .unset, .unset] [(.int 1), (.int ((x5.toUInt32 >>> ((8 : Int32) &&& 31).toUInt32).toInt32))] (fun t k => XS.iconst X0.here hx rfl (hb hby at_82) k) ?_
  refine ownw_go T0 m 84 #[iv x0, iv x1, iv x2, iv x3, iv x4, iv x5, iv ee, .val (.long pw), .second, iv ln, .val (.long mm), .second, iv ct, iv aa, iv kk, iv bb, .unset, .unset, .unset, .unset, .unset, .unset, .unset, .unset, .unset] [(.int (((x5.toUInt32 >>> ((8 : Int32) &&& 31).toUInt32).toInt32) &&& (1 : Int32)))] (fun t k => XS.iand X0.here hx rfl (hb hby at_83) rfl k) ?_
  have seg96 : ∀ (Tj21 : State) (Lj21 : List Loc) (cx : Addr), (Stand p l e room_1 s m #[(.int x0), (.int x1), (.int x2), (.int x3), (.int x4), (.int x5)] below meth c Tj21 Lj21 0 0) → (Tj21.heap = h0) → (Fr n0 Lj21) → (Exa Z h0 cx OwnK2) → OwnW p.tables e below s (fun v h L => v = some (.int 1) ∧ Fr n0 L) room_1.cells room_1.slots (Tj21.setTop (mkF m 96 #[iv x0, iv x1, iv x2, iv x3, iv x4, iv x5, iv ee, .val (.long pw), .second, iv ln, .val (.long mm), .second, iv ct, iv aa, iv kk, iv bb, .unset, .unset, .unset, .unset, .unset, .unset, .unset, .unset, .unset] [(.ref cx)])) := by
    intro Tj21 Lj21 cx Xj21 ej21 Nj21 E_cx
    refine ownw_go Tj21 m 98 #[iv x0, iv x1, iv x2, iv x3, iv x4, iv x5, iv ee, .val (.long pw), .second, iv ln, .val (.long mm), .second, iv ct, iv aa, iv kk, iv bb, rv cx, .unset, .unset, .unset, .unset, .unset, .unset, .unset, .unset] [] (fun t k => XS.astore Xj21.here hx rfl (hb hby at_96) rfl rfl rfl k) ?_
    refine ownw_go Tj21 m 100 #[iv x0, iv x1, iv x2, iv x3, iv x4, iv x5, iv ee, .val (.long pw), .second, iv ln, .val (.long mm), .second, iv ct, iv aa, iv kk, iv bb, rv cx, .unset, .unset, .unset, .unset, .unset, .unset, .unset, .unset] [(.int x5)] (fun t k => XS.iload Xj21.here hx rfl (hb hby at_98) rfl k) ?_
    refine ownw_go Tj21 m 102 #[iv x0, iv x1, iv x2, iv x3, iv x4, iv x5, iv ee, .val (.long pw), .second, iv ln, .val (.long mm), .second, iv ct, iv aa, iv kk, iv bb, rv cx, .unset, .unset, .unset, .unset, .unset, .unset, .unset, .unset] [(.int 9), (.int x5)] (fun t k => XS.bipush Xj21.here hx rfl (hb hby at_100) k) ?_
    refine ownw_go Tj21 m 103 #[iv x0, iv x1, iv x2, iv x3, iv x4, iv x5, iv ee, .val (.long pw), .second, iv ln, .val (.long mm), .second, iv ct, iv aa, iv kk, iv bb, rv cx, .unset, .unset, .unset, .unset, .unset, .unset, .unset, .unset] [(.int ((x5.toUInt32 >>> ((9 : Int32) &&& 31).toUInt32).toInt32))] (fun t k => XS.iushr Xj21.here hx rfl (hb hby at_102) rfl k) ?_
    refine ownw_go Tj21 m 104 #[iv x0, iv x1, iv x2, iv x3, iv x4, iv x5, iv ee, .val (.long pw), .second, iv ln, .val (.long mm), .second, iv ct, iv aa, iv kk, iv bb, rv cx, .unset, .unset, .unset, .unset, .unset, .unset, .unset, .unset] [(.int 1), (.int ((x5.toUInt32 >>> ((9 : Int32) &&& 31).toUInt32).toInt32))] (fun t k => XS.iconst Xj21.here hx rfl (hb hby at_103) k) ?_
    refine ownw_go Tj21 m 105 #[iv x0, iv x1, iv x2, iv x3, iv x4, iv x5, iv ee, .val (.long pw), .second, iv ln, .val (.long mm), .second, iv ct, iv aa, iv kk, iv bb, rv cx, .unset, .unset, .unset, .unset, .unset, .unset, .unset, .unset] [(.int (((x5.toUInt32 >>> ((9 : Int32) &&& 31).toUInt32).toInt32) &&& (1 : Int32)))] (fun t k => XS.iand Xj21.here hx rfl (hb hby at_104) rfl k) ?_
    have seg117 : ∀ (Tj22 : State) (Lj22 : List Loc) (px : Addr), (Stand p l e room_1 s m #[(.int x0), (.int x1), (.int x2), (.int x3), (.int x4), (.int x5)] below meth c Tj22 Lj22 0 0) → (Tj22.heap = h0) → (Fr n0 Lj22) → (Exa Z h0 px OwnK3) → OwnW p.tables e below s (fun v h L => v = some (.int 1) ∧ Fr n0 L) room_1.cells room_1.slots (Tj22.setTop (mkF m 117 #[iv x0, iv x1, iv x2, iv x3, iv x4, iv x5, iv ee, .val (.long pw), .second, iv ln, .val (.long mm), .second, iv ct, iv aa, iv kk, iv bb, rv cx, .unset, .unset, .unset, .unset, .unset, .unset, .unset, .unset] [(.ref px)])) := by
      intro Tj22 Lj22 px Xj22 ej22 Nj22 E_px
      refine ownw_go Tj22 m 119 #[iv x0, iv x1, iv x2, iv x3, iv x4, iv x5, iv ee, .val (.long pw), .second, iv ln, .val (.long mm), .second, iv ct, iv aa, iv kk, iv bb, rv cx, rv px, .unset, .unset, .unset, .unset, .unset, .unset, .unset] [] (fun t k => XS.astore Xj22.here hx rfl (hb hby at_117) rfl rfl rfl k) ?_
      have hS := (State.WarmedH.refl s).since h0.size
      have hk := Nat.le_refl h0.size
      obtain ⟨T23, h23, X23, e23, E23, A23, D23, -, st23⟩ := newO Xj22 hx hZ hown (own_w hw 7 rfl) (own_w hw 8 rfl) (own_w hw 9 rfl) ej22 (g := (mkF m 119 #[iv x0, iv x1, iv x2, iv x3, iv x4, iv x5, iv ee, .val (.long pw), .second, iv ln, .val (.long mm), .second, iv ct, iv aa, iv kk, iv bb, rv cx, rv px, .unset, .unset, .unset, .unset, .unset, .unset, .unset] [])) rfl (hb hby at_119) (by decide) (by decide)
      obtain ⟨b23, g23⟩ : ∃ z, z = h0.size := ⟨_, rfl⟩
      rw [← g23] at A23 D23 st23
      have ne_aD_b23 : aD ≠ b23 := Nat.ne_of_lt (Nat.lt_of_lt_of_eq E_aD.lt g23.symm)
      have ne_aS_b23 : aS ≠ b23 := Nat.ne_of_lt (Nat.lt_of_lt_of_eq E_aS.lt g23.symm)
      have ne_aN_b23 : aN ≠ b23 := Nat.ne_of_lt (Nat.lt_of_lt_of_eq E_aN.lt g23.symm)
      have ne_aI_b23 : aI ≠ b23 := Nat.ne_of_lt (Nat.lt_of_lt_of_eq E_aI.lt g23.symm)
      have ne_cx_b23 : cx ≠ b23 := Nat.ne_of_lt (Nat.lt_of_lt_of_eq E_cx.lt g23.symm)
      have ne_px_b23 : px ≠ b23 := Nat.ne_of_lt (Nat.lt_of_lt_of_eq E_px.lt g23.symm)
      have g_b23 : n0 ≤ b23 := Nat.le_trans Z0 (Nat.le_of_eq g23.symm)
      have cf24 := S_aD.ext E23
      have cf25 := E_aD.ext E23
      have cf26 := S_aS.ext E23
      have cf27 := E_aS.ext E23
      have cf28 := S_aN.ext E23
      have cf29 := E_aN.ext E23
      have cf30 := S_aI.ext E23
      have cf31 := E_aI.ext E23
      have cf32 := E_cx.ext E23
      have cf33 := E_px.ext E23
      have hk34 := Nat.le_trans hk E23.1
      have Z_23 : n0 ≤ h23.size := Nat.le_trans Z0 E23.1
      have F_context_23 : Fld Z h23 b23 OwnK1 "context" "Lcom/example/bowerbird/bowerbird/core/LocalContext;" .null := D23 (Or.inr (own_w hw 37 rfl)) (ty := (.object OwnK2)) (by decide)
      have F_prior_23 : Fld Z h23 b23 OwnK1 "prior" "Lcom/example/bowerbird/bowerbird/core/Prior;" .null := D23 (Or.inr (own_w hw 42 rfl)) (ty := (.object OwnK3)) (by decide)
      have F_lambda_23 : Fld Z h23 b23 OwnK0 "lambda" "D" (.double (0 : UInt64)) := D23 (Or.inr (own_w hw 49 rfl)) (ty := .double) (by decide)
      have F_mu_23 : Fld Z h23 b23 OwnK0 "mu" "D" (.double (0 : UInt64)) := D23 (Or.inr (own_w hw 56 rfl)) (ty := .double) (by decide)
      refine ownw_go T23 m 122 #[iv x0, iv x1, iv x2, iv x3, iv x4, iv x5, iv ee, .val (.long pw), .second, iv ln, .val (.long mm), .second, iv ct, iv aa, iv kk, iv bb, rv cx, rv px, .unset, .unset, .unset, .unset, .unset, .unset, .unset] [(.ref b23)] (st23) ?_
      refine ownw_go T23 m 123 #[iv x0, iv x1, iv x2, iv x3, iv x4, iv x5, iv ee, .val (.long pw), .second, iv ln, .val (.long mm), .second, iv ct, iv aa, iv kk, iv bb, rv cx, rv px, .unset, .unset, .unset, .unset, .unset, .unset, .unset] [(.ref b23), (.ref b23)] (fun t k => XS.dup X23.here hx rfl (hb hby at_122) rfl rfl k) ?_
      refine ownw_go T23 m 125 #[iv x0, iv x1, iv x2, iv x3, iv x4, iv x5, iv ee, .val (.long pw), .second, iv ln, .val (.long mm), .second, iv ct, iv aa, iv kk, iv bb, rv cx, rv px, .unset, .unset, .unset, .unset, .unset, .unset, .unset] [(.int kk), (.ref b23), (.ref b23)] (fun t k => XS.iload X23.here hx rfl (hb hby at_123) rfl k) ?_
      refine ownw_go T23 m 126 #[iv x0, iv x1, iv x2, iv x3, iv x4, iv x5, iv ee, .val (.long pw), .second, iv ln, .val (.long mm), .second, iv ct, iv aa, iv kk, iv bb, rv cx, rv px, .unset, .unset, .unset, .unset, .unset, .unset, .unset] [(.double (FP.i2d kk)), (.ref b23), (.ref b23)] (fun t k => XS.i2dS X23.here hx rfl (hb hby at_125) rfl rfl k) ?_
      refine ownw_go T23 m 129 #[iv x0, iv x1, iv x2, iv x3, iv x4, iv x5, iv ee, .val (.long pw), .second, iv ln, .val (.long mm), .second, iv ct, iv aa, iv kk, iv bb, rv cx, rv px, .unset, .unset, .unset, .unset, .unset, .unset, .unset] [(.double (4616189618054758400 : UInt64)), (.double (FP.i2d kk)), (.ref b23), (.ref b23)] (X23.ldc2DoubleC hx hown (mvT hZ (own_w hw 10 rfl)) (g := (mkF m 126 #[iv x0, iv x1, iv x2, iv x3, iv x4, iv x5, iv ee, .val (.long pw), .second, iv ln, .val (.long mm), .second, iv ct, iv aa, iv kk, iv bb, rv cx, rv px, .unset, .unset, .unset, .unset, .unset, .unset, .unset] [(.double (FP.i2d kk)), (.ref b23), (.ref b23)])) rfl (hb hby at_126)) ?_
      refine ownw_go T23 m 130 #[iv x0, iv x1, iv x2, iv x3, iv x4, iv x5, iv ee, .val (.long pw), .second, iv ln, .val (.long mm), .second, iv ct, iv aa, iv kk, iv bb, rv cx, rv px, .unset, .unset, .unset, .unset, .unset, .unset, .unset] [(.double (FP.ddiv (FP.i2d kk) (4616189618054758400 : UInt64))), (.ref b23), (.ref b23)] (fun t k => XS.ddivS X23.here hx rfl (hb hby at_129) rfl (own_dn (own_lam HI)) rfl k) ?_
      refine ownw_go T23 m 132 #[iv x0, iv x1, iv x2, iv x3, iv x4, iv x5, iv ee, .val (.long pw), .second, iv ln, .val (.long mm), .second, iv ct, iv aa, iv kk, iv bb, rv cx, rv px, .unset, .unset, .unset, .unset, .unset, .unset, .unset] [(.long mm), (.double (FP.ddiv (FP.i2d kk) (4616189618054758400 : UInt64))), (.ref b23), (.ref b23)] (fun t k => XS.lload X23.here hx rfl (hb hby at_130) rfl k) ?_
      refine ownw_go T23 m 133 #[iv x0, iv x1, iv x2, iv x3, iv x4, iv x5, iv ee, .val (.long pw), .second, iv ln, .val (.long mm), .second, iv ct, iv aa, iv kk, iv bb, rv cx, rv px, .unset, .unset, .unset, .unset, .unset, .unset, .unset] [(.double (FP.l2d mm)), (.double (FP.ddiv (FP.i2d kk) (4616189618054758400 : UInt64))), (.ref b23), (.ref b23)] (fun t k => XS.l2dS X23.here hx rfl (hb hby at_132) rfl rfl k) ?_
      refine ownw_go T23 m 135 #[iv x0, iv x1, iv x2, iv x3, iv x4, iv x5, iv ee, .val (.long pw), .second, iv ln, .val (.long mm), .second, iv ct, iv aa, iv kk, iv bb, rv cx, rv px, .unset, .unset, .unset, .unset, .unset, .unset, .unset] [(.ref cx), (.double (FP.l2d mm)), (.double (FP.ddiv (FP.i2d kk) (4616189618054758400 : UInt64))), (.ref b23), (.ref b23)] (fun t k => XS.aload X23.here hx rfl (hb hby at_133) rfl rfl k) ?_
      refine ownw_go T23 m 137 #[iv x0, iv x1, iv x2, iv x3, iv x4, iv x5, iv ee, .val (.long pw), .second, iv ln, .val (.long mm), .second, iv ct, iv aa, iv kk, iv bb, rv cx, rv px, .unset, .unset, .unset, .unset, .unset, .unset, .unset] [(.ref px), (.ref cx), (.double (FP.l2d mm)), (.double (FP.ddiv (FP.i2d kk) (4616189618054758400 : UInt64))), (.ref b23), (.ref b23)] (fun t k => XS.aload X23.here hx rfl (hb hby at_135) rfl rfl k) ?_
      obtain ⟨_, T35, L35, X35, ⟨rfl, Nq35, Kq35, Aq35, Fl35, Fm35⟩, hS, hZ, hown, st35⟩ := own_initS (vm0 := s.vm) X23 hx hZ hS hk34 (y := (⟨OwnK0, "<init>", "(DDLcom/example/bowerbird/bowerbird/core/LocalContext;Lcom/example/bowerbird/bowerbird/core/Prior;)V"⟩ : MethodName)) rfl hown (own_w hw 11 rfl) (own_w hw 12 rfl) (own_w hw 9 rfl) (own_w hw 13 rfl) (by decide) (rm1 l Z a0 hw [] b23 (FP.ddiv (FP.i2d kk) (4616189618054758400 : UInt64)) (FP.l2d mm) cx px h23 n0 Z_23 A23 g_b23 F_context_23 F_prior_23 F_lambda_23 F_mu_23 cf32 cf33 (Ne.symm ne_cx_b23) (Ne.symm ne_px_b23) (own_s0 HI) (own_s1 HI) (own_s2 HI) (own_s3 mm)) e23 (a := b23) 1 (argsL := [(.double (FP.ddiv (FP.i2d kk) (4616189618054758400 : UInt64))), (.double (FP.l2d mm)), (.ref cx), (.ref px)]) (rest := [(.ref b23)]) (Ls := #[iv x0, iv x1, iv x2, iv x3, iv x4, iv x5, iv ee, .val (.long pw), .second, iv ln, .val (.long mm), .second, iv ct, iv aa, iv kk, iv bb, rv cx, rv px, .unset, .unset, .unset, .unset, .unset, .unset, .unset]) (by rw [hml]; rfl) (lenOf pd__DDLcom_example_bowerbird_bowerbird_core_LocalContext_Lcom_example_bowerbird_bowerbird_core_Prior__V rfl) rfl rfl (Nat.le_of_eq rfl) (hb hby at_137) (by decide) (by decide) (by decide) (by decide)
      have N35 := Fr.app Nj22 Nq35
      have cf36 := own_sta_keep1 cf24 Kq35 A23
      have cf37 := cf25.keep Kq35
      have cf38 := own_sta_keep1 cf26 Kq35 A23
      have cf39 := cf27.keep Kq35
      have cf40 := own_sta_keep1 cf28 Kq35 A23
      have cf41 := cf29.keep Kq35
      have cf42 := own_sta_keep1 cf30 Kq35 A23
      have cf43 := cf31.keep Kq35
      have cf44 := cf32.keep Kq35
      have cf45 := cf33.keep Kq35
      have hk46 := Nat.le_trans hk34 Kq35.1
      have cf47 := A23.keep Kq35
      have Z_35 : n0 ≤ T35.heap.size := Nat.le_trans Z_23 Kq35.1
      refine ownw_go T35 m 140 #[iv x0, iv x1, iv x2, iv x3, iv x4, iv x5, iv ee, .val (.long pw), .second, iv ln, .val (.long mm), .second, iv ct, iv aa, iv kk, iv bb, rv cx, rv px, .unset, .unset, .unset, .unset, .unset, .unset, .unset] [(.ref b23)] (st35) ?_
      have hk35 := Nat.le_refl T35.heap.size
      refine ownw_go T35 m 142 #[iv x0, iv x1, iv x2, iv x3, iv x4, iv x5, iv ee, .val (.long pw), .second, iv ln, .val (.long mm), .second, iv ct, iv aa, iv kk, iv bb, rv cx, rv px, rv b23, .unset, .unset, .unset, .unset, .unset, .unset] [] (fun t k => XS.astore X35.here hx rfl (hb hby at_140) rfl rfl rfl k) ?_
      refine ownw_go T35 m 144 #[iv x0, iv x1, iv x2, iv x3, iv x4, iv x5, iv ee, .val (.long pw), .second, iv ln, .val (.long mm), .second, iv ct, iv aa, iv kk, iv bb, rv cx, rv px, rv b23, .unset, .unset, .unset, .unset, .unset, .unset] [(.ref b23)] (fun t k => XS.aload X35.here hx rfl (hb hby at_142) rfl rfl k) ?_
      refine ownw_go T35 m 146 #[iv x0, iv x1, iv x2, iv x3, iv x4, iv x5, iv ee, .val (.long pw), .second, iv ln, .val (.long mm), .second, iv ct, iv aa, iv kk, iv bb, rv cx, rv px, rv b23, .unset, .unset, .unset, .unset, .unset, .unset] [(.int ct), (.ref b23)] (fun t k => XS.iload X35.here hx rfl (hb hby at_144) rfl k) ?_
      refine ownw_go T35 m 148 #[iv x0, iv x1, iv x2, iv x3, iv x4, iv x5, iv ee, .val (.long pw), .second, iv ln, .val (.long mm), .second, iv ct, iv aa, iv kk, iv bb, rv cx, rv px, rv b23, .unset, .unset, .unset, .unset, .unset, .unset] [(.int ln), (.int ct), (.ref b23)] (fun t k => XS.iload X35.here hx rfl (hb hby at_146) rfl k) ?_
      refine ownw_go T35 m 150 #[iv x0, iv x1, iv x2, iv x3, iv x4, iv x5, iv ee, .val (.long pw), .second, iv ln, .val (.long mm), .second, iv ct, iv aa, iv kk, iv bb, rv cx, rv px, rv b23, .unset, .unset, .unset, .unset, .unset, .unset] [(.int aa), (.int ln), (.int ct), (.ref b23)] (fun t k => XS.iload X35.here hx rfl (hb hby at_148) rfl k) ?_
      refine ownw_go T35 m 151 #[iv x0, iv x1, iv x2, iv x3, iv x4, iv x5, iv ee, .val (.long pw), .second, iv ln, .val (.long mm), .second, iv ct, iv aa, iv kk, iv bb, rv cx, rv px, rv b23, .unset, .unset, .unset, .unset, .unset, .unset] [(.double (FP.i2d aa)), (.int ln), (.int ct), (.ref b23)] (fun t k => XS.i2dS X35.here hx rfl (hb hby at_150) rfl rfl k) ?_
      refine ownw_go T35 m 154 #[iv x0, iv x1, iv x2, iv x3, iv x4, iv x5, iv ee, .val (.long pw), .second, iv ln, .val (.long mm), .second, iv ct, iv aa, iv kk, iv bb, rv cx, rv px, rv b23, .unset, .unset, .unset, .unset, .unset, .unset] [(.double (4643211215818981376 : UInt64)), (.double (FP.i2d aa)), (.int ln), (.int ct), (.ref b23)] (X35.ldc2DoubleC hx hown (mvT hZ (own_w hw 57 rfl)) (g := (mkF m 151 #[iv x0, iv x1, iv x2, iv x3, iv x4, iv x5, iv ee, .val (.long pw), .second, iv ln, .val (.long mm), .second, iv ct, iv aa, iv kk, iv bb, rv cx, rv px, rv b23, .unset, .unset, .unset, .unset, .unset, .unset] [(.double (FP.i2d aa)), (.int ln), (.int ct), (.ref b23)])) rfl (hb hby at_151)) ?_
      refine ownw_go T35 m 155 #[iv x0, iv x1, iv x2, iv x3, iv x4, iv x5, iv ee, .val (.long pw), .second, iv ln, .val (.long mm), .second, iv ct, iv aa, iv kk, iv bb, rv cx, rv px, rv b23, .unset, .unset, .unset, .unset, .unset, .unset] [(.double (FP.ddiv (FP.i2d aa) (4643211215818981376 : UInt64))), (.int ln), (.int ct), (.ref b23)] (fun t k => XS.ddivS X35.here hx rfl (hb hby at_154) rfl (own_dn (own_pa HI)) rfl k) ?_
      refine ownw_go T35 m 157 #[iv x0, iv x1, iv x2, iv x3, iv x4, iv x5, iv ee, .val (.long pw), .second, iv ln, .val (.long mm), .second, iv ct, iv aa, iv kk, iv bb, rv cx, rv px, rv b23, .unset, .unset, .unset, .unset, .unset, .unset] [(.int bb), (.double (FP.ddiv (FP.i2d aa) (4643211215818981376 : UInt64))), (.int ln), (.int ct), (.ref b23)] (fun t k => XS.iload X35.here hx rfl (hb hby at_155) rfl k) ?_
      refine ownw_go T35 m 158 #[iv x0, iv x1, iv x2, iv x3, iv x4, iv x5, iv ee, .val (.long pw), .second, iv ln, .val (.long mm), .second, iv ct, iv aa, iv kk, iv bb, rv cx, rv px, rv b23, .unset, .unset, .unset, .unset, .unset, .unset] [(.double (FP.i2d bb)), (.double (FP.ddiv (FP.i2d aa) (4643211215818981376 : UInt64))), (.int ln), (.int ct), (.ref b23)] (fun t k => XS.i2dS X35.here hx rfl (hb hby at_157) rfl rfl k) ?_
      refine ownw_go T35 m 161 #[iv x0, iv x1, iv x2, iv x3, iv x4, iv x5, iv ee, .val (.long pw), .second, iv ln, .val (.long mm), .second, iv ct, iv aa, iv kk, iv bb, rv cx, rv px, rv b23, .unset, .unset, .unset, .unset, .unset, .unset] [(.double (4643211215818981376 : UInt64)), (.double (FP.i2d bb)), (.double (FP.ddiv (FP.i2d aa) (4643211215818981376 : UInt64))), (.int ln), (.int ct), (.ref b23)] (X35.ldc2DoubleC hx hown (mvT hZ (own_w hw 57 rfl)) (g := (mkF m 158 #[iv x0, iv x1, iv x2, iv x3, iv x4, iv x5, iv ee, .val (.long pw), .second, iv ln, .val (.long mm), .second, iv ct, iv aa, iv kk, iv bb, rv cx, rv px, rv b23, .unset, .unset, .unset, .unset, .unset, .unset] [(.double (FP.i2d bb)), (.double (FP.ddiv (FP.i2d aa) (4643211215818981376 : UInt64))), (.int ln), (.int ct), (.ref b23)])) rfl (hb hby at_158)) ?_
      refine ownw_go T35 m 162 #[iv x0, iv x1, iv x2, iv x3, iv x4, iv x5, iv ee, .val (.long pw), .second, iv ln, .val (.long mm), .second, iv ct, iv aa, iv kk, iv bb, rv cx, rv px, rv b23, .unset, .unset, .unset, .unset, .unset, .unset] [(.double (FP.ddiv (FP.i2d bb) (4643211215818981376 : UInt64))), (.double (FP.ddiv (FP.i2d aa) (4643211215818981376 : UInt64))), (.int ln), (.int ct), (.ref b23)] (fun t k => XS.ddivS X35.here hx rfl (hb hby at_161) rfl (own_dn (own_pb HI)) rfl k) ?_
      obtain ⟨_, T48, L48, X48, ⟨rfl, e48, rfl⟩, st48⟩ := own_virtual X35 hx hZ (y := (⟨OwnK0, "probability", "(IIDD)D"⟩ : MethodName)) (z := (⟨OwnK0, "probability", "(IIDD)D"⟩ : MethodName)) hown (own_w hw 58 rfl) (own_w hw 59 rfl) (notFace_of_selects (args := #[]) (mvT hZ (own_w hw 61 rfl))) (own_w hw 61 rfl) (own_w hw 60 rfl) (own_w hw 9 rfl) (own_w hw 62 rfl) (by decide) (rm7 l Z a0 hw [] b23 ct ln (FP.ddiv (FP.i2d aa) (4643211215818981376 : UInt64)) (FP.ddiv (FP.i2d bb) (4643211215818981376 : UInt64)) (FP.ddiv (FP.i2d kk) (4616189618054758400 : UInt64)) (FP.l2d mm) T35.heap Fl35 Fm35 (own_dn (own_e1 HI)) (own_dn (own_e2 HI)) (own_dn (own_e3 HI)) (own_dn (own_e4 HI).1) (own_dn (own_e5 HI)) (own_dn (own_e6 HI)) (own_dn (own_e7 HI)) (own_dn (own_act HI))) rfl Aq35 0 (argsL := [(.int ct), (.int ln), (.double (FP.ddiv (FP.i2d aa) (4643211215818981376 : UInt64))), (.double (FP.ddiv (FP.i2d bb) (4643211215818981376 : UInt64)))]) (rest := []) (Ls := #[iv x0, iv x1, iv x2, iv x3, iv x4, iv x5, iv ee, .val (.long pw), .second, iv ln, .val (.long mm), .second, iv ct, iv aa, iv kk, iv bb, rv cx, rv px, rv b23, .unset, .unset, .unset, .unset, .unset, .unset]) (by rw [hml]; rfl) (lenOf pd__IIDD_D rfl) rfl rfl (Nat.le_of_eq rfl) (hb hby at_162) (by decide) (by decide) (by decide) (by decide)
      replace X48 := own_nil X48
      refine ownw_go T48 m 165 #[iv x0, iv x1, iv x2, iv x3, iv x4, iv x5, iv ee, .val (.long pw), .second, iv ln, .val (.long mm), .second, iv ct, iv aa, iv kk, iv bb, rv cx, rv px, rv b23, .unset, .unset, .unset, .unset, .unset, .unset] [(.double (FP.dadd (FP.ddiv (FP.dmul (FP.dsub (4607182418800017408 : UInt64) (FP.ddiv (FP.i2d kk) (4616189618054758400 : UInt64))) (FP.dadd (FP.i2d ct) (FP.dmul (FP.l2d mm) (FP.ddiv (FP.i2d aa) (4643211215818981376 : UInt64))))) (FP.dadd (FP.i2d ln) (FP.l2d mm))) (FP.dmul (FP.ddiv (FP.i2d kk) (4616189618054758400 : UInt64)) (FP.ddiv (FP.i2d bb) (4643211215818981376 : UInt64)))))] (st48) ?_
      refine ownw_go T48 m 167 #[iv x0, iv x1, iv x2, iv x3, iv x4, iv x5, iv ee, .val (.long pw), .second, iv ln, .val (.long mm), .second, iv ct, iv aa, iv kk, iv bb, rv cx, rv px, rv b23, .val (.double (FP.dadd (FP.ddiv (FP.dmul (FP.dsub (4607182418800017408 : UInt64) (FP.ddiv (FP.i2d kk) (4616189618054758400 : UInt64))) (FP.dadd (FP.i2d ct) (FP.dmul (FP.l2d mm) (FP.ddiv (FP.i2d aa) (4643211215818981376 : UInt64))))) (FP.dadd (FP.i2d ln) (FP.l2d mm))) (FP.dmul (FP.ddiv (FP.i2d kk) (4616189618054758400 : UInt64)) (FP.ddiv (FP.i2d bb) (4643211215818981376 : UInt64))))), .second, .unset, .unset, .unset, .unset] [] (fun t k => XS.dstore X48.here hx rfl (hb hby at_165) rfl rfl k) ?_
      refine ownw_go T48 m 170 #[iv x0, iv x1, iv x2, iv x3, iv x4, iv x5, iv ee, .val (.long pw), .second, iv ln, .val (.long mm), .second, iv ct, iv aa, iv kk, iv bb, rv cx, rv px, rv b23, .val (.double (FP.dadd (FP.ddiv (FP.dmul (FP.dsub (4607182418800017408 : UInt64) (FP.ddiv (FP.i2d kk) (4616189618054758400 : UInt64))) (FP.dadd (FP.i2d ct) (FP.dmul (FP.l2d mm) (FP.ddiv (FP.i2d aa) (4643211215818981376 : UInt64))))) (FP.dadd (FP.i2d ln) (FP.l2d mm))) (FP.dmul (FP.ddiv (FP.i2d kk) (4616189618054758400 : UInt64)) (FP.ddiv (FP.i2d bb) (4643211215818981376 : UInt64))))), .second, .unset, .unset, .unset, .unset] [(.long 4)] (X48.ldc2Long hx hown (mvT hZ (own_w hw 63 rfl)) (g := (mkF m 167 #[iv x0, iv x1, iv x2, iv x3, iv x4, iv x5, iv ee, .val (.long pw), .second, iv ln, .val (.long mm), .second, iv ct, iv aa, iv kk, iv bb, rv cx, rv px, rv b23, .val (.double (FP.dadd (FP.ddiv (FP.dmul (FP.dsub (4607182418800017408 : UInt64) (FP.ddiv (FP.i2d kk) (4616189618054758400 : UInt64))) (FP.dadd (FP.i2d ct) (FP.dmul (FP.l2d mm) (FP.ddiv (FP.i2d aa) (4643211215818981376 : UInt64))))) (FP.dadd (FP.i2d ln) (FP.l2d mm))) (FP.dmul (FP.ddiv (FP.i2d kk) (4616189618054758400 : UInt64)) (FP.ddiv (FP.i2d bb) (4643211215818981376 : UInt64))))), .second, .unset, .unset, .unset, .unset] [])) rfl (hb hby at_167)) ?_
      refine ownw_go T48 m 172 #[iv x0, iv x1, iv x2, iv x3, iv x4, iv x5, iv ee, .val (.long pw), .second, iv ln, .val (.long mm), .second, iv ct, iv aa, iv kk, iv bb, rv cx, rv px, rv b23, .val (.double (FP.dadd (FP.ddiv (FP.dmul (FP.dsub (4607182418800017408 : UInt64) (FP.ddiv (FP.i2d kk) (4616189618054758400 : UInt64))) (FP.dadd (FP.i2d ct) (FP.dmul (FP.l2d mm) (FP.ddiv (FP.i2d aa) (4643211215818981376 : UInt64))))) (FP.dadd (FP.i2d ln) (FP.l2d mm))) (FP.dmul (FP.ddiv (FP.i2d kk) (4616189618054758400 : UInt64)) (FP.ddiv (FP.i2d bb) (4643211215818981376 : UInt64))))), .second, .unset, .unset, .unset, .unset] [(.int kk), (.long 4)] (fun t k => XS.iload X48.here hx rfl (hb hby at_170) rfl k) ?_
      refine ownw_go T48 m 173 #[iv x0, iv x1, iv x2, iv x3, iv x4, iv x5, iv ee, .val (.long pw), .second, iv ln, .val (.long mm), .second, iv ct, iv aa, iv kk, iv bb, rv cx, rv px, rv b23, .val (.double (FP.dadd (FP.ddiv (FP.dmul (FP.dsub (4607182418800017408 : UInt64) (FP.ddiv (FP.i2d kk) (4616189618054758400 : UInt64))) (FP.dadd (FP.i2d ct) (FP.dmul (FP.l2d mm) (FP.ddiv (FP.i2d aa) (4643211215818981376 : UInt64))))) (FP.dadd (FP.i2d ln) (FP.l2d mm))) (FP.dmul (FP.ddiv (FP.i2d kk) (4616189618054758400 : UInt64)) (FP.ddiv (FP.i2d bb) (4643211215818981376 : UInt64))))), .second, .unset, .unset, .unset, .unset] [(.long kk.toInt64), (.long 4)] (fun t k => XS.i2l X48.here hx rfl (hb hby at_172) rfl k) ?_
      refine ownw_go T48 m 174 #[iv x0, iv x1, iv x2, iv x3, iv x4, iv x5, iv ee, .val (.long pw), .second, iv ln, .val (.long mm), .second, iv ct, iv aa, iv kk, iv bb, rv cx, rv px, rv b23, .val (.double (FP.dadd (FP.ddiv (FP.dmul (FP.dsub (4607182418800017408 : UInt64) (FP.ddiv (FP.i2d kk) (4616189618054758400 : UInt64))) (FP.dadd (FP.i2d ct) (FP.dmul (FP.l2d mm) (FP.ddiv (FP.i2d aa) (4643211215818981376 : UInt64))))) (FP.dadd (FP.i2d ln) (FP.l2d mm))) (FP.dmul (FP.ddiv (FP.i2d kk) (4616189618054758400 : UInt64)) (FP.ddiv (FP.i2d bb) (4643211215818981376 : UInt64))))), .second, .unset, .unset, .unset, .unset] [(.long ((4 : Int64) - kk.toInt64))] (fun t k => XS.lsub X48.here hx rfl (hb hby at_173) rfl k) ?_
      refine ownw_go T48 m 177 #[iv x0, iv x1, iv x2, iv x3, iv x4, iv x5, iv ee, .val (.long pw), .second, iv ln, .val (.long mm), .second, iv ct, iv aa, iv kk, iv bb, rv cx, rv px, rv b23, .val (.double (FP.dadd (FP.ddiv (FP.dmul (FP.dsub (4607182418800017408 : UInt64) (FP.ddiv (FP.i2d kk) (4616189618054758400 : UInt64))) (FP.dadd (FP.i2d ct) (FP.dmul (FP.l2d mm) (FP.ddiv (FP.i2d aa) (4643211215818981376 : UInt64))))) (FP.dadd (FP.i2d ln) (FP.l2d mm))) (FP.dmul (FP.ddiv (FP.i2d kk) (4616189618054758400 : UInt64)) (FP.ddiv (FP.i2d bb) (4643211215818981376 : UInt64))))), .second, .unset, .unset, .unset, .unset] [(.long 256), (.long ((4 : Int64) - kk.toInt64))] (X48.ldc2Long hx hown (mvT hZ (own_w hw 64 rfl)) (g := (mkF m 174 #[iv x0, iv x1, iv x2, iv x3, iv x4, iv x5, iv ee, .val (.long pw), .second, iv ln, .val (.long mm), .second, iv ct, iv aa, iv kk, iv bb, rv cx, rv px, rv b23, .val (.double (FP.dadd (FP.ddiv (FP.dmul (FP.dsub (4607182418800017408 : UInt64) (FP.ddiv (FP.i2d kk) (4616189618054758400 : UInt64))) (FP.dadd (FP.i2d ct) (FP.dmul (FP.l2d mm) (FP.ddiv (FP.i2d aa) (4643211215818981376 : UInt64))))) (FP.dadd (FP.i2d ln) (FP.l2d mm))) (FP.dmul (FP.ddiv (FP.i2d kk) (4616189618054758400 : UInt64)) (FP.ddiv (FP.i2d bb) (4643211215818981376 : UInt64))))), .second, .unset, .unset, .unset, .unset] [(.long ((4 : Int64) - kk.toInt64))])) rfl (hb hby at_174)) ?_
      refine ownw_go T48 m 179 #[iv x0, iv x1, iv x2, iv x3, iv x4, iv x5, iv ee, .val (.long pw), .second, iv ln, .val (.long mm), .second, iv ct, iv aa, iv kk, iv bb, rv cx, rv px, rv b23, .val (.double (FP.dadd (FP.ddiv (FP.dmul (FP.dsub (4607182418800017408 : UInt64) (FP.ddiv (FP.i2d kk) (4616189618054758400 : UInt64))) (FP.dadd (FP.i2d ct) (FP.dmul (FP.l2d mm) (FP.ddiv (FP.i2d aa) (4643211215818981376 : UInt64))))) (FP.dadd (FP.i2d ln) (FP.l2d mm))) (FP.dmul (FP.ddiv (FP.i2d kk) (4616189618054758400 : UInt64)) (FP.ddiv (FP.i2d bb) (4643211215818981376 : UInt64))))), .second, .unset, .unset, .unset, .unset] [(.int ct), (.long 256), (.long ((4 : Int64) - kk.toInt64))] (fun t k => XS.iload X48.here hx rfl (hb hby at_177) rfl k) ?_
      refine ownw_go T48 m 180 #[iv x0, iv x1, iv x2, iv x3, iv x4, iv x5, iv ee, .val (.long pw), .second, iv ln, .val (.long mm), .second, iv ct, iv aa, iv kk, iv bb, rv cx, rv px, rv b23, .val (.double (FP.dadd (FP.ddiv (FP.dmul (FP.dsub (4607182418800017408 : UInt64) (FP.ddiv (FP.i2d kk) (4616189618054758400 : UInt64))) (FP.dadd (FP.i2d ct) (FP.dmul (FP.l2d mm) (FP.ddiv (FP.i2d aa) (4643211215818981376 : UInt64))))) (FP.dadd (FP.i2d ln) (FP.l2d mm))) (FP.dmul (FP.ddiv (FP.i2d kk) (4616189618054758400 : UInt64)) (FP.ddiv (FP.i2d bb) (4643211215818981376 : UInt64))))), .second, .unset, .unset, .unset, .unset] [(.long ct.toInt64), (.long 256), (.long ((4 : Int64) - kk.toInt64))] (fun t k => XS.i2l X48.here hx rfl (hb hby at_179) rfl k) ?_
      refine ownw_go T48 m 181 #[iv x0, iv x1, iv x2, iv x3, iv x4, iv x5, iv ee, .val (.long pw), .second, iv ln, .val (.long mm), .second, iv ct, iv aa, iv kk, iv bb, rv cx, rv px, rv b23, .val (.double (FP.dadd (FP.ddiv (FP.dmul (FP.dsub (4607182418800017408 : UInt64) (FP.ddiv (FP.i2d kk) (4616189618054758400 : UInt64))) (FP.dadd (FP.i2d ct) (FP.dmul (FP.l2d mm) (FP.ddiv (FP.i2d aa) (4643211215818981376 : UInt64))))) (FP.dadd (FP.i2d ln) (FP.l2d mm))) (FP.dmul (FP.ddiv (FP.i2d kk) (4616189618054758400 : UInt64)) (FP.ddiv (FP.i2d bb) (4643211215818981376 : UInt64))))), .second, .unset, .unset, .unset, .unset] [(.long ((256 : Int64) * ct.toInt64)), (.long ((4 : Int64) - kk.toInt64))] (fun t k => XS.lmul X48.here hx rfl (hb hby at_180) rfl k) ?_
      refine ownw_go T48 m 183 #[iv x0, iv x1, iv x2, iv x3, iv x4, iv x5, iv ee, .val (.long pw), .second, iv ln, .val (.long mm), .second, iv ct, iv aa, iv kk, iv bb, rv cx, rv px, rv b23, .val (.double (FP.dadd (FP.ddiv (FP.dmul (FP.dsub (4607182418800017408 : UInt64) (FP.ddiv (FP.i2d kk) (4616189618054758400 : UInt64))) (FP.dadd (FP.i2d ct) (FP.dmul (FP.l2d mm) (FP.ddiv (FP.i2d aa) (4643211215818981376 : UInt64))))) (FP.dadd (FP.i2d ln) (FP.l2d mm))) (FP.dmul (FP.ddiv (FP.i2d kk) (4616189618054758400 : UInt64)) (FP.ddiv (FP.i2d bb) (4643211215818981376 : UInt64))))), .second, .unset, .unset, .unset, .unset] [(.long mm), (.long ((256 : Int64) * ct.toInt64)), (.long ((4 : Int64) - kk.toInt64))] (fun t k => XS.lload X48.here hx rfl (hb hby at_181) rfl k) ?_
      refine ownw_go T48 m 185 #[iv x0, iv x1, iv x2, iv x3, iv x4, iv x5, iv ee, .val (.long pw), .second, iv ln, .val (.long mm), .second, iv ct, iv aa, iv kk, iv bb, rv cx, rv px, rv b23, .val (.double (FP.dadd (FP.ddiv (FP.dmul (FP.dsub (4607182418800017408 : UInt64) (FP.ddiv (FP.i2d kk) (4616189618054758400 : UInt64))) (FP.dadd (FP.i2d ct) (FP.dmul (FP.l2d mm) (FP.ddiv (FP.i2d aa) (4643211215818981376 : UInt64))))) (FP.dadd (FP.i2d ln) (FP.l2d mm))) (FP.dmul (FP.ddiv (FP.i2d kk) (4616189618054758400 : UInt64)) (FP.ddiv (FP.i2d bb) (4643211215818981376 : UInt64))))), .second, .unset, .unset, .unset, .unset] [(.int aa), (.long mm), (.long ((256 : Int64) * ct.toInt64)), (.long ((4 : Int64) - kk.toInt64))] (fun t k => XS.iload X48.here hx rfl (hb hby at_183) rfl k) ?_
      refine ownw_go T48 m 186 #[iv x0, iv x1, iv x2, iv x3, iv x4, iv x5, iv ee, .val (.long pw), .second, iv ln, .val (.long mm), .second, iv ct, iv aa, iv kk, iv bb, rv cx, rv px, rv b23, .val (.double (FP.dadd (FP.ddiv (FP.dmul (FP.dsub (4607182418800017408 : UInt64) (FP.ddiv (FP.i2d kk) (4616189618054758400 : UInt64))) (FP.dadd (FP.i2d ct) (FP.dmul (FP.l2d mm) (FP.ddiv (FP.i2d aa) (4643211215818981376 : UInt64))))) (FP.dadd (FP.i2d ln) (FP.l2d mm))) (FP.dmul (FP.ddiv (FP.i2d kk) (4616189618054758400 : UInt64)) (FP.ddiv (FP.i2d bb) (4643211215818981376 : UInt64))))), .second, .unset, .unset, .unset, .unset] [(.long aa.toInt64), (.long mm), (.long ((256 : Int64) * ct.toInt64)), (.long ((4 : Int64) - kk.toInt64))] (fun t k => XS.i2l X48.here hx rfl (hb hby at_185) rfl k) ?_
      refine ownw_go T48 m 187 #[iv x0, iv x1, iv x2, iv x3, iv x4, iv x5, iv ee, .val (.long pw), .second, iv ln, .val (.long mm), .second, iv ct, iv aa, iv kk, iv bb, rv cx, rv px, rv b23, .val (.double (FP.dadd (FP.ddiv (FP.dmul (FP.dsub (4607182418800017408 : UInt64) (FP.ddiv (FP.i2d kk) (4616189618054758400 : UInt64))) (FP.dadd (FP.i2d ct) (FP.dmul (FP.l2d mm) (FP.ddiv (FP.i2d aa) (4643211215818981376 : UInt64))))) (FP.dadd (FP.i2d ln) (FP.l2d mm))) (FP.dmul (FP.ddiv (FP.i2d kk) (4616189618054758400 : UInt64)) (FP.ddiv (FP.i2d bb) (4643211215818981376 : UInt64))))), .second, .unset, .unset, .unset, .unset] [(.long (mm * aa.toInt64)), (.long ((256 : Int64) * ct.toInt64)), (.long ((4 : Int64) - kk.toInt64))] (fun t k => XS.lmul X48.here hx rfl (hb hby at_186) rfl k) ?_
      refine ownw_go T48 m 188 #[iv x0, iv x1, iv x2, iv x3, iv x4, iv x5, iv ee, .val (.long pw), .second, iv ln, .val (.long mm), .second, iv ct, iv aa, iv kk, iv bb, rv cx, rv px, rv b23, .val (.double (FP.dadd (FP.ddiv (FP.dmul (FP.dsub (4607182418800017408 : UInt64) (FP.ddiv (FP.i2d kk) (4616189618054758400 : UInt64))) (FP.dadd (FP.i2d ct) (FP.dmul (FP.l2d mm) (FP.ddiv (FP.i2d aa) (4643211215818981376 : UInt64))))) (FP.dadd (FP.i2d ln) (FP.l2d mm))) (FP.dmul (FP.ddiv (FP.i2d kk) (4616189618054758400 : UInt64)) (FP.ddiv (FP.i2d bb) (4643211215818981376 : UInt64))))), .second, .unset, .unset, .unset, .unset] [(.long (((256 : Int64) * ct.toInt64) + (mm * aa.toInt64))), (.long ((4 : Int64) - kk.toInt64))] (fun t k => XS.ladd X48.here hx rfl (hb hby at_187) rfl k) ?_
      refine ownw_go T48 m 189 #[iv x0, iv x1, iv x2, iv x3, iv x4, iv x5, iv ee, .val (.long pw), .second, iv ln, .val (.long mm), .second, iv ct, iv aa, iv kk, iv bb, rv cx, rv px, rv b23, .val (.double (FP.dadd (FP.ddiv (FP.dmul (FP.dsub (4607182418800017408 : UInt64) (FP.ddiv (FP.i2d kk) (4616189618054758400 : UInt64))) (FP.dadd (FP.i2d ct) (FP.dmul (FP.l2d mm) (FP.ddiv (FP.i2d aa) (4643211215818981376 : UInt64))))) (FP.dadd (FP.i2d ln) (FP.l2d mm))) (FP.dmul (FP.ddiv (FP.i2d kk) (4616189618054758400 : UInt64)) (FP.ddiv (FP.i2d bb) (4643211215818981376 : UInt64))))), .second, .unset, .unset, .unset, .unset] [(.long (((4 : Int64) - kk.toInt64) * (((256 : Int64) * ct.toInt64) + (mm * aa.toInt64))))] (fun t k => XS.lmul X48.here hx rfl (hb hby at_188) rfl k) ?_
      refine ownw_go T48 m 191 #[iv x0, iv x1, iv x2, iv x3, iv x4, iv x5, iv ee, .val (.long pw), .second, iv ln, .val (.long mm), .second, iv ct, iv aa, iv kk, iv bb, rv cx, rv px, rv b23, .val (.double (FP.dadd (FP.ddiv (FP.dmul (FP.dsub (4607182418800017408 : UInt64) (FP.ddiv (FP.i2d kk) (4616189618054758400 : UInt64))) (FP.dadd (FP.i2d ct) (FP.dmul (FP.l2d mm) (FP.ddiv (FP.i2d aa) (4643211215818981376 : UInt64))))) (FP.dadd (FP.i2d ln) (FP.l2d mm))) (FP.dmul (FP.ddiv (FP.i2d kk) (4616189618054758400 : UInt64)) (FP.ddiv (FP.i2d bb) (4643211215818981376 : UInt64))))), .second, .unset, .unset, .unset, .unset] [(.int kk), (.long (((4 : Int64) - kk.toInt64) * (((256 : Int64) * ct.toInt64) + (mm * aa.toInt64))))] (fun t k => XS.iload X48.here hx rfl (hb hby at_189) rfl k) ?_
      refine ownw_go T48 m 192 #[iv x0, iv x1, iv x2, iv x3, iv x4, iv x5, iv ee, .val (.long pw), .second, iv ln, .val (.long mm), .second, iv ct, iv aa, iv kk, iv bb, rv cx, rv px, rv b23, .val (.double (FP.dadd (FP.ddiv (FP.dmul (FP.dsub (4607182418800017408 : UInt64) (FP.ddiv (FP.i2d kk) (4616189618054758400 : UInt64))) (FP.dadd (FP.i2d ct) (FP.dmul (FP.l2d mm) (FP.ddiv (FP.i2d aa) (4643211215818981376 : UInt64))))) (FP.dadd (FP.i2d ln) (FP.l2d mm))) (FP.dmul (FP.ddiv (FP.i2d kk) (4616189618054758400 : UInt64)) (FP.ddiv (FP.i2d bb) (4643211215818981376 : UInt64))))), .second, .unset, .unset, .unset, .unset] [(.long kk.toInt64), (.long (((4 : Int64) - kk.toInt64) * (((256 : Int64) * ct.toInt64) + (mm * aa.toInt64))))] (fun t k => XS.i2l X48.here hx rfl (hb hby at_191) rfl k) ?_
      refine ownw_go T48 m 194 #[iv x0, iv x1, iv x2, iv x3, iv x4, iv x5, iv ee, .val (.long pw), .second, iv ln, .val (.long mm), .second, iv ct, iv aa, iv kk, iv bb, rv cx, rv px, rv b23, .val (.double (FP.dadd (FP.ddiv (FP.dmul (FP.dsub (4607182418800017408 : UInt64) (FP.ddiv (FP.i2d kk) (4616189618054758400 : UInt64))) (FP.dadd (FP.i2d ct) (FP.dmul (FP.l2d mm) (FP.ddiv (FP.i2d aa) (4643211215818981376 : UInt64))))) (FP.dadd (FP.i2d ln) (FP.l2d mm))) (FP.dmul (FP.ddiv (FP.i2d kk) (4616189618054758400 : UInt64)) (FP.ddiv (FP.i2d bb) (4643211215818981376 : UInt64))))), .second, .unset, .unset, .unset, .unset] [(.int bb), (.long kk.toInt64), (.long (((4 : Int64) - kk.toInt64) * (((256 : Int64) * ct.toInt64) + (mm * aa.toInt64))))] (fun t k => XS.iload X48.here hx rfl (hb hby at_192) rfl k) ?_
      refine ownw_go T48 m 195 #[iv x0, iv x1, iv x2, iv x3, iv x4, iv x5, iv ee, .val (.long pw), .second, iv ln, .val (.long mm), .second, iv ct, iv aa, iv kk, iv bb, rv cx, rv px, rv b23, .val (.double (FP.dadd (FP.ddiv (FP.dmul (FP.dsub (4607182418800017408 : UInt64) (FP.ddiv (FP.i2d kk) (4616189618054758400 : UInt64))) (FP.dadd (FP.i2d ct) (FP.dmul (FP.l2d mm) (FP.ddiv (FP.i2d aa) (4643211215818981376 : UInt64))))) (FP.dadd (FP.i2d ln) (FP.l2d mm))) (FP.dmul (FP.ddiv (FP.i2d kk) (4616189618054758400 : UInt64)) (FP.ddiv (FP.i2d bb) (4643211215818981376 : UInt64))))), .second, .unset, .unset, .unset, .unset] [(.long bb.toInt64), (.long kk.toInt64), (.long (((4 : Int64) - kk.toInt64) * (((256 : Int64) * ct.toInt64) + (mm * aa.toInt64))))] (fun t k => XS.i2l X48.here hx rfl (hb hby at_194) rfl k) ?_
      refine ownw_go T48 m 196 #[iv x0, iv x1, iv x2, iv x3, iv x4, iv x5, iv ee, .val (.long pw), .second, iv ln, .val (.long mm), .second, iv ct, iv aa, iv kk, iv bb, rv cx, rv px, rv b23, .val (.double (FP.dadd (FP.ddiv (FP.dmul (FP.dsub (4607182418800017408 : UInt64) (FP.ddiv (FP.i2d kk) (4616189618054758400 : UInt64))) (FP.dadd (FP.i2d ct) (FP.dmul (FP.l2d mm) (FP.ddiv (FP.i2d aa) (4643211215818981376 : UInt64))))) (FP.dadd (FP.i2d ln) (FP.l2d mm))) (FP.dmul (FP.ddiv (FP.i2d kk) (4616189618054758400 : UInt64)) (FP.ddiv (FP.i2d bb) (4643211215818981376 : UInt64))))), .second, .unset, .unset, .unset, .unset] [(.long (kk.toInt64 * bb.toInt64)), (.long (((4 : Int64) - kk.toInt64) * (((256 : Int64) * ct.toInt64) + (mm * aa.toInt64))))] (fun t k => XS.lmul X48.here hx rfl (hb hby at_195) rfl k) ?_
      refine ownw_go T48 m 198 #[iv x0, iv x1, iv x2, iv x3, iv x4, iv x5, iv ee, .val (.long pw), .second, iv ln, .val (.long mm), .second, iv ct, iv aa, iv kk, iv bb, rv cx, rv px, rv b23, .val (.double (FP.dadd (FP.ddiv (FP.dmul (FP.dsub (4607182418800017408 : UInt64) (FP.ddiv (FP.i2d kk) (4616189618054758400 : UInt64))) (FP.dadd (FP.i2d ct) (FP.dmul (FP.l2d mm) (FP.ddiv (FP.i2d aa) (4643211215818981376 : UInt64))))) (FP.dadd (FP.i2d ln) (FP.l2d mm))) (FP.dmul (FP.ddiv (FP.i2d kk) (4616189618054758400 : UInt64)) (FP.ddiv (FP.i2d bb) (4643211215818981376 : UInt64))))), .second, .unset, .unset, .unset, .unset] [(.long pw), (.long (kk.toInt64 * bb.toInt64)), (.long (((4 : Int64) - kk.toInt64) * (((256 : Int64) * ct.toInt64) + (mm * aa.toInt64))))] (fun t k => XS.lload X48.here hx rfl (hb hby at_196) rfl k) ?_
      refine ownw_go T48 m 199 #[iv x0, iv x1, iv x2, iv x3, iv x4, iv x5, iv ee, .val (.long pw), .second, iv ln, .val (.long mm), .second, iv ct, iv aa, iv kk, iv bb, rv cx, rv px, rv b23, .val (.double (FP.dadd (FP.ddiv (FP.dmul (FP.dsub (4607182418800017408 : UInt64) (FP.ddiv (FP.i2d kk) (4616189618054758400 : UInt64))) (FP.dadd (FP.i2d ct) (FP.dmul (FP.l2d mm) (FP.ddiv (FP.i2d aa) (4643211215818981376 : UInt64))))) (FP.dadd (FP.i2d ln) (FP.l2d mm))) (FP.dmul (FP.ddiv (FP.i2d kk) (4616189618054758400 : UInt64)) (FP.ddiv (FP.i2d bb) (4643211215818981376 : UInt64))))), .second, .unset, .unset, .unset, .unset] [(.long ((kk.toInt64 * bb.toInt64) * pw)), (.long (((4 : Int64) - kk.toInt64) * (((256 : Int64) * ct.toInt64) + (mm * aa.toInt64))))] (fun t k => XS.lmul X48.here hx rfl (hb hby at_198) rfl k) ?_
      refine ownw_go T48 m 200 #[iv x0, iv x1, iv x2, iv x3, iv x4, iv x5, iv ee, .val (.long pw), .second, iv ln, .val (.long mm), .second, iv ct, iv aa, iv kk, iv bb, rv cx, rv px, rv b23, .val (.double (FP.dadd (FP.ddiv (FP.dmul (FP.dsub (4607182418800017408 : UInt64) (FP.ddiv (FP.i2d kk) (4616189618054758400 : UInt64))) (FP.dadd (FP.i2d ct) (FP.dmul (FP.l2d mm) (FP.ddiv (FP.i2d aa) (4643211215818981376 : UInt64))))) (FP.dadd (FP.i2d ln) (FP.l2d mm))) (FP.dmul (FP.ddiv (FP.i2d kk) (4616189618054758400 : UInt64)) (FP.ddiv (FP.i2d bb) (4643211215818981376 : UInt64))))), .second, .unset, .unset, .unset, .unset] [(.long ((((4 : Int64) - kk.toInt64) * (((256 : Int64) * ct.toInt64) + (mm * aa.toInt64))) + ((kk.toInt64 * bb.toInt64) * pw)))] (fun t k => XS.ladd X48.here hx rfl (hb hby at_199) rfl k) ?_
      refine ownw_go T48 m 202 #[iv x0, iv x1, iv x2, iv x3, iv x4, iv x5, iv ee, .val (.long pw), .second, iv ln, .val (.long mm), .second, iv ct, iv aa, iv kk, iv bb, rv cx, rv px, rv b23, .val (.double (FP.dadd (FP.ddiv (FP.dmul (FP.dsub (4607182418800017408 : UInt64) (FP.ddiv (FP.i2d kk) (4616189618054758400 : UInt64))) (FP.dadd (FP.i2d ct) (FP.dmul (FP.l2d mm) (FP.ddiv (FP.i2d aa) (4643211215818981376 : UInt64))))) (FP.dadd (FP.i2d ln) (FP.l2d mm))) (FP.dmul (FP.ddiv (FP.i2d kk) (4616189618054758400 : UInt64)) (FP.ddiv (FP.i2d bb) (4643211215818981376 : UInt64))))), .second, .val (.long ((((4 : Int64) - kk.toInt64) * (((256 : Int64) * ct.toInt64) + (mm * aa.toInt64))) + ((kk.toInt64 * bb.toInt64) * pw))), .second, .unset, .unset] [] (fun t k => XS.lstore X48.here hx rfl (hb hby at_200) rfl rfl k) ?_
      refine ownw_go T48 m 204 #[iv x0, iv x1, iv x2, iv x3, iv x4, iv x5, iv ee, .val (.long pw), .second, iv ln, .val (.long mm), .second, iv ct, iv aa, iv kk, iv bb, rv cx, rv px, rv b23, .val (.double (FP.dadd (FP.ddiv (FP.dmul (FP.dsub (4607182418800017408 : UInt64) (FP.ddiv (FP.i2d kk) (4616189618054758400 : UInt64))) (FP.dadd (FP.i2d ct) (FP.dmul (FP.l2d mm) (FP.ddiv (FP.i2d aa) (4643211215818981376 : UInt64))))) (FP.dadd (FP.i2d ln) (FP.l2d mm))) (FP.dmul (FP.ddiv (FP.i2d kk) (4616189618054758400 : UInt64)) (FP.ddiv (FP.i2d bb) (4643211215818981376 : UInt64))))), .second, .val (.long ((((4 : Int64) - kk.toInt64) * (((256 : Int64) * ct.toInt64) + (mm * aa.toInt64))) + ((kk.toInt64 * bb.toInt64) * pw))), .second, .unset, .unset] [(.long ((((4 : Int64) - kk.toInt64) * (((256 : Int64) * ct.toInt64) + (mm * aa.toInt64))) + ((kk.toInt64 * bb.toInt64) * pw)))] (fun t k => XS.lload X48.here hx rfl (hb hby at_202) rfl k) ?_
      refine ownw_go T48 m 205 #[iv x0, iv x1, iv x2, iv x3, iv x4, iv x5, iv ee, .val (.long pw), .second, iv ln, .val (.long mm), .second, iv ct, iv aa, iv kk, iv bb, rv cx, rv px, rv b23, .val (.double (FP.dadd (FP.ddiv (FP.dmul (FP.dsub (4607182418800017408 : UInt64) (FP.ddiv (FP.i2d kk) (4616189618054758400 : UInt64))) (FP.dadd (FP.i2d ct) (FP.dmul (FP.l2d mm) (FP.ddiv (FP.i2d aa) (4643211215818981376 : UInt64))))) (FP.dadd (FP.i2d ln) (FP.l2d mm))) (FP.dmul (FP.ddiv (FP.i2d kk) (4616189618054758400 : UInt64)) (FP.ddiv (FP.i2d bb) (4643211215818981376 : UInt64))))), .second, .val (.long ((((4 : Int64) - kk.toInt64) * (((256 : Int64) * ct.toInt64) + (mm * aa.toInt64))) + ((kk.toInt64 * bb.toInt64) * pw))), .second, .unset, .unset] [(.double (FP.l2d ((((4 : Int64) - kk.toInt64) * (((256 : Int64) * ct.toInt64) + (mm * aa.toInt64))) + ((kk.toInt64 * bb.toInt64) * pw))))] (fun t k => XS.l2dS X48.here hx rfl (hb hby at_204) rfl rfl k) ?_
      refine ownw_go T48 m 208 #[iv x0, iv x1, iv x2, iv x3, iv x4, iv x5, iv ee, .val (.long pw), .second, iv ln, .val (.long mm), .second, iv ct, iv aa, iv kk, iv bb, rv cx, rv px, rv b23, .val (.double (FP.dadd (FP.ddiv (FP.dmul (FP.dsub (4607182418800017408 : UInt64) (FP.ddiv (FP.i2d kk) (4616189618054758400 : UInt64))) (FP.dadd (FP.i2d ct) (FP.dmul (FP.l2d mm) (FP.ddiv (FP.i2d aa) (4643211215818981376 : UInt64))))) (FP.dadd (FP.i2d ln) (FP.l2d mm))) (FP.dmul (FP.ddiv (FP.i2d kk) (4616189618054758400 : UInt64)) (FP.ddiv (FP.i2d bb) (4643211215818981376 : UInt64))))), .second, .val (.long ((((4 : Int64) - kk.toInt64) * (((256 : Int64) * ct.toInt64) + (mm * aa.toInt64))) + ((kk.toInt64 * bb.toInt64) * pw))), .second, .unset, .unset] [(.long 1024), (.double (FP.l2d ((((4 : Int64) - kk.toInt64) * (((256 : Int64) * ct.toInt64) + (mm * aa.toInt64))) + ((kk.toInt64 * bb.toInt64) * pw))))] (X48.ldc2Long hx hown (mvT hZ (own_w hw 65 rfl)) (g := (mkF m 205 #[iv x0, iv x1, iv x2, iv x3, iv x4, iv x5, iv ee, .val (.long pw), .second, iv ln, .val (.long mm), .second, iv ct, iv aa, iv kk, iv bb, rv cx, rv px, rv b23, .val (.double (FP.dadd (FP.ddiv (FP.dmul (FP.dsub (4607182418800017408 : UInt64) (FP.ddiv (FP.i2d kk) (4616189618054758400 : UInt64))) (FP.dadd (FP.i2d ct) (FP.dmul (FP.l2d mm) (FP.ddiv (FP.i2d aa) (4643211215818981376 : UInt64))))) (FP.dadd (FP.i2d ln) (FP.l2d mm))) (FP.dmul (FP.ddiv (FP.i2d kk) (4616189618054758400 : UInt64)) (FP.ddiv (FP.i2d bb) (4643211215818981376 : UInt64))))), .second, .val (.long ((((4 : Int64) - kk.toInt64) * (((256 : Int64) * ct.toInt64) + (mm * aa.toInt64))) + ((kk.toInt64 * bb.toInt64) * pw))), .second, .unset, .unset] [(.double (FP.l2d ((((4 : Int64) - kk.toInt64) * (((256 : Int64) * ct.toInt64) + (mm * aa.toInt64))) + ((kk.toInt64 * bb.toInt64) * pw))))])) rfl (hb hby at_205)) ?_
      refine ownw_go T48 m 210 #[iv x0, iv x1, iv x2, iv x3, iv x4, iv x5, iv ee, .val (.long pw), .second, iv ln, .val (.long mm), .second, iv ct, iv aa, iv kk, iv bb, rv cx, rv px, rv b23, .val (.double (FP.dadd (FP.ddiv (FP.dmul (FP.dsub (4607182418800017408 : UInt64) (FP.ddiv (FP.i2d kk) (4616189618054758400 : UInt64))) (FP.dadd (FP.i2d ct) (FP.dmul (FP.l2d mm) (FP.ddiv (FP.i2d aa) (4643211215818981376 : UInt64))))) (FP.dadd (FP.i2d ln) (FP.l2d mm))) (FP.dmul (FP.ddiv (FP.i2d kk) (4616189618054758400 : UInt64)) (FP.ddiv (FP.i2d bb) (4643211215818981376 : UInt64))))), .second, .val (.long ((((4 : Int64) - kk.toInt64) * (((256 : Int64) * ct.toInt64) + (mm * aa.toInt64))) + ((kk.toInt64 * bb.toInt64) * pw))), .second, .unset, .unset] [(.long pw), (.long 1024), (.double (FP.l2d ((((4 : Int64) - kk.toInt64) * (((256 : Int64) * ct.toInt64) + (mm * aa.toInt64))) + ((kk.toInt64 * bb.toInt64) * pw))))] (fun t k => XS.lload X48.here hx rfl (hb hby at_208) rfl k) ?_
      refine ownw_go T48 m 211 #[iv x0, iv x1, iv x2, iv x3, iv x4, iv x5, iv ee, .val (.long pw), .second, iv ln, .val (.long mm), .second, iv ct, iv aa, iv kk, iv bb, rv cx, rv px, rv b23, .val (.double (FP.dadd (FP.ddiv (FP.dmul (FP.dsub (4607182418800017408 : UInt64) (FP.ddiv (FP.i2d kk) (4616189618054758400 : UInt64))) (FP.dadd (FP.i2d ct) (FP.dmul (FP.l2d mm) (FP.ddiv (FP.i2d aa) (4643211215818981376 : UInt64))))) (FP.dadd (FP.i2d ln) (FP.l2d mm))) (FP.dmul (FP.ddiv (FP.i2d kk) (4616189618054758400 : UInt64)) (FP.ddiv (FP.i2d bb) (4643211215818981376 : UInt64))))), .second, .val (.long ((((4 : Int64) - kk.toInt64) * (((256 : Int64) * ct.toInt64) + (mm * aa.toInt64))) + ((kk.toInt64 * bb.toInt64) * pw))), .second, .unset, .unset] [(.long ((1024 : Int64) * pw)), (.double (FP.l2d ((((4 : Int64) - kk.toInt64) * (((256 : Int64) * ct.toInt64) + (mm * aa.toInt64))) + ((kk.toInt64 * bb.toInt64) * pw))))] (fun t k => XS.lmul X48.here hx rfl (hb hby at_210) rfl k) ?_
      refine ownw_go T48 m 212 #[iv x0, iv x1, iv x2, iv x3, iv x4, iv x5, iv ee, .val (.long pw), .second, iv ln, .val (.long mm), .second, iv ct, iv aa, iv kk, iv bb, rv cx, rv px, rv b23, .val (.double (FP.dadd (FP.ddiv (FP.dmul (FP.dsub (4607182418800017408 : UInt64) (FP.ddiv (FP.i2d kk) (4616189618054758400 : UInt64))) (FP.dadd (FP.i2d ct) (FP.dmul (FP.l2d mm) (FP.ddiv (FP.i2d aa) (4643211215818981376 : UInt64))))) (FP.dadd (FP.i2d ln) (FP.l2d mm))) (FP.dmul (FP.ddiv (FP.i2d kk) (4616189618054758400 : UInt64)) (FP.ddiv (FP.i2d bb) (4643211215818981376 : UInt64))))), .second, .val (.long ((((4 : Int64) - kk.toInt64) * (((256 : Int64) * ct.toInt64) + (mm * aa.toInt64))) + ((kk.toInt64 * bb.toInt64) * pw))), .second, .unset, .unset] [(.double (FP.l2d ((1024 : Int64) * pw))), (.double (FP.l2d ((((4 : Int64) - kk.toInt64) * (((256 : Int64) * ct.toInt64) + (mm * aa.toInt64))) + ((kk.toInt64 * bb.toInt64) * pw))))] (fun t k => XS.l2dS X48.here hx rfl (hb hby at_211) rfl rfl k) ?_
      refine ownw_go T48 m 213 #[iv x0, iv x1, iv x2, iv x3, iv x4, iv x5, iv ee, .val (.long pw), .second, iv ln, .val (.long mm), .second, iv ct, iv aa, iv kk, iv bb, rv cx, rv px, rv b23, .val (.double (FP.dadd (FP.ddiv (FP.dmul (FP.dsub (4607182418800017408 : UInt64) (FP.ddiv (FP.i2d kk) (4616189618054758400 : UInt64))) (FP.dadd (FP.i2d ct) (FP.dmul (FP.l2d mm) (FP.ddiv (FP.i2d aa) (4643211215818981376 : UInt64))))) (FP.dadd (FP.i2d ln) (FP.l2d mm))) (FP.dmul (FP.ddiv (FP.i2d kk) (4616189618054758400 : UInt64)) (FP.ddiv (FP.i2d bb) (4643211215818981376 : UInt64))))), .second, .val (.long ((((4 : Int64) - kk.toInt64) * (((256 : Int64) * ct.toInt64) + (mm * aa.toInt64))) + ((kk.toInt64 * bb.toInt64) * pw))), .second, .unset, .unset] [(.double (FP.ddiv (FP.l2d ((((4 : Int64) - kk.toInt64) * (((256 : Int64) * ct.toInt64) + (mm * aa.toInt64))) + ((kk.toInt64 * bb.toInt64) * pw))) (FP.l2d ((1024 : Int64) * pw))))] (fun t k => XS.ddivS X48.here hx rfl (hb hby at_212) rfl (own_dn (own_exp HI)) rfl k) ?_
      refine ownw_go T48 m 215 #[iv x0, iv x1, iv x2, iv x3, iv x4, iv x5, iv ee, .val (.long pw), .second, iv ln, .val (.long mm), .second, iv ct, iv aa, iv kk, iv bb, rv cx, rv px, rv b23, .val (.double (FP.dadd (FP.ddiv (FP.dmul (FP.dsub (4607182418800017408 : UInt64) (FP.ddiv (FP.i2d kk) (4616189618054758400 : UInt64))) (FP.dadd (FP.i2d ct) (FP.dmul (FP.l2d mm) (FP.ddiv (FP.i2d aa) (4643211215818981376 : UInt64))))) (FP.dadd (FP.i2d ln) (FP.l2d mm))) (FP.dmul (FP.ddiv (FP.i2d kk) (4616189618054758400 : UInt64)) (FP.ddiv (FP.i2d bb) (4643211215818981376 : UInt64))))), .second, .val (.long ((((4 : Int64) - kk.toInt64) * (((256 : Int64) * ct.toInt64) + (mm * aa.toInt64))) + ((kk.toInt64 * bb.toInt64) * pw))), .second, .val (.double (FP.ddiv (FP.l2d ((((4 : Int64) - kk.toInt64) * (((256 : Int64) * ct.toInt64) + (mm * aa.toInt64))) + ((kk.toInt64 * bb.toInt64) * pw))) (FP.l2d ((1024 : Int64) * pw)))), .second] [] (fun t k => XS.dstore X48.here hx rfl (hb hby at_213) rfl rfl k) ?_
      refine ownw_go T48 m 217 #[iv x0, iv x1, iv x2, iv x3, iv x4, iv x5, iv ee, .val (.long pw), .second, iv ln, .val (.long mm), .second, iv ct, iv aa, iv kk, iv bb, rv cx, rv px, rv b23, .val (.double (FP.dadd (FP.ddiv (FP.dmul (FP.dsub (4607182418800017408 : UInt64) (FP.ddiv (FP.i2d kk) (4616189618054758400 : UInt64))) (FP.dadd (FP.i2d ct) (FP.dmul (FP.l2d mm) (FP.ddiv (FP.i2d aa) (4643211215818981376 : UInt64))))) (FP.dadd (FP.i2d ln) (FP.l2d mm))) (FP.dmul (FP.ddiv (FP.i2d kk) (4616189618054758400 : UInt64)) (FP.ddiv (FP.i2d bb) (4643211215818981376 : UInt64))))), .second, .val (.long ((((4 : Int64) - kk.toInt64) * (((256 : Int64) * ct.toInt64) + (mm * aa.toInt64))) + ((kk.toInt64 * bb.toInt64) * pw))), .second, .val (.double (FP.ddiv (FP.l2d ((((4 : Int64) - kk.toInt64) * (((256 : Int64) * ct.toInt64) + (mm * aa.toInt64))) + ((kk.toInt64 * bb.toInt64) * pw))) (FP.l2d ((1024 : Int64) * pw)))), .second] [(.double (FP.dadd (FP.ddiv (FP.dmul (FP.dsub (4607182418800017408 : UInt64) (FP.ddiv (FP.i2d kk) (4616189618054758400 : UInt64))) (FP.dadd (FP.i2d ct) (FP.dmul (FP.l2d mm) (FP.ddiv (FP.i2d aa) (4643211215818981376 : UInt64))))) (FP.dadd (FP.i2d ln) (FP.l2d mm))) (FP.dmul (FP.ddiv (FP.i2d kk) (4616189618054758400 : UInt64)) (FP.ddiv (FP.i2d bb) (4643211215818981376 : UInt64)))))] (fun t k => XS.dload X48.here hx rfl (hb hby at_215) rfl k) ?_
      refine ownw_go T48 m 219 #[iv x0, iv x1, iv x2, iv x3, iv x4, iv x5, iv ee, .val (.long pw), .second, iv ln, .val (.long mm), .second, iv ct, iv aa, iv kk, iv bb, rv cx, rv px, rv b23, .val (.double (FP.dadd (FP.ddiv (FP.dmul (FP.dsub (4607182418800017408 : UInt64) (FP.ddiv (FP.i2d kk) (4616189618054758400 : UInt64))) (FP.dadd (FP.i2d ct) (FP.dmul (FP.l2d mm) (FP.ddiv (FP.i2d aa) (4643211215818981376 : UInt64))))) (FP.dadd (FP.i2d ln) (FP.l2d mm))) (FP.dmul (FP.ddiv (FP.i2d kk) (4616189618054758400 : UInt64)) (FP.ddiv (FP.i2d bb) (4643211215818981376 : UInt64))))), .second, .val (.long ((((4 : Int64) - kk.toInt64) * (((256 : Int64) * ct.toInt64) + (mm * aa.toInt64))) + ((kk.toInt64 * bb.toInt64) * pw))), .second, .val (.double (FP.ddiv (FP.l2d ((((4 : Int64) - kk.toInt64) * (((256 : Int64) * ct.toInt64) + (mm * aa.toInt64))) + ((kk.toInt64 * bb.toInt64) * pw))) (FP.l2d ((1024 : Int64) * pw)))), .second] [(.double (FP.ddiv (FP.l2d ((((4 : Int64) - kk.toInt64) * (((256 : Int64) * ct.toInt64) + (mm * aa.toInt64))) + ((kk.toInt64 * bb.toInt64) * pw))) (FP.l2d ((1024 : Int64) * pw)))), (.double (FP.dadd (FP.ddiv (FP.dmul (FP.dsub (4607182418800017408 : UInt64) (FP.ddiv (FP.i2d kk) (4616189618054758400 : UInt64))) (FP.dadd (FP.i2d ct) (FP.dmul (FP.l2d mm) (FP.ddiv (FP.i2d aa) (4643211215818981376 : UInt64))))) (FP.dadd (FP.i2d ln) (FP.l2d mm))) (FP.dmul (FP.ddiv (FP.i2d kk) (4616189618054758400 : UInt64)) (FP.ddiv (FP.i2d bb) (4643211215818981376 : UInt64)))))] (fun t k => XS.dload X48.here hx rfl (hb hby at_217) rfl k) ?_
      refine ownw_go T48 m 220 #[iv x0, iv x1, iv x2, iv x3, iv x4, iv x5, iv ee, .val (.long pw), .second, iv ln, .val (.long mm), .second, iv ct, iv aa, iv kk, iv bb, rv cx, rv px, rv b23, .val (.double (FP.dadd (FP.ddiv (FP.dmul (FP.dsub (4607182418800017408 : UInt64) (FP.ddiv (FP.i2d kk) (4616189618054758400 : UInt64))) (FP.dadd (FP.i2d ct) (FP.dmul (FP.l2d mm) (FP.ddiv (FP.i2d aa) (4643211215818981376 : UInt64))))) (FP.dadd (FP.i2d ln) (FP.l2d mm))) (FP.dmul (FP.ddiv (FP.i2d kk) (4616189618054758400 : UInt64)) (FP.ddiv (FP.i2d bb) (4643211215818981376 : UInt64))))), .second, .val (.long ((((4 : Int64) - kk.toInt64) * (((256 : Int64) * ct.toInt64) + (mm * aa.toInt64))) + ((kk.toInt64 * bb.toInt64) * pw))), .second, .val (.double (FP.ddiv (FP.l2d ((((4 : Int64) - kk.toInt64) * (((256 : Int64) * ct.toInt64) + (mm * aa.toInt64))) + ((kk.toInt64 * bb.toInt64) * pw))) (FP.l2d ((1024 : Int64) * pw)))), .second] [(.int (cmpValue (FP.dcmp (FP.dadd (FP.ddiv (FP.dmul (FP.dsub (4607182418800017408 : UInt64) (FP.ddiv (FP.i2d kk) (4616189618054758400 : UInt64))) (FP.dadd (FP.i2d ct) (FP.dmul (FP.l2d mm) (FP.ddiv (FP.i2d aa) (4643211215818981376 : UInt64))))) (FP.dadd (FP.i2d ln) (FP.l2d mm))) (FP.dmul (FP.ddiv (FP.i2d kk) (4616189618054758400 : UInt64)) (FP.ddiv (FP.i2d bb) (4643211215818981376 : UInt64)))) (FP.ddiv (FP.l2d ((((4 : Int64) - kk.toInt64) * (((256 : Int64) * ct.toInt64) + (mm * aa.toInt64))) + ((kk.toInt64 * bb.toInt64) * pw))) (FP.l2d ((1024 : Int64) * pw)))) .l))] (fun t k => XS.dcmpS X48.here hx rfl (hb hby at_219) rfl rfl k) ?_
      refine ownw_go T48 m 223 #[iv x0, iv x1, iv x2, iv x3, iv x4, iv x5, iv ee, .val (.long pw), .second, iv ln, .val (.long mm), .second, iv ct, iv aa, iv kk, iv bb, rv cx, rv px, rv b23, .val (.double (FP.dadd (FP.ddiv (FP.dmul (FP.dsub (4607182418800017408 : UInt64) (FP.ddiv (FP.i2d kk) (4616189618054758400 : UInt64))) (FP.dadd (FP.i2d ct) (FP.dmul (FP.l2d mm) (FP.ddiv (FP.i2d aa) (4643211215818981376 : UInt64))))) (FP.dadd (FP.i2d ln) (FP.l2d mm))) (FP.dmul (FP.ddiv (FP.i2d kk) (4616189618054758400 : UInt64)) (FP.ddiv (FP.i2d bb) (4643211215818981376 : UInt64))))), .second, .val (.long ((((4 : Int64) - kk.toInt64) * (((256 : Int64) * ct.toInt64) + (mm * aa.toInt64))) + ((kk.toInt64 * bb.toInt64) * pw))), .second, .val (.double (FP.ddiv (FP.l2d ((((4 : Int64) - kk.toInt64) * (((256 : Int64) * ct.toInt64) + (mm * aa.toInt64))) + ((kk.toInt64 * bb.toInt64) * pw))) (FP.l2d ((1024 : Int64) * pw)))), .second] [] (fun t k => XS.ifNo X48.here hx rfl (hb hby at_220) rfl ((if0 _ _).trans (teq (own_two HI)).2) k) ?_
      refine ownw_go T48 m 224 #[iv x0, iv x1, iv x2, iv x3, iv x4, iv x5, iv ee, .val (.long pw), .second, iv ln, .val (.long mm), .second, iv ct, iv aa, iv kk, iv bb, rv cx, rv px, rv b23, .val (.double (FP.dadd (FP.ddiv (FP.dmul (FP.dsub (4607182418800017408 : UInt64) (FP.ddiv (FP.i2d kk) (4616189618054758400 : UInt64))) (FP.dadd (FP.i2d ct) (FP.dmul (FP.l2d mm) (FP.ddiv (FP.i2d aa) (4643211215818981376 : UInt64))))) (FP.dadd (FP.i2d ln) (FP.l2d mm))) (FP.dmul (FP.ddiv (FP.i2d kk) (4616189618054758400 : UInt64)) (FP.ddiv (FP.i2d bb) (4643211215818981376 : UInt64))))), .second, .val (.long ((((4 : Int64) - kk.toInt64) * (((256 : Int64) * ct.toInt64) + (mm * aa.toInt64))) + ((kk.toInt64 * bb.toInt64) * pw))), .second, .val (.double (FP.ddiv (FP.l2d ((((4 : Int64) - kk.toInt64) * (((256 : Int64) * ct.toInt64) + (mm * aa.toInt64))) + ((kk.toInt64 * bb.toInt64) * pw))) (FP.l2d ((1024 : Int64) * pw)))), .second] [(.int 1)] (fun t k => XS.iconst X48.here hx rfl (hb hby at_223) k) ?_
      refine ownw_go T48 m 228 #[iv x0, iv x1, iv x2, iv x3, iv x4, iv x5, iv ee, .val (.long pw), .second, iv ln, .val (.long mm), .second, iv ct, iv aa, iv kk, iv bb, rv cx, rv px, rv b23, .val (.double (FP.dadd (FP.ddiv (FP.dmul (FP.dsub (4607182418800017408 : UInt64) (FP.ddiv (FP.i2d kk) (4616189618054758400 : UInt64))) (FP.dadd (FP.i2d ct) (FP.dmul (FP.l2d mm) (FP.ddiv (FP.i2d aa) (4643211215818981376 : UInt64))))) (FP.dadd (FP.i2d ln) (FP.l2d mm))) (FP.dmul (FP.ddiv (FP.i2d kk) (4616189618054758400 : UInt64)) (FP.ddiv (FP.i2d bb) (4643211215818981376 : UInt64))))), .second, .val (.long ((((4 : Int64) - kk.toInt64) * (((256 : Int64) * ct.toInt64) + (mm * aa.toInt64))) + ((kk.toInt64 * bb.toInt64) * pw))), .second, .val (.double (FP.ddiv (FP.l2d ((((4 : Int64) - kk.toInt64) * (((256 : Int64) * ct.toInt64) + (mm * aa.toInt64))) + ((kk.toInt64 * bb.toInt64) * pw))) (FP.l2d ((1024 : Int64) * pw)))), .second] [(.int 1)] (fun t k => XS.goto X48.here hx rfl (pc0 := 224) (pc' := 228) rfl (hb hby at_224) (by decide) (by decide) k) ?_
      refine ownw_of hS ?_
      refine own_retZ X48 hx hlk hret (by decide) (hb hby at_228) (by decide) (by decide) ?_
      rw [e48]
      exact ⟨⟨rfl, N35⟩, hk35⟩
    by_cases hc105_49 : (((x5.toUInt32 >>> ((9 : Int32) &&& 31).toUInt32).toInt32) &&& (1 : Int32)) = (0 : Int32)
    · refine ownw_go Tj21 m 108 #[iv x0, iv x1, iv x2, iv x3, iv x4, iv x5, iv ee, .val (.long pw), .second, iv ln, .val (.long mm), .second, iv ct, iv aa, iv kk, iv bb, rv cx, .unset, .unset, .unset, .unset, .unset, .unset, .unset, .unset] [] (fun t k => XS.ifNo Xj21.here hx rfl (hb hby at_105) rfl ((if0 _ _).trans (teq hc105_49).2) k) ?_
      obtain ⟨T50, X50, e50, st50⟩ := getS2 Xj21 hx hZ hown (host := "") (Or.inl (own_w hw 4 rfl)) Via.refl ej21 S_aN (g := (mkF m 108 #[iv x0, iv x1, iv x2, iv x3, iv x4, iv x5, iv ee, .val (.long pw), .second, iv ln, .val (.long mm), .second, iv ct, iv aa, iv kk, iv bb, rv cx, .unset, .unset, .unset, .unset, .unset, .unset, .unset, .unset] [])) rfl (hb hby at_108)
      refine ownw_go T50 m 111 #[iv x0, iv x1, iv x2, iv x3, iv x4, iv x5, iv ee, .val (.long pw), .second, iv ln, .val (.long mm), .second, iv ct, iv aa, iv kk, iv bb, rv cx, .unset, .unset, .unset, .unset, .unset, .unset, .unset, .unset] [(.ref aN)] (st50) ?_
      refine ownw_go T50 m 117 #[iv x0, iv x1, iv x2, iv x3, iv x4, iv x5, iv ee, .val (.long pw), .second, iv ln, .val (.long mm), .second, iv ct, iv aa, iv kk, iv bb, rv cx, .unset, .unset, .unset, .unset, .unset, .unset, .unset, .unset] [(.ref aN)] (fun t k => XS.goto X50.here hx rfl (pc0 := 111) (pc' := 117) rfl (hb hby at_111) (by decide) (by decide) k) ?_
      exact seg117 T50 _ aN X50 e50 Nj21 E_aN
    · refine ownw_go Tj21 m 114 #[iv x0, iv x1, iv x2, iv x3, iv x4, iv x5, iv ee, .val (.long pw), .second, iv ln, .val (.long mm), .second, iv ct, iv aa, iv kk, iv bb, rv cx, .unset, .unset, .unset, .unset, .unset, .unset, .unset, .unset] [] (fun t k => XS.ifYes Xj21.here hx rfl (pc0 := 105) (pc' := 114) rfl (hb hby at_105) rfl ((if0 _ _).trans (feq hc105_49).2) (by decide) (by decide) k) ?_
      obtain ⟨T51, X51, e51, st51⟩ := getS2 Xj21 hx hZ hown (host := "") (Or.inl (own_w hw 68 rfl)) Via.refl ej21 S_aI (g := (mkF m 114 #[iv x0, iv x1, iv x2, iv x3, iv x4, iv x5, iv ee, .val (.long pw), .second, iv ln, .val (.long mm), .second, iv ct, iv aa, iv kk, iv bb, rv cx, .unset, .unset, .unset, .unset, .unset, .unset, .unset, .unset] [])) rfl (hb hby at_114)
      refine ownw_go T51 m 117 #[iv x0, iv x1, iv x2, iv x3, iv x4, iv x5, iv ee, .val (.long pw), .second, iv ln, .val (.long mm), .second, iv ct, iv aa, iv kk, iv bb, rv cx, .unset, .unset, .unset, .unset, .unset, .unset, .unset, .unset] [(.ref aI)] (st51) ?_
      exact seg117 T51 _ aI X51 e51 Nj21 E_aI
  by_cases hc84_52 : (((x5.toUInt32 >>> ((8 : Int32) &&& 31).toUInt32).toInt32) &&& (1 : Int32)) = (0 : Int32)
  · refine ownw_go T0 m 87 #[iv x0, iv x1, iv x2, iv x3, iv x4, iv x5, iv ee, .val (.long pw), .second, iv ln, .val (.long mm), .second, iv ct, iv aa, iv kk, iv bb, .unset, .unset, .unset, .unset, .unset, .unset, .unset, .unset, .unset] [] (fun t k => XS.ifNo X0.here hx rfl (hb hby at_84) rfl ((if0 _ _).trans (teq hc84_52).2) k) ?_
    obtain ⟨T53, X53, e53, st53⟩ := getS2 X0 hx hZ hown (host := "") (Or.inl (own_w hw 1 rfl)) Via.refl e0 S_aD (g := (mkF m 87 #[iv x0, iv x1, iv x2, iv x3, iv x4, iv x5, iv ee, .val (.long pw), .second, iv ln, .val (.long mm), .second, iv ct, iv aa, iv kk, iv bb, .unset, .unset, .unset, .unset, .unset, .unset, .unset, .unset, .unset] [])) rfl (hb hby at_87)
    refine ownw_go T53 m 90 #[iv x0, iv x1, iv x2, iv x3, iv x4, iv x5, iv ee, .val (.long pw), .second, iv ln, .val (.long mm), .second, iv ct, iv aa, iv kk, iv bb, .unset, .unset, .unset, .unset, .unset, .unset, .unset, .unset, .unset] [(.ref aD)] (st53) ?_
    refine ownw_go T53 m 96 #[iv x0, iv x1, iv x2, iv x3, iv x4, iv x5, iv ee, .val (.long pw), .second, iv ln, .val (.long mm), .second, iv ct, iv aa, iv kk, iv bb, .unset, .unset, .unset, .unset, .unset, .unset, .unset, .unset, .unset] [(.ref aD)] (fun t k => XS.goto X53.here hx rfl (pc0 := 90) (pc' := 96) rfl (hb hby at_90) (by decide) (by decide) k) ?_
    exact seg96 T53 _ aD X53 e53 N0 E_aD
  · refine ownw_go T0 m 93 #[iv x0, iv x1, iv x2, iv x3, iv x4, iv x5, iv ee, .val (.long pw), .second, iv ln, .val (.long mm), .second, iv ct, iv aa, iv kk, iv bb, .unset, .unset, .unset, .unset, .unset, .unset, .unset, .unset, .unset] [] (fun t k => XS.ifYes X0.here hx rfl (pc0 := 84) (pc' := 93) rfl (hb hby at_84) rfl ((if0 _ _).trans (feq hc84_52).2) (by decide) (by decide) k) ?_
    obtain ⟨T54, X54, e54, st54⟩ := getS2 X0 hx hZ hown (host := "") (Or.inl (own_w hw 66 rfl)) Via.refl e0 S_aS (g := (mkF m 93 #[iv x0, iv x1, iv x2, iv x3, iv x4, iv x5, iv ee, .val (.long pw), .second, iv ln, .val (.long mm), .second, iv ct, iv aa, iv kk, iv bb, .unset, .unset, .unset, .unset, .unset, .unset, .unset, .unset, .unset] [])) rfl (hb hby at_93)
    refine ownw_go T54 m 96 #[iv x0, iv x1, iv x2, iv x3, iv x4, iv x5, iv ee, .val (.long pw), .second, iv ln, .val (.long mm), .second, iv ct, iv aa, iv kk, iv bb, .unset, .unset, .unset, .unset, .unset, .unset, .unset, .unset, .unset] [(.ref aS)] (st54) ?_
    exact seg96 T54 _ aS X54 e54 N0 E_aS
set_option maxRecDepth 65536 in
set_option maxHeartbeats 40000000 in
theorem comes_1 {Post : Tables → Env → Array Value → State → Outcome → State → Prop} (hpost : ∀ tb e args s v u, (limb_1_1.after args s (.returned v) u = true ∧ limb_1_2.after args s (.returned v) u = true ∧ True) → ReturnedEndW s (.returned v) u (Jvm.fieldLocs frame_1_writes args s ++ Jvm.arrayLocs frame_1_arrays args s ++ Jvm.staticLocs frame_1_statics s) 16 3200 → Post tb e args s (.returned v) u) :
    ArmFor flags0 classFile x code maxLocals ret World_1 tables_1 room_1 Calls_1 rest_1 Pre_1 Post := by
  intro l hfl _ _ p e ha hc hk s m args below hf hA hF happ hP
  obtain ⟨hcalls, hrest, hpre⟩ := hP
  obtain ⟨-, -, -, hnamed, -, -, -, hat⟩ := (Spec.applies_iff hf).mp happ
  obtain ⟨hg, hn⟩ := and_e (Cond.before_iff.mp (show (Jvm.Cond.and given_1 narrow_1).before args s = true from hpre))
  obtain ⟨gg1, gg2⟩ := and_e hg
  obtain ⟨gg3, gg4⟩ := and_e gg2
  obtain ⟨gg5, gg6⟩ := and_e gg4
  obtain ⟨gg7, gg8⟩ := and_e gg6
  obtain ⟨gg9, gg10⟩ := and_e gg8
  obtain ⟨gg11, gg12⟩ := and_e gg10
  obtain ⟨w0, w1, w2, w3, w4, w5, rfl⟩ : ∃ w0 w1 w2 w3 w4 w5 : Value, args = #[w0, w1, w2, w3, w4, w5] := by
    have hs : args.size = 6 := by simpa [Cond.value, given_1] using gg1
    obtain ⟨L⟩ := args
    match L, hs with
    | [w0, w1, w2, w3, w4, w5], _ => exact ⟨w0, w1, w2, w3, w4, w5, rfl⟩
  have hw := fun d (hd : d ∈ tables_1) => atoms_spec (ws := Jvm.Cond.code x code maxLocals ret :: tables_1) hat d (List.mem_cons_of_mem _ hd)
  have hfit : Fit s := fun {y c} hc i hi => by
    obtain ⟨ha, rfl⟩ := Array.getElem?_eq_some_iff.mp hc
    have q := List.all_eq_true.mp ((Array.all_eq_true_iff_forall_mem.mp hF) _ (Array.getElem_mem ha)) i (List.mem_range.mpr hi)
    simpa [Array.getElem?_eq_getElem hi] using q
  obtain ⟨i0, ei0⟩ := is_v gg3
  obtain rfl : w0 = (.int i0) := Option.some.inj ei0
  obtain ⟨i1, ei1⟩ := is_v gg5
  obtain rfl : w1 = (.int i1) := Option.some.inj ei1
  obtain ⟨i2, ei2⟩ := is_v gg7
  obtain rfl : w2 = (.int i2) := Option.some.inj ei2
  obtain ⟨i3, ei3⟩ := is_v gg9
  obtain rfl : w3 = (.int i3) := Option.some.inj ei3
  obtain ⟨i4, ei4⟩ := is_v gg11
  obtain rfl : w4 = (.int i4) := Option.some.inj ei4
  obtain ⟨i5, ei5⟩ := is_v gg12
  obtain rfl : w5 = (.int i5) := Option.some.inj ei5
  obtain ⟨hn0, hn'⟩ := and_e hn
  obtain ⟨hn1, hn''⟩ := and_e hn'
  obtain ⟨hn2, hn3⟩ := and_e hn''
  obtain ⟨aD, ev_aD⟩ := exa_v hn0
  have S_aD := Sta.start ev_aD (Or.inr ⟨(own_w hw 2 rfl), (own_w hw 3 rfl)⟩)
  have E_aD := Exa.start ev_aD hn0
  obtain ⟨aN, ev_aN⟩ := exa_v hn1
  have S_aN := Sta.start ev_aN (Or.inr ⟨(own_w hw 5 rfl), (own_w hw 6 rfl)⟩)
  have E_aN := Exa.start ev_aN hn1
  obtain ⟨aS, ev_aS⟩ := exa_v hn2
  have S_aS := Sta.start ev_aS (Or.inr ⟨(own_w hw 2 rfl), (own_w hw 67 rfl)⟩)
  have E_aS := Exa.start ev_aS hn2
  obtain ⟨aI, ev_aI⟩ := exa_v hn3
  have S_aI := Sta.start ev_aI (Or.inr ⟨(own_w hw 5 rfl), (own_w hw 69 rfl)⟩)
  have E_aI := Exa.start ev_aI hn3
  obtain ⟨n, o, h1, h2, h3, _, L, rfl, ⟨rfl, N⟩, hq⟩ := rm0 l s _ hw tables_1 i0 i1 i2 i3 i4 i5 aD aS aN aI s.heap s.heap.size (Nat.le_refl _) S_aD E_aD S_aS E_aS S_aN E_aN S_aI E_aI p e ha hc hk s m _ below hf ((Spec.applies_iff_loose hf).mp happ).1 ⟨rfl, State.Warmed39.refl s, rfl⟩ trivial
  refine ⟨n, _, h1, h2, h3, hpost _ _ _ _ _ _ ⟨Cond.after_iff.mpr rfl, Cond.after_iff.mpr (eq_i res_at (Term.int_eval (1)) rfl), trivial⟩ ⟨hq.1, hq.2.1, hq.2.2.1, (hq.2.2.2.sift fun y hy => Or.inr (N y hy)).mono (by decide) (by decide)⟩⟩
theorem main_1_1 : Claimed_1_1 := comes_1 fun _ _ _ _ _ _ h hF => ⟨h.1, hF⟩
theorem main_1_2 : Claimed_1_2 := comes_1 fun _ _ _ _ _ _ h hF => ⟨h.2.1, hF⟩
end Jvm.Pilot.@@N@@
namespace Jvm.Pilot.@@N@@
open Jvm Jvm.ClassFile Sem Op Lib Jvm.Free Jvm.Stand Jvm.Pilot.@@N@@.Jvm.D
/-! MADE BY PROGRAM (witnessworld.py) out of the Statement's table words and the real class files: 20 classes; the members and pool entries that the words name. The judged class is class 1, her method 1. -/
namespace start1
open Jvm.ClassFile
def u (s : String) : CpInfo := .utf8 (stringToUtf16 s)
/-- a pool by its gaps: so many unusable entries, then the entry; so many at the end -/
def gap : Nat → List CpInfo → List CpInfo
  | 0, r => r
  | n + 1, r => .unusable :: gap n r
def poolList (es : List (Nat × CpInfo)) (last : Nat) : List CpInfo := es.foldr (fun e r => gap e.1 (e.2 :: r)) (gap last [])
def pool (es : List (Nat × CpInfo)) (last : Nat) : Array CpInfo := ⟨poolList es last⟩
def fileOf (pool : Array CpInfo) (this : Nat) (attrs : Array Attribute := #[]) (ms : Array MethodInfo := #[]) (fl : Nat := 33) (sup : Nat := 0) (ifs : Array Nat := #[]) (fds : Array FieldInfo := #[]) : ClassFile where
  minorVersion := 0
  majorVersion := 65
  constantPool := pool
  accessFlags := fl
  thisClass := this
  superClass := sup
  interfaces := ifs
  fields := fds
  methods := ms
  attributes := attrs
def plain (name : String) (sup : Option ClassId) : Class where
  name := name
  kind := .ordinary
  loader := none
  accessFlags := 33
  super := sup
  interfaces := #[]
  cf := none
  fields := #[]
  methods := #[]
  instanceTypes := #[]
  staticTypes := #[]
  resolved := #[]
  callSites := []
  init := .initialized
  statics := none
  mirror := none

def pool0 : Array CpInfo := pool [(5, u "<init>"), (0, u "()V"), (1, .class_ 10), (1, u "java/lang/Object")] 113

def k0c0 : Code := { maxStack := 0, maxLocals := 1, code := object_method_1_code, exceptionTable := #[], attributes := #[] }
def k0m0 : Method := { name := "<init>", desc := "()V", sig := { parameters := [], returnType := none }, accessFlags := 1, code := some k0c0 }
/-- java/lang/Object -/
def k0 : Class := { plain "java/lang/Object" none with
  accessFlags := 33
  interfaces := #[]
  cf := some (fileOf pool0 8 #[] #[{ accessFlags := 1, nameIndex := 5, descriptorIndex := 6, attributes := #[] }] 33 0 #[] #[])
  fields := #[]
  methods := #[k0m0]
  instanceTypes := #[]
  staticTypes := #[]
  resolved := Array.replicate 124 none
  statics := none }

def pool1 : Array CpInfo := pool [(2, .class_ 4), (1, u "java/lang/Object"), (0, u "<init>"), (0, u "()V"), (0, .integer 2147483647), (0, .fieldref 9 10), (0, .class_ 11), (0, .nameAndType 12 13), (0, u "com/example/bowerbird/bowerbird/core/LocalContext"), (0, u "DOCUMENT"), (0, u "Lcom/example/bowerbird/bowerbird/core/LocalContext;"), (0, .fieldref 9 15), (0, .nameAndType 16 13), (0, u "SURROUNDING"), (0, .fieldref 18 19), (0, .class_ 20), (0, .nameAndType 21 22), (0, u "com/example/bowerbird/bowerbird/core/Prior"), (0, u "NONE"), (0, u "Lcom/example/bowerbird/bowerbird/core/Prior;"), (0, .fieldref 18 24), (0, .nameAndType 25 22), (0, u "IMPORTANCE"), (0, .class_ 27), (0, u "com/example/bowerbird/bowerbird/core/TwoStage"), (0, .double 4616189618054758400), (1, .methodref 26 31), (0, .nameAndType 5 32), (0, u "(DDLcom/example/bowerbird/bowerbird/core/LocalContext;Lcom/example/bowerbird/bowerbird/core/Prior;)V"), (0, .double 4643211215818981376), (1, .methodref 26 36), (0, .nameAndType 37 38), (0, u "probability"), (0, u "(IIDD)D"), (0, .long 4), (1, .long 256), (1, .long 1024), (1, .class_ 46), (0, u "com/example/bowerbird/bowerbird/core/TwoStageProbabilityPinLaw"), (2, u "law"), (0, u "(IIIIII)Z")] 3

def k1m0 : Method := { name := "<init>", desc := "()V", sig := { parameters := [], returnType := none }, accessFlags := 2, code := none }
def k1c1 : Code := { maxStack := 9, maxLocals := 25, code := code, exceptionTable := #[], attributes := #[] }
def k1m1 : Method := { name := "law", desc := "(IIIIII)Z", sig := { parameters := [.int, .int, .int, .int, .int, .int], returnType := some .boolean }, accessFlags := 9, code := some k1c1 }
/-- com/example/bowerbird/bowerbird/core/TwoStageProbabilityPinLaw -/
def k1 : Class := { plain "com/example/bowerbird/bowerbird/core/TwoStageProbabilityPinLaw" (some 0) with
  accessFlags := 49
  interfaces := #[]
  cf := some (fileOf pool1 45 #[] #[{ accessFlags := 2, nameIndex := 5, descriptorIndex := 6, attributes := #[] }, { accessFlags := 9, nameIndex := 49, descriptorIndex := 50, attributes := #[] }] 49 2 #[] #[])
  fields := #[]
  methods := #[k1m0, k1m1]
  instanceTypes := #[]
  staticTypes := #[]
  resolved := Array.replicate 54 none
  statics := none }

def pool2 : Array CpInfo := pool [(1, .class_ 2), (0, u "java/lang/constant/Constable"), (0, .class_ 4), (0, u "java/lang/Object")] 6

/-- java/lang/constant/Constable -/
def k2 : Class := { plain "java/lang/constant/Constable" (some 0) with
  accessFlags := 1537
  interfaces := #[]
  cf := some (fileOf pool2 1 #[] #[] 1537 3 #[] #[])
  fields := #[]
  methods := #[]
  instanceTypes := #[]
  staticTypes := #[]
  resolved := Array.replicate 11 none
  statics := none }

def pool3 : Array CpInfo := pool [(1, .class_ 2), (0, u "java/lang/Comparable"), (0, .class_ 4), (0, u "java/lang/Object")] 7

/-- java/lang/Comparable -/
def k3 : Class := { plain "java/lang/Comparable" (some 0) with
  accessFlags := 1537
  interfaces := #[]
  cf := some (fileOf pool3 1 #[] #[] 1537 3 #[] #[])
  fields := #[]
  methods := #[]
  instanceTypes := #[]
  staticTypes := #[]
  resolved := Array.replicate 12 none
  statics := none }

def pool4 : Array CpInfo := pool [(1, .class_ 2), (0, u "java/io/Serializable"), (0, .class_ 4), (0, u "java/lang/Object")] 2

/-- java/io/Serializable -/
def k4 : Class := { plain "java/io/Serializable" (some 0) with
  accessFlags := 1537
  interfaces := #[]
  cf := some (fileOf pool4 1 #[] #[] 1537 3 #[] #[])
  fields := #[]
  methods := #[]
  instanceTypes := #[]
  staticTypes := #[]
  resolved := Array.replicate 7 none
  statics := none }

def pool5 : Array CpInfo := pool [(2, .class_ 4), (1, u "java/lang/Enum"), (0, u "name"), (0, u "Ljava/lang/String;"), (2, u "ordinal"), (0, u "I"), (1, .class_ 14), (1, u "java/lang/Object"), (4, u "hash"), (86, .class_ 108), (1, u "java/lang/Enum$EnumDesc"), (2, .class_ 112), (0, u "java/lang/constant/Constable"), (0, .class_ 114), (0, u "java/lang/Comparable"), (0, .class_ 116), (0, u "java/io/Serializable")] 87

/-- java/lang/Enum -/
def k5 : Class := { plain "java/lang/Enum" (some 0) with
  accessFlags := 1057
  interfaces := #[2, 3, 4]
  cf := some (fileOf pool5 2 #[.nestMembers #[106]] #[] 1057 12 #[111, 113, 115] #[{ accessFlags := 18, nameIndex := 5, descriptorIndex := 6, attributes := #[] }, { accessFlags := 18, nameIndex := 9, descriptorIndex := 10, attributes := #[] }, { accessFlags := 2, nameIndex := 19, descriptorIndex := 10, attributes := #[] }])
  fields := #[{ name := "name", type := (.object "java/lang/String"), accessFlags := 18, slot := 0, constantValue := 0 }, { name := "ordinal", type := .int, accessFlags := 18, slot := 1, constantValue := 0 }, { name := "hash", type := .int, accessFlags := 2, slot := 2, constantValue := 0 }]
  methods := #[]
  instanceTypes := #[(.object "java/lang/String"), .int, .int]
  staticTypes := #[]
  resolved := Array.replicate 204 none
  statics := none }

def pool6 : Array CpInfo := pool [(1, .class_ 2), (0, u "com/example/bowerbird/bowerbird/core/LocalContext"), (2, u "DOCUMENT"), (0, u "Lcom/example/bowerbird/bowerbird/core/LocalContext;"), (2, u "SURROUNDING"), (2, u "$VALUES"), (0, u "[Lcom/example/bowerbird/bowerbird/core/LocalContext;"), (6, .class_ 22), (1, u "java/lang/Enum"), (10, .class_ 34), (0, u "com/example/bowerbird/bowerbird/core/LocalContext$Documents"), (3, .class_ 39), (0, u "com/example/bowerbird/bowerbird/core/LocalContext$Neighbourhoods"), (23, .class_ 64), (0, u "com/example/bowerbird/bowerbird/core/LocalContext$Contexts")] 11

/-- com/example/bowerbird/bowerbird/core/LocalContext -/
def k6 : Class := { plain "com/example/bowerbird/bowerbird/core/LocalContext" (some 5) with
  accessFlags := 16433
  interfaces := #[]
  cf := some (fileOf pool6 1 #[.nestMembers #[38, 33, 63]] #[] 16433 20 #[] #[{ accessFlags := 16409, nameIndex := 5, descriptorIndex := 6, attributes := #[] }, { accessFlags := 16409, nameIndex := 9, descriptorIndex := 6, attributes := #[] }, { accessFlags := 4122, nameIndex := 12, descriptorIndex := 13, attributes := #[] }])
  fields := #[{ name := "DOCUMENT", type := (.object "com/example/bowerbird/bowerbird/core/LocalContext"), accessFlags := 16409, slot := 0, constantValue := 0 }, { name := "SURROUNDING", type := (.object "com/example/bowerbird/bowerbird/core/LocalContext"), accessFlags := 16409, slot := 1, constantValue := 0 }, { name := "$VALUES", type := (.array (.object "com/example/bowerbird/bowerbird/core/LocalContext")), accessFlags := 4122, slot := 2, constantValue := 0 }]
  methods := #[]
  instanceTypes := #[(.object "java/lang/String"), .int, .int]
  staticTypes := #[(.object "com/example/bowerbird/bowerbird/core/LocalContext"), (.object "com/example/bowerbird/bowerbird/core/LocalContext"), (.array (.object "com/example/bowerbird/bowerbird/core/LocalContext"))]
  resolved := Array.replicate 76 none
  statics := some 0 }

def pool7 : Array CpInfo := pool [(1, .class_ 2), (0, u "com/example/bowerbird/bowerbird/core/Prior"), (2, u "NONE"), (0, u "Lcom/example/bowerbird/bowerbird/core/Prior;"), (2, u "IMPORTANCE"), (2, u "$VALUES"), (0, u "[Lcom/example/bowerbird/bowerbird/core/Prior;"), (6, .class_ 22), (1, u "java/lang/Enum")] 42

/-- com/example/bowerbird/bowerbird/core/Prior -/
def k7 : Class := { plain "com/example/bowerbird/bowerbird/core/Prior" (some 5) with
  accessFlags := 16433
  interfaces := #[]
  cf := some (fileOf pool7 1 #[] #[] 16433 20 #[] #[{ accessFlags := 16409, nameIndex := 5, descriptorIndex := 6, attributes := #[] }, { accessFlags := 16409, nameIndex := 9, descriptorIndex := 6, attributes := #[] }, { accessFlags := 4122, nameIndex := 12, descriptorIndex := 13, attributes := #[] }])
  fields := #[{ name := "NONE", type := (.object "com/example/bowerbird/bowerbird/core/Prior"), accessFlags := 16409, slot := 0, constantValue := 0 }, { name := "IMPORTANCE", type := (.object "com/example/bowerbird/bowerbird/core/Prior"), accessFlags := 16409, slot := 1, constantValue := 0 }, { name := "$VALUES", type := (.array (.object "com/example/bowerbird/bowerbird/core/Prior")), accessFlags := 4122, slot := 2, constantValue := 0 }]
  methods := #[]
  instanceTypes := #[(.object "java/lang/String"), .int, .int]
  staticTypes := #[(.object "com/example/bowerbird/bowerbird/core/Prior"), (.object "com/example/bowerbird/bowerbird/core/Prior"), (.array (.object "com/example/bowerbird/bowerbird/core/Prior"))]
  resolved := Array.replicate 65 none
  statics := some 1 }

def pool8 : Array CpInfo := pool [(1, .class_ 2), (0, u "com/example/bowerbird/bowerbird/core/RelevanceModel"), (0, .class_ 4), (0, u "java/lang/Object")] 6

/-- com/example/bowerbird/bowerbird/core/RelevanceModel -/
def k8 : Class := { plain "com/example/bowerbird/bowerbird/core/RelevanceModel" (some 0) with
  accessFlags := 1537
  interfaces := #[]
  cf := some (fileOf pool8 1 #[] #[] 1537 3 #[] #[])
  fields := #[]
  methods := #[]
  instanceTypes := #[]
  staticTypes := #[]
  resolved := Array.replicate 11 none
  statics := none }

def pool9 : Array CpInfo := pool [(1, .methodref 2 3), (0, .class_ 4), (0, .nameAndType 5 6), (0, u "java/lang/Object"), (0, u "<init>"), (0, u "()V"), (0, .fieldref 8 9), (0, .class_ 10), (0, .nameAndType 11 12), (0, u "com/example/bowerbird/bowerbird/core/QueryLikelihood"), (0, u "context"), (0, u "Lcom/example/bowerbird/bowerbird/core/LocalContext;"), (0, .string 14), (0, u "prior"), (0, .methodref 16 17), (0, .class_ 18), (0, .nameAndType 19 20), (0, u "java/util/Objects"), (0, u "requireNonNull"), (0, u "(Ljava/lang/Object;Ljava/lang/String;)Ljava/lang/Object;"), (0, .class_ 22), (0, u "com/example/bowerbird/bowerbird/core/Prior"), (0, .fieldref 8 24), (0, .nameAndType 14 25), (0, u "Lcom/example/bowerbird/bowerbird/core/Prior;"), (0, .string 11), (0, .class_ 28), (0, u "com/example/bowerbird/bowerbird/core/LocalContext"), (126, u "(D)D"), (35, .double 9218868437227405312), (4, .class_ 197), (0, u "com/example/bowerbird/bowerbird/core/RelevanceModel"), (3, u "(Lcom/example/bowerbird/bowerbird/core/LocalContext;Lcom/example/bowerbird/bowerbird/core/Prior;)V"), (9, u "checkShare"), (0, u "(Ljava/lang/String;D)D"), (0, u "checkMu")] 37

def k9c0 : Code := { maxStack := 3, maxLocals := 3, code := prog_40_method_2_code, exceptionTable := #[], attributes := #[] }
def k9m0 : Method := { name := "<init>", desc := "(Lcom/example/bowerbird/bowerbird/core/LocalContext;Lcom/example/bowerbird/bowerbird/core/Prior;)V", sig := { parameters := [(.object "com/example/bowerbird/bowerbird/core/LocalContext"), (.object "com/example/bowerbird/bowerbird/core/Prior")], returnType := none }, accessFlags := 0, code := some k9c0 }
def k9c1 : Code := { maxStack := 5, maxLocals := 3, code := prog_40_method_5_code, exceptionTable := #[], attributes := #[] }
def k9m1 : Method := { name := "checkShare", desc := "(Ljava/lang/String;D)D", sig := { parameters := [(.object "java/lang/String"), .double], returnType := some .double }, accessFlags := 8, code := some k9c1 }
def k9c2 : Code := { maxStack := 4, maxLocals := 2, code := prog_40_method_6_code, exceptionTable := #[], attributes := #[] }
def k9m2 : Method := { name := "checkMu", desc := "(D)D", sig := { parameters := [.double], returnType := some .double }, accessFlags := 8, code := some k9c2 }
/-- com/example/bowerbird/bowerbird/core/QueryLikelihood -/
def k9 : Class := { plain "com/example/bowerbird/bowerbird/core/QueryLikelihood" (some 0) with
  accessFlags := 1056
  interfaces := #[8]
  cf := some (fileOf pool9 8 #[] #[{ accessFlags := 0, nameIndex := 5, descriptorIndex := 201, attributes := #[] }, { accessFlags := 8, nameIndex := 211, descriptorIndex := 212, attributes := #[] }, { accessFlags := 8, nameIndex := 213, descriptorIndex := 155, attributes := #[] }] 1056 2 #[196] #[{ accessFlags := 18, nameIndex := 11, descriptorIndex := 12, attributes := #[] }, { accessFlags := 18, nameIndex := 14, descriptorIndex := 25, attributes := #[] }])
  fields := #[{ name := "context", type := (.object "com/example/bowerbird/bowerbird/core/LocalContext"), accessFlags := 18, slot := 0, constantValue := 0 }, { name := "prior", type := (.object "com/example/bowerbird/bowerbird/core/Prior"), accessFlags := 18, slot := 1, constantValue := 0 }]
  methods := #[k9m0, k9m1, k9m2]
  instanceTypes := #[(.object "com/example/bowerbird/bowerbird/core/LocalContext"), (.object "com/example/bowerbird/bowerbird/core/Prior")]
  staticTypes := #[]
  resolved := Array.replicate 251 none
  statics := none }

def pool10 : Array CpInfo := pool [(1, .methodref 2 3), (0, .class_ 4), (0, .nameAndType 5 6), (0, u "com/example/bowerbird/bowerbird/core/QueryLikelihood"), (0, u "<init>"), (0, u "(Lcom/example/bowerbird/bowerbird/core/LocalContext;Lcom/example/bowerbird/bowerbird/core/Prior;)V"), (0, .string 8), (0, u "lambda"), (0, .methodref 10 11), (0, .class_ 12), (0, .nameAndType 13 14), (0, u "com/example/bowerbird/bowerbird/core/TwoStage"), (0, u "checkShare"), (0, u "(Ljava/lang/String;D)D"), (0, .fieldref 10 16), (0, .nameAndType 8 17), (0, u "D"), (0, .methodref 10 19), (0, .nameAndType 20 21), (0, u "checkMu"), (0, u "(D)D"), (0, .fieldref 10 23), (0, .nameAndType 24 17), (0, u "mu"), (0, u "DEFAULT_LAMBDA"), (3, u "DEFAULT_MU"), (2, u "(DDLcom/example/bowerbird/bowerbird/core/LocalContext;Lcom/example/bowerbird/bowerbird/core/Prior;)V"), (2, u "probability"), (0, u "(IIDD)D")] 2

def k10c0 : Code := { maxStack := 4, maxLocals := 7, code := prog_54_method_1_code, exceptionTable := #[], attributes := #[] }
def k10m0 : Method := { name := "<init>", desc := "(DDLcom/example/bowerbird/bowerbird/core/LocalContext;Lcom/example/bowerbird/bowerbird/core/Prior;)V", sig := { parameters := [.double, .double, (.object "com/example/bowerbird/bowerbird/core/LocalContext"), (.object "com/example/bowerbird/bowerbird/core/Prior")], returnType := none }, accessFlags := 1, code := some k10c0 }
def k10c1 : Code := { maxStack := 8, maxLocals := 7, code := prog_54_method_2_code, exceptionTable := #[], attributes := #[] }
def k10m1 : Method := { name := "probability", desc := "(IIDD)D", sig := { parameters := [.int, .int, .double, .double], returnType := some .double }, accessFlags := 0, code := some k10c1 }
/-- com/example/bowerbird/bowerbird/core/TwoStage -/
def k10 : Class := { plain "com/example/bowerbird/bowerbird/core/TwoStage" (some 9) with
  accessFlags := 49
  interfaces := #[]
  cf := some (fileOf pool10 10 #[] #[{ accessFlags := 1, nameIndex := 5, descriptorIndex := 32, attributes := #[] }, { accessFlags := 0, nameIndex := 35, descriptorIndex := 36, attributes := #[] }] 49 2 #[] #[{ accessFlags := 25, nameIndex := 25, descriptorIndex := 17, attributes := #[] }, { accessFlags := 25, nameIndex := 29, descriptorIndex := 17, attributes := #[] }, { accessFlags := 18, nameIndex := 8, descriptorIndex := 17, attributes := #[] }, { accessFlags := 18, nameIndex := 24, descriptorIndex := 17, attributes := #[] }])
  fields := #[{ name := "DEFAULT_LAMBDA", type := .double, accessFlags := 25, slot := 0, constantValue := 0 }, { name := "DEFAULT_MU", type := .double, accessFlags := 25, slot := 1, constantValue := 0 }, { name := "lambda", type := .double, accessFlags := 18, slot := 2, constantValue := 0 }, { name := "mu", type := .double, accessFlags := 18, slot := 3, constantValue := 0 }]
  methods := #[k10m0, k10m1]
  instanceTypes := #[(.object "com/example/bowerbird/bowerbird/core/LocalContext"), (.object "com/example/bowerbird/bowerbird/core/Prior"), .double, .double]
  staticTypes := #[.double, .double]
  resolved := Array.replicate 39 none
  statics := none }

def pool11 : Array CpInfo := pool [(2, .class_ 4), (1, u "java/lang/CharSequence"), (42, .class_ 48), (0, u "java/lang/CharSequence$1CodePointIterator"), (10, .class_ 60), (0, u "java/lang/CharSequence$1CharIterator"), (5, .class_ 67), (0, u "java/lang/Object")] 63

/-- java/lang/CharSequence -/
def k11 : Class := { plain "java/lang/CharSequence" (some 0) with
  accessFlags := 1537
  interfaces := #[]
  cf := some (fileOf pool11 2 #[.nestMembers #[47, 59]] #[] 1537 66 #[] #[])
  fields := #[]
  methods := #[]
  instanceTypes := #[]
  staticTypes := #[]
  resolved := Array.replicate 131 none
  statics := none }

def pool12 : Array CpInfo := pool [(1, .class_ 2), (0, u "java/lang/constant/ConstantDesc"), (0, .class_ 4), (0, u "java/lang/Object")] 32

/-- java/lang/constant/ConstantDesc -/
def k12 : Class := { plain "java/lang/constant/ConstantDesc" (some 0) with
  accessFlags := 1537
  interfaces := #[]
  cf := some (fileOf pool12 1 #[] #[] 1537 3 #[] #[])
  fields := #[]
  methods := #[]
  instanceTypes := #[]
  staticTypes := #[]
  resolved := Array.replicate 37 none
  statics := none }

def pool13 : Array CpInfo := pool [(2, .class_ 4), (1, u "java/lang/Object"), (0, u "<init>"), (0, u "()V"), (3, .class_ 12), (1, u "java/lang/String"), (0, u "value"), (0, u "[B"), (2, u "coder"), (0, u "B"), (2, u "hash"), (0, u "I"), (2, u "hashIsZero"), (0, u "Z"), (13, u "COMPACT_STRINGS"), (534, .class_ 576), (0, u "java/lang/CharSequence"), (22, u "CASE_INSENSITIVE_ORDER"), (0, u "Ljava/util/Comparator;"), (500, u "serialPersistentFields"), (0, u "[Ljava/io/ObjectStreamField;"), (0, .class_ 1104), (0, u "java/lang/String$CaseInsensitiveComparator"), (1, .class_ 1107), (0, u "java/io/Serializable"), (0, .class_ 1109), (0, u "java/lang/Comparable"), (0, .class_ 1111), (0, u "java/lang/constant/Constable"), (0, .class_ 1113), (0, u "java/lang/constant/ConstantDesc"), (2, u "serialVersionUID"), (0, u "J"), (3, u "REPL"), (0, u "C"), (2, u "LATIN1"), (1, u "UTF16")] 323

def k13m0 : Method := { name := "<init>", desc := "()V", sig := { parameters := [], returnType := none }, accessFlags := 1, code := none }
/-- java/lang/String -/
def k13 : Class := { plain "java/lang/String" (some 0) with
  accessFlags := 49
  interfaces := #[4, 3, 11, 2, 12]
  cf := some (fileOf pool13 10 #[.nestMembers #[1103]] #[{ accessFlags := 1, nameIndex := 5, descriptorIndex := 6, attributes := #[] }] 49 2 #[1106, 1108, 575, 1110, 1112] #[{ accessFlags := 18, nameIndex := 13, descriptorIndex := 14, attributes := #[] }, { accessFlags := 18, nameIndex := 17, descriptorIndex := 18, attributes := #[] }, { accessFlags := 2, nameIndex := 21, descriptorIndex := 22, attributes := #[] }, { accessFlags := 2, nameIndex := 25, descriptorIndex := 26, attributes := #[] }, { accessFlags := 26, nameIndex := 1116, descriptorIndex := 1117, attributes := #[] }, { accessFlags := 24, nameIndex := 40, descriptorIndex := 26, attributes := #[] }, { accessFlags := 26, nameIndex := 1101, descriptorIndex := 1102, attributes := #[] }, { accessFlags := 26, nameIndex := 1121, descriptorIndex := 1122, attributes := #[] }, { accessFlags := 25, nameIndex := 599, descriptorIndex := 600, attributes := #[] }, { accessFlags := 24, nameIndex := 1125, descriptorIndex := 18, attributes := #[] }, { accessFlags := 24, nameIndex := 1127, descriptorIndex := 18, attributes := #[] }])
  fields := #[{ name := "value", type := (.array .byte), accessFlags := 18, slot := 0, constantValue := 0 }, { name := "coder", type := .byte, accessFlags := 18, slot := 1, constantValue := 0 }, { name := "hash", type := .int, accessFlags := 2, slot := 2, constantValue := 0 }, { name := "hashIsZero", type := .boolean, accessFlags := 2, slot := 3, constantValue := 0 }, { name := "serialVersionUID", type := .long, accessFlags := 26, slot := 0, constantValue := 0 }, { name := "COMPACT_STRINGS", type := .boolean, accessFlags := 24, slot := 1, constantValue := 0 }, { name := "serialPersistentFields", type := (.array (.object "java/io/ObjectStreamField")), accessFlags := 26, slot := 2, constantValue := 0 }, { name := "REPL", type := .char, accessFlags := 26, slot := 3, constantValue := 0 }, { name := "CASE_INSENSITIVE_ORDER", type := (.object "java/util/Comparator"), accessFlags := 25, slot := 4, constantValue := 0 }, { name := "LATIN1", type := .byte, accessFlags := 24, slot := 5, constantValue := 0 }, { name := "UTF16", type := .byte, accessFlags := 24, slot := 6, constantValue := 0 }]
  methods := #[k13m0]
  instanceTypes := #[(.array .byte), .byte, .int, .boolean]
  staticTypes := #[.long, .boolean, (.array (.object "java/io/ObjectStreamField")), .char, (.object "java/util/Comparator"), .byte, .byte]
  resolved := Array.replicate 1451 none
  statics := none }

def pool14 : Array CpInfo := pool [(2, .class_ 4), (1, u "java/lang/Object"), (0, u "<init>"), (0, u "()V"), (35, .class_ 44), (1, u "java/util/Objects"), (0, u "requireNonNull"), (48, u "(Ljava/lang/Object;Ljava/lang/String;)Ljava/lang/Object;")] 89

def k14m0 : Method := { name := "<init>", desc := "()V", sig := { parameters := [], returnType := none }, accessFlags := 2, code := none }
def k14c1 : Code := { maxStack := 3, maxLocals := 2, code := jdk_31_method_11_code, exceptionTable := #[], attributes := #[] }
def k14m1 : Method := { name := "requireNonNull", desc := "(Ljava/lang/Object;Ljava/lang/String;)Ljava/lang/Object;", sig := { parameters := [(.object "java/lang/Object"), (.object "java/lang/String")], returnType := some (.object "java/lang/Object") }, accessFlags := 9, code := some k14c1 }
/-- java/util/Objects -/
def k14 : Class := { plain "java/util/Objects" (some 0) with
  accessFlags := 49
  interfaces := #[]
  cf := some (fileOf pool14 42 #[] #[{ accessFlags := 2, nameIndex := 5, descriptorIndex := 6, attributes := #[] }, { accessFlags := 9, nameIndex := 45, descriptorIndex := 94, attributes := #[] }] 49 2 #[] #[])
  fields := #[]
  methods := #[k14m0, k14m1]
  instanceTypes := #[]
  staticTypes := #[]
  resolved := Array.replicate 184 none
  statics := none }

def pool15 : Array CpInfo := pool [(1, u "java/lang/Cloneable"), (0, .class_ 1), (0, u "java/lang/Object"), (0, .class_ 3)] 3

/-- java/lang/Cloneable -/
def k15 : Class := { plain "java/lang/Cloneable" (some 0) with
  accessFlags := 1537
  interfaces := #[]
  cf := some (fileOf pool15 2 #[] #[] 1537 4 #[] #[])
  fields := #[]
  methods := #[]
  instanceTypes := #[]
  staticTypes := #[]
  resolved := Array.replicate 8 none
  statics := none }

/-- the primitive byte -/
def k16 : Class := { plain "byte" none with kind := .primitive 'B', accessFlags := 0x411 }
/-- [B -/
def k17 : Class := { plain "[B" (some 0) with kind := .array 16 .byte, interfaces := #[15, 4], accessFlags := 1041 }

/-- the primitive int -/
def k18 : Class := { plain "int" none with kind := .primitive 'I', accessFlags := 0x411 }
/-- [I -/
def k19 : Class := { plain "[I" (some 0) with kind := .array 18 .int, interfaces := #[15, 4], accessFlags := 1041 }

def heap : Heap := #[{ cls := 6, slots := #[.ref 2, .ref 3, .null], vm := .statics 6 },
  { cls := 7, slots := #[.ref 4, .ref 5, .null], vm := .statics 7 },
  { cls := 6, slots := #[.null, .int 0, .int 0], vm := .none },
  { cls := 6, slots := #[.null, .int 1, .int 0], vm := .none },
  { cls := 7, slots := #[.null, .int 0, .int 0], vm := .none },
  { cls := 7, slots := #[.null, .int 1, .int 0], vm := .none }]
def classes : Array Class := #[k0, k1, k2, k3, k4, k5, k6, k7, k8, k9, k10, k11, k12, k13, k14, k15, k16, k17, k18, k19]
def interned : List (Array UInt16 × Addr) := []
def slotsUsed : Nat := 18
def theMethod : MethodId := ⟨1, 1⟩
def args0 : Array Value := #[.int 0, .int 0, .int 0, .int 0, .int 0, .int 0]
def aboutOver (below : List Frame) : State where
  vm := { classes := classes, interned := interned.toArray }
  heap := heap
  slotsUsed := slotsUsed
  threads := #[{ frames := .invoking theMethod args0 :: below }]
def below0 : List Frame := [.native { method := ⟨0, 0⟩, args := #[] }]
def about1 : State := aboutOver below0
def p0 : Program := .bare "" "" ""
def e0 : Env := launch0.env 0 0 0
theorem w_frames : about1.frames = Frame.invoking theMethod args0 :: below0 := rfl
set_option maxRecDepth 65536 in
theorem w_args : argsFit about1.vm theMethod args0 = true := by decide +kernel
set_option maxRecDepth 65536 in
theorem w_heap : heapFits about1 = true := by decide +kernel
set_option maxRecDepth 65536 in
theorem w_runnable : about1.curStatus? = some .runnable := by decide +kernel
set_option maxRecDepth 65536 in
theorem w_alone : about1.alone = true := by decide +kernel
set_option maxRecDepth 65536 in
theorem w_named : about1.methodNamed? x = some theMethod := by decide +kernel
set_option maxRecDepth 65536 in
theorem w_hears : about1.hears theMethod below0 = true := by decide +kernel
set_option maxRecDepth 65536 in
theorem w_ripe : about1.ripe theMethod args0 below0 = true := by decide +kernel
theorem w_running : about1.status = .running := rfl
set_option maxRecDepth 65536 in
theorem w_room : about1.hasRoom e0.platform room_1 = true :=
  launch0.hasRoom_least _ room_1 (by decide +kernel) (by decide +kernel) (by decide +kernel) (by decide +kernel) (by decide +kernel) (by decide +kernel)
theorem allAtoms_all (ts : List Jvm.Cond) (a : Array Jvm.Value) (st : Jvm.State) : (allAtoms ts).before a st = ts.all (fun c => c.before a st) := by
  induction ts with
  | nil => rfl
  | cons c t ih =>
    show (Jvm.Cond.and c (allAtoms t)).before a st = _
    rw [Jvm.Cond.before_and, ih, List.all_cons]
def words1 : List Jvm.Cond := Jvm.Cond.code x code maxLocals ret :: tables_1
/-- a 'code' word, met by the world's own term for the bytes: nothing is compared byte by byte -/
theorem code_word {y : MethodName} {bytes : ByteArray} {mx : Nat} {rt : Option FieldType} {a : Array Value} {s : State} {m : MethodId} {meth : Method} {c : Code} (h1 : s.methodNamed? y = some m) (h2 : s.vm.method? m = some meth) (h3 : meth.code = some c) (h4 : c.code = bytes)
    (h5 : (c.maxLocals == mx && c.exceptionTable.isEmpty && decide (c.maxStack ≤ mostOperands) && decide (meth.sig.returnType = rt) && !meth.locks && decide (parseMethodDescriptor y.desc = some meth.sig)) = true) : (Jvm.Cond.code y bytes mx rt).before a s = true := by
  simp only [Bool.and_eq_true, beq_iff_eq, Bool.not_eq_true', decide_eq_true_eq] at h5
  obtain ⟨⟨⟨⟨⟨g1, g2⟩, g3⟩, g4⟩, g5⟩, g6⟩ := h5
  simp [Cond.before, Cond.holds, Cond.value, h1, h2, h3, h4, g1, g2, g3, g4, g5, g6]
def isCode : Jvm.Cond → Bool
  | .code _ _ _ _ => true
  | _ => false
theorem all_split {L : List Jvm.Cond} {P : Jvm.Cond → Bool} (h1 : L.all (fun c => isCode c || P c) = true) (h2 : ∀ c ∈ L.filter isCode, P c = true) : L.all P = true := by
  refine List.all_eq_true.mpr fun c hc => ?_
  have h := List.all_eq_true.mp h1 c hc
  rcases Bool.eq_false_or_eq_true (isCode c) with hi | hi
  · exact h2 c (List.mem_filter.mpr ⟨hc, hi⟩)
  · simpa [hi] using h
set_option maxRecDepth 65536 in
theorem w_c0 : (Jvm.Cond.code x code maxLocals ret).before args0 about1 = true := code_word (m := ⟨1, 1⟩) (meth := k1m1) (c := k1c1) (by decide +kernel) rfl rfl rfl (by decide +kernel)
set_option maxRecDepth 65536 in
theorem w_c1 : (Jvm.Cond.code ({ cls := "com/example/bowerbird/bowerbird/core/TwoStage", name := "<init>", desc := "(DDLcom/example/bowerbird/bowerbird/core/LocalContext;Lcom/example/bowerbird/bowerbird/core/Prior;)V" } : Jvm.MethodName) prog_54_method_1_code (7 : Nat) (Option.none : Option Jvm.ClassFile.FieldType)).before args0 about1 = true := code_word (m := ⟨10, 0⟩) (meth := k10m0) (c := k10c0) (by decide +kernel) rfl rfl rfl (by decide +kernel)
set_option maxRecDepth 65536 in
theorem w_c2 : (Jvm.Cond.code ({ cls := "com/example/bowerbird/bowerbird/core/QueryLikelihood", name := "<init>", desc := "(Lcom/example/bowerbird/bowerbird/core/LocalContext;Lcom/example/bowerbird/bowerbird/core/Prior;)V" } : Jvm.MethodName) prog_40_method_2_code (3 : Nat) (Option.none : Option Jvm.ClassFile.FieldType)).before args0 about1 = true := code_word (m := ⟨9, 0⟩) (meth := k9m0) (c := k9c0) (by decide +kernel) rfl rfl rfl (by decide +kernel)
set_option maxRecDepth 65536 in
theorem w_c3 : (Jvm.Cond.code ({ cls := "java/lang/Object", name := "<init>", desc := "()V" } : Jvm.MethodName) object_method_1_code (1 : Nat) (Option.none : Option Jvm.ClassFile.FieldType)).before args0 about1 = true := code_word (m := ⟨0, 0⟩) (meth := k0m0) (c := k0c0) (by decide +kernel) rfl rfl rfl (by decide +kernel)
set_option maxRecDepth 65536 in
theorem w_c4 : (Jvm.Cond.code ({ cls := "java/util/Objects", name := "requireNonNull", desc := "(Ljava/lang/Object;Ljava/lang/String;)Ljava/lang/Object;" } : Jvm.MethodName) jdk_31_method_11_code (2 : Nat) (Option.some (Jvm.ClassFile.FieldType.object "java/lang/Object"))).before args0 about1 = true := code_word (m := ⟨14, 1⟩) (meth := k14m1) (c := k14c1) (by decide +kernel) rfl rfl rfl (by decide +kernel)
set_option maxRecDepth 65536 in
theorem w_c5 : (Jvm.Cond.code ({ cls := "com/example/bowerbird/bowerbird/core/QueryLikelihood", name := "checkShare", desc := "(Ljava/lang/String;D)D" } : Jvm.MethodName) prog_40_method_5_code (3 : Nat) (Option.some Jvm.ClassFile.FieldType.double)).before args0 about1 = true := code_word (m := ⟨9, 1⟩) (meth := k9m1) (c := k9c1) (by decide +kernel) rfl rfl rfl (by decide +kernel)
set_option maxRecDepth 65536 in
theorem w_c6 : (Jvm.Cond.code ({ cls := "com/example/bowerbird/bowerbird/core/QueryLikelihood", name := "checkMu", desc := "(D)D" } : Jvm.MethodName) prog_40_method_6_code (2 : Nat) (Option.some Jvm.ClassFile.FieldType.double)).before args0 about1 = true := code_word (m := ⟨9, 2⟩) (meth := k9m2) (c := k9c2) (by decide +kernel) rfl rfl rfl (by decide +kernel)
set_option maxRecDepth 65536 in
theorem w_c7 : (Jvm.Cond.code ({ cls := "com/example/bowerbird/bowerbird/core/TwoStage", name := "probability", desc := "(IIDD)D" } : Jvm.MethodName) prog_54_method_2_code (7 : Nat) (Option.some Jvm.ClassFile.FieldType.double)).before args0 about1 = true := code_word (m := ⟨10, 1⟩) (meth := k10m1) (c := k10c1) (by decide +kernel) rfl rfl rfl (by decide +kernel)
def codes1 : List Jvm.Cond := [Jvm.Cond.code x code maxLocals ret, Jvm.Cond.code ({ cls := "com/example/bowerbird/bowerbird/core/TwoStage", name := "<init>", desc := "(DDLcom/example/bowerbird/bowerbird/core/LocalContext;Lcom/example/bowerbird/bowerbird/core/Prior;)V" } : Jvm.MethodName) prog_54_method_1_code (7 : Nat) (Option.none : Option Jvm.ClassFile.FieldType), Jvm.Cond.code ({ cls := "com/example/bowerbird/bowerbird/core/QueryLikelihood", name := "<init>", desc := "(Lcom/example/bowerbird/bowerbird/core/LocalContext;Lcom/example/bowerbird/bowerbird/core/Prior;)V" } : Jvm.MethodName) prog_40_method_2_code (3 : Nat) (Option.none : Option Jvm.ClassFile.FieldType), Jvm.Cond.code ({ cls := "java/lang/Object", name := "<init>", desc := "()V" } : Jvm.MethodName) object_method_1_code (1 : Nat) (Option.none : Option Jvm.ClassFile.FieldType), Jvm.Cond.code ({ cls := "java/util/Objects", name := "requireNonNull", desc := "(Ljava/lang/Object;Ljava/lang/String;)Ljava/lang/Object;" } : Jvm.MethodName) jdk_31_method_11_code (2 : Nat) (Option.some (Jvm.ClassFile.FieldType.object "java/lang/Object")), Jvm.Cond.code ({ cls := "com/example/bowerbird/bowerbird/core/QueryLikelihood", name := "checkShare", desc := "(Ljava/lang/String;D)D" } : Jvm.MethodName) prog_40_method_5_code (3 : Nat) (Option.some Jvm.ClassFile.FieldType.double), Jvm.Cond.code ({ cls := "com/example/bowerbird/bowerbird/core/QueryLikelihood", name := "checkMu", desc := "(D)D" } : Jvm.MethodName) prog_40_method_6_code (2 : Nat) (Option.some Jvm.ClassFile.FieldType.double), Jvm.Cond.code ({ cls := "com/example/bowerbird/bowerbird/core/TwoStage", name := "probability", desc := "(IIDD)D" } : Jvm.MethodName) prog_54_method_2_code (7 : Nat) (Option.some Jvm.ClassFile.FieldType.double)]
set_option maxRecDepth 65536 in
theorem codes_eq : words1.filter isCode = codes1 := rfl
theorem w_codes : ∀ c ∈ words1.filter isCode, c.before args0 about1 = true := by
  rw [codes_eq]
  intro c hc
  simp only [codes1, List.mem_cons, List.not_mem_nil, or_false] at hc
  rcases hc with rfl | rfl | rfl | rfl | rfl | rfl | rfl | rfl
  · exact w_c0
  · exact w_c1
  · exact w_c2
  · exact w_c3
  · exact w_c4
  · exact w_c5
  · exact w_c6
  · exact w_c7
set_option maxRecDepth 65536 in
theorem w_t1 : (words1.take 24).all (fun c => isCode c || c.before args0 about1) = true := by decide +kernel
set_option maxRecDepth 65536 in
theorem w_t2 : ((words1.drop 24).take 24).all (fun c => isCode c || c.before args0 about1) = true := by decide +kernel
set_option maxRecDepth 65536 in
theorem w_t3 : ((words1.drop 24).drop 24).all (fun c => isCode c || c.before args0 about1) = true := by decide +kernel
theorem w_tables : (allAtoms (Jvm.Cond.code x code maxLocals ret :: tables_1)).before args0 about1 = true := by
  rw [allAtoms_all]
  show words1.all (fun c => c.before args0 about1) = true
  refine all_split ?_ w_codes
  rw [← List.take_append_drop 24 words1, List.all_append, w_t1, ← List.take_append_drop 24 (words1.drop 24), List.all_append, w_t2, w_t3]
  rfl
set_option maxRecDepth 65536 in
theorem w_case : (Jvm.Cond.and given_1 narrow_1).before args0 about1 = true := by decide +kernel
theorem w_applies : (headSpec (Jvm.Cond.code x code maxLocals ret :: tables_1) room_1).applies x e0.platform about1 = true :=
  (Spec.applies_iff w_frames).mpr ⟨w_running, w_runnable, w_alone, w_named, w_hears, w_ripe, w_room, w_tables⟩
theorem atStart : AtStart classFile x code maxLocals ret World_1 tables_1 room_1 Calls_1 rest_1 Pre_1 launch0 p0 e0 about1 theMethod args0 below0 :=
  ⟨lists_1, trivial, launch0.admits_env _ _ _, launch0.least_env, fairChoices_fair.cas, fairChoices_fair.clock, w_frames, w_args, w_heap, w_applies, trivial, trivial, w_case⟩
end start1
theorem witness_1 : WitnessClaimed_1 := ⟨start1.p0, start1.e0, start1.about1, start1.theMethod, start1.args0, start1.below0, start1.atStart⟩
end Jvm.Pilot.@@N@@
