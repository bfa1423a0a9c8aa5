import JvmDerived
import JvmDerived.Pilot.@@N@@Statement
import JvmDerived.Pilot.@@N@@Code
set_option linter.unusedVariables false
set_option linter.unusedSimpArgs false
namespace Jvm.RoadKit
open Sem ClassFile Op Lib Jvm.Stand Jvm.Free Jvm.LawKit
section OwnKit
variable {p : Program} {l : Launch} {e : Env} {R : Room} {s : State} {m : MethodId} {args : Array Value} {below : List Frame} {meth : Method} {c : Code} {T : State} {locs : List Loc} {cells slots : Nat} {Z : State} {a0 : Array Value} {h : Heap}
abbrev OwnP : Type := Option Value → Heap → List Loc → Prop
/-- from the state A the run comes back with what P says -/
def OwnG (tb : Tables) (e : Env) (below : List Frame) (s : State) (P : OwnP) (rc rs : Nat) (A : State) : Prop :=
  ∃ s₂ o, Steps tb e below A s₂ ∧ s₂.status = .running ∧ Ended s₂ below o ∧ ∃ v L, o = .returned v ∧ P v s₂.heap L ∧ FrameEnd s o s₂ L rc rs
theorem own_go {tb : Tables} {P : OwnP} {rc rs : Nat} {A : State} (T' : State) (m' : MethodId) (pc : Nat) (Ls : Array Slot) (st : List Value) (f : ∀ t, Steps tb e below (T'.setTop (mkF m' pc Ls st)) t → Steps tb e below A t) (k : OwnG tb e below s P rc rs (T'.setTop (mkF m' pc Ls st))) : OwnG tb e below s P rc rs A := by
  obtain ⟨s₂, o, h1, h2⟩ := k
  exact ⟨s₂, o, f _ h1, h2⟩
theorem own_mono {tb : Tables} {P P' : OwnP} {rc rs : Nat} {A : State} (f : ∀ v h L, P v h L → P' v h L) (k : OwnG tb e below s P rc rs A) : OwnG tb e below s P' rc rs A := by
  obtain ⟨s₂, o, h1, h2, h3, v, L, h4, h5, h6⟩ := k
  exact ⟨s₂, o, h1, h2, h3, v, L, h4, f _ _ _ h5, h6⟩
/-- what a walk knows of the body -/
def OwnX (Z : State) (p : Program) (s : State) (m : MethodId) (meth : Method) (c : Code) (bytes : ByteArray) (maxL : Nat) (ret : Option FieldType) (own nm : String) : Prop :=
  p.tables.exec = Jvm.exec ∧ c.code = bytes ∧ c.maxLocals = maxL ∧ s.vm.findClass own = some m.cls ∧ meth.name = nm ∧ meth.sig.returnType = ret ∧ meth.locks = false ∧ Z.Warmed39 s.vm
/-- a body's contract -/
abbrev OwnC (l : Launch) (Z : State) (y : MethodName) (bytes : ByteArray) (maxL : Nat) (ret : Option FieldType) (ws : List Cond) (rm : Room) (as' : Array Value) (h0 : Heap) (P : OwnP) : Prop :=
  MetFree l y (head1 (Cond.code y bytes maxL ret :: ws) rm) (fun a U => a = as' ∧ Z.Warmed39 U.vm ∧ U.heap = h0) (fun _ _ _ _ _ => True) (fun _ U o U' => ∃ v L, o = .returned v ∧ P v U'.heap L ∧ FrameEnd U o U' L rm.cells rm.slots)
theorem own_entry {y : MethodName} {bytes : ByteArray} {maxL : Nat} {ret : Option FieldType} {ws : List Cond} {rm : Room} {as' : Array Value} {h0 : Heap} {P : OwnP} {Ls : Array Slot} (hpl : plainFor y = true) (ef : ∀ m, entryFrame m as' maxL = mkF m 0 Ls [])
    (body : ∀ (p : Program) (e : Env) (s : State) (m : MethodId) (below : List Frame) (meth : Method) (c : Code) (T : State), Stand p l e rm s m as' below meth c T [] 0 0 → OwnX Z p s m meth c bytes maxL ret y.cls y.name → T.heap = h0 → OwnG p.tables e below s P rm.cells rm.slots (T.setTop (mkF m 0 Ls []))) :
    OwnC l Z y bytes maxL ret ws rm as' h0 P := by
  refine MetFree.of_bodySF hpl hisR ?_
  intro p e s m args below meth c s₁ Bd hml0 hP hK
  obtain ⟨rfl, hZ, hh⟩ := hP
  have e0 : s₁.heap = h0 := by rw [← hh, Bd.state]; rfl
  obtain ⟨s₂, o, h1, h2⟩ := body p e s m below meth c s₁ (Stand.of_body Bd) ⟨Bd.exec, Bd.bytes, hml0, findClass_of_methodNamed Bd.named, (name_of_methodNamed Bd.named Bd.method).1, Bd.returns, Bd.notSynchronized, hZ⟩ e0
  exact ⟨s₂, o, castTop (ef m) h1, h2⟩
theorem own_ret {P : OwnP} {rc rs : Nat} (X : Stand p l e R s m args below meth c T locs cells slots) (hx : p.tables.exec = Jvm.exec) (hlk : meth.locks = false) {pc : Nat} {Ls : Array Slot} {w : Value} {t : FieldType} {i : Instr} {rest : List Value} (hret : meth.sig.returnType = some t) (hn : narrow t w = w)
    (hi : (i = .ireturn ∧ (t = .int ∨ t = .boolean ∨ t = .byte ∨ t = .char ∨ t = .short) ∧ ∃ z, w = .int z) ∨ (i = .lreturn ∧ t = .long ∧ ∃ z, w = .long z) ∨ (i = .dreturn ∧ t = .double ∧ ∃ z, w = .double z) ∨ (i = .freturn ∧ t = .float ∧ ∃ z, w = .float z) ∨ (i = .areturn ∧ t.isReference = true ∧ w.isRef = true))
    (hd : decode c.code pc = .ok (i, 1)) (hc : cells ≤ rc) (hs : slots ≤ rs) (hP : P (some w) T.heap locs) : OwnG p.tables e below s P rc rs (T.setTop (mkF m pc Ls (w :: rest))) := by
  obtain ⟨fs, hr, hrun, hended, hW, hsame⟩ := X.leave (v := some w) (fun h => by rw [hret] at h; cases h) hlk
  exact ⟨_, _, retOut X hx hret hn hi hd hr, hrun, hended, _, _, rfl, hP, ⟨_, rfl⟩, hW, hsame.mono hc hs⟩
theorem own_retI {P : OwnP} {rc rs : Nat} (X : Stand p l e R s m args below meth c T locs cells slots) (hx : p.tables.exec = Jvm.exec) (hlk : meth.locks = false) {pc : Nat} {Ls : Array Slot} {z : Int32} {rest : List Value} (hret : meth.sig.returnType = some .int)
    (hd : decode c.code pc = .ok (.ireturn, 1)) (hc : cells ≤ rc) (hs : slots ≤ rs) (hP : P (some (.int z)) T.heap locs) : OwnG p.tables e below s P rc rs (T.setTop (mkF m pc Ls (.int z :: rest))) :=
  own_ret X hx hlk hret rfl (Or.inl ⟨rfl, Or.inl rfl, z, rfl⟩) hd hc hs hP
theorem own_retZ {P : OwnP} {rc rs : Nat} (X : Stand p l e R s m args below meth c T locs cells slots) (hx : p.tables.exec = Jvm.exec) (hlk : meth.locks = false) {pc : Nat} {Ls : Array Slot} {z : Int32} {rest : List Value} (hret : meth.sig.returnType = some .boolean) (hz : z = 0 ∨ z = 1)
    (hd : decode c.code pc = .ok (.ireturn, 1)) (hc : cells ≤ rc) (hs : slots ≤ rs) (hP : P (some (.int z)) T.heap locs) : OwnG p.tables e below s P rc rs (T.setTop (mkF m pc Ls (.int z :: rest))) :=
  own_ret X hx hlk hret (by rcases hz with rfl | rfl <;> rfl) (Or.inl ⟨rfl, Or.inr (Or.inl rfl), z, rfl⟩) hd hc hs hP
theorem own_retB {P : OwnP} {rc rs : Nat} (X : Stand p l e R s m args below meth c T locs cells slots) (hx : p.tables.exec = Jvm.exec) (hlk : meth.locks = false) {pc : Nat} {Ls : Array Slot} {z : Int32} {rest : List Value} (hret : meth.sig.returnType = some .byte) (hz : narrow .byte (.int z) = .int z)
    (hd : decode c.code pc = .ok (.ireturn, 1)) (hc : cells ≤ rc) (hs : slots ≤ rs) (hP : P (some (.int z)) T.heap locs) : OwnG p.tables e below s P rc rs (T.setTop (mkF m pc Ls (.int z :: rest))) :=
  own_ret X hx hlk hret hz (Or.inl ⟨rfl, Or.inr (Or.inr (Or.inl rfl)), z, rfl⟩) hd hc hs hP
theorem own_retJ {P : OwnP} {rc rs : Nat} (X : Stand p l e R s m args below meth c T locs cells slots) (hx : p.tables.exec = Jvm.exec) (hlk : meth.locks = false) {pc : Nat} {Ls : Array Slot} {z : Int64} {rest : List Value} (hret : meth.sig.returnType = some .long)
    (hd : decode c.code pc = .ok (.lreturn, 1)) (hc : cells ≤ rc) (hs : slots ≤ rs) (hP : P (some (.long z)) T.heap locs) : OwnG p.tables e below s P rc rs (T.setTop (mkF m pc Ls (.long z :: rest))) :=
  own_ret X hx hlk hret rfl (Or.inr (Or.inl ⟨rfl, rfl, z, rfl⟩)) hd hc hs hP
theorem own_retA {P : OwnP} {rc rs : Nat} (X : Stand p l e R s m args below meth c T locs cells slots) (hx : p.tables.exec = Jvm.exec) (hlk : meth.locks = false) {pc : Nat} {Ls : Array Slot} {w : Value} {t : FieldType} {rest : List Value} (hret : meth.sig.returnType = some t) (hn : narrow t w = w) (ht : t.isReference = true) (hw : w.isRef = true)
    (hd : decode c.code pc = .ok (.areturn, 1)) (hc : cells ≤ rc) (hs : slots ≤ rs) (hP : P (some w) T.heap locs) : OwnG p.tables e below s P rc rs (T.setTop (mkF m pc Ls (w :: rest))) :=
  own_ret X hx hlk hret hn (Or.inr (Or.inr (Or.inr (Or.inr ⟨rfl, ht, hw⟩)))) hd hc hs hP
theorem own_retV {P : OwnP} {rc rs : Nat} (X : Stand p l e R s m args below meth c T locs cells slots) (hx : p.tables.exec = Jvm.exec) (hlk : meth.locks = false) {pc : Nat} {Ls : Array Slot} (hret : meth.sig.returnType = none)
    (hd : decode c.code pc = .ok (.return_, 1)) (hc : cells ≤ rc) (hs : slots ≤ rs) (hP : P none T.heap locs) : OwnG p.tables e below s P rc rs (T.setTop (mkF m pc Ls [])) := by
  obtain ⟨fs, hr, hrun, hended, hW, hsame⟩ := X.leave (v := none) (fun _ => rfl) hlk
  exact ⟨_, _, X.returnOut hx hret hd hr, hrun, hended, _, _, rfl, hP, ⟨_, rfl⟩, hW, hsame.mono hc hs⟩
theorem own_static (X : Stand p l e R s m args below meth c T locs cells slots) (hx : p.tables.exec = Jvm.exec) (hZ : Z.Warmed39 s.vm) {own : String} {index : Nat} {y : MethodName} {bytes : ByteArray} {maxL : Nat} {ret : Option FieldType} {rm : Room} {as' : Array Value} {P : OwnP}
    (hown : s.vm.findClass own = some m.cls) (w1 : (Cond.methodLink own index y).before a0 Z = true) (w2 : (Cond.static y).before a0 Z = true) (w3 : (Cond.initialized y.cls).before a0 Z = true) (w4 : (Cond.code y bytes maxL ret).before a0 Z = true) (hy : y.cls ≠ "java/lang/invoke/MethodHandle" ∧ y.cls ≠ "java/lang/invoke/VarHandle")
    (hM : OwnC l Z y bytes maxL ret [] rm as' h P) (eT : T.heap = h) {pc : Nat} {Ls : Array Slot} {argsL rest : List Value} (W : Nat) {st : List Value} (hsz : Ls.size = c.maxLocals) (hlen : ∀ sig, parseMethodDescriptor y.desc = some sig → argsL.length = sig.parameters.length) (has : argsL.toArray = as') (hst : st = argsL.reverse ++ rest) (hW : (rest.map fun v => v.category).sum ≤ W)
    (hd : decode c.code pc = .ok (.invokestatic index, 3)) (hf : rm.frames + 1 ≤ R.frames) (hl : W + (maxL + 11) + rm.locals ≤ R.locals) (hc : cells + rm.cells ≤ R.cells) (hs : slots + rm.slots ≤ R.slots) :
    ∃ v T' L, Stand p l e R s m args below meth c T' (locs ++ L) (cells + rm.cells) (slots + rm.slots) ∧ P v T'.heap L ∧ ∀ t, Steps p.tables e below (T'.setTop (mkF m (pc + 3) Ls (v.toList ++ rest))) t → Steps p.tables e below (T.setTop (mkF m pc Ls st)) t := by
  obtain ⟨v, vm₁, ⟨T', L', k', n'⟩, -, X', ⟨L, hQ, l1, l2, l3⟩, stp⟩ := Jvm.LawKit.callS X hx hown (mvT hZ w1) (mvT hZ w2) (mvT hZ w3) (mvT hZ w4) hy (backOf (W := W) hM hZ w4 w3 hf hl) (g := mkF m pc Ls st) rfl hsz (argsL := argsL) (rest := rest) hlen hst (by show 2 * 0 + _ ≤ _; omega) hd (fun _ _ => ⟨has, eT, hc, hs⟩)
  dsimp only [Pt.U, Pt.locs, Pt.cells, Pt.slots] at X' l1 l2 l3 stp hQ
  subst l1 l2 l3
  exact ⟨v, T', L, X', hQ, stp⟩
theorem own_init (X : Stand p l e R s m args below meth c T locs cells slots) (hx : p.tables.exec = Jvm.exec) (hZ : Z.Warmed39 s.vm) {own : String} {index : Nat} {y : MethodName} {bytes : ByteArray} {maxL : Nat} {rm : Room} {as' : Array Value} {P : OwnP} (hy1 : y.name = "<init>")
    (hown : s.vm.findClass own = some m.cls) (w1 : (Cond.methodLink own index y).before a0 Z = true) (w2 : (Cond.instanceMethod y).before a0 Z = true) (w3 : (Cond.initialized y.cls).before a0 Z = true) (w4 : (Cond.code y bytes maxL none).before a0 Z = true) (hy : y.cls ≠ "java/lang/invoke/MethodHandle" ∧ y.cls ≠ "java/lang/invoke/VarHandle")
    (hM : OwnC l Z y bytes maxL none [] rm as' h P) (eT : T.heap = h) {pc : Nat} {Ls : Array Slot} {a : Addr} {argsL rest : List Value} (W : Nat) {st : List Value} (hsz : Ls.size = c.maxLocals) (hlen : ∀ sig, parseMethodDescriptor y.desc = some sig → argsL.length = sig.parameters.length) (has : (.ref a :: argsL).toArray = as') (hst : st = argsL.reverse ++ .ref a :: rest) (hW : (rest.map fun v => v.category).sum ≤ W)
    (hd : decode c.code pc = .ok (.invokespecial index, 3)) (hf : rm.frames + 1 ≤ R.frames) (hl : W + (maxL + 11) + rm.locals ≤ R.locals) (hc : cells + rm.cells ≤ R.cells) (hs : slots + rm.slots ≤ R.slots) :
    ∃ v T' L, Stand p l e R s m args below meth c T' (locs ++ L) (cells + rm.cells) (slots + rm.slots) ∧ P v T'.heap L ∧ ∀ t, Steps p.tables e below (T'.setTop (mkF m (pc + 3) Ls (v.toList ++ rest))) t → Steps p.tables e below (T.setTop (mkF m pc Ls st)) t := by
  obtain ⟨v, vm₁, ⟨T', L', k', n'⟩, -, X', ⟨L, hQ, l1, l2, l3⟩, stp⟩ := X.specialBack hx hy1 hown (mvT hZ w1) (mvT hZ w2) (mvT hZ w4) hy (backOf (W := W) hM hZ w4 w3 hf hl) (g := mkF m pc Ls st) rfl hsz (Steps.refl _) (a := a) (argsL := argsL) (rest := rest) hlen hst (by show 2 * 0 + _ ≤ _; omega) hd (fun _ _ => ⟨has, eT, hc, hs⟩)
  dsimp only [Pt.U, Pt.locs, Pt.cells, Pt.slots] at X' l1 l2 l3 stp hQ
  subst l1 l2 l3
  exact ⟨v, T', L, X', hQ, fun t k => stp.trans k⟩
theorem own_virtual (X : Stand p l e R s m args below meth c T locs cells slots) (hx : p.tables.exec = Jvm.exec) (hZ : Z.Warmed39 s.vm) {own C : String} {index : Nat} {y z : MethodName} {bytes : ByteArray} {maxL : Nat} {ret : Option FieldType} {rm : Room} {as' : Array Value} {P : OwnP}
    (hown : s.vm.findClass own = some m.cls) (w1 : (Cond.methodLink own index y).before a0 Z = true) (w2 : (Cond.declares y).before a0 Z = true) (hnf : NotFace s y) (w5 : (Cond.selects C y z).before a0 Z = true) (w6 : (Cond.instanceMethod z).before a0 Z = true) (w3 : (Cond.initialized z.cls).before a0 Z = true) (w4 : (Cond.code z bytes maxL ret).before a0 Z = true) (hy : y.cls ≠ "java/lang/invoke/MethodHandle" ∧ y.cls ≠ "java/lang/invoke/VarHandle")
    (hM : OwnC l Z z bytes maxL ret [] rm as' h P) (eT : T.heap = h) {a : Addr} (E : Exa Z h a C) {pc : Nat} {Ls : Array Slot} {argsL rest : List Value} (W : Nat) {st : List Value} (hsz : Ls.size = c.maxLocals) (hlen : ∀ sig, parseMethodDescriptor y.desc = some sig → argsL.length = sig.parameters.length) (has : (.ref a :: argsL).toArray = as') (hst : st = argsL.reverse ++ .ref a :: rest) (hW : (rest.map fun v => v.category).sum ≤ W)
    (hd : decode c.code pc = .ok (.invokevirtual index, 3)) (hf : rm.frames + 1 ≤ R.frames) (hl : W + (maxL + 11) + rm.locals ≤ R.locals) (hc : cells + rm.cells ≤ R.cells) (hs : slots + rm.slots ≤ R.slots) :
    ∃ v T' L, Stand p l e R s m args below meth c T' (locs ++ L) (cells + rm.cells) (slots + rm.slots) ∧ P v T'.heap L ∧ ∀ t, Steps p.tables e below (T'.setTop (mkF m (pc + 3) Ls (v.toList ++ rest))) t → Steps p.tables e below (T.setTop (mkF m pc Ls st)) t := by
  obtain ⟨cq, kq, qa, qb, qc⟩ := isOf hZ eT E
  obtain ⟨v, vm₁, ⟨T', L', k', n'⟩, -, X', ⟨L, hQ, l1, l2, l3⟩, stp⟩ := X.virtualBack hx (y := y) (z := z) hown (mvT hZ w1) (mvT hZ w2) hnf (mvT hZ w5) (mvT hZ w6) hy (backOf (W := W) hM hZ w4 w3 hf hl) qa qc (g := mkF m pc Ls st) rfl hsz (Steps.refl _) (argsL := argsL) (rest := rest) hlen hst (by show 2 * 0 + _ ≤ _; omega) hd (fun _ _ => ⟨has, eT, hc, hs⟩)
  dsimp only [Pt.U, Pt.locs, Pt.cells, Pt.slots] at X' l1 l2 l3 stp hQ
  subst l1 l2 l3
  exact ⟨v, T', L, X', hQ, fun t k => stp.trans k⟩
/-- a body that writes nothing and makes nothing -/
def OwnPure (w : Value) (h0 : Heap) : OwnP := fun v h L => v = some w ∧ h = h0 ∧ L = []
theorem own_nil (X : Stand p l e R s m args below meth c T (locs ++ []) cells slots) : Stand p l e R s m args below meth c T locs cells slots := by rwa [List.append_nil] at X
theorem own_iaload (X : Stand p l e R s m args below meth c T locs cells slots) (hx : p.tables.exec = Jvm.exec) (hZ : Z.Warmed39 s.vm) (eT : T.heap = h) {a : Addr} {k : ClassId} {n : Int32} {vs : List Value} {dv : Value} (V : Arv Z h a k .int n vs dv) {j x : Int32} (hj : ¬ j < 0 ∧ j < n) (hv : vs.getD j.toNatClampNeg dv = .int x)
    {pc : Nat} {Ls : Array Slot} {rest : List Value} (hd : decode c.code pc = .ok (.iaload, 1)) : ∀ t, Steps p.tables e below (T.setTop (mkF m (pc + 1) Ls (.int x :: rest))) t → Steps p.tables e below (T.setTop (mkF m pc Ls (.int j :: .ref a :: rest))) t := by
  obtain ⟨cl, A, -, S, -, H, -⟩ := V
  exact fun t k => X.iaload hx (by rw [eT]; exact A.1) (State.isArrayOf_alike hZ.alike A.2.1) A.2.2 (inb_of S hj) (H.at (inb_of S hj) hv) (g := mkF m pc Ls (.int j :: .ref a :: rest)) rfl rfl hd t k
theorem own_baload (X : Stand p l e R s m args below meth c T locs cells slots) (hx : p.tables.exec = Jvm.exec) (hZ : Z.Warmed39 s.vm) (eT : T.heap = h) {a : Addr} {k : ClassId} {n : Int32} {vs : List Value} {dv : Value} (V : Arv Z h a k .byte n vs dv) {j x : Int32} (hj : ¬ j < 0 ∧ j < n) (hv : vs.getD j.toNatClampNeg dv = .int x)
    {pc : Nat} {Ls : Array Slot} {rest : List Value} (hd : decode c.code pc = .ok (.baload, 1)) : ∀ t, Steps p.tables e below (T.setTop (mkF m (pc + 1) Ls (.int x :: rest))) t → Steps p.tables e below (T.setTop (mkF m pc Ls (.int j :: .ref a :: rest))) t := by
  obtain ⟨cl, A, -, S, -, H, -⟩ := V
  exact fun t k => X.baloadBytes hx (by rw [eT]; exact A.1) (State.isArrayOf_alike hZ.alike A.2.1) A.2.2 (inb_of S hj) (H.at (inb_of S hj) hv) (g := mkF m pc Ls (.int j :: .ref a :: rest)) rfl rfl hd t k
theorem own_aaload (X : Stand p l e R s m args below meth c T locs cells slots) (hx : p.tables.exec = Jvm.exec) (hZ : Z.Warmed39 s.vm) (eT : T.heap = h) {a : Addr} {k : ClassId} {ty : FieldType} {n : Int32} {vs : List Value} {dv : Value} (V : Arv Z h a k ty n vs dv) (hty : ty.isReference = true) {j : Int32} {w : Value} (hj : ¬ j < 0 ∧ j < n) (hv : vs.getD j.toNatClampNeg dv = w)
    {pc : Nat} {Ls : Array Slot} {rest : List Value} (hd : decode c.code pc = .ok (.aaload, 1)) : ∀ t, Steps p.tables e below (T.setTop (mkF m (pc + 1) Ls (w :: rest))) t → Steps p.tables e below (T.setTop (mkF m pc Ls (.int j :: .ref a :: rest))) t := by
  obtain ⟨cl, A, -, S, -, H, -⟩ := V
  exact fun t k => X.aaload hx (by rw [eT]; exact A.1) (State.isArrayOf_alike hZ.alike A.2.1) hty A.2.2 (inb_of S hj) (H.at (inb_of S hj) hv) (g := mkF m pc Ls (.int j :: .ref a :: rest)) rfl rfl hd t k
theorem own_alen (X : Stand p l e R s m args below meth c T locs cells slots) (hx : p.tables.exec = Jvm.exec) (hZ : Z.Warmed39 s.vm) (eT : T.heap = h) {a : Addr} {k : ClassId} {ty : FieldType} {n : Int32} {vs : List Value} {dv : Value} (V : Arv Z h a k ty n vs dv)
    {pc : Nat} {Ls : Array Slot} {rest : List Value} (hd : decode c.code pc = .ok (.arraylength, 1)) : ∀ t, Steps p.tables e below (T.setTop (mkF m (pc + 1) Ls (.int n :: rest))) t → Steps p.tables e below (T.setTop (mkF m pc Ls (.ref a :: rest))) t := by
  obtain ⟨cl, A, -, S, N, H, -⟩ := V
  intro t q
  refine X.arraylength hx (by rw [eT]; exact A.1) (State.isArrayOf_alike hZ.alike A.2.1) (g := mkF m pc Ls (.ref a :: rest)) rfl rfl hd t ?_
  rw [len_of S N]
  exact q
theorem own_iastore (X : Stand p l e R s m args below meth c T locs cells slots) (hx : p.tables.exec = Jvm.exec) (hZ : Z.Warmed39 s.vm) (eT : T.heap = h) {a : Addr} {k : ClassId} {n : Int32} {vs : List Value} {dv : Value} (V : Arv Z h a k .int n vs dv) {j x : Int32} (hj : ¬ j < 0 ∧ j < n) (i : Nat) (hi : j.toNatClampNeg = i) (hl : i < vs.length)
    {pc : Nat} {Ls : Array Slot} {rest : List Value} (hd : decode c.code pc = .ok (.iastore, 1)) : ∃ T' h', Stand p l e R s m args below meth c T' (locs ++ [⟨a, i⟩]) cells slots ∧ T'.heap = h' ∧ Wr h h' a i (.int x) ∧ Arv Z h' a k .int n (vs.set i (.int x)) dv ∧ ∀ t, Steps p.tables e below (T'.setTop (mkF m (pc + 1) Ls rest)) t → Steps p.tables e below (T.setTop (mkF m pc Ls (.int x :: .int j :: .ref a :: rest))) t := by
  obtain ⟨cl, A, q1, S, N, H, G⟩ := V
  obtain ⟨T', h', X', e', W', st⟩ := stI X hx hZ eT A (j := j) (x := x) (inb_of S hj) (g := mkF m pc Ls (.int x :: .int j :: .ref a :: rest)) rfl rfl hd
  have V' := Arv.set A q1 S N H G (v := .int x) rfl W' i hi hl
  rw [hi] at X' W'
  exact ⟨T', h', X', e', W', V', st⟩
theorem own_bastore (X : Stand p l e R s m args below meth c T locs cells slots) (hx : p.tables.exec = Jvm.exec) (hZ : Z.Warmed39 s.vm) (eT : T.heap = h) {a : Addr} {k : ClassId} {n : Int32} {vs : List Value} {dv : Value} (V : Arv Z h a k .byte n vs dv) {j x : Int32} (hj : ¬ j < 0 ∧ j < n) (i : Nat) (hi : j.toNatClampNeg = i) (hl : i < vs.length)
    {pc : Nat} {Ls : Array Slot} {rest : List Value} (hd : decode c.code pc = .ok (.bastore, 1)) : ∃ T' h', Stand p l e R s m args below meth c T' (locs ++ [⟨a, i⟩]) cells slots ∧ T'.heap = h' ∧ Wr h h' a i (.int x.toInt8.toInt32) ∧ Arv Z h' a k .byte n (vs.set i (.int x.toInt8.toInt32)) dv ∧ ∀ t, Steps p.tables e below (T'.setTop (mkF m (pc + 1) Ls rest)) t → Steps p.tables e below (T.setTop (mkF m pc Ls (.int x :: .int j :: .ref a :: rest))) t := by
  obtain ⟨cl, A, q1, S, N, H, G⟩ := V
  obtain ⟨T', h', X', e', W', st⟩ := stB X hx hZ eT A (j := j) (x := x) (inb_of S hj) (g := mkF m pc Ls (.int x :: .int j :: .ref a :: rest)) rfl rfl hd
  have V' := Arv.set A q1 S N H G (v := .int x.toInt8.toInt32) (fits_nar_byte x) W' i hi hl
  rw [hi] at X' W'
  exact ⟨T', h', X', e', W', V', st⟩
theorem own_aastore (X : Stand p l e R s m args below meth c T locs cells slots) (hx : p.tables.exec = Jvm.exec) (hZ : Z.Warmed39 s.vm) (eT : T.heap = h) {a : Addr} {k : ClassId} {ty : FieldType} {n : Int32} {vs : List Value} {dv : Value} (V : Arv Z h a k ty n vs dv) (hty : ty.isReference = true) {C : String} (O : Ovr Z k C) {y : Addr} (I : Ins Z h y C true) {j : Int32} (hj : ¬ j < 0 ∧ j < n) (i : Nat) (hi : j.toNatClampNeg = i) (hl : i < vs.length)
    {pc : Nat} {Ls : Array Slot} {rest : List Value} (hd : decode c.code pc = .ok (.aastore, 1)) : ∃ T' h', Stand p l e R s m args below meth c T' (locs ++ [⟨a, i⟩]) cells slots ∧ T'.heap = h' ∧ Wr h h' a i (.ref y) ∧ Arv Z h' a k ty n (vs.set i (.ref y)) dv ∧ ∀ t, Steps p.tables e below (T'.setTop (mkF m (pc + 1) Ls rest)) t → Steps p.tables e below (T.setTop (mkF m pc Ls (.ref y :: .int j :: .ref a :: rest))) t := by
  obtain ⟨cl, A, q1, S, N, H, G⟩ := V
  obtain ⟨T', h', X', e', W', st⟩ := stR X hx hZ eT A (j := j) (v := .ref y) (inb_of S hj) hty (Sto.ofV A q1 O I) (g := mkF m pc Ls (.ref y :: .int j :: .ref a :: rest)) rfl rfl hd
  have V' := Arv.set A q1 S N H G (v := .ref y) (by cases ty <;> first | rfl | (simp [FieldType.isReference] at hty)) W' i hi hl
  rw [hi] at X' W'
  exact ⟨T', h', X', e', W', V', st⟩
theorem own_lt_eq {x y : Int64} (h : x = y) : lcmpW x y = 0 := (lw_eq x y).mpr h
theorem own_rem_ne {x y : Int32} {target : State} {g : JFrame} (X : Stand p l e R s m args below meth c T locs cells slots) (hx : p.tables.exec = Jvm.exec) (hg : g.method = m) {rest : List Value} (hd : decode c.code g.pc = .ok (.irem, 1)) (hs : g.stack = .int y :: .int x :: rest) (hy : y ≠ 0)
    (hr : Steps p.tables e below (T.setTop { g with pc := g.pc + 1, stack := .int (x % y) :: rest }) target) : Steps p.tables e below (T.setTop g) target := iremM X hx hg hd hs hy hr
theorem own_lrem {x y : Int64} {target : State} {g : JFrame} (X : Stand p l e R s m args below meth c T locs cells slots) (hx : p.tables.exec = Jvm.exec) (hg : g.method = m) {rest : List Value} (hd : decode c.code g.pc = .ok (.lrem, 1)) (hs : g.stack = .long y :: .long x :: rest) (hy : y ≠ 0)
    (hr : Steps p.tables e below (T.setTop { g with pc := g.pc + 1, stack := .long (x % y) :: rest }) target) : Steps p.tables e below (T.setTop g) target := by
  refine XS.lrem X.here hx hg hd hs hy ?_
  rw [lrem_mod]
  exact hr
theorem own_fld_int {args : Array Value} {t : Term} {C n d : String} {k : Int32} {a : Addr} (ev : t.eval args Z none [] Z = some (.ref a)) (h : (Cond.eq (Term.field t C n d) (Term.int k)).value args Z none Z [] = some true) : Fld Z Z.heap a C n d (.int k) := by
  obtain ⟨x, y, h1, h2, h3, h4⟩ := cmp_v (Or.inl h)
  have hy : y = .int k := by rw [Term.int_eval] at h2; exact (Option.some.inj h2).symm
  subst hy
  obtain ⟨z, rfl⟩ : ∃ z, x = .int z := h4
  have hz : z = k := by simpa [Cond.value, h1, h2] using h
  subst hz
  rw [fld_at ev] at h1
  exact Fld.start h1
theorem own_sta_keep {C n d : String} {v : Value} {h' : Heap} (F : Sta Z h C n d v) (K : Keep h h' []) : Sta Z h' C n d v := by
  obtain ⟨cf, i, k, f, st, cell, h1, h2, h3, h4, h5, h6⟩ := F
  exact ⟨cf, i, k, f, st, cell, h1, h2, h3, h4, K.2.1 _ _ h5 nin0, h6⟩
/-- the objects of C are no K: C's superclasses are named, K is a class that has objects -/
theorem own_nsroot {O K : String} {n : Nat} (w : (Cond.noSuperclass O).before a0 Z = true) (wk : (Cond.instantiable K n).before a0 Z = true) (hn : O ≠ K) : NS Z O K := by
  obtain ⟨c, k, h1, h2, h3, -, -⟩ := Cond.noSuperclass_spec w
  obtain ⟨t, kt, g1, -⟩ := Cond.instantiable_spec wk
  have ne := ids_ne h1 g1 hn
  refine ⟨c, t, h1, g1, fun fuel => ?_⟩
  cases fuel with
  | zero => rfl
  | succ f => simp [Vm.isSubclassAux, ne, h2, h3]
theorem own_nsno {C S K : String} {n : Nat} (w : (Cond.superclass C S).before a0 Z = true) (wk : (Cond.instantiable K n).before a0 Z = true) (q : NS Z C K) (hn : C ≠ K) : ∃ c t, Z.vm.findClass C = some c ∧ Z.vm.findClass K = some t ∧ Z.vm.assignable c t = false := by
  obtain ⟨c, t, h0, g0, n3⟩ := q
  obtain ⟨p, k, kp, h1, h2, h3, h4, h5, -, h7⟩ := Cond.superclass_spec h0 w
  obtain ⟨t', kt, g1, g2, g3, g4, -⟩ := Cond.instantiable_spec wk
  cases g0.symm.trans g1
  have g5 : kt.isInterface = false := by
    cases hq : kt.isInterface with
    | false => rfl
    | true => rw [hq] at g4; simp at g4
  have ne := ids_ne h0 g0 hn
  refine ⟨c, t, h0, g0, ?_⟩
  show Z.vm.assignableAux (255 + 1) c t = false
  simp [Vm.assignableAux, ne, h2, g2, h5, g3, g5, Vm.isSubclass, n3]
theorem own_s16 (x : Int32) : x.toInt16.toInt32.toInt16.toInt32 = x.toInt16.toInt32 := by simp
theorem own_virtualUp (X : Stand p l e R s m args below meth c T locs cells slots) (hx : p.tables.exec = Jvm.exec) (hZ : Z.Warmed39 s.vm) {own C owner : String} {index : Nat} {x y : MethodName} {bytes : ByteArray} {maxL : Nat} {ret : Option FieldType} {rm : Room} {as' : Array Value} {P : OwnP}
    (hown : s.vm.findClass own = some m.cls) (w1 : (Cond.methodLink own index x).before a0 Z = true) (w2 : (Cond.sameMethod x.cls owner x.name x.desc).before a0 Z = true) (w7 : (Cond.declares ⟨owner, x.name, x.desc⟩).before a0 Z = true) (hy : owner ≠ "java/lang/invoke/MethodHandle" ∧ owner ≠ "java/lang/invoke/VarHandle") (w5 : (Cond.selects C x y).before a0 Z = true) (w6 : (Cond.instanceMethod y).before a0 Z = true) (w3 : (Cond.initialized y.cls).before a0 Z = true) (w4 : (Cond.code y bytes maxL ret).before a0 Z = true)
    (hM : OwnC l Z y bytes maxL ret [] rm as' h P) (eT : T.heap = h) {a : Addr} (E : Exa Z h a C) {pc : Nat} {Ls : Array Slot} {argsL rest : List Value} (W : Nat) {st : List Value} (hsz : Ls.size = c.maxLocals) (hlen : ∀ sig, parseMethodDescriptor x.desc = some sig → argsL.length = sig.parameters.length) (has : (.ref a :: argsL).toArray = as') (hst : st = argsL.reverse ++ .ref a :: rest) (hW : (rest.map fun v => v.category).sum ≤ W)
    (hd : decode c.code pc = .ok (.invokevirtual index, 3)) (hf : rm.frames + 1 ≤ R.frames) (hl : W + (maxL + 11) + rm.locals ≤ R.locals) (hc : cells + rm.cells ≤ R.cells) (hs : slots + rm.slots ≤ R.slots) :
    ∃ v T' L, Stand p l e R s m args below meth c T' (locs ++ L) (cells + rm.cells) (slots + rm.slots) ∧ P v T'.heap L ∧ ∀ t, Steps p.tables e below (T'.setTop (mkF m (pc + 3) Ls (v.toList ++ rest))) t → Steps p.tables e below (T.setTop (mkF m pc Ls st)) t := by
  obtain ⟨cq, kq, qa, qb, qc⟩ := isOf hZ eT E
  obtain ⟨v, vm₁, ⟨T', L', k', n'⟩, -, X', ⟨L, hQ, l1, l2, l3⟩, stp⟩ := X.virtualBackUp hx (x := x) (y := y) hown (mvT hZ w1) (mvT hZ w2) (mvT hZ w7) hy (mvT hZ w5) (mvT hZ w6) (backOf (W := W) hM hZ w4 w3 hf hl) qa qc (g := mkF m pc Ls st) rfl hsz (Steps.refl _) (argsL := argsL) (rest := rest) hlen hst (by show 2 * 0 + _ ≤ _; omega) hd (fun _ _ => ⟨has, eT, hc, hs⟩)
  dsimp only [Pt.U, Pt.locs, Pt.cells, Pt.slots] at X' l1 l2 l3 stp hQ
  subst l1 l2 l3
  exact ⟨v, T', L, X', hQ, fun t k => stp.trans k⟩
theorem own_castore (X : Stand p l e R s m args below meth c T locs cells slots) (hx : p.tables.exec = Jvm.exec) (hZ : Z.Warmed39 s.vm) (eT : T.heap = h) {a : Addr} {k : ClassId} {n : Int32} {vs : List Value} {dv : Value} (V : Arv Z h a k .char n vs dv) {j x : Int32} (hj : ¬ j < 0 ∧ j < n) (i : Nat) (hi : j.toNatClampNeg = i) (hl : i < vs.length)
    {pc : Nat} {Ls : Array Slot} {rest : List Value} (hd : decode c.code pc = .ok (.castore, 1)) : ∃ T' h', Stand p l e R s m args below meth c T' (locs ++ [⟨a, i⟩]) cells slots ∧ T'.heap = h' ∧ Wr h h' a i (.int x.toUInt32.toUInt16.toUInt32.toInt32) ∧ Arv Z h' a k .char n (vs.set i (.int x.toUInt32.toUInt16.toUInt32.toInt32)) dv ∧ ∀ t, Steps p.tables e below (T'.setTop (mkF m (pc + 1) Ls rest)) t → Steps p.tables e below (T.setTop (mkF m pc Ls (.int x :: .int j :: .ref a :: rest))) t := by
  obtain ⟨cl, A, q1, S, N, H, G⟩ := V
  obtain ⟨T', h', X', e', W', st⟩ := stC X hx hZ eT A (j := j) (x := x) (inb_of S hj) (g := mkF m pc Ls (.int x :: .int j :: .ref a :: rest)) rfl rfl hd
  have V' := Arv.set A q1 S N H G (v := .int x.toUInt32.toUInt16.toUInt32.toInt32) (fits_nar_char x) W' i hi hl
  rw [hi] at X' W'
  exact ⟨T', h', X', e', W', V', st⟩
theorem own_sta_keep1 {C n d C' : String} {v : Value} {h' : Heap} {a : Addr} (F : Sta Z h C n d v) (K : Keep h h' [a]) (E : Exa Z h a C') : Sta Z h' C n d v := by
  obtain ⟨cf, i, k, f, st, cell, h1, h2, h3, h4, h5, h6, h7⟩ := F
  obtain ⟨cell', k', e1, -, -, e4, -⟩ := E
  have hne : st ≠ a := fun q => by
    subst q
    cases h5.symm.trans e1
    rw [h6] at e4
    cases e4
  exact ⟨cf, i, k, f, st, cell, h1, h2, h3, h4, K.2.1 _ _ h5 (ninS hne nin0), h6, h7⟩
theorem own_private (X : Stand p l e R s m args below meth c T locs cells slots) (hx : p.tables.exec = Jvm.exec) (hZ : Z.Warmed39 s.vm) {own C : String} {index n : Nat} {y : MethodName} {bytes : ByteArray} {maxL : Nat} {ret : Option FieldType} {rm : Room} {as' : Array Value} {P : OwnP}
    (hown : s.vm.findClass own = some m.cls) (w1 : (Cond.methodLink own index y).before a0 Z = true) (w2 : (Cond.instanceMethod y).before a0 Z = true) (wp : (Cond.privateMethod y).before a0 Z = true) (wi : (Cond.instantiable y.cls n).before a0 Z = true) (w3 : (Cond.initialized y.cls).before a0 Z = true) (w4 : (Cond.code y bytes maxL ret).before a0 Z = true) (hy : y.cls ≠ "java/lang/invoke/MethodHandle" ∧ y.cls ≠ "java/lang/invoke/VarHandle")
    (hM : OwnC l Z y bytes maxL ret [] rm as' h P) (eT : T.heap = h) {a : Addr} (E : Exa Z h a C) {pc : Nat} {Ls : Array Slot} {argsL rest : List Value} (W : Nat) {st : List Value} (hsz : Ls.size = c.maxLocals) (hlen : ∀ sig, parseMethodDescriptor y.desc = some sig → argsL.length = sig.parameters.length) (has : (.ref a :: argsL).toArray = as') (hst : st = argsL.reverse ++ .ref a :: rest) (hW : (rest.map fun v => v.category).sum ≤ W)
    (hd : decode c.code pc = .ok (.invokevirtual index, 3)) (hf : rm.frames + 1 ≤ R.frames) (hl : W + (maxL + 11) + rm.locals ≤ R.locals) (hc : cells + rm.cells ≤ R.cells) (hs : slots + rm.slots ≤ R.slots) :
    ∃ v T' L, Stand p l e R s m args below meth c T' (locs ++ L) (cells + rm.cells) (slots + rm.slots) ∧ P v T'.heap L ∧ ∀ t, Steps p.tables e below (T'.setTop (mkF m (pc + 3) Ls (v.toList ++ rest))) t → Steps p.tables e below (T.setTop (mkF m pc Ls st)) t := by
  obtain ⟨cell, hcell, hobj⟩ := E.cell
  have hpriv := Cond.privateMethod_at (mvP hZ wp (args := args))
  obtain ⟨ci, ki, i1, i2, i3, i4, -⟩ := Cond.instantiable_spec (show (Cond.instantiable y.cls n).before args s = true from mvT hZ wi)
  have hni : ki.isInterface = false := by
    cases hq : ki.isInterface with
    | false => rfl
    | true => rw [hq] at i4; simp at i4
  have hsel := selects_self_of_private (args := args) i1 i2 hni hpriv (mvT hZ w2) hy
  obtain ⟨v, vm₁, ⟨T', L', k', n'⟩, -, X', ⟨L, hQ, l1, l2, l3⟩, stp⟩ := X.privateBack hx (y := y) hown (mvT hZ w1) (mvT hZ w2) hsel hpriv (mvT hZ w4) hy (backOf (W := W) hM hZ w4 w3 hf hl) (g := mkF m pc Ls st) rfl hsz (Steps.refl _) (a := a) (by rw [eT]; exact hcell) hobj (argsL := argsL) (rest := rest) hlen hst (by show 2 * 0 + _ ≤ _; omega) hd (fun _ _ => ⟨has, eT, hc, hs⟩)
  dsimp only [Pt.U, Pt.locs, Pt.cells, Pt.slots] at X' l1 l2 l3 stp hQ
  subst l1 l2 l3
  exact ⟨v, T', L, X', hQ, fun t k => stp.trans k⟩
theorem own_interface (X : Stand p l e R s m args below meth c T locs cells slots) (hx : p.tables.exec = Jvm.exec) (hZ : Z.Warmed39 s.vm) {own C : String} {index count : Nat} {xi y : MethodName} {bytes : ByteArray} {maxL : Nat} {ret : Option FieldType} {rm : Room} {as' : Array Value} {P : OwnP}
    (hown : s.vm.findClass own = some m.cls) (w1 : (Cond.methodLink own index xi).before a0 Z = true) (w2 : (Cond.declares xi).before a0 Z = true) (w7 : (Cond.interfaceMethod xi.cls xi.cls xi.name xi.desc).before args s = true) (w5 : (Cond.selects C xi y).before a0 Z = true) (w6 : (Cond.instanceMethod y).before a0 Z = true) (w8 : (Cond.publicMethod y).before a0 Z = true) (w9 : (Cond.unhidden C xi.name xi.desc).before a0 Z = true) (w10 : (Cond.castable C xi.cls).before a0 Z = true) (w3 : (Cond.initialized y.cls).before a0 Z = true) (w4 : (Cond.code y bytes maxL ret).before a0 Z = true) (hy : xi.cls ≠ "java/lang/invoke/MethodHandle" ∧ xi.cls ≠ "java/lang/invoke/VarHandle")
    (hM : OwnC l Z y bytes maxL ret [] rm as' h P) (eT : T.heap = h) {a : Addr} (E : Exa Z h a C) {pc : Nat} {Ls : Array Slot} {argsL rest : List Value} (W : Nat) {st : List Value} (hsz : Ls.size = c.maxLocals) (hlen : ∀ sig, parseMethodDescriptor xi.desc = some sig → argsL.length = sig.parameters.length) (has : (.ref a :: argsL).toArray = as') (hst : st = argsL.reverse ++ .ref a :: rest) (hW : (rest.map fun v => v.category).sum ≤ W)
    (hd : decode c.code pc = .ok (.invokeinterface index count, 5)) (hf : rm.frames + 1 ≤ R.frames) (hl : W + (maxL + 11) + rm.locals ≤ R.locals) (hc : cells + rm.cells ≤ R.cells) (hs : slots + rm.slots ≤ R.slots) :
    ∃ v T' L, Stand p l e R s m args below meth c T' (locs ++ L) (cells + rm.cells) (slots + rm.slots) ∧ P v T'.heap L ∧ ∀ t, Steps p.tables e below (T'.setTop (mkF m (pc + 5) Ls (v.toList ++ rest))) t → Steps p.tables e below (T.setTop (mkF m pc Ls st)) t := by
  obtain ⟨cq, kq, qa, qb, qc⟩ := isOf hZ eT E
  obtain ⟨v, vm₁, ⟨T', L', k', n'⟩, -, X', ⟨L, hQ, l1, l2, l3⟩, stp⟩ := X.interfaceBack hx (xi := xi) (y := y) hown (mvT hZ w1) (mvT hZ w2) w7 (mvT hZ w5) (mvT hZ w6) (mvT hZ w8) (mvT hZ w9) (mvT hZ w10) hy (backOf (W := W) hM hZ w4 w3 hf hl) qa qb qc (g := mkF m pc Ls st) rfl hsz (Steps.refl _) (argsL := argsL) (rest := rest) hlen hst (by show 2 * 0 + _ ≤ _; omega) hd (fun _ _ => ⟨has, eT, hc, hs⟩)
  dsimp only [Pt.U, Pt.locs, Pt.cells, Pt.slots] at X' l1 l2 l3 stp hQ
  subst l1 l2 l3
  exact ⟨v, T', L, X', hQ, fun t k => stp.trans k⟩
theorem own_staticUp (X : Stand p l e R s m args below meth c T locs cells slots) (hx : p.tables.exec = Jvm.exec) (hZ : Z.Warmed39 s.vm) {own owner : String} {index : Nat} {x : MethodName} {bytes : ByteArray} {maxL : Nat} {ret : Option FieldType} {rm : Room} {as' : Array Value} {P : OwnP}
    (hown : s.vm.findClass own = some m.cls) (w1 : (Cond.methodLink own index x).before a0 Z = true) (w2 : (Cond.sameMethod x.cls owner x.name x.desc).before a0 Z = true) (hy : owner ≠ "java/lang/invoke/MethodHandle" ∧ owner ≠ "java/lang/invoke/VarHandle") (w5 : (Cond.static ⟨owner, x.name, x.desc⟩).before a0 Z = true) (w3 : (Cond.initialized owner).before a0 Z = true) (w4 : (Cond.code ⟨owner, x.name, x.desc⟩ bytes maxL ret).before a0 Z = true)
    (hM : OwnC l Z ⟨owner, x.name, x.desc⟩ bytes maxL ret [] rm as' h P) (eT : T.heap = h) {pc : Nat} {Ls : Array Slot} {argsL rest : List Value} (W : Nat) {st : List Value} (hsz : Ls.size = c.maxLocals) (hlen : ∀ sig, parseMethodDescriptor x.desc = some sig → argsL.length = sig.parameters.length) (has : argsL.toArray = as') (hst : st = argsL.reverse ++ rest) (hW : (rest.map fun v => v.category).sum ≤ W)
    (hd : decode c.code pc = .ok (.invokestatic index, 3)) (hf : rm.frames + 1 ≤ R.frames) (hl : W + (maxL + 11) + rm.locals ≤ R.locals) (hc : cells + rm.cells ≤ R.cells) (hs : slots + rm.slots ≤ R.slots) :
    ∃ v T' L, Stand p l e R s m args below meth c T' (locs ++ L) (cells + rm.cells) (slots + rm.slots) ∧ P v T'.heap L ∧ ∀ t, Steps p.tables e below (T'.setTop (mkF m (pc + 3) Ls (v.toList ++ rest))) t → Steps p.tables e below (T.setTop (mkF m pc Ls st)) t := by
  have c4 : (Cond.code ⟨owner, x.name, x.desc⟩ bytes maxL ret).before args s = true := mvT hZ w4
  obtain ⟨mk, hnamed⟩ := Cond.code_named c4
  obtain ⟨methM, cM, hmethM, -, -, -, -, -, -, hsigM⟩ := Cond.code_spec hnamed c4
  have hstatic : methM.isStatic = true := Cond.static_spec hnamed hmethM (mvT (args := args) hZ w5)
  obtain ⟨kP, hkP, -⟩ := className_of_methodNamed hnamed
  have hinitP : kP.init = .initialized := Cond.initialized_spec (findClass_of_methodNamed hnamed) hkP (mvT (args := args) hZ w3)
  obtain ⟨vm₁, X₁, hstep₁⟩ := X.invokestaticUp hx hown (mvT hZ w1) (mvT hZ w2) hy hnamed hmethM hstatic hkP hinitP (g := mkF m pc Ls st) rfl (argsL := argsL) (rest := rest) (hlen _ hsigM) hst hd
  obtain ⟨v, ⟨T', L', k', n'⟩, X', ⟨L, hQ, l1, l2, l3⟩, hsteps⟩ := (backOf (len := 3) (W := W) hM hZ w4 w3 hf hl) m meth c ⟨T.setVm vm₁, locs, cells, slots⟩ { mkF m pc Ls st with stack := rest } (.invokestatic index) mk argsL.toArray X₁ rfl hsz hd (by show 2 * 0 + (rest.map fun v => v.category).sum ≤ W; rw [Nat.mul_zero, Nat.zero_add]; exact hW) (X₁.named hnamed) ⟨has, eT, hc, hs⟩
  dsimp only [Pt.U, Pt.locs, Pt.cells, Pt.slots] at X' l1 l2 l3 hsteps hQ
  subst l1 l2 l3
  exact ⟨v, T', L, X', hQ, fun t k => ((hstep₁ _ fun acts => by rw [doInvoke_state]; exact Steps.refl _).trans hsteps).trans k⟩
theorem own_getfRef (X : Stand p l e R s m args below meth c T locs cells slots) (hx : p.tables.exec = Jvm.exec) (hZ : Z.Warmed39 s.vm) {own O n d : String} {index : Nat} (hown : s.vm.findClass own = some m.cls) (w : (Cond.fieldRef own index O n d).before a0 Z = true) (eT : T.heap = h) {a : Addr} {v : Value} (F : Fld Z h a O n d v)
    {pc : Nat} {Ls : Array Slot} {rest : List Value} (hd : decode c.code pc = .ok (.getfield index, 3)) : ∀ t, Steps p.tables e below (T.setTop (mkF m (pc + 3) Ls (v :: rest))) t → Steps p.tables e below (T.setTop (mkF m pc Ls (.ref a :: rest))) t := by
  obtain ⟨cell, cf, k, i, f, h1, h2, h3, h4, -, -, h7⟩ := F
  have hW : Z.Warmed39 T.vm := wtrans hZ X.warmed
  have hw := Cond.fieldRef_warmed39 hW w
  have hcur : (Z.setVm T.vm).vm.findClass own = some m.cls := by
    show T.vm.findClass own = _
    rw [X.warmed.alike.findClass]
    exact hown
  obtain ⟨c', k', i', f', q1, q2⟩ := Cond.fieldRef_spec hcur hw
  obtain ⟨k2, hi, -⟩ := State.fieldFound?_setVm (s := Z) hW.alike h2
  rw [hi] at q1
  cases q1
  exact fun t kk => (X.getfieldR hx (g := mkF m pc Ls (.ref a :: rest)) rfl q2 h3 rfl (by rw [eT]; exact h1) h4 h7 hd (Steps.refl _)).trans kk
theorem own_sneE {a b : Addr} {cell : Cell} {C : String} (h1 : h[a]? = some cell) (h2 : cell.vm.isStatics = true) (E : Exa Z h b C) : a ≠ b := fun q => by
  obtain ⟨cell', k', e1, -, -, e4, -⟩ := E
  subst q
  cases h1.symm.trans e1
  rw [h2] at e4
  cases e4
theorem own_sneA {a b : Addr} {cell : Cell} {k : ClassId} {ty : FieldType} {n : Int32} {vs : List Value} {dv : Value} (h1 : h[a]? = some cell) (h2 : cell.vm.isStatics = true) (V : Arv Z h b k ty n vs dv) : a ≠ b := fun q => by
  obtain ⟨cl, A, -⟩ := V
  subst q
  cases h1.symm.trans A.1
  have := A.plain
  rw [h2] at this
  cases this
theorem own_sta_keepL {C n d : String} {v : Value} {h' : Heap} {ws : List Addr} (F : Sta Z h C n d v) (K : Keep h h' ws) (q : ∀ (a : Addr) (cell : Cell), h[a]? = some cell → cell.vm.isStatics = true → a ∉ ws) : Sta Z h' C n d v := by
  obtain ⟨cf, i, k, f, st, cell, h1, h2, h3, h4, h5, h6, h7⟩ := F
  exact ⟨cf, i, k, f, st, cell, h1, h2, h3, h4, K.2.1 _ _ h5 (q _ _ h5 h6), h6, h7⟩
theorem own_nf {args : Array Value} {s : State} {C : String} {x y z : MethodName} (hsel : (Cond.selects C x z).before args s = true) (hc : y.cls = z.cls) : NotFace s y := fun r0 h0 => by
  obtain ⟨c2, r2, m2, q1, q2, q3, q4, kP, hkP, hkPi⟩ := Cond.selects_spec hsel
  have e1 := findClass_of_methodNamed h0
  have e2 := findClass_of_methodNamed q3
  rw [hc] at e1
  have e3 : r0.cls = m2.cls := Option.some.inj (e1.symm.trans e2)
  exact ⟨kP, by rw [e3]; exact hkP, hkPi⟩
end OwnKit
end Jvm.RoadKit
namespace Jvm.Pilot.@@N@@
open Jvm Jvm.ClassFile Sem Op Lib Jvm.Free Jvm.Stand Jvm.LawKit Jvm.RoadKit Bundle Jvm.Pilot.@@N@@.Jvm.D
theorem own_w {Z : State} {a0 : Array Value} (hw : ∀ d ∈ tables_1, d.before a0 Z = true) (i : Nat) {d : Jvm.Cond} (h : tables_1[i]? = some d) : d.before a0 Z = true := hw _ (List.mem_of_getElem? h)
theorem own_i {a : Addr} {L : List Addr} {Q : Prop} (i : Nat) (h : L[i]? = some a) : a ∈ L ∨ Q := Or.inl (List.mem_of_getElem? h)
theorem pd__II_V : parseMethodDescriptor "(II)V" = some ⟨[.int, .int], none⟩ := by decide +kernel
theorem pd___V : parseMethodDescriptor "()V" = some ⟨[], none⟩ := by decide +kernel
theorem pd___I : parseMethodDescriptor "()I" = some ⟨[], some .int⟩ := by decide +kernel
theorem pd__I_Z : parseMethodDescriptor "(I)Z" = some ⟨[.int], some .boolean⟩ := by decide +kernel
theorem pd__JJ_J : parseMethodDescriptor "(JJ)J" = some ⟨[.long, .long], some .long⟩ := by decide +kernel
def own_in (q s e : Int32) : Int32 := if q < s then 0 else if q < e then 1 else 0
def own_min (x y : Int64) : Int64 := if y < x then y else x
theorem own_lt32 (x y : Int32) : x < y ↔ x.toInt < y.toInt := Int32.lt_iff_toInt_lt
theorem own_lt64 (x y : Int64) : x < y ↔ x.toInt < y.toInt := Int64.lt_iff_toInt_lt
theorem own_d (q s : Int32) : (q.toInt64 - s.toInt64).toInt = q.toInt - s.toInt := by
  have h := c_lsub q.toInt64 s.toInt64
  have h1 := c_i2l q
  have h2 := c_i2l s
  have h3 := rng32 q
  have h4 := rng32 s
  have h5 := rng64 (q.toInt64 - s.toInt64)
  omega
theorem own_sz (s e : Int32) (h1 : 0 ≤ s.toInt) (h2 : s.toInt ≤ e.toInt) : (e - s).toInt64.toInt = e.toInt - s.toInt := by
  rw [c_i2l]
  have h := c_isub e s
  have h3 := rng32 e
  have h4 := rng32 s
  have h5 := rng32 (e - s)
  omega
theorem own_A (q s e : Int32) (h : q.toInt64 - s.toInt64 < 0) : own_in q s e = 0 := by
  have h1 : q < s := by
    rw [own_lt32]
    rw [own_lt64, own_d] at h
    have : (0 : Int64).toInt = 0 := by decide
    omega
  simp [own_in, h1]
theorem own_B (q s e : Int32) (g1 : 0 ≤ s.toInt) (g2 : s.toInt ≤ e.toInt) (h : ¬ q.toInt64 - s.toInt64 < 0) (h' : q.toInt64 - s.toInt64 < (e - s).toInt64) : own_in q s e = 1 := by
  rw [own_lt64, own_d] at h h'
  rw [own_sz s e g1 g2] at h'
  have z : (0 : Int64).toInt = 0 := by decide
  have h1 : ¬ q < s := by rw [own_lt32]; omega
  have h2 : q < e := by rw [own_lt32]; omega
  simp [own_in, h1, h2]
theorem own_Cc (q s e : Int32) (g1 : 0 ≤ s.toInt) (g2 : s.toInt ≤ e.toInt) (h : ¬ q.toInt64 - s.toInt64 < 0) (h' : ¬ q.toInt64 - s.toInt64 < (e - s).toInt64) : own_in q s e = 0 := by
  rw [own_lt64, own_d] at h h'
  rw [own_sz s e g1 g2] at h'
  have z : (0 : Int64).toInt = 0 := by decide
  have h1 : ¬ q < s := by rw [own_lt32]; omega
  have h2 : ¬ q < e := by rw [own_lt32]; omega
  simp [own_in, h1, h2]
theorem own_s0 (a : Int32) : 0 ≤ (a &&& 2147483647).toInt := by
  have h1 := c_mask a 2147483647 31 (by decide) (by decide)
  omega
theorem own_room (s : Int32) (h : 0 ≤ s.toInt) : ((2147483647 : Int64) - s.toInt64 + 1).toInt = 2147483648 - s.toInt := by
  have h1 := c_lsub 2147483647 s.toInt64
  have h2 := c_ladd (2147483647 - s.toInt64) 1
  have h3 := c_i2l s
  have h4 := rng32 s
  have h5 := rng64 ((2147483647 : Int64) - s.toInt64)
  have h6 := rng64 ((2147483647 : Int64) - s.toInt64 + 1)
  have e1 : (2147483647 : Int64).toInt = 2147483647 := by decide
  have e2 : (1 : Int64).toInt = 1 := by decide
  omega
theorem own_room0 (s : Int32) (h : 0 ≤ s.toInt) : (2147483647 : Int64) - s.toInt64 + 1 ≠ 0 := fun q => by
  have h1 := own_room s h
  rw [q] at h1
  have h4 := rng32 s
  have e0 : (0 : Int64).toInt = 0 := by decide
  omega
theorem own_e1 (s b : Int32) (h : 0 ≤ s.toInt) : s.toInt ≤ (own_min 2147483647 (s.toInt64 + (b &&& 3).toInt64)).toInt ∧ (own_min 2147483647 (s.toInt64 + (b &&& 3).toInt64)).toInt < 2147483648 := by
  have h1 := c_mask b 3 2 (by decide) (by decide)
  have h2 := c_ladd s.toInt64 (b &&& 3).toInt64
  have h3 := c_i2l s
  have h4 := c_i2l (b &&& 3)
  have h5 := rng32 s
  have h6 := rng64 (s.toInt64 + (b &&& 3).toInt64)
  have e1 : (2147483647 : Int64).toInt = 2147483647 := by decide
  unfold own_min
  split
  · rename_i q; rw [own_lt64] at q; omega
  · rename_i q; rw [own_lt64] at q; omega
theorem own_e2 (s b : Int32) (h : 0 ≤ s.toInt) : s.toInt ≤ (s.toInt64 + (b &&& 2147483647).toInt64 % ((2147483647 : Int64) - s.toInt64 + 1)).toInt ∧ (s.toInt64 + (b &&& 2147483647).toInt64 % ((2147483647 : Int64) - s.toInt64 + 1)).toInt < 2147483648 := by
  have h1 := own_s0 b
  have h2 := own_room s h
  have h3 := c_i2l s
  have h4 := c_i2l (b &&& 2147483647)
  have h5 := rng32 s
  have h7 := Int64.toInt_mod (b &&& 2147483647).toInt64 ((2147483647 : Int64) - s.toInt64 + 1)
  rw [h2, h4, Int.tmod_eq_emod_of_nonneg h1] at h7
  have h8 := Int.emod_nonneg (b &&& 2147483647).toInt (show (2147483648 - s.toInt : Int) ≠ 0 by omega)
  have h9 := Int.emod_lt_of_pos (b &&& 2147483647).toInt (show (0 : Int) < 2147483648 - s.toInt by omega)
  have h10 := c_ladd s.toInt64 ((b &&& 2147483647).toInt64 % ((2147483647 : Int64) - s.toInt64 + 1))
  have h11 := rng64 (s.toInt64 + (b &&& 2147483647).toInt64 % ((2147483647 : Int64) - s.toInt64 + 1))
  omega
theorem own_ei (s : Int32) (x : Int64) (h0 : 0 ≤ s.toInt) (h1 : s.toInt ≤ x.toInt) (h2 : x.toInt < 2147483648) : s.toInt ≤ x.toInt32.toInt ∧ ¬ x.toInt32 < s := by
  have h3 := c_l2i x
  have h4 := rng32 x.toInt32
  rw [own_lt32]
  omega
theorem own_nn (s : Int32) (h : 0 ≤ s.toInt) : ¬ s < 0 := by
  rw [own_lt32]
  have e0 : (0 : Int32).toInt = 0 := by decide
  omega
theorem d2_0 : decode jdk_30_method_1_code 0 = .ok (.aload_n 0, 1) := by decide +kernel
theorem d2_1 : decode jdk_30_method_1_code 1 = .ok (.invokespecial 1, 3) := by decide +kernel
theorem d2_4 : decode jdk_30_method_1_code 4 = .ok (.return_, 1) := by decide +kernel
theorem pf_java_lang_Record__init____V : plainFor (⟨"java/lang/Record", "<init>", "()V"⟩ : MethodName) = true := by first | exact plainFor_of_name (by first | (simp [plainName, overriddenIn]; done) | decide +kernel) | exact Jvm.Free.JP.mathPlain rfl (by decide +kernel) | decide +kernel
theorem ef_rm2 (m : MethodId) (q0 : Addr) : entryFrame m #[(.ref q0)] 1 = mkF m 0 #[rv q0] [] := by first | (simp [entryFrame, mkF, argsToLocals, Value.category]; done) | rfl
set_option maxRecDepth 65536 in
set_option maxHeartbeats 40000000 in
theorem rm2 (l : Launch) (Z : State) (a0 : Array Value) (hw : ∀ d ∈ tables_1, d.before a0 Z = true) (ws : List Jvm.Cond) (x0 : Addr) (h0 : Heap) :
    OwnC l Z (⟨"java/lang/Record", "<init>", "()V"⟩ : MethodName) jdk_30_method_1_code 1 none ws ({ frames := 1, cells := 0, slots := 0, locals := 12 } : Room) #[(.ref x0)] h0 (fun v h L => v = none ∧ h = h0 ∧ L = []) := by
  refine own_entry pf_java_lang_Record__init____V (fun m => ef_rm2 m x0) ?_
  intro p e s m below meth c T0 X0 hC e0
  obtain ⟨hx, hby, hml, hown, hnm, hret, hlk, hZ⟩ := hC
  refine own_go T0 m 1 #[rv x0] [(.ref x0)] (fun t k => XS.aloadN X0.here hx rfl (hb hby d2_0) rfl rfl k) ?_
  obtain ⟨T1, X1, e1, st1⟩ := initO X0 hx hZ hown (own_w hw 13 rfl) (own_w hw 14 rfl) (own_w hw 15 rfl) e0 (g := (mkF m 1 #[rv x0] [(.ref x0)])) rfl (by rw [hml]; rfl) rfl (hb hby d2_1) (by decide) (W := 0) (by show 2 * 0 + _ ≤ _; exact Nat.le_of_eq rfl) (by decide)
  refine own_go T1 m 4 #[rv x0] [] (st1) ?_
  refine own_retV X1 hx hlk hret (hb hby d2_4) (by decide) (by decide) ?_
  exact ⟨rfl, e1, rfl⟩
theorem d1_0 : decode prog_25_method_1_code 0 = .ok (.aload_n 0, 1) := by decide +kernel
theorem d1_1 : decode prog_25_method_1_code 1 = .ok (.invokespecial 1, 3) := by decide +kernel
theorem d1_4 : decode prog_25_method_1_code 4 = .ok (.iload_n 1, 1) := by decide +kernel
theorem d1_5 : decode prog_25_method_1_code 5 = .ok (.ifCond .lt 8, 3) := by decide +kernel
theorem d1_8 : decode prog_25_method_1_code 8 = .ok (.iload_n 2, 1) := by decide +kernel
theorem d1_9 : decode prog_25_method_1_code 9 = .ok (.iload_n 1, 1) := by decide +kernel
theorem d1_10 : decode prog_25_method_1_code 10 = .ok (.if_icmp .ge 18, 3) := by decide +kernel
theorem d1_13 : decode prog_25_method_1_code 13 = .ok (.new 7, 3) := by decide +kernel
theorem d1_16 : decode prog_25_method_1_code 16 = .ok (.dup, 1) := by decide +kernel
theorem d1_17 : decode prog_25_method_1_code 17 = .ok (.iload_n 1, 1) := by decide +kernel
theorem d1_18 : decode prog_25_method_1_code 18 = .ok (.iload_n 2, 1) := by decide +kernel
theorem d1_19 : decode prog_25_method_1_code 19 = .ok (.invokedynamic 9, 5) := by decide +kernel
theorem d1_24 : decode prog_25_method_1_code 24 = .ok (.invokespecial 13, 3) := by decide +kernel
theorem d1_27 : decode prog_25_method_1_code 27 = .ok (.athrow, 1) := by decide +kernel
theorem d1_28 : decode prog_25_method_1_code 28 = .ok (.aload_n 0, 1) := by decide +kernel
theorem d1_29 : decode prog_25_method_1_code 29 = .ok (.iload_n 1, 1) := by decide +kernel
theorem d1_30 : decode prog_25_method_1_code 30 = .ok (.putfield 16, 3) := by decide +kernel
theorem d1_33 : decode prog_25_method_1_code 33 = .ok (.aload_n 0, 1) := by decide +kernel
theorem d1_34 : decode prog_25_method_1_code 34 = .ok (.iload_n 2, 1) := by decide +kernel
theorem d1_35 : decode prog_25_method_1_code 35 = .ok (.putfield 22, 3) := by decide +kernel
theorem d1_38 : decode prog_25_method_1_code 38 = .ok (.return_, 1) := by decide +kernel
theorem pf_com_example_bowerbird_bowerbird_core_DocumentSet__init___II_V : plainFor (⟨"com/example/bowerbird/bowerbird/core/DocumentSet", "<init>", "(II)V"⟩ : MethodName) = true := by first | exact plainFor_of_name (by first | (simp [plainName, overriddenIn]; done) | decide +kernel) | exact Jvm.Free.JP.mathPlain rfl (by decide +kernel) | decide +kernel
theorem ef_rm1 (m : MethodId) (q0 : Addr) (q1 : Int32) (q2 : Int32) : entryFrame m #[(.ref q0), (.int q1), (.int q2)] 3 = mkF m 0 #[rv q0, iv q1, iv q2] [] := by first | (simp [entryFrame, mkF, argsToLocals, Value.category]; done) | rfl
set_option maxRecDepth 65536 in
set_option maxHeartbeats 40000000 in
theorem rm1 (l : Launch) (Z : State) (a0 : Array Value) (hw : ∀ d ∈ tables_1, d.before a0 Z = true) (ws : List Jvm.Cond) (x0 : Addr) (x1 : Int32) (x2 : Int32) (h0 : Heap) (n0 : Nat) (Z0 : n0 ≤ h0.size) (E_x0 : Exa Z h0 x0 "com/example/bowerbird/bowerbird/core/DocumentSet") (g_x0 : n0 ≤ x0) (F_start : Fld Z h0 x0 "com/example/bowerbird/bowerbird/core/DocumentSet" "start" "I" (.int 0)) (F_end : Fld Z h0 x0 "com/example/bowerbird/bowerbird/core/DocumentSet" "end" "I" (.int 0)) (hs : ¬ x1 < (0 : Int32)) (he : ¬ x2 < x1) :
    OwnC l Z (⟨"com/example/bowerbird/bowerbird/core/DocumentSet", "<init>", "(II)V"⟩ : MethodName) prog_25_method_1_code 3 none ws ({ frames := 2, cells := 0, slots := 0, locals := 24 } : Room) #[(.ref x0), (.int x1), (.int x2)] h0 (fun v h L => v = none ∧ Fr n0 L ∧ Keep h0 h [x0] ∧ Exa Z h x0 "com/example/bowerbird/bowerbird/core/DocumentSet" ∧ Fld Z h x0 "com/example/bowerbird/bowerbird/core/DocumentSet" "start" "I" (.int x1) ∧ Fld Z h x0 "com/example/bowerbird/bowerbird/core/DocumentSet" "end" "I" (.int x2)) := by
  refine own_entry pf_com_example_bowerbird_bowerbird_core_DocumentSet__init___II_V (fun m => ef_rm1 m x0 x1 x2) ?_
  intro p e s m below meth c T0 X0 hC e0
  obtain ⟨hx, hby, hml, hown, hnm, hret, hlk, hZ⟩ := hC
  have N0 := Fr.nil n0
  have K0 := Keep.refl h0 [x0]
  refine own_go T0 m 1 #[rv x0, iv x1, iv x2] [(.ref x0)] (fun t k => XS.aloadN X0.here hx rfl (hb hby d1_0) rfl rfl k) ?_
  obtain ⟨_, T1, L1, X1, ⟨rfl, e1, rfl⟩, st1⟩ := own_init X0 hx hZ (y := (⟨"java/lang/Record", "<init>", "()V"⟩ : MethodName)) rfl hown (own_w hw 8 rfl) (own_w hw 9 rfl) (own_w hw 11 rfl) (own_w hw 12 rfl) (by decide) (rm2 l Z a0 hw [] x0 h0) e0 (a := x0) 0 (argsL := []) (rest := []) (Ls := #[rv x0, iv x1, iv x2]) (by rw [hml]; rfl) (lenOf pd___V rfl) rfl rfl (Nat.le_of_eq rfl) (hb hby d1_1) (by decide) (by decide) (by decide) (by decide)
  replace X1 := own_nil X1
  refine own_go T1 m 4 #[rv x0, iv x1, iv x2] [] (st1) ?_
  refine own_go T1 m 5 #[rv x0, iv x1, iv x2] [(.int x1)] (fun t k => XS.iloadN X1.here hx rfl (hb hby d1_4) rfl k) ?_
  refine own_go T1 m 8 #[rv x0, iv x1, iv x2] [] (fun t k => XS.ifNo X1.here hx rfl (hb hby d1_5) rfl ((if0 _ _).trans (flt hs).1) k) ?_
  refine own_go T1 m 9 #[rv x0, iv x1, iv x2] [(.int x2)] (fun t k => XS.iloadN X1.here hx rfl (hb hby d1_8) rfl k) ?_
  refine own_go T1 m 10 #[rv x0, iv x1, iv x2] [(.int x1), (.int x2)] (fun t k => XS.iloadN X1.here hx rfl (hb hby d1_9) rfl k) ?_
  refine own_go T1 m 28 #[rv x0, iv x1, iv x2] [] (fun t k => XS.icmpYes X1.here hx rfl (pc0 := 10) (pc' := 28) rfl (hb hby d1_10) rfl (flt he).2.1 (by decide) (by decide) k) ?_
  refine own_go T1 m 29 #[rv x0, iv x1, iv x2] [(.ref x0)] (fun t k => XS.aloadN X1.here hx rfl (hb hby d1_28) rfl rfl k) ?_
  refine own_go T1 m 30 #[rv x0, iv x1, iv x2] [(.int x1), (.ref x0)] (fun t k => XS.iloadN X1.here hx rfl (hb hby d1_29) rfl k) ?_
  obtain ⟨T2, h2, X2, e2, W2, st2⟩ := putF X1 hx hZ hown (host := "") (Or.inl (own_w hw 16 rfl)) Via.refl e1 F_start E_x0 (Or.inr ⟨(own_w hw 17 rfl), rfl, hnm⟩) (own_w hw 3 rfl) (ty := .int) (by decide) rfl rfl (g := (mkF m 30 #[rv x0, iv x1, iv x2] [(.int x1), (.ref x0)])) rfl rfl (hb hby d1_30)
  have F2 := F_start.same W2
  have cf3 := E_x0.wr W2
  have cf4 := F_end.other W2 (Or.inr (slot_ne (Or.inr (own_w hw 19 rfl)) (Or.inr (own_w hw 17 rfl)) (by decide) (t := .int) (t' := .int) (by decide) (by decide)))
  have Z_2 : n0 ≤ h2.size := Nat.le_trans Z0 (Keep.of_wr W2).1
  have K_2 : Keep h0 h2 [x0] := K0.wr W2 (own_i 0 rfl)
  have N2 := Fr.snoc X2 N0 g_x0
  refine own_go T2 m 33 #[rv x0, iv x1, iv x2] [] (st2) ?_
  refine own_go T2 m 34 #[rv x0, iv x1, iv x2] [(.ref x0)] (fun t k => XS.aloadN X2.here hx rfl (hb hby d1_33) rfl rfl k) ?_
  refine own_go T2 m 35 #[rv x0, iv x1, iv x2] [(.int x2), (.ref x0)] (fun t k => XS.iloadN X2.here hx rfl (hb hby d1_34) rfl k) ?_
  obtain ⟨T5, h5, X5, e5, W5, st5⟩ := putF X2 hx hZ hown (host := "") (Or.inl (own_w hw 18 rfl)) Via.refl e2 cf4 cf3 (Or.inr ⟨(own_w hw 19 rfl), rfl, hnm⟩) (own_w hw 3 rfl) (ty := .int) (by decide) rfl rfl (g := (mkF m 35 #[rv x0, iv x1, iv x2] [(.int x2), (.ref x0)])) rfl rfl (hb hby d1_35)
  have F5 := cf4.same W5
  have cf6 := cf3.wr W5
  have cf7 := F2.other W5 (Or.inr (slot_ne (Or.inr (own_w hw 17 rfl)) (Or.inr (own_w hw 19 rfl)) (by decide) (t := .int) (t' := .int) (by decide) (by decide)))
  have Z_5 : n0 ≤ h5.size := Nat.le_trans Z_2 (Keep.of_wr W5).1
  have K_5 : Keep h0 h5 [x0] := K_2.wr W5 (own_i 0 rfl)
  have N5 := Fr.snoc X5 N2 g_x0
  refine own_go T5 m 38 #[rv x0, iv x1, iv x2] [] (st5) ?_
  refine own_retV X5 hx hlk hret (hb hby d1_38) (by decide) (by decide) ?_
  rw [e5]
  exact ⟨rfl, N5, K_5, cf6, cf7, F5⟩
theorem d4_0 : decode prog_25_method_2_code 0 = .ok (.aload_n 0, 1) := by decide +kernel
theorem d4_1 : decode prog_25_method_2_code 1 = .ok (.getfield 22, 3) := by decide +kernel
theorem d4_4 : decode prog_25_method_2_code 4 = .ok (.aload_n 0, 1) := by decide +kernel
theorem d4_5 : decode prog_25_method_2_code 5 = .ok (.getfield 16, 3) := by decide +kernel
theorem d4_8 : decode prog_25_method_2_code 8 = .ok (.isub, 1) := by decide +kernel
theorem d4_9 : decode prog_25_method_2_code 9 = .ok (.ireturn, 1) := by decide +kernel
theorem pf_com_example_bowerbird_bowerbird_core_DocumentSet_size___I : plainFor (⟨"com/example/bowerbird/bowerbird/core/DocumentSet", "size", "()I"⟩ : MethodName) = true := by first | exact plainFor_of_name (by first | (simp [plainName, overriddenIn]; done) | decide +kernel) | exact Jvm.Free.JP.mathPlain rfl (by decide +kernel) | decide +kernel
theorem ef_rm4 (m : MethodId) (q0 : Addr) : entryFrame m #[(.ref q0)] 1 = mkF m 0 #[rv q0] [] := by first | (simp [entryFrame, mkF, argsToLocals, Value.category]; done) | rfl
set_option maxRecDepth 65536 in
set_option maxHeartbeats 40000000 in
theorem rm4 (l : Launch) (Z : State) (a0 : Array Value) (hw : ∀ d ∈ tables_1, d.before a0 Z = true) (ws : List Jvm.Cond) (x0 : Addr) (fs fe : Int32) (h0 : Heap) (F1 : Fld Z h0 x0 "com/example/bowerbird/bowerbird/core/DocumentSet" "start" "I" (.int fs)) (F2 : Fld Z h0 x0 "com/example/bowerbird/bowerbird/core/DocumentSet" "end" "I" (.int fe)) :
    OwnC l Z (⟨"com/example/bowerbird/bowerbird/core/DocumentSet", "size", "()I"⟩ : MethodName) prog_25_method_2_code 1 (some .int) ws ({ frames := 0, cells := 0, slots := 0, locals := 0 } : Room) #[(.ref x0)] h0 (OwnPure (.int (fe - fs)) h0) := by
  refine own_entry pf_com_example_bowerbird_bowerbird_core_DocumentSet_size___I (fun m => ef_rm4 m x0) ?_
  intro p e s m below meth c T0 X0 hC e0
  obtain ⟨hx, hby, hml, hown, hnm, hret, hlk, hZ⟩ := hC
  refine own_go T0 m 1 #[rv x0] [(.ref x0)] (fun t k => XS.aloadN X0.here hx rfl (hb hby d4_0) rfl rfl k) ?_
  obtain ⟨T1, X1, e1, st1⟩ := getF X0 hx hZ hown (host := "") (Or.inl (own_w hw 18 rfl)) Via.refl e0 F2 (g := (mkF m 1 #[rv x0] [(.ref x0)])) rfl rfl (hb hby d4_1)
  refine own_go T1 m 4 #[rv x0] [(.int fe)] (st1) ?_
  refine own_go T1 m 5 #[rv x0] [(.ref x0), (.int fe)] (fun t k => XS.aloadN X1.here hx rfl (hb hby d4_4) rfl rfl k) ?_
  obtain ⟨T2, X2, e2, st2⟩ := getF X1 hx hZ hown (host := "") (Or.inl (own_w hw 16 rfl)) Via.refl e1 F1 (g := (mkF m 5 #[rv x0] [(.ref x0), (.int fe)])) rfl rfl (hb hby d4_5)
  refine own_go T2 m 8 #[rv x0] [(.int fs), (.int fe)] (st2) ?_
  refine own_go T2 m 9 #[rv x0] [(.int (fe - fs))] (fun t k => XS.isub X2.here hx rfl (hb hby d4_8) rfl k) ?_
  refine own_retI X2 hx hlk hret (hb hby d4_9) (by decide) (by decide) ?_
  exact ⟨rfl, e2, rfl⟩
theorem d5_0 : decode prog_25_method_3_code 0 = .ok (.iload_n 1, 1) := by decide +kernel
theorem d5_1 : decode prog_25_method_3_code 1 = .ok (.aload_n 0, 1) := by decide +kernel
theorem d5_2 : decode prog_25_method_3_code 2 = .ok (.getfield 16, 3) := by decide +kernel
theorem d5_5 : decode prog_25_method_3_code 5 = .ok (.if_icmp .lt 15, 3) := by decide +kernel
theorem d5_8 : decode prog_25_method_3_code 8 = .ok (.iload_n 1, 1) := by decide +kernel
theorem d5_9 : decode prog_25_method_3_code 9 = .ok (.aload_n 0, 1) := by decide +kernel
theorem d5_10 : decode prog_25_method_3_code 10 = .ok (.getfield 22, 3) := by decide +kernel
theorem d5_13 : decode prog_25_method_3_code 13 = .ok (.if_icmp .ge 7, 3) := by decide +kernel
theorem d5_16 : decode prog_25_method_3_code 16 = .ok (.iconst 1, 1) := by decide +kernel
theorem d5_17 : decode prog_25_method_3_code 17 = .ok (.goto 4, 3) := by decide +kernel
theorem d5_20 : decode prog_25_method_3_code 20 = .ok (.iconst 0, 1) := by decide +kernel
theorem d5_21 : decode prog_25_method_3_code 21 = .ok (.ireturn, 1) := by decide +kernel
theorem pf_com_example_bowerbird_bowerbird_core_DocumentSet_contains__I_Z : plainFor (⟨"com/example/bowerbird/bowerbird/core/DocumentSet", "contains", "(I)Z"⟩ : MethodName) = true := by first | exact plainFor_of_name (by first | (simp [plainName, overriddenIn]; done) | decide +kernel) | exact Jvm.Free.JP.mathPlain rfl (by decide +kernel) | decide +kernel
theorem ef_rm5 (m : MethodId) (q0 : Addr) (q1 : Int32) : entryFrame m #[(.ref q0), (.int q1)] 2 = mkF m 0 #[rv q0, iv q1] [] := by first | (simp [entryFrame, mkF, argsToLocals, Value.category]; done) | rfl
set_option maxRecDepth 65536 in
set_option maxHeartbeats 40000000 in
theorem rm5 (l : Launch) (Z : State) (a0 : Array Value) (hw : ∀ d ∈ tables_1, d.before a0 Z = true) (ws : List Jvm.Cond) (x0 : Addr) (x1 : Int32) (fs fe : Int32) (h0 : Heap) (F1 : Fld Z h0 x0 "com/example/bowerbird/bowerbird/core/DocumentSet" "start" "I" (.int fs)) (F2 : Fld Z h0 x0 "com/example/bowerbird/bowerbird/core/DocumentSet" "end" "I" (.int fe)) :
    OwnC l Z (⟨"com/example/bowerbird/bowerbird/core/DocumentSet", "contains", "(I)Z"⟩ : MethodName) prog_25_method_3_code 2 (some .boolean) ws ({ frames := 0, cells := 0, slots := 0, locals := 0 } : Room) #[(.ref x0), (.int x1)] h0 (OwnPure (.int (own_in x1 fs fe)) h0) := by
  refine own_entry pf_com_example_bowerbird_bowerbird_core_DocumentSet_contains__I_Z (fun m => ef_rm5 m x0 x1) ?_
  intro p e s m below meth c T0 X0 hC e0
  obtain ⟨hx, hby, hml, hown, hnm, hret, hlk, hZ⟩ := hC
  refine own_go T0 m 1 #[rv x0, iv x1] [(.int x1)] (fun t k => XS.iloadN X0.here hx rfl (hb hby d5_0) rfl k) ?_
  refine own_go T0 m 2 #[rv x0, iv x1] [(.ref x0), (.int x1)] (fun t k => XS.aloadN X0.here hx rfl (hb hby d5_1) rfl rfl k) ?_
  obtain ⟨T1, X1, e1, st1⟩ := getF X0 hx hZ hown (host := "") (Or.inl (own_w hw 16 rfl)) Via.refl e0 F1 (g := (mkF m 2 #[rv x0, iv x1] [(.ref x0), (.int x1)])) rfl rfl (hb hby d5_2)
  refine own_go T1 m 5 #[rv x0, iv x1] [(.int fs), (.int x1)] (st1) ?_
  by_cases hc5_2 : x1 < fs
  · refine own_go T1 m 20 #[rv x0, iv x1] [] (fun t k => XS.icmpYes X1.here hx rfl (pc0 := 5) (pc' := 20) rfl (hb hby d5_5) rfl (tlt hc5_2).1 (by decide) (by decide) k) ?_
    refine own_go T1 m 21 #[rv x0, iv x1] [(.int 0)] (fun t k => XS.iconst X1.here hx rfl (hb hby d5_20) k) ?_
    refine own_retZ X1 hx hlk hret (by decide) (hb hby d5_21) (by decide) (by decide) ?_
    refine ⟨?_, e1, rfl⟩
    simp [own_in, hc5_2]
  · refine own_go T1 m 8 #[rv x0, iv x1] [] (fun t k => XS.icmpNo X1.here hx rfl (hb hby d5_5) rfl (flt hc5_2).1 k) ?_
    refine own_go T1 m 9 #[rv x0, iv x1] [(.int x1)] (fun t k => XS.iloadN X1.here hx rfl (hb hby d5_8) rfl k) ?_
    refine own_go T1 m 10 #[rv x0, iv x1] [(.ref x0), (.int x1)] (fun t k => XS.aloadN X1.here hx rfl (hb hby d5_9) rfl rfl k) ?_
    obtain ⟨T3, X3, e3, st3⟩ := getF X1 hx hZ hown (host := "") (Or.inl (own_w hw 18 rfl)) Via.refl e1 F2 (g := (mkF m 10 #[rv x0, iv x1] [(.ref x0), (.int x1)])) rfl rfl (hb hby d5_10)
    refine own_go T3 m 13 #[rv x0, iv x1] [(.int fe), (.int x1)] (st3) ?_
    by_cases hc13_4 : x1 < fe
    · refine own_go T3 m 16 #[rv x0, iv x1] [] (fun t k => XS.icmpNo X3.here hx rfl (hb hby d5_13) rfl (tlt hc13_4).2.1 k) ?_
      refine own_go T3 m 17 #[rv x0, iv x1] [(.int 1)] (fun t k => XS.iconst X3.here hx rfl (hb hby d5_16) k) ?_
      refine own_go T3 m 21 #[rv x0, iv x1] [(.int 1)] (fun t k => XS.goto X3.here hx rfl (pc0 := 17) (pc' := 21) rfl (hb hby d5_17) (by decide) (by decide) k) ?_
      refine own_retZ X3 hx hlk hret (by decide) (hb hby d5_21) (by decide) (by decide) ?_
      refine ⟨?_, e3, rfl⟩
      simp [own_in, hc5_2, hc13_4]
    · refine own_go T3 m 20 #[rv x0, iv x1] [] (fun t k => XS.icmpYes X3.here hx rfl (pc0 := 13) (pc' := 20) rfl (hb hby d5_13) rfl (flt hc13_4).2.1 (by decide) (by decide) k) ?_
      refine own_go T3 m 21 #[rv x0, iv x1] [(.int 0)] (fun t k => XS.iconst X3.here hx rfl (hb hby d5_20) k) ?_
      refine own_retZ X3 hx hlk hret (by decide) (hb hby d5_21) (by decide) (by decide) ?_
      refine ⟨?_, e3, rfl⟩
      simp [own_in, hc5_2, hc13_4]
theorem d6_0 : decode jdk_29_method_70_code 0 = .ok (.lload_n 0, 1) := by decide +kernel
theorem d6_1 : decode jdk_29_method_70_code 1 = .ok (.lload_n 2, 1) := by decide +kernel
theorem d6_2 : decode jdk_29_method_70_code 2 = .ok (.lcmp, 1) := by decide +kernel
theorem d6_3 : decode jdk_29_method_70_code 3 = .ok (.ifCond .gt 7, 3) := by decide +kernel
theorem d6_6 : decode jdk_29_method_70_code 6 = .ok (.lload_n 0, 1) := by decide +kernel
theorem d6_7 : decode jdk_29_method_70_code 7 = .ok (.goto 4, 3) := by decide +kernel
theorem d6_10 : decode jdk_29_method_70_code 10 = .ok (.lload_n 2, 1) := by decide +kernel
theorem d6_11 : decode jdk_29_method_70_code 11 = .ok (.lreturn, 1) := by decide +kernel
theorem pf_java_lang_Math_min__JJ_J : plainFor (⟨"java/lang/Math", "min", "(JJ)J"⟩ : MethodName) = true := by first | exact plainFor_of_name (by first | (simp [plainName, overriddenIn]; done) | decide +kernel) | exact Jvm.Free.JP.mathPlain rfl (by decide +kernel) | decide +kernel
theorem ef_rm6 (m : MethodId) (q0 : Int64) (q1 : Int64) : entryFrame m #[(.long q0), (.long q1)] 4 = mkF m 0 #[.val (.long q0), .second, .val (.long q1), .second] [] := by first | (simp [entryFrame, mkF, argsToLocals, Value.category]; done) | rfl
set_option maxRecDepth 65536 in
set_option maxHeartbeats 40000000 in
theorem rm6 (l : Launch) (Z : State) (a0 : Array Value) (hw : ∀ d ∈ tables_1, d.before a0 Z = true) (ws : List Jvm.Cond) (x0 : Int64) (x1 : Int64) (h0 : Heap) :
    OwnC l Z (⟨"java/lang/Math", "min", "(JJ)J"⟩ : MethodName) jdk_29_method_70_code 4 (some .long) ws ({ frames := 0, cells := 0, slots := 0, locals := 0 } : Room) #[(.long x0), (.long x1)] h0 (OwnPure (.long (own_min x0 x1)) h0) := by
  refine own_entry pf_java_lang_Math_min__JJ_J (fun m => ef_rm6 m x0 x1) ?_
  intro p e s m below meth c T0 X0 hC e0
  obtain ⟨hx, hby, hml, hown, hnm, hret, hlk, hZ⟩ := hC
  refine own_go T0 m 1 #[.val (.long x0), .second, .val (.long x1), .second] [(.long x0)] (fun t k => XS.lloadN X0.here hx rfl (hb hby d6_0) rfl k) ?_
  refine own_go T0 m 2 #[.val (.long x0), .second, .val (.long x1), .second] [(.long x1), (.long x0)] (fun t k => XS.lloadN X0.here hx rfl (hb hby d6_1) rfl k) ?_
  refine own_go T0 m 3 #[.val (.long x0), .second, .val (.long x1), .second] [(.int (lcmpW x0 x1))] (fun t k => XS.lcmp X0.here hx rfl (hb hby d6_2) rfl k) ?_
  by_cases hc3_1 : x1 < x0
  · refine own_go T0 m 10 #[.val (.long x0), .second, .val (.long x1), .second] [] (fun t k => XS.ifYes X0.here hx rfl (pc0 := 3) (pc' := 10) rfl (hb hby d6_3) rfl ((if0 _ _).trans (tlt ((lw_gt x0 x1).mpr hc3_1)).2.2.1) (by decide) (by decide) k) ?_
    refine own_go T0 m 11 #[.val (.long x0), .second, .val (.long x1), .second] [(.long x1)] (fun t k => XS.lloadN X0.here hx rfl (hb hby d6_10) rfl k) ?_
    refine own_retJ X0 hx hlk hret (hb hby d6_11) (by decide) (by decide) ?_
    refine ⟨?_, e0, rfl⟩
    simp [own_min, hc3_1]
  · refine own_go T0 m 6 #[.val (.long x0), .second, .val (.long x1), .second] [] (fun t k => XS.ifNo X0.here hx rfl (hb hby d6_3) rfl ((if0 _ _).trans (flt (mt (lw_gt x0 x1).mp hc3_1)).2.2.1) k) ?_
    refine own_go T0 m 7 #[.val (.long x0), .second, .val (.long x1), .second] [(.long x0)] (fun t k => XS.lloadN X0.here hx rfl (hb hby d6_6) rfl k) ?_
    refine own_go T0 m 11 #[.val (.long x0), .second, .val (.long x1), .second] [(.long x0)] (fun t k => XS.goto X0.here hx rfl (pc0 := 7) (pc' := 11) rfl (hb hby d6_7) (by decide) (by decide) k) ?_
    refine own_retJ X0 hx hlk hret (hb hby d6_11) (by decide) (by decide) ?_
    refine ⟨?_, e0, rfl⟩
    simp [own_min, hc3_1]
theorem pf_com_example_bowerbird_bowerbird_core_DocumentSetContainsPinLaw_law__IIII_Z : plainFor (⟨"com/example/bowerbird/bowerbird/core/DocumentSetContainsPinLaw", "law", "(IIII)Z"⟩ : MethodName) = true := by first | exact plainFor_of_name (by first | (simp [plainName, overriddenIn]; done) | decide +kernel) | exact Jvm.Free.JP.mathPlain rfl (by decide +kernel) | decide +kernel
theorem ef_rm0 (m : MethodId) (q0 : Int32) (q1 : Int32) (q2 : Int32) (q3 : Int32) : entryFrame m #[(.int q0), (.int q1), (.int q2), (.int q3)] maxLocals = mkF m 0 #[iv q0, iv q1, iv q2, iv q3, .unset, .unset, .unset, .unset, .unset, .unset, .unset, .unset, .unset, .unset, .unset, .unset] [] := by first | (simp [entryFrame, mkF, argsToLocals, Value.category, maxLocals]; done) | rfl
set_option maxRecDepth 65536 in
set_option maxHeartbeats 40000000 in
theorem rm0 (l : Launch) (Z : State) (a0 : Array Value) (hw : ∀ d ∈ tables_1, d.before a0 Z = true) (ws : List Jvm.Cond) (x0 : Int32) (x1 : Int32) (x2 : Int32) (x3 : Int32) (h0 : Heap) (n0 : Nat) (Z0 : n0 ≤ h0.size) :
    OwnC l Z x code maxLocals ret ws room_1 #[(.int x0), (.int x1), (.int x2), (.int x3)] h0 (fun v h L => v = some (.int 1) ∧ Fr n0 L) := by
  refine own_entry pf_com_example_bowerbird_bowerbird_core_DocumentSetContainsPinLaw_law__IIII_Z (fun m => ef_rm0 m x0 x1 x2 x3) ?_
  intro p e s m below meth c T0 X0 hC e0
  obtain ⟨hx, hby, hml, hown, hnm, hret, hlk, hZ⟩ := hC
  have hml : c.maxLocals = 16 := hml
  have N0 := Fr.nil n0
  refine own_go T0 m 1 #[iv x0, iv x1, iv x2, iv x3, .unset, .unset, .unset, .unset, .unset, .unset, .unset, .unset, .unset, .unset, .unset, .unset] [(.int x0)] (fun t k => XS.iloadN X0.here hx rfl (hb hby at_0) rfl k) ?_
  refine own_go T0 m 3 #[iv x0, iv x1, iv x2, iv x3, .unset, .unset, .unset, .unset, .unset, .unset, .unset, .unset, .unset, .unset, .unset, .unset] [(.int 2147483647), (.int x0)] (X0.ldcInt hx hown (mvT hZ (own_w hw 0 rfl)) (g := (mkF m 1 #[iv x0, iv x1, iv x2, iv x3, .unset, .unset, .unset, .unset, .unset, .unset, .unset, .unset, .unset, .unset, .unset, .unset] [(.int x0)])) rfl (hb hby at_1)) ?_
  refine own_go T0 m 4 #[iv x0, iv x1, iv x2, iv x3, .unset, .unset, .unset, .unset, .unset, .unset, .unset, .unset, .unset, .unset, .unset, .unset] [(.int (x0 &&& (2147483647 : Int32)))] (fun t k => XS.iand X0.here hx rfl (hb hby at_3) rfl k) ?_
  refine own_go T0 m 6 #[iv x0, iv x1, iv x2, iv x3, iv (x0 &&& (2147483647 : Int32)), .unset, .unset, .unset, .unset, .unset, .unset, .unset, .unset, .unset, .unset, .unset] [] (fun t k => XS.istore X0.here hx rfl (hb hby at_4) rfl rfl k) ?_
  have hs1 := own_s0 x0
  obtain ⟨s4, hd_s4⟩ : ∃ z, z = (x0 &&& (2147483647 : Int32)) := ⟨_, rfl⟩
  rw [← hd_s4] at hs1 ⊢
  refine own_go T0 m 9 #[iv x0, iv x1, iv x2, iv x3, iv s4, .unset, .unset, .unset, .unset, .unset, .unset, .unset, .unset, .unset, .unset, .unset] [(.long 2147483647)] (X0.ldc2Long hx hown (mvT hZ (own_w hw 1 rfl)) (g := (mkF m 6 #[iv x0, iv x1, iv x2, iv x3, iv s4, .unset, .unset, .unset, .unset, .unset, .unset, .unset, .unset, .unset, .unset, .unset] [])) rfl (hb hby at_6)) ?_
  refine own_go T0 m 11 #[iv x0, iv x1, iv x2, iv x3, iv s4, .unset, .unset, .unset, .unset, .unset, .unset, .unset, .unset, .unset, .unset, .unset] [(.int s4), (.long 2147483647)] (fun t k => XS.iload X0.here hx rfl (hb hby at_9) rfl k) ?_
  refine own_go T0 m 12 #[iv x0, iv x1, iv x2, iv x3, iv s4, .unset, .unset, .unset, .unset, .unset, .unset, .unset, .unset, .unset, .unset, .unset] [(.long s4.toInt64), (.long 2147483647)] (fun t k => XS.i2l X0.here hx rfl (hb hby at_11) rfl k) ?_
  refine own_go T0 m 13 #[iv x0, iv x1, iv x2, iv x3, iv s4, .unset, .unset, .unset, .unset, .unset, .unset, .unset, .unset, .unset, .unset, .unset] [(.long ((2147483647 : Int64) - s4.toInt64))] (fun t k => XS.lsub X0.here hx rfl (hb hby at_12) rfl k) ?_
  refine own_go T0 m 14 #[iv x0, iv x1, iv x2, iv x3, iv s4, .unset, .unset, .unset, .unset, .unset, .unset, .unset, .unset, .unset, .unset, .unset] [(.long 1), (.long ((2147483647 : Int64) - s4.toInt64))] (fun t k => XS.lconst X0.here hx rfl (hb hby at_13) k) ?_
  refine own_go T0 m 15 #[iv x0, iv x1, iv x2, iv x3, iv s4, .unset, .unset, .unset, .unset, .unset, .unset, .unset, .unset, .unset, .unset, .unset] [(.long (((2147483647 : Int64) - s4.toInt64) + (1 : Int64)))] (fun t k => XS.ladd X0.here hx rfl (hb hby at_14) rfl k) ?_
  refine own_go T0 m 17 #[iv x0, iv x1, iv x2, iv x3, iv s4, .val (.long (((2147483647 : Int64) - s4.toInt64) + (1 : Int64))), .second, .unset, .unset, .unset, .unset, .unset, .unset, .unset, .unset, .unset] [] (fun t k => XS.lstore X0.here hx rfl (hb hby at_15) rfl rfl k) ?_
  refine own_go T0 m 18 #[iv x0, iv x1, iv x2, iv x3, iv s4, .val (.long (((2147483647 : Int64) - s4.toInt64) + (1 : Int64))), .second, .unset, .unset, .unset, .unset, .unset, .unset, .unset, .unset, .unset] [(.int x2)] (fun t k => XS.iloadN X0.here hx rfl (hb hby at_17) rfl k) ?_
  refine own_go T0 m 19 #[iv x0, iv x1, iv x2, iv x3, iv s4, .val (.long (((2147483647 : Int64) - s4.toInt64) + (1 : Int64))), .second, .unset, .unset, .unset, .unset, .unset, .unset, .unset, .unset, .unset] [(.int 3), (.int x2)] (fun t k => XS.iconst X0.here hx rfl (hb hby at_18) k) ?_
  refine own_go T0 m 20 #[iv x0, iv x1, iv x2, iv x3, iv s4, .val (.long (((2147483647 : Int64) - s4.toInt64) + (1 : Int64))), .second, .unset, .unset, .unset, .unset, .unset, .unset, .unset, .unset, .unset] [(.int ((x2.toUInt32 >>> ((3 : Int32) &&& 31).toUInt32).toInt32))] (fun t k => XS.iushr X0.here hx rfl (hb hby at_19) rfl k) ?_
  refine own_go T0 m 21 #[iv x0, iv x1, iv x2, iv x3, iv s4, .val (.long (((2147483647 : Int64) - s4.toInt64) + (1 : Int64))), .second, .unset, .unset, .unset, .unset, .unset, .unset, .unset, .unset, .unset] [(.int 1), (.int ((x2.toUInt32 >>> ((3 : Int32) &&& 31).toUInt32).toInt32))] (fun t k => XS.iconst X0.here hx rfl (hb hby at_20) k) ?_
  refine own_go T0 m 22 #[iv x0, iv x1, iv x2, iv x3, iv s4, .val (.long (((2147483647 : Int64) - s4.toInt64) + (1 : Int64))), .second, .unset, .unset, .unset, .unset, .unset, .unset, .unset, .unset, .unset] [(.int (((x2.toUInt32 >>> ((3 : Int32) &&& 31).toUInt32).toInt32) &&& (1 : Int32)))] (fun t k => XS.iand X0.here hx rfl (hb hby at_21) rfl k) ?_
  have seg58 : ∀ (Tj1 : State) (Lj1 : List Loc) (eL : Int64), (Stand p l e room_1 s m #[(.int x0), (.int x1), (.int x2), (.int x3)] below meth c Tj1 Lj1 0 0) → (Tj1.heap = h0) → (Fr n0 Lj1) → (s4.toInt ≤ eL.toInt) → (eL.toInt < 2147483648) → OwnG p.tables e below s (fun v h L => v = some (.int 1) ∧ Fr n0 L) room_1.cells room_1.slots (Tj1.setTop (mkF m 58 #[iv x0, iv x1, iv x2, iv x3, iv s4, .val (.long (((2147483647 : Int64) - s4.toInt64) + (1 : Int64))), .second, .val (.long eL), .second, .unset, .unset, .unset, .unset, .unset, .unset, .unset] [])) := by
    intro Tj1 Lj1 eL Xj1 ej1 Nj1 hL1 hL2
    refine own_go Tj1 m 60 #[iv x0, iv x1, iv x2, iv x3, iv s4, .val (.long (((2147483647 : Int64) - s4.toInt64) + (1 : Int64))), .second, .val (.long eL), .second, .unset, .unset, .unset, .unset, .unset, .unset, .unset] [(.long eL)] (fun t k => XS.lload Xj1.here hx rfl (hb hby at_58) rfl k) ?_
    refine own_go Tj1 m 61 #[iv x0, iv x1, iv x2, iv x3, iv s4, .val (.long (((2147483647 : Int64) - s4.toInt64) + (1 : Int64))), .second, .val (.long eL), .second, .unset, .unset, .unset, .unset, .unset, .unset, .unset] [(.int eL.toInt32)] (fun t k => XS.l2i Xj1.here hx rfl (hb hby at_60) rfl k) ?_
    refine own_go Tj1 m 63 #[iv x0, iv x1, iv x2, iv x3, iv s4, .val (.long (((2147483647 : Int64) - s4.toInt64) + (1 : Int64))), .second, .val (.long eL), .second, iv eL.toInt32, .unset, .unset, .unset, .unset, .unset, .unset] [] (fun t k => XS.istore Xj1.here hx rfl (hb hby at_61) rfl rfl k) ?_
    have hs0 := own_nn s4 hs1
    obtain ⟨he1, he0⟩ := own_ei s4 eL hs1 hL1 hL2
    obtain ⟨ee9, hd_ee9⟩ : ∃ z, z = eL.toInt32 := ⟨_, rfl⟩
    rw [← hd_ee9] at he1 he0 ⊢
    obtain ⟨T2, h2, X2, e2, E2, A2, D2, -, st2⟩ := newO Xj1 hx hZ hown (own_w hw 2 rfl) (own_w hw 3 rfl) (own_w hw 4 rfl) ej1 (g := (mkF m 63 #[iv x0, iv x1, iv x2, iv x3, iv s4, .val (.long (((2147483647 : Int64) - s4.toInt64) + (1 : Int64))), .second, .val (.long eL), .second, iv ee9, .unset, .unset, .unset, .unset, .unset, .unset] [])) rfl (hb hby at_63) (by decide) (by decide)
    obtain ⟨b2, g2⟩ : ∃ z, z = h0.size := ⟨_, rfl⟩
    rw [← g2] at A2 D2 st2
    have g_b2 : n0 ≤ b2 := Nat.le_trans Z0 (Nat.le_of_eq g2.symm)
    have Z_2 : n0 ≤ h2.size := Nat.le_trans Z0 E2.1
    have F_start_2 : Fld Z h2 b2 "com/example/bowerbird/bowerbird/core/DocumentSet" "start" "I" (.int 0) := D2 (Or.inr (own_w hw 17 rfl)) (ty := .int) (by decide)
    have F_end_2 : Fld Z h2 b2 "com/example/bowerbird/bowerbird/core/DocumentSet" "end" "I" (.int 0) := D2 (Or.inr (own_w hw 19 rfl)) (ty := .int) (by decide)
    refine own_go T2 m 66 #[iv x0, iv x1, iv x2, iv x3, iv s4, .val (.long (((2147483647 : Int64) - s4.toInt64) + (1 : Int64))), .second, .val (.long eL), .second, iv ee9, .unset, .unset, .unset, .unset, .unset, .unset] [(.ref b2)] (st2) ?_
    refine own_go T2 m 67 #[iv x0, iv x1, iv x2, iv x3, iv s4, .val (.long (((2147483647 : Int64) - s4.toInt64) + (1 : Int64))), .second, .val (.long eL), .second, iv ee9, .unset, .unset, .unset, .unset, .unset, .unset] [(.ref b2), (.ref b2)] (fun t k => XS.dup X2.here hx rfl (hb hby at_66) rfl rfl k) ?_
    refine own_go T2 m 69 #[iv x0, iv x1, iv x2, iv x3, iv s4, .val (.long (((2147483647 : Int64) - s4.toInt64) + (1 : Int64))), .second, .val (.long eL), .second, iv ee9, .unset, .unset, .unset, .unset, .unset, .unset] [(.int s4), (.ref b2), (.ref b2)] (fun t k => XS.iload X2.here hx rfl (hb hby at_67) rfl k) ?_
    refine own_go T2 m 71 #[iv x0, iv x1, iv x2, iv x3, iv s4, .val (.long (((2147483647 : Int64) - s4.toInt64) + (1 : Int64))), .second, .val (.long eL), .second, iv ee9, .unset, .unset, .unset, .unset, .unset, .unset] [(.int ee9), (.int s4), (.ref b2), (.ref b2)] (fun t k => XS.iload X2.here hx rfl (hb hby at_69) rfl k) ?_
    obtain ⟨_, T3, L3, X3, ⟨rfl, Nq3, Kq3, Aq3, Fq3_0, Fq3_1⟩, st3⟩ := own_init X2 hx hZ (y := (⟨"com/example/bowerbird/bowerbird/core/DocumentSet", "<init>", "(II)V"⟩ : MethodName)) rfl hown (own_w hw 5 rfl) (own_w hw 6 rfl) (own_w hw 4 rfl) (own_w hw 7 rfl) (by decide) (rm1 l Z a0 hw [] b2 s4 ee9 h2 n0 Z_2 A2 g_b2 F_start_2 F_end_2 hs0 he0) e2 (a := b2) 1 (argsL := [(.int s4), (.int ee9)]) (rest := [(.ref b2)]) (Ls := #[iv x0, iv x1, iv x2, iv x3, iv s4, .val (.long (((2147483647 : Int64) - s4.toInt64) + (1 : Int64))), .second, .val (.long eL), .second, iv ee9, .unset, .unset, .unset, .unset, .unset, .unset]) (by rw [hml]; rfl) (lenOf pd__II_V rfl) rfl rfl (Nat.le_of_eq rfl) (hb hby at_71) (by decide) (by decide) (by decide) (by decide)
    have N3 := Fr.app Nj1 Nq3
    have cf4 := A2.keep Kq3
    have Z_3 : n0 ≤ T3.heap.size := Nat.le_trans Z_2 Kq3.1
    refine own_go T3 m 74 #[iv x0, iv x1, iv x2, iv x3, iv s4, .val (.long (((2147483647 : Int64) - s4.toInt64) + (1 : Int64))), .second, .val (.long eL), .second, iv ee9, .unset, .unset, .unset, .unset, .unset, .unset] [(.ref b2)] (st3) ?_
    refine own_go T3 m 76 #[iv x0, iv x1, iv x2, iv x3, iv s4, .val (.long (((2147483647 : Int64) - s4.toInt64) + (1 : Int64))), .second, .val (.long eL), .second, iv ee9, rv b2, .unset, .unset, .unset, .unset, .unset] [] (fun t k => XS.astore X3.here hx rfl (hb hby at_74) rfl rfl rfl k) ?_
    refine own_go T3 m 77 #[iv x0, iv x1, iv x2, iv x3, iv s4, .val (.long (((2147483647 : Int64) - s4.toInt64) + (1 : Int64))), .second, .val (.long eL), .second, iv ee9, rv b2, .unset, .unset, .unset, .unset, .unset] [(.int x2)] (fun t k => XS.iloadN X3.here hx rfl (hb hby at_76) rfl k) ?_
    refine own_go T3 m 79 #[iv x0, iv x1, iv x2, iv x3, iv s4, .val (.long (((2147483647 : Int64) - s4.toInt64) + (1 : Int64))), .second, .val (.long eL), .second, iv ee9, rv b2, .unset, .unset, .unset, .unset, .unset] [(.int 7), (.int x2)] (fun t k => XS.bipush X3.here hx rfl (hb hby at_77) k) ?_
    refine own_go T3 m 80 #[iv x0, iv x1, iv x2, iv x3, iv s4, .val (.long (((2147483647 : Int64) - s4.toInt64) + (1 : Int64))), .second, .val (.long eL), .second, iv ee9, rv b2, .unset, .unset, .unset, .unset, .unset] [(.int (x2 &&& (7 : Int32)))] (fun t k => XS.iand X3.here hx rfl (hb hby at_79) rfl k) ?_
    refine own_go T3 m 82 #[iv x0, iv x1, iv x2, iv x3, iv s4, .val (.long (((2147483647 : Int64) - s4.toInt64) + (1 : Int64))), .second, .val (.long eL), .second, iv ee9, rv b2, iv (x2 &&& (7 : Int32)), .unset, .unset, .unset, .unset] [] (fun t k => XS.istore X3.here hx rfl (hb hby at_80) rfl rfl k) ?_
    refine own_go T3 m 84 #[iv x0, iv x1, iv x2, iv x3, iv s4, .val (.long (((2147483647 : Int64) - s4.toInt64) + (1 : Int64))), .second, .val (.long eL), .second, iv ee9, rv b2, iv (x2 &&& (7 : Int32)), .unset, .unset, .unset, .unset] [(.int (x2 &&& (7 : Int32)))] (fun t k => XS.iload X3.here hx rfl (hb hby at_82) rfl k) ?_
    have seg158 : ∀ (q12 : Int32), OwnG p.tables e below s (fun v h L => v = some (.int 1) ∧ Fr n0 L) room_1.cells room_1.slots (T3.setTop (mkF m 158 #[iv x0, iv x1, iv x2, iv x3, iv s4, .val (.long (((2147483647 : Int64) - s4.toInt64) + (1 : Int64))), .second, .val (.long eL), .second, iv ee9, rv b2, iv (x2 &&& (7 : Int32)), iv q12, .unset, .unset, .unset] [])) := by
      intro q12
      refine own_go T3 m 160 #[iv x0, iv x1, iv x2, iv x3, iv s4, .val (.long (((2147483647 : Int64) - s4.toInt64) + (1 : Int64))), .second, .val (.long eL), .second, iv ee9, rv b2, iv (x2 &&& (7 : Int32)), iv q12, .unset, .unset, .unset] [(.int q12)] (fun t k => XS.iload X3.here hx rfl (hb hby at_158) rfl k) ?_
      refine own_go T3 m 161 #[iv x0, iv x1, iv x2, iv x3, iv s4, .val (.long (((2147483647 : Int64) - s4.toInt64) + (1 : Int64))), .second, .val (.long eL), .second, iv ee9, rv b2, iv (x2 &&& (7 : Int32)), iv q12, .unset, .unset, .unset] [(.long q12.toInt64)] (fun t k => XS.i2l X3.here hx rfl (hb hby at_160) rfl k) ?_
      refine own_go T3 m 163 #[iv x0, iv x1, iv x2, iv x3, iv s4, .val (.long (((2147483647 : Int64) - s4.toInt64) + (1 : Int64))), .second, .val (.long eL), .second, iv ee9, rv b2, iv (x2 &&& (7 : Int32)), iv q12, .unset, .unset, .unset] [(.int s4), (.long q12.toInt64)] (fun t k => XS.iload X3.here hx rfl (hb hby at_161) rfl k) ?_
      refine own_go T3 m 164 #[iv x0, iv x1, iv x2, iv x3, iv s4, .val (.long (((2147483647 : Int64) - s4.toInt64) + (1 : Int64))), .second, .val (.long eL), .second, iv ee9, rv b2, iv (x2 &&& (7 : Int32)), iv q12, .unset, .unset, .unset] [(.long s4.toInt64), (.long q12.toInt64)] (fun t k => XS.i2l X3.here hx rfl (hb hby at_163) rfl k) ?_
      refine own_go T3 m 165 #[iv x0, iv x1, iv x2, iv x3, iv s4, .val (.long (((2147483647 : Int64) - s4.toInt64) + (1 : Int64))), .second, .val (.long eL), .second, iv ee9, rv b2, iv (x2 &&& (7 : Int32)), iv q12, .unset, .unset, .unset] [(.long (q12.toInt64 - s4.toInt64))] (fun t k => XS.lsub X3.here hx rfl (hb hby at_164) rfl k) ?_
      refine own_go T3 m 167 #[iv x0, iv x1, iv x2, iv x3, iv s4, .val (.long (((2147483647 : Int64) - s4.toInt64) + (1 : Int64))), .second, .val (.long eL), .second, iv ee9, rv b2, iv (x2 &&& (7 : Int32)), iv q12, .val (.long (q12.toInt64 - s4.toInt64)), .second, .unset] [] (fun t k => XS.lstore X3.here hx rfl (hb hby at_165) rfl rfl k) ?_
      refine own_go T3 m 169 #[iv x0, iv x1, iv x2, iv x3, iv s4, .val (.long (((2147483647 : Int64) - s4.toInt64) + (1 : Int64))), .second, .val (.long eL), .second, iv ee9, rv b2, iv (x2 &&& (7 : Int32)), iv q12, .val (.long (q12.toInt64 - s4.toInt64)), .second, .unset] [(.long (q12.toInt64 - s4.toInt64))] (fun t k => XS.lload X3.here hx rfl (hb hby at_167) rfl k) ?_
      refine own_go T3 m 170 #[iv x0, iv x1, iv x2, iv x3, iv s4, .val (.long (((2147483647 : Int64) - s4.toInt64) + (1 : Int64))), .second, .val (.long eL), .second, iv ee9, rv b2, iv (x2 &&& (7 : Int32)), iv q12, .val (.long (q12.toInt64 - s4.toInt64)), .second, .unset] [(.long 0), (.long (q12.toInt64 - s4.toInt64))] (fun t k => XS.lconst X3.here hx rfl (hb hby at_169) k) ?_
      refine own_go T3 m 171 #[iv x0, iv x1, iv x2, iv x3, iv s4, .val (.long (((2147483647 : Int64) - s4.toInt64) + (1 : Int64))), .second, .val (.long eL), .second, iv ee9, rv b2, iv (x2 &&& (7 : Int32)), iv q12, .val (.long (q12.toInt64 - s4.toInt64)), .second, .unset] [(.int (lcmpW (q12.toInt64 - s4.toInt64) (0 : Int64)))] (fun t k => XS.lcmp X3.here hx rfl (hb hby at_170) rfl k) ?_
      by_cases hc171_6 : (q12.toInt64 - s4.toInt64) < (0 : Int64)
      · refine own_go T3 m 190 #[iv x0, iv x1, iv x2, iv x3, iv s4, .val (.long (((2147483647 : Int64) - s4.toInt64) + (1 : Int64))), .second, .val (.long eL), .second, iv ee9, rv b2, iv (x2 &&& (7 : Int32)), iv q12, .val (.long (q12.toInt64 - s4.toInt64)), .second, .unset] [] (fun t k => XS.ifYes X3.here hx rfl (pc0 := 171) (pc' := 190) rfl (hb hby at_171) rfl ((if0 _ _).trans (tlt ((lw_lt (q12.toInt64 - s4.toInt64) (0 : Int64)).mpr hc171_6)).1) (by decide) (by decide) k) ?_
        refine own_go T3 m 191 #[iv x0, iv x1, iv x2, iv x3, iv s4, .val (.long (((2147483647 : Int64) - s4.toInt64) + (1 : Int64))), .second, .val (.long eL), .second, iv ee9, rv b2, iv (x2 &&& (7 : Int32)), iv q12, .val (.long (q12.toInt64 - s4.toInt64)), .second, .unset] [(.int 0)] (fun t k => XS.iconst X3.here hx rfl (hb hby at_190) k) ?_
        refine own_go T3 m 193 #[iv x0, iv x1, iv x2, iv x3, iv s4, .val (.long (((2147483647 : Int64) - s4.toInt64) + (1 : Int64))), .second, .val (.long eL), .second, iv ee9, rv b2, iv (x2 &&& (7 : Int32)), iv q12, .val (.long (q12.toInt64 - s4.toInt64)), .second, iv 0] [] (fun t k => XS.istore X3.here hx rfl (hb hby at_191) rfl rfl k) ?_
        refine own_go T3 m 195 #[iv x0, iv x1, iv x2, iv x3, iv s4, .val (.long (((2147483647 : Int64) - s4.toInt64) + (1 : Int64))), .second, .val (.long eL), .second, iv ee9, rv b2, iv (x2 &&& (7 : Int32)), iv q12, .val (.long (q12.toInt64 - s4.toInt64)), .second, iv 0] [(.ref b2)] (fun t k => XS.aload X3.here hx rfl (hb hby at_193) rfl rfl k) ?_
        refine own_go T3 m 197 #[iv x0, iv x1, iv x2, iv x3, iv s4, .val (.long (((2147483647 : Int64) - s4.toInt64) + (1 : Int64))), .second, .val (.long eL), .second, iv ee9, rv b2, iv (x2 &&& (7 : Int32)), iv q12, .val (.long (q12.toInt64 - s4.toInt64)), .second, iv 0] [(.int q12), (.ref b2)] (fun t k => XS.iload X3.here hx rfl (hb hby at_195) rfl k) ?_
        obtain ⟨_, T7, L7, X7, ⟨rfl, e7, rfl⟩, st7⟩ := own_virtual X3 hx hZ (y := (⟨"com/example/bowerbird/bowerbird/core/DocumentSet", "contains", "(I)Z"⟩ : MethodName)) (z := (⟨"com/example/bowerbird/bowerbird/core/DocumentSet", "contains", "(I)Z"⟩ : MethodName)) hown (own_w hw 25 rfl) (own_w hw 26 rfl) (notFace_of_selects (args := #[]) (mvT hZ (own_w hw 28 rfl))) (own_w hw 28 rfl) (own_w hw 27 rfl) (own_w hw 4 rfl) (own_w hw 29 rfl) (by decide) (rm5 l Z a0 hw [] b2 q12 s4 ee9 T3.heap Fq3_0 Fq3_1) rfl Aq3 0 (argsL := [(.int q12)]) (rest := []) (Ls := #[iv x0, iv x1, iv x2, iv x3, iv s4, .val (.long (((2147483647 : Int64) - s4.toInt64) + (1 : Int64))), .second, .val (.long eL), .second, iv ee9, rv b2, iv (x2 &&& (7 : Int32)), iv q12, .val (.long (q12.toInt64 - s4.toInt64)), .second, iv 0]) (by rw [hml]; rfl) (lenOf pd__I_Z rfl) rfl rfl (Nat.le_of_eq rfl) (hb hby at_197) (by decide) (by decide) (by decide) (by decide)
        replace X7 := own_nil X7
        refine own_go T7 m 200 #[iv x0, iv x1, iv x2, iv x3, iv s4, .val (.long (((2147483647 : Int64) - s4.toInt64) + (1 : Int64))), .second, .val (.long eL), .second, iv ee9, rv b2, iv (x2 &&& (7 : Int32)), iv q12, .val (.long (q12.toInt64 - s4.toInt64)), .second, iv 0] [(.int (own_in q12 s4 ee9))] (st7) ?_
        rw [show (own_in q12 s4 ee9) = (0 : Int32) from own_A q12 s4 ee9 hc171_6]
        refine own_go T7 m 202 #[iv x0, iv x1, iv x2, iv x3, iv s4, .val (.long (((2147483647 : Int64) - s4.toInt64) + (1 : Int64))), .second, .val (.long eL), .second, iv ee9, rv b2, iv (x2 &&& (7 : Int32)), iv q12, .val (.long (q12.toInt64 - s4.toInt64)), .second, iv 0] [(.int 0), (.int 0)] (fun t k => XS.iload X7.here hx rfl (hb hby at_200) rfl k) ?_
        refine own_go T7 m 205 #[iv x0, iv x1, iv x2, iv x3, iv s4, .val (.long (((2147483647 : Int64) - s4.toInt64) + (1 : Int64))), .second, .val (.long eL), .second, iv ee9, rv b2, iv (x2 &&& (7 : Int32)), iv q12, .val (.long (q12.toInt64 - s4.toInt64)), .second, iv 0] [] (fun t k => XS.icmpNo X7.here hx rfl (hb hby at_202) rfl (teq (by decide)).2 k) ?_
        refine own_go T7 m 206 #[iv x0, iv x1, iv x2, iv x3, iv s4, .val (.long (((2147483647 : Int64) - s4.toInt64) + (1 : Int64))), .second, .val (.long eL), .second, iv ee9, rv b2, iv (x2 &&& (7 : Int32)), iv q12, .val (.long (q12.toInt64 - s4.toInt64)), .second, iv 0] [(.int 1)] (fun t k => XS.iconst X7.here hx rfl (hb hby at_205) k) ?_
        refine own_go T7 m 210 #[iv x0, iv x1, iv x2, iv x3, iv s4, .val (.long (((2147483647 : Int64) - s4.toInt64) + (1 : Int64))), .second, .val (.long eL), .second, iv ee9, rv b2, iv (x2 &&& (7 : Int32)), iv q12, .val (.long (q12.toInt64 - s4.toInt64)), .second, iv 0] [(.int 1)] (fun t k => XS.goto X7.here hx rfl (pc0 := 206) (pc' := 210) rfl (hb hby at_206) (by decide) (by decide) k) ?_
        refine own_retZ X7 hx hlk hret (by decide) (hb hby at_210) (by decide) (by decide) ?_
        exact ⟨rfl, N3⟩
      · refine own_go T3 m 174 #[iv x0, iv x1, iv x2, iv x3, iv s4, .val (.long (((2147483647 : Int64) - s4.toInt64) + (1 : Int64))), .second, .val (.long eL), .second, iv ee9, rv b2, iv (x2 &&& (7 : Int32)), iv q12, .val (.long (q12.toInt64 - s4.toInt64)), .second, .unset] [] (fun t k => XS.ifNo X3.here hx rfl (hb hby at_171) rfl ((if0 _ _).trans (flt (mt (lw_lt (q12.toInt64 - s4.toInt64) (0 : Int64)).mp hc171_6)).1) k) ?_
        refine own_go T3 m 176 #[iv x0, iv x1, iv x2, iv x3, iv s4, .val (.long (((2147483647 : Int64) - s4.toInt64) + (1 : Int64))), .second, .val (.long eL), .second, iv ee9, rv b2, iv (x2 &&& (7 : Int32)), iv q12, .val (.long (q12.toInt64 - s4.toInt64)), .second, .unset] [(.long (q12.toInt64 - s4.toInt64))] (fun t k => XS.lload X3.here hx rfl (hb hby at_174) rfl k) ?_
        refine own_go T3 m 178 #[iv x0, iv x1, iv x2, iv x3, iv s4, .val (.long (((2147483647 : Int64) - s4.toInt64) + (1 : Int64))), .second, .val (.long eL), .second, iv ee9, rv b2, iv (x2 &&& (7 : Int32)), iv q12, .val (.long (q12.toInt64 - s4.toInt64)), .second, .unset] [(.ref b2), (.long (q12.toInt64 - s4.toInt64))] (fun t k => XS.aload X3.here hx rfl (hb hby at_176) rfl rfl k) ?_
        obtain ⟨_, T8, L8, X8, ⟨rfl, e8, rfl⟩, st8⟩ := own_virtual X3 hx hZ (y := (⟨"com/example/bowerbird/bowerbird/core/DocumentSet", "size", "()I"⟩ : MethodName)) (z := (⟨"com/example/bowerbird/bowerbird/core/DocumentSet", "size", "()I"⟩ : MethodName)) hown (own_w hw 20 rfl) (own_w hw 21 rfl) (notFace_of_selects (args := #[]) (mvT hZ (own_w hw 23 rfl))) (own_w hw 23 rfl) (own_w hw 22 rfl) (own_w hw 4 rfl) (own_w hw 24 rfl) (by decide) (rm4 l Z a0 hw [] b2 s4 ee9 T3.heap Fq3_0 Fq3_1) rfl Aq3 2 (argsL := []) (rest := [(.long (q12.toInt64 - s4.toInt64))]) (Ls := #[iv x0, iv x1, iv x2, iv x3, iv s4, .val (.long (((2147483647 : Int64) - s4.toInt64) + (1 : Int64))), .second, .val (.long eL), .second, iv ee9, rv b2, iv (x2 &&& (7 : Int32)), iv q12, .val (.long (q12.toInt64 - s4.toInt64)), .second, .unset]) (by rw [hml]; rfl) (lenOf pd___I rfl) rfl rfl (Nat.le_of_eq rfl) (hb hby at_178) (by decide) (by decide) (by decide) (by decide)
        replace X8 := own_nil X8
        refine own_go T8 m 181 #[iv x0, iv x1, iv x2, iv x3, iv s4, .val (.long (((2147483647 : Int64) - s4.toInt64) + (1 : Int64))), .second, .val (.long eL), .second, iv ee9, rv b2, iv (x2 &&& (7 : Int32)), iv q12, .val (.long (q12.toInt64 - s4.toInt64)), .second, .unset] [(.int (ee9 - s4)), (.long (q12.toInt64 - s4.toInt64))] (st8) ?_
        refine own_go T8 m 182 #[iv x0, iv x1, iv x2, iv x3, iv s4, .val (.long (((2147483647 : Int64) - s4.toInt64) + (1 : Int64))), .second, .val (.long eL), .second, iv ee9, rv b2, iv (x2 &&& (7 : Int32)), iv q12, .val (.long (q12.toInt64 - s4.toInt64)), .second, .unset] [(.long (ee9 - s4).toInt64), (.long (q12.toInt64 - s4.toInt64))] (fun t k => XS.i2l X8.here hx rfl (hb hby at_181) rfl k) ?_
        refine own_go T8 m 183 #[iv x0, iv x1, iv x2, iv x3, iv s4, .val (.long (((2147483647 : Int64) - s4.toInt64) + (1 : Int64))), .second, .val (.long eL), .second, iv ee9, rv b2, iv (x2 &&& (7 : Int32)), iv q12, .val (.long (q12.toInt64 - s4.toInt64)), .second, .unset] [(.int (lcmpW (q12.toInt64 - s4.toInt64) (ee9 - s4).toInt64))] (fun t k => XS.lcmp X8.here hx rfl (hb hby at_182) rfl k) ?_
        by_cases hc183_9 : (q12.toInt64 - s4.toInt64) < (ee9 - s4).toInt64
        · refine own_go T8 m 186 #[iv x0, iv x1, iv x2, iv x3, iv s4, .val (.long (((2147483647 : Int64) - s4.toInt64) + (1 : Int64))), .second, .val (.long eL), .second, iv ee9, rv b2, iv (x2 &&& (7 : Int32)), iv q12, .val (.long (q12.toInt64 - s4.toInt64)), .second, .unset] [] (fun t k => XS.ifNo X8.here hx rfl (hb hby at_183) rfl ((if0 _ _).trans (tlt ((lw_lt (q12.toInt64 - s4.toInt64) (ee9 - s4).toInt64).mpr hc183_9)).2.1) k) ?_
          refine own_go T8 m 187 #[iv x0, iv x1, iv x2, iv x3, iv s4, .val (.long (((2147483647 : Int64) - s4.toInt64) + (1 : Int64))), .second, .val (.long eL), .second, iv ee9, rv b2, iv (x2 &&& (7 : Int32)), iv q12, .val (.long (q12.toInt64 - s4.toInt64)), .second, .unset] [(.int 1)] (fun t k => XS.iconst X8.here hx rfl (hb hby at_186) k) ?_
          refine own_go T8 m 191 #[iv x0, iv x1, iv x2, iv x3, iv s4, .val (.long (((2147483647 : Int64) - s4.toInt64) + (1 : Int64))), .second, .val (.long eL), .second, iv ee9, rv b2, iv (x2 &&& (7 : Int32)), iv q12, .val (.long (q12.toInt64 - s4.toInt64)), .second, .unset] [(.int 1)] (fun t k => XS.goto X8.here hx rfl (pc0 := 187) (pc' := 191) rfl (hb hby at_187) (by decide) (by decide) k) ?_
          refine own_go T8 m 193 #[iv x0, iv x1, iv x2, iv x3, iv s4, .val (.long (((2147483647 : Int64) - s4.toInt64) + (1 : Int64))), .second, .val (.long eL), .second, iv ee9, rv b2, iv (x2 &&& (7 : Int32)), iv q12, .val (.long (q12.toInt64 - s4.toInt64)), .second, iv 1] [] (fun t k => XS.istore X8.here hx rfl (hb hby at_191) rfl rfl k) ?_
          refine own_go T8 m 195 #[iv x0, iv x1, iv x2, iv x3, iv s4, .val (.long (((2147483647 : Int64) - s4.toInt64) + (1 : Int64))), .second, .val (.long eL), .second, iv ee9, rv b2, iv (x2 &&& (7 : Int32)), iv q12, .val (.long (q12.toInt64 - s4.toInt64)), .second, iv 1] [(.ref b2)] (fun t k => XS.aload X8.here hx rfl (hb hby at_193) rfl rfl k) ?_
          refine own_go T8 m 197 #[iv x0, iv x1, iv x2, iv x3, iv s4, .val (.long (((2147483647 : Int64) - s4.toInt64) + (1 : Int64))), .second, .val (.long eL), .second, iv ee9, rv b2, iv (x2 &&& (7 : Int32)), iv q12, .val (.long (q12.toInt64 - s4.toInt64)), .second, iv 1] [(.int q12), (.ref b2)] (fun t k => XS.iload X8.here hx rfl (hb hby at_195) rfl k) ?_
          obtain ⟨_, T10, L10, X10, ⟨rfl, e10, rfl⟩, st10⟩ := own_virtual X8 hx hZ (y := (⟨"com/example/bowerbird/bowerbird/core/DocumentSet", "contains", "(I)Z"⟩ : MethodName)) (z := (⟨"com/example/bowerbird/bowerbird/core/DocumentSet", "contains", "(I)Z"⟩ : MethodName)) hown (own_w hw 25 rfl) (own_w hw 26 rfl) (notFace_of_selects (args := #[]) (mvT hZ (own_w hw 28 rfl))) (own_w hw 28 rfl) (own_w hw 27 rfl) (own_w hw 4 rfl) (own_w hw 29 rfl) (by decide) (rm5 l Z a0 hw [] b2 q12 s4 ee9 T3.heap Fq3_0 Fq3_1) e8 Aq3 0 (argsL := [(.int q12)]) (rest := []) (Ls := #[iv x0, iv x1, iv x2, iv x3, iv s4, .val (.long (((2147483647 : Int64) - s4.toInt64) + (1 : Int64))), .second, .val (.long eL), .second, iv ee9, rv b2, iv (x2 &&& (7 : Int32)), iv q12, .val (.long (q12.toInt64 - s4.toInt64)), .second, iv 1]) (by rw [hml]; rfl) (lenOf pd__I_Z rfl) rfl rfl (Nat.le_of_eq rfl) (hb hby at_197) (by decide) (by decide) (by decide) (by decide)
          replace X10 := own_nil X10
          refine own_go T10 m 200 #[iv x0, iv x1, iv x2, iv x3, iv s4, .val (.long (((2147483647 : Int64) - s4.toInt64) + (1 : Int64))), .second, .val (.long eL), .second, iv ee9, rv b2, iv (x2 &&& (7 : Int32)), iv q12, .val (.long (q12.toInt64 - s4.toInt64)), .second, iv 1] [(.int (own_in q12 s4 ee9))] (st10) ?_
          rw [show (own_in q12 s4 ee9) = (1 : Int32) from own_B q12 s4 ee9 hs1 he1 hc171_6 hc183_9]
          refine own_go T10 m 202 #[iv x0, iv x1, iv x2, iv x3, iv s4, .val (.long (((2147483647 : Int64) - s4.toInt64) + (1 : Int64))), .second, .val (.long eL), .second, iv ee9, rv b2, iv (x2 &&& (7 : Int32)), iv q12, .val (.long (q12.toInt64 - s4.toInt64)), .second, iv 1] [(.int 1), (.int 1)] (fun t k => XS.iload X10.here hx rfl (hb hby at_200) rfl k) ?_
          refine own_go T10 m 205 #[iv x0, iv x1, iv x2, iv x3, iv s4, .val (.long (((2147483647 : Int64) - s4.toInt64) + (1 : Int64))), .second, .val (.long eL), .second, iv ee9, rv b2, iv (x2 &&& (7 : Int32)), iv q12, .val (.long (q12.toInt64 - s4.toInt64)), .second, iv 1] [] (fun t k => XS.icmpNo X10.here hx rfl (hb hby at_202) rfl (teq (by decide)).2 k) ?_
          refine own_go T10 m 206 #[iv x0, iv x1, iv x2, iv x3, iv s4, .val (.long (((2147483647 : Int64) - s4.toInt64) + (1 : Int64))), .second, .val (.long eL), .second, iv ee9, rv b2, iv (x2 &&& (7 : Int32)), iv q12, .val (.long (q12.toInt64 - s4.toInt64)), .second, iv 1] [(.int 1)] (fun t k => XS.iconst X10.here hx rfl (hb hby at_205) k) ?_
          refine own_go T10 m 210 #[iv x0, iv x1, iv x2, iv x3, iv s4, .val (.long (((2147483647 : Int64) - s4.toInt64) + (1 : Int64))), .second, .val (.long eL), .second, iv ee9, rv b2, iv (x2 &&& (7 : Int32)), iv q12, .val (.long (q12.toInt64 - s4.toInt64)), .second, iv 1] [(.int 1)] (fun t k => XS.goto X10.here hx rfl (pc0 := 206) (pc' := 210) rfl (hb hby at_206) (by decide) (by decide) k) ?_
          refine own_retZ X10 hx hlk hret (by decide) (hb hby at_210) (by decide) (by decide) ?_
          exact ⟨rfl, N3⟩
        · refine own_go T8 m 190 #[iv x0, iv x1, iv x2, iv x3, iv s4, .val (.long (((2147483647 : Int64) - s4.toInt64) + (1 : Int64))), .second, .val (.long eL), .second, iv ee9, rv b2, iv (x2 &&& (7 : Int32)), iv q12, .val (.long (q12.toInt64 - s4.toInt64)), .second, .unset] [] (fun t k => XS.ifYes X8.here hx rfl (pc0 := 183) (pc' := 190) rfl (hb hby at_183) rfl ((if0 _ _).trans (flt (mt (lw_lt (q12.toInt64 - s4.toInt64) (ee9 - s4).toInt64).mp hc183_9)).2.1) (by decide) (by decide) k) ?_
          refine own_go T8 m 191 #[iv x0, iv x1, iv x2, iv x3, iv s4, .val (.long (((2147483647 : Int64) - s4.toInt64) + (1 : Int64))), .second, .val (.long eL), .second, iv ee9, rv b2, iv (x2 &&& (7 : Int32)), iv q12, .val (.long (q12.toInt64 - s4.toInt64)), .second, .unset] [(.int 0)] (fun t k => XS.iconst X8.here hx rfl (hb hby at_190) k) ?_
          refine own_go T8 m 193 #[iv x0, iv x1, iv x2, iv x3, iv s4, .val (.long (((2147483647 : Int64) - s4.toInt64) + (1 : Int64))), .second, .val (.long eL), .second, iv ee9, rv b2, iv (x2 &&& (7 : Int32)), iv q12, .val (.long (q12.toInt64 - s4.toInt64)), .second, iv 0] [] (fun t k => XS.istore X8.here hx rfl (hb hby at_191) rfl rfl k) ?_
          refine own_go T8 m 195 #[iv x0, iv x1, iv x2, iv x3, iv s4, .val (.long (((2147483647 : Int64) - s4.toInt64) + (1 : Int64))), .second, .val (.long eL), .second, iv ee9, rv b2, iv (x2 &&& (7 : Int32)), iv q12, .val (.long (q12.toInt64 - s4.toInt64)), .second, iv 0] [(.ref b2)] (fun t k => XS.aload X8.here hx rfl (hb hby at_193) rfl rfl k) ?_
          refine own_go T8 m 197 #[iv x0, iv x1, iv x2, iv x3, iv s4, .val (.long (((2147483647 : Int64) - s4.toInt64) + (1 : Int64))), .second, .val (.long eL), .second, iv ee9, rv b2, iv (x2 &&& (7 : Int32)), iv q12, .val (.long (q12.toInt64 - s4.toInt64)), .second, iv 0] [(.int q12), (.ref b2)] (fun t k => XS.iload X8.here hx rfl (hb hby at_195) rfl k) ?_
          obtain ⟨_, T11, L11, X11, ⟨rfl, e11, rfl⟩, st11⟩ := own_virtual X8 hx hZ (y := (⟨"com/example/bowerbird/bowerbird/core/DocumentSet", "contains", "(I)Z"⟩ : MethodName)) (z := (⟨"com/example/bowerbird/bowerbird/core/DocumentSet", "contains", "(I)Z"⟩ : MethodName)) hown (own_w hw 25 rfl) (own_w hw 26 rfl) (notFace_of_selects (args := #[]) (mvT hZ (own_w hw 28 rfl))) (own_w hw 28 rfl) (own_w hw 27 rfl) (own_w hw 4 rfl) (own_w hw 29 rfl) (by decide) (rm5 l Z a0 hw [] b2 q12 s4 ee9 T3.heap Fq3_0 Fq3_1) e8 Aq3 0 (argsL := [(.int q12)]) (rest := []) (Ls := #[iv x0, iv x1, iv x2, iv x3, iv s4, .val (.long (((2147483647 : Int64) - s4.toInt64) + (1 : Int64))), .second, .val (.long eL), .second, iv ee9, rv b2, iv (x2 &&& (7 : Int32)), iv q12, .val (.long (q12.toInt64 - s4.toInt64)), .second, iv 0]) (by rw [hml]; rfl) (lenOf pd__I_Z rfl) rfl rfl (Nat.le_of_eq rfl) (hb hby at_197) (by decide) (by decide) (by decide) (by decide)
          replace X11 := own_nil X11
          refine own_go T11 m 200 #[iv x0, iv x1, iv x2, iv x3, iv s4, .val (.long (((2147483647 : Int64) - s4.toInt64) + (1 : Int64))), .second, .val (.long eL), .second, iv ee9, rv b2, iv (x2 &&& (7 : Int32)), iv q12, .val (.long (q12.toInt64 - s4.toInt64)), .second, iv 0] [(.int (own_in q12 s4 ee9))] (st11) ?_
          rw [show (own_in q12 s4 ee9) = (0 : Int32) from own_Cc q12 s4 ee9 hs1 he1 hc171_6 hc183_9]
          refine own_go T11 m 202 #[iv x0, iv x1, iv x2, iv x3, iv s4, .val (.long (((2147483647 : Int64) - s4.toInt64) + (1 : Int64))), .second, .val (.long eL), .second, iv ee9, rv b2, iv (x2 &&& (7 : Int32)), iv q12, .val (.long (q12.toInt64 - s4.toInt64)), .second, iv 0] [(.int 0), (.int 0)] (fun t k => XS.iload X11.here hx rfl (hb hby at_200) rfl k) ?_
          refine own_go T11 m 205 #[iv x0, iv x1, iv x2, iv x3, iv s4, .val (.long (((2147483647 : Int64) - s4.toInt64) + (1 : Int64))), .second, .val (.long eL), .second, iv ee9, rv b2, iv (x2 &&& (7 : Int32)), iv q12, .val (.long (q12.toInt64 - s4.toInt64)), .second, iv 0] [] (fun t k => XS.icmpNo X11.here hx rfl (hb hby at_202) rfl (teq (by decide)).2 k) ?_
          refine own_go T11 m 206 #[iv x0, iv x1, iv x2, iv x3, iv s4, .val (.long (((2147483647 : Int64) - s4.toInt64) + (1 : Int64))), .second, .val (.long eL), .second, iv ee9, rv b2, iv (x2 &&& (7 : Int32)), iv q12, .val (.long (q12.toInt64 - s4.toInt64)), .second, iv 0] [(.int 1)] (fun t k => XS.iconst X11.here hx rfl (hb hby at_205) k) ?_
          refine own_go T11 m 210 #[iv x0, iv x1, iv x2, iv x3, iv s4, .val (.long (((2147483647 : Int64) - s4.toInt64) + (1 : Int64))), .second, .val (.long eL), .second, iv ee9, rv b2, iv (x2 &&& (7 : Int32)), iv q12, .val (.long (q12.toInt64 - s4.toInt64)), .second, iv 0] [(.int 1)] (fun t k => XS.goto X11.here hx rfl (pc0 := 206) (pc' := 210) rfl (hb hby at_206) (by decide) (by decide) k) ?_
          refine own_retZ X11 hx hlk hret (by decide) (hb hby at_210) (by decide) (by decide) ?_
          exact ⟨rfl, N3⟩
    by_cases hc84_12 : (x2 &&& (7 : Int32)) = (0 : Int32)
    · refine own_go T3 m 87 #[iv x0, iv x1, iv x2, iv x3, iv s4, .val (.long (((2147483647 : Int64) - s4.toInt64) + (1 : Int64))), .second, .val (.long eL), .second, iv ee9, rv b2, iv (x2 &&& (7 : Int32)), .unset, .unset, .unset, .unset] [] (fun t k => XS.ifNo X3.here hx rfl (hb hby at_84) rfl ((if0 _ _).trans (teq hc84_12).2) k) ?_
      refine own_go T3 m 89 #[iv x0, iv x1, iv x2, iv x3, iv s4, .val (.long (((2147483647 : Int64) - s4.toInt64) + (1 : Int64))), .second, .val (.long eL), .second, iv ee9, rv b2, iv (x2 &&& (7 : Int32)), .unset, .unset, .unset, .unset] [(.int s4)] (fun t k => XS.iload X3.here hx rfl (hb hby at_87) rfl k) ?_
      refine own_go T3 m 90 #[iv x0, iv x1, iv x2, iv x3, iv s4, .val (.long (((2147483647 : Int64) - s4.toInt64) + (1 : Int64))), .second, .val (.long eL), .second, iv ee9, rv b2, iv (x2 &&& (7 : Int32)), .unset, .unset, .unset, .unset] [(.int 1), (.int s4)] (fun t k => XS.iconst X3.here hx rfl (hb hby at_89) k) ?_
      refine own_go T3 m 91 #[iv x0, iv x1, iv x2, iv x3, iv s4, .val (.long (((2147483647 : Int64) - s4.toInt64) + (1 : Int64))), .second, .val (.long eL), .second, iv ee9, rv b2, iv (x2 &&& (7 : Int32)), .unset, .unset, .unset, .unset] [(.int (s4 - (1 : Int32)))] (fun t k => XS.isub X3.here hx rfl (hb hby at_90) rfl k) ?_
      refine own_go T3 m 93 #[iv x0, iv x1, iv x2, iv x3, iv s4, .val (.long (((2147483647 : Int64) - s4.toInt64) + (1 : Int64))), .second, .val (.long eL), .second, iv ee9, rv b2, iv (x2 &&& (7 : Int32)), iv (s4 - (1 : Int32)), .unset, .unset, .unset] [] (fun t k => XS.istore X3.here hx rfl (hb hby at_91) rfl rfl k) ?_
      refine own_go T3 m 158 #[iv x0, iv x1, iv x2, iv x3, iv s4, .val (.long (((2147483647 : Int64) - s4.toInt64) + (1 : Int64))), .second, .val (.long eL), .second, iv ee9, rv b2, iv (x2 &&& (7 : Int32)), iv (s4 - (1 : Int32)), .unset, .unset, .unset] [] (fun t k => XS.goto X3.here hx rfl (pc0 := 93) (pc' := 158) rfl (hb hby at_93) (by decide) (by decide) k) ?_
      exact seg158 (s4 - (1 : Int32))
    · refine own_go T3 m 96 #[iv x0, iv x1, iv x2, iv x3, iv s4, .val (.long (((2147483647 : Int64) - s4.toInt64) + (1 : Int64))), .second, .val (.long eL), .second, iv ee9, rv b2, iv (x2 &&& (7 : Int32)), .unset, .unset, .unset, .unset] [] (fun t k => XS.ifYes X3.here hx rfl (pc0 := 84) (pc' := 96) rfl (hb hby at_84) rfl ((if0 _ _).trans (feq hc84_12).2) (by decide) (by decide) k) ?_
      refine own_go T3 m 98 #[iv x0, iv x1, iv x2, iv x3, iv s4, .val (.long (((2147483647 : Int64) - s4.toInt64) + (1 : Int64))), .second, .val (.long eL), .second, iv ee9, rv b2, iv (x2 &&& (7 : Int32)), .unset, .unset, .unset, .unset] [(.int (x2 &&& (7 : Int32)))] (fun t k => XS.iload X3.here hx rfl (hb hby at_96) rfl k) ?_
      refine own_go T3 m 99 #[iv x0, iv x1, iv x2, iv x3, iv s4, .val (.long (((2147483647 : Int64) - s4.toInt64) + (1 : Int64))), .second, .val (.long eL), .second, iv ee9, rv b2, iv (x2 &&& (7 : Int32)), .unset, .unset, .unset, .unset] [(.int 1), (.int (x2 &&& (7 : Int32)))] (fun t k => XS.iconst X3.here hx rfl (hb hby at_98) k) ?_
      by_cases hc99_13 : (x2 &&& (7 : Int32)) = (1 : Int32)
      · refine own_go T3 m 102 #[iv x0, iv x1, iv x2, iv x3, iv s4, .val (.long (((2147483647 : Int64) - s4.toInt64) + (1 : Int64))), .second, .val (.long eL), .second, iv ee9, rv b2, iv (x2 &&& (7 : Int32)), .unset, .unset, .unset, .unset] [] (fun t k => XS.icmpNo X3.here hx rfl (hb hby at_99) rfl (teq hc99_13).2 k) ?_
        refine own_go T3 m 104 #[iv x0, iv x1, iv x2, iv x3, iv s4, .val (.long (((2147483647 : Int64) - s4.toInt64) + (1 : Int64))), .second, .val (.long eL), .second, iv ee9, rv b2, iv (x2 &&& (7 : Int32)), .unset, .unset, .unset, .unset] [(.int s4)] (fun t k => XS.iload X3.here hx rfl (hb hby at_102) rfl k) ?_
        refine own_go T3 m 106 #[iv x0, iv x1, iv x2, iv x3, iv s4, .val (.long (((2147483647 : Int64) - s4.toInt64) + (1 : Int64))), .second, .val (.long eL), .second, iv ee9, rv b2, iv (x2 &&& (7 : Int32)), iv s4, .unset, .unset, .unset] [] (fun t k => XS.istore X3.here hx rfl (hb hby at_104) rfl rfl k) ?_
        refine own_go T3 m 158 #[iv x0, iv x1, iv x2, iv x3, iv s4, .val (.long (((2147483647 : Int64) - s4.toInt64) + (1 : Int64))), .second, .val (.long eL), .second, iv ee9, rv b2, iv (x2 &&& (7 : Int32)), iv s4, .unset, .unset, .unset] [] (fun t k => XS.goto X3.here hx rfl (pc0 := 106) (pc' := 158) rfl (hb hby at_106) (by decide) (by decide) k) ?_
        exact seg158 s4
      · refine own_go T3 m 109 #[iv x0, iv x1, iv x2, iv x3, iv s4, .val (.long (((2147483647 : Int64) - s4.toInt64) + (1 : Int64))), .second, .val (.long eL), .second, iv ee9, rv b2, iv (x2 &&& (7 : Int32)), .unset, .unset, .unset, .unset] [] (fun t k => XS.icmpYes X3.here hx rfl (pc0 := 99) (pc' := 109) rfl (hb hby at_99) rfl (feq hc99_13).2 (by decide) (by decide) k) ?_
        refine own_go T3 m 111 #[iv x0, iv x1, iv x2, iv x3, iv s4, .val (.long (((2147483647 : Int64) - s4.toInt64) + (1 : Int64))), .second, .val (.long eL), .second, iv ee9, rv b2, iv (x2 &&& (7 : Int32)), .unset, .unset, .unset, .unset] [(.int (x2 &&& (7 : Int32)))] (fun t k => XS.iload X3.here hx rfl (hb hby at_109) rfl k) ?_
        refine own_go T3 m 112 #[iv x0, iv x1, iv x2, iv x3, iv s4, .val (.long (((2147483647 : Int64) - s4.toInt64) + (1 : Int64))), .second, .val (.long eL), .second, iv ee9, rv b2, iv (x2 &&& (7 : Int32)), .unset, .unset, .unset, .unset] [(.int 2), (.int (x2 &&& (7 : Int32)))] (fun t k => XS.iconst X3.here hx rfl (hb hby at_111) k) ?_
        by_cases hc112_14 : (x2 &&& (7 : Int32)) = (2 : Int32)
        · refine own_go T3 m 115 #[iv x0, iv x1, iv x2, iv x3, iv s4, .val (.long (((2147483647 : Int64) - s4.toInt64) + (1 : Int64))), .second, .val (.long eL), .second, iv ee9, rv b2, iv (x2 &&& (7 : Int32)), .unset, .unset, .unset, .unset] [] (fun t k => XS.icmpNo X3.here hx rfl (hb hby at_112) rfl (teq hc112_14).2 k) ?_
          refine own_go T3 m 117 #[iv x0, iv x1, iv x2, iv x3, iv s4, .val (.long (((2147483647 : Int64) - s4.toInt64) + (1 : Int64))), .second, .val (.long eL), .second, iv ee9, rv b2, iv (x2 &&& (7 : Int32)), .unset, .unset, .unset, .unset] [(.int ee9)] (fun t k => XS.iload X3.here hx rfl (hb hby at_115) rfl k) ?_
          refine own_go T3 m 118 #[iv x0, iv x1, iv x2, iv x3, iv s4, .val (.long (((2147483647 : Int64) - s4.toInt64) + (1 : Int64))), .second, .val (.long eL), .second, iv ee9, rv b2, iv (x2 &&& (7 : Int32)), .unset, .unset, .unset, .unset] [(.int 1), (.int ee9)] (fun t k => XS.iconst X3.here hx rfl (hb hby at_117) k) ?_
          refine own_go T3 m 119 #[iv x0, iv x1, iv x2, iv x3, iv s4, .val (.long (((2147483647 : Int64) - s4.toInt64) + (1 : Int64))), .second, .val (.long eL), .second, iv ee9, rv b2, iv (x2 &&& (7 : Int32)), .unset, .unset, .unset, .unset] [(.int (ee9 - (1 : Int32)))] (fun t k => XS.isub X3.here hx rfl (hb hby at_118) rfl k) ?_
          refine own_go T3 m 121 #[iv x0, iv x1, iv x2, iv x3, iv s4, .val (.long (((2147483647 : Int64) - s4.toInt64) + (1 : Int64))), .second, .val (.long eL), .second, iv ee9, rv b2, iv (x2 &&& (7 : Int32)), iv (ee9 - (1 : Int32)), .unset, .unset, .unset] [] (fun t k => XS.istore X3.here hx rfl (hb hby at_119) rfl rfl k) ?_
          refine own_go T3 m 158 #[iv x0, iv x1, iv x2, iv x3, iv s4, .val (.long (((2147483647 : Int64) - s4.toInt64) + (1 : Int64))), .second, .val (.long eL), .second, iv ee9, rv b2, iv (x2 &&& (7 : Int32)), iv (ee9 - (1 : Int32)), .unset, .unset, .unset] [] (fun t k => XS.goto X3.here hx rfl (pc0 := 121) (pc' := 158) rfl (hb hby at_121) (by decide) (by decide) k) ?_
          exact seg158 (ee9 - (1 : Int32))
        · refine own_go T3 m 124 #[iv x0, iv x1, iv x2, iv x3, iv s4, .val (.long (((2147483647 : Int64) - s4.toInt64) + (1 : Int64))), .second, .val (.long eL), .second, iv ee9, rv b2, iv (x2 &&& (7 : Int32)), .unset, .unset, .unset, .unset] [] (fun t k => XS.icmpYes X3.here hx rfl (pc0 := 112) (pc' := 124) rfl (hb hby at_112) rfl (feq hc112_14).2 (by decide) (by decide) k) ?_
          refine own_go T3 m 126 #[iv x0, iv x1, iv x2, iv x3, iv s4, .val (.long (((2147483647 : Int64) - s4.toInt64) + (1 : Int64))), .second, .val (.long eL), .second, iv ee9, rv b2, iv (x2 &&& (7 : Int32)), .unset, .unset, .unset, .unset] [(.int (x2 &&& (7 : Int32)))] (fun t k => XS.iload X3.here hx rfl (hb hby at_124) rfl k) ?_
          refine own_go T3 m 127 #[iv x0, iv x1, iv x2, iv x3, iv s4, .val (.long (((2147483647 : Int64) - s4.toInt64) + (1 : Int64))), .second, .val (.long eL), .second, iv ee9, rv b2, iv (x2 &&& (7 : Int32)), .unset, .unset, .unset, .unset] [(.int 3), (.int (x2 &&& (7 : Int32)))] (fun t k => XS.iconst X3.here hx rfl (hb hby at_126) k) ?_
          by_cases hc127_15 : (x2 &&& (7 : Int32)) = (3 : Int32)
          · refine own_go T3 m 130 #[iv x0, iv x1, iv x2, iv x3, iv s4, .val (.long (((2147483647 : Int64) - s4.toInt64) + (1 : Int64))), .second, .val (.long eL), .second, iv ee9, rv b2, iv (x2 &&& (7 : Int32)), .unset, .unset, .unset, .unset] [] (fun t k => XS.icmpNo X3.here hx rfl (hb hby at_127) rfl (teq hc127_15).2 k) ?_
            refine own_go T3 m 132 #[iv x0, iv x1, iv x2, iv x3, iv s4, .val (.long (((2147483647 : Int64) - s4.toInt64) + (1 : Int64))), .second, .val (.long eL), .second, iv ee9, rv b2, iv (x2 &&& (7 : Int32)), .unset, .unset, .unset, .unset] [(.int ee9)] (fun t k => XS.iload X3.here hx rfl (hb hby at_130) rfl k) ?_
            refine own_go T3 m 134 #[iv x0, iv x1, iv x2, iv x3, iv s4, .val (.long (((2147483647 : Int64) - s4.toInt64) + (1 : Int64))), .second, .val (.long eL), .second, iv ee9, rv b2, iv (x2 &&& (7 : Int32)), iv ee9, .unset, .unset, .unset] [] (fun t k => XS.istore X3.here hx rfl (hb hby at_132) rfl rfl k) ?_
            refine own_go T3 m 158 #[iv x0, iv x1, iv x2, iv x3, iv s4, .val (.long (((2147483647 : Int64) - s4.toInt64) + (1 : Int64))), .second, .val (.long eL), .second, iv ee9, rv b2, iv (x2 &&& (7 : Int32)), iv ee9, .unset, .unset, .unset] [] (fun t k => XS.goto X3.here hx rfl (pc0 := 134) (pc' := 158) rfl (hb hby at_134) (by decide) (by decide) k) ?_
            exact seg158 ee9
          · refine own_go T3 m 137 #[iv x0, iv x1, iv x2, iv x3, iv s4, .val (.long (((2147483647 : Int64) - s4.toInt64) + (1 : Int64))), .second, .val (.long eL), .second, iv ee9, rv b2, iv (x2 &&& (7 : Int32)), .unset, .unset, .unset, .unset] [] (fun t k => XS.icmpYes X3.here hx rfl (pc0 := 127) (pc' := 137) rfl (hb hby at_127) rfl (feq hc127_15).2 (by decide) (by decide) k) ?_
            refine own_go T3 m 139 #[iv x0, iv x1, iv x2, iv x3, iv s4, .val (.long (((2147483647 : Int64) - s4.toInt64) + (1 : Int64))), .second, .val (.long eL), .second, iv ee9, rv b2, iv (x2 &&& (7 : Int32)), .unset, .unset, .unset, .unset] [(.int (x2 &&& (7 : Int32)))] (fun t k => XS.iload X3.here hx rfl (hb hby at_137) rfl k) ?_
            refine own_go T3 m 140 #[iv x0, iv x1, iv x2, iv x3, iv s4, .val (.long (((2147483647 : Int64) - s4.toInt64) + (1 : Int64))), .second, .val (.long eL), .second, iv ee9, rv b2, iv (x2 &&& (7 : Int32)), .unset, .unset, .unset, .unset] [(.int 4), (.int (x2 &&& (7 : Int32)))] (fun t k => XS.iconst X3.here hx rfl (hb hby at_139) k) ?_
            by_cases hc140_16 : (x2 &&& (7 : Int32)) = (4 : Int32)
            · refine own_go T3 m 143 #[iv x0, iv x1, iv x2, iv x3, iv s4, .val (.long (((2147483647 : Int64) - s4.toInt64) + (1 : Int64))), .second, .val (.long eL), .second, iv ee9, rv b2, iv (x2 &&& (7 : Int32)), .unset, .unset, .unset, .unset] [] (fun t k => XS.icmpNo X3.here hx rfl (hb hby at_140) rfl (teq hc140_16).2 k) ?_
              refine own_go T3 m 145 #[iv x0, iv x1, iv x2, iv x3, iv s4, .val (.long (((2147483647 : Int64) - s4.toInt64) + (1 : Int64))), .second, .val (.long eL), .second, iv ee9, rv b2, iv (x2 &&& (7 : Int32)), .unset, .unset, .unset, .unset] [(.int s4)] (fun t k => XS.iload X3.here hx rfl (hb hby at_143) rfl k) ?_
              refine own_go T3 m 146 #[iv x0, iv x1, iv x2, iv x3, iv s4, .val (.long (((2147483647 : Int64) - s4.toInt64) + (1 : Int64))), .second, .val (.long eL), .second, iv ee9, rv b2, iv (x2 &&& (7 : Int32)), .unset, .unset, .unset, .unset] [(.int x3), (.int s4)] (fun t k => XS.iloadN X3.here hx rfl (hb hby at_145) rfl k) ?_
              refine own_go T3 m 148 #[iv x0, iv x1, iv x2, iv x3, iv s4, .val (.long (((2147483647 : Int64) - s4.toInt64) + (1 : Int64))), .second, .val (.long eL), .second, iv ee9, rv b2, iv (x2 &&& (7 : Int32)), .unset, .unset, .unset, .unset] [(.int 7), (.int x3), (.int s4)] (fun t k => XS.bipush X3.here hx rfl (hb hby at_146) k) ?_
              refine own_go T3 m 149 #[iv x0, iv x1, iv x2, iv x3, iv s4, .val (.long (((2147483647 : Int64) - s4.toInt64) + (1 : Int64))), .second, .val (.long eL), .second, iv ee9, rv b2, iv (x2 &&& (7 : Int32)), .unset, .unset, .unset, .unset] [(.int (x3 &&& (7 : Int32))), (.int s4)] (fun t k => XS.iand X3.here hx rfl (hb hby at_148) rfl k) ?_
              refine own_go T3 m 150 #[iv x0, iv x1, iv x2, iv x3, iv s4, .val (.long (((2147483647 : Int64) - s4.toInt64) + (1 : Int64))), .second, .val (.long eL), .second, iv ee9, rv b2, iv (x2 &&& (7 : Int32)), .unset, .unset, .unset, .unset] [(.int (s4 + (x3 &&& (7 : Int32))))] (fun t k => XS.iadd X3.here hx rfl (hb hby at_149) rfl k) ?_
              refine own_go T3 m 152 #[iv x0, iv x1, iv x2, iv x3, iv s4, .val (.long (((2147483647 : Int64) - s4.toInt64) + (1 : Int64))), .second, .val (.long eL), .second, iv ee9, rv b2, iv (x2 &&& (7 : Int32)), iv (s4 + (x3 &&& (7 : Int32))), .unset, .unset, .unset] [] (fun t k => XS.istore X3.here hx rfl (hb hby at_150) rfl rfl k) ?_
              refine own_go T3 m 158 #[iv x0, iv x1, iv x2, iv x3, iv s4, .val (.long (((2147483647 : Int64) - s4.toInt64) + (1 : Int64))), .second, .val (.long eL), .second, iv ee9, rv b2, iv (x2 &&& (7 : Int32)), iv (s4 + (x3 &&& (7 : Int32))), .unset, .unset, .unset] [] (fun t k => XS.goto X3.here hx rfl (pc0 := 152) (pc' := 158) rfl (hb hby at_152) (by decide) (by decide) k) ?_
              exact seg158 (s4 + (x3 &&& (7 : Int32)))
            · refine own_go T3 m 155 #[iv x0, iv x1, iv x2, iv x3, iv s4, .val (.long (((2147483647 : Int64) - s4.toInt64) + (1 : Int64))), .second, .val (.long eL), .second, iv ee9, rv b2, iv (x2 &&& (7 : Int32)), .unset, .unset, .unset, .unset] [] (fun t k => XS.icmpYes X3.here hx rfl (pc0 := 140) (pc' := 155) rfl (hb hby at_140) rfl (feq hc140_16).2 (by decide) (by decide) k) ?_
              refine own_go T3 m 156 #[iv x0, iv x1, iv x2, iv x3, iv s4, .val (.long (((2147483647 : Int64) - s4.toInt64) + (1 : Int64))), .second, .val (.long eL), .second, iv ee9, rv b2, iv (x2 &&& (7 : Int32)), .unset, .unset, .unset, .unset] [(.int x3)] (fun t k => XS.iloadN X3.here hx rfl (hb hby at_155) rfl k) ?_
              refine own_go T3 m 158 #[iv x0, iv x1, iv x2, iv x3, iv s4, .val (.long (((2147483647 : Int64) - s4.toInt64) + (1 : Int64))), .second, .val (.long eL), .second, iv ee9, rv b2, iv (x2 &&& (7 : Int32)), iv x3, .unset, .unset, .unset] [] (fun t k => XS.istore X3.here hx rfl (hb hby at_156) rfl rfl k) ?_
              exact seg158 x3
  by_cases hc22_17 : (((x2.toUInt32 >>> ((3 : Int32) &&& 31).toUInt32).toInt32) &&& (1 : Int32)) = (0 : Int32)
  · refine own_go T0 m 44 #[iv x0, iv x1, iv x2, iv x3, iv s4, .val (.long (((2147483647 : Int64) - s4.toInt64) + (1 : Int64))), .second, .unset, .unset, .unset, .unset, .unset, .unset, .unset, .unset, .unset] [] (fun t k => XS.ifYes X0.here hx rfl (pc0 := 22) (pc' := 44) rfl (hb hby at_22) rfl ((if0 _ _).trans (teq hc22_17).1) (by decide) (by decide) k) ?_
    refine own_go T0 m 46 #[iv x0, iv x1, iv x2, iv x3, iv s4, .val (.long (((2147483647 : Int64) - s4.toInt64) + (1 : Int64))), .second, .unset, .unset, .unset, .unset, .unset, .unset, .unset, .unset, .unset] [(.int s4)] (fun t k => XS.iload X0.here hx rfl (hb hby at_44) rfl k) ?_
    refine own_go T0 m 47 #[iv x0, iv x1, iv x2, iv x3, iv s4, .val (.long (((2147483647 : Int64) - s4.toInt64) + (1 : Int64))), .second, .unset, .unset, .unset, .unset, .unset, .unset, .unset, .unset, .unset] [(.long s4.toInt64)] (fun t k => XS.i2l X0.here hx rfl (hb hby at_46) rfl k) ?_
    refine own_go T0 m 48 #[iv x0, iv x1, iv x2, iv x3, iv s4, .val (.long (((2147483647 : Int64) - s4.toInt64) + (1 : Int64))), .second, .unset, .unset, .unset, .unset, .unset, .unset, .unset, .unset, .unset] [(.int x1), (.long s4.toInt64)] (fun t k => XS.iloadN X0.here hx rfl (hb hby at_47) rfl k) ?_
    refine own_go T0 m 50 #[iv x0, iv x1, iv x2, iv x3, iv s4, .val (.long (((2147483647 : Int64) - s4.toInt64) + (1 : Int64))), .second, .unset, .unset, .unset, .unset, .unset, .unset, .unset, .unset, .unset] [(.int 2147483647), (.int x1), (.long s4.toInt64)] (X0.ldcInt hx hown (mvT hZ (own_w hw 0 rfl)) (g := (mkF m 48 #[iv x0, iv x1, iv x2, iv x3, iv s4, .val (.long (((2147483647 : Int64) - s4.toInt64) + (1 : Int64))), .second, .unset, .unset, .unset, .unset, .unset, .unset, .unset, .unset, .unset] [(.int x1), (.long s4.toInt64)])) rfl (hb hby at_48)) ?_
    refine own_go T0 m 51 #[iv x0, iv x1, iv x2, iv x3, iv s4, .val (.long (((2147483647 : Int64) - s4.toInt64) + (1 : Int64))), .second, .unset, .unset, .unset, .unset, .unset, .unset, .unset, .unset, .unset] [(.int (x1 &&& (2147483647 : Int32))), (.long s4.toInt64)] (fun t k => XS.iand X0.here hx rfl (hb hby at_50) rfl k) ?_
    refine own_go T0 m 52 #[iv x0, iv x1, iv x2, iv x3, iv s4, .val (.long (((2147483647 : Int64) - s4.toInt64) + (1 : Int64))), .second, .unset, .unset, .unset, .unset, .unset, .unset, .unset, .unset, .unset] [(.long (x1 &&& (2147483647 : Int32)).toInt64), (.long s4.toInt64)] (fun t k => XS.i2l X0.here hx rfl (hb hby at_51) rfl k) ?_
    refine own_go T0 m 54 #[iv x0, iv x1, iv x2, iv x3, iv s4, .val (.long (((2147483647 : Int64) - s4.toInt64) + (1 : Int64))), .second, .unset, .unset, .unset, .unset, .unset, .unset, .unset, .unset, .unset] [(.long (((2147483647 : Int64) - s4.toInt64) + (1 : Int64))), (.long (x1 &&& (2147483647 : Int32)).toInt64), (.long s4.toInt64)] (fun t k => XS.lload X0.here hx rfl (hb hby at_52) rfl k) ?_
    refine own_go T0 m 55 #[iv x0, iv x1, iv x2, iv x3, iv s4, .val (.long (((2147483647 : Int64) - s4.toInt64) + (1 : Int64))), .second, .unset, .unset, .unset, .unset, .unset, .unset, .unset, .unset, .unset] [(.long ((x1 &&& (2147483647 : Int32)).toInt64 % (((2147483647 : Int64) - s4.toInt64) + (1 : Int64)))), (.long s4.toInt64)] (fun t k => own_lrem X0 hx rfl (hb hby at_54) rfl (own_room0 s4 hs1) k) ?_
    refine own_go T0 m 56 #[iv x0, iv x1, iv x2, iv x3, iv s4, .val (.long (((2147483647 : Int64) - s4.toInt64) + (1 : Int64))), .second, .unset, .unset, .unset, .unset, .unset, .unset, .unset, .unset, .unset] [(.long (s4.toInt64 + ((x1 &&& (2147483647 : Int32)).toInt64 % (((2147483647 : Int64) - s4.toInt64) + (1 : Int64)))))] (fun t k => XS.ladd X0.here hx rfl (hb hby at_55) rfl k) ?_
    refine own_go T0 m 58 #[iv x0, iv x1, iv x2, iv x3, iv s4, .val (.long (((2147483647 : Int64) - s4.toInt64) + (1 : Int64))), .second, .val (.long (s4.toInt64 + ((x1 &&& (2147483647 : Int32)).toInt64 % (((2147483647 : Int64) - s4.toInt64) + (1 : Int64))))), .second, .unset, .unset, .unset, .unset, .unset, .unset, .unset] [] (fun t k => XS.lstore X0.here hx rfl (hb hby at_56) rfl rfl k) ?_
    exact seg58 T0 _ (s4.toInt64 + ((x1 &&& (2147483647 : Int32)).toInt64 % (((2147483647 : Int64) - s4.toInt64) + (1 : Int64)))) X0 e0 N0 (own_e2 s4 x1 hs1).1 (own_e2 s4 x1 hs1).2
  · refine own_go T0 m 25 #[iv x0, iv x1, iv x2, iv x3, iv s4, .val (.long (((2147483647 : Int64) - s4.toInt64) + (1 : Int64))), .second, .unset, .unset, .unset, .unset, .unset, .unset, .unset, .unset, .unset] [] (fun t k => XS.ifNo X0.here hx rfl (hb hby at_22) rfl ((if0 _ _).trans (feq hc22_17).1) k) ?_
    refine own_go T0 m 28 #[iv x0, iv x1, iv x2, iv x3, iv s4, .val (.long (((2147483647 : Int64) - s4.toInt64) + (1 : Int64))), .second, .unset, .unset, .unset, .unset, .unset, .unset, .unset, .unset, .unset] [(.long 2147483647)] (X0.ldc2Long hx hown (mvT hZ (own_w hw 1 rfl)) (g := (mkF m 25 #[iv x0, iv x1, iv x2, iv x3, iv s4, .val (.long (((2147483647 : Int64) - s4.toInt64) + (1 : Int64))), .second, .unset, .unset, .unset, .unset, .unset, .unset, .unset, .unset, .unset] [])) rfl (hb hby at_25)) ?_
    refine own_go T0 m 30 #[iv x0, iv x1, iv x2, iv x3, iv s4, .val (.long (((2147483647 : Int64) - s4.toInt64) + (1 : Int64))), .second, .unset, .unset, .unset, .unset, .unset, .unset, .unset, .unset, .unset] [(.int s4), (.long 2147483647)] (fun t k => XS.iload X0.here hx rfl (hb hby at_28) rfl k) ?_
    refine own_go T0 m 31 #[iv x0, iv x1, iv x2, iv x3, iv s4, .val (.long (((2147483647 : Int64) - s4.toInt64) + (1 : Int64))), .second, .unset, .unset, .unset, .unset, .unset, .unset, .unset, .unset, .unset] [(.long s4.toInt64), (.long 2147483647)] (fun t k => XS.i2l X0.here hx rfl (hb hby at_30) rfl k) ?_
    refine own_go T0 m 32 #[iv x0, iv x1, iv x2, iv x3, iv s4, .val (.long (((2147483647 : Int64) - s4.toInt64) + (1 : Int64))), .second, .unset, .unset, .unset, .unset, .unset, .unset, .unset, .unset, .unset] [(.int x1), (.long s4.toInt64), (.long 2147483647)] (fun t k => XS.iloadN X0.here hx rfl (hb hby at_31) rfl k) ?_
    refine own_go T0 m 33 #[iv x0, iv x1, iv x2, iv x3, iv s4, .val (.long (((2147483647 : Int64) - s4.toInt64) + (1 : Int64))), .second, .unset, .unset, .unset, .unset, .unset, .unset, .unset, .unset, .unset] [(.int 3), (.int x1), (.long s4.toInt64), (.long 2147483647)] (fun t k => XS.iconst X0.here hx rfl (hb hby at_32) k) ?_
    refine own_go T0 m 34 #[iv x0, iv x1, iv x2, iv x3, iv s4, .val (.long (((2147483647 : Int64) - s4.toInt64) + (1 : Int64))), .second, .unset, .unset, .unset, .unset, .unset, .unset, .unset, .unset, .unset] [(.int (x1 &&& (3 : Int32))), (.long s4.toInt64), (.long 2147483647)] (fun t k => XS.iand X0.here hx rfl (hb hby at_33) rfl k) ?_
    refine own_go T0 m 35 #[iv x0, iv x1, iv x2, iv x3, iv s4, .val (.long (((2147483647 : Int64) - s4.toInt64) + (1 : Int64))), .second, .unset, .unset, .unset, .unset, .unset, .unset, .unset, .unset, .unset] [(.long (x1 &&& (3 : Int32)).toInt64), (.long s4.toInt64), (.long 2147483647)] (fun t k => XS.i2l X0.here hx rfl (hb hby at_34) rfl k) ?_
    refine own_go T0 m 36 #[iv x0, iv x1, iv x2, iv x3, iv s4, .val (.long (((2147483647 : Int64) - s4.toInt64) + (1 : Int64))), .second, .unset, .unset, .unset, .unset, .unset, .unset, .unset, .unset, .unset] [(.long (s4.toInt64 + (x1 &&& (3 : Int32)).toInt64)), (.long 2147483647)] (fun t k => XS.ladd X0.here hx rfl (hb hby at_35) rfl k) ?_
    obtain ⟨_, T18, L18, X18, ⟨rfl, e18, rfl⟩, st18⟩ := own_static X0 hx hZ (y := (⟨"java/lang/Math", "min", "(JJ)J"⟩ : MethodName)) hown (own_w hw 30 rfl) (own_w hw 31 rfl) (own_w hw 32 rfl) (own_w hw 33 rfl) (by decide) (rm6 l Z a0 hw [] (2147483647 : Int64) (s4.toInt64 + (x1 &&& (3 : Int32)).toInt64) h0) e0 0 (argsL := [(.long 2147483647), (.long (s4.toInt64 + (x1 &&& (3 : Int32)).toInt64))]) (rest := []) (Ls := #[iv x0, iv x1, iv x2, iv x3, iv s4, .val (.long (((2147483647 : Int64) - s4.toInt64) + (1 : Int64))), .second, .unset, .unset, .unset, .unset, .unset, .unset, .unset, .unset, .unset]) (by rw [hml]; rfl) (lenOf pd__JJ_J rfl) rfl rfl (Nat.le_of_eq rfl) (hb hby at_36) (by decide) (by decide) (by decide) (by decide)
    replace X18 := own_nil X18
    refine own_go T18 m 39 #[iv x0, iv x1, iv x2, iv x3, iv s4, .val (.long (((2147483647 : Int64) - s4.toInt64) + (1 : Int64))), .second, .unset, .unset, .unset, .unset, .unset, .unset, .unset, .unset, .unset] [(.long (own_min (2147483647 : Int64) (s4.toInt64 + (x1 &&& (3 : Int32)).toInt64)))] (st18) ?_
    refine own_go T18 m 41 #[iv x0, iv x1, iv x2, iv x3, iv s4, .val (.long (((2147483647 : Int64) - s4.toInt64) + (1 : Int64))), .second, .val (.long (own_min (2147483647 : Int64) (s4.toInt64 + (x1 &&& (3 : Int32)).toInt64))), .second, .unset, .unset, .unset, .unset, .unset, .unset, .unset] [] (fun t k => XS.lstore X18.here hx rfl (hb hby at_39) rfl rfl k) ?_
    refine own_go T18 m 58 #[iv x0, iv x1, iv x2, iv x3, iv s4, .val (.long (((2147483647 : Int64) - s4.toInt64) + (1 : Int64))), .second, .val (.long (own_min (2147483647 : Int64) (s4.toInt64 + (x1 &&& (3 : Int32)).toInt64))), .second, .unset, .unset, .unset, .unset, .unset, .unset, .unset] [] (fun t k => XS.goto X18.here hx rfl (pc0 := 41) (pc' := 58) rfl (hb hby at_41) (by decide) (by decide) k) ?_
    exact seg58 T18 _ (own_min (2147483647 : Int64) (s4.toInt64 + (x1 &&& (3 : Int32)).toInt64)) X18 e18 N0 (own_e1 s4 x1 hs1).1 (own_e1 s4 x1 hs1).2
set_option maxRecDepth 65536 in
set_option maxHeartbeats 40000000 in
theorem comes_1 {Post : Tables → Env → Array Value → State → Outcome → State → Prop} (hpost : ∀ tb e args s v u, (limb_1_1.after args s (.returned v) u = true ∧ limb_1_2.after args s (.returned v) u = true ∧ True) → FrameEnd s (.returned v) u (Jvm.fieldLocs frame_1_writes args s ++ Jvm.arrayLocs frame_1_arrays args s ++ Jvm.staticLocs frame_1_statics s) 16 128 → Post tb e args s (.returned v) u) :
    ArmFor flags0 classFile x code maxLocals ret World_1 tables_1 room_1 Calls_1 rest_1 Pre_1 Post := by
  intro l hfl _ _ p e ha hc hk s m args below hf hA hF happ hP
  obtain ⟨hcalls, hrest, hpre⟩ := hP
  obtain ⟨-, -, -, hnamed, -, -, -, hat⟩ := (Spec.applies_iff hf).mp happ
  obtain ⟨hg, hn⟩ := and_e (Cond.before_iff.mp (show (Jvm.Cond.and given_1 narrow_1).before args s = true from hpre))
  obtain ⟨gg1, gg2⟩ := and_e hg
  obtain ⟨gg3, gg4⟩ := and_e gg2
  obtain ⟨gg5, gg6⟩ := and_e gg4
  obtain ⟨gg7, gg8⟩ := and_e gg6
  obtain ⟨w0, w1, w2, w3, rfl⟩ : ∃ w0 w1 w2 w3 : Value, args = #[w0, w1, w2, w3] := by
    have hs : args.size = 4 := by simpa [Cond.value, given_1] using gg1
    obtain ⟨L⟩ := args
    match L, hs with
    | [w0, w1, w2, w3], _ => exact ⟨w0, w1, w2, w3, rfl⟩
  have hw := fun d (hd : d ∈ tables_1) => atoms_spec (ws := Jvm.Cond.code x code maxLocals ret :: tables_1) hat d (List.mem_cons_of_mem _ hd)
  have hfit : Fit s := fun {y c} hc i hi => by
    obtain ⟨ha, rfl⟩ := Array.getElem?_eq_some_iff.mp hc
    have q := List.all_eq_true.mp ((Array.all_eq_true_iff_forall_mem.mp hF) _ (Array.getElem_mem ha)) i (List.mem_range.mpr hi)
    simpa [Array.getElem?_eq_getElem hi] using q
  obtain ⟨i0, ei0⟩ := is_v gg3
  obtain rfl : w0 = (.int i0) := Option.some.inj ei0
  obtain ⟨i1, ei1⟩ := is_v gg5
  obtain rfl : w1 = (.int i1) := Option.some.inj ei1
  obtain ⟨i2, ei2⟩ := is_v gg7
  obtain rfl : w2 = (.int i2) := Option.some.inj ei2
  obtain ⟨i3, ei3⟩ := is_v gg8
  obtain rfl : w3 = (.int i3) := Option.some.inj ei3
  obtain ⟨n, o, h1, h2, h3, _, L, rfl, ⟨rfl, N⟩, hq⟩ := rm0 l s _ hw tables_1 i0 i1 i2 i3 s.heap s.heap.size (Nat.le_refl _) p e ha hc hk s m _ below hf ((Spec.applies_iff_loose hf).mp happ).1 ⟨rfl, State.Warmed39.refl s, rfl⟩ trivial
  refine ⟨n, _, h1, h2, h3, hpost _ _ _ _ _ _ ⟨Cond.after_iff.mpr rfl, Cond.after_iff.mpr (eq_i res_at (Term.int_eval (1)) rfl), trivial⟩ ⟨hq.1, hq.2.1, (hq.2.2.sift fun y hy => Or.inr (N y hy)).mono (by decide) (by decide)⟩⟩
theorem main_1_1 : Claimed_1_1 := comes_1 fun _ _ _ _ _ _ h hF => ⟨h.1, hF⟩
theorem main_1_2 : Claimed_1_2 := comes_1 fun _ _ _ _ _ _ h hF => ⟨h.2.1, hF⟩
end Jvm.Pilot.@@N@@
namespace Jvm.Pilot.@@N@@
open Jvm Jvm.ClassFile Sem Op Lib Jvm.Free Jvm.Stand Jvm.Pilot.@@N@@.Jvm.D
/-! MADE BY PROGRAM (witnessworld.py) out of the Statement's table words and the real class files: 11 classes; the members and pool entries that the words name. The judged class is class 1, her method 1. -/
namespace start1
open Jvm.ClassFile
def u (s : String) : CpInfo := .utf8 (stringToUtf16 s)
/-- a pool by its gaps: so many unusable entries, then the entry; so many at the end -/
def gap : Nat → List CpInfo → List CpInfo
  | 0, r => r
  | n + 1, r => .unusable :: gap n r
def poolList (es : List (Nat × CpInfo)) (last : Nat) : List CpInfo := es.foldr (fun e r => gap e.1 (e.2 :: r)) (gap last [])
def pool (es : List (Nat × CpInfo)) (last : Nat) : Array CpInfo := ⟨poolList es last⟩
def fileOf (pool : Array CpInfo) (this : Nat) (attrs : Array Attribute := #[]) (ms : Array MethodInfo := #[]) (fl : Nat := 33) (sup : Nat := 0) (ifs : Array Nat := #[]) (fds : Array FieldInfo := #[]) : ClassFile where
  minorVersion := 0
  majorVersion := 65
  constantPool := pool
  accessFlags := fl
  thisClass := this
  superClass := sup
  interfaces := ifs
  fields := fds
  methods := ms
  attributes := attrs
def plain (name : String) (sup : Option ClassId) : Class where
  name := name
  kind := .ordinary
  loader := none
  accessFlags := 33
  super := sup
  interfaces := #[]
  cf := none
  fields := #[]
  methods := #[]
  instanceTypes := #[]
  staticTypes := #[]
  resolved := #[]
  callSites := []
  init := .initialized
  statics := none
  mirror := none

def pool0 : Array CpInfo := pool [(5, u "<init>"), (0, u "()V"), (1, .class_ 10), (1, u "java/lang/Object")] 113

def k0c0 : Code := { maxStack := 0, maxLocals := 1, code := object_method_1_code, exceptionTable := #[], attributes := #[] }
def k0m0 : Method := { name := "<init>", desc := "()V", sig := { parameters := [], returnType := none }, accessFlags := 1, code := some k0c0 }
/-- java/lang/Object -/
def k0 : Class := { plain "java/lang/Object" none with
  accessFlags := 33
  interfaces := #[]
  cf := some (fileOf pool0 8 #[] #[{ accessFlags := 1, nameIndex := 5, descriptorIndex := 6, attributes := #[] }] 33 0 #[] #[])
  fields := #[]
  methods := #[k0m0]
  instanceTypes := #[]
  staticTypes := #[]
  resolved := Array.replicate 124 none
  statics := none }

def pool1 : Array CpInfo := pool [(2, .class_ 4), (1, u "java/lang/Object"), (0, u "<init>"), (0, u "()V"), (0, .integer 2147483647), (2, .long 2147483647), (1, .methodref 13 14), (0, .class_ 15), (0, .nameAndType 16 17), (0, u "java/lang/Math"), (0, u "min"), (0, u "(JJ)J"), (0, .class_ 19), (0, u "com/example/bowerbird/bowerbird/core/DocumentSet"), (0, .methodref 18 21), (0, .nameAndType 5 22), (0, u "(II)V"), (0, .methodref 18 24), (0, .nameAndType 25 26), (0, u "size"), (0, u "()I"), (0, .methodref 18 28), (0, .nameAndType 29 30), (0, u "contains"), (0, u "(I)Z"), (0, .class_ 32), (0, u "com/example/bowerbird/bowerbird/core/DocumentSetContainsPinLaw"), (2, u "law"), (0, u "(IIII)Z")] 3

def k1m0 : Method := { name := "<init>", desc := "()V", sig := { parameters := [], returnType := none }, accessFlags := 1, code := none }
def k1c1 : Code := { maxStack := 6, maxLocals := 16, code := code, exceptionTable := #[], attributes := #[] }
def k1m1 : Method := { name := "law", desc := "(IIII)Z", sig := { parameters := [.int, .int, .int, .int], returnType := some .boolean }, accessFlags := 9, code := some k1c1 }
/-- com/example/bowerbird/bowerbird/core/DocumentSetContainsPinLaw -/
def k1 : Class := { plain "com/example/bowerbird/bowerbird/core/DocumentSetContainsPinLaw" (some 0) with
  accessFlags := 49
  interfaces := #[]
  cf := some (fileOf pool1 31 #[] #[{ accessFlags := 1, nameIndex := 5, descriptorIndex := 6, attributes := #[] }, { accessFlags := 9, nameIndex := 35, descriptorIndex := 36, attributes := #[] }] 49 2 #[] #[])
  fields := #[]
  methods := #[k1m0, k1m1]
  instanceTypes := #[]
  staticTypes := #[]
  resolved := Array.replicate 40 none
  statics := none }

def pool2 : Array CpInfo := pool [(1, .methodref 2 3), (0, .class_ 4), (0, .nameAndType 5 6), (0, u "java/lang/Object"), (0, u "<init>"), (0, u "()V"), (0, .class_ 8), (0, u "java/lang/Record")] 13

def k2c0 : Code := { maxStack := 1, maxLocals := 1, code := jdk_30_method_1_code, exceptionTable := #[], attributes := #[] }
def k2m0 : Method := { name := "<init>", desc := "()V", sig := { parameters := [], returnType := none }, accessFlags := 4, code := some k2c0 }
/-- java/lang/Record -/
def k2 : Class := { plain "java/lang/Record" (some 0) with
  accessFlags := 1057
  interfaces := #[]
  cf := some (fileOf pool2 7 #[] #[{ accessFlags := 4, nameIndex := 5, descriptorIndex := 6, attributes := #[] }] 1057 2 #[] #[])
  fields := #[]
  methods := #[k2m0]
  instanceTypes := #[]
  staticTypes := #[]
  resolved := Array.replicate 22 none
  statics := none }

def pool3 : Array CpInfo := pool [(1, .methodref 2 3), (0, .class_ 4), (0, .nameAndType 5 6), (0, u "java/lang/Record"), (0, u "<init>"), (0, u "()V"), (9, .fieldref 17 18), (0, .class_ 19), (0, .nameAndType 20 21), (0, u "com/example/bowerbird/bowerbird/core/DocumentSet"), (0, u "start"), (0, u "I"), (0, .fieldref 17 23), (0, .nameAndType 24 21), (0, u "end"), (12, u "(II)V"), (4, u "size"), (0, u "()I"), (0, u "contains"), (0, u "(I)Z")] 31

def k3c0 : Code := { maxStack := 4, maxLocals := 3, code := prog_25_method_1_code, exceptionTable := #[], attributes := #[] }
def k3m0 : Method := { name := "<init>", desc := "(II)V", sig := { parameters := [.int, .int], returnType := none }, accessFlags := 1, code := some k3c0 }
def k3c1 : Code := { maxStack := 2, maxLocals := 1, code := prog_25_method_2_code, exceptionTable := #[], attributes := #[] }
def k3m1 : Method := { name := "size", desc := "()I", sig := { parameters := [], returnType := some .int }, accessFlags := 1, code := some k3c1 }
def k3c2 : Code := { maxStack := 2, maxLocals := 2, code := prog_25_method_3_code, exceptionTable := #[], attributes := #[] }
def k3m2 : Method := { name := "contains", desc := "(I)Z", sig := { parameters := [.int], returnType := some .boolean }, accessFlags := 1, code := some k3c2 }
/-- com/example/bowerbird/bowerbird/core/DocumentSet -/
def k3 : Class := { plain "com/example/bowerbird/bowerbird/core/DocumentSet" (some 2) with
  accessFlags := 49
  interfaces := #[]
  cf := some (fileOf pool3 17 #[] #[{ accessFlags := 1, nameIndex := 5, descriptorIndex := 37, attributes := #[] }, { accessFlags := 1, nameIndex := 42, descriptorIndex := 43, attributes := #[] }, { accessFlags := 1, nameIndex := 44, descriptorIndex := 45, attributes := #[] }] 49 2 #[] #[{ accessFlags := 18, nameIndex := 20, descriptorIndex := 21, attributes := #[] }, { accessFlags := 18, nameIndex := 24, descriptorIndex := 21, attributes := #[] }])
  fields := #[{ name := "start", type := .int, accessFlags := 18, slot := 0, constantValue := 0 }, { name := "end", type := .int, accessFlags := 18, slot := 1, constantValue := 0 }]
  methods := #[k3m0, k3m1, k3m2]
  instanceTypes := #[.int, .int]
  staticTypes := #[]
  resolved := Array.replicate 77 none
  statics := none }

def pool4 : Array CpInfo := pool [(1, .class_ 2), (0, u "java/lang/Math"), (1, .class_ 6), (1, u "java/lang/Object"), (0, u "<init>"), (0, u "()V"), (89, .class_ 100), (1, u "java/lang/Math$RandomNumberGeneratorHolder"), (20, u "(JJ)J"), (50, u "negativeZeroFloatBits"), (0, u "J"), (2, u "negativeZeroDoubleBits"), (24, u "min"), (43, u "$assertionsDisabled"), (0, u "Z"), (91, u "twoToTheDoubleScaleDown"), (0, u "D"), (4, u "twoToTheDoubleScaleUp"), (9, u "E"), (3, u "PI"), (2, u "TAU"), (2, u "DEGREES_TO_RADIANS"), (0, u "RADIANS_TO_DEGREES")] 94

def k4m0 : Method := { name := "<init>", desc := "()V", sig := { parameters := [], returnType := none }, accessFlags := 2, code := none }
def k4c1 : Code := { maxStack := 4, maxLocals := 4, code := jdk_29_method_70_code, exceptionTable := #[], attributes := #[] }
def k4m1 : Method := { name := "min", desc := "(JJ)J", sig := { parameters := [.long, .long], returnType := some .long }, accessFlags := 9, code := some k4c1 }
/-- java/lang/Math -/
def k4 : Class := { plain "java/lang/Math" (some 0) with
  accessFlags := 49
  interfaces := #[]
  cf := some (fileOf pool4 1 #[.nestMembers #[98]] #[{ accessFlags := 2, nameIndex := 7, descriptorIndex := 8, attributes := #[] }, { accessFlags := 9, nameIndex := 201, descriptorIndex := 121, attributes := #[] }] 49 4 #[] #[{ accessFlags := 25, nameIndex := 354, descriptorIndex := 339, attributes := #[] }, { accessFlags := 25, nameIndex := 358, descriptorIndex := 339, attributes := #[] }, { accessFlags := 25, nameIndex := 361, descriptorIndex := 339, attributes := #[] }, { accessFlags := 26, nameIndex := 364, descriptorIndex := 339, attributes := #[] }, { accessFlags := 26, nameIndex := 365, descriptorIndex := 339, attributes := #[] }, { accessFlags := 26, nameIndex := 172, descriptorIndex := 173, attributes := #[] }, { accessFlags := 26, nameIndex := 176, descriptorIndex := 173, attributes := #[] }, { accessFlags := 8, nameIndex := 344, descriptorIndex := 339, attributes := #[] }, { accessFlags := 8, nameIndex := 338, descriptorIndex := 339, attributes := #[] }, { accessFlags := 4120, nameIndex := 245, descriptorIndex := 246, attributes := #[] }])
  fields := #[{ name := "E", type := .double, accessFlags := 25, slot := 0, constantValue := 0 }, { name := "PI", type := .double, accessFlags := 25, slot := 1, constantValue := 0 }, { name := "TAU", type := .double, accessFlags := 25, slot := 2, constantValue := 0 }, { name := "DEGREES_TO_RADIANS", type := .double, accessFlags := 26, slot := 3, constantValue := 0 }, { name := "RADIANS_TO_DEGREES", type := .double, accessFlags := 26, slot := 4, constantValue := 0 }, { name := "negativeZeroFloatBits", type := .long, accessFlags := 26, slot := 5, constantValue := 0 }, { name := "negativeZeroDoubleBits", type := .long, accessFlags := 26, slot := 6, constantValue := 0 }, { name := "twoToTheDoubleScaleUp", type := .double, accessFlags := 8, slot := 7, constantValue := 0 }, { name := "twoToTheDoubleScaleDown", type := .double, accessFlags := 8, slot := 8, constantValue := 0 }, { name := "$assertionsDisabled", type := .boolean, accessFlags := 4120, slot := 9, constantValue := 0 }]
  methods := #[k4m0, k4m1]
  instanceTypes := #[]
  staticTypes := #[.double, .double, .double, .double, .double, .long, .long, .double, .double, .boolean]
  resolved := Array.replicate 460 none
  statics := none }

def pool5 : Array CpInfo := pool [(1, u "java/lang/Cloneable"), (0, .class_ 1), (0, u "java/lang/Object"), (0, .class_ 3)] 3

/-- java/lang/Cloneable -/
def k5 : Class := { plain "java/lang/Cloneable" (some 0) with
  accessFlags := 1537
  interfaces := #[]
  cf := some (fileOf pool5 2 #[] #[] 1537 4 #[] #[])
  fields := #[]
  methods := #[]
  instanceTypes := #[]
  staticTypes := #[]
  resolved := Array.replicate 8 none
  statics := none }

def pool6 : Array CpInfo := pool [(1, u "java/io/Serializable"), (0, .class_ 1), (0, u "java/lang/Object"), (0, .class_ 3)] 3

/-- java/io/Serializable -/
def k6 : Class := { plain "java/io/Serializable" (some 0) with
  accessFlags := 1537
  interfaces := #[]
  cf := some (fileOf pool6 2 #[] #[] 1537 4 #[] #[])
  fields := #[]
  methods := #[]
  instanceTypes := #[]
  staticTypes := #[]
  resolved := Array.replicate 8 none
  statics := none }

/-- the primitive byte -/
def k7 : Class := { plain "byte" none with kind := .primitive 'B', accessFlags := 0x411 }
/-- [B -/
def k8 : Class := { plain "[B" (some 0) with kind := .array 7 .byte, interfaces := #[5, 6], accessFlags := 1041 }

/-- the primitive int -/
def k9 : Class := { plain "int" none with kind := .primitive 'I', accessFlags := 0x411 }
/-- [I -/
def k10 : Class := { plain "[I" (some 0) with kind := .array 9 .int, interfaces := #[5, 6], accessFlags := 1041 }

def heap : Heap := #[]
def classes : Array Class := #[k0, k1, k2, k3, k4, k5, k6, k7, k8, k9, k10]
def interned : List (Array UInt16 × Addr) := []
def slotsUsed : Nat := 0
def theMethod : MethodId := ⟨1, 1⟩
def args0 : Array Value := #[.int 0, .int 0, .int 0, .int 0]
def aboutOver (below : List Frame) : State where
  vm := { classes := classes, interned := interned.toArray }
  heap := heap
  slotsUsed := slotsUsed
  threads := #[{ frames := .invoking theMethod args0 :: below }]
def below0 : List Frame := [.native { method := ⟨0, 0⟩, args := #[] }]
def about1 : State := aboutOver below0
def p0 : Program := .bare "" "" ""
def e0 : Env := launch0.env 0 0 0
theorem w_frames : about1.frames = Frame.invoking theMethod args0 :: below0 := rfl
set_option maxRecDepth 65536 in
theorem w_args : argsFit about1.vm theMethod args0 = true := by decide +kernel
set_option maxRecDepth 65536 in
theorem w_heap : heapFits about1 = true := by decide +kernel
set_option maxRecDepth 65536 in
theorem w_runnable : about1.curStatus? = some .runnable := by decide +kernel
set_option maxRecDepth 65536 in
theorem w_alone : about1.alone = true := by decide +kernel
set_option maxRecDepth 65536 in
theorem w_named : about1.methodNamed? x = some theMethod := by decide +kernel
set_option maxRecDepth 65536 in
theorem w_hears : about1.hears theMethod below0 = true := by decide +kernel
set_option maxRecDepth 65536 in
theorem w_ripe : about1.ripe theMethod args0 below0 = true := by decide +kernel
theorem w_running : about1.status = .running := rfl
set_option maxRecDepth 65536 in
theorem w_room : about1.hasRoom e0.platform room_1 = true :=
  launch0.hasRoom_least _ room_1 (by decide +kernel) (by decide +kernel) (by decide +kernel) (by decide +kernel) (by decide +kernel) (by decide +kernel)
theorem allAtoms_all (ts : List Jvm.Cond) (a : Array Jvm.Value) (st : Jvm.State) : (allAtoms ts).before a st = ts.all (fun c => c.before a st) := by
  induction ts with
  | nil => rfl
  | cons c t ih =>
    show (Jvm.Cond.and c (allAtoms t)).before a st = _
    rw [Jvm.Cond.before_and, ih, List.all_cons]
def words1 : List Jvm.Cond := Jvm.Cond.code x code maxLocals ret :: tables_1
/-- a 'code' word, met by the world's own term for the bytes: nothing is compared byte by byte -/
theorem code_word {y : MethodName} {bytes : ByteArray} {mx : Nat} {rt : Option FieldType} {a : Array Value} {s : State} {m : MethodId} {meth : Method} {c : Code} (h1 : s.methodNamed? y = some m) (h2 : s.vm.method? m = some meth) (h3 : meth.code = some c) (h4 : c.code = bytes)
    (h5 : (c.maxLocals == mx && c.exceptionTable.isEmpty && decide (c.maxStack ≤ mostOperands) && decide (meth.sig.returnType = rt) && !meth.locks && decide (parseMethodDescriptor y.desc = some meth.sig)) = true) : (Jvm.Cond.code y bytes mx rt).before a s = true := by
  simp only [Bool.and_eq_true, beq_iff_eq, Bool.not_eq_true', decide_eq_true_eq] at h5
  obtain ⟨⟨⟨⟨⟨g1, g2⟩, g3⟩, g4⟩, g5⟩, g6⟩ := h5
  simp [Cond.before, Cond.holds, Cond.value, h1, h2, h3, h4, g1, g2, g3, g4, g5, g6]
def isCode : Jvm.Cond → Bool
  | .code _ _ _ _ => true
  | _ => false
theorem all_split {L : List Jvm.Cond} {P : Jvm.Cond → Bool} (h1 : L.all (fun c => isCode c || P c) = true) (h2 : ∀ c ∈ L.filter isCode, P c = true) : L.all P = true := by
  refine List.all_eq_true.mpr fun c hc => ?_
  have h := List.all_eq_true.mp h1 c hc
  rcases Bool.eq_false_or_eq_true (isCode c) with hi | hi
  · exact h2 c (List.mem_filter.mpr ⟨hc, hi⟩)
  · simpa [hi] using h
set_option maxRecDepth 65536 in
theorem w_c0 : (Jvm.Cond.code x code maxLocals ret).before args0 about1 = true := code_word (m := ⟨1, 1⟩) (meth := k1m1) (c := k1c1) (by decide +kernel) rfl rfl rfl (by decide +kernel)
set_option maxRecDepth 65536 in
theorem w_c1 : (Jvm.Cond.code ({ cls := "com/example/bowerbird/bowerbird/core/DocumentSet", name := "<init>", desc := "(II)V" } : Jvm.MethodName) prog_25_method_1_code (3 : Nat) (Option.none : Option Jvm.ClassFile.FieldType)).before args0 about1 = true := code_word (m := ⟨3, 0⟩) (meth := k3m0) (c := k3c0) (by decide +kernel) rfl rfl rfl (by decide +kernel)
set_option maxRecDepth 65536 in
theorem w_c2 : (Jvm.Cond.code ({ cls := "java/lang/Record", name := "<init>", desc := "()V" } : Jvm.MethodName) jdk_30_method_1_code (1 : Nat) (Option.none : Option Jvm.ClassFile.FieldType)).before args0 about1 = true := code_word (m := ⟨2, 0⟩) (meth := k2m0) (c := k2c0) (by decide +kernel) rfl rfl rfl (by decide +kernel)
set_option maxRecDepth 65536 in
theorem w_c3 : (Jvm.Cond.code ({ cls := "java/lang/Object", name := "<init>", desc := "()V" } : Jvm.MethodName) object_method_1_code (1 : Nat) (Option.none : Option Jvm.ClassFile.FieldType)).before args0 about1 = true := code_word (m := ⟨0, 0⟩) (meth := k0m0) (c := k0c0) (by decide +kernel) rfl rfl rfl (by decide +kernel)
set_option maxRecDepth 65536 in
theorem w_c4 : (Jvm.Cond.code ({ cls := "com/example/bowerbird/bowerbird/core/DocumentSet", name := "size", desc := "()I" } : Jvm.MethodName) prog_25_method_2_code (1 : Nat) (Option.some Jvm.ClassFile.FieldType.int)).before args0 about1 = true := code_word (m := ⟨3, 1⟩) (meth := k3m1) (c := k3c1) (by decide +kernel) rfl rfl rfl (by decide +kernel)
set_option maxRecDepth 65536 in
theorem w_c5 : (Jvm.Cond.code ({ cls := "com/example/bowerbird/bowerbird/core/DocumentSet", name := "contains", desc := "(I)Z" } : Jvm.MethodName) prog_25_method_3_code (2 : Nat) (Option.some Jvm.ClassFile.FieldType.boolean)).before args0 about1 = true := code_word (m := ⟨3, 2⟩) (meth := k3m2) (c := k3c2) (by decide +kernel) rfl rfl rfl (by decide +kernel)
set_option maxRecDepth 65536 in
theorem w_c6 : (Jvm.Cond.code ({ cls := "java/lang/Math", name := "min", desc := "(JJ)J" } : Jvm.MethodName) jdk_29_method_70_code (4 : Nat) (Option.some Jvm.ClassFile.FieldType.long)).before args0 about1 = true := code_word (m := ⟨4, 1⟩) (meth := k4m1) (c := k4c1) (by decide +kernel) rfl rfl rfl (by decide +kernel)
def codes1 : List Jvm.Cond := [Jvm.Cond.code x code maxLocals ret, Jvm.Cond.code ({ cls := "com/example/bowerbird/bowerbird/core/DocumentSet", name := "<init>", desc := "(II)V" } : Jvm.MethodName) prog_25_method_1_code (3 : Nat) (Option.none : Option Jvm.ClassFile.FieldType), Jvm.Cond.code ({ cls := "java/lang/Record", name := "<init>", desc := "()V" } : Jvm.MethodName) jdk_30_method_1_code (1 : Nat) (Option.none : Option Jvm.ClassFile.FieldType), Jvm.Cond.code ({ cls := "java/lang/Object", name := "<init>", desc := "()V" } : Jvm.MethodName) object_method_1_code (1 : Nat) (Option.none : Option Jvm.ClassFile.FieldType), Jvm.Cond.code ({ cls := "com/example/bowerbird/bowerbird/core/DocumentSet", name := "size", desc := "()I" } : Jvm.MethodName) prog_25_method_2_code (1 : Nat) (Option.some Jvm.ClassFile.FieldType.int), Jvm.Cond.code ({ cls := "com/example/bowerbird/bowerbird/core/DocumentSet", name := "contains", desc := "(I)Z" } : Jvm.MethodName) prog_25_method_3_code (2 : Nat) (Option.some Jvm.ClassFile.FieldType.boolean), Jvm.Cond.code ({ cls := "java/lang/Math", name := "min", desc := "(JJ)J" } : Jvm.MethodName) jdk_29_method_70_code (4 : Nat) (Option.some Jvm.ClassFile.FieldType.long)]
set_option maxRecDepth 65536 in
theorem codes_eq : words1.filter isCode = codes1 := rfl
theorem w_codes : ∀ c ∈ words1.filter isCode, c.before args0 about1 = true := by
  rw [codes_eq]
  intro c hc
  simp only [codes1, List.mem_cons, List.not_mem_nil, or_false] at hc
  rcases hc with rfl | rfl | rfl | rfl | rfl | rfl | rfl
  · exact w_c0
  · exact w_c1
  · exact w_c2
  · exact w_c3
  · exact w_c4
  · exact w_c5
  · exact w_c6
set_option maxRecDepth 65536 in
theorem w_t1 : (words1.take 24).all (fun c => isCode c || c.before args0 about1) = true := by decide +kernel
set_option maxRecDepth 65536 in
theorem w_t2 : (words1.drop 24).all (fun c => isCode c || c.before args0 about1) = true := by decide +kernel
theorem w_tables : (allAtoms (Jvm.Cond.code x code maxLocals ret :: tables_1)).before args0 about1 = true := by
  rw [allAtoms_all]
  show words1.all (fun c => c.before args0 about1) = true
  refine all_split ?_ w_codes
  rw [← List.take_append_drop 24 words1, List.all_append, w_t1, w_t2]
  rfl
set_option maxRecDepth 65536 in
theorem w_case : (Jvm.Cond.and given_1 narrow_1).before args0 about1 = true := by decide +kernel
theorem w_applies : (headSpec (Jvm.Cond.code x code maxLocals ret :: tables_1) room_1).applies x e0.platform about1 = true :=
  (Spec.applies_iff w_frames).mpr ⟨w_running, w_runnable, w_alone, w_named, w_hears, w_ripe, w_room, w_tables⟩
theorem atStart : AtStart classFile x code maxLocals ret World_1 tables_1 room_1 Calls_1 rest_1 Pre_1 launch0 p0 e0 about1 theMethod args0 below0 :=
  ⟨lists_1, trivial, launch0.admits_env _ _ _, launch0.least_env, fairChoices_fair.cas, fairChoices_fair.clock, w_frames, w_args, w_heap, w_applies, trivial, trivial, w_case⟩
end start1
theorem witness_1 : WitnessClaimed_1 := ⟨start1.p0, start1.e0, start1.about1, start1.theMethod, start1.args0, start1.below0, start1.atStart⟩
end Jvm.Pilot.@@N@@
