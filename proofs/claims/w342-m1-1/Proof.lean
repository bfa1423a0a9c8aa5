import JvmDerived
import JvmDerived.Pilot.@@N@@Statement
import JvmDerived.Pilot.@@N@@Code
set_option linter.unusedVariables false
set_option linter.unusedSimpArgs false
namespace Jvm.RoadKit
open Sem ClassFile Op Lib Jvm.Stand Jvm.Free Jvm.LawKit
section OwnKit
variable {p : Program} {l : Launch} {e : Env} {R : Room} {s : State} {m : MethodId} {args : Array Value} {below : List Frame} {meth : Method} {c : Code} {T : State} {locs : List Loc} {cells slots : Nat} {Z : State} {a0 : Array Value} {h : Heap}
abbrev OwnP : Type := Option Value → Heap → List Loc → Prop
/-- from the state A the run comes back with what P says -/
def OwnG (tb : Tables) (e : Env) (below : List Frame) (s : State) (P : OwnP) (rc rs : Nat) (A : State) : Prop :=
  ∃ s₂ o, Steps tb e below A s₂ ∧ s₂.status = .running ∧ Ended s₂ below o ∧ ∃ v L, o = .returned v ∧ P v s₂.heap L ∧ FrameEnd s o s₂ L rc rs
theorem own_go {tb : Tables} {P : OwnP} {rc rs : Nat} {A : State} (T' : State) (m' : MethodId) (pc : Nat) (Ls : Array Slot) (st : List Value) (f : ∀ t, Steps tb e below (T'.setTop (mkF m' pc Ls st)) t → Steps tb e below A t) (k : OwnG tb e below s P rc rs (T'.setTop (mkF m' pc Ls st))) : OwnG tb e below s P rc rs A := by
  obtain ⟨s₂, o, h1, h2⟩ := k
  exact ⟨s₂, o, f _ h1, h2⟩
theorem own_mono {tb : Tables} {P P' : OwnP} {rc rs : Nat} {A : State} (f : ∀ v h L, P v h L → P' v h L) (k : OwnG tb e below s P rc rs A) : OwnG tb e below s P' rc rs A := by
  obtain ⟨s₂, o, h1, h2, h3, v, L, h4, h5, h6⟩ := k
  exact ⟨s₂, o, h1, h2, h3, v, L, h4, f _ _ _ h5, h6⟩
/-- what a walk knows of the body -/
def OwnX (Z : State) (p : Program) (s : State) (m : MethodId) (meth : Method) (c : Code) (bytes : ByteArray) (maxL : Nat) (ret : Option FieldType) (own nm : String) : Prop :=
  p.tables.exec = Jvm.exec ∧ c.code = bytes ∧ c.maxLocals = maxL ∧ s.vm.findClass own = some m.cls ∧ meth.name = nm ∧ meth.sig.returnType = ret ∧ meth.locks = false ∧ Z.Warmed39 s.vm
/-- a body's contract -/
abbrev OwnC (l : Launch) (Z : State) (y : MethodName) (bytes : ByteArray) (maxL : Nat) (ret : Option FieldType) (ws : List Cond) (rm : Room) (as' : Array Value) (h0 : Heap) (P : OwnP) : Prop :=
  MetFree l y (head1 (Cond.code y bytes maxL ret :: ws) rm) (fun a U => a = as' ∧ Z.Warmed39 U.vm ∧ U.heap = h0) (fun _ _ _ _ _ => True) (fun _ U o U' => ∃ v L, o = .returned v ∧ P v U'.heap L ∧ FrameEnd U o U' L rm.cells rm.slots)
theorem own_entry {y : MethodName} {bytes : ByteArray} {maxL : Nat} {ret : Option FieldType} {ws : List Cond} {rm : Room} {as' : Array Value} {h0 : Heap} {P : OwnP} {Ls : Array Slot} (hpl : plainFor y = true) (ef : ∀ m, entryFrame m as' maxL = mkF m 0 Ls [])
    (body : ∀ (p : Program) (e : Env) (s : State) (m : MethodId) (below : List Frame) (meth : Method) (c : Code) (T : State), Stand p l e rm s m as' below meth c T [] 0 0 → OwnX Z p s m meth c bytes maxL ret y.cls y.name → T.heap = h0 → OwnG p.tables e below s P rm.cells rm.slots (T.setTop (mkF m 0 Ls []))) :
    OwnC l Z y bytes maxL ret ws rm as' h0 P := by
  refine MetFree.of_bodySF hpl hisR ?_
  intro p e s m args below meth c s₁ Bd hml0 hP hK
  obtain ⟨rfl, hZ, hh⟩ := hP
  have e0 : s₁.heap = h0 := by rw [← hh, Bd.state]; rfl
  obtain ⟨s₂, o, h1, h2⟩ := body p e s m below meth c s₁ (Stand.of_body Bd) ⟨Bd.exec, Bd.bytes, hml0, findClass_of_methodNamed Bd.named, (name_of_methodNamed Bd.named Bd.method).1, Bd.returns, Bd.notSynchronized, hZ⟩ e0
  exact ⟨s₂, o, castTop (ef m) h1, h2⟩
theorem own_ret {P : OwnP} {rc rs : Nat} (X : Stand p l e R s m args below meth c T locs cells slots) (hx : p.tables.exec = Jvm.exec) (hlk : meth.locks = false) {pc : Nat} {Ls : Array Slot} {w : Value} {t : FieldType} {i : Instr} {rest : List Value} (hret : meth.sig.returnType = some t) (hn : narrow t w = w)
    (hi : (i = .ireturn ∧ (t = .int ∨ t = .boolean ∨ t = .byte ∨ t = .char ∨ t = .short) ∧ ∃ z, w = .int z) ∨ (i = .lreturn ∧ t = .long ∧ ∃ z, w = .long z) ∨ (i = .dreturn ∧ t = .double ∧ ∃ z, w = .double z) ∨ (i = .freturn ∧ t = .float ∧ ∃ z, w = .float z) ∨ (i = .areturn ∧ t.isReference = true ∧ w.isRef = true))
    (hd : decode c.code pc = .ok (i, 1)) (hc : cells ≤ rc) (hs : slots ≤ rs) (hP : P (some w) T.heap locs) : OwnG p.tables e below s P rc rs (T.setTop (mkF m pc Ls (w :: rest))) := by
  obtain ⟨fs, hr, hrun, hended, hW, hsame⟩ := X.leave (v := some w) (fun h => by rw [hret] at h; cases h) hlk
  exact ⟨_, _, retOut X hx hret hn hi hd hr, hrun, hended, _, _, rfl, hP, ⟨_, rfl⟩, hW, hsame.mono hc hs⟩
theorem own_retI {P : OwnP} {rc rs : Nat} (X : Stand p l e R s m args below meth c T locs cells slots) (hx : p.tables.exec = Jvm.exec) (hlk : meth.locks = false) {pc : Nat} {Ls : Array Slot} {z : Int32} {rest : List Value} (hret : meth.sig.returnType = some .int)
    (hd : decode c.code pc = .ok (.ireturn, 1)) (hc : cells ≤ rc) (hs : slots ≤ rs) (hP : P (some (.int z)) T.heap locs) : OwnG p.tables e below s P rc rs (T.setTop (mkF m pc Ls (.int z :: rest))) :=
  own_ret X hx hlk hret rfl (Or.inl ⟨rfl, Or.inl rfl, z, rfl⟩) hd hc hs hP
theorem own_retZ {P : OwnP} {rc rs : Nat} (X : Stand p l e R s m args below meth c T locs cells slots) (hx : p.tables.exec = Jvm.exec) (hlk : meth.locks = false) {pc : Nat} {Ls : Array Slot} {z : Int32} {rest : List Value} (hret : meth.sig.returnType = some .boolean) (hz : z = 0 ∨ z = 1)
    (hd : decode c.code pc = .ok (.ireturn, 1)) (hc : cells ≤ rc) (hs : slots ≤ rs) (hP : P (some (.int z)) T.heap locs) : OwnG p.tables e below s P rc rs (T.setTop (mkF m pc Ls (.int z :: rest))) :=
  own_ret X hx hlk hret (by rcases hz with rfl | rfl <;> rfl) (Or.inl ⟨rfl, Or.inr (Or.inl rfl), z, rfl⟩) hd hc hs hP
theorem own_retB {P : OwnP} {rc rs : Nat} (X : Stand p l e R s m args below meth c T locs cells slots) (hx : p.tables.exec = Jvm.exec) (hlk : meth.locks = false) {pc : Nat} {Ls : Array Slot} {z : Int32} {rest : List Value} (hret : meth.sig.returnType = some .byte) (hz : narrow .byte (.int z) = .int z)
    (hd : decode c.code pc = .ok (.ireturn, 1)) (hc : cells ≤ rc) (hs : slots ≤ rs) (hP : P (some (.int z)) T.heap locs) : OwnG p.tables e below s P rc rs (T.setTop (mkF m pc Ls (.int z :: rest))) :=
  own_ret X hx hlk hret hz (Or.inl ⟨rfl, Or.inr (Or.inr (Or.inl rfl)), z, rfl⟩) hd hc hs hP
theorem own_retJ {P : OwnP} {rc rs : Nat} (X : Stand p l e R s m args below meth c T locs cells slots) (hx : p.tables.exec = Jvm.exec) (hlk : meth.locks = false) {pc : Nat} {Ls : Array Slot} {z : Int64} {rest : List Value} (hret : meth.sig.returnType = some .long)
    (hd : decode c.code pc = .ok (.lreturn, 1)) (hc : cells ≤ rc) (hs : slots ≤ rs) (hP : P (some (.long z)) T.heap locs) : OwnG p.tables e below s P rc rs (T.setTop (mkF m pc Ls (.long z :: rest))) :=
  own_ret X hx hlk hret rfl (Or.inr (Or.inl ⟨rfl, rfl, z, rfl⟩)) hd hc hs hP
theorem own_retA {P : OwnP} {rc rs : Nat} (X : Stand p l e R s m args below meth c T locs cells slots) (hx : p.tables.exec = Jvm.exec) (hlk : meth.locks = false) {pc : Nat} {Ls : Array Slot} {w : Value} {t : FieldType} {rest : List Value} (hret : meth.sig.returnType = some t) (hn : narrow t w = w) (ht : t.isReference = true) (hw : w.isRef = true)
    (hd : decode c.code pc = .ok (.areturn, 1)) (hc : cells ≤ rc) (hs : slots ≤ rs) (hP : P (some w) T.heap locs) : OwnG p.tables e below s P rc rs (T.setTop (mkF m pc Ls (w :: rest))) :=
  own_ret X hx hlk hret hn (Or.inr (Or.inr (Or.inr (Or.inr ⟨rfl, ht, hw⟩)))) hd hc hs hP
theorem own_retV {P : OwnP} {rc rs : Nat} (X : Stand p l e R s m args below meth c T locs cells slots) (hx : p.tables.exec = Jvm.exec) (hlk : meth.locks = false) {pc : Nat} {Ls : Array Slot} (hret : meth.sig.returnType = none)
    (hd : decode c.code pc = .ok (.return_, 1)) (hc : cells ≤ rc) (hs : slots ≤ rs) (hP : P none T.heap locs) : OwnG p.tables e below s P rc rs (T.setTop (mkF m pc Ls [])) := by
  obtain ⟨fs, hr, hrun, hended, hW, hsame⟩ := X.leave (v := none) (fun _ => rfl) hlk
  exact ⟨_, _, X.returnOut hx hret hd hr, hrun, hended, _, _, rfl, hP, ⟨_, rfl⟩, hW, hsame.mono hc hs⟩
theorem own_static (X : Stand p l e R s m args below meth c T locs cells slots) (hx : p.tables.exec = Jvm.exec) (hZ : Z.Warmed39 s.vm) {own : String} {index : Nat} {y : MethodName} {bytes : ByteArray} {maxL : Nat} {ret : Option FieldType} {rm : Room} {as' : Array Value} {P : OwnP}
    (hown : s.vm.findClass own = some m.cls) (w1 : (Cond.methodLink own index y).before a0 Z = true) (w2 : (Cond.static y).before a0 Z = true) (w3 : (Cond.initialized y.cls).before a0 Z = true) (w4 : (Cond.code y bytes maxL ret).before a0 Z = true) (hy : y.cls ≠ "java/lang/invoke/MethodHandle" ∧ y.cls ≠ "java/lang/invoke/VarHandle")
    (hM : OwnC l Z y bytes maxL ret [] rm as' h P) (eT : T.heap = h) {pc : Nat} {Ls : Array Slot} {argsL rest : List Value} (W : Nat) {st : List Value} (hsz : Ls.size = c.maxLocals) (hlen : ∀ sig, parseMethodDescriptor y.desc = some sig → argsL.length = sig.parameters.length) (has : argsL.toArray = as') (hst : st = argsL.reverse ++ rest) (hW : (rest.map fun v => v.category).sum ≤ W)
    (hd : decode c.code pc = .ok (.invokestatic index, 3)) (hf : rm.frames + 1 ≤ R.frames) (hl : W + (maxL + 11) + rm.locals ≤ R.locals) (hc : cells + rm.cells ≤ R.cells) (hs : slots + rm.slots ≤ R.slots) :
    ∃ v T' L, Stand p l e R s m args below meth c T' (locs ++ L) (cells + rm.cells) (slots + rm.slots) ∧ P v T'.heap L ∧ ∀ t, Steps p.tables e below (T'.setTop (mkF m (pc + 3) Ls (v.toList ++ rest))) t → Steps p.tables e below (T.setTop (mkF m pc Ls st)) t := by
  obtain ⟨v, vm₁, ⟨T', L', k', n'⟩, -, X', ⟨L, hQ, l1, l2, l3⟩, stp⟩ := Jvm.LawKit.callS X hx hown (mvT hZ w1) (mvT hZ w2) (mvT hZ w3) (mvT hZ w4) hy (backOf (W := W) hM hZ w4 w3 hf hl) (g := mkF m pc Ls st) rfl hsz (argsL := argsL) (rest := rest) hlen hst (by show 2 * 0 + _ ≤ _; omega) hd (fun _ _ => ⟨has, eT, hc, hs⟩)
  dsimp only [Pt.U, Pt.locs, Pt.cells, Pt.slots] at X' l1 l2 l3 stp hQ
  subst l1 l2 l3
  exact ⟨v, T', L, X', hQ, stp⟩
theorem own_init (X : Stand p l e R s m args below meth c T locs cells slots) (hx : p.tables.exec = Jvm.exec) (hZ : Z.Warmed39 s.vm) {own : String} {index : Nat} {y : MethodName} {bytes : ByteArray} {maxL : Nat} {rm : Room} {as' : Array Value} {P : OwnP} (hy1 : y.name = "<init>")
    (hown : s.vm.findClass own = some m.cls) (w1 : (Cond.methodLink own index y).before a0 Z = true) (w2 : (Cond.instanceMethod y).before a0 Z = true) (w3 : (Cond.initialized y.cls).before a0 Z = true) (w4 : (Cond.code y bytes maxL none).before a0 Z = true) (hy : y.cls ≠ "java/lang/invoke/MethodHandle" ∧ y.cls ≠ "java/lang/invoke/VarHandle")
    (hM : OwnC l Z y bytes maxL none [] rm as' h P) (eT : T.heap = h) {pc : Nat} {Ls : Array Slot} {a : Addr} {argsL rest : List Value} (W : Nat) {st : List Value} (hsz : Ls.size = c.maxLocals) (hlen : ∀ sig, parseMethodDescriptor y.desc = some sig → argsL.length = sig.parameters.length) (has : (.ref a :: argsL).toArray = as') (hst : st = argsL.reverse ++ .ref a :: rest) (hW : (rest.map fun v => v.category).sum ≤ W)
    (hd : decode c.code pc = .ok (.invokespecial index, 3)) (hf : rm.frames + 1 ≤ R.frames) (hl : W + (maxL + 11) + rm.locals ≤ R.locals) (hc : cells + rm.cells ≤ R.cells) (hs : slots + rm.slots ≤ R.slots) :
    ∃ v T' L, Stand p l e R s m args below meth c T' (locs ++ L) (cells + rm.cells) (slots + rm.slots) ∧ P v T'.heap L ∧ ∀ t, Steps p.tables e below (T'.setTop (mkF m (pc + 3) Ls (v.toList ++ rest))) t → Steps p.tables e below (T.setTop (mkF m pc Ls st)) t := by
  obtain ⟨v, vm₁, ⟨T', L', k', n'⟩, -, X', ⟨L, hQ, l1, l2, l3⟩, stp⟩ := X.specialBack hx hy1 hown (mvT hZ w1) (mvT hZ w2) (mvT hZ w4) hy (backOf (W := W) hM hZ w4 w3 hf hl) (g := mkF m pc Ls st) rfl hsz (Steps.refl _) (a := a) (argsL := argsL) (rest := rest) hlen hst (by show 2 * 0 + _ ≤ _; omega) hd (fun _ _ => ⟨has, eT, hc, hs⟩)
  dsimp only [Pt.U, Pt.locs, Pt.cells, Pt.slots] at X' l1 l2 l3 stp hQ
  subst l1 l2 l3
  exact ⟨v, T', L, X', hQ, fun t k => stp.trans k⟩
theorem own_virtual (X : Stand p l e R s m args below meth c T locs cells slots) (hx : p.tables.exec = Jvm.exec) (hZ : Z.Warmed39 s.vm) {own C : String} {index : Nat} {y z : MethodName} {bytes : ByteArray} {maxL : Nat} {ret : Option FieldType} {rm : Room} {as' : Array Value} {P : OwnP}
    (hown : s.vm.findClass own = some m.cls) (w1 : (Cond.methodLink own index y).before a0 Z = true) (w2 : (Cond.declares y).before a0 Z = true) (hnf : NotFace s y) (w5 : (Cond.selects C y z).before a0 Z = true) (w6 : (Cond.instanceMethod z).before a0 Z = true) (w3 : (Cond.initialized z.cls).before a0 Z = true) (w4 : (Cond.code z bytes maxL ret).before a0 Z = true) (hy : y.cls ≠ "java/lang/invoke/MethodHandle" ∧ y.cls ≠ "java/lang/invoke/VarHandle")
    (hM : OwnC l Z z bytes maxL ret [] rm as' h P) (eT : T.heap = h) {a : Addr} (E : Exa Z h a C) {pc : Nat} {Ls : Array Slot} {argsL rest : List Value} (W : Nat) {st : List Value} (hsz : Ls.size = c.maxLocals) (hlen : ∀ sig, parseMethodDescriptor y.desc = some sig → argsL.length = sig.parameters.length) (has : (.ref a :: argsL).toArray = as') (hst : st = argsL.reverse ++ .ref a :: rest) (hW : (rest.map fun v => v.category).sum ≤ W)
    (hd : decode c.code pc = .ok (.invokevirtual index, 3)) (hf : rm.frames + 1 ≤ R.frames) (hl : W + (maxL + 11) + rm.locals ≤ R.locals) (hc : cells + rm.cells ≤ R.cells) (hs : slots + rm.slots ≤ R.slots) :
    ∃ v T' L, Stand p l e R s m args below meth c T' (locs ++ L) (cells + rm.cells) (slots + rm.slots) ∧ P v T'.heap L ∧ ∀ t, Steps p.tables e below (T'.setTop (mkF m (pc + 3) Ls (v.toList ++ rest))) t → Steps p.tables e below (T.setTop (mkF m pc Ls st)) t := by
  obtain ⟨cq, kq, qa, qb, qc⟩ := isOf hZ eT E
  obtain ⟨v, vm₁, ⟨T', L', k', n'⟩, -, X', ⟨L, hQ, l1, l2, l3⟩, stp⟩ := X.virtualBack hx (y := y) (z := z) hown (mvT hZ w1) (mvT hZ w2) hnf (mvT hZ w5) (mvT hZ w6) hy (backOf (W := W) hM hZ w4 w3 hf hl) qa qc (g := mkF m pc Ls st) rfl hsz (Steps.refl _) (argsL := argsL) (rest := rest) hlen hst (by show 2 * 0 + _ ≤ _; omega) hd (fun _ _ => ⟨has, eT, hc, hs⟩)
  dsimp only [Pt.U, Pt.locs, Pt.cells, Pt.slots] at X' l1 l2 l3 stp hQ
  subst l1 l2 l3
  exact ⟨v, T', L, X', hQ, fun t k => stp.trans k⟩
/-- a body that writes nothing and makes nothing -/
def OwnPure (w : Value) (h0 : Heap) : OwnP := fun v h L => v = some w ∧ h = h0 ∧ L = []
theorem own_nil (X : Stand p l e R s m args below meth c T (locs ++ []) cells slots) : Stand p l e R s m args below meth c T locs cells slots := by rwa [List.append_nil] at X
theorem own_iaload (X : Stand p l e R s m args below meth c T locs cells slots) (hx : p.tables.exec = Jvm.exec) (hZ : Z.Warmed39 s.vm) (eT : T.heap = h) {a : Addr} {k : ClassId} {n : Int32} {vs : List Value} {dv : Value} (V : Arv Z h a k .int n vs dv) {j x : Int32} (hj : ¬ j < 0 ∧ j < n) (hv : vs.getD j.toNatClampNeg dv = .int x)
    {pc : Nat} {Ls : Array Slot} {rest : List Value} (hd : decode c.code pc = .ok (.iaload, 1)) : ∀ t, Steps p.tables e below (T.setTop (mkF m (pc + 1) Ls (.int x :: rest))) t → Steps p.tables e below (T.setTop (mkF m pc Ls (.int j :: .ref a :: rest))) t := by
  obtain ⟨cl, A, -, S, -, H, -⟩ := V
  exact fun t k => X.iaload hx (by rw [eT]; exact A.1) (State.isArrayOf_alike hZ.alike A.2.1) A.2.2 (inb_of S hj) (H.at (inb_of S hj) hv) (g := mkF m pc Ls (.int j :: .ref a :: rest)) rfl rfl hd t k
theorem own_baload (X : Stand p l e R s m args below meth c T locs cells slots) (hx : p.tables.exec = Jvm.exec) (hZ : Z.Warmed39 s.vm) (eT : T.heap = h) {a : Addr} {k : ClassId} {n : Int32} {vs : List Value} {dv : Value} (V : Arv Z h a k .byte n vs dv) {j x : Int32} (hj : ¬ j < 0 ∧ j < n) (hv : vs.getD j.toNatClampNeg dv = .int x)
    {pc : Nat} {Ls : Array Slot} {rest : List Value} (hd : decode c.code pc = .ok (.baload, 1)) : ∀ t, Steps p.tables e below (T.setTop (mkF m (pc + 1) Ls (.int x :: rest))) t → Steps p.tables e below (T.setTop (mkF m pc Ls (.int j :: .ref a :: rest))) t := by
  obtain ⟨cl, A, -, S, -, H, -⟩ := V
  exact fun t k => X.baloadBytes hx (by rw [eT]; exact A.1) (State.isArrayOf_alike hZ.alike A.2.1) A.2.2 (inb_of S hj) (H.at (inb_of S hj) hv) (g := mkF m pc Ls (.int j :: .ref a :: rest)) rfl rfl hd t k
theorem own_aaload (X : Stand p l e R s m args below meth c T locs cells slots) (hx : p.tables.exec = Jvm.exec) (hZ : Z.Warmed39 s.vm) (eT : T.heap = h) {a : Addr} {k : ClassId} {ty : FieldType} {n : Int32} {vs : List Value} {dv : Value} (V : Arv Z h a k ty n vs dv) (hty : ty.isReference = true) {j : Int32} {w : Value} (hj : ¬ j < 0 ∧ j < n) (hv : vs.getD j.toNatClampNeg dv = w)
    {pc : Nat} {Ls : Array Slot} {rest : List Value} (hd : decode c.code pc = .ok (.aaload, 1)) : ∀ t, Steps p.tables e below (T.setTop (mkF m (pc + 1) Ls (w :: rest))) t → Steps p.tables e below (T.setTop (mkF m pc Ls (.int j :: .ref a :: rest))) t := by
  obtain ⟨cl, A, -, S, -, H, -⟩ := V
  exact fun t k => X.aaload hx (by rw [eT]; exact A.1) (State.isArrayOf_alike hZ.alike A.2.1) hty A.2.2 (inb_of S hj) (H.at (inb_of S hj) hv) (g := mkF m pc Ls (.int j :: .ref a :: rest)) rfl rfl hd t k
theorem own_alen (X : Stand p l e R s m args below meth c T locs cells slots) (hx : p.tables.exec = Jvm.exec) (hZ : Z.Warmed39 s.vm) (eT : T.heap = h) {a : Addr} {k : ClassId} {ty : FieldType} {n : Int32} {vs : List Value} {dv : Value} (V : Arv Z h a k ty n vs dv)
    {pc : Nat} {Ls : Array Slot} {rest : List Value} (hd : decode c.code pc = .ok (.arraylength, 1)) : ∀ t, Steps p.tables e below (T.setTop (mkF m (pc + 1) Ls (.int n :: rest))) t → Steps p.tables e below (T.setTop (mkF m pc Ls (.ref a :: rest))) t := by
  obtain ⟨cl, A, -, S, N, H, -⟩ := V
  intro t q
  refine X.arraylength hx (by rw [eT]; exact A.1) (State.isArrayOf_alike hZ.alike A.2.1) (g := mkF m pc Ls (.ref a :: rest)) rfl rfl hd t ?_
  rw [len_of S N]
  exact q
theorem own_iastore (X : Stand p l e R s m args below meth c T locs cells slots) (hx : p.tables.exec = Jvm.exec) (hZ : Z.Warmed39 s.vm) (eT : T.heap = h) {a : Addr} {k : ClassId} {n : Int32} {vs : List Value} {dv : Value} (V : Arv Z h a k .int n vs dv) {j x : Int32} (hj : ¬ j < 0 ∧ j < n) (i : Nat) (hi : j.toNatClampNeg = i) (hl : i < vs.length)
    {pc : Nat} {Ls : Array Slot} {rest : List Value} (hd : decode c.code pc = .ok (.iastore, 1)) : ∃ T' h', Stand p l e R s m args below meth c T' (locs ++ [⟨a, i⟩]) cells slots ∧ T'.heap = h' ∧ Wr h h' a i (.int x) ∧ Arv Z h' a k .int n (vs.set i (.int x)) dv ∧ ∀ t, Steps p.tables e below (T'.setTop (mkF m (pc + 1) Ls rest)) t → Steps p.tables e below (T.setTop (mkF m pc Ls (.int x :: .int j :: .ref a :: rest))) t := by
  obtain ⟨cl, A, q1, S, N, H, G⟩ := V
  obtain ⟨T', h', X', e', W', st⟩ := stI X hx hZ eT A (j := j) (x := x) (inb_of S hj) (g := mkF m pc Ls (.int x :: .int j :: .ref a :: rest)) rfl rfl hd
  have V' := Arv.set A q1 S N H G (v := .int x) rfl W' i hi hl
  rw [hi] at X' W'
  exact ⟨T', h', X', e', W', V', st⟩
theorem own_bastore (X : Stand p l e R s m args below meth c T locs cells slots) (hx : p.tables.exec = Jvm.exec) (hZ : Z.Warmed39 s.vm) (eT : T.heap = h) {a : Addr} {k : ClassId} {n : Int32} {vs : List Value} {dv : Value} (V : Arv Z h a k .byte n vs dv) {j x : Int32} (hj : ¬ j < 0 ∧ j < n) (i : Nat) (hi : j.toNatClampNeg = i) (hl : i < vs.length)
    {pc : Nat} {Ls : Array Slot} {rest : List Value} (hd : decode c.code pc = .ok (.bastore, 1)) : ∃ T' h', Stand p l e R s m args below meth c T' (locs ++ [⟨a, i⟩]) cells slots ∧ T'.heap = h' ∧ Wr h h' a i (.int x.toInt8.toInt32) ∧ Arv Z h' a k .byte n (vs.set i (.int x.toInt8.toInt32)) dv ∧ ∀ t, Steps p.tables e below (T'.setTop (mkF m (pc + 1) Ls rest)) t → Steps p.tables e below (T.setTop (mkF m pc Ls (.int x :: .int j :: .ref a :: rest))) t := by
  obtain ⟨cl, A, q1, S, N, H, G⟩ := V
  obtain ⟨T', h', X', e', W', st⟩ := stB X hx hZ eT A (j := j) (x := x) (inb_of S hj) (g := mkF m pc Ls (.int x :: .int j :: .ref a :: rest)) rfl rfl hd
  have V' := Arv.set A q1 S N H G (v := .int x.toInt8.toInt32) (fits_nar_byte x) W' i hi hl
  rw [hi] at X' W'
  exact ⟨T', h', X', e', W', V', st⟩
theorem own_aastore (X : Stand p l e R s m args below meth c T locs cells slots) (hx : p.tables.exec = Jvm.exec) (hZ : Z.Warmed39 s.vm) (eT : T.heap = h) {a : Addr} {k : ClassId} {ty : FieldType} {n : Int32} {vs : List Value} {dv : Value} (V : Arv Z h a k ty n vs dv) (hty : ty.isReference = true) {C : String} (O : Ovr Z k C) {y : Addr} (I : Ins Z h y C true) {j : Int32} (hj : ¬ j < 0 ∧ j < n) (i : Nat) (hi : j.toNatClampNeg = i) (hl : i < vs.length)
    {pc : Nat} {Ls : Array Slot} {rest : List Value} (hd : decode c.code pc = .ok (.aastore, 1)) : ∃ T' h', Stand p l e R s m args below meth c T' (locs ++ [⟨a, i⟩]) cells slots ∧ T'.heap = h' ∧ Wr h h' a i (.ref y) ∧ Arv Z h' a k ty n (vs.set i (.ref y)) dv ∧ ∀ t, Steps p.tables e below (T'.setTop (mkF m (pc + 1) Ls rest)) t → Steps p.tables e below (T.setTop (mkF m pc Ls (.ref y :: .int j :: .ref a :: rest))) t := by
  obtain ⟨cl, A, q1, S, N, H, G⟩ := V
  obtain ⟨T', h', X', e', W', st⟩ := stR X hx hZ eT A (j := j) (v := .ref y) (inb_of S hj) hty (Sto.ofV A q1 O I) (g := mkF m pc Ls (.ref y :: .int j :: .ref a :: rest)) rfl rfl hd
  have V' := Arv.set A q1 S N H G (v := .ref y) (by cases ty <;> first | rfl | (simp [FieldType.isReference] at hty)) W' i hi hl
  rw [hi] at X' W'
  exact ⟨T', h', X', e', W', V', st⟩
theorem own_lt_eq {x y : Int64} (h : x = y) : lcmpW x y = 0 := (lw_eq x y).mpr h
theorem own_rem_ne {x y : Int32} {target : State} {g : JFrame} (X : Stand p l e R s m args below meth c T locs cells slots) (hx : p.tables.exec = Jvm.exec) (hg : g.method = m) {rest : List Value} (hd : decode c.code g.pc = .ok (.irem, 1)) (hs : g.stack = .int y :: .int x :: rest) (hy : y ≠ 0)
    (hr : Steps p.tables e below (T.setTop { g with pc := g.pc + 1, stack := .int (x % y) :: rest }) target) : Steps p.tables e below (T.setTop g) target := iremM X hx hg hd hs hy hr
theorem own_lrem {x y : Int64} {target : State} {g : JFrame} (X : Stand p l e R s m args below meth c T locs cells slots) (hx : p.tables.exec = Jvm.exec) (hg : g.method = m) {rest : List Value} (hd : decode c.code g.pc = .ok (.lrem, 1)) (hs : g.stack = .long y :: .long x :: rest) (hy : y ≠ 0)
    (hr : Steps p.tables e below (T.setTop { g with pc := g.pc + 1, stack := .long (x % y) :: rest }) target) : Steps p.tables e below (T.setTop g) target := by
  refine XS.lrem X.here hx hg hd hs hy ?_
  rw [lrem_mod]
  exact hr
theorem own_fld_int {args : Array Value} {t : Term} {C n d : String} {k : Int32} {a : Addr} (ev : t.eval args Z none [] Z = some (.ref a)) (h : (Cond.eq (Term.field t C n d) (Term.int k)).value args Z none Z [] = some true) : Fld Z Z.heap a C n d (.int k) := by
  obtain ⟨x, y, h1, h2, h3, h4⟩ := cmp_v (Or.inl h)
  have hy : y = .int k := by rw [Term.int_eval] at h2; exact (Option.some.inj h2).symm
  subst hy
  obtain ⟨z, rfl⟩ : ∃ z, x = .int z := h4
  have hz : z = k := by simpa [Cond.value, h1, h2] using h
  subst hz
  rw [fld_at ev] at h1
  exact Fld.start h1
theorem own_sta_keep {C n d : String} {v : Value} {h' : Heap} (F : Sta Z h C n d v) (K : Keep h h' []) : Sta Z h' C n d v := by
  obtain ⟨cf, i, k, f, st, cell, h1, h2, h3, h4, h5, h6⟩ := F
  exact ⟨cf, i, k, f, st, cell, h1, h2, h3, h4, K.2.1 _ _ h5 nin0, h6⟩
/-- the objects of C are no K: C's superclasses are named, K is a class that has objects -/
theorem own_nsroot {O K : String} {n : Nat} (w : (Cond.noSuperclass O).before a0 Z = true) (wk : (Cond.instantiable K n).before a0 Z = true) (hn : O ≠ K) : NS Z O K := by
  obtain ⟨c, k, h1, h2, h3, -, -⟩ := Cond.noSuperclass_spec w
  obtain ⟨t, kt, g1, -⟩ := Cond.instantiable_spec wk
  have ne := ids_ne h1 g1 hn
  refine ⟨c, t, h1, g1, fun fuel => ?_⟩
  cases fuel with
  | zero => rfl
  | succ f => simp [Vm.isSubclassAux, ne, h2, h3]
theorem own_nsno {C S K : String} {n : Nat} (w : (Cond.superclass C S).before a0 Z = true) (wk : (Cond.instantiable K n).before a0 Z = true) (q : NS Z C K) (hn : C ≠ K) : ∃ c t, Z.vm.findClass C = some c ∧ Z.vm.findClass K = some t ∧ Z.vm.assignable c t = false := by
  obtain ⟨c, t, h0, g0, n3⟩ := q
  obtain ⟨p, k, kp, h1, h2, h3, h4, h5, -, h7⟩ := Cond.superclass_spec h0 w
  obtain ⟨t', kt, g1, g2, g3, g4, -⟩ := Cond.instantiable_spec wk
  cases g0.symm.trans g1
  have g5 : kt.isInterface = false := by
    cases hq : kt.isInterface with
    | false => rfl
    | true => rw [hq] at g4; simp at g4
  have ne := ids_ne h0 g0 hn
  refine ⟨c, t, h0, g0, ?_⟩
  show Z.vm.assignableAux (255 + 1) c t = false
  simp [Vm.assignableAux, ne, h2, g2, h5, g3, g5, Vm.isSubclass, n3]
theorem own_s16 (x : Int32) : x.toInt16.toInt32.toInt16.toInt32 = x.toInt16.toInt32 := by simp
theorem own_virtualUp (X : Stand p l e R s m args below meth c T locs cells slots) (hx : p.tables.exec = Jvm.exec) (hZ : Z.Warmed39 s.vm) {own C owner : String} {index : Nat} {x y : MethodName} {bytes : ByteArray} {maxL : Nat} {ret : Option FieldType} {rm : Room} {as' : Array Value} {P : OwnP}
    (hown : s.vm.findClass own = some m.cls) (w1 : (Cond.methodLink own index x).before a0 Z = true) (w2 : (Cond.sameMethod x.cls owner x.name x.desc).before a0 Z = true) (w7 : (Cond.declares ⟨owner, x.name, x.desc⟩).before a0 Z = true) (hy : owner ≠ "java/lang/invoke/MethodHandle" ∧ owner ≠ "java/lang/invoke/VarHandle") (w5 : (Cond.selects C x y).before a0 Z = true) (w6 : (Cond.instanceMethod y).before a0 Z = true) (w3 : (Cond.initialized y.cls).before a0 Z = true) (w4 : (Cond.code y bytes maxL ret).before a0 Z = true)
    (hM : OwnC l Z y bytes maxL ret [] rm as' h P) (eT : T.heap = h) {a : Addr} (E : Exa Z h a C) {pc : Nat} {Ls : Array Slot} {argsL rest : List Value} (W : Nat) {st : List Value} (hsz : Ls.size = c.maxLocals) (hlen : ∀ sig, parseMethodDescriptor x.desc = some sig → argsL.length = sig.parameters.length) (has : (.ref a :: argsL).toArray = as') (hst : st = argsL.reverse ++ .ref a :: rest) (hW : (rest.map fun v => v.category).sum ≤ W)
    (hd : decode c.code pc = .ok (.invokevirtual index, 3)) (hf : rm.frames + 1 ≤ R.frames) (hl : W + (maxL + 11) + rm.locals ≤ R.locals) (hc : cells + rm.cells ≤ R.cells) (hs : slots + rm.slots ≤ R.slots) :
    ∃ v T' L, Stand p l e R s m args below meth c T' (locs ++ L) (cells + rm.cells) (slots + rm.slots) ∧ P v T'.heap L ∧ ∀ t, Steps p.tables e below (T'.setTop (mkF m (pc + 3) Ls (v.toList ++ rest))) t → Steps p.tables e below (T.setTop (mkF m pc Ls st)) t := by
  obtain ⟨cq, kq, qa, qb, qc⟩ := isOf hZ eT E
  obtain ⟨v, vm₁, ⟨T', L', k', n'⟩, -, X', ⟨L, hQ, l1, l2, l3⟩, stp⟩ := X.virtualBackUp hx (x := x) (y := y) hown (mvT hZ w1) (mvT hZ w2) (mvT hZ w7) hy (mvT hZ w5) (mvT hZ w6) (backOf (W := W) hM hZ w4 w3 hf hl) qa qc (g := mkF m pc Ls st) rfl hsz (Steps.refl _) (argsL := argsL) (rest := rest) hlen hst (by show 2 * 0 + _ ≤ _; omega) hd (fun _ _ => ⟨has, eT, hc, hs⟩)
  dsimp only [Pt.U, Pt.locs, Pt.cells, Pt.slots] at X' l1 l2 l3 stp hQ
  subst l1 l2 l3
  exact ⟨v, T', L, X', hQ, fun t k => stp.trans k⟩
theorem own_castore (X : Stand p l e R s m args below meth c T locs cells slots) (hx : p.tables.exec = Jvm.exec) (hZ : Z.Warmed39 s.vm) (eT : T.heap = h) {a : Addr} {k : ClassId} {n : Int32} {vs : List Value} {dv : Value} (V : Arv Z h a k .char n vs dv) {j x : Int32} (hj : ¬ j < 0 ∧ j < n) (i : Nat) (hi : j.toNatClampNeg = i) (hl : i < vs.length)
    {pc : Nat} {Ls : Array Slot} {rest : List Value} (hd : decode c.code pc = .ok (.castore, 1)) : ∃ T' h', Stand p l e R s m args below meth c T' (locs ++ [⟨a, i⟩]) cells slots ∧ T'.heap = h' ∧ Wr h h' a i (.int x.toUInt32.toUInt16.toUInt32.toInt32) ∧ Arv Z h' a k .char n (vs.set i (.int x.toUInt32.toUInt16.toUInt32.toInt32)) dv ∧ ∀ t, Steps p.tables e below (T'.setTop (mkF m (pc + 1) Ls rest)) t → Steps p.tables e below (T.setTop (mkF m pc Ls (.int x :: .int j :: .ref a :: rest))) t := by
  obtain ⟨cl, A, q1, S, N, H, G⟩ := V
  obtain ⟨T', h', X', e', W', st⟩ := stC X hx hZ eT A (j := j) (x := x) (inb_of S hj) (g := mkF m pc Ls (.int x :: .int j :: .ref a :: rest)) rfl rfl hd
  have V' := Arv.set A q1 S N H G (v := .int x.toUInt32.toUInt16.toUInt32.toInt32) (fits_nar_char x) W' i hi hl
  rw [hi] at X' W'
  exact ⟨T', h', X', e', W', V', st⟩
theorem own_sta_keep1 {C n d C' : String} {v : Value} {h' : Heap} {a : Addr} (F : Sta Z h C n d v) (K : Keep h h' [a]) (E : Exa Z h a C') : Sta Z h' C n d v := by
  obtain ⟨cf, i, k, f, st, cell, h1, h2, h3, h4, h5, h6, h7⟩ := F
  obtain ⟨cell', k', e1, -, -, e4, -⟩ := E
  have hne : st ≠ a := fun q => by
    subst q
    cases h5.symm.trans e1
    rw [h6] at e4
    cases e4
  exact ⟨cf, i, k, f, st, cell, h1, h2, h3, h4, K.2.1 _ _ h5 (ninS hne nin0), h6, h7⟩
theorem own_private (X : Stand p l e R s m args below meth c T locs cells slots) (hx : p.tables.exec = Jvm.exec) (hZ : Z.Warmed39 s.vm) {own C : String} {index n : Nat} {y : MethodName} {bytes : ByteArray} {maxL : Nat} {ret : Option FieldType} {rm : Room} {as' : Array Value} {P : OwnP}
    (hown : s.vm.findClass own = some m.cls) (w1 : (Cond.methodLink own index y).before a0 Z = true) (w2 : (Cond.instanceMethod y).before a0 Z = true) (wp : (Cond.privateMethod y).before a0 Z = true) (wi : (Cond.instantiable y.cls n).before a0 Z = true) (w3 : (Cond.initialized y.cls).before a0 Z = true) (w4 : (Cond.code y bytes maxL ret).before a0 Z = true) (hy : y.cls ≠ "java/lang/invoke/MethodHandle" ∧ y.cls ≠ "java/lang/invoke/VarHandle")
    (hM : OwnC l Z y bytes maxL ret [] rm as' h P) (eT : T.heap = h) {a : Addr} (E : Exa Z h a C) {pc : Nat} {Ls : Array Slot} {argsL rest : List Value} (W : Nat) {st : List Value} (hsz : Ls.size = c.maxLocals) (hlen : ∀ sig, parseMethodDescriptor y.desc = some sig → argsL.length = sig.parameters.length) (has : (.ref a :: argsL).toArray = as') (hst : st = argsL.reverse ++ .ref a :: rest) (hW : (rest.map fun v => v.category).sum ≤ W)
    (hd : decode c.code pc = .ok (.invokevirtual index, 3)) (hf : rm.frames + 1 ≤ R.frames) (hl : W + (maxL + 11) + rm.locals ≤ R.locals) (hc : cells + rm.cells ≤ R.cells) (hs : slots + rm.slots ≤ R.slots) :
    ∃ v T' L, Stand p l e R s m args below meth c T' (locs ++ L) (cells + rm.cells) (slots + rm.slots) ∧ P v T'.heap L ∧ ∀ t, Steps p.tables e below (T'.setTop (mkF m (pc + 3) Ls (v.toList ++ rest))) t → Steps p.tables e below (T.setTop (mkF m pc Ls st)) t := by
  obtain ⟨cell, hcell, hobj⟩ := E.cell
  have hpriv := Cond.privateMethod_at (mvP hZ wp (args := args))
  obtain ⟨ci, ki, i1, i2, i3, i4, -⟩ := Cond.instantiable_spec (show (Cond.instantiable y.cls n).before args s = true from mvT hZ wi)
  have hni : ki.isInterface = false := by
    cases hq : ki.isInterface with
    | false => rfl
    | true => rw [hq] at i4; simp at i4
  have hsel := selects_self_of_private (args := args) i1 i2 hni hpriv (mvT hZ w2) hy
  obtain ⟨v, vm₁, ⟨T', L', k', n'⟩, -, X', ⟨L, hQ, l1, l2, l3⟩, stp⟩ := X.privateBack hx (y := y) hown (mvT hZ w1) (mvT hZ w2) hsel hpriv (mvT hZ w4) hy (backOf (W := W) hM hZ w4 w3 hf hl) (g := mkF m pc Ls st) rfl hsz (Steps.refl _) (a := a) (by rw [eT]; exact hcell) hobj (argsL := argsL) (rest := rest) hlen hst (by show 2 * 0 + _ ≤ _; omega) hd (fun _ _ => ⟨has, eT, hc, hs⟩)
  dsimp only [Pt.U, Pt.locs, Pt.cells, Pt.slots] at X' l1 l2 l3 stp hQ
  subst l1 l2 l3
  exact ⟨v, T', L, X', hQ, fun t k => stp.trans k⟩
theorem own_interface (X : Stand p l e R s m args below meth c T locs cells slots) (hx : p.tables.exec = Jvm.exec) (hZ : Z.Warmed39 s.vm) {own C : String} {index count : Nat} {xi y : MethodName} {bytes : ByteArray} {maxL : Nat} {ret : Option FieldType} {rm : Room} {as' : Array Value} {P : OwnP}
    (hown : s.vm.findClass own = some m.cls) (w1 : (Cond.methodLink own index xi).before a0 Z = true) (w2 : (Cond.declares xi).before a0 Z = true) (w7 : (Cond.interfaceMethod xi.cls xi.cls xi.name xi.desc).before args s = true) (w5 : (Cond.selects C xi y).before a0 Z = true) (w6 : (Cond.instanceMethod y).before a0 Z = true) (w8 : (Cond.publicMethod y).before a0 Z = true) (w9 : (Cond.unhidden C xi.name xi.desc).before a0 Z = true) (w10 : (Cond.castable C xi.cls).before a0 Z = true) (w3 : (Cond.initialized y.cls).before a0 Z = true) (w4 : (Cond.code y bytes maxL ret).before a0 Z = true) (hy : xi.cls ≠ "java/lang/invoke/MethodHandle" ∧ xi.cls ≠ "java/lang/invoke/VarHandle")
    (hM : OwnC l Z y bytes maxL ret [] rm as' h P) (eT : T.heap = h) {a : Addr} (E : Exa Z h a C) {pc : Nat} {Ls : Array Slot} {argsL rest : List Value} (W : Nat) {st : List Value} (hsz : Ls.size = c.maxLocals) (hlen : ∀ sig, parseMethodDescriptor xi.desc = some sig → argsL.length = sig.parameters.length) (has : (.ref a :: argsL).toArray = as') (hst : st = argsL.reverse ++ .ref a :: rest) (hW : (rest.map fun v => v.category).sum ≤ W)
    (hd : decode c.code pc = .ok (.invokeinterface index count, 5)) (hf : rm.frames + 1 ≤ R.frames) (hl : W + (maxL + 11) + rm.locals ≤ R.locals) (hc : cells + rm.cells ≤ R.cells) (hs : slots + rm.slots ≤ R.slots) :
    ∃ v T' L, Stand p l e R s m args below meth c T' (locs ++ L) (cells + rm.cells) (slots + rm.slots) ∧ P v T'.heap L ∧ ∀ t, Steps p.tables e below (T'.setTop (mkF m (pc + 5) Ls (v.toList ++ rest))) t → Steps p.tables e below (T.setTop (mkF m pc Ls st)) t := by
  obtain ⟨cq, kq, qa, qb, qc⟩ := isOf hZ eT E
  obtain ⟨v, vm₁, ⟨T', L', k', n'⟩, -, X', ⟨L, hQ, l1, l2, l3⟩, stp⟩ := X.interfaceBack hx (xi := xi) (y := y) hown (mvT hZ w1) (mvT hZ w2) w7 (mvT hZ w5) (mvT hZ w6) (mvT hZ w8) (mvT hZ w9) (mvT hZ w10) hy (backOf (W := W) hM hZ w4 w3 hf hl) qa qb qc (g := mkF m pc Ls st) rfl hsz (Steps.refl _) (argsL := argsL) (rest := rest) hlen hst (by show 2 * 0 + _ ≤ _; omega) hd (fun _ _ => ⟨has, eT, hc, hs⟩)
  dsimp only [Pt.U, Pt.locs, Pt.cells, Pt.slots] at X' l1 l2 l3 stp hQ
  subst l1 l2 l3
  exact ⟨v, T', L, X', hQ, fun t k => stp.trans k⟩
theorem own_staticUp (X : Stand p l e R s m args below meth c T locs cells slots) (hx : p.tables.exec = Jvm.exec) (hZ : Z.Warmed39 s.vm) {own owner : String} {index : Nat} {x : MethodName} {bytes : ByteArray} {maxL : Nat} {ret : Option FieldType} {rm : Room} {as' : Array Value} {P : OwnP}
    (hown : s.vm.findClass own = some m.cls) (w1 : (Cond.methodLink own index x).before a0 Z = true) (w2 : (Cond.sameMethod x.cls owner x.name x.desc).before a0 Z = true) (hy : owner ≠ "java/lang/invoke/MethodHandle" ∧ owner ≠ "java/lang/invoke/VarHandle") (w5 : (Cond.static ⟨owner, x.name, x.desc⟩).before a0 Z = true) (w3 : (Cond.initialized owner).before a0 Z = true) (w4 : (Cond.code ⟨owner, x.name, x.desc⟩ bytes maxL ret).before a0 Z = true)
    (hM : OwnC l Z ⟨owner, x.name, x.desc⟩ bytes maxL ret [] rm as' h P) (eT : T.heap = h) {pc : Nat} {Ls : Array Slot} {argsL rest : List Value} (W : Nat) {st : List Value} (hsz : Ls.size = c.maxLocals) (hlen : ∀ sig, parseMethodDescriptor x.desc = some sig → argsL.length = sig.parameters.length) (has : argsL.toArray = as') (hst : st = argsL.reverse ++ rest) (hW : (rest.map fun v => v.category).sum ≤ W)
    (hd : decode c.code pc = .ok (.invokestatic index, 3)) (hf : rm.frames + 1 ≤ R.frames) (hl : W + (maxL + 11) + rm.locals ≤ R.locals) (hc : cells + rm.cells ≤ R.cells) (hs : slots + rm.slots ≤ R.slots) :
    ∃ v T' L, Stand p l e R s m args below meth c T' (locs ++ L) (cells + rm.cells) (slots + rm.slots) ∧ P v T'.heap L ∧ ∀ t, Steps p.tables e below (T'.setTop (mkF m (pc + 3) Ls (v.toList ++ rest))) t → Steps p.tables e below (T.setTop (mkF m pc Ls st)) t := by
  have c4 : (Cond.code ⟨owner, x.name, x.desc⟩ bytes maxL ret).before args s = true := mvT hZ w4
  obtain ⟨mk, hnamed⟩ := Cond.code_named c4
  obtain ⟨methM, cM, hmethM, -, -, -, -, -, -, hsigM⟩ := Cond.code_spec hnamed c4
  have hstatic : methM.isStatic = true := Cond.static_spec hnamed hmethM (mvT (args := args) hZ w5)
  obtain ⟨kP, hkP, -⟩ := className_of_methodNamed hnamed
  have hinitP : kP.init = .initialized := Cond.initialized_spec (findClass_of_methodNamed hnamed) hkP (mvT (args := args) hZ w3)
  obtain ⟨vm₁, X₁, hstep₁⟩ := X.invokestaticUp hx hown (mvT hZ w1) (mvT hZ w2) hy hnamed hmethM hstatic hkP hinitP (g := mkF m pc Ls st) rfl (argsL := argsL) (rest := rest) (hlen _ hsigM) hst hd
  obtain ⟨v, ⟨T', L', k', n'⟩, X', ⟨L, hQ, l1, l2, l3⟩, hsteps⟩ := (backOf (len := 3) (W := W) hM hZ w4 w3 hf hl) m meth c ⟨T.setVm vm₁, locs, cells, slots⟩ { mkF m pc Ls st with stack := rest } (.invokestatic index) mk argsL.toArray X₁ rfl hsz hd (by show 2 * 0 + (rest.map fun v => v.category).sum ≤ W; rw [Nat.mul_zero, Nat.zero_add]; exact hW) (X₁.named hnamed) ⟨has, eT, hc, hs⟩
  dsimp only [Pt.U, Pt.locs, Pt.cells, Pt.slots] at X' l1 l2 l3 hsteps hQ
  subst l1 l2 l3
  exact ⟨v, T', L, X', hQ, fun t k => ((hstep₁ _ fun acts => by rw [doInvoke_state]; exact Steps.refl _).trans hsteps).trans k⟩
theorem own_getfRef (X : Stand p l e R s m args below meth c T locs cells slots) (hx : p.tables.exec = Jvm.exec) (hZ : Z.Warmed39 s.vm) {own O n d : String} {index : Nat} (hown : s.vm.findClass own = some m.cls) (w : (Cond.fieldRef own index O n d).before a0 Z = true) (eT : T.heap = h) {a : Addr} {v : Value} (F : Fld Z h a O n d v)
    {pc : Nat} {Ls : Array Slot} {rest : List Value} (hd : decode c.code pc = .ok (.getfield index, 3)) : ∀ t, Steps p.tables e below (T.setTop (mkF m (pc + 3) Ls (v :: rest))) t → Steps p.tables e below (T.setTop (mkF m pc Ls (.ref a :: rest))) t := by
  obtain ⟨cell, cf, k, i, f, h1, h2, h3, h4, -, -, h7⟩ := F
  have hW : Z.Warmed39 T.vm := wtrans hZ X.warmed
  have hw := Cond.fieldRef_warmed39 hW w
  have hcur : (Z.setVm T.vm).vm.findClass own = some m.cls := by
    show T.vm.findClass own = _
    rw [X.warmed.alike.findClass]
    exact hown
  obtain ⟨c', k', i', f', q1, q2⟩ := Cond.fieldRef_spec hcur hw
  obtain ⟨k2, hi, -⟩ := State.fieldFound?_setVm (s := Z) hW.alike h2
  rw [hi] at q1
  cases q1
  exact fun t kk => (X.getfieldR hx (g := mkF m pc Ls (.ref a :: rest)) rfl q2 h3 rfl (by rw [eT]; exact h1) h4 h7 hd (Steps.refl _)).trans kk
theorem own_sneE {a b : Addr} {cell : Cell} {C : String} (h1 : h[a]? = some cell) (h2 : cell.vm.isStatics = true) (E : Exa Z h b C) : a ≠ b := fun q => by
  obtain ⟨cell', k', e1, -, -, e4, -⟩ := E
  subst q
  cases h1.symm.trans e1
  rw [h2] at e4
  cases e4
theorem own_sneA {a b : Addr} {cell : Cell} {k : ClassId} {ty : FieldType} {n : Int32} {vs : List Value} {dv : Value} (h1 : h[a]? = some cell) (h2 : cell.vm.isStatics = true) (V : Arv Z h b k ty n vs dv) : a ≠ b := fun q => by
  obtain ⟨cl, A, -⟩ := V
  subst q
  cases h1.symm.trans A.1
  have := A.plain
  rw [h2] at this
  cases this
theorem own_sta_keepL {C n d : String} {v : Value} {h' : Heap} {ws : List Addr} (F : Sta Z h C n d v) (K : Keep h h' ws) (q : ∀ (a : Addr) (cell : Cell), h[a]? = some cell → cell.vm.isStatics = true → a ∉ ws) : Sta Z h' C n d v := by
  obtain ⟨cf, i, k, f, st, cell, h1, h2, h3, h4, h5, h6, h7⟩ := F
  exact ⟨cf, i, k, f, st, cell, h1, h2, h3, h4, K.2.1 _ _ h5 (q _ _ h5 h6), h6, h7⟩
theorem own_nf {args : Array Value} {s : State} {C : String} {x y z : MethodName} (hsel : (Cond.selects C x z).before args s = true) (hc : y.cls = z.cls) : NotFace s y := fun r0 h0 => by
  obtain ⟨c2, r2, m2, q1, q2, q3, q4, kP, hkP, hkPi⟩ := Cond.selects_spec hsel
  have e1 := findClass_of_methodNamed h0
  have e2 := findClass_of_methodNamed q3
  rw [hc] at e1
  have e3 : r0.cls = m2.cls := Option.some.inj (e1.symm.trans e2)
  exact ⟨kP, by rw [e3]; exact hkP, hkPi⟩
end OwnKit
end Jvm.RoadKit
namespace Jvm.Pilot.@@N@@
open Jvm Jvm.ClassFile Sem Op Lib Jvm.Free Jvm.Stand Jvm.LawKit Jvm.RoadKit Bundle Jvm.Pilot.@@N@@.Jvm.D
theorem own_w {Z : State} {a0 : Array Value} (hw : ∀ d ∈ tables_1, d.before a0 Z = true) (i : Nat) {d : Jvm.Cond} (h : tables_1[i]? = some d) : d.before a0 Z = true := hw _ (List.mem_of_getElem? h)
theorem own_i {a : Addr} {L : List Addr} {Q : Prop} (i : Nat) (h : L[i]? = some a) : a ∈ L ∨ Q := Or.inl (List.mem_of_getElem? h)
theorem pd___II_I : parseMethodDescriptor "([II)I" = some ⟨[(.array .int), .int], some .int⟩ := by decide +kernel
theorem pd___III_Z : parseMethodDescriptor "([III)Z" = some ⟨[(.array .int), .int, .int], some .boolean⟩ := by decide +kernel
theorem pd___III_I : parseMethodDescriptor "([III)I" = some ⟨[(.array .int), .int, .int], some .int⟩ := by decide +kernel
theorem pd___I_III_I : parseMethodDescriptor "([I[III)I" = some ⟨[(.array .int), (.array .int), .int, .int], some .int⟩ := by decide +kernel
def own_l2 (p0 p1 : Int32) : Int32 := if p0 = p1 then 1 else 0
def own_l3 (p0 p1 p2 : Int32) : Int32 := if p0 = p1 ∧ p1 = p2 then 2 else if p0 = p2 then 1 else 0
def own_l4 (p0 p1 p2 p3 : Int32) : Int32 := if p0 = p1 ∧ p1 = p2 ∧ p2 = p3 then 3 else if p0 = p2 ∧ p1 = p3 then 2 else if p0 = p3 then 1 else 0
def own_ref0 (p0 p1 p2 p3 u : Int32) : Int32 := -1
def own_ref1 (p0 p1 p2 p3 u : Int32) : Int32 := if p0 = u then 0 else -1
def own_ref2 (p0 p1 p2 p3 u : Int32) : Int32 := if p0 = p1 ∧ p1 = u then 1 else if p0 = u then 0 else -1
def own_ref3 (p0 p1 p2 p3 u : Int32) : Int32 := if (p0 = p1 ∧ p1 = p2) ∧ p2 = u then 2 else if p0 = p2 ∧ p1 = u then 1 else if p0 = u then 0 else -1
def own_ref4 (p0 p1 p2 p3 u : Int32) : Int32 := if (p0 = p1 ∧ p1 = p2 ∧ p2 = p3) ∧ p3 = u then 3 else if (p0 = p2 ∧ p1 = p3) ∧ p2 = u then 2 else if p0 = p3 ∧ p1 = u then 1 else if p0 = u then 0 else -1
theorem own_mod5 (k : Int32) : (k &&& 2147483647) % 5 = 0 ∨ (k &&& 2147483647) % 5 = 1 ∨ (k &&& 2147483647) % 5 = 2 ∨ (k &&& 2147483647) % 5 = 3 ∨ (k &&& 2147483647) % 5 = 4 := by
  have h1 := c_mask k 2147483647 31 (by decide) (by decide)
  have h2 := (c_irem (k &&& 2147483647) 5 5 (by decide)).1
  simp only [← Int32.toInt_inj]
  have h3 : 0 ≤ (k &&& 2147483647).toInt := by omega
  have h4 := h2 h3
  have e0 : (0 : Int32).toInt = 0 := by decide
  have e1 : (1 : Int32).toInt = 1 := by decide
  have e2 : (2 : Int32).toInt = 2 := by decide
  have e3 : (3 : Int32).toInt = 3 := by decide
  have e4 : (4 : Int32).toInt = 4 := by decide
  omega
theorem d2_0 : decode method_3_code 0 = .ok (.iload_n 2, 1) := by decide +kernel
theorem d2_1 : decode method_3_code 1 = .ok (.iconst 1, 1) := by decide +kernel
theorem d2_2 : decode method_3_code 2 = .ok (.if_icmp .lt 14, 3) := by decide +kernel
theorem d2_5 : decode method_3_code 5 = .ok (.aload_n 0, 1) := by decide +kernel
theorem d2_6 : decode method_3_code 6 = .ok (.iconst 0, 1) := by decide +kernel
theorem d2_7 : decode method_3_code 7 = .ok (.iaload, 1) := by decide +kernel
theorem d2_8 : decode method_3_code 8 = .ok (.aload_n 0, 1) := by decide +kernel
theorem d2_9 : decode method_3_code 9 = .ok (.iload_n 1, 1) := by decide +kernel
theorem d2_10 : decode method_3_code 10 = .ok (.iload_n 2, 1) := by decide +kernel
theorem d2_11 : decode method_3_code 11 = .ok (.isub, 1) := by decide +kernel
theorem d2_12 : decode method_3_code 12 = .ok (.iaload, 1) := by decide +kernel
theorem d2_13 : decode method_3_code 13 = .ok (.if_icmp .ne 43, 3) := by decide +kernel
theorem d2_16 : decode method_3_code 16 = .ok (.iload_n 2, 1) := by decide +kernel
theorem d2_17 : decode method_3_code 17 = .ok (.iconst 2, 1) := by decide +kernel
theorem d2_18 : decode method_3_code 18 = .ok (.if_icmp .lt 16, 3) := by decide +kernel
theorem d2_21 : decode method_3_code 21 = .ok (.aload_n 0, 1) := by decide +kernel
theorem d2_22 : decode method_3_code 22 = .ok (.iconst 1, 1) := by decide +kernel
theorem d2_23 : decode method_3_code 23 = .ok (.iaload, 1) := by decide +kernel
theorem d2_24 : decode method_3_code 24 = .ok (.aload_n 0, 1) := by decide +kernel
theorem d2_25 : decode method_3_code 25 = .ok (.iload_n 1, 1) := by decide +kernel
theorem d2_26 : decode method_3_code 26 = .ok (.iload_n 2, 1) := by decide +kernel
theorem d2_27 : decode method_3_code 27 = .ok (.isub, 1) := by decide +kernel
theorem d2_28 : decode method_3_code 28 = .ok (.iconst 1, 1) := by decide +kernel
theorem d2_29 : decode method_3_code 29 = .ok (.iadd, 1) := by decide +kernel
theorem d2_30 : decode method_3_code 30 = .ok (.iaload, 1) := by decide +kernel
theorem d2_31 : decode method_3_code 31 = .ok (.if_icmp .ne 25, 3) := by decide +kernel
theorem d2_34 : decode method_3_code 34 = .ok (.iload_n 2, 1) := by decide +kernel
theorem d2_35 : decode method_3_code 35 = .ok (.iconst 3, 1) := by decide +kernel
theorem d2_36 : decode method_3_code 36 = .ok (.if_icmp .lt 16, 3) := by decide +kernel
theorem d2_39 : decode method_3_code 39 = .ok (.aload_n 0, 1) := by decide +kernel
theorem d2_40 : decode method_3_code 40 = .ok (.iconst 2, 1) := by decide +kernel
theorem d2_41 : decode method_3_code 41 = .ok (.iaload, 1) := by decide +kernel
theorem d2_42 : decode method_3_code 42 = .ok (.aload_n 0, 1) := by decide +kernel
theorem d2_43 : decode method_3_code 43 = .ok (.iload_n 1, 1) := by decide +kernel
theorem d2_44 : decode method_3_code 44 = .ok (.iload_n 2, 1) := by decide +kernel
theorem d2_45 : decode method_3_code 45 = .ok (.isub, 1) := by decide +kernel
theorem d2_46 : decode method_3_code 46 = .ok (.iconst 2, 1) := by decide +kernel
theorem d2_47 : decode method_3_code 47 = .ok (.iadd, 1) := by decide +kernel
theorem d2_48 : decode method_3_code 48 = .ok (.iaload, 1) := by decide +kernel
theorem d2_49 : decode method_3_code 49 = .ok (.if_icmp .ne 7, 3) := by decide +kernel
theorem d2_52 : decode method_3_code 52 = .ok (.iconst 1, 1) := by decide +kernel
theorem d2_53 : decode method_3_code 53 = .ok (.goto 4, 3) := by decide +kernel
theorem d2_56 : decode method_3_code 56 = .ok (.iconst 0, 1) := by decide +kernel
theorem d2_57 : decode method_3_code 57 = .ok (.ireturn, 1) := by decide +kernel
theorem pf_com_example_substring_search_substringsearch_PrefixTableFallBackPinLaw_border___III_Z : plainFor (⟨"com/example/substring_search/substringsearch/PrefixTableFallBackPinLaw", "border", "([III)Z"⟩ : MethodName) = true := by first | exact plainFor_of_name (by first | (simp [plainName, overriddenIn]; done) | decide +kernel) | exact Jvm.Free.JP.mathPlain rfl (by decide +kernel) | decide +kernel
theorem own_lf1 (p0 p1 p2 p3 p4  : Int32) (hc13_3 : p0 = p1) : (if p0 = p1 then (1 : Int32) else 0) = (1 : Int32) := by
  skip
  grind
theorem own_lf2 (p0 p1 p2 p3 p4  : Int32) (hc13_3 : ¬ (p0 = p1)) : (if p0 = p1 then (1 : Int32) else 0) = (0 : Int32) := by
  skip
  grind
theorem ef_rmB21 (m : MethodId) (q0 : Addr) (q1 : Int32) (q2 : Int32) : entryFrame m #[(.ref q0), (.int q1), (.int q2)] 3 = mkF m 0 #[rv q0, iv q1, iv q2] [] := by first | (simp [entryFrame, mkF, argsToLocals, Value.category]; done) | rfl
set_option maxRecDepth 65536 in
set_option maxHeartbeats 40000000 in
theorem rmB21 (l : Launch) (Z : State) (a0 : Array Value) (hw : ∀ d ∈ tables_1, d.before a0 Z = true) (ws : List Jvm.Cond) (x0 : Addr) (kp : ClassId) (p0 p1 p2 p3 p4 : Int32) (h0 : Heap) (Vp : Arv Z h0 x0 kp .int 5 [(.int p0), (.int p1), (.int p2), (.int p3), (.int p4)] (.int 0)) :
    OwnC l Z (⟨"com/example/substring_search/substringsearch/PrefixTableFallBackPinLaw", "border", "([III)Z"⟩ : MethodName) method_3_code 3 (some .boolean) ws ({ frames := 0, cells := 0, slots := 0, locals := 0 } : Room) #[(.ref x0), (.int 2), (.int 1)] h0 (OwnPure (.int (if p0 = p1 then 1 else 0)) h0) := by
  refine own_entry pf_com_example_substring_search_substringsearch_PrefixTableFallBackPinLaw_border___III_Z (fun m => ef_rmB21 m x0 (2 : Int32) (1 : Int32)) ?_
  intro p e s m below meth c T0 X0 hC e0
  obtain ⟨hx, hby, hml, hown, hnm, hret, hlk, hZ⟩ := hC
  refine own_go T0 m 1 #[rv x0, iv 2, iv 1] [(.int 1)] (fun t k => XS.iloadN X0.here hx rfl (hb hby d2_0) rfl k) ?_
  refine own_go T0 m 2 #[rv x0, iv 2, iv 1] [(.int 1), (.int 1)] (fun t k => XS.iconst X0.here hx rfl (hb hby d2_1) k) ?_
  refine own_go T0 m 5 #[rv x0, iv 2, iv 1] [] (fun t k => XS.icmpNo X0.here hx rfl (hb hby d2_2) rfl (flt (by decide)).1 k) ?_
  refine own_go T0 m 6 #[rv x0, iv 2, iv 1] [(.ref x0)] (fun t k => XS.aloadN X0.here hx rfl (hb hby d2_5) rfl rfl k) ?_
  refine own_go T0 m 7 #[rv x0, iv 2, iv 1] [(.int 0), (.ref x0)] (fun t k => XS.iconst X0.here hx rfl (hb hby d2_6) k) ?_
  refine own_go T0 m 8 #[rv x0, iv 2, iv 1] [(.int p0)] (own_iaload X0 hx hZ e0 Vp (j := (0 : Int32)) ⟨by decide, by decide⟩ rfl (hb hby d2_7)) ?_
  refine own_go T0 m 9 #[rv x0, iv 2, iv 1] [(.ref x0), (.int p0)] (fun t k => XS.aloadN X0.here hx rfl (hb hby d2_8) rfl rfl k) ?_
  refine own_go T0 m 10 #[rv x0, iv 2, iv 1] [(.int 2), (.ref x0), (.int p0)] (fun t k => XS.iloadN X0.here hx rfl (hb hby d2_9) rfl k) ?_
  refine own_go T0 m 11 #[rv x0, iv 2, iv 1] [(.int 1), (.int 2), (.ref x0), (.int p0)] (fun t k => XS.iloadN X0.here hx rfl (hb hby d2_10) rfl k) ?_
  refine own_go T0 m 12 #[rv x0, iv 2, iv 1] [(.int ((2 : Int32) - (1 : Int32))), (.ref x0), (.int p0)] (fun t k => XS.isub X0.here hx rfl (hb hby d2_11) rfl k) ?_
  rw [show ((2 : Int32) - (1 : Int32)) = (1 : Int32) from by decide]
  refine own_go T0 m 13 #[rv x0, iv 2, iv 1] [(.int p1), (.int p0)] (own_iaload X0 hx hZ e0 Vp (j := (1 : Int32)) ⟨by decide, by decide⟩ rfl (hb hby d2_12)) ?_
  by_cases hc13_3 : p0 = p1
  · refine own_go T0 m 16 #[rv x0, iv 2, iv 1] [] (fun t k => XS.icmpNo X0.here hx rfl (hb hby d2_13) rfl (teq hc13_3).2 k) ?_
    refine own_go T0 m 17 #[rv x0, iv 2, iv 1] [(.int 1)] (fun t k => XS.iloadN X0.here hx rfl (hb hby d2_16) rfl k) ?_
    refine own_go T0 m 18 #[rv x0, iv 2, iv 1] [(.int 2), (.int 1)] (fun t k => XS.iconst X0.here hx rfl (hb hby d2_17) k) ?_
    refine own_go T0 m 34 #[rv x0, iv 2, iv 1] [] (fun t k => XS.icmpYes X0.here hx rfl (pc0 := 18) (pc' := 34) rfl (hb hby d2_18) rfl (tlt (by decide)).1 (by decide) (by decide) k) ?_
    refine own_go T0 m 35 #[rv x0, iv 2, iv 1] [(.int 1)] (fun t k => XS.iloadN X0.here hx rfl (hb hby d2_34) rfl k) ?_
    refine own_go T0 m 36 #[rv x0, iv 2, iv 1] [(.int 3), (.int 1)] (fun t k => XS.iconst X0.here hx rfl (hb hby d2_35) k) ?_
    refine own_go T0 m 52 #[rv x0, iv 2, iv 1] [] (fun t k => XS.icmpYes X0.here hx rfl (pc0 := 36) (pc' := 52) rfl (hb hby d2_36) rfl (tlt (by decide)).1 (by decide) (by decide) k) ?_
    refine own_go T0 m 53 #[rv x0, iv 2, iv 1] [(.int 1)] (fun t k => XS.iconst X0.here hx rfl (hb hby d2_52) k) ?_
    refine own_go T0 m 57 #[rv x0, iv 2, iv 1] [(.int 1)] (fun t k => XS.goto X0.here hx rfl (pc0 := 53) (pc' := 57) rfl (hb hby d2_53) (by decide) (by decide) k) ?_
    refine own_retZ X0 hx hlk hret (by decide) (hb hby d2_57) (by decide) (by decide) ?_
    exact ⟨by rw [own_lf1 p0 p1 p2 p3 p4  hc13_3], e0, rfl⟩
  · refine own_go T0 m 56 #[rv x0, iv 2, iv 1] [] (fun t k => XS.icmpYes X0.here hx rfl (pc0 := 13) (pc' := 56) rfl (hb hby d2_13) rfl (feq hc13_3).2 (by decide) (by decide) k) ?_
    refine own_go T0 m 57 #[rv x0, iv 2, iv 1] [(.int 0)] (fun t k => XS.iconst X0.here hx rfl (hb hby d2_56) k) ?_
    refine own_retZ X0 hx hlk hret (by decide) (hb hby d2_57) (by decide) (by decide) ?_
    exact ⟨by rw [own_lf2 p0 p1 p2 p3 p4  hc13_3], e0, rfl⟩
theorem own_lf3 (p0 p1 p2 p3 p4  : Int32) (hc13_3 : p0 = p1) (hc31_6 : p1 = p2) : (if p0 = p1 ∧ p1 = p2 then (1 : Int32) else 0) = (1 : Int32) := by
  skip
  grind
theorem own_lf4 (p0 p1 p2 p3 p4  : Int32) (hc13_3 : p0 = p1) (hc31_6 : ¬ (p1 = p2)) : (if p0 = p1 ∧ p1 = p2 then (1 : Int32) else 0) = (0 : Int32) := by
  skip
  grind
theorem own_lf5 (p0 p1 p2 p3 p4  : Int32) (hc13_3 : ¬ (p0 = p1)) : (if p0 = p1 ∧ p1 = p2 then (1 : Int32) else 0) = (0 : Int32) := by
  skip
  grind
theorem ef_rmB32 (m : MethodId) (q0 : Addr) (q1 : Int32) (q2 : Int32) : entryFrame m #[(.ref q0), (.int q1), (.int q2)] 3 = mkF m 0 #[rv q0, iv q1, iv q2] [] := by first | (simp [entryFrame, mkF, argsToLocals, Value.category]; done) | rfl
set_option maxRecDepth 65536 in
set_option maxHeartbeats 40000000 in
theorem rmB32 (l : Launch) (Z : State) (a0 : Array Value) (hw : ∀ d ∈ tables_1, d.before a0 Z = true) (ws : List Jvm.Cond) (x0 : Addr) (kp : ClassId) (p0 p1 p2 p3 p4 : Int32) (h0 : Heap) (Vp : Arv Z h0 x0 kp .int 5 [(.int p0), (.int p1), (.int p2), (.int p3), (.int p4)] (.int 0)) :
    OwnC l Z (⟨"com/example/substring_search/substringsearch/PrefixTableFallBackPinLaw", "border", "([III)Z"⟩ : MethodName) method_3_code 3 (some .boolean) ws ({ frames := 0, cells := 0, slots := 0, locals := 0 } : Room) #[(.ref x0), (.int 3), (.int 2)] h0 (OwnPure (.int (if p0 = p1 ∧ p1 = p2 then 1 else 0)) h0) := by
  refine own_entry pf_com_example_substring_search_substringsearch_PrefixTableFallBackPinLaw_border___III_Z (fun m => ef_rmB32 m x0 (3 : Int32) (2 : Int32)) ?_
  intro p e s m below meth c T0 X0 hC e0
  obtain ⟨hx, hby, hml, hown, hnm, hret, hlk, hZ⟩ := hC
  refine own_go T0 m 1 #[rv x0, iv 3, iv 2] [(.int 2)] (fun t k => XS.iloadN X0.here hx rfl (hb hby d2_0) rfl k) ?_
  refine own_go T0 m 2 #[rv x0, iv 3, iv 2] [(.int 1), (.int 2)] (fun t k => XS.iconst X0.here hx rfl (hb hby d2_1) k) ?_
  refine own_go T0 m 5 #[rv x0, iv 3, iv 2] [] (fun t k => XS.icmpNo X0.here hx rfl (hb hby d2_2) rfl (flt (by decide)).1 k) ?_
  refine own_go T0 m 6 #[rv x0, iv 3, iv 2] [(.ref x0)] (fun t k => XS.aloadN X0.here hx rfl (hb hby d2_5) rfl rfl k) ?_
  refine own_go T0 m 7 #[rv x0, iv 3, iv 2] [(.int 0), (.ref x0)] (fun t k => XS.iconst X0.here hx rfl (hb hby d2_6) k) ?_
  refine own_go T0 m 8 #[rv x0, iv 3, iv 2] [(.int p0)] (own_iaload X0 hx hZ e0 Vp (j := (0 : Int32)) ⟨by decide, by decide⟩ rfl (hb hby d2_7)) ?_
  refine own_go T0 m 9 #[rv x0, iv 3, iv 2] [(.ref x0), (.int p0)] (fun t k => XS.aloadN X0.here hx rfl (hb hby d2_8) rfl rfl k) ?_
  refine own_go T0 m 10 #[rv x0, iv 3, iv 2] [(.int 3), (.ref x0), (.int p0)] (fun t k => XS.iloadN X0.here hx rfl (hb hby d2_9) rfl k) ?_
  refine own_go T0 m 11 #[rv x0, iv 3, iv 2] [(.int 2), (.int 3), (.ref x0), (.int p0)] (fun t k => XS.iloadN X0.here hx rfl (hb hby d2_10) rfl k) ?_
  refine own_go T0 m 12 #[rv x0, iv 3, iv 2] [(.int ((3 : Int32) - (2 : Int32))), (.ref x0), (.int p0)] (fun t k => XS.isub X0.here hx rfl (hb hby d2_11) rfl k) ?_
  rw [show ((3 : Int32) - (2 : Int32)) = (1 : Int32) from by decide]
  refine own_go T0 m 13 #[rv x0, iv 3, iv 2] [(.int p1), (.int p0)] (own_iaload X0 hx hZ e0 Vp (j := (1 : Int32)) ⟨by decide, by decide⟩ rfl (hb hby d2_12)) ?_
  by_cases hc13_3 : p0 = p1
  · refine own_go T0 m 16 #[rv x0, iv 3, iv 2] [] (fun t k => XS.icmpNo X0.here hx rfl (hb hby d2_13) rfl (teq hc13_3).2 k) ?_
    refine own_go T0 m 17 #[rv x0, iv 3, iv 2] [(.int 2)] (fun t k => XS.iloadN X0.here hx rfl (hb hby d2_16) rfl k) ?_
    refine own_go T0 m 18 #[rv x0, iv 3, iv 2] [(.int 2), (.int 2)] (fun t k => XS.iconst X0.here hx rfl (hb hby d2_17) k) ?_
    refine own_go T0 m 21 #[rv x0, iv 3, iv 2] [] (fun t k => XS.icmpNo X0.here hx rfl (hb hby d2_18) rfl (flt (by decide)).1 k) ?_
    refine own_go T0 m 22 #[rv x0, iv 3, iv 2] [(.ref x0)] (fun t k => XS.aloadN X0.here hx rfl (hb hby d2_21) rfl rfl k) ?_
    refine own_go T0 m 23 #[rv x0, iv 3, iv 2] [(.int 1), (.ref x0)] (fun t k => XS.iconst X0.here hx rfl (hb hby d2_22) k) ?_
    refine own_go T0 m 24 #[rv x0, iv 3, iv 2] [(.int p1)] (own_iaload X0 hx hZ e0 Vp (j := (1 : Int32)) ⟨by decide, by decide⟩ rfl (hb hby d2_23)) ?_
    refine own_go T0 m 25 #[rv x0, iv 3, iv 2] [(.ref x0), (.int p1)] (fun t k => XS.aloadN X0.here hx rfl (hb hby d2_24) rfl rfl k) ?_
    refine own_go T0 m 26 #[rv x0, iv 3, iv 2] [(.int 3), (.ref x0), (.int p1)] (fun t k => XS.iloadN X0.here hx rfl (hb hby d2_25) rfl k) ?_
    refine own_go T0 m 27 #[rv x0, iv 3, iv 2] [(.int 2), (.int 3), (.ref x0), (.int p1)] (fun t k => XS.iloadN X0.here hx rfl (hb hby d2_26) rfl k) ?_
    refine own_go T0 m 28 #[rv x0, iv 3, iv 2] [(.int ((3 : Int32) - (2 : Int32))), (.ref x0), (.int p1)] (fun t k => XS.isub X0.here hx rfl (hb hby d2_27) rfl k) ?_
    rw [show ((3 : Int32) - (2 : Int32)) = (1 : Int32) from by decide]
    refine own_go T0 m 29 #[rv x0, iv 3, iv 2] [(.int 1), (.int 1), (.ref x0), (.int p1)] (fun t k => XS.iconst X0.here hx rfl (hb hby d2_28) k) ?_
    refine own_go T0 m 30 #[rv x0, iv 3, iv 2] [(.int ((1 : Int32) + (1 : Int32))), (.ref x0), (.int p1)] (fun t k => XS.iadd X0.here hx rfl (hb hby d2_29) rfl k) ?_
    rw [show ((1 : Int32) + (1 : Int32)) = (2 : Int32) from by decide]
    refine own_go T0 m 31 #[rv x0, iv 3, iv 2] [(.int p2), (.int p1)] (own_iaload X0 hx hZ e0 Vp (j := (2 : Int32)) ⟨by decide, by decide⟩ rfl (hb hby d2_30)) ?_
    by_cases hc31_6 : p1 = p2
    · refine own_go T0 m 34 #[rv x0, iv 3, iv 2] [] (fun t k => XS.icmpNo X0.here hx rfl (hb hby d2_31) rfl (teq hc31_6).2 k) ?_
      refine own_go T0 m 35 #[rv x0, iv 3, iv 2] [(.int 2)] (fun t k => XS.iloadN X0.here hx rfl (hb hby d2_34) rfl k) ?_
      refine own_go T0 m 36 #[rv x0, iv 3, iv 2] [(.int 3), (.int 2)] (fun t k => XS.iconst X0.here hx rfl (hb hby d2_35) k) ?_
      refine own_go T0 m 52 #[rv x0, iv 3, iv 2] [] (fun t k => XS.icmpYes X0.here hx rfl (pc0 := 36) (pc' := 52) rfl (hb hby d2_36) rfl (tlt (by decide)).1 (by decide) (by decide) k) ?_
      refine own_go T0 m 53 #[rv x0, iv 3, iv 2] [(.int 1)] (fun t k => XS.iconst X0.here hx rfl (hb hby d2_52) k) ?_
      refine own_go T0 m 57 #[rv x0, iv 3, iv 2] [(.int 1)] (fun t k => XS.goto X0.here hx rfl (pc0 := 53) (pc' := 57) rfl (hb hby d2_53) (by decide) (by decide) k) ?_
      refine own_retZ X0 hx hlk hret (by decide) (hb hby d2_57) (by decide) (by decide) ?_
      exact ⟨by rw [own_lf3 p0 p1 p2 p3 p4  hc13_3 hc31_6], e0, rfl⟩
    · refine own_go T0 m 56 #[rv x0, iv 3, iv 2] [] (fun t k => XS.icmpYes X0.here hx rfl (pc0 := 31) (pc' := 56) rfl (hb hby d2_31) rfl (feq hc31_6).2 (by decide) (by decide) k) ?_
      refine own_go T0 m 57 #[rv x0, iv 3, iv 2] [(.int 0)] (fun t k => XS.iconst X0.here hx rfl (hb hby d2_56) k) ?_
      refine own_retZ X0 hx hlk hret (by decide) (hb hby d2_57) (by decide) (by decide) ?_
      exact ⟨by rw [own_lf4 p0 p1 p2 p3 p4  hc13_3 hc31_6], e0, rfl⟩
  · refine own_go T0 m 56 #[rv x0, iv 3, iv 2] [] (fun t k => XS.icmpYes X0.here hx rfl (pc0 := 13) (pc' := 56) rfl (hb hby d2_13) rfl (feq hc13_3).2 (by decide) (by decide) k) ?_
    refine own_go T0 m 57 #[rv x0, iv 3, iv 2] [(.int 0)] (fun t k => XS.iconst X0.here hx rfl (hb hby d2_56) k) ?_
    refine own_retZ X0 hx hlk hret (by decide) (hb hby d2_57) (by decide) (by decide) ?_
    exact ⟨by rw [own_lf5 p0 p1 p2 p3 p4  hc13_3], e0, rfl⟩
theorem own_lf6 (p0 p1 p2 p3 p4  : Int32) (hc13_3 : p0 = p2) : (if p0 = p2 then (1 : Int32) else 0) = (1 : Int32) := by
  skip
  grind
theorem own_lf7 (p0 p1 p2 p3 p4  : Int32) (hc13_3 : ¬ (p0 = p2)) : (if p0 = p2 then (1 : Int32) else 0) = (0 : Int32) := by
  skip
  grind
theorem ef_rmB31 (m : MethodId) (q0 : Addr) (q1 : Int32) (q2 : Int32) : entryFrame m #[(.ref q0), (.int q1), (.int q2)] 3 = mkF m 0 #[rv q0, iv q1, iv q2] [] := by first | (simp [entryFrame, mkF, argsToLocals, Value.category]; done) | rfl
set_option maxRecDepth 65536 in
set_option maxHeartbeats 40000000 in
theorem rmB31 (l : Launch) (Z : State) (a0 : Array Value) (hw : ∀ d ∈ tables_1, d.before a0 Z = true) (ws : List Jvm.Cond) (x0 : Addr) (kp : ClassId) (p0 p1 p2 p3 p4 : Int32) (h0 : Heap) (Vp : Arv Z h0 x0 kp .int 5 [(.int p0), (.int p1), (.int p2), (.int p3), (.int p4)] (.int 0)) :
    OwnC l Z (⟨"com/example/substring_search/substringsearch/PrefixTableFallBackPinLaw", "border", "([III)Z"⟩ : MethodName) method_3_code 3 (some .boolean) ws ({ frames := 0, cells := 0, slots := 0, locals := 0 } : Room) #[(.ref x0), (.int 3), (.int 1)] h0 (OwnPure (.int (if p0 = p2 then 1 else 0)) h0) := by
  refine own_entry pf_com_example_substring_search_substringsearch_PrefixTableFallBackPinLaw_border___III_Z (fun m => ef_rmB31 m x0 (3 : Int32) (1 : Int32)) ?_
  intro p e s m below meth c T0 X0 hC e0
  obtain ⟨hx, hby, hml, hown, hnm, hret, hlk, hZ⟩ := hC
  refine own_go T0 m 1 #[rv x0, iv 3, iv 1] [(.int 1)] (fun t k => XS.iloadN X0.here hx rfl (hb hby d2_0) rfl k) ?_
  refine own_go T0 m 2 #[rv x0, iv 3, iv 1] [(.int 1), (.int 1)] (fun t k => XS.iconst X0.here hx rfl (hb hby d2_1) k) ?_
  refine own_go T0 m 5 #[rv x0, iv 3, iv 1] [] (fun t k => XS.icmpNo X0.here hx rfl (hb hby d2_2) rfl (flt (by decide)).1 k) ?_
  refine own_go T0 m 6 #[rv x0, iv 3, iv 1] [(.ref x0)] (fun t k => XS.aloadN X0.here hx rfl (hb hby d2_5) rfl rfl k) ?_
  refine own_go T0 m 7 #[rv x0, iv 3, iv 1] [(.int 0), (.ref x0)] (fun t k => XS.iconst X0.here hx rfl (hb hby d2_6) k) ?_
  refine own_go T0 m 8 #[rv x0, iv 3, iv 1] [(.int p0)] (own_iaload X0 hx hZ e0 Vp (j := (0 : Int32)) ⟨by decide, by decide⟩ rfl (hb hby d2_7)) ?_
  refine own_go T0 m 9 #[rv x0, iv 3, iv 1] [(.ref x0), (.int p0)] (fun t k => XS.aloadN X0.here hx rfl (hb hby d2_8) rfl rfl k) ?_
  refine own_go T0 m 10 #[rv x0, iv 3, iv 1] [(.int 3), (.ref x0), (.int p0)] (fun t k => XS.iloadN X0.here hx rfl (hb hby d2_9) rfl k) ?_
  refine own_go T0 m 11 #[rv x0, iv 3, iv 1] [(.int 1), (.int 3), (.ref x0), (.int p0)] (fun t k => XS.iloadN X0.here hx rfl (hb hby d2_10) rfl k) ?_
  refine own_go T0 m 12 #[rv x0, iv 3, iv 1] [(.int ((3 : Int32) - (1 : Int32))), (.ref x0), (.int p0)] (fun t k => XS.isub X0.here hx rfl (hb hby d2_11) rfl k) ?_
  rw [show ((3 : Int32) - (1 : Int32)) = (2 : Int32) from by decide]
  refine own_go T0 m 13 #[rv x0, iv 3, iv 1] [(.int p2), (.int p0)] (own_iaload X0 hx hZ e0 Vp (j := (2 : Int32)) ⟨by decide, by decide⟩ rfl (hb hby d2_12)) ?_
  by_cases hc13_3 : p0 = p2
  · refine own_go T0 m 16 #[rv x0, iv 3, iv 1] [] (fun t k => XS.icmpNo X0.here hx rfl (hb hby d2_13) rfl (teq hc13_3).2 k) ?_
    refine own_go T0 m 17 #[rv x0, iv 3, iv 1] [(.int 1)] (fun t k => XS.iloadN X0.here hx rfl (hb hby d2_16) rfl k) ?_
    refine own_go T0 m 18 #[rv x0, iv 3, iv 1] [(.int 2), (.int 1)] (fun t k => XS.iconst X0.here hx rfl (hb hby d2_17) k) ?_
    refine own_go T0 m 34 #[rv x0, iv 3, iv 1] [] (fun t k => XS.icmpYes X0.here hx rfl (pc0 := 18) (pc' := 34) rfl (hb hby d2_18) rfl (tlt (by decide)).1 (by decide) (by decide) k) ?_
    refine own_go T0 m 35 #[rv x0, iv 3, iv 1] [(.int 1)] (fun t k => XS.iloadN X0.here hx rfl (hb hby d2_34) rfl k) ?_
    refine own_go T0 m 36 #[rv x0, iv 3, iv 1] [(.int 3), (.int 1)] (fun t k => XS.iconst X0.here hx rfl (hb hby d2_35) k) ?_
    refine own_go T0 m 52 #[rv x0, iv 3, iv 1] [] (fun t k => XS.icmpYes X0.here hx rfl (pc0 := 36) (pc' := 52) rfl (hb hby d2_36) rfl (tlt (by decide)).1 (by decide) (by decide) k) ?_
    refine own_go T0 m 53 #[rv x0, iv 3, iv 1] [(.int 1)] (fun t k => XS.iconst X0.here hx rfl (hb hby d2_52) k) ?_
    refine own_go T0 m 57 #[rv x0, iv 3, iv 1] [(.int 1)] (fun t k => XS.goto X0.here hx rfl (pc0 := 53) (pc' := 57) rfl (hb hby d2_53) (by decide) (by decide) k) ?_
    refine own_retZ X0 hx hlk hret (by decide) (hb hby d2_57) (by decide) (by decide) ?_
    exact ⟨by rw [own_lf6 p0 p1 p2 p3 p4  hc13_3], e0, rfl⟩
  · refine own_go T0 m 56 #[rv x0, iv 3, iv 1] [] (fun t k => XS.icmpYes X0.here hx rfl (pc0 := 13) (pc' := 56) rfl (hb hby d2_13) rfl (feq hc13_3).2 (by decide) (by decide) k) ?_
    refine own_go T0 m 57 #[rv x0, iv 3, iv 1] [(.int 0)] (fun t k => XS.iconst X0.here hx rfl (hb hby d2_56) k) ?_
    refine own_retZ X0 hx hlk hret (by decide) (hb hby d2_57) (by decide) (by decide) ?_
    exact ⟨by rw [own_lf7 p0 p1 p2 p3 p4  hc13_3], e0, rfl⟩
theorem own_lf8 (p0 p1 p2 p3 p4  : Int32) (hc13_3 : p0 = p1) (hc31_6 : p1 = p2) (hc49_9 : p2 = p3) : (if p0 = p1 ∧ p1 = p2 ∧ p2 = p3 then (1 : Int32) else 0) = (1 : Int32) := by
  skip
  grind
theorem own_lf9 (p0 p1 p2 p3 p4  : Int32) (hc13_3 : p0 = p1) (hc31_6 : p1 = p2) (hc49_9 : ¬ (p2 = p3)) : (if p0 = p1 ∧ p1 = p2 ∧ p2 = p3 then (1 : Int32) else 0) = (0 : Int32) := by
  skip
  grind
theorem own_lf10 (p0 p1 p2 p3 p4  : Int32) (hc13_3 : p0 = p1) (hc31_6 : ¬ (p1 = p2)) : (if p0 = p1 ∧ p1 = p2 ∧ p2 = p3 then (1 : Int32) else 0) = (0 : Int32) := by
  skip
  grind
theorem own_lf11 (p0 p1 p2 p3 p4  : Int32) (hc13_3 : ¬ (p0 = p1)) : (if p0 = p1 ∧ p1 = p2 ∧ p2 = p3 then (1 : Int32) else 0) = (0 : Int32) := by
  skip
  grind
theorem ef_rmB43 (m : MethodId) (q0 : Addr) (q1 : Int32) (q2 : Int32) : entryFrame m #[(.ref q0), (.int q1), (.int q2)] 3 = mkF m 0 #[rv q0, iv q1, iv q2] [] := by first | (simp [entryFrame, mkF, argsToLocals, Value.category]; done) | rfl
set_option maxRecDepth 65536 in
set_option maxHeartbeats 40000000 in
theorem rmB43 (l : Launch) (Z : State) (a0 : Array Value) (hw : ∀ d ∈ tables_1, d.before a0 Z = true) (ws : List Jvm.Cond) (x0 : Addr) (kp : ClassId) (p0 p1 p2 p3 p4 : Int32) (h0 : Heap) (Vp : Arv Z h0 x0 kp .int 5 [(.int p0), (.int p1), (.int p2), (.int p3), (.int p4)] (.int 0)) :
    OwnC l Z (⟨"com/example/substring_search/substringsearch/PrefixTableFallBackPinLaw", "border", "([III)Z"⟩ : MethodName) method_3_code 3 (some .boolean) ws ({ frames := 0, cells := 0, slots := 0, locals := 0 } : Room) #[(.ref x0), (.int 4), (.int 3)] h0 (OwnPure (.int (if p0 = p1 ∧ p1 = p2 ∧ p2 = p3 then 1 else 0)) h0) := by
  refine own_entry pf_com_example_substring_search_substringsearch_PrefixTableFallBackPinLaw_border___III_Z (fun m => ef_rmB43 m x0 (4 : Int32) (3 : Int32)) ?_
  intro p e s m below meth c T0 X0 hC e0
  obtain ⟨hx, hby, hml, hown, hnm, hret, hlk, hZ⟩ := hC
  refine own_go T0 m 1 #[rv x0, iv 4, iv 3] [(.int 3)] (fun t k => XS.iloadN X0.here hx rfl (hb hby d2_0) rfl k) ?_
  refine own_go T0 m 2 #[rv x0, iv 4, iv 3] [(.int 1), (.int 3)] (fun t k => XS.iconst X0.here hx rfl (hb hby d2_1) k) ?_
  refine own_go T0 m 5 #[rv x0, iv 4, iv 3] [] (fun t k => XS.icmpNo X0.here hx rfl (hb hby d2_2) rfl (flt (by decide)).1 k) ?_
  refine own_go T0 m 6 #[rv x0, iv 4, iv 3] [(.ref x0)] (fun t k => XS.aloadN X0.here hx rfl (hb hby d2_5) rfl rfl k) ?_
  refine own_go T0 m 7 #[rv x0, iv 4, iv 3] [(.int 0), (.ref x0)] (fun t k => XS.iconst X0.here hx rfl (hb hby d2_6) k) ?_
  refine own_go T0 m 8 #[rv x0, iv 4, iv 3] [(.int p0)] (own_iaload X0 hx hZ e0 Vp (j := (0 : Int32)) ⟨by decide, by decide⟩ rfl (hb hby d2_7)) ?_
  refine own_go T0 m 9 #[rv x0, iv 4, iv 3] [(.ref x0), (.int p0)] (fun t k => XS.aloadN X0.here hx rfl (hb hby d2_8) rfl rfl k) ?_
  refine own_go T0 m 10 #[rv x0, iv 4, iv 3] [(.int 4), (.ref x0), (.int p0)] (fun t k => XS.iloadN X0.here hx rfl (hb hby d2_9) rfl k) ?_
  refine own_go T0 m 11 #[rv x0, iv 4, iv 3] [(.int 3), (.int 4), (.ref x0), (.int p0)] (fun t k => XS.iloadN X0.here hx rfl (hb hby d2_10) rfl k) ?_
  refine own_go T0 m 12 #[rv x0, iv 4, iv 3] [(.int ((4 : Int32) - (3 : Int32))), (.ref x0), (.int p0)] (fun t k => XS.isub X0.here hx rfl (hb hby d2_11) rfl k) ?_
  rw [show ((4 : Int32) - (3 : Int32)) = (1 : Int32) from by decide]
  refine own_go T0 m 13 #[rv x0, iv 4, iv 3] [(.int p1), (.int p0)] (own_iaload X0 hx hZ e0 Vp (j := (1 : Int32)) ⟨by decide, by decide⟩ rfl (hb hby d2_12)) ?_
  by_cases hc13_3 : p0 = p1
  · refine own_go T0 m 16 #[rv x0, iv 4, iv 3] [] (fun t k => XS.icmpNo X0.here hx rfl (hb hby d2_13) rfl (teq hc13_3).2 k) ?_
    refine own_go T0 m 17 #[rv x0, iv 4, iv 3] [(.int 3)] (fun t k => XS.iloadN X0.here hx rfl (hb hby d2_16) rfl k) ?_
    refine own_go T0 m 18 #[rv x0, iv 4, iv 3] [(.int 2), (.int 3)] (fun t k => XS.iconst X0.here hx rfl (hb hby d2_17) k) ?_
    refine own_go T0 m 21 #[rv x0, iv 4, iv 3] [] (fun t k => XS.icmpNo X0.here hx rfl (hb hby d2_18) rfl (flt (by decide)).1 k) ?_
    refine own_go T0 m 22 #[rv x0, iv 4, iv 3] [(.ref x0)] (fun t k => XS.aloadN X0.here hx rfl (hb hby d2_21) rfl rfl k) ?_
    refine own_go T0 m 23 #[rv x0, iv 4, iv 3] [(.int 1), (.ref x0)] (fun t k => XS.iconst X0.here hx rfl (hb hby d2_22) k) ?_
    refine own_go T0 m 24 #[rv x0, iv 4, iv 3] [(.int p1)] (own_iaload X0 hx hZ e0 Vp (j := (1 : Int32)) ⟨by decide, by decide⟩ rfl (hb hby d2_23)) ?_
    refine own_go T0 m 25 #[rv x0, iv 4, iv 3] [(.ref x0), (.int p1)] (fun t k => XS.aloadN X0.here hx rfl (hb hby d2_24) rfl rfl k) ?_
    refine own_go T0 m 26 #[rv x0, iv 4, iv 3] [(.int 4), (.ref x0), (.int p1)] (fun t k => XS.iloadN X0.here hx rfl (hb hby d2_25) rfl k) ?_
    refine own_go T0 m 27 #[rv x0, iv 4, iv 3] [(.int 3), (.int 4), (.ref x0), (.int p1)] (fun t k => XS.iloadN X0.here hx rfl (hb hby d2_26) rfl k) ?_
    refine own_go T0 m 28 #[rv x0, iv 4, iv 3] [(.int ((4 : Int32) - (3 : Int32))), (.ref x0), (.int p1)] (fun t k => XS.isub X0.here hx rfl (hb hby d2_27) rfl k) ?_
    rw [show ((4 : Int32) - (3 : Int32)) = (1 : Int32) from by decide]
    refine own_go T0 m 29 #[rv x0, iv 4, iv 3] [(.int 1), (.int 1), (.ref x0), (.int p1)] (fun t k => XS.iconst X0.here hx rfl (hb hby d2_28) k) ?_
    refine own_go T0 m 30 #[rv x0, iv 4, iv 3] [(.int ((1 : Int32) + (1 : Int32))), (.ref x0), (.int p1)] (fun t k => XS.iadd X0.here hx rfl (hb hby d2_29) rfl k) ?_
    rw [show ((1 : Int32) + (1 : Int32)) = (2 : Int32) from by decide]
    refine own_go T0 m 31 #[rv x0, iv 4, iv 3] [(.int p2), (.int p1)] (own_iaload X0 hx hZ e0 Vp (j := (2 : Int32)) ⟨by decide, by decide⟩ rfl (hb hby d2_30)) ?_
    by_cases hc31_6 : p1 = p2
    · refine own_go T0 m 34 #[rv x0, iv 4, iv 3] [] (fun t k => XS.icmpNo X0.here hx rfl (hb hby d2_31) rfl (teq hc31_6).2 k) ?_
      refine own_go T0 m 35 #[rv x0, iv 4, iv 3] [(.int 3)] (fun t k => XS.iloadN X0.here hx rfl (hb hby d2_34) rfl k) ?_
      refine own_go T0 m 36 #[rv x0, iv 4, iv 3] [(.int 3), (.int 3)] (fun t k => XS.iconst X0.here hx rfl (hb hby d2_35) k) ?_
      refine own_go T0 m 39 #[rv x0, iv 4, iv 3] [] (fun t k => XS.icmpNo X0.here hx rfl (hb hby d2_36) rfl (flt (by decide)).1 k) ?_
      refine own_go T0 m 40 #[rv x0, iv 4, iv 3] [(.ref x0)] (fun t k => XS.aloadN X0.here hx rfl (hb hby d2_39) rfl rfl k) ?_
      refine own_go T0 m 41 #[rv x0, iv 4, iv 3] [(.int 2), (.ref x0)] (fun t k => XS.iconst X0.here hx rfl (hb hby d2_40) k) ?_
      refine own_go T0 m 42 #[rv x0, iv 4, iv 3] [(.int p2)] (own_iaload X0 hx hZ e0 Vp (j := (2 : Int32)) ⟨by decide, by decide⟩ rfl (hb hby d2_41)) ?_
      refine own_go T0 m 43 #[rv x0, iv 4, iv 3] [(.ref x0), (.int p2)] (fun t k => XS.aloadN X0.here hx rfl (hb hby d2_42) rfl rfl k) ?_
      refine own_go T0 m 44 #[rv x0, iv 4, iv 3] [(.int 4), (.ref x0), (.int p2)] (fun t k => XS.iloadN X0.here hx rfl (hb hby d2_43) rfl k) ?_
      refine own_go T0 m 45 #[rv x0, iv 4, iv 3] [(.int 3), (.int 4), (.ref x0), (.int p2)] (fun t k => XS.iloadN X0.here hx rfl (hb hby d2_44) rfl k) ?_
      refine own_go T0 m 46 #[rv x0, iv 4, iv 3] [(.int ((4 : Int32) - (3 : Int32))), (.ref x0), (.int p2)] (fun t k => XS.isub X0.here hx rfl (hb hby d2_45) rfl k) ?_
      rw [show ((4 : Int32) - (3 : Int32)) = (1 : Int32) from by decide]
      refine own_go T0 m 47 #[rv x0, iv 4, iv 3] [(.int 2), (.int 1), (.ref x0), (.int p2)] (fun t k => XS.iconst X0.here hx rfl (hb hby d2_46) k) ?_
      refine own_go T0 m 48 #[rv x0, iv 4, iv 3] [(.int ((1 : Int32) + (2 : Int32))), (.ref x0), (.int p2)] (fun t k => XS.iadd X0.here hx rfl (hb hby d2_47) rfl k) ?_
      rw [show ((1 : Int32) + (2 : Int32)) = (3 : Int32) from by decide]
      refine own_go T0 m 49 #[rv x0, iv 4, iv 3] [(.int p3), (.int p2)] (own_iaload X0 hx hZ e0 Vp (j := (3 : Int32)) ⟨by decide, by decide⟩ rfl (hb hby d2_48)) ?_
      by_cases hc49_9 : p2 = p3
      · refine own_go T0 m 52 #[rv x0, iv 4, iv 3] [] (fun t k => XS.icmpNo X0.here hx rfl (hb hby d2_49) rfl (teq hc49_9).2 k) ?_
        refine own_go T0 m 53 #[rv x0, iv 4, iv 3] [(.int 1)] (fun t k => XS.iconst X0.here hx rfl (hb hby d2_52) k) ?_
        refine own_go T0 m 57 #[rv x0, iv 4, iv 3] [(.int 1)] (fun t k => XS.goto X0.here hx rfl (pc0 := 53) (pc' := 57) rfl (hb hby d2_53) (by decide) (by decide) k) ?_
        refine own_retZ X0 hx hlk hret (by decide) (hb hby d2_57) (by decide) (by decide) ?_
        exact ⟨by rw [own_lf8 p0 p1 p2 p3 p4  hc13_3 hc31_6 hc49_9], e0, rfl⟩
      · refine own_go T0 m 56 #[rv x0, iv 4, iv 3] [] (fun t k => XS.icmpYes X0.here hx rfl (pc0 := 49) (pc' := 56) rfl (hb hby d2_49) rfl (feq hc49_9).2 (by decide) (by decide) k) ?_
        refine own_go T0 m 57 #[rv x0, iv 4, iv 3] [(.int 0)] (fun t k => XS.iconst X0.here hx rfl (hb hby d2_56) k) ?_
        refine own_retZ X0 hx hlk hret (by decide) (hb hby d2_57) (by decide) (by decide) ?_
        exact ⟨by rw [own_lf9 p0 p1 p2 p3 p4  hc13_3 hc31_6 hc49_9], e0, rfl⟩
    · refine own_go T0 m 56 #[rv x0, iv 4, iv 3] [] (fun t k => XS.icmpYes X0.here hx rfl (pc0 := 31) (pc' := 56) rfl (hb hby d2_31) rfl (feq hc31_6).2 (by decide) (by decide) k) ?_
      refine own_go T0 m 57 #[rv x0, iv 4, iv 3] [(.int 0)] (fun t k => XS.iconst X0.here hx rfl (hb hby d2_56) k) ?_
      refine own_retZ X0 hx hlk hret (by decide) (hb hby d2_57) (by decide) (by decide) ?_
      exact ⟨by rw [own_lf10 p0 p1 p2 p3 p4  hc13_3 hc31_6], e0, rfl⟩
  · refine own_go T0 m 56 #[rv x0, iv 4, iv 3] [] (fun t k => XS.icmpYes X0.here hx rfl (pc0 := 13) (pc' := 56) rfl (hb hby d2_13) rfl (feq hc13_3).2 (by decide) (by decide) k) ?_
    refine own_go T0 m 57 #[rv x0, iv 4, iv 3] [(.int 0)] (fun t k => XS.iconst X0.here hx rfl (hb hby d2_56) k) ?_
    refine own_retZ X0 hx hlk hret (by decide) (hb hby d2_57) (by decide) (by decide) ?_
    exact ⟨by rw [own_lf11 p0 p1 p2 p3 p4  hc13_3], e0, rfl⟩
theorem own_lf12 (p0 p1 p2 p3 p4  : Int32) (hc13_3 : p0 = p2) (hc31_6 : p1 = p3) : (if p0 = p2 ∧ p1 = p3 then (1 : Int32) else 0) = (1 : Int32) := by
  skip
  grind
theorem own_lf13 (p0 p1 p2 p3 p4  : Int32) (hc13_3 : p0 = p2) (hc31_6 : ¬ (p1 = p3)) : (if p0 = p2 ∧ p1 = p3 then (1 : Int32) else 0) = (0 : Int32) := by
  skip
  grind
theorem own_lf14 (p0 p1 p2 p3 p4  : Int32) (hc13_3 : ¬ (p0 = p2)) : (if p0 = p2 ∧ p1 = p3 then (1 : Int32) else 0) = (0 : Int32) := by
  skip
  grind
theorem ef_rmB42 (m : MethodId) (q0 : Addr) (q1 : Int32) (q2 : Int32) : entryFrame m #[(.ref q0), (.int q1), (.int q2)] 3 = mkF m 0 #[rv q0, iv q1, iv q2] [] := by first | (simp [entryFrame, mkF, argsToLocals, Value.category]; done) | rfl
set_option maxRecDepth 65536 in
set_option maxHeartbeats 40000000 in
theorem rmB42 (l : Launch) (Z : State) (a0 : Array Value) (hw : ∀ d ∈ tables_1, d.before a0 Z = true) (ws : List Jvm.Cond) (x0 : Addr) (kp : ClassId) (p0 p1 p2 p3 p4 : Int32) (h0 : Heap) (Vp : Arv Z h0 x0 kp .int 5 [(.int p0), (.int p1), (.int p2), (.int p3), (.int p4)] (.int 0)) :
    OwnC l Z (⟨"com/example/substring_search/substringsearch/PrefixTableFallBackPinLaw", "border", "([III)Z"⟩ : MethodName) method_3_code 3 (some .boolean) ws ({ frames := 0, cells := 0, slots := 0, locals := 0 } : Room) #[(.ref x0), (.int 4), (.int 2)] h0 (OwnPure (.int (if p0 = p2 ∧ p1 = p3 then 1 else 0)) h0) := by
  refine own_entry pf_com_example_substring_search_substringsearch_PrefixTableFallBackPinLaw_border___III_Z (fun m => ef_rmB42 m x0 (4 : Int32) (2 : Int32)) ?_
  intro p e s m below meth c T0 X0 hC e0
  obtain ⟨hx, hby, hml, hown, hnm, hret, hlk, hZ⟩ := hC
  refine own_go T0 m 1 #[rv x0, iv 4, iv 2] [(.int 2)] (fun t k => XS.iloadN X0.here hx rfl (hb hby d2_0) rfl k) ?_
  refine own_go T0 m 2 #[rv x0, iv 4, iv 2] [(.int 1), (.int 2)] (fun t k => XS.iconst X0.here hx rfl (hb hby d2_1) k) ?_
  refine own_go T0 m 5 #[rv x0, iv 4, iv 2] [] (fun t k => XS.icmpNo X0.here hx rfl (hb hby d2_2) rfl (flt (by decide)).1 k) ?_
  refine own_go T0 m 6 #[rv x0, iv 4, iv 2] [(.ref x0)] (fun t k => XS.aloadN X0.here hx rfl (hb hby d2_5) rfl rfl k) ?_
  refine own_go T0 m 7 #[rv x0, iv 4, iv 2] [(.int 0), (.ref x0)] (fun t k => XS.iconst X0.here hx rfl (hb hby d2_6) k) ?_
  refine own_go T0 m 8 #[rv x0, iv 4, iv 2] [(.int p0)] (own_iaload X0 hx hZ e0 Vp (j := (0 : Int32)) ⟨by decide, by decide⟩ rfl (hb hby d2_7)) ?_
  refine own_go T0 m 9 #[rv x0, iv 4, iv 2] [(.ref x0), (.int p0)] (fun t k => XS.aloadN X0.here hx rfl (hb hby d2_8) rfl rfl k) ?_
  refine own_go T0 m 10 #[rv x0, iv 4, iv 2] [(.int 4), (.ref x0), (.int p0)] (fun t k => XS.iloadN X0.here hx rfl (hb hby d2_9) rfl k) ?_
  refine own_go T0 m 11 #[rv x0, iv 4, iv 2] [(.int 2), (.int 4), (.ref x0), (.int p0)] (fun t k => XS.iloadN X0.here hx rfl (hb hby d2_10) rfl k) ?_
  refine own_go T0 m 12 #[rv x0, iv 4, iv 2] [(.int ((4 : Int32) - (2 : Int32))), (.ref x0), (.int p0)] (fun t k => XS.isub X0.here hx rfl (hb hby d2_11) rfl k) ?_
  rw [show ((4 : Int32) - (2 : Int32)) = (2 : Int32) from by decide]
  refine own_go T0 m 13 #[rv x0, iv 4, iv 2] [(.int p2), (.int p0)] (own_iaload X0 hx hZ e0 Vp (j := (2 : Int32)) ⟨by decide, by decide⟩ rfl (hb hby d2_12)) ?_
  by_cases hc13_3 : p0 = p2
  · refine own_go T0 m 16 #[rv x0, iv 4, iv 2] [] (fun t k => XS.icmpNo X0.here hx rfl (hb hby d2_13) rfl (teq hc13_3).2 k) ?_
    refine own_go T0 m 17 #[rv x0, iv 4, iv 2] [(.int 2)] (fun t k => XS.iloadN X0.here hx rfl (hb hby d2_16) rfl k) ?_
    refine own_go T0 m 18 #[rv x0, iv 4, iv 2] [(.int 2), (.int 2)] (fun t k => XS.iconst X0.here hx rfl (hb hby d2_17) k) ?_
    refine own_go T0 m 21 #[rv x0, iv 4, iv 2] [] (fun t k => XS.icmpNo X0.here hx rfl (hb hby d2_18) rfl (flt (by decide)).1 k) ?_
    refine own_go T0 m 22 #[rv x0, iv 4, iv 2] [(.ref x0)] (fun t k => XS.aloadN X0.here hx rfl (hb hby d2_21) rfl rfl k) ?_
    refine own_go T0 m 23 #[rv x0, iv 4, iv 2] [(.int 1), (.ref x0)] (fun t k => XS.iconst X0.here hx rfl (hb hby d2_22) k) ?_
    refine own_go T0 m 24 #[rv x0, iv 4, iv 2] [(.int p1)] (own_iaload X0 hx hZ e0 Vp (j := (1 : Int32)) ⟨by decide, by decide⟩ rfl (hb hby d2_23)) ?_
    refine own_go T0 m 25 #[rv x0, iv 4, iv 2] [(.ref x0), (.int p1)] (fun t k => XS.aloadN X0.here hx rfl (hb hby d2_24) rfl rfl k) ?_
    refine own_go T0 m 26 #[rv x0, iv 4, iv 2] [(.int 4), (.ref x0), (.int p1)] (fun t k => XS.iloadN X0.here hx rfl (hb hby d2_25) rfl k) ?_
    refine own_go T0 m 27 #[rv x0, iv 4, iv 2] [(.int 2), (.int 4), (.ref x0), (.int p1)] (fun t k => XS.iloadN X0.here hx rfl (hb hby d2_26) rfl k) ?_
    refine own_go T0 m 28 #[rv x0, iv 4, iv 2] [(.int ((4 : Int32) - (2 : Int32))), (.ref x0), (.int p1)] (fun t k => XS.isub X0.here hx rfl (hb hby d2_27) rfl k) ?_
    rw [show ((4 : Int32) - (2 : Int32)) = (2 : Int32) from by decide]
    refine own_go T0 m 29 #[rv x0, iv 4, iv 2] [(.int 1), (.int 2), (.ref x0), (.int p1)] (fun t k => XS.iconst X0.here hx rfl (hb hby d2_28) k) ?_
    refine own_go T0 m 30 #[rv x0, iv 4, iv 2] [(.int ((2 : Int32) + (1 : Int32))), (.ref x0), (.int p1)] (fun t k => XS.iadd X0.here hx rfl (hb hby d2_29) rfl k) ?_
    rw [show ((2 : Int32) + (1 : Int32)) = (3 : Int32) from by decide]
    refine own_go T0 m 31 #[rv x0, iv 4, iv 2] [(.int p3), (.int p1)] (own_iaload X0 hx hZ e0 Vp (j := (3 : Int32)) ⟨by decide, by decide⟩ rfl (hb hby d2_30)) ?_
    by_cases hc31_6 : p1 = p3
    · refine own_go T0 m 34 #[rv x0, iv 4, iv 2] [] (fun t k => XS.icmpNo X0.here hx rfl (hb hby d2_31) rfl (teq hc31_6).2 k) ?_
      refine own_go T0 m 35 #[rv x0, iv 4, iv 2] [(.int 2)] (fun t k => XS.iloadN X0.here hx rfl (hb hby d2_34) rfl k) ?_
      refine own_go T0 m 36 #[rv x0, iv 4, iv 2] [(.int 3), (.int 2)] (fun t k => XS.iconst X0.here hx rfl (hb hby d2_35) k) ?_
      refine own_go T0 m 52 #[rv x0, iv 4, iv 2] [] (fun t k => XS.icmpYes X0.here hx rfl (pc0 := 36) (pc' := 52) rfl (hb hby d2_36) rfl (tlt (by decide)).1 (by decide) (by decide) k) ?_
      refine own_go T0 m 53 #[rv x0, iv 4, iv 2] [(.int 1)] (fun t k => XS.iconst X0.here hx rfl (hb hby d2_52) k) ?_
      refine own_go T0 m 57 #[rv x0, iv 4, iv 2] [(.int 1)] (fun t k => XS.goto X0.here hx rfl (pc0 := 53) (pc' := 57) rfl (hb hby d2_53) (by decide) (by decide) k) ?_
      refine own_retZ X0 hx hlk hret (by decide) (hb hby d2_57) (by decide) (by decide) ?_
      exact ⟨by rw [own_lf12 p0 p1 p2 p3 p4  hc13_3 hc31_6], e0, rfl⟩
    · refine own_go T0 m 56 #[rv x0, iv 4, iv 2] [] (fun t k => XS.icmpYes X0.here hx rfl (pc0 := 31) (pc' := 56) rfl (hb hby d2_31) rfl (feq hc31_6).2 (by decide) (by decide) k) ?_
      refine own_go T0 m 57 #[rv x0, iv 4, iv 2] [(.int 0)] (fun t k => XS.iconst X0.here hx rfl (hb hby d2_56) k) ?_
      refine own_retZ X0 hx hlk hret (by decide) (hb hby d2_57) (by decide) (by decide) ?_
      exact ⟨by rw [own_lf13 p0 p1 p2 p3 p4  hc13_3 hc31_6], e0, rfl⟩
  · refine own_go T0 m 56 #[rv x0, iv 4, iv 2] [] (fun t k => XS.icmpYes X0.here hx rfl (pc0 := 13) (pc' := 56) rfl (hb hby d2_13) rfl (feq hc13_3).2 (by decide) (by decide) k) ?_
    refine own_go T0 m 57 #[rv x0, iv 4, iv 2] [(.int 0)] (fun t k => XS.iconst X0.here hx rfl (hb hby d2_56) k) ?_
    refine own_retZ X0 hx hlk hret (by decide) (hb hby d2_57) (by decide) (by decide) ?_
    exact ⟨by rw [own_lf14 p0 p1 p2 p3 p4  hc13_3], e0, rfl⟩
theorem own_lf15 (p0 p1 p2 p3 p4  : Int32) (hc13_3 : p0 = p3) : (if p0 = p3 then (1 : Int32) else 0) = (1 : Int32) := by
  skip
  grind
theorem own_lf16 (p0 p1 p2 p3 p4  : Int32) (hc13_3 : ¬ (p0 = p3)) : (if p0 = p3 then (1 : Int32) else 0) = (0 : Int32) := by
  skip
  grind
theorem ef_rmB41 (m : MethodId) (q0 : Addr) (q1 : Int32) (q2 : Int32) : entryFrame m #[(.ref q0), (.int q1), (.int q2)] 3 = mkF m 0 #[rv q0, iv q1, iv q2] [] := by first | (simp [entryFrame, mkF, argsToLocals, Value.category]; done) | rfl
set_option maxRecDepth 65536 in
set_option maxHeartbeats 40000000 in
theorem rmB41 (l : Launch) (Z : State) (a0 : Array Value) (hw : ∀ d ∈ tables_1, d.before a0 Z = true) (ws : List Jvm.Cond) (x0 : Addr) (kp : ClassId) (p0 p1 p2 p3 p4 : Int32) (h0 : Heap) (Vp : Arv Z h0 x0 kp .int 5 [(.int p0), (.int p1), (.int p2), (.int p3), (.int p4)] (.int 0)) :
    OwnC l Z (⟨"com/example/substring_search/substringsearch/PrefixTableFallBackPinLaw", "border", "([III)Z"⟩ : MethodName) method_3_code 3 (some .boolean) ws ({ frames := 0, cells := 0, slots := 0, locals := 0 } : Room) #[(.ref x0), (.int 4), (.int 1)] h0 (OwnPure (.int (if p0 = p3 then 1 else 0)) h0) := by
  refine own_entry pf_com_example_substring_search_substringsearch_PrefixTableFallBackPinLaw_border___III_Z (fun m => ef_rmB41 m x0 (4 : Int32) (1 : Int32)) ?_
  intro p e s m below meth c T0 X0 hC e0
  obtain ⟨hx, hby, hml, hown, hnm, hret, hlk, hZ⟩ := hC
  refine own_go T0 m 1 #[rv x0, iv 4, iv 1] [(.int 1)] (fun t k => XS.iloadN X0.here hx rfl (hb hby d2_0) rfl k) ?_
  refine own_go T0 m 2 #[rv x0, iv 4, iv 1] [(.int 1), (.int 1)] (fun t k => XS.iconst X0.here hx rfl (hb hby d2_1) k) ?_
  refine own_go T0 m 5 #[rv x0, iv 4, iv 1] [] (fun t k => XS.icmpNo X0.here hx rfl (hb hby d2_2) rfl (flt (by decide)).1 k) ?_
  refine own_go T0 m 6 #[rv x0, iv 4, iv 1] [(.ref x0)] (fun t k => XS.aloadN X0.here hx rfl (hb hby d2_5) rfl rfl k) ?_
  refine own_go T0 m 7 #[rv x0, iv 4, iv 1] [(.int 0), (.ref x0)] (fun t k => XS.iconst X0.here hx rfl (hb hby d2_6) k) ?_
  refine own_go T0 m 8 #[rv x0, iv 4, iv 1] [(.int p0)] (own_iaload X0 hx hZ e0 Vp (j := (0 : Int32)) ⟨by decide, by decide⟩ rfl (hb hby d2_7)) ?_
  refine own_go T0 m 9 #[rv x0, iv 4, iv 1] [(.ref x0), (.int p0)] (fun t k => XS.aloadN X0.here hx rfl (hb hby d2_8) rfl rfl k) ?_
  refine own_go T0 m 10 #[rv x0, iv 4, iv 1] [(.int 4), (.ref x0), (.int p0)] (fun t k => XS.iloadN X0.here hx rfl (hb hby d2_9) rfl k) ?_
  refine own_go T0 m 11 #[rv x0, iv 4, iv 1] [(.int 1), (.int 4), (.ref x0), (.int p0)] (fun t k => XS.iloadN X0.here hx rfl (hb hby d2_10) rfl k) ?_
  refine own_go T0 m 12 #[rv x0, iv 4, iv 1] [(.int ((4 : Int32) - (1 : Int32))), (.ref x0), (.int p0)] (fun t k => XS.isub X0.here hx rfl (hb hby d2_11) rfl k) ?_
  rw [show ((4 : Int32) - (1 : Int32)) = (3 : Int32) from by decide]
  refine own_go T0 m 13 #[rv x0, iv 4, iv 1] [(.int p3), (.int p0)] (own_iaload X0 hx hZ e0 Vp (j := (3 : Int32)) ⟨by decide, by decide⟩ rfl (hb hby d2_12)) ?_
  by_cases hc13_3 : p0 = p3
  · refine own_go T0 m 16 #[rv x0, iv 4, iv 1] [] (fun t k => XS.icmpNo X0.here hx rfl (hb hby d2_13) rfl (teq hc13_3).2 k) ?_
    refine own_go T0 m 17 #[rv x0, iv 4, iv 1] [(.int 1)] (fun t k => XS.iloadN X0.here hx rfl (hb hby d2_16) rfl k) ?_
    refine own_go T0 m 18 #[rv x0, iv 4, iv 1] [(.int 2), (.int 1)] (fun t k => XS.iconst X0.here hx rfl (hb hby d2_17) k) ?_
    refine own_go T0 m 34 #[rv x0, iv 4, iv 1] [] (fun t k => XS.icmpYes X0.here hx rfl (pc0 := 18) (pc' := 34) rfl (hb hby d2_18) rfl (tlt (by decide)).1 (by decide) (by decide) k) ?_
    refine own_go T0 m 35 #[rv x0, iv 4, iv 1] [(.int 1)] (fun t k => XS.iloadN X0.here hx rfl (hb hby d2_34) rfl k) ?_
    refine own_go T0 m 36 #[rv x0, iv 4, iv 1] [(.int 3), (.int 1)] (fun t k => XS.iconst X0.here hx rfl (hb hby d2_35) k) ?_
    refine own_go T0 m 52 #[rv x0, iv 4, iv 1] [] (fun t k => XS.icmpYes X0.here hx rfl (pc0 := 36) (pc' := 52) rfl (hb hby d2_36) rfl (tlt (by decide)).1 (by decide) (by decide) k) ?_
    refine own_go T0 m 53 #[rv x0, iv 4, iv 1] [(.int 1)] (fun t k => XS.iconst X0.here hx rfl (hb hby d2_52) k) ?_
    refine own_go T0 m 57 #[rv x0, iv 4, iv 1] [(.int 1)] (fun t k => XS.goto X0.here hx rfl (pc0 := 53) (pc' := 57) rfl (hb hby d2_53) (by decide) (by decide) k) ?_
    refine own_retZ X0 hx hlk hret (by decide) (hb hby d2_57) (by decide) (by decide) ?_
    exact ⟨by rw [own_lf15 p0 p1 p2 p3 p4  hc13_3], e0, rfl⟩
  · refine own_go T0 m 56 #[rv x0, iv 4, iv 1] [] (fun t k => XS.icmpYes X0.here hx rfl (pc0 := 13) (pc' := 56) rfl (hb hby d2_13) rfl (feq hc13_3).2 (by decide) (by decide) k) ?_
    refine own_go T0 m 57 #[rv x0, iv 4, iv 1] [(.int 0)] (fun t k => XS.iconst X0.here hx rfl (hb hby d2_56) k) ?_
    refine own_retZ X0 hx hlk hret (by decide) (hb hby d2_57) (by decide) (by decide) ?_
    exact ⟨by rw [own_lf16 p0 p1 p2 p3 p4  hc13_3], e0, rfl⟩
theorem d1_0 : decode method_4_code 0 = .ok (.iload_n 1, 1) := by decide +kernel
theorem d1_1 : decode method_4_code 1 = .ok (.iconst 4, 1) := by decide +kernel
theorem d1_2 : decode method_4_code 2 = .ok (.if_icmp .lt 14, 3) := by decide +kernel
theorem d1_5 : decode method_4_code 5 = .ok (.aload_n 0, 1) := by decide +kernel
theorem d1_6 : decode method_4_code 6 = .ok (.iload_n 1, 1) := by decide +kernel
theorem d1_7 : decode method_4_code 7 = .ok (.iconst 3, 1) := by decide +kernel
theorem d1_8 : decode method_4_code 8 = .ok (.invokestatic 24, 3) := by decide +kernel
theorem d1_11 : decode method_4_code 11 = .ok (.ifCond .eq 5, 3) := by decide +kernel
theorem d1_14 : decode method_4_code 14 = .ok (.iconst 3, 1) := by decide +kernel
theorem d1_15 : decode method_4_code 15 = .ok (.ireturn, 1) := by decide +kernel
theorem d1_16 : decode method_4_code 16 = .ok (.iload_n 1, 1) := by decide +kernel
theorem d1_17 : decode method_4_code 17 = .ok (.iconst 3, 1) := by decide +kernel
theorem d1_18 : decode method_4_code 18 = .ok (.if_icmp .lt 14, 3) := by decide +kernel
theorem d1_21 : decode method_4_code 21 = .ok (.aload_n 0, 1) := by decide +kernel
theorem d1_22 : decode method_4_code 22 = .ok (.iload_n 1, 1) := by decide +kernel
theorem d1_23 : decode method_4_code 23 = .ok (.iconst 2, 1) := by decide +kernel
theorem d1_24 : decode method_4_code 24 = .ok (.invokestatic 24, 3) := by decide +kernel
theorem d1_27 : decode method_4_code 27 = .ok (.ifCond .eq 5, 3) := by decide +kernel
theorem d1_30 : decode method_4_code 30 = .ok (.iconst 2, 1) := by decide +kernel
theorem d1_31 : decode method_4_code 31 = .ok (.ireturn, 1) := by decide +kernel
theorem d1_32 : decode method_4_code 32 = .ok (.iload_n 1, 1) := by decide +kernel
theorem d1_33 : decode method_4_code 33 = .ok (.iconst 2, 1) := by decide +kernel
theorem d1_34 : decode method_4_code 34 = .ok (.if_icmp .lt 14, 3) := by decide +kernel
theorem d1_37 : decode method_4_code 37 = .ok (.aload_n 0, 1) := by decide +kernel
theorem d1_38 : decode method_4_code 38 = .ok (.iload_n 1, 1) := by decide +kernel
theorem d1_39 : decode method_4_code 39 = .ok (.iconst 1, 1) := by decide +kernel
theorem d1_40 : decode method_4_code 40 = .ok (.invokestatic 24, 3) := by decide +kernel
theorem d1_43 : decode method_4_code 43 = .ok (.ifCond .eq 5, 3) := by decide +kernel
theorem d1_46 : decode method_4_code 46 = .ok (.iconst 1, 1) := by decide +kernel
theorem d1_47 : decode method_4_code 47 = .ok (.ireturn, 1) := by decide +kernel
theorem d1_48 : decode method_4_code 48 = .ok (.iconst 0, 1) := by decide +kernel
theorem d1_49 : decode method_4_code 49 = .ok (.ireturn, 1) := by decide +kernel
theorem pf_com_example_substring_search_substringsearch_PrefixTableFallBackPinLaw_longest___II_I : plainFor (⟨"com/example/substring_search/substringsearch/PrefixTableFallBackPinLaw", "longest", "([II)I"⟩ : MethodName) = true := by first | exact plainFor_of_name (by first | (simp [plainName, overriddenIn]; done) | decide +kernel) | exact Jvm.Free.JP.mathPlain rfl (by decide +kernel) | decide +kernel
theorem own_lf17 (p0 p1 p2 p3 p4  : Int32) (hB43_2 : p0 = p1) : own_l2 p0 p1 = (1 : Int32) := by
  unfold own_l2
  grind
theorem own_lf18 (p0 p1 p2 p3 p4  : Int32) (hB43_2 : ¬ (p0 = p1)) : own_l2 p0 p1 = (0 : Int32) := by
  unfold own_l2
  grind
theorem ef_rmL2 (m : MethodId) (q0 : Addr) (q1 : Int32) : entryFrame m #[(.ref q0), (.int q1)] 2 = mkF m 0 #[rv q0, iv q1] [] := by first | (simp [entryFrame, mkF, argsToLocals, Value.category]; done) | rfl
set_option maxRecDepth 65536 in
set_option maxHeartbeats 40000000 in
theorem rmL2 (l : Launch) (Z : State) (a0 : Array Value) (hw : ∀ d ∈ tables_1, d.before a0 Z = true) (ws : List Jvm.Cond) (x0 : Addr) (kp : ClassId) (p0 p1 p2 p3 p4 : Int32) (h0 : Heap) (Vp : Arv Z h0 x0 kp .int 5 [(.int p0), (.int p1), (.int p2), (.int p3), (.int p4)] (.int 0)) :
    OwnC l Z (⟨"com/example/substring_search/substringsearch/PrefixTableFallBackPinLaw", "longest", "([II)I"⟩ : MethodName) method_4_code 2 (some .int) ws ({ frames := 1, cells := 0, slots := 0, locals := 14 } : Room) #[(.ref x0), (.int 2)] h0 (OwnPure (.int (own_l2 p0 p1)) h0) := by
  refine own_entry pf_com_example_substring_search_substringsearch_PrefixTableFallBackPinLaw_longest___II_I (fun m => ef_rmL2 m x0 (2 : Int32)) ?_
  intro p e s m below meth c T0 X0 hC e0
  obtain ⟨hx, hby, hml, hown, hnm, hret, hlk, hZ⟩ := hC
  refine own_go T0 m 1 #[rv x0, iv 2] [(.int 2)] (fun t k => XS.iloadN X0.here hx rfl (hb hby d1_0) rfl k) ?_
  refine own_go T0 m 2 #[rv x0, iv 2] [(.int 4), (.int 2)] (fun t k => XS.iconst X0.here hx rfl (hb hby d1_1) k) ?_
  refine own_go T0 m 16 #[rv x0, iv 2] [] (fun t k => XS.icmpYes X0.here hx rfl (pc0 := 2) (pc' := 16) rfl (hb hby d1_2) rfl (tlt (by decide)).1 (by decide) (by decide) k) ?_
  refine own_go T0 m 17 #[rv x0, iv 2] [(.int 2)] (fun t k => XS.iloadN X0.here hx rfl (hb hby d1_16) rfl k) ?_
  refine own_go T0 m 18 #[rv x0, iv 2] [(.int 3), (.int 2)] (fun t k => XS.iconst X0.here hx rfl (hb hby d1_17) k) ?_
  refine own_go T0 m 32 #[rv x0, iv 2] [] (fun t k => XS.icmpYes X0.here hx rfl (pc0 := 18) (pc' := 32) rfl (hb hby d1_18) rfl (tlt (by decide)).1 (by decide) (by decide) k) ?_
  refine own_go T0 m 33 #[rv x0, iv 2] [(.int 2)] (fun t k => XS.iloadN X0.here hx rfl (hb hby d1_32) rfl k) ?_
  refine own_go T0 m 34 #[rv x0, iv 2] [(.int 2), (.int 2)] (fun t k => XS.iconst X0.here hx rfl (hb hby d1_33) k) ?_
  refine own_go T0 m 37 #[rv x0, iv 2] [] (fun t k => XS.icmpNo X0.here hx rfl (hb hby d1_34) rfl (flt (by decide)).1 k) ?_
  refine own_go T0 m 38 #[rv x0, iv 2] [(.ref x0)] (fun t k => XS.aloadN X0.here hx rfl (hb hby d1_37) rfl rfl k) ?_
  refine own_go T0 m 39 #[rv x0, iv 2] [(.int 2), (.ref x0)] (fun t k => XS.iloadN X0.here hx rfl (hb hby d1_38) rfl k) ?_
  refine own_go T0 m 40 #[rv x0, iv 2] [(.int 1), (.int 2), (.ref x0)] (fun t k => XS.iconst X0.here hx rfl (hb hby d1_39) k) ?_
  obtain ⟨_, T1, L1, X1, ⟨rfl, e1, rfl⟩, st1⟩ := own_static X0 hx hZ (y := (⟨"com/example/substring_search/substringsearch/PrefixTableFallBackPinLaw", "border", "([III)Z"⟩ : MethodName)) hown (own_w hw 5 rfl) (own_w hw 6 rfl) (own_w hw 3 rfl) (own_w hw 7 rfl) (by decide) (rmB21 l Z a0 hw [] x0 kp p0 p1 p2 p3 p4 h0 Vp) e0 0 (argsL := [(.ref x0), (.int 2), (.int 1)]) (rest := []) (Ls := #[rv x0, iv 2]) (by rw [hml]; rfl) (lenOf pd___III_Z rfl) rfl rfl (Nat.le_of_eq rfl) (hb hby d1_40) (by decide) (by decide) (by decide) (by decide)
  replace X1 := own_nil X1
  refine own_go T1 m 43 #[rv x0, iv 2] [(.int (if p0 = p1 then 1 else 0))] (st1) ?_
  by_cases hB43_2 : p0 = p1
  · rw [if_pos hB43_2]
    refine own_go T1 m 46 #[rv x0, iv 2] [] (fun t k => XS.ifNo X1.here hx rfl (hb hby d1_43) rfl ((if0 _ _).trans (feq (by decide)).1) k) ?_
    refine own_go T1 m 47 #[rv x0, iv 2] [(.int 1)] (fun t k => XS.iconst X1.here hx rfl (hb hby d1_46) k) ?_
    refine own_retI X1 hx hlk hret (hb hby d1_47) (by decide) (by decide) ?_
    exact ⟨by rw [own_lf17 p0 p1 p2 p3 p4  hB43_2], e1, rfl⟩
  · rw [if_neg hB43_2]
    refine own_go T1 m 48 #[rv x0, iv 2] [] (fun t k => XS.ifYes X1.here hx rfl (pc0 := 43) (pc' := 48) rfl (hb hby d1_43) rfl ((if0 _ _).trans (teq (by decide)).1) (by decide) (by decide) k) ?_
    refine own_go T1 m 49 #[rv x0, iv 2] [(.int 0)] (fun t k => XS.iconst X1.here hx rfl (hb hby d1_48) k) ?_
    refine own_retI X1 hx hlk hret (hb hby d1_49) (by decide) (by decide) ?_
    exact ⟨by rw [own_lf18 p0 p1 p2 p3 p4  hB43_2], e1, rfl⟩
theorem own_lf19 (p0 p1 p2 p3 p4  : Int32) (hB27_2 : p0 = p1 ∧ p1 = p2) : own_l3 p0 p1 p2 = (2 : Int32) := by
  unfold own_l3
  grind
theorem own_lf20 (p0 p1 p2 p3 p4  : Int32) (hB27_2 : ¬ (p0 = p1 ∧ p1 = p2)) (hB43_4 : p0 = p2) : own_l3 p0 p1 p2 = (1 : Int32) := by
  unfold own_l3
  grind
theorem own_lf21 (p0 p1 p2 p3 p4  : Int32) (hB27_2 : ¬ (p0 = p1 ∧ p1 = p2)) (hB43_4 : ¬ (p0 = p2)) : own_l3 p0 p1 p2 = (0 : Int32) := by
  unfold own_l3
  grind
theorem ef_rmL3 (m : MethodId) (q0 : Addr) (q1 : Int32) : entryFrame m #[(.ref q0), (.int q1)] 2 = mkF m 0 #[rv q0, iv q1] [] := by first | (simp [entryFrame, mkF, argsToLocals, Value.category]; done) | rfl
set_option maxRecDepth 65536 in
set_option maxHeartbeats 40000000 in
theorem rmL3 (l : Launch) (Z : State) (a0 : Array Value) (hw : ∀ d ∈ tables_1, d.before a0 Z = true) (ws : List Jvm.Cond) (x0 : Addr) (kp : ClassId) (p0 p1 p2 p3 p4 : Int32) (h0 : Heap) (Vp : Arv Z h0 x0 kp .int 5 [(.int p0), (.int p1), (.int p2), (.int p3), (.int p4)] (.int 0)) :
    OwnC l Z (⟨"com/example/substring_search/substringsearch/PrefixTableFallBackPinLaw", "longest", "([II)I"⟩ : MethodName) method_4_code 2 (some .int) ws ({ frames := 1, cells := 0, slots := 0, locals := 14 } : Room) #[(.ref x0), (.int 3)] h0 (OwnPure (.int (own_l3 p0 p1 p2)) h0) := by
  refine own_entry pf_com_example_substring_search_substringsearch_PrefixTableFallBackPinLaw_longest___II_I (fun m => ef_rmL3 m x0 (3 : Int32)) ?_
  intro p e s m below meth c T0 X0 hC e0
  obtain ⟨hx, hby, hml, hown, hnm, hret, hlk, hZ⟩ := hC
  refine own_go T0 m 1 #[rv x0, iv 3] [(.int 3)] (fun t k => XS.iloadN X0.here hx rfl (hb hby d1_0) rfl k) ?_
  refine own_go T0 m 2 #[rv x0, iv 3] [(.int 4), (.int 3)] (fun t k => XS.iconst X0.here hx rfl (hb hby d1_1) k) ?_
  refine own_go T0 m 16 #[rv x0, iv 3] [] (fun t k => XS.icmpYes X0.here hx rfl (pc0 := 2) (pc' := 16) rfl (hb hby d1_2) rfl (tlt (by decide)).1 (by decide) (by decide) k) ?_
  refine own_go T0 m 17 #[rv x0, iv 3] [(.int 3)] (fun t k => XS.iloadN X0.here hx rfl (hb hby d1_16) rfl k) ?_
  refine own_go T0 m 18 #[rv x0, iv 3] [(.int 3), (.int 3)] (fun t k => XS.iconst X0.here hx rfl (hb hby d1_17) k) ?_
  refine own_go T0 m 21 #[rv x0, iv 3] [] (fun t k => XS.icmpNo X0.here hx rfl (hb hby d1_18) rfl (flt (by decide)).1 k) ?_
  refine own_go T0 m 22 #[rv x0, iv 3] [(.ref x0)] (fun t k => XS.aloadN X0.here hx rfl (hb hby d1_21) rfl rfl k) ?_
  refine own_go T0 m 23 #[rv x0, iv 3] [(.int 3), (.ref x0)] (fun t k => XS.iloadN X0.here hx rfl (hb hby d1_22) rfl k) ?_
  refine own_go T0 m 24 #[rv x0, iv 3] [(.int 2), (.int 3), (.ref x0)] (fun t k => XS.iconst X0.here hx rfl (hb hby d1_23) k) ?_
  obtain ⟨_, T1, L1, X1, ⟨rfl, e1, rfl⟩, st1⟩ := own_static X0 hx hZ (y := (⟨"com/example/substring_search/substringsearch/PrefixTableFallBackPinLaw", "border", "([III)Z"⟩ : MethodName)) hown (own_w hw 5 rfl) (own_w hw 6 rfl) (own_w hw 3 rfl) (own_w hw 7 rfl) (by decide) (rmB32 l Z a0 hw [] x0 kp p0 p1 p2 p3 p4 h0 Vp) e0 0 (argsL := [(.ref x0), (.int 3), (.int 2)]) (rest := []) (Ls := #[rv x0, iv 3]) (by rw [hml]; rfl) (lenOf pd___III_Z rfl) rfl rfl (Nat.le_of_eq rfl) (hb hby d1_24) (by decide) (by decide) (by decide) (by decide)
  replace X1 := own_nil X1
  refine own_go T1 m 27 #[rv x0, iv 3] [(.int (if p0 = p1 ∧ p1 = p2 then 1 else 0))] (st1) ?_
  by_cases hB27_2 : p0 = p1 ∧ p1 = p2
  · rw [if_pos hB27_2]
    refine own_go T1 m 30 #[rv x0, iv 3] [] (fun t k => XS.ifNo X1.here hx rfl (hb hby d1_27) rfl ((if0 _ _).trans (feq (by decide)).1) k) ?_
    refine own_go T1 m 31 #[rv x0, iv 3] [(.int 2)] (fun t k => XS.iconst X1.here hx rfl (hb hby d1_30) k) ?_
    refine own_retI X1 hx hlk hret (hb hby d1_31) (by decide) (by decide) ?_
    exact ⟨by rw [own_lf19 p0 p1 p2 p3 p4  hB27_2], e1, rfl⟩
  · rw [if_neg hB27_2]
    refine own_go T1 m 32 #[rv x0, iv 3] [] (fun t k => XS.ifYes X1.here hx rfl (pc0 := 27) (pc' := 32) rfl (hb hby d1_27) rfl ((if0 _ _).trans (teq (by decide)).1) (by decide) (by decide) k) ?_
    refine own_go T1 m 33 #[rv x0, iv 3] [(.int 3)] (fun t k => XS.iloadN X1.here hx rfl (hb hby d1_32) rfl k) ?_
    refine own_go T1 m 34 #[rv x0, iv 3] [(.int 2), (.int 3)] (fun t k => XS.iconst X1.here hx rfl (hb hby d1_33) k) ?_
    refine own_go T1 m 37 #[rv x0, iv 3] [] (fun t k => XS.icmpNo X1.here hx rfl (hb hby d1_34) rfl (flt (by decide)).1 k) ?_
    refine own_go T1 m 38 #[rv x0, iv 3] [(.ref x0)] (fun t k => XS.aloadN X1.here hx rfl (hb hby d1_37) rfl rfl k) ?_
    refine own_go T1 m 39 #[rv x0, iv 3] [(.int 3), (.ref x0)] (fun t k => XS.iloadN X1.here hx rfl (hb hby d1_38) rfl k) ?_
    refine own_go T1 m 40 #[rv x0, iv 3] [(.int 1), (.int 3), (.ref x0)] (fun t k => XS.iconst X1.here hx rfl (hb hby d1_39) k) ?_
    obtain ⟨_, T3, L3, X3, ⟨rfl, e3, rfl⟩, st3⟩ := own_static X1 hx hZ (y := (⟨"com/example/substring_search/substringsearch/PrefixTableFallBackPinLaw", "border", "([III)Z"⟩ : MethodName)) hown (own_w hw 5 rfl) (own_w hw 6 rfl) (own_w hw 3 rfl) (own_w hw 7 rfl) (by decide) (rmB31 l Z a0 hw [] x0 kp p0 p1 p2 p3 p4 h0 Vp) e1 0 (argsL := [(.ref x0), (.int 3), (.int 1)]) (rest := []) (Ls := #[rv x0, iv 3]) (by rw [hml]; rfl) (lenOf pd___III_Z rfl) rfl rfl (Nat.le_of_eq rfl) (hb hby d1_40) (by decide) (by decide) (by decide) (by decide)
    replace X3 := own_nil X3
    refine own_go T3 m 43 #[rv x0, iv 3] [(.int (if p0 = p2 then 1 else 0))] (st3) ?_
    by_cases hB43_4 : p0 = p2
    · rw [if_pos hB43_4]
      refine own_go T3 m 46 #[rv x0, iv 3] [] (fun t k => XS.ifNo X3.here hx rfl (hb hby d1_43) rfl ((if0 _ _).trans (feq (by decide)).1) k) ?_
      refine own_go T3 m 47 #[rv x0, iv 3] [(.int 1)] (fun t k => XS.iconst X3.here hx rfl (hb hby d1_46) k) ?_
      refine own_retI X3 hx hlk hret (hb hby d1_47) (by decide) (by decide) ?_
      exact ⟨by rw [own_lf20 p0 p1 p2 p3 p4  hB27_2 hB43_4], e3, rfl⟩
    · rw [if_neg hB43_4]
      refine own_go T3 m 48 #[rv x0, iv 3] [] (fun t k => XS.ifYes X3.here hx rfl (pc0 := 43) (pc' := 48) rfl (hb hby d1_43) rfl ((if0 _ _).trans (teq (by decide)).1) (by decide) (by decide) k) ?_
      refine own_go T3 m 49 #[rv x0, iv 3] [(.int 0)] (fun t k => XS.iconst X3.here hx rfl (hb hby d1_48) k) ?_
      refine own_retI X3 hx hlk hret (hb hby d1_49) (by decide) (by decide) ?_
      exact ⟨by rw [own_lf21 p0 p1 p2 p3 p4  hB27_2 hB43_4], e3, rfl⟩
theorem own_lf22 (p0 p1 p2 p3 p4  : Int32) (hB11_2 : p0 = p1 ∧ p1 = p2 ∧ p2 = p3) : own_l4 p0 p1 p2 p3 = (3 : Int32) := by
  unfold own_l4
  grind
theorem own_lf23 (p0 p1 p2 p3 p4  : Int32) (hB11_2 : ¬ (p0 = p1 ∧ p1 = p2 ∧ p2 = p3)) (hB27_4 : p0 = p2 ∧ p1 = p3) : own_l4 p0 p1 p2 p3 = (2 : Int32) := by
  unfold own_l4
  grind
theorem own_lf24 (p0 p1 p2 p3 p4  : Int32) (hB11_2 : ¬ (p0 = p1 ∧ p1 = p2 ∧ p2 = p3)) (hB27_4 : ¬ (p0 = p2 ∧ p1 = p3)) (hB43_6 : p0 = p3) : own_l4 p0 p1 p2 p3 = (1 : Int32) := by
  unfold own_l4
  grind
theorem own_lf25 (p0 p1 p2 p3 p4  : Int32) (hB11_2 : ¬ (p0 = p1 ∧ p1 = p2 ∧ p2 = p3)) (hB27_4 : ¬ (p0 = p2 ∧ p1 = p3)) (hB43_6 : ¬ (p0 = p3)) : own_l4 p0 p1 p2 p3 = (0 : Int32) := by
  unfold own_l4
  grind
theorem ef_rmL4 (m : MethodId) (q0 : Addr) (q1 : Int32) : entryFrame m #[(.ref q0), (.int q1)] 2 = mkF m 0 #[rv q0, iv q1] [] := by first | (simp [entryFrame, mkF, argsToLocals, Value.category]; done) | rfl
set_option maxRecDepth 65536 in
set_option maxHeartbeats 40000000 in
theorem rmL4 (l : Launch) (Z : State) (a0 : Array Value) (hw : ∀ d ∈ tables_1, d.before a0 Z = true) (ws : List Jvm.Cond) (x0 : Addr) (kp : ClassId) (p0 p1 p2 p3 p4 : Int32) (h0 : Heap) (Vp : Arv Z h0 x0 kp .int 5 [(.int p0), (.int p1), (.int p2), (.int p3), (.int p4)] (.int 0)) :
    OwnC l Z (⟨"com/example/substring_search/substringsearch/PrefixTableFallBackPinLaw", "longest", "([II)I"⟩ : MethodName) method_4_code 2 (some .int) ws ({ frames := 1, cells := 0, slots := 0, locals := 14 } : Room) #[(.ref x0), (.int 4)] h0 (OwnPure (.int (own_l4 p0 p1 p2 p3)) h0) := by
  refine own_entry pf_com_example_substring_search_substringsearch_PrefixTableFallBackPinLaw_longest___II_I (fun m => ef_rmL4 m x0 (4 : Int32)) ?_
  intro p e s m below meth c T0 X0 hC e0
  obtain ⟨hx, hby, hml, hown, hnm, hret, hlk, hZ⟩ := hC
  refine own_go T0 m 1 #[rv x0, iv 4] [(.int 4)] (fun t k => XS.iloadN X0.here hx rfl (hb hby d1_0) rfl k) ?_
  refine own_go T0 m 2 #[rv x0, iv 4] [(.int 4), (.int 4)] (fun t k => XS.iconst X0.here hx rfl (hb hby d1_1) k) ?_
  refine own_go T0 m 5 #[rv x0, iv 4] [] (fun t k => XS.icmpNo X0.here hx rfl (hb hby d1_2) rfl (flt (by decide)).1 k) ?_
  refine own_go T0 m 6 #[rv x0, iv 4] [(.ref x0)] (fun t k => XS.aloadN X0.here hx rfl (hb hby d1_5) rfl rfl k) ?_
  refine own_go T0 m 7 #[rv x0, iv 4] [(.int 4), (.ref x0)] (fun t k => XS.iloadN X0.here hx rfl (hb hby d1_6) rfl k) ?_
  refine own_go T0 m 8 #[rv x0, iv 4] [(.int 3), (.int 4), (.ref x0)] (fun t k => XS.iconst X0.here hx rfl (hb hby d1_7) k) ?_
  obtain ⟨_, T1, L1, X1, ⟨rfl, e1, rfl⟩, st1⟩ := own_static X0 hx hZ (y := (⟨"com/example/substring_search/substringsearch/PrefixTableFallBackPinLaw", "border", "([III)Z"⟩ : MethodName)) hown (own_w hw 5 rfl) (own_w hw 6 rfl) (own_w hw 3 rfl) (own_w hw 7 rfl) (by decide) (rmB43 l Z a0 hw [] x0 kp p0 p1 p2 p3 p4 h0 Vp) e0 0 (argsL := [(.ref x0), (.int 4), (.int 3)]) (rest := []) (Ls := #[rv x0, iv 4]) (by rw [hml]; rfl) (lenOf pd___III_Z rfl) rfl rfl (Nat.le_of_eq rfl) (hb hby d1_8) (by decide) (by decide) (by decide) (by decide)
  replace X1 := own_nil X1
  refine own_go T1 m 11 #[rv x0, iv 4] [(.int (if p0 = p1 ∧ p1 = p2 ∧ p2 = p3 then 1 else 0))] (st1) ?_
  by_cases hB11_2 : p0 = p1 ∧ p1 = p2 ∧ p2 = p3
  · rw [if_pos hB11_2]
    refine own_go T1 m 14 #[rv x0, iv 4] [] (fun t k => XS.ifNo X1.here hx rfl (hb hby d1_11) rfl ((if0 _ _).trans (feq (by decide)).1) k) ?_
    refine own_go T1 m 15 #[rv x0, iv 4] [(.int 3)] (fun t k => XS.iconst X1.here hx rfl (hb hby d1_14) k) ?_
    refine own_retI X1 hx hlk hret (hb hby d1_15) (by decide) (by decide) ?_
    exact ⟨by rw [own_lf22 p0 p1 p2 p3 p4  hB11_2], e1, rfl⟩
  · rw [if_neg hB11_2]
    refine own_go T1 m 16 #[rv x0, iv 4] [] (fun t k => XS.ifYes X1.here hx rfl (pc0 := 11) (pc' := 16) rfl (hb hby d1_11) rfl ((if0 _ _).trans (teq (by decide)).1) (by decide) (by decide) k) ?_
    refine own_go T1 m 17 #[rv x0, iv 4] [(.int 4)] (fun t k => XS.iloadN X1.here hx rfl (hb hby d1_16) rfl k) ?_
    refine own_go T1 m 18 #[rv x0, iv 4] [(.int 3), (.int 4)] (fun t k => XS.iconst X1.here hx rfl (hb hby d1_17) k) ?_
    refine own_go T1 m 21 #[rv x0, iv 4] [] (fun t k => XS.icmpNo X1.here hx rfl (hb hby d1_18) rfl (flt (by decide)).1 k) ?_
    refine own_go T1 m 22 #[rv x0, iv 4] [(.ref x0)] (fun t k => XS.aloadN X1.here hx rfl (hb hby d1_21) rfl rfl k) ?_
    refine own_go T1 m 23 #[rv x0, iv 4] [(.int 4), (.ref x0)] (fun t k => XS.iloadN X1.here hx rfl (hb hby d1_22) rfl k) ?_
    refine own_go T1 m 24 #[rv x0, iv 4] [(.int 2), (.int 4), (.ref x0)] (fun t k => XS.iconst X1.here hx rfl (hb hby d1_23) k) ?_
    obtain ⟨_, T3, L3, X3, ⟨rfl, e3, rfl⟩, st3⟩ := own_static X1 hx hZ (y := (⟨"com/example/substring_search/substringsearch/PrefixTableFallBackPinLaw", "border", "([III)Z"⟩ : MethodName)) hown (own_w hw 5 rfl) (own_w hw 6 rfl) (own_w hw 3 rfl) (own_w hw 7 rfl) (by decide) (rmB42 l Z a0 hw [] x0 kp p0 p1 p2 p3 p4 h0 Vp) e1 0 (argsL := [(.ref x0), (.int 4), (.int 2)]) (rest := []) (Ls := #[rv x0, iv 4]) (by rw [hml]; rfl) (lenOf pd___III_Z rfl) rfl rfl (Nat.le_of_eq rfl) (hb hby d1_24) (by decide) (by decide) (by decide) (by decide)
    replace X3 := own_nil X3
    refine own_go T3 m 27 #[rv x0, iv 4] [(.int (if p0 = p2 ∧ p1 = p3 then 1 else 0))] (st3) ?_
    by_cases hB27_4 : p0 = p2 ∧ p1 = p3
    · rw [if_pos hB27_4]
      refine own_go T3 m 30 #[rv x0, iv 4] [] (fun t k => XS.ifNo X3.here hx rfl (hb hby d1_27) rfl ((if0 _ _).trans (feq (by decide)).1) k) ?_
      refine own_go T3 m 31 #[rv x0, iv 4] [(.int 2)] (fun t k => XS.iconst X3.here hx rfl (hb hby d1_30) k) ?_
      refine own_retI X3 hx hlk hret (hb hby d1_31) (by decide) (by decide) ?_
      exact ⟨by rw [own_lf23 p0 p1 p2 p3 p4  hB11_2 hB27_4], e3, rfl⟩
    · rw [if_neg hB27_4]
      refine own_go T3 m 32 #[rv x0, iv 4] [] (fun t k => XS.ifYes X3.here hx rfl (pc0 := 27) (pc' := 32) rfl (hb hby d1_27) rfl ((if0 _ _).trans (teq (by decide)).1) (by decide) (by decide) k) ?_
      refine own_go T3 m 33 #[rv x0, iv 4] [(.int 4)] (fun t k => XS.iloadN X3.here hx rfl (hb hby d1_32) rfl k) ?_
      refine own_go T3 m 34 #[rv x0, iv 4] [(.int 2), (.int 4)] (fun t k => XS.iconst X3.here hx rfl (hb hby d1_33) k) ?_
      refine own_go T3 m 37 #[rv x0, iv 4] [] (fun t k => XS.icmpNo X3.here hx rfl (hb hby d1_34) rfl (flt (by decide)).1 k) ?_
      refine own_go T3 m 38 #[rv x0, iv 4] [(.ref x0)] (fun t k => XS.aloadN X3.here hx rfl (hb hby d1_37) rfl rfl k) ?_
      refine own_go T3 m 39 #[rv x0, iv 4] [(.int 4), (.ref x0)] (fun t k => XS.iloadN X3.here hx rfl (hb hby d1_38) rfl k) ?_
      refine own_go T3 m 40 #[rv x0, iv 4] [(.int 1), (.int 4), (.ref x0)] (fun t k => XS.iconst X3.here hx rfl (hb hby d1_39) k) ?_
      obtain ⟨_, T5, L5, X5, ⟨rfl, e5, rfl⟩, st5⟩ := own_static X3 hx hZ (y := (⟨"com/example/substring_search/substringsearch/PrefixTableFallBackPinLaw", "border", "([III)Z"⟩ : MethodName)) hown (own_w hw 5 rfl) (own_w hw 6 rfl) (own_w hw 3 rfl) (own_w hw 7 rfl) (by decide) (rmB41 l Z a0 hw [] x0 kp p0 p1 p2 p3 p4 h0 Vp) e3 0 (argsL := [(.ref x0), (.int 4), (.int 1)]) (rest := []) (Ls := #[rv x0, iv 4]) (by rw [hml]; rfl) (lenOf pd___III_Z rfl) rfl rfl (Nat.le_of_eq rfl) (hb hby d1_40) (by decide) (by decide) (by decide) (by decide)
      replace X5 := own_nil X5
      refine own_go T5 m 43 #[rv x0, iv 4] [(.int (if p0 = p3 then 1 else 0))] (st5) ?_
      by_cases hB43_6 : p0 = p3
      · rw [if_pos hB43_6]
        refine own_go T5 m 46 #[rv x0, iv 4] [] (fun t k => XS.ifNo X5.here hx rfl (hb hby d1_43) rfl ((if0 _ _).trans (feq (by decide)).1) k) ?_
        refine own_go T5 m 47 #[rv x0, iv 4] [(.int 1)] (fun t k => XS.iconst X5.here hx rfl (hb hby d1_46) k) ?_
        refine own_retI X5 hx hlk hret (hb hby d1_47) (by decide) (by decide) ?_
        exact ⟨by rw [own_lf24 p0 p1 p2 p3 p4  hB11_2 hB27_4 hB43_6], e5, rfl⟩
      · rw [if_neg hB43_6]
        refine own_go T5 m 48 #[rv x0, iv 4] [] (fun t k => XS.ifYes X5.here hx rfl (pc0 := 43) (pc' := 48) rfl (hb hby d1_43) rfl ((if0 _ _).trans (teq (by decide)).1) (by decide) (by decide) k) ?_
        refine own_go T5 m 49 #[rv x0, iv 4] [(.int 0)] (fun t k => XS.iconst X5.here hx rfl (hb hby d1_48) k) ?_
        refine own_retI X5 hx hlk hret (hb hby d1_49) (by decide) (by decide) ?_
        exact ⟨by rw [own_lf25 p0 p1 p2 p3 p4  hB11_2 hB27_4 hB43_6], e5, rfl⟩
theorem d3_0 : decode method_5_code 0 = .ok (.iload_n 1, 1) := by decide +kernel
theorem d3_1 : decode method_5_code 1 = .ok (.iconst 4, 1) := by decide +kernel
theorem d3_2 : decode method_5_code 2 = .ok (.if_icmp .lt 21, 3) := by decide +kernel
theorem d3_5 : decode method_5_code 5 = .ok (.aload_n 0, 1) := by decide +kernel
theorem d3_6 : decode method_5_code 6 = .ok (.iload_n 1, 1) := by decide +kernel
theorem d3_7 : decode method_5_code 7 = .ok (.iconst 3, 1) := by decide +kernel
theorem d3_8 : decode method_5_code 8 = .ok (.invokestatic 24, 3) := by decide +kernel
theorem d3_11 : decode method_5_code 11 = .ok (.ifCond .eq 12, 3) := by decide +kernel
theorem d3_14 : decode method_5_code 14 = .ok (.aload_n 0, 1) := by decide +kernel
theorem d3_15 : decode method_5_code 15 = .ok (.iconst 3, 1) := by decide +kernel
theorem d3_16 : decode method_5_code 16 = .ok (.iaload, 1) := by decide +kernel
theorem d3_17 : decode method_5_code 17 = .ok (.iload_n 2, 1) := by decide +kernel
theorem d3_18 : decode method_5_code 18 = .ok (.if_icmp .ne 5, 3) := by decide +kernel
theorem d3_21 : decode method_5_code 21 = .ok (.iconst 3, 1) := by decide +kernel
theorem d3_22 : decode method_5_code 22 = .ok (.ireturn, 1) := by decide +kernel
theorem d3_23 : decode method_5_code 23 = .ok (.iload_n 1, 1) := by decide +kernel
theorem d3_24 : decode method_5_code 24 = .ok (.iconst 3, 1) := by decide +kernel
theorem d3_25 : decode method_5_code 25 = .ok (.if_icmp .lt 21, 3) := by decide +kernel
theorem d3_28 : decode method_5_code 28 = .ok (.aload_n 0, 1) := by decide +kernel
theorem d3_29 : decode method_5_code 29 = .ok (.iload_n 1, 1) := by decide +kernel
theorem d3_30 : decode method_5_code 30 = .ok (.iconst 2, 1) := by decide +kernel
theorem d3_31 : decode method_5_code 31 = .ok (.invokestatic 24, 3) := by decide +kernel
theorem d3_34 : decode method_5_code 34 = .ok (.ifCond .eq 12, 3) := by decide +kernel
theorem d3_37 : decode method_5_code 37 = .ok (.aload_n 0, 1) := by decide +kernel
theorem d3_38 : decode method_5_code 38 = .ok (.iconst 2, 1) := by decide +kernel
theorem d3_39 : decode method_5_code 39 = .ok (.iaload, 1) := by decide +kernel
theorem d3_40 : decode method_5_code 40 = .ok (.iload_n 2, 1) := by decide +kernel
theorem d3_41 : decode method_5_code 41 = .ok (.if_icmp .ne 5, 3) := by decide +kernel
theorem d3_44 : decode method_5_code 44 = .ok (.iconst 2, 1) := by decide +kernel
theorem d3_45 : decode method_5_code 45 = .ok (.ireturn, 1) := by decide +kernel
theorem d3_46 : decode method_5_code 46 = .ok (.iload_n 1, 1) := by decide +kernel
theorem d3_47 : decode method_5_code 47 = .ok (.iconst 2, 1) := by decide +kernel
theorem d3_48 : decode method_5_code 48 = .ok (.if_icmp .lt 21, 3) := by decide +kernel
theorem d3_51 : decode method_5_code 51 = .ok (.aload_n 0, 1) := by decide +kernel
theorem d3_52 : decode method_5_code 52 = .ok (.iload_n 1, 1) := by decide +kernel
theorem d3_53 : decode method_5_code 53 = .ok (.iconst 1, 1) := by decide +kernel
theorem d3_54 : decode method_5_code 54 = .ok (.invokestatic 24, 3) := by decide +kernel
theorem d3_57 : decode method_5_code 57 = .ok (.ifCond .eq 12, 3) := by decide +kernel
theorem d3_60 : decode method_5_code 60 = .ok (.aload_n 0, 1) := by decide +kernel
theorem d3_61 : decode method_5_code 61 = .ok (.iconst 1, 1) := by decide +kernel
theorem d3_62 : decode method_5_code 62 = .ok (.iaload, 1) := by decide +kernel
theorem d3_63 : decode method_5_code 63 = .ok (.iload_n 2, 1) := by decide +kernel
theorem d3_64 : decode method_5_code 64 = .ok (.if_icmp .ne 5, 3) := by decide +kernel
theorem d3_67 : decode method_5_code 67 = .ok (.iconst 1, 1) := by decide +kernel
theorem d3_68 : decode method_5_code 68 = .ok (.ireturn, 1) := by decide +kernel
theorem d3_69 : decode method_5_code 69 = .ok (.iload_n 1, 1) := by decide +kernel
theorem d3_70 : decode method_5_code 70 = .ok (.iconst 1, 1) := by decide +kernel
theorem d3_71 : decode method_5_code 71 = .ok (.if_icmp .lt 12, 3) := by decide +kernel
theorem d3_74 : decode method_5_code 74 = .ok (.aload_n 0, 1) := by decide +kernel
theorem d3_75 : decode method_5_code 75 = .ok (.iconst 0, 1) := by decide +kernel
theorem d3_76 : decode method_5_code 76 = .ok (.iaload, 1) := by decide +kernel
theorem d3_77 : decode method_5_code 77 = .ok (.iload_n 2, 1) := by decide +kernel
theorem d3_78 : decode method_5_code 78 = .ok (.if_icmp .ne 5, 3) := by decide +kernel
theorem d3_81 : decode method_5_code 81 = .ok (.iconst 0, 1) := by decide +kernel
theorem d3_82 : decode method_5_code 82 = .ok (.ireturn, 1) := by decide +kernel
theorem d3_83 : decode method_5_code 83 = .ok (.iconst (-1), 1) := by decide +kernel
theorem d3_84 : decode method_5_code 84 = .ok (.ireturn, 1) := by decide +kernel
theorem pf_com_example_substring_search_substringsearch_PrefixTableFallBackPinLaw_ref___III_I : plainFor (⟨"com/example/substring_search/substringsearch/PrefixTableFallBackPinLaw", "ref", "([III)I"⟩ : MethodName) = true := by first | exact plainFor_of_name (by first | (simp [plainName, overriddenIn]; done) | decide +kernel) | exact Jvm.Free.JP.mathPlain rfl (by decide +kernel) | decide +kernel
theorem own_lf26 (p0 p1 p2 p3 p4 x2 : Int32) : own_ref0 p0 p1 p2 p3 x2 = (-1 : Int32) := by
  unfold own_ref0
  grind
theorem ef_rmR0 (m : MethodId) (q0 : Addr) (q1 : Int32) (q2 : Int32) : entryFrame m #[(.ref q0), (.int q1), (.int q2)] 3 = mkF m 0 #[rv q0, iv q1, iv q2] [] := by first | (simp [entryFrame, mkF, argsToLocals, Value.category]; done) | rfl
set_option maxRecDepth 65536 in
set_option maxHeartbeats 40000000 in
theorem rmR0 (l : Launch) (Z : State) (a0 : Array Value) (hw : ∀ d ∈ tables_1, d.before a0 Z = true) (ws : List Jvm.Cond) (x0 : Addr) (x2 : Int32) (kp : ClassId) (p0 p1 p2 p3 p4 : Int32) (h0 : Heap) (Vp : Arv Z h0 x0 kp .int 5 [(.int p0), (.int p1), (.int p2), (.int p3), (.int p4)] (.int 0)) :
    OwnC l Z (⟨"com/example/substring_search/substringsearch/PrefixTableFallBackPinLaw", "ref", "([III)I"⟩ : MethodName) method_5_code 3 (some .int) ws ({ frames := 0, cells := 0, slots := 0, locals := 0 } : Room) #[(.ref x0), (.int 0), (.int x2)] h0 (OwnPure (.int (own_ref0 p0 p1 p2 p3 x2)) h0) := by
  refine own_entry pf_com_example_substring_search_substringsearch_PrefixTableFallBackPinLaw_ref___III_I (fun m => ef_rmR0 m x0 (0 : Int32) x2) ?_
  intro p e s m below meth c T0 X0 hC e0
  obtain ⟨hx, hby, hml, hown, hnm, hret, hlk, hZ⟩ := hC
  refine own_go T0 m 1 #[rv x0, iv 0, iv x2] [(.int 0)] (fun t k => XS.iloadN X0.here hx rfl (hb hby d3_0) rfl k) ?_
  refine own_go T0 m 2 #[rv x0, iv 0, iv x2] [(.int 4), (.int 0)] (fun t k => XS.iconst X0.here hx rfl (hb hby d3_1) k) ?_
  refine own_go T0 m 23 #[rv x0, iv 0, iv x2] [] (fun t k => XS.icmpYes X0.here hx rfl (pc0 := 2) (pc' := 23) rfl (hb hby d3_2) rfl (tlt (by decide)).1 (by decide) (by decide) k) ?_
  refine own_go T0 m 24 #[rv x0, iv 0, iv x2] [(.int 0)] (fun t k => XS.iloadN X0.here hx rfl (hb hby d3_23) rfl k) ?_
  refine own_go T0 m 25 #[rv x0, iv 0, iv x2] [(.int 3), (.int 0)] (fun t k => XS.iconst X0.here hx rfl (hb hby d3_24) k) ?_
  refine own_go T0 m 46 #[rv x0, iv 0, iv x2] [] (fun t k => XS.icmpYes X0.here hx rfl (pc0 := 25) (pc' := 46) rfl (hb hby d3_25) rfl (tlt (by decide)).1 (by decide) (by decide) k) ?_
  refine own_go T0 m 47 #[rv x0, iv 0, iv x2] [(.int 0)] (fun t k => XS.iloadN X0.here hx rfl (hb hby d3_46) rfl k) ?_
  refine own_go T0 m 48 #[rv x0, iv 0, iv x2] [(.int 2), (.int 0)] (fun t k => XS.iconst X0.here hx rfl (hb hby d3_47) k) ?_
  refine own_go T0 m 69 #[rv x0, iv 0, iv x2] [] (fun t k => XS.icmpYes X0.here hx rfl (pc0 := 48) (pc' := 69) rfl (hb hby d3_48) rfl (tlt (by decide)).1 (by decide) (by decide) k) ?_
  refine own_go T0 m 70 #[rv x0, iv 0, iv x2] [(.int 0)] (fun t k => XS.iloadN X0.here hx rfl (hb hby d3_69) rfl k) ?_
  refine own_go T0 m 71 #[rv x0, iv 0, iv x2] [(.int 1), (.int 0)] (fun t k => XS.iconst X0.here hx rfl (hb hby d3_70) k) ?_
  refine own_go T0 m 83 #[rv x0, iv 0, iv x2] [] (fun t k => XS.icmpYes X0.here hx rfl (pc0 := 71) (pc' := 83) rfl (hb hby d3_71) rfl (tlt (by decide)).1 (by decide) (by decide) k) ?_
  refine own_go T0 m 84 #[rv x0, iv 0, iv x2] [(.int (-1))] (fun t k => XS.iconst X0.here hx rfl (hb hby d3_83) k) ?_
  refine own_retI X0 hx hlk hret (hb hby d3_84) (by decide) (by decide) ?_
  exact ⟨by rw [own_lf26 p0 p1 p2 p3 p4 x2], e0, rfl⟩
theorem own_lf27 (p0 p1 p2 p3 p4 x2 : Int32) (hc78_2 : p0 = x2) : own_ref1 p0 p1 p2 p3 x2 = (0 : Int32) := by
  unfold own_ref1
  grind
theorem own_lf28 (p0 p1 p2 p3 p4 x2 : Int32) (hc78_2 : ¬ (p0 = x2)) : own_ref1 p0 p1 p2 p3 x2 = (-1 : Int32) := by
  unfold own_ref1
  grind
theorem ef_rmR1 (m : MethodId) (q0 : Addr) (q1 : Int32) (q2 : Int32) : entryFrame m #[(.ref q0), (.int q1), (.int q2)] 3 = mkF m 0 #[rv q0, iv q1, iv q2] [] := by first | (simp [entryFrame, mkF, argsToLocals, Value.category]; done) | rfl
set_option maxRecDepth 65536 in
set_option maxHeartbeats 40000000 in
theorem rmR1 (l : Launch) (Z : State) (a0 : Array Value) (hw : ∀ d ∈ tables_1, d.before a0 Z = true) (ws : List Jvm.Cond) (x0 : Addr) (x2 : Int32) (kp : ClassId) (p0 p1 p2 p3 p4 : Int32) (h0 : Heap) (Vp : Arv Z h0 x0 kp .int 5 [(.int p0), (.int p1), (.int p2), (.int p3), (.int p4)] (.int 0)) :
    OwnC l Z (⟨"com/example/substring_search/substringsearch/PrefixTableFallBackPinLaw", "ref", "([III)I"⟩ : MethodName) method_5_code 3 (some .int) ws ({ frames := 0, cells := 0, slots := 0, locals := 0 } : Room) #[(.ref x0), (.int 1), (.int x2)] h0 (OwnPure (.int (own_ref1 p0 p1 p2 p3 x2)) h0) := by
  refine own_entry pf_com_example_substring_search_substringsearch_PrefixTableFallBackPinLaw_ref___III_I (fun m => ef_rmR1 m x0 (1 : Int32) x2) ?_
  intro p e s m below meth c T0 X0 hC e0
  obtain ⟨hx, hby, hml, hown, hnm, hret, hlk, hZ⟩ := hC
  refine own_go T0 m 1 #[rv x0, iv 1, iv x2] [(.int 1)] (fun t k => XS.iloadN X0.here hx rfl (hb hby d3_0) rfl k) ?_
  refine own_go T0 m 2 #[rv x0, iv 1, iv x2] [(.int 4), (.int 1)] (fun t k => XS.iconst X0.here hx rfl (hb hby d3_1) k) ?_
  refine own_go T0 m 23 #[rv x0, iv 1, iv x2] [] (fun t k => XS.icmpYes X0.here hx rfl (pc0 := 2) (pc' := 23) rfl (hb hby d3_2) rfl (tlt (by decide)).1 (by decide) (by decide) k) ?_
  refine own_go T0 m 24 #[rv x0, iv 1, iv x2] [(.int 1)] (fun t k => XS.iloadN X0.here hx rfl (hb hby d3_23) rfl k) ?_
  refine own_go T0 m 25 #[rv x0, iv 1, iv x2] [(.int 3), (.int 1)] (fun t k => XS.iconst X0.here hx rfl (hb hby d3_24) k) ?_
  refine own_go T0 m 46 #[rv x0, iv 1, iv x2] [] (fun t k => XS.icmpYes X0.here hx rfl (pc0 := 25) (pc' := 46) rfl (hb hby d3_25) rfl (tlt (by decide)).1 (by decide) (by decide) k) ?_
  refine own_go T0 m 47 #[rv x0, iv 1, iv x2] [(.int 1)] (fun t k => XS.iloadN X0.here hx rfl (hb hby d3_46) rfl k) ?_
  refine own_go T0 m 48 #[rv x0, iv 1, iv x2] [(.int 2), (.int 1)] (fun t k => XS.iconst X0.here hx rfl (hb hby d3_47) k) ?_
  refine own_go T0 m 69 #[rv x0, iv 1, iv x2] [] (fun t k => XS.icmpYes X0.here hx rfl (pc0 := 48) (pc' := 69) rfl (hb hby d3_48) rfl (tlt (by decide)).1 (by decide) (by decide) k) ?_
  refine own_go T0 m 70 #[rv x0, iv 1, iv x2] [(.int 1)] (fun t k => XS.iloadN X0.here hx rfl (hb hby d3_69) rfl k) ?_
  refine own_go T0 m 71 #[rv x0, iv 1, iv x2] [(.int 1), (.int 1)] (fun t k => XS.iconst X0.here hx rfl (hb hby d3_70) k) ?_
  refine own_go T0 m 74 #[rv x0, iv 1, iv x2] [] (fun t k => XS.icmpNo X0.here hx rfl (hb hby d3_71) rfl (flt (by decide)).1 k) ?_
  refine own_go T0 m 75 #[rv x0, iv 1, iv x2] [(.ref x0)] (fun t k => XS.aloadN X0.here hx rfl (hb hby d3_74) rfl rfl k) ?_
  refine own_go T0 m 76 #[rv x0, iv 1, iv x2] [(.int 0), (.ref x0)] (fun t k => XS.iconst X0.here hx rfl (hb hby d3_75) k) ?_
  refine own_go T0 m 77 #[rv x0, iv 1, iv x2] [(.int p0)] (own_iaload X0 hx hZ e0 Vp (j := (0 : Int32)) ⟨by decide, by decide⟩ rfl (hb hby d3_76)) ?_
  refine own_go T0 m 78 #[rv x0, iv 1, iv x2] [(.int x2), (.int p0)] (fun t k => XS.iloadN X0.here hx rfl (hb hby d3_77) rfl k) ?_
  by_cases hc78_2 : p0 = x2
  · refine own_go T0 m 81 #[rv x0, iv 1, iv x2] [] (fun t k => XS.icmpNo X0.here hx rfl (hb hby d3_78) rfl (teq hc78_2).2 k) ?_
    refine own_go T0 m 82 #[rv x0, iv 1, iv x2] [(.int 0)] (fun t k => XS.iconst X0.here hx rfl (hb hby d3_81) k) ?_
    refine own_retI X0 hx hlk hret (hb hby d3_82) (by decide) (by decide) ?_
    exact ⟨by rw [own_lf27 p0 p1 p2 p3 p4 x2 hc78_2], e0, rfl⟩
  · refine own_go T0 m 83 #[rv x0, iv 1, iv x2] [] (fun t k => XS.icmpYes X0.here hx rfl (pc0 := 78) (pc' := 83) rfl (hb hby d3_78) rfl (feq hc78_2).2 (by decide) (by decide) k) ?_
    refine own_go T0 m 84 #[rv x0, iv 1, iv x2] [(.int (-1))] (fun t k => XS.iconst X0.here hx rfl (hb hby d3_83) k) ?_
    refine own_retI X0 hx hlk hret (hb hby d3_84) (by decide) (by decide) ?_
    exact ⟨by rw [own_lf28 p0 p1 p2 p3 p4 x2 hc78_2], e0, rfl⟩
theorem own_lf29 (p0 p1 p2 p3 p4 x2 : Int32) (hB57_2 : p0 = p1) (hc64_4 : p1 = x2) : own_ref2 p0 p1 p2 p3 x2 = (1 : Int32) := by
  unfold own_ref2
  grind
theorem own_lf30 (p0 p1 p2 p3 p4 x2 : Int32) (hB57_2 : p0 = p1) (hc64_4 : ¬ (p1 = x2)) (hc78_6 : p0 = x2) : own_ref2 p0 p1 p2 p3 x2 = (0 : Int32) := by
  unfold own_ref2
  grind
theorem own_lf31 (p0 p1 p2 p3 p4 x2 : Int32) (hB57_2 : p0 = p1) (hc64_4 : ¬ (p1 = x2)) (hc78_6 : ¬ (p0 = x2)) : own_ref2 p0 p1 p2 p3 x2 = (-1 : Int32) := by
  unfold own_ref2
  grind
theorem own_lf32 (p0 p1 p2 p3 p4 x2 : Int32) (hB57_2 : ¬ (p0 = p1)) (hc78_8 : p0 = x2) : own_ref2 p0 p1 p2 p3 x2 = (0 : Int32) := by
  unfold own_ref2
  grind
theorem own_lf33 (p0 p1 p2 p3 p4 x2 : Int32) (hB57_2 : ¬ (p0 = p1)) (hc78_8 : ¬ (p0 = x2)) : own_ref2 p0 p1 p2 p3 x2 = (-1 : Int32) := by
  unfold own_ref2
  grind
theorem ef_rmR2 (m : MethodId) (q0 : Addr) (q1 : Int32) (q2 : Int32) : entryFrame m #[(.ref q0), (.int q1), (.int q2)] 3 = mkF m 0 #[rv q0, iv q1, iv q2] [] := by first | (simp [entryFrame, mkF, argsToLocals, Value.category]; done) | rfl
set_option maxRecDepth 65536 in
set_option maxHeartbeats 40000000 in
theorem rmR2 (l : Launch) (Z : State) (a0 : Array Value) (hw : ∀ d ∈ tables_1, d.before a0 Z = true) (ws : List Jvm.Cond) (x0 : Addr) (x2 : Int32) (kp : ClassId) (p0 p1 p2 p3 p4 : Int32) (h0 : Heap) (Vp : Arv Z h0 x0 kp .int 5 [(.int p0), (.int p1), (.int p2), (.int p3), (.int p4)] (.int 0)) :
    OwnC l Z (⟨"com/example/substring_search/substringsearch/PrefixTableFallBackPinLaw", "ref", "([III)I"⟩ : MethodName) method_5_code 3 (some .int) ws ({ frames := 1, cells := 0, slots := 0, locals := 14 } : Room) #[(.ref x0), (.int 2), (.int x2)] h0 (OwnPure (.int (own_ref2 p0 p1 p2 p3 x2)) h0) := by
  refine own_entry pf_com_example_substring_search_substringsearch_PrefixTableFallBackPinLaw_ref___III_I (fun m => ef_rmR2 m x0 (2 : Int32) x2) ?_
  intro p e s m below meth c T0 X0 hC e0
  obtain ⟨hx, hby, hml, hown, hnm, hret, hlk, hZ⟩ := hC
  refine own_go T0 m 1 #[rv x0, iv 2, iv x2] [(.int 2)] (fun t k => XS.iloadN X0.here hx rfl (hb hby d3_0) rfl k) ?_
  refine own_go T0 m 2 #[rv x0, iv 2, iv x2] [(.int 4), (.int 2)] (fun t k => XS.iconst X0.here hx rfl (hb hby d3_1) k) ?_
  refine own_go T0 m 23 #[rv x0, iv 2, iv x2] [] (fun t k => XS.icmpYes X0.here hx rfl (pc0 := 2) (pc' := 23) rfl (hb hby d3_2) rfl (tlt (by decide)).1 (by decide) (by decide) k) ?_
  refine own_go T0 m 24 #[rv x0, iv 2, iv x2] [(.int 2)] (fun t k => XS.iloadN X0.here hx rfl (hb hby d3_23) rfl k) ?_
  refine own_go T0 m 25 #[rv x0, iv 2, iv x2] [(.int 3), (.int 2)] (fun t k => XS.iconst X0.here hx rfl (hb hby d3_24) k) ?_
  refine own_go T0 m 46 #[rv x0, iv 2, iv x2] [] (fun t k => XS.icmpYes X0.here hx rfl (pc0 := 25) (pc' := 46) rfl (hb hby d3_25) rfl (tlt (by decide)).1 (by decide) (by decide) k) ?_
  refine own_go T0 m 47 #[rv x0, iv 2, iv x2] [(.int 2)] (fun t k => XS.iloadN X0.here hx rfl (hb hby d3_46) rfl k) ?_
  refine own_go T0 m 48 #[rv x0, iv 2, iv x2] [(.int 2), (.int 2)] (fun t k => XS.iconst X0.here hx rfl (hb hby d3_47) k) ?_
  refine own_go T0 m 51 #[rv x0, iv 2, iv x2] [] (fun t k => XS.icmpNo X0.here hx rfl (hb hby d3_48) rfl (flt (by decide)).1 k) ?_
  refine own_go T0 m 52 #[rv x0, iv 2, iv x2] [(.ref x0)] (fun t k => XS.aloadN X0.here hx rfl (hb hby d3_51) rfl rfl k) ?_
  refine own_go T0 m 53 #[rv x0, iv 2, iv x2] [(.int 2), (.ref x0)] (fun t k => XS.iloadN X0.here hx rfl (hb hby d3_52) rfl k) ?_
  refine own_go T0 m 54 #[rv x0, iv 2, iv x2] [(.int 1), (.int 2), (.ref x0)] (fun t k => XS.iconst X0.here hx rfl (hb hby d3_53) k) ?_
  obtain ⟨_, T1, L1, X1, ⟨rfl, e1, rfl⟩, st1⟩ := own_static X0 hx hZ (y := (⟨"com/example/substring_search/substringsearch/PrefixTableFallBackPinLaw", "border", "([III)Z"⟩ : MethodName)) hown (own_w hw 5 rfl) (own_w hw 6 rfl) (own_w hw 3 rfl) (own_w hw 7 rfl) (by decide) (rmB21 l Z a0 hw [] x0 kp p0 p1 p2 p3 p4 h0 Vp) e0 0 (argsL := [(.ref x0), (.int 2), (.int 1)]) (rest := []) (Ls := #[rv x0, iv 2, iv x2]) (by rw [hml]; rfl) (lenOf pd___III_Z rfl) rfl rfl (Nat.le_of_eq rfl) (hb hby d3_54) (by decide) (by decide) (by decide) (by decide)
  replace X1 := own_nil X1
  refine own_go T1 m 57 #[rv x0, iv 2, iv x2] [(.int (if p0 = p1 then 1 else 0))] (st1) ?_
  by_cases hB57_2 : p0 = p1
  · rw [if_pos hB57_2]
    refine own_go T1 m 60 #[rv x0, iv 2, iv x2] [] (fun t k => XS.ifNo X1.here hx rfl (hb hby d3_57) rfl ((if0 _ _).trans (feq (by decide)).1) k) ?_
    refine own_go T1 m 61 #[rv x0, iv 2, iv x2] [(.ref x0)] (fun t k => XS.aloadN X1.here hx rfl (hb hby d3_60) rfl rfl k) ?_
    refine own_go T1 m 62 #[rv x0, iv 2, iv x2] [(.int 1), (.ref x0)] (fun t k => XS.iconst X1.here hx rfl (hb hby d3_61) k) ?_
    refine own_go T1 m 63 #[rv x0, iv 2, iv x2] [(.int p1)] (own_iaload X1 hx hZ e1 Vp (j := (1 : Int32)) ⟨by decide, by decide⟩ rfl (hb hby d3_62)) ?_
    refine own_go T1 m 64 #[rv x0, iv 2, iv x2] [(.int x2), (.int p1)] (fun t k => XS.iloadN X1.here hx rfl (hb hby d3_63) rfl k) ?_
    by_cases hc64_4 : p1 = x2
    · refine own_go T1 m 67 #[rv x0, iv 2, iv x2] [] (fun t k => XS.icmpNo X1.here hx rfl (hb hby d3_64) rfl (teq hc64_4).2 k) ?_
      refine own_go T1 m 68 #[rv x0, iv 2, iv x2] [(.int 1)] (fun t k => XS.iconst X1.here hx rfl (hb hby d3_67) k) ?_
      refine own_retI X1 hx hlk hret (hb hby d3_68) (by decide) (by decide) ?_
      exact ⟨by rw [own_lf29 p0 p1 p2 p3 p4 x2 hB57_2 hc64_4], e1, rfl⟩
    · refine own_go T1 m 69 #[rv x0, iv 2, iv x2] [] (fun t k => XS.icmpYes X1.here hx rfl (pc0 := 64) (pc' := 69) rfl (hb hby d3_64) rfl (feq hc64_4).2 (by decide) (by decide) k) ?_
      refine own_go T1 m 70 #[rv x0, iv 2, iv x2] [(.int 2)] (fun t k => XS.iloadN X1.here hx rfl (hb hby d3_69) rfl k) ?_
      refine own_go T1 m 71 #[rv x0, iv 2, iv x2] [(.int 1), (.int 2)] (fun t k => XS.iconst X1.here hx rfl (hb hby d3_70) k) ?_
      refine own_go T1 m 74 #[rv x0, iv 2, iv x2] [] (fun t k => XS.icmpNo X1.here hx rfl (hb hby d3_71) rfl (flt (by decide)).1 k) ?_
      refine own_go T1 m 75 #[rv x0, iv 2, iv x2] [(.ref x0)] (fun t k => XS.aloadN X1.here hx rfl (hb hby d3_74) rfl rfl k) ?_
      refine own_go T1 m 76 #[rv x0, iv 2, iv x2] [(.int 0), (.ref x0)] (fun t k => XS.iconst X1.here hx rfl (hb hby d3_75) k) ?_
      refine own_go T1 m 77 #[rv x0, iv 2, iv x2] [(.int p0)] (own_iaload X1 hx hZ e1 Vp (j := (0 : Int32)) ⟨by decide, by decide⟩ rfl (hb hby d3_76)) ?_
      refine own_go T1 m 78 #[rv x0, iv 2, iv x2] [(.int x2), (.int p0)] (fun t k => XS.iloadN X1.here hx rfl (hb hby d3_77) rfl k) ?_
      by_cases hc78_6 : p0 = x2
      · refine own_go T1 m 81 #[rv x0, iv 2, iv x2] [] (fun t k => XS.icmpNo X1.here hx rfl (hb hby d3_78) rfl (teq hc78_6).2 k) ?_
        refine own_go T1 m 82 #[rv x0, iv 2, iv x2] [(.int 0)] (fun t k => XS.iconst X1.here hx rfl (hb hby d3_81) k) ?_
        refine own_retI X1 hx hlk hret (hb hby d3_82) (by decide) (by decide) ?_
        exact ⟨by rw [own_lf30 p0 p1 p2 p3 p4 x2 hB57_2 hc64_4 hc78_6], e1, rfl⟩
      · refine own_go T1 m 83 #[rv x0, iv 2, iv x2] [] (fun t k => XS.icmpYes X1.here hx rfl (pc0 := 78) (pc' := 83) rfl (hb hby d3_78) rfl (feq hc78_6).2 (by decide) (by decide) k) ?_
        refine own_go T1 m 84 #[rv x0, iv 2, iv x2] [(.int (-1))] (fun t k => XS.iconst X1.here hx rfl (hb hby d3_83) k) ?_
        refine own_retI X1 hx hlk hret (hb hby d3_84) (by decide) (by decide) ?_
        exact ⟨by rw [own_lf31 p0 p1 p2 p3 p4 x2 hB57_2 hc64_4 hc78_6], e1, rfl⟩
  · rw [if_neg hB57_2]
    refine own_go T1 m 69 #[rv x0, iv 2, iv x2] [] (fun t k => XS.ifYes X1.here hx rfl (pc0 := 57) (pc' := 69) rfl (hb hby d3_57) rfl ((if0 _ _).trans (teq (by decide)).1) (by decide) (by decide) k) ?_
    refine own_go T1 m 70 #[rv x0, iv 2, iv x2] [(.int 2)] (fun t k => XS.iloadN X1.here hx rfl (hb hby d3_69) rfl k) ?_
    refine own_go T1 m 71 #[rv x0, iv 2, iv x2] [(.int 1), (.int 2)] (fun t k => XS.iconst X1.here hx rfl (hb hby d3_70) k) ?_
    refine own_go T1 m 74 #[rv x0, iv 2, iv x2] [] (fun t k => XS.icmpNo X1.here hx rfl (hb hby d3_71) rfl (flt (by decide)).1 k) ?_
    refine own_go T1 m 75 #[rv x0, iv 2, iv x2] [(.ref x0)] (fun t k => XS.aloadN X1.here hx rfl (hb hby d3_74) rfl rfl k) ?_
    refine own_go T1 m 76 #[rv x0, iv 2, iv x2] [(.int 0), (.ref x0)] (fun t k => XS.iconst X1.here hx rfl (hb hby d3_75) k) ?_
    refine own_go T1 m 77 #[rv x0, iv 2, iv x2] [(.int p0)] (own_iaload X1 hx hZ e1 Vp (j := (0 : Int32)) ⟨by decide, by decide⟩ rfl (hb hby d3_76)) ?_
    refine own_go T1 m 78 #[rv x0, iv 2, iv x2] [(.int x2), (.int p0)] (fun t k => XS.iloadN X1.here hx rfl (hb hby d3_77) rfl k) ?_
    by_cases hc78_8 : p0 = x2
    · refine own_go T1 m 81 #[rv x0, iv 2, iv x2] [] (fun t k => XS.icmpNo X1.here hx rfl (hb hby d3_78) rfl (teq hc78_8).2 k) ?_
      refine own_go T1 m 82 #[rv x0, iv 2, iv x2] [(.int 0)] (fun t k => XS.iconst X1.here hx rfl (hb hby d3_81) k) ?_
      refine own_retI X1 hx hlk hret (hb hby d3_82) (by decide) (by decide) ?_
      exact ⟨by rw [own_lf32 p0 p1 p2 p3 p4 x2 hB57_2 hc78_8], e1, rfl⟩
    · refine own_go T1 m 83 #[rv x0, iv 2, iv x2] [] (fun t k => XS.icmpYes X1.here hx rfl (pc0 := 78) (pc' := 83) rfl (hb hby d3_78) rfl (feq hc78_8).2 (by decide) (by decide) k) ?_
      refine own_go T1 m 84 #[rv x0, iv 2, iv x2] [(.int (-1))] (fun t k => XS.iconst X1.here hx rfl (hb hby d3_83) k) ?_
      refine own_retI X1 hx hlk hret (hb hby d3_84) (by decide) (by decide) ?_
      exact ⟨by rw [own_lf33 p0 p1 p2 p3 p4 x2 hB57_2 hc78_8], e1, rfl⟩
theorem own_lf34 (p0 p1 p2 p3 p4 x2 : Int32) (hB34_2 : p0 = p1 ∧ p1 = p2) (hc41_4 : p2 = x2) : own_ref3 p0 p1 p2 p3 x2 = (2 : Int32) := by
  unfold own_ref3
  grind
theorem own_lf35 (p0 p1 p2 p3 p4 x2 : Int32) (hB34_2 : p0 = p1 ∧ p1 = p2) (hc41_4 : ¬ (p2 = x2)) (hB57_6 : p0 = p2) (hc64_8 : p1 = x2) : own_ref3 p0 p1 p2 p3 x2 = (1 : Int32) := by
  unfold own_ref3
  grind
theorem own_lf36 (p0 p1 p2 p3 p4 x2 : Int32) (hB34_2 : p0 = p1 ∧ p1 = p2) (hc41_4 : ¬ (p2 = x2)) (hB57_6 : p0 = p2) (hc64_8 : ¬ (p1 = x2)) (hc78_10 : p0 = x2) : own_ref3 p0 p1 p2 p3 x2 = (0 : Int32) := by
  unfold own_ref3
  grind
theorem own_lf37 (p0 p1 p2 p3 p4 x2 : Int32) (hB34_2 : p0 = p1 ∧ p1 = p2) (hc41_4 : ¬ (p2 = x2)) (hB57_6 : p0 = p2) (hc64_8 : ¬ (p1 = x2)) (hc78_10 : ¬ (p0 = x2)) : own_ref3 p0 p1 p2 p3 x2 = (-1 : Int32) := by
  unfold own_ref3
  grind
theorem own_lf38 (p0 p1 p2 p3 p4 x2 : Int32) (hB34_2 : p0 = p1 ∧ p1 = p2) (hc41_4 : ¬ (p2 = x2)) (hB57_6 : ¬ (p0 = p2)) (hc78_12 : p0 = x2) : own_ref3 p0 p1 p2 p3 x2 = (0 : Int32) := by
  unfold own_ref3
  grind
theorem own_lf39 (p0 p1 p2 p3 p4 x2 : Int32) (hB34_2 : p0 = p1 ∧ p1 = p2) (hc41_4 : ¬ (p2 = x2)) (hB57_6 : ¬ (p0 = p2)) (hc78_12 : ¬ (p0 = x2)) : own_ref3 p0 p1 p2 p3 x2 = (-1 : Int32) := by
  unfold own_ref3
  grind
theorem own_lf40 (p0 p1 p2 p3 p4 x2 : Int32) (hB34_2 : ¬ (p0 = p1 ∧ p1 = p2)) (hB57_14 : p0 = p2) (hc64_16 : p1 = x2) : own_ref3 p0 p1 p2 p3 x2 = (1 : Int32) := by
  unfold own_ref3
  grind
theorem own_lf41 (p0 p1 p2 p3 p4 x2 : Int32) (hB34_2 : ¬ (p0 = p1 ∧ p1 = p2)) (hB57_14 : p0 = p2) (hc64_16 : ¬ (p1 = x2)) (hc78_18 : p0 = x2) : own_ref3 p0 p1 p2 p3 x2 = (0 : Int32) := by
  unfold own_ref3
  grind
theorem own_lf42 (p0 p1 p2 p3 p4 x2 : Int32) (hB34_2 : ¬ (p0 = p1 ∧ p1 = p2)) (hB57_14 : p0 = p2) (hc64_16 : ¬ (p1 = x2)) (hc78_18 : ¬ (p0 = x2)) : own_ref3 p0 p1 p2 p3 x2 = (-1 : Int32) := by
  unfold own_ref3
  grind
theorem own_lf43 (p0 p1 p2 p3 p4 x2 : Int32) (hB34_2 : ¬ (p0 = p1 ∧ p1 = p2)) (hB57_14 : ¬ (p0 = p2)) (hc78_20 : p0 = x2) : own_ref3 p0 p1 p2 p3 x2 = (0 : Int32) := by
  unfold own_ref3
  grind
theorem own_lf44 (p0 p1 p2 p3 p4 x2 : Int32) (hB34_2 : ¬ (p0 = p1 ∧ p1 = p2)) (hB57_14 : ¬ (p0 = p2)) (hc78_20 : ¬ (p0 = x2)) : own_ref3 p0 p1 p2 p3 x2 = (-1 : Int32) := by
  unfold own_ref3
  grind
theorem ef_rmR3 (m : MethodId) (q0 : Addr) (q1 : Int32) (q2 : Int32) : entryFrame m #[(.ref q0), (.int q1), (.int q2)] 3 = mkF m 0 #[rv q0, iv q1, iv q2] [] := by first | (simp [entryFrame, mkF, argsToLocals, Value.category]; done) | rfl
set_option maxRecDepth 65536 in
set_option maxHeartbeats 40000000 in
theorem rmR3 (l : Launch) (Z : State) (a0 : Array Value) (hw : ∀ d ∈ tables_1, d.before a0 Z = true) (ws : List Jvm.Cond) (x0 : Addr) (x2 : Int32) (kp : ClassId) (p0 p1 p2 p3 p4 : Int32) (h0 : Heap) (Vp : Arv Z h0 x0 kp .int 5 [(.int p0), (.int p1), (.int p2), (.int p3), (.int p4)] (.int 0)) :
    OwnC l Z (⟨"com/example/substring_search/substringsearch/PrefixTableFallBackPinLaw", "ref", "([III)I"⟩ : MethodName) method_5_code 3 (some .int) ws ({ frames := 1, cells := 0, slots := 0, locals := 14 } : Room) #[(.ref x0), (.int 3), (.int x2)] h0 (OwnPure (.int (own_ref3 p0 p1 p2 p3 x2)) h0) := by
  refine own_entry pf_com_example_substring_search_substringsearch_PrefixTableFallBackPinLaw_ref___III_I (fun m => ef_rmR3 m x0 (3 : Int32) x2) ?_
  intro p e s m below meth c T0 X0 hC e0
  obtain ⟨hx, hby, hml, hown, hnm, hret, hlk, hZ⟩ := hC
  refine own_go T0 m 1 #[rv x0, iv 3, iv x2] [(.int 3)] (fun t k => XS.iloadN X0.here hx rfl (hb hby d3_0) rfl k) ?_
  refine own_go T0 m 2 #[rv x0, iv 3, iv x2] [(.int 4), (.int 3)] (fun t k => XS.iconst X0.here hx rfl (hb hby d3_1) k) ?_
  refine own_go T0 m 23 #[rv x0, iv 3, iv x2] [] (fun t k => XS.icmpYes X0.here hx rfl (pc0 := 2) (pc' := 23) rfl (hb hby d3_2) rfl (tlt (by decide)).1 (by decide) (by decide) k) ?_
  refine own_go T0 m 24 #[rv x0, iv 3, iv x2] [(.int 3)] (fun t k => XS.iloadN X0.here hx rfl (hb hby d3_23) rfl k) ?_
  refine own_go T0 m 25 #[rv x0, iv 3, iv x2] [(.int 3), (.int 3)] (fun t k => XS.iconst X0.here hx rfl (hb hby d3_24) k) ?_
  refine own_go T0 m 28 #[rv x0, iv 3, iv x2] [] (fun t k => XS.icmpNo X0.here hx rfl (hb hby d3_25) rfl (flt (by decide)).1 k) ?_
  refine own_go T0 m 29 #[rv x0, iv 3, iv x2] [(.ref x0)] (fun t k => XS.aloadN X0.here hx rfl (hb hby d3_28) rfl rfl k) ?_
  refine own_go T0 m 30 #[rv x0, iv 3, iv x2] [(.int 3), (.ref x0)] (fun t k => XS.iloadN X0.here hx rfl (hb hby d3_29) rfl k) ?_
  refine own_go T0 m 31 #[rv x0, iv 3, iv x2] [(.int 2), (.int 3), (.ref x0)] (fun t k => XS.iconst X0.here hx rfl (hb hby d3_30) k) ?_
  obtain ⟨_, T1, L1, X1, ⟨rfl, e1, rfl⟩, st1⟩ := own_static X0 hx hZ (y := (⟨"com/example/substring_search/substringsearch/PrefixTableFallBackPinLaw", "border", "([III)Z"⟩ : MethodName)) hown (own_w hw 5 rfl) (own_w hw 6 rfl) (own_w hw 3 rfl) (own_w hw 7 rfl) (by decide) (rmB32 l Z a0 hw [] x0 kp p0 p1 p2 p3 p4 h0 Vp) e0 0 (argsL := [(.ref x0), (.int 3), (.int 2)]) (rest := []) (Ls := #[rv x0, iv 3, iv x2]) (by rw [hml]; rfl) (lenOf pd___III_Z rfl) rfl rfl (Nat.le_of_eq rfl) (hb hby d3_31) (by decide) (by decide) (by decide) (by decide)
  replace X1 := own_nil X1
  refine own_go T1 m 34 #[rv x0, iv 3, iv x2] [(.int (if p0 = p1 ∧ p1 = p2 then 1 else 0))] (st1) ?_
  by_cases hB34_2 : p0 = p1 ∧ p1 = p2
  · rw [if_pos hB34_2]
    refine own_go T1 m 37 #[rv x0, iv 3, iv x2] [] (fun t k => XS.ifNo X1.here hx rfl (hb hby d3_34) rfl ((if0 _ _).trans (feq (by decide)).1) k) ?_
    refine own_go T1 m 38 #[rv x0, iv 3, iv x2] [(.ref x0)] (fun t k => XS.aloadN X1.here hx rfl (hb hby d3_37) rfl rfl k) ?_
    refine own_go T1 m 39 #[rv x0, iv 3, iv x2] [(.int 2), (.ref x0)] (fun t k => XS.iconst X1.here hx rfl (hb hby d3_38) k) ?_
    refine own_go T1 m 40 #[rv x0, iv 3, iv x2] [(.int p2)] (own_iaload X1 hx hZ e1 Vp (j := (2 : Int32)) ⟨by decide, by decide⟩ rfl (hb hby d3_39)) ?_
    refine own_go T1 m 41 #[rv x0, iv 3, iv x2] [(.int x2), (.int p2)] (fun t k => XS.iloadN X1.here hx rfl (hb hby d3_40) rfl k) ?_
    by_cases hc41_4 : p2 = x2
    · refine own_go T1 m 44 #[rv x0, iv 3, iv x2] [] (fun t k => XS.icmpNo X1.here hx rfl (hb hby d3_41) rfl (teq hc41_4).2 k) ?_
      refine own_go T1 m 45 #[rv x0, iv 3, iv x2] [(.int 2)] (fun t k => XS.iconst X1.here hx rfl (hb hby d3_44) k) ?_
      refine own_retI X1 hx hlk hret (hb hby d3_45) (by decide) (by decide) ?_
      exact ⟨by rw [own_lf34 p0 p1 p2 p3 p4 x2 hB34_2 hc41_4], e1, rfl⟩
    · refine own_go T1 m 46 #[rv x0, iv 3, iv x2] [] (fun t k => XS.icmpYes X1.here hx rfl (pc0 := 41) (pc' := 46) rfl (hb hby d3_41) rfl (feq hc41_4).2 (by decide) (by decide) k) ?_
      refine own_go T1 m 47 #[rv x0, iv 3, iv x2] [(.int 3)] (fun t k => XS.iloadN X1.here hx rfl (hb hby d3_46) rfl k) ?_
      refine own_go T1 m 48 #[rv x0, iv 3, iv x2] [(.int 2), (.int 3)] (fun t k => XS.iconst X1.here hx rfl (hb hby d3_47) k) ?_
      refine own_go T1 m 51 #[rv x0, iv 3, iv x2] [] (fun t k => XS.icmpNo X1.here hx rfl (hb hby d3_48) rfl (flt (by decide)).1 k) ?_
      refine own_go T1 m 52 #[rv x0, iv 3, iv x2] [(.ref x0)] (fun t k => XS.aloadN X1.here hx rfl (hb hby d3_51) rfl rfl k) ?_
      refine own_go T1 m 53 #[rv x0, iv 3, iv x2] [(.int 3), (.ref x0)] (fun t k => XS.iloadN X1.here hx rfl (hb hby d3_52) rfl k) ?_
      refine own_go T1 m 54 #[rv x0, iv 3, iv x2] [(.int 1), (.int 3), (.ref x0)] (fun t k => XS.iconst X1.here hx rfl (hb hby d3_53) k) ?_
      obtain ⟨_, T5, L5, X5, ⟨rfl, e5, rfl⟩, st5⟩ := own_static X1 hx hZ (y := (⟨"com/example/substring_search/substringsearch/PrefixTableFallBackPinLaw", "border", "([III)Z"⟩ : MethodName)) hown (own_w hw 5 rfl) (own_w hw 6 rfl) (own_w hw 3 rfl) (own_w hw 7 rfl) (by decide) (rmB31 l Z a0 hw [] x0 kp p0 p1 p2 p3 p4 h0 Vp) e1 0 (argsL := [(.ref x0), (.int 3), (.int 1)]) (rest := []) (Ls := #[rv x0, iv 3, iv x2]) (by rw [hml]; rfl) (lenOf pd___III_Z rfl) rfl rfl (Nat.le_of_eq rfl) (hb hby d3_54) (by decide) (by decide) (by decide) (by decide)
      replace X5 := own_nil X5
      refine own_go T5 m 57 #[rv x0, iv 3, iv x2] [(.int (if p0 = p2 then 1 else 0))] (st5) ?_
      by_cases hB57_6 : p0 = p2
      · rw [if_pos hB57_6]
        refine own_go T5 m 60 #[rv x0, iv 3, iv x2] [] (fun t k => XS.ifNo X5.here hx rfl (hb hby d3_57) rfl ((if0 _ _).trans (feq (by decide)).1) k) ?_
        refine own_go T5 m 61 #[rv x0, iv 3, iv x2] [(.ref x0)] (fun t k => XS.aloadN X5.here hx rfl (hb hby d3_60) rfl rfl k) ?_
        refine own_go T5 m 62 #[rv x0, iv 3, iv x2] [(.int 1), (.ref x0)] (fun t k => XS.iconst X5.here hx rfl (hb hby d3_61) k) ?_
        refine own_go T5 m 63 #[rv x0, iv 3, iv x2] [(.int p1)] (own_iaload X5 hx hZ e5 Vp (j := (1 : Int32)) ⟨by decide, by decide⟩ rfl (hb hby d3_62)) ?_
        refine own_go T5 m 64 #[rv x0, iv 3, iv x2] [(.int x2), (.int p1)] (fun t k => XS.iloadN X5.here hx rfl (hb hby d3_63) rfl k) ?_
        by_cases hc64_8 : p1 = x2
        · refine own_go T5 m 67 #[rv x0, iv 3, iv x2] [] (fun t k => XS.icmpNo X5.here hx rfl (hb hby d3_64) rfl (teq hc64_8).2 k) ?_
          refine own_go T5 m 68 #[rv x0, iv 3, iv x2] [(.int 1)] (fun t k => XS.iconst X5.here hx rfl (hb hby d3_67) k) ?_
          refine own_retI X5 hx hlk hret (hb hby d3_68) (by decide) (by decide) ?_
          exact ⟨by rw [own_lf35 p0 p1 p2 p3 p4 x2 hB34_2 hc41_4 hB57_6 hc64_8], e5, rfl⟩
        · refine own_go T5 m 69 #[rv x0, iv 3, iv x2] [] (fun t k => XS.icmpYes X5.here hx rfl (pc0 := 64) (pc' := 69) rfl (hb hby d3_64) rfl (feq hc64_8).2 (by decide) (by decide) k) ?_
          refine own_go T5 m 70 #[rv x0, iv 3, iv x2] [(.int 3)] (fun t k => XS.iloadN X5.here hx rfl (hb hby d3_69) rfl k) ?_
          refine own_go T5 m 71 #[rv x0, iv 3, iv x2] [(.int 1), (.int 3)] (fun t k => XS.iconst X5.here hx rfl (hb hby d3_70) k) ?_
          refine own_go T5 m 74 #[rv x0, iv 3, iv x2] [] (fun t k => XS.icmpNo X5.here hx rfl (hb hby d3_71) rfl (flt (by decide)).1 k) ?_
          refine own_go T5 m 75 #[rv x0, iv 3, iv x2] [(.ref x0)] (fun t k => XS.aloadN X5.here hx rfl (hb hby d3_74) rfl rfl k) ?_
          refine own_go T5 m 76 #[rv x0, iv 3, iv x2] [(.int 0), (.ref x0)] (fun t k => XS.iconst X5.here hx rfl (hb hby d3_75) k) ?_
          refine own_go T5 m 77 #[rv x0, iv 3, iv x2] [(.int p0)] (own_iaload X5 hx hZ e5 Vp (j := (0 : Int32)) ⟨by decide, by decide⟩ rfl (hb hby d3_76)) ?_
          refine own_go T5 m 78 #[rv x0, iv 3, iv x2] [(.int x2), (.int p0)] (fun t k => XS.iloadN X5.here hx rfl (hb hby d3_77) rfl k) ?_
          by_cases hc78_10 : p0 = x2
          · refine own_go T5 m 81 #[rv x0, iv 3, iv x2] [] (fun t k => XS.icmpNo X5.here hx rfl (hb hby d3_78) rfl (teq hc78_10).2 k) ?_
            refine own_go T5 m 82 #[rv x0, iv 3, iv x2] [(.int 0)] (fun t k => XS.iconst X5.here hx rfl (hb hby d3_81) k) ?_
            refine own_retI X5 hx hlk hret (hb hby d3_82) (by decide) (by decide) ?_
            exact ⟨by rw [own_lf36 p0 p1 p2 p3 p4 x2 hB34_2 hc41_4 hB57_6 hc64_8 hc78_10], e5, rfl⟩
          · refine own_go T5 m 83 #[rv x0, iv 3, iv x2] [] (fun t k => XS.icmpYes X5.here hx rfl (pc0 := 78) (pc' := 83) rfl (hb hby d3_78) rfl (feq hc78_10).2 (by decide) (by decide) k) ?_
            refine own_go T5 m 84 #[rv x0, iv 3, iv x2] [(.int (-1))] (fun t k => XS.iconst X5.here hx rfl (hb hby d3_83) k) ?_
            refine own_retI X5 hx hlk hret (hb hby d3_84) (by decide) (by decide) ?_
            exact ⟨by rw [own_lf37 p0 p1 p2 p3 p4 x2 hB34_2 hc41_4 hB57_6 hc64_8 hc78_10], e5, rfl⟩
      · rw [if_neg hB57_6]
        refine own_go T5 m 69 #[rv x0, iv 3, iv x2] [] (fun t k => XS.ifYes X5.here hx rfl (pc0 := 57) (pc' := 69) rfl (hb hby d3_57) rfl ((if0 _ _).trans (teq (by decide)).1) (by decide) (by decide) k) ?_
        refine own_go T5 m 70 #[rv x0, iv 3, iv x2] [(.int 3)] (fun t k => XS.iloadN X5.here hx rfl (hb hby d3_69) rfl k) ?_
        refine own_go T5 m 71 #[rv x0, iv 3, iv x2] [(.int 1), (.int 3)] (fun t k => XS.iconst X5.here hx rfl (hb hby d3_70) k) ?_
        refine own_go T5 m 74 #[rv x0, iv 3, iv x2] [] (fun t k => XS.icmpNo X5.here hx rfl (hb hby d3_71) rfl (flt (by decide)).1 k) ?_
        refine own_go T5 m 75 #[rv x0, iv 3, iv x2] [(.ref x0)] (fun t k => XS.aloadN X5.here hx rfl (hb hby d3_74) rfl rfl k) ?_
        refine own_go T5 m 76 #[rv x0, iv 3, iv x2] [(.int 0), (.ref x0)] (fun t k => XS.iconst X5.here hx rfl (hb hby d3_75) k) ?_
        refine own_go T5 m 77 #[rv x0, iv 3, iv x2] [(.int p0)] (own_iaload X5 hx hZ e5 Vp (j := (0 : Int32)) ⟨by decide, by decide⟩ rfl (hb hby d3_76)) ?_
        refine own_go T5 m 78 #[rv x0, iv 3, iv x2] [(.int x2), (.int p0)] (fun t k => XS.iloadN X5.here hx rfl (hb hby d3_77) rfl k) ?_
        by_cases hc78_12 : p0 = x2
        · refine own_go T5 m 81 #[rv x0, iv 3, iv x2] [] (fun t k => XS.icmpNo X5.here hx rfl (hb hby d3_78) rfl (teq hc78_12).2 k) ?_
          refine own_go T5 m 82 #[rv x0, iv 3, iv x2] [(.int 0)] (fun t k => XS.iconst X5.here hx rfl (hb hby d3_81) k) ?_
          refine own_retI X5 hx hlk hret (hb hby d3_82) (by decide) (by decide) ?_
          exact ⟨by rw [own_lf38 p0 p1 p2 p3 p4 x2 hB34_2 hc41_4 hB57_6 hc78_12], e5, rfl⟩
        · refine own_go T5 m 83 #[rv x0, iv 3, iv x2] [] (fun t k => XS.icmpYes X5.here hx rfl (pc0 := 78) (pc' := 83) rfl (hb hby d3_78) rfl (feq hc78_12).2 (by decide) (by decide) k) ?_
          refine own_go T5 m 84 #[rv x0, iv 3, iv x2] [(.int (-1))] (fun t k => XS.iconst X5.here hx rfl (hb hby d3_83) k) ?_
          refine own_retI X5 hx hlk hret (hb hby d3_84) (by decide) (by decide) ?_
          exact ⟨by rw [own_lf39 p0 p1 p2 p3 p4 x2 hB34_2 hc41_4 hB57_6 hc78_12], e5, rfl⟩
  · rw [if_neg hB34_2]
    refine own_go T1 m 46 #[rv x0, iv 3, iv x2] [] (fun t k => XS.ifYes X1.here hx rfl (pc0 := 34) (pc' := 46) rfl (hb hby d3_34) rfl ((if0 _ _).trans (teq (by decide)).1) (by decide) (by decide) k) ?_
    refine own_go T1 m 47 #[rv x0, iv 3, iv x2] [(.int 3)] (fun t k => XS.iloadN X1.here hx rfl (hb hby d3_46) rfl k) ?_
    refine own_go T1 m 48 #[rv x0, iv 3, iv x2] [(.int 2), (.int 3)] (fun t k => XS.iconst X1.here hx rfl (hb hby d3_47) k) ?_
    refine own_go T1 m 51 #[rv x0, iv 3, iv x2] [] (fun t k => XS.icmpNo X1.here hx rfl (hb hby d3_48) rfl (flt (by decide)).1 k) ?_
    refine own_go T1 m 52 #[rv x0, iv 3, iv x2] [(.ref x0)] (fun t k => XS.aloadN X1.here hx rfl (hb hby d3_51) rfl rfl k) ?_
    refine own_go T1 m 53 #[rv x0, iv 3, iv x2] [(.int 3), (.ref x0)] (fun t k => XS.iloadN X1.here hx rfl (hb hby d3_52) rfl k) ?_
    refine own_go T1 m 54 #[rv x0, iv 3, iv x2] [(.int 1), (.int 3), (.ref x0)] (fun t k => XS.iconst X1.here hx rfl (hb hby d3_53) k) ?_
    obtain ⟨_, T13, L13, X13, ⟨rfl, e13, rfl⟩, st13⟩ := own_static X1 hx hZ (y := (⟨"com/example/substring_search/substringsearch/PrefixTableFallBackPinLaw", "border", "([III)Z"⟩ : MethodName)) hown (own_w hw 5 rfl) (own_w hw 6 rfl) (own_w hw 3 rfl) (own_w hw 7 rfl) (by decide) (rmB31 l Z a0 hw [] x0 kp p0 p1 p2 p3 p4 h0 Vp) e1 0 (argsL := [(.ref x0), (.int 3), (.int 1)]) (rest := []) (Ls := #[rv x0, iv 3, iv x2]) (by rw [hml]; rfl) (lenOf pd___III_Z rfl) rfl rfl (Nat.le_of_eq rfl) (hb hby d3_54) (by decide) (by decide) (by decide) (by decide)
    replace X13 := own_nil X13
    refine own_go T13 m 57 #[rv x0, iv 3, iv x2] [(.int (if p0 = p2 then 1 else 0))] (st13) ?_
    by_cases hB57_14 : p0 = p2
    · rw [if_pos hB57_14]
      refine own_go T13 m 60 #[rv x0, iv 3, iv x2] [] (fun t k => XS.ifNo X13.here hx rfl (hb hby d3_57) rfl ((if0 _ _).trans (feq (by decide)).1) k) ?_
      refine own_go T13 m 61 #[rv x0, iv 3, iv x2] [(.ref x0)] (fun t k => XS.aloadN X13.here hx rfl (hb hby d3_60) rfl rfl k) ?_
      refine own_go T13 m 62 #[rv x0, iv 3, iv x2] [(.int 1), (.ref x0)] (fun t k => XS.iconst X13.here hx rfl (hb hby d3_61) k) ?_
      refine own_go T13 m 63 #[rv x0, iv 3, iv x2] [(.int p1)] (own_iaload X13 hx hZ e13 Vp (j := (1 : Int32)) ⟨by decide, by decide⟩ rfl (hb hby d3_62)) ?_
      refine own_go T13 m 64 #[rv x0, iv 3, iv x2] [(.int x2), (.int p1)] (fun t k => XS.iloadN X13.here hx rfl (hb hby d3_63) rfl k) ?_
      by_cases hc64_16 : p1 = x2
      · refine own_go T13 m 67 #[rv x0, iv 3, iv x2] [] (fun t k => XS.icmpNo X13.here hx rfl (hb hby d3_64) rfl (teq hc64_16).2 k) ?_
        refine own_go T13 m 68 #[rv x0, iv 3, iv x2] [(.int 1)] (fun t k => XS.iconst X13.here hx rfl (hb hby d3_67) k) ?_
        refine own_retI X13 hx hlk hret (hb hby d3_68) (by decide) (by decide) ?_
        exact ⟨by rw [own_lf40 p0 p1 p2 p3 p4 x2 hB34_2 hB57_14 hc64_16], e13, rfl⟩
      · refine own_go T13 m 69 #[rv x0, iv 3, iv x2] [] (fun t k => XS.icmpYes X13.here hx rfl (pc0 := 64) (pc' := 69) rfl (hb hby d3_64) rfl (feq hc64_16).2 (by decide) (by decide) k) ?_
        refine own_go T13 m 70 #[rv x0, iv 3, iv x2] [(.int 3)] (fun t k => XS.iloadN X13.here hx rfl (hb hby d3_69) rfl k) ?_
        refine own_go T13 m 71 #[rv x0, iv 3, iv x2] [(.int 1), (.int 3)] (fun t k => XS.iconst X13.here hx rfl (hb hby d3_70) k) ?_
        refine own_go T13 m 74 #[rv x0, iv 3, iv x2] [] (fun t k => XS.icmpNo X13.here hx rfl (hb hby d3_71) rfl (flt (by decide)).1 k) ?_
        refine own_go T13 m 75 #[rv x0, iv 3, iv x2] [(.ref x0)] (fun t k => XS.aloadN X13.here hx rfl (hb hby d3_74) rfl rfl k) ?_
        refine own_go T13 m 76 #[rv x0, iv 3, iv x2] [(.int 0), (.ref x0)] (fun t k => XS.iconst X13.here hx rfl (hb hby d3_75) k) ?_
        refine own_go T13 m 77 #[rv x0, iv 3, iv x2] [(.int p0)] (own_iaload X13 hx hZ e13 Vp (j := (0 : Int32)) ⟨by decide, by decide⟩ rfl (hb hby d3_76)) ?_
        refine own_go T13 m 78 #[rv x0, iv 3, iv x2] [(.int x2), (.int p0)] (fun t k => XS.iloadN X13.here hx rfl (hb hby d3_77) rfl k) ?_
        by_cases hc78_18 : p0 = x2
        · refine own_go T13 m 81 #[rv x0, iv 3, iv x2] [] (fun t k => XS.icmpNo X13.here hx rfl (hb hby d3_78) rfl (teq hc78_18).2 k) ?_
          refine own_go T13 m 82 #[rv x0, iv 3, iv x2] [(.int 0)] (fun t k => XS.iconst X13.here hx rfl (hb hby d3_81) k) ?_
          refine own_retI X13 hx hlk hret (hb hby d3_82) (by decide) (by decide) ?_
          exact ⟨by rw [own_lf41 p0 p1 p2 p3 p4 x2 hB34_2 hB57_14 hc64_16 hc78_18], e13, rfl⟩
        · refine own_go T13 m 83 #[rv x0, iv 3, iv x2] [] (fun t k => XS.icmpYes X13.here hx rfl (pc0 := 78) (pc' := 83) rfl (hb hby d3_78) rfl (feq hc78_18).2 (by decide) (by decide) k) ?_
          refine own_go T13 m 84 #[rv x0, iv 3, iv x2] [(.int (-1))] (fun t k => XS.iconst X13.here hx rfl (hb hby d3_83) k) ?_
          refine own_retI X13 hx hlk hret (hb hby d3_84) (by decide) (by decide) ?_
          exact ⟨by rw [own_lf42 p0 p1 p2 p3 p4 x2 hB34_2 hB57_14 hc64_16 hc78_18], e13, rfl⟩
    · rw [if_neg hB57_14]
      refine own_go T13 m 69 #[rv x0, iv 3, iv x2] [] (fun t k => XS.ifYes X13.here hx rfl (pc0 := 57) (pc' := 69) rfl (hb hby d3_57) rfl ((if0 _ _).trans (teq (by decide)).1) (by decide) (by decide) k) ?_
      refine own_go T13 m 70 #[rv x0, iv 3, iv x2] [(.int 3)] (fun t k => XS.iloadN X13.here hx rfl (hb hby d3_69) rfl k) ?_
      refine own_go T13 m 71 #[rv x0, iv 3, iv x2] [(.int 1), (.int 3)] (fun t k => XS.iconst X13.here hx rfl (hb hby d3_70) k) ?_
      refine own_go T13 m 74 #[rv x0, iv 3, iv x2] [] (fun t k => XS.icmpNo X13.here hx rfl (hb hby d3_71) rfl (flt (by decide)).1 k) ?_
      refine own_go T13 m 75 #[rv x0, iv 3, iv x2] [(.ref x0)] (fun t k => XS.aloadN X13.here hx rfl (hb hby d3_74) rfl rfl k) ?_
      refine own_go T13 m 76 #[rv x0, iv 3, iv x2] [(.int 0), (.ref x0)] (fun t k => XS.iconst X13.here hx rfl (hb hby d3_75) k) ?_
      refine own_go T13 m 77 #[rv x0, iv 3, iv x2] [(.int p0)] (own_iaload X13 hx hZ e13 Vp (j := (0 : Int32)) ⟨by decide, by decide⟩ rfl (hb hby d3_76)) ?_
      refine own_go T13 m 78 #[rv x0, iv 3, iv x2] [(.int x2), (.int p0)] (fun t k => XS.iloadN X13.here hx rfl (hb hby d3_77) rfl k) ?_
      by_cases hc78_20 : p0 = x2
      · refine own_go T13 m 81 #[rv x0, iv 3, iv x2] [] (fun t k => XS.icmpNo X13.here hx rfl (hb hby d3_78) rfl (teq hc78_20).2 k) ?_
        refine own_go T13 m 82 #[rv x0, iv 3, iv x2] [(.int 0)] (fun t k => XS.iconst X13.here hx rfl (hb hby d3_81) k) ?_
        refine own_retI X13 hx hlk hret (hb hby d3_82) (by decide) (by decide) ?_
        exact ⟨by rw [own_lf43 p0 p1 p2 p3 p4 x2 hB34_2 hB57_14 hc78_20], e13, rfl⟩
      · refine own_go T13 m 83 #[rv x0, iv 3, iv x2] [] (fun t k => XS.icmpYes X13.here hx rfl (pc0 := 78) (pc' := 83) rfl (hb hby d3_78) rfl (feq hc78_20).2 (by decide) (by decide) k) ?_
        refine own_go T13 m 84 #[rv x0, iv 3, iv x2] [(.int (-1))] (fun t k => XS.iconst X13.here hx rfl (hb hby d3_83) k) ?_
        refine own_retI X13 hx hlk hret (hb hby d3_84) (by decide) (by decide) ?_
        exact ⟨by rw [own_lf44 p0 p1 p2 p3 p4 x2 hB34_2 hB57_14 hc78_20], e13, rfl⟩
theorem own_lf45 (p0 p1 p2 p3 p4 x2 : Int32) (hB11_2 : p0 = p1 ∧ p1 = p2 ∧ p2 = p3) (hc18_4 : p3 = x2) : own_ref4 p0 p1 p2 p3 x2 = (3 : Int32) := by
  unfold own_ref4
  grind
theorem own_lf46 (p0 p1 p2 p3 p4 x2 : Int32) (hB11_2 : p0 = p1 ∧ p1 = p2 ∧ p2 = p3) (hc18_4 : ¬ (p3 = x2)) (hB34_6 : p0 = p2 ∧ p1 = p3) (hc41_8 : p2 = x2) : own_ref4 p0 p1 p2 p3 x2 = (2 : Int32) := by
  unfold own_ref4
  grind
theorem own_lf47 (p0 p1 p2 p3 p4 x2 : Int32) (hB11_2 : p0 = p1 ∧ p1 = p2 ∧ p2 = p3) (hc18_4 : ¬ (p3 = x2)) (hB34_6 : p0 = p2 ∧ p1 = p3) (hc41_8 : ¬ (p2 = x2)) (hB57_10 : p0 = p3) (hc64_12 : p1 = x2) : own_ref4 p0 p1 p2 p3 x2 = (1 : Int32) := by
  unfold own_ref4
  grind
theorem own_lf48 (p0 p1 p2 p3 p4 x2 : Int32) (hB11_2 : p0 = p1 ∧ p1 = p2 ∧ p2 = p3) (hc18_4 : ¬ (p3 = x2)) (hB34_6 : p0 = p2 ∧ p1 = p3) (hc41_8 : ¬ (p2 = x2)) (hB57_10 : p0 = p3) (hc64_12 : ¬ (p1 = x2)) (hc78_14 : p0 = x2) : own_ref4 p0 p1 p2 p3 x2 = (0 : Int32) := by
  unfold own_ref4
  grind
theorem own_lf49 (p0 p1 p2 p3 p4 x2 : Int32) (hB11_2 : p0 = p1 ∧ p1 = p2 ∧ p2 = p3) (hc18_4 : ¬ (p3 = x2)) (hB34_6 : p0 = p2 ∧ p1 = p3) (hc41_8 : ¬ (p2 = x2)) (hB57_10 : p0 = p3) (hc64_12 : ¬ (p1 = x2)) (hc78_14 : ¬ (p0 = x2)) : own_ref4 p0 p1 p2 p3 x2 = (-1 : Int32) := by
  unfold own_ref4
  grind
theorem own_lf50 (p0 p1 p2 p3 p4 x2 : Int32) (hB11_2 : p0 = p1 ∧ p1 = p2 ∧ p2 = p3) (hc18_4 : ¬ (p3 = x2)) (hB34_6 : p0 = p2 ∧ p1 = p3) (hc41_8 : ¬ (p2 = x2)) (hB57_10 : ¬ (p0 = p3)) (hc78_16 : p0 = x2) : own_ref4 p0 p1 p2 p3 x2 = (0 : Int32) := by
  unfold own_ref4
  grind
theorem own_lf51 (p0 p1 p2 p3 p4 x2 : Int32) (hB11_2 : p0 = p1 ∧ p1 = p2 ∧ p2 = p3) (hc18_4 : ¬ (p3 = x2)) (hB34_6 : p0 = p2 ∧ p1 = p3) (hc41_8 : ¬ (p2 = x2)) (hB57_10 : ¬ (p0 = p3)) (hc78_16 : ¬ (p0 = x2)) : own_ref4 p0 p1 p2 p3 x2 = (-1 : Int32) := by
  unfold own_ref4
  grind
theorem own_lf52 (p0 p1 p2 p3 p4 x2 : Int32) (hB11_2 : p0 = p1 ∧ p1 = p2 ∧ p2 = p3) (hc18_4 : ¬ (p3 = x2)) (hB34_6 : ¬ (p0 = p2 ∧ p1 = p3)) (hB57_18 : p0 = p3) (hc64_20 : p1 = x2) : own_ref4 p0 p1 p2 p3 x2 = (1 : Int32) := by
  unfold own_ref4
  grind
theorem own_lf53 (p0 p1 p2 p3 p4 x2 : Int32) (hB11_2 : p0 = p1 ∧ p1 = p2 ∧ p2 = p3) (hc18_4 : ¬ (p3 = x2)) (hB34_6 : ¬ (p0 = p2 ∧ p1 = p3)) (hB57_18 : p0 = p3) (hc64_20 : ¬ (p1 = x2)) (hc78_22 : p0 = x2) : own_ref4 p0 p1 p2 p3 x2 = (0 : Int32) := by
  unfold own_ref4
  grind
theorem own_lf54 (p0 p1 p2 p3 p4 x2 : Int32) (hB11_2 : p0 = p1 ∧ p1 = p2 ∧ p2 = p3) (hc18_4 : ¬ (p3 = x2)) (hB34_6 : ¬ (p0 = p2 ∧ p1 = p3)) (hB57_18 : p0 = p3) (hc64_20 : ¬ (p1 = x2)) (hc78_22 : ¬ (p0 = x2)) : own_ref4 p0 p1 p2 p3 x2 = (-1 : Int32) := by
  unfold own_ref4
  grind
theorem own_lf55 (p0 p1 p2 p3 p4 x2 : Int32) (hB11_2 : p0 = p1 ∧ p1 = p2 ∧ p2 = p3) (hc18_4 : ¬ (p3 = x2)) (hB34_6 : ¬ (p0 = p2 ∧ p1 = p3)) (hB57_18 : ¬ (p0 = p3)) (hc78_24 : p0 = x2) : own_ref4 p0 p1 p2 p3 x2 = (0 : Int32) := by
  unfold own_ref4
  grind
theorem own_lf56 (p0 p1 p2 p3 p4 x2 : Int32) (hB11_2 : p0 = p1 ∧ p1 = p2 ∧ p2 = p3) (hc18_4 : ¬ (p3 = x2)) (hB34_6 : ¬ (p0 = p2 ∧ p1 = p3)) (hB57_18 : ¬ (p0 = p3)) (hc78_24 : ¬ (p0 = x2)) : own_ref4 p0 p1 p2 p3 x2 = (-1 : Int32) := by
  unfold own_ref4
  grind
theorem own_lf57 (p0 p1 p2 p3 p4 x2 : Int32) (hB11_2 : ¬ (p0 = p1 ∧ p1 = p2 ∧ p2 = p3)) (hB34_26 : p0 = p2 ∧ p1 = p3) (hc41_28 : p2 = x2) : own_ref4 p0 p1 p2 p3 x2 = (2 : Int32) := by
  unfold own_ref4
  grind
theorem own_lf58 (p0 p1 p2 p3 p4 x2 : Int32) (hB11_2 : ¬ (p0 = p1 ∧ p1 = p2 ∧ p2 = p3)) (hB34_26 : p0 = p2 ∧ p1 = p3) (hc41_28 : ¬ (p2 = x2)) (hB57_30 : p0 = p3) (hc64_32 : p1 = x2) : own_ref4 p0 p1 p2 p3 x2 = (1 : Int32) := by
  unfold own_ref4
  grind
theorem own_lf59 (p0 p1 p2 p3 p4 x2 : Int32) (hB11_2 : ¬ (p0 = p1 ∧ p1 = p2 ∧ p2 = p3)) (hB34_26 : p0 = p2 ∧ p1 = p3) (hc41_28 : ¬ (p2 = x2)) (hB57_30 : p0 = p3) (hc64_32 : ¬ (p1 = x2)) (hc78_34 : p0 = x2) : own_ref4 p0 p1 p2 p3 x2 = (0 : Int32) := by
  unfold own_ref4
  grind
theorem own_lf60 (p0 p1 p2 p3 p4 x2 : Int32) (hB11_2 : ¬ (p0 = p1 ∧ p1 = p2 ∧ p2 = p3)) (hB34_26 : p0 = p2 ∧ p1 = p3) (hc41_28 : ¬ (p2 = x2)) (hB57_30 : p0 = p3) (hc64_32 : ¬ (p1 = x2)) (hc78_34 : ¬ (p0 = x2)) : own_ref4 p0 p1 p2 p3 x2 = (-1 : Int32) := by
  unfold own_ref4
  grind
theorem own_lf61 (p0 p1 p2 p3 p4 x2 : Int32) (hB11_2 : ¬ (p0 = p1 ∧ p1 = p2 ∧ p2 = p3)) (hB34_26 : p0 = p2 ∧ p1 = p3) (hc41_28 : ¬ (p2 = x2)) (hB57_30 : ¬ (p0 = p3)) (hc78_36 : p0 = x2) : own_ref4 p0 p1 p2 p3 x2 = (0 : Int32) := by
  unfold own_ref4
  grind
theorem own_lf62 (p0 p1 p2 p3 p4 x2 : Int32) (hB11_2 : ¬ (p0 = p1 ∧ p1 = p2 ∧ p2 = p3)) (hB34_26 : p0 = p2 ∧ p1 = p3) (hc41_28 : ¬ (p2 = x2)) (hB57_30 : ¬ (p0 = p3)) (hc78_36 : ¬ (p0 = x2)) : own_ref4 p0 p1 p2 p3 x2 = (-1 : Int32) := by
  unfold own_ref4
  grind
theorem own_lf63 (p0 p1 p2 p3 p4 x2 : Int32) (hB11_2 : ¬ (p0 = p1 ∧ p1 = p2 ∧ p2 = p3)) (hB34_26 : ¬ (p0 = p2 ∧ p1 = p3)) (hB57_38 : p0 = p3) (hc64_40 : p1 = x2) : own_ref4 p0 p1 p2 p3 x2 = (1 : Int32) := by
  unfold own_ref4
  grind
theorem own_lf64 (p0 p1 p2 p3 p4 x2 : Int32) (hB11_2 : ¬ (p0 = p1 ∧ p1 = p2 ∧ p2 = p3)) (hB34_26 : ¬ (p0 = p2 ∧ p1 = p3)) (hB57_38 : p0 = p3) (hc64_40 : ¬ (p1 = x2)) (hc78_42 : p0 = x2) : own_ref4 p0 p1 p2 p3 x2 = (0 : Int32) := by
  unfold own_ref4
  grind
theorem own_lf65 (p0 p1 p2 p3 p4 x2 : Int32) (hB11_2 : ¬ (p0 = p1 ∧ p1 = p2 ∧ p2 = p3)) (hB34_26 : ¬ (p0 = p2 ∧ p1 = p3)) (hB57_38 : p0 = p3) (hc64_40 : ¬ (p1 = x2)) (hc78_42 : ¬ (p0 = x2)) : own_ref4 p0 p1 p2 p3 x2 = (-1 : Int32) := by
  unfold own_ref4
  grind
theorem own_lf66 (p0 p1 p2 p3 p4 x2 : Int32) (hB11_2 : ¬ (p0 = p1 ∧ p1 = p2 ∧ p2 = p3)) (hB34_26 : ¬ (p0 = p2 ∧ p1 = p3)) (hB57_38 : ¬ (p0 = p3)) (hc78_44 : p0 = x2) : own_ref4 p0 p1 p2 p3 x2 = (0 : Int32) := by
  unfold own_ref4
  grind
theorem own_lf67 (p0 p1 p2 p3 p4 x2 : Int32) (hB11_2 : ¬ (p0 = p1 ∧ p1 = p2 ∧ p2 = p3)) (hB34_26 : ¬ (p0 = p2 ∧ p1 = p3)) (hB57_38 : ¬ (p0 = p3)) (hc78_44 : ¬ (p0 = x2)) : own_ref4 p0 p1 p2 p3 x2 = (-1 : Int32) := by
  unfold own_ref4
  grind
theorem ef_rmR4 (m : MethodId) (q0 : Addr) (q1 : Int32) (q2 : Int32) : entryFrame m #[(.ref q0), (.int q1), (.int q2)] 3 = mkF m 0 #[rv q0, iv q1, iv q2] [] := by first | (simp [entryFrame, mkF, argsToLocals, Value.category]; done) | rfl
set_option maxRecDepth 65536 in
set_option maxHeartbeats 40000000 in
theorem rmR4 (l : Launch) (Z : State) (a0 : Array Value) (hw : ∀ d ∈ tables_1, d.before a0 Z = true) (ws : List Jvm.Cond) (x0 : Addr) (x2 : Int32) (kp : ClassId) (p0 p1 p2 p3 p4 : Int32) (h0 : Heap) (Vp : Arv Z h0 x0 kp .int 5 [(.int p0), (.int p1), (.int p2), (.int p3), (.int p4)] (.int 0)) :
    OwnC l Z (⟨"com/example/substring_search/substringsearch/PrefixTableFallBackPinLaw", "ref", "([III)I"⟩ : MethodName) method_5_code 3 (some .int) ws ({ frames := 1, cells := 0, slots := 0, locals := 14 } : Room) #[(.ref x0), (.int 4), (.int x2)] h0 (OwnPure (.int (own_ref4 p0 p1 p2 p3 x2)) h0) := by
  refine own_entry pf_com_example_substring_search_substringsearch_PrefixTableFallBackPinLaw_ref___III_I (fun m => ef_rmR4 m x0 (4 : Int32) x2) ?_
  intro p e s m below meth c T0 X0 hC e0
  obtain ⟨hx, hby, hml, hown, hnm, hret, hlk, hZ⟩ := hC
  refine own_go T0 m 1 #[rv x0, iv 4, iv x2] [(.int 4)] (fun t k => XS.iloadN X0.here hx rfl (hb hby d3_0) rfl k) ?_
  refine own_go T0 m 2 #[rv x0, iv 4, iv x2] [(.int 4), (.int 4)] (fun t k => XS.iconst X0.here hx rfl (hb hby d3_1) k) ?_
  refine own_go T0 m 5 #[rv x0, iv 4, iv x2] [] (fun t k => XS.icmpNo X0.here hx rfl (hb hby d3_2) rfl (flt (by decide)).1 k) ?_
  refine own_go T0 m 6 #[rv x0, iv 4, iv x2] [(.ref x0)] (fun t k => XS.aloadN X0.here hx rfl (hb hby d3_5) rfl rfl k) ?_
  refine own_go T0 m 7 #[rv x0, iv 4, iv x2] [(.int 4), (.ref x0)] (fun t k => XS.iloadN X0.here hx rfl (hb hby d3_6) rfl k) ?_
  refine own_go T0 m 8 #[rv x0, iv 4, iv x2] [(.int 3), (.int 4), (.ref x0)] (fun t k => XS.iconst X0.here hx rfl (hb hby d3_7) k) ?_
  obtain ⟨_, T1, L1, X1, ⟨rfl, e1, rfl⟩, st1⟩ := own_static X0 hx hZ (y := (⟨"com/example/substring_search/substringsearch/PrefixTableFallBackPinLaw", "border", "([III)Z"⟩ : MethodName)) hown (own_w hw 5 rfl) (own_w hw 6 rfl) (own_w hw 3 rfl) (own_w hw 7 rfl) (by decide) (rmB43 l Z a0 hw [] x0 kp p0 p1 p2 p3 p4 h0 Vp) e0 0 (argsL := [(.ref x0), (.int 4), (.int 3)]) (rest := []) (Ls := #[rv x0, iv 4, iv x2]) (by rw [hml]; rfl) (lenOf pd___III_Z rfl) rfl rfl (Nat.le_of_eq rfl) (hb hby d3_8) (by decide) (by decide) (by decide) (by decide)
  replace X1 := own_nil X1
  refine own_go T1 m 11 #[rv x0, iv 4, iv x2] [(.int (if p0 = p1 ∧ p1 = p2 ∧ p2 = p3 then 1 else 0))] (st1) ?_
  by_cases hB11_2 : p0 = p1 ∧ p1 = p2 ∧ p2 = p3
  · rw [if_pos hB11_2]
    refine own_go T1 m 14 #[rv x0, iv 4, iv x2] [] (fun t k => XS.ifNo X1.here hx rfl (hb hby d3_11) rfl ((if0 _ _).trans (feq (by decide)).1) k) ?_
    refine own_go T1 m 15 #[rv x0, iv 4, iv x2] [(.ref x0)] (fun t k => XS.aloadN X1.here hx rfl (hb hby d3_14) rfl rfl k) ?_
    refine own_go T1 m 16 #[rv x0, iv 4, iv x2] [(.int 3), (.ref x0)] (fun t k => XS.iconst X1.here hx rfl (hb hby d3_15) k) ?_
    refine own_go T1 m 17 #[rv x0, iv 4, iv x2] [(.int p3)] (own_iaload X1 hx hZ e1 Vp (j := (3 : Int32)) ⟨by decide, by decide⟩ rfl (hb hby d3_16)) ?_
    refine own_go T1 m 18 #[rv x0, iv 4, iv x2] [(.int x2), (.int p3)] (fun t k => XS.iloadN X1.here hx rfl (hb hby d3_17) rfl k) ?_
    by_cases hc18_4 : p3 = x2
    · refine own_go T1 m 21 #[rv x0, iv 4, iv x2] [] (fun t k => XS.icmpNo X1.here hx rfl (hb hby d3_18) rfl (teq hc18_4).2 k) ?_
      refine own_go T1 m 22 #[rv x0, iv 4, iv x2] [(.int 3)] (fun t k => XS.iconst X1.here hx rfl (hb hby d3_21) k) ?_
      refine own_retI X1 hx hlk hret (hb hby d3_22) (by decide) (by decide) ?_
      exact ⟨by rw [own_lf45 p0 p1 p2 p3 p4 x2 hB11_2 hc18_4], e1, rfl⟩
    · refine own_go T1 m 23 #[rv x0, iv 4, iv x2] [] (fun t k => XS.icmpYes X1.here hx rfl (pc0 := 18) (pc' := 23) rfl (hb hby d3_18) rfl (feq hc18_4).2 (by decide) (by decide) k) ?_
      refine own_go T1 m 24 #[rv x0, iv 4, iv x2] [(.int 4)] (fun t k => XS.iloadN X1.here hx rfl (hb hby d3_23) rfl k) ?_
      refine own_go T1 m 25 #[rv x0, iv 4, iv x2] [(.int 3), (.int 4)] (fun t k => XS.iconst X1.here hx rfl (hb hby d3_24) k) ?_
      refine own_go T1 m 28 #[rv x0, iv 4, iv x2] [] (fun t k => XS.icmpNo X1.here hx rfl (hb hby d3_25) rfl (flt (by decide)).1 k) ?_
      refine own_go T1 m 29 #[rv x0, iv 4, iv x2] [(.ref x0)] (fun t k => XS.aloadN X1.here hx rfl (hb hby d3_28) rfl rfl k) ?_
      refine own_go T1 m 30 #[rv x0, iv 4, iv x2] [(.int 4), (.ref x0)] (fun t k => XS.iloadN X1.here hx rfl (hb hby d3_29) rfl k) ?_
      refine own_go T1 m 31 #[rv x0, iv 4, iv x2] [(.int 2), (.int 4), (.ref x0)] (fun t k => XS.iconst X1.here hx rfl (hb hby d3_30) k) ?_
      obtain ⟨_, T5, L5, X5, ⟨rfl, e5, rfl⟩, st5⟩ := own_static X1 hx hZ (y := (⟨"com/example/substring_search/substringsearch/PrefixTableFallBackPinLaw", "border", "([III)Z"⟩ : MethodName)) hown (own_w hw 5 rfl) (own_w hw 6 rfl) (own_w hw 3 rfl) (own_w hw 7 rfl) (by decide) (rmB42 l Z a0 hw [] x0 kp p0 p1 p2 p3 p4 h0 Vp) e1 0 (argsL := [(.ref x0), (.int 4), (.int 2)]) (rest := []) (Ls := #[rv x0, iv 4, iv x2]) (by rw [hml]; rfl) (lenOf pd___III_Z rfl) rfl rfl (Nat.le_of_eq rfl) (hb hby d3_31) (by decide) (by decide) (by decide) (by decide)
      replace X5 := own_nil X5
      refine own_go T5 m 34 #[rv x0, iv 4, iv x2] [(.int (if p0 = p2 ∧ p1 = p3 then 1 else 0))] (st5) ?_
      by_cases hB34_6 : p0 = p2 ∧ p1 = p3
      · rw [if_pos hB34_6]
        refine own_go T5 m 37 #[rv x0, iv 4, iv x2] [] (fun t k => XS.ifNo X5.here hx rfl (hb hby d3_34) rfl ((if0 _ _).trans (feq (by decide)).1) k) ?_
        refine own_go T5 m 38 #[rv x0, iv 4, iv x2] [(.ref x0)] (fun t k => XS.aloadN X5.here hx rfl (hb hby d3_37) rfl rfl k) ?_
        refine own_go T5 m 39 #[rv x0, iv 4, iv x2] [(.int 2), (.ref x0)] (fun t k => XS.iconst X5.here hx rfl (hb hby d3_38) k) ?_
        refine own_go T5 m 40 #[rv x0, iv 4, iv x2] [(.int p2)] (own_iaload X5 hx hZ e5 Vp (j := (2 : Int32)) ⟨by decide, by decide⟩ rfl (hb hby d3_39)) ?_
        refine own_go T5 m 41 #[rv x0, iv 4, iv x2] [(.int x2), (.int p2)] (fun t k => XS.iloadN X5.here hx rfl (hb hby d3_40) rfl k) ?_
        by_cases hc41_8 : p2 = x2
        · refine own_go T5 m 44 #[rv x0, iv 4, iv x2] [] (fun t k => XS.icmpNo X5.here hx rfl (hb hby d3_41) rfl (teq hc41_8).2 k) ?_
          refine own_go T5 m 45 #[rv x0, iv 4, iv x2] [(.int 2)] (fun t k => XS.iconst X5.here hx rfl (hb hby d3_44) k) ?_
          refine own_retI X5 hx hlk hret (hb hby d3_45) (by decide) (by decide) ?_
          exact ⟨by rw [own_lf46 p0 p1 p2 p3 p4 x2 hB11_2 hc18_4 hB34_6 hc41_8], e5, rfl⟩
        · refine own_go T5 m 46 #[rv x0, iv 4, iv x2] [] (fun t k => XS.icmpYes X5.here hx rfl (pc0 := 41) (pc' := 46) rfl (hb hby d3_41) rfl (feq hc41_8).2 (by decide) (by decide) k) ?_
          refine own_go T5 m 47 #[rv x0, iv 4, iv x2] [(.int 4)] (fun t k => XS.iloadN X5.here hx rfl (hb hby d3_46) rfl k) ?_
          refine own_go T5 m 48 #[rv x0, iv 4, iv x2] [(.int 2), (.int 4)] (fun t k => XS.iconst X5.here hx rfl (hb hby d3_47) k) ?_
          refine own_go T5 m 51 #[rv x0, iv 4, iv x2] [] (fun t k => XS.icmpNo X5.here hx rfl (hb hby d3_48) rfl (flt (by decide)).1 k) ?_
          refine own_go T5 m 52 #[rv x0, iv 4, iv x2] [(.ref x0)] (fun t k => XS.aloadN X5.here hx rfl (hb hby d3_51) rfl rfl k) ?_
          refine own_go T5 m 53 #[rv x0, iv 4, iv x2] [(.int 4), (.ref x0)] (fun t k => XS.iloadN X5.here hx rfl (hb hby d3_52) rfl k) ?_
          refine own_go T5 m 54 #[rv x0, iv 4, iv x2] [(.int 1), (.int 4), (.ref x0)] (fun t k => XS.iconst X5.here hx rfl (hb hby d3_53) k) ?_
          obtain ⟨_, T9, L9, X9, ⟨rfl, e9, rfl⟩, st9⟩ := own_static X5 hx hZ (y := (⟨"com/example/substring_search/substringsearch/PrefixTableFallBackPinLaw", "border", "([III)Z"⟩ : MethodName)) hown (own_w hw 5 rfl) (own_w hw 6 rfl) (own_w hw 3 rfl) (own_w hw 7 rfl) (by decide) (rmB41 l Z a0 hw [] x0 kp p0 p1 p2 p3 p4 h0 Vp) e5 0 (argsL := [(.ref x0), (.int 4), (.int 1)]) (rest := []) (Ls := #[rv x0, iv 4, iv x2]) (by rw [hml]; rfl) (lenOf pd___III_Z rfl) rfl rfl (Nat.le_of_eq rfl) (hb hby d3_54) (by decide) (by decide) (by decide) (by decide)
          replace X9 := own_nil X9
          refine own_go T9 m 57 #[rv x0, iv 4, iv x2] [(.int (if p0 = p3 then 1 else 0))] (st9) ?_
          by_cases hB57_10 : p0 = p3
          · rw [if_pos hB57_10]
            refine own_go T9 m 60 #[rv x0, iv 4, iv x2] [] (fun t k => XS.ifNo X9.here hx rfl (hb hby d3_57) rfl ((if0 _ _).trans (feq (by decide)).1) k) ?_
            refine own_go T9 m 61 #[rv x0, iv 4, iv x2] [(.ref x0)] (fun t k => XS.aloadN X9.here hx rfl (hb hby d3_60) rfl rfl k) ?_
            refine own_go T9 m 62 #[rv x0, iv 4, iv x2] [(.int 1), (.ref x0)] (fun t k => XS.iconst X9.here hx rfl (hb hby d3_61) k) ?_
            refine own_go T9 m 63 #[rv x0, iv 4, iv x2] [(.int p1)] (own_iaload X9 hx hZ e9 Vp (j := (1 : Int32)) ⟨by decide, by decide⟩ rfl (hb hby d3_62)) ?_
            refine own_go T9 m 64 #[rv x0, iv 4, iv x2] [(.int x2), (.int p1)] (fun t k => XS.iloadN X9.here hx rfl (hb hby d3_63) rfl k) ?_
            by_cases hc64_12 : p1 = x2
            · refine own_go T9 m 67 #[rv x0, iv 4, iv x2] [] (fun t k => XS.icmpNo X9.here hx rfl (hb hby d3_64) rfl (teq hc64_12).2 k) ?_
              refine own_go T9 m 68 #[rv x0, iv 4, iv x2] [(.int 1)] (fun t k => XS.iconst X9.here hx rfl (hb hby d3_67) k) ?_
              refine own_retI X9 hx hlk hret (hb hby d3_68) (by decide) (by decide) ?_
              exact ⟨by rw [own_lf47 p0 p1 p2 p3 p4 x2 hB11_2 hc18_4 hB34_6 hc41_8 hB57_10 hc64_12], e9, rfl⟩
            · refine own_go T9 m 69 #[rv x0, iv 4, iv x2] [] (fun t k => XS.icmpYes X9.here hx rfl (pc0 := 64) (pc' := 69) rfl (hb hby d3_64) rfl (feq hc64_12).2 (by decide) (by decide) k) ?_
              refine own_go T9 m 70 #[rv x0, iv 4, iv x2] [(.int 4)] (fun t k => XS.iloadN X9.here hx rfl (hb hby d3_69) rfl k) ?_
              refine own_go T9 m 71 #[rv x0, iv 4, iv x2] [(.int 1), (.int 4)] (fun t k => XS.iconst X9.here hx rfl (hb hby d3_70) k) ?_
              refine own_go T9 m 74 #[rv x0, iv 4, iv x2] [] (fun t k => XS.icmpNo X9.here hx rfl (hb hby d3_71) rfl (flt (by decide)).1 k) ?_
              refine own_go T9 m 75 #[rv x0, iv 4, iv x2] [(.ref x0)] (fun t k => XS.aloadN X9.here hx rfl (hb hby d3_74) rfl rfl k) ?_
              refine own_go T9 m 76 #[rv x0, iv 4, iv x2] [(.int 0), (.ref x0)] (fun t k => XS.iconst X9.here hx rfl (hb hby d3_75) k) ?_
              refine own_go T9 m 77 #[rv x0, iv 4, iv x2] [(.int p0)] (own_iaload X9 hx hZ e9 Vp (j := (0 : Int32)) ⟨by decide, by decide⟩ rfl (hb hby d3_76)) ?_
              refine own_go T9 m 78 #[rv x0, iv 4, iv x2] [(.int x2), (.int p0)] (fun t k => XS.iloadN X9.here hx rfl (hb hby d3_77) rfl k) ?_
              by_cases hc78_14 : p0 = x2
              · refine own_go T9 m 81 #[rv x0, iv 4, iv x2] [] (fun t k => XS.icmpNo X9.here hx rfl (hb hby d3_78) rfl (teq hc78_14).2 k) ?_
                refine own_go T9 m 82 #[rv x0, iv 4, iv x2] [(.int 0)] (fun t k => XS.iconst X9.here hx rfl (hb hby d3_81) k) ?_
                refine own_retI X9 hx hlk hret (hb hby d3_82) (by decide) (by decide) ?_
                exact ⟨by rw [own_lf48 p0 p1 p2 p3 p4 x2 hB11_2 hc18_4 hB34_6 hc41_8 hB57_10 hc64_12 hc78_14], e9, rfl⟩
              · refine own_go T9 m 83 #[rv x0, iv 4, iv x2] [] (fun t k => XS.icmpYes X9.here hx rfl (pc0 := 78) (pc' := 83) rfl (hb hby d3_78) rfl (feq hc78_14).2 (by decide) (by decide) k) ?_
                refine own_go T9 m 84 #[rv x0, iv 4, iv x2] [(.int (-1))] (fun t k => XS.iconst X9.here hx rfl (hb hby d3_83) k) ?_
                refine own_retI X9 hx hlk hret (hb hby d3_84) (by decide) (by decide) ?_
                exact ⟨by rw [own_lf49 p0 p1 p2 p3 p4 x2 hB11_2 hc18_4 hB34_6 hc41_8 hB57_10 hc64_12 hc78_14], e9, rfl⟩
          · rw [if_neg hB57_10]
            refine own_go T9 m 69 #[rv x0, iv 4, iv x2] [] (fun t k => XS.ifYes X9.here hx rfl (pc0 := 57) (pc' := 69) rfl (hb hby d3_57) rfl ((if0 _ _).trans (teq (by decide)).1) (by decide) (by decide) k) ?_
            refine own_go T9 m 70 #[rv x0, iv 4, iv x2] [(.int 4)] (fun t k => XS.iloadN X9.here hx rfl (hb hby d3_69) rfl k) ?_
            refine own_go T9 m 71 #[rv x0, iv 4, iv x2] [(.int 1), (.int 4)] (fun t k => XS.iconst X9.here hx rfl (hb hby d3_70) k) ?_
            refine own_go T9 m 74 #[rv x0, iv 4, iv x2] [] (fun t k => XS.icmpNo X9.here hx rfl (hb hby d3_71) rfl (flt (by decide)).1 k) ?_
            refine own_go T9 m 75 #[rv x0, iv 4, iv x2] [(.ref x0)] (fun t k => XS.aloadN X9.here hx rfl (hb hby d3_74) rfl rfl k) ?_
            refine own_go T9 m 76 #[rv x0, iv 4, iv x2] [(.int 0), (.ref x0)] (fun t k => XS.iconst X9.here hx rfl (hb hby d3_75) k) ?_
            refine own_go T9 m 77 #[rv x0, iv 4, iv x2] [(.int p0)] (own_iaload X9 hx hZ e9 Vp (j := (0 : Int32)) ⟨by decide, by decide⟩ rfl (hb hby d3_76)) ?_
            refine own_go T9 m 78 #[rv x0, iv 4, iv x2] [(.int x2), (.int p0)] (fun t k => XS.iloadN X9.here hx rfl (hb hby d3_77) rfl k) ?_
            by_cases hc78_16 : p0 = x2
            · refine own_go T9 m 81 #[rv x0, iv 4, iv x2] [] (fun t k => XS.icmpNo X9.here hx rfl (hb hby d3_78) rfl (teq hc78_16).2 k) ?_
              refine own_go T9 m 82 #[rv x0, iv 4, iv x2] [(.int 0)] (fun t k => XS.iconst X9.here hx rfl (hb hby d3_81) k) ?_
              refine own_retI X9 hx hlk hret (hb hby d3_82) (by decide) (by decide) ?_
              exact ⟨by rw [own_lf50 p0 p1 p2 p3 p4 x2 hB11_2 hc18_4 hB34_6 hc41_8 hB57_10 hc78_16], e9, rfl⟩
            · refine own_go T9 m 83 #[rv x0, iv 4, iv x2] [] (fun t k => XS.icmpYes X9.here hx rfl (pc0 := 78) (pc' := 83) rfl (hb hby d3_78) rfl (feq hc78_16).2 (by decide) (by decide) k) ?_
              refine own_go T9 m 84 #[rv x0, iv 4, iv x2] [(.int (-1))] (fun t k => XS.iconst X9.here hx rfl (hb hby d3_83) k) ?_
              refine own_retI X9 hx hlk hret (hb hby d3_84) (by decide) (by decide) ?_
              exact ⟨by rw [own_lf51 p0 p1 p2 p3 p4 x2 hB11_2 hc18_4 hB34_6 hc41_8 hB57_10 hc78_16], e9, rfl⟩
      · rw [if_neg hB34_6]
        refine own_go T5 m 46 #[rv x0, iv 4, iv x2] [] (fun t k => XS.ifYes X5.here hx rfl (pc0 := 34) (pc' := 46) rfl (hb hby d3_34) rfl ((if0 _ _).trans (teq (by decide)).1) (by decide) (by decide) k) ?_
        refine own_go T5 m 47 #[rv x0, iv 4, iv x2] [(.int 4)] (fun t k => XS.iloadN X5.here hx rfl (hb hby d3_46) rfl k) ?_
        refine own_go T5 m 48 #[rv x0, iv 4, iv x2] [(.int 2), (.int 4)] (fun t k => XS.iconst X5.here hx rfl (hb hby d3_47) k) ?_
        refine own_go T5 m 51 #[rv x0, iv 4, iv x2] [] (fun t k => XS.icmpNo X5.here hx rfl (hb hby d3_48) rfl (flt (by decide)).1 k) ?_
        refine own_go T5 m 52 #[rv x0, iv 4, iv x2] [(.ref x0)] (fun t k => XS.aloadN X5.here hx rfl (hb hby d3_51) rfl rfl k) ?_
        refine own_go T5 m 53 #[rv x0, iv 4, iv x2] [(.int 4), (.ref x0)] (fun t k => XS.iloadN X5.here hx rfl (hb hby d3_52) rfl k) ?_
        refine own_go T5 m 54 #[rv x0, iv 4, iv x2] [(.int 1), (.int 4), (.ref x0)] (fun t k => XS.iconst X5.here hx rfl (hb hby d3_53) k) ?_
        obtain ⟨_, T17, L17, X17, ⟨rfl, e17, rfl⟩, st17⟩ := own_static X5 hx hZ (y := (⟨"com/example/substring_search/substringsearch/PrefixTableFallBackPinLaw", "border", "([III)Z"⟩ : MethodName)) hown (own_w hw 5 rfl) (own_w hw 6 rfl) (own_w hw 3 rfl) (own_w hw 7 rfl) (by decide) (rmB41 l Z a0 hw [] x0 kp p0 p1 p2 p3 p4 h0 Vp) e5 0 (argsL := [(.ref x0), (.int 4), (.int 1)]) (rest := []) (Ls := #[rv x0, iv 4, iv x2]) (by rw [hml]; rfl) (lenOf pd___III_Z rfl) rfl rfl (Nat.le_of_eq rfl) (hb hby d3_54) (by decide) (by decide) (by decide) (by decide)
        replace X17 := own_nil X17
        refine own_go T17 m 57 #[rv x0, iv 4, iv x2] [(.int (if p0 = p3 then 1 else 0))] (st17) ?_
        by_cases hB57_18 : p0 = p3
        · rw [if_pos hB57_18]
          refine own_go T17 m 60 #[rv x0, iv 4, iv x2] [] (fun t k => XS.ifNo X17.here hx rfl (hb hby d3_57) rfl ((if0 _ _).trans (feq (by decide)).1) k) ?_
          refine own_go T17 m 61 #[rv x0, iv 4, iv x2] [(.ref x0)] (fun t k => XS.aloadN X17.here hx rfl (hb hby d3_60) rfl rfl k) ?_
          refine own_go T17 m 62 #[rv x0, iv 4, iv x2] [(.int 1), (.ref x0)] (fun t k => XS.iconst X17.here hx rfl (hb hby d3_61) k) ?_
          refine own_go T17 m 63 #[rv x0, iv 4, iv x2] [(.int p1)] (own_iaload X17 hx hZ e17 Vp (j := (1 : Int32)) ⟨by decide, by decide⟩ rfl (hb hby d3_62)) ?_
          refine own_go T17 m 64 #[rv x0, iv 4, iv x2] [(.int x2), (.int p1)] (fun t k => XS.iloadN X17.here hx rfl (hb hby d3_63) rfl k) ?_
          by_cases hc64_20 : p1 = x2
          · refine own_go T17 m 67 #[rv x0, iv 4, iv x2] [] (fun t k => XS.icmpNo X17.here hx rfl (hb hby d3_64) rfl (teq hc64_20).2 k) ?_
            refine own_go T17 m 68 #[rv x0, iv 4, iv x2] [(.int 1)] (fun t k => XS.iconst X17.here hx rfl (hb hby d3_67) k) ?_
            refine own_retI X17 hx hlk hret (hb hby d3_68) (by decide) (by decide) ?_
            exact ⟨by rw [own_lf52 p0 p1 p2 p3 p4 x2 hB11_2 hc18_4 hB34_6 hB57_18 hc64_20], e17, rfl⟩
          · refine own_go T17 m 69 #[rv x0, iv 4, iv x2] [] (fun t k => XS.icmpYes X17.here hx rfl (pc0 := 64) (pc' := 69) rfl (hb hby d3_64) rfl (feq hc64_20).2 (by decide) (by decide) k) ?_
            refine own_go T17 m 70 #[rv x0, iv 4, iv x2] [(.int 4)] (fun t k => XS.iloadN X17.here hx rfl (hb hby d3_69) rfl k) ?_
            refine own_go T17 m 71 #[rv x0, iv 4, iv x2] [(.int 1), (.int 4)] (fun t k => XS.iconst X17.here hx rfl (hb hby d3_70) k) ?_
            refine own_go T17 m 74 #[rv x0, iv 4, iv x2] [] (fun t k => XS.icmpNo X17.here hx rfl (hb hby d3_71) rfl (flt (by decide)).1 k) ?_
            refine own_go T17 m 75 #[rv x0, iv 4, iv x2] [(.ref x0)] (fun t k => XS.aloadN X17.here hx rfl (hb hby d3_74) rfl rfl k) ?_
            refine own_go T17 m 76 #[rv x0, iv 4, iv x2] [(.int 0), (.ref x0)] (fun t k => XS.iconst X17.here hx rfl (hb hby d3_75) k) ?_
            refine own_go T17 m 77 #[rv x0, iv 4, iv x2] [(.int p0)] (own_iaload X17 hx hZ e17 Vp (j := (0 : Int32)) ⟨by decide, by decide⟩ rfl (hb hby d3_76)) ?_
            refine own_go T17 m 78 #[rv x0, iv 4, iv x2] [(.int x2), (.int p0)] (fun t k => XS.iloadN X17.here hx rfl (hb hby d3_77) rfl k) ?_
            by_cases hc78_22 : p0 = x2
            · refine own_go T17 m 81 #[rv x0, iv 4, iv x2] [] (fun t k => XS.icmpNo X17.here hx rfl (hb hby d3_78) rfl (teq hc78_22).2 k) ?_
              refine own_go T17 m 82 #[rv x0, iv 4, iv x2] [(.int 0)] (fun t k => XS.iconst X17.here hx rfl (hb hby d3_81) k) ?_
              refine own_retI X17 hx hlk hret (hb hby d3_82) (by decide) (by decide) ?_
              exact ⟨by rw [own_lf53 p0 p1 p2 p3 p4 x2 hB11_2 hc18_4 hB34_6 hB57_18 hc64_20 hc78_22], e17, rfl⟩
            · refine own_go T17 m 83 #[rv x0, iv 4, iv x2] [] (fun t k => XS.icmpYes X17.here hx rfl (pc0 := 78) (pc' := 83) rfl (hb hby d3_78) rfl (feq hc78_22).2 (by decide) (by decide) k) ?_
              refine own_go T17 m 84 #[rv x0, iv 4, iv x2] [(.int (-1))] (fun t k => XS.iconst X17.here hx rfl (hb hby d3_83) k) ?_
              refine own_retI X17 hx hlk hret (hb hby d3_84) (by decide) (by decide) ?_
              exact ⟨by rw [own_lf54 p0 p1 p2 p3 p4 x2 hB11_2 hc18_4 hB34_6 hB57_18 hc64_20 hc78_22], e17, rfl⟩
        · rw [if_neg hB57_18]
          refine own_go T17 m 69 #[rv x0, iv 4, iv x2] [] (fun t k => XS.ifYes X17.here hx rfl (pc0 := 57) (pc' := 69) rfl (hb hby d3_57) rfl ((if0 _ _).trans (teq (by decide)).1) (by decide) (by decide) k) ?_
          refine own_go T17 m 70 #[rv x0, iv 4, iv x2] [(.int 4)] (fun t k => XS.iloadN X17.here hx rfl (hb hby d3_69) rfl k) ?_
          refine own_go T17 m 71 #[rv x0, iv 4, iv x2] [(.int 1), (.int 4)] (fun t k => XS.iconst X17.here hx rfl (hb hby d3_70) k) ?_
          refine own_go T17 m 74 #[rv x0, iv 4, iv x2] [] (fun t k => XS.icmpNo X17.here hx rfl (hb hby d3_71) rfl (flt (by decide)).1 k) ?_
          refine own_go T17 m 75 #[rv x0, iv 4, iv x2] [(.ref x0)] (fun t k => XS.aloadN X17.here hx rfl (hb hby d3_74) rfl rfl k) ?_
          refine own_go T17 m 76 #[rv x0, iv 4, iv x2] [(.int 0), (.ref x0)] (fun t k => XS.iconst X17.here hx rfl (hb hby d3_75) k) ?_
          refine own_go T17 m 77 #[rv x0, iv 4, iv x2] [(.int p0)] (own_iaload X17 hx hZ e17 Vp (j := (0 : Int32)) ⟨by decide, by decide⟩ rfl (hb hby d3_76)) ?_
          refine own_go T17 m 78 #[rv x0, iv 4, iv x2] [(.int x2), (.int p0)] (fun t k => XS.iloadN X17.here hx rfl (hb hby d3_77) rfl k) ?_
          by_cases hc78_24 : p0 = x2
          · refine own_go T17 m 81 #[rv x0, iv 4, iv x2] [] (fun t k => XS.icmpNo X17.here hx rfl (hb hby d3_78) rfl (teq hc78_24).2 k) ?_
            refine own_go T17 m 82 #[rv x0, iv 4, iv x2] [(.int 0)] (fun t k => XS.iconst X17.here hx rfl (hb hby d3_81) k) ?_
            refine own_retI X17 hx hlk hret (hb hby d3_82) (by decide) (by decide) ?_
            exact ⟨by rw [own_lf55 p0 p1 p2 p3 p4 x2 hB11_2 hc18_4 hB34_6 hB57_18 hc78_24], e17, rfl⟩
          · refine own_go T17 m 83 #[rv x0, iv 4, iv x2] [] (fun t k => XS.icmpYes X17.here hx rfl (pc0 := 78) (pc' := 83) rfl (hb hby d3_78) rfl (feq hc78_24).2 (by decide) (by decide) k) ?_
            refine own_go T17 m 84 #[rv x0, iv 4, iv x2] [(.int (-1))] (fun t k => XS.iconst X17.here hx rfl (hb hby d3_83) k) ?_
            refine own_retI X17 hx hlk hret (hb hby d3_84) (by decide) (by decide) ?_
            exact ⟨by rw [own_lf56 p0 p1 p2 p3 p4 x2 hB11_2 hc18_4 hB34_6 hB57_18 hc78_24], e17, rfl⟩
  · rw [if_neg hB11_2]
    refine own_go T1 m 23 #[rv x0, iv 4, iv x2] [] (fun t k => XS.ifYes X1.here hx rfl (pc0 := 11) (pc' := 23) rfl (hb hby d3_11) rfl ((if0 _ _).trans (teq (by decide)).1) (by decide) (by decide) k) ?_
    refine own_go T1 m 24 #[rv x0, iv 4, iv x2] [(.int 4)] (fun t k => XS.iloadN X1.here hx rfl (hb hby d3_23) rfl k) ?_
    refine own_go T1 m 25 #[rv x0, iv 4, iv x2] [(.int 3), (.int 4)] (fun t k => XS.iconst X1.here hx rfl (hb hby d3_24) k) ?_
    refine own_go T1 m 28 #[rv x0, iv 4, iv x2] [] (fun t k => XS.icmpNo X1.here hx rfl (hb hby d3_25) rfl (flt (by decide)).1 k) ?_
    refine own_go T1 m 29 #[rv x0, iv 4, iv x2] [(.ref x0)] (fun t k => XS.aloadN X1.here hx rfl (hb hby d3_28) rfl rfl k) ?_
    refine own_go T1 m 30 #[rv x0, iv 4, iv x2] [(.int 4), (.ref x0)] (fun t k => XS.iloadN X1.here hx rfl (hb hby d3_29) rfl k) ?_
    refine own_go T1 m 31 #[rv x0, iv 4, iv x2] [(.int 2), (.int 4), (.ref x0)] (fun t k => XS.iconst X1.here hx rfl (hb hby d3_30) k) ?_
    obtain ⟨_, T25, L25, X25, ⟨rfl, e25, rfl⟩, st25⟩ := own_static X1 hx hZ (y := (⟨"com/example/substring_search/substringsearch/PrefixTableFallBackPinLaw", "border", "([III)Z"⟩ : MethodName)) hown (own_w hw 5 rfl) (own_w hw 6 rfl) (own_w hw 3 rfl) (own_w hw 7 rfl) (by decide) (rmB42 l Z a0 hw [] x0 kp p0 p1 p2 p3 p4 h0 Vp) e1 0 (argsL := [(.ref x0), (.int 4), (.int 2)]) (rest := []) (Ls := #[rv x0, iv 4, iv x2]) (by rw [hml]; rfl) (lenOf pd___III_Z rfl) rfl rfl (Nat.le_of_eq rfl) (hb hby d3_31) (by decide) (by decide) (by decide) (by decide)
    replace X25 := own_nil X25
    refine own_go T25 m 34 #[rv x0, iv 4, iv x2] [(.int (if p0 = p2 ∧ p1 = p3 then 1 else 0))] (st25) ?_
    by_cases hB34_26 : p0 = p2 ∧ p1 = p3
    · rw [if_pos hB34_26]
      refine own_go T25 m 37 #[rv x0, iv 4, iv x2] [] (fun t k => XS.ifNo X25.here hx rfl (hb hby d3_34) rfl ((if0 _ _).trans (feq (by decide)).1) k) ?_
      refine own_go T25 m 38 #[rv x0, iv 4, iv x2] [(.ref x0)] (fun t k => XS.aloadN X25.here hx rfl (hb hby d3_37) rfl rfl k) ?_
      refine own_go T25 m 39 #[rv x0, iv 4, iv x2] [(.int 2), (.ref x0)] (fun t k => XS.iconst X25.here hx rfl (hb hby d3_38) k) ?_
      refine own_go T25 m 40 #[rv x0, iv 4, iv x2] [(.int p2)] (own_iaload X25 hx hZ e25 Vp (j := (2 : Int32)) ⟨by decide, by decide⟩ rfl (hb hby d3_39)) ?_
      refine own_go T25 m 41 #[rv x0, iv 4, iv x2] [(.int x2), (.int p2)] (fun t k => XS.iloadN X25.here hx rfl (hb hby d3_40) rfl k) ?_
      by_cases hc41_28 : p2 = x2
      · refine own_go T25 m 44 #[rv x0, iv 4, iv x2] [] (fun t k => XS.icmpNo X25.here hx rfl (hb hby d3_41) rfl (teq hc41_28).2 k) ?_
        refine own_go T25 m 45 #[rv x0, iv 4, iv x2] [(.int 2)] (fun t k => XS.iconst X25.here hx rfl (hb hby d3_44) k) ?_
        refine own_retI X25 hx hlk hret (hb hby d3_45) (by decide) (by decide) ?_
        exact ⟨by rw [own_lf57 p0 p1 p2 p3 p4 x2 hB11_2 hB34_26 hc41_28], e25, rfl⟩
      · refine own_go T25 m 46 #[rv x0, iv 4, iv x2] [] (fun t k => XS.icmpYes X25.here hx rfl (pc0 := 41) (pc' := 46) rfl (hb hby d3_41) rfl (feq hc41_28).2 (by decide) (by decide) k) ?_
        refine own_go T25 m 47 #[rv x0, iv 4, iv x2] [(.int 4)] (fun t k => XS.iloadN X25.here hx rfl (hb hby d3_46) rfl k) ?_
        refine own_go T25 m 48 #[rv x0, iv 4, iv x2] [(.int 2), (.int 4)] (fun t k => XS.iconst X25.here hx rfl (hb hby d3_47) k) ?_
        refine own_go T25 m 51 #[rv x0, iv 4, iv x2] [] (fun t k => XS.icmpNo X25.here hx rfl (hb hby d3_48) rfl (flt (by decide)).1 k) ?_
        refine own_go T25 m 52 #[rv x0, iv 4, iv x2] [(.ref x0)] (fun t k => XS.aloadN X25.here hx rfl (hb hby d3_51) rfl rfl k) ?_
        refine own_go T25 m 53 #[rv x0, iv 4, iv x2] [(.int 4), (.ref x0)] (fun t k => XS.iloadN X25.here hx rfl (hb hby d3_52) rfl k) ?_
        refine own_go T25 m 54 #[rv x0, iv 4, iv x2] [(.int 1), (.int 4), (.ref x0)] (fun t k => XS.iconst X25.here hx rfl (hb hby d3_53) k) ?_
        obtain ⟨_, T29, L29, X29, ⟨rfl, e29, rfl⟩, st29⟩ := own_static X25 hx hZ (y := (⟨"com/example/substring_search/substringsearch/PrefixTableFallBackPinLaw", "border", "([III)Z"⟩ : MethodName)) hown (own_w hw 5 rfl) (own_w hw 6 rfl) (own_w hw 3 rfl) (own_w hw 7 rfl) (by decide) (rmB41 l Z a0 hw [] x0 kp p0 p1 p2 p3 p4 h0 Vp) e25 0 (argsL := [(.ref x0), (.int 4), (.int 1)]) (rest := []) (Ls := #[rv x0, iv 4, iv x2]) (by rw [hml]; rfl) (lenOf pd___III_Z rfl) rfl rfl (Nat.le_of_eq rfl) (hb hby d3_54) (by decide) (by decide) (by decide) (by decide)
        replace X29 := own_nil X29
        refine own_go T29 m 57 #[rv x0, iv 4, iv x2] [(.int (if p0 = p3 then 1 else 0))] (st29) ?_
        by_cases hB57_30 : p0 = p3
        · rw [if_pos hB57_30]
          refine own_go T29 m 60 #[rv x0, iv 4, iv x2] [] (fun t k => XS.ifNo X29.here hx rfl (hb hby d3_57) rfl ((if0 _ _).trans (feq (by decide)).1) k) ?_
          refine own_go T29 m 61 #[rv x0, iv 4, iv x2] [(.ref x0)] (fun t k => XS.aloadN X29.here hx rfl (hb hby d3_60) rfl rfl k) ?_
          refine own_go T29 m 62 #[rv x0, iv 4, iv x2] [(.int 1), (.ref x0)] (fun t k => XS.iconst X29.here hx rfl (hb hby d3_61) k) ?_
          refine own_go T29 m 63 #[rv x0, iv 4, iv x2] [(.int p1)] (own_iaload X29 hx hZ e29 Vp (j := (1 : Int32)) ⟨by decide, by decide⟩ rfl (hb hby d3_62)) ?_
          refine own_go T29 m 64 #[rv x0, iv 4, iv x2] [(.int x2), (.int p1)] (fun t k => XS.iloadN X29.here hx rfl (hb hby d3_63) rfl k) ?_
          by_cases hc64_32 : p1 = x2
          · refine own_go T29 m 67 #[rv x0, iv 4, iv x2] [] (fun t k => XS.icmpNo X29.here hx rfl (hb hby d3_64) rfl (teq hc64_32).2 k) ?_
            refine own_go T29 m 68 #[rv x0, iv 4, iv x2] [(.int 1)] (fun t k => XS.iconst X29.here hx rfl (hb hby d3_67) k) ?_
            refine own_retI X29 hx hlk hret (hb hby d3_68) (by decide) (by decide) ?_
            exact ⟨by rw [own_lf58 p0 p1 p2 p3 p4 x2 hB11_2 hB34_26 hc41_28 hB57_30 hc64_32], e29, rfl⟩
          · refine own_go T29 m 69 #[rv x0, iv 4, iv x2] [] (fun t k => XS.icmpYes X29.here hx rfl (pc0 := 64) (pc' := 69) rfl (hb hby d3_64) rfl (feq hc64_32).2 (by decide) (by decide) k) ?_
            refine own_go T29 m 70 #[rv x0, iv 4, iv x2] [(.int 4)] (fun t k => XS.iloadN X29.here hx rfl (hb hby d3_69) rfl k) ?_
            refine own_go T29 m 71 #[rv x0, iv 4, iv x2] [(.int 1), (.int 4)] (fun t k => XS.iconst X29.here hx rfl (hb hby d3_70) k) ?_
            refine own_go T29 m 74 #[rv x0, iv 4, iv x2] [] (fun t k => XS.icmpNo X29.here hx rfl (hb hby d3_71) rfl (flt (by decide)).1 k) ?_
            refine own_go T29 m 75 #[rv x0, iv 4, iv x2] [(.ref x0)] (fun t k => XS.aloadN X29.here hx rfl (hb hby d3_74) rfl rfl k) ?_
            refine own_go T29 m 76 #[rv x0, iv 4, iv x2] [(.int 0), (.ref x0)] (fun t k => XS.iconst X29.here hx rfl (hb hby d3_75) k) ?_
            refine own_go T29 m 77 #[rv x0, iv 4, iv x2] [(.int p0)] (own_iaload X29 hx hZ e29 Vp (j := (0 : Int32)) ⟨by decide, by decide⟩ rfl (hb hby d3_76)) ?_
            refine own_go T29 m 78 #[rv x0, iv 4, iv x2] [(.int x2), (.int p0)] (fun t k => XS.iloadN X29.here hx rfl (hb hby d3_77) rfl k) ?_
            by_cases hc78_34 : p0 = x2
            · refine own_go T29 m 81 #[rv x0, iv 4, iv x2] [] (fun t k => XS.icmpNo X29.here hx rfl (hb hby d3_78) rfl (teq hc78_34).2 k) ?_
              refine own_go T29 m 82 #[rv x0, iv 4, iv x2] [(.int 0)] (fun t k => XS.iconst X29.here hx rfl (hb hby d3_81) k) ?_
              refine own_retI X29 hx hlk hret (hb hby d3_82) (by decide) (by decide) ?_
              exact ⟨by rw [own_lf59 p0 p1 p2 p3 p4 x2 hB11_2 hB34_26 hc41_28 hB57_30 hc64_32 hc78_34], e29, rfl⟩
            · refine own_go T29 m 83 #[rv x0, iv 4, iv x2] [] (fun t k => XS.icmpYes X29.here hx rfl (pc0 := 78) (pc' := 83) rfl (hb hby d3_78) rfl (feq hc78_34).2 (by decide) (by decide) k) ?_
              refine own_go T29 m 84 #[rv x0, iv 4, iv x2] [(.int (-1))] (fun t k => XS.iconst X29.here hx rfl (hb hby d3_83) k) ?_
              refine own_retI X29 hx hlk hret (hb hby d3_84) (by decide) (by decide) ?_
              exact ⟨by rw [own_lf60 p0 p1 p2 p3 p4 x2 hB11_2 hB34_26 hc41_28 hB57_30 hc64_32 hc78_34], e29, rfl⟩
        · rw [if_neg hB57_30]
          refine own_go T29 m 69 #[rv x0, iv 4, iv x2] [] (fun t k => XS.ifYes X29.here hx rfl (pc0 := 57) (pc' := 69) rfl (hb hby d3_57) rfl ((if0 _ _).trans (teq (by decide)).1) (by decide) (by decide) k) ?_
          refine own_go T29 m 70 #[rv x0, iv 4, iv x2] [(.int 4)] (fun t k => XS.iloadN X29.here hx rfl (hb hby d3_69) rfl k) ?_
          refine own_go T29 m 71 #[rv x0, iv 4, iv x2] [(.int 1), (.int 4)] (fun t k => XS.iconst X29.here hx rfl (hb hby d3_70) k) ?_
          refine own_go T29 m 74 #[rv x0, iv 4, iv x2] [] (fun t k => XS.icmpNo X29.here hx rfl (hb hby d3_71) rfl (flt (by decide)).1 k) ?_
          refine own_go T29 m 75 #[rv x0, iv 4, iv x2] [(.ref x0)] (fun t k => XS.aloadN X29.here hx rfl (hb hby d3_74) rfl rfl k) ?_
          refine own_go T29 m 76 #[rv x0, iv 4, iv x2] [(.int 0), (.ref x0)] (fun t k => XS.iconst X29.here hx rfl (hb hby d3_75) k) ?_
          refine own_go T29 m 77 #[rv x0, iv 4, iv x2] [(.int p0)] (own_iaload X29 hx hZ e29 Vp (j := (0 : Int32)) ⟨by decide, by decide⟩ rfl (hb hby d3_76)) ?_
          refine own_go T29 m 78 #[rv x0, iv 4, iv x2] [(.int x2), (.int p0)] (fun t k => XS.iloadN X29.here hx rfl (hb hby d3_77) rfl k) ?_
          by_cases hc78_36 : p0 = x2
          · refine own_go T29 m 81 #[rv x0, iv 4, iv x2] [] (fun t k => XS.icmpNo X29.here hx rfl (hb hby d3_78) rfl (teq hc78_36).2 k) ?_
            refine own_go T29 m 82 #[rv x0, iv 4, iv x2] [(.int 0)] (fun t k => XS.iconst X29.here hx rfl (hb hby d3_81) k) ?_
            refine own_retI X29 hx hlk hret (hb hby d3_82) (by decide) (by decide) ?_
            exact ⟨by rw [own_lf61 p0 p1 p2 p3 p4 x2 hB11_2 hB34_26 hc41_28 hB57_30 hc78_36], e29, rfl⟩
          · refine own_go T29 m 83 #[rv x0, iv 4, iv x2] [] (fun t k => XS.icmpYes X29.here hx rfl (pc0 := 78) (pc' := 83) rfl (hb hby d3_78) rfl (feq hc78_36).2 (by decide) (by decide) k) ?_
            refine own_go T29 m 84 #[rv x0, iv 4, iv x2] [(.int (-1))] (fun t k => XS.iconst X29.here hx rfl (hb hby d3_83) k) ?_
            refine own_retI X29 hx hlk hret (hb hby d3_84) (by decide) (by decide) ?_
            exact ⟨by rw [own_lf62 p0 p1 p2 p3 p4 x2 hB11_2 hB34_26 hc41_28 hB57_30 hc78_36], e29, rfl⟩
    · rw [if_neg hB34_26]
      refine own_go T25 m 46 #[rv x0, iv 4, iv x2] [] (fun t k => XS.ifYes X25.here hx rfl (pc0 := 34) (pc' := 46) rfl (hb hby d3_34) rfl ((if0 _ _).trans (teq (by decide)).1) (by decide) (by decide) k) ?_
      refine own_go T25 m 47 #[rv x0, iv 4, iv x2] [(.int 4)] (fun t k => XS.iloadN X25.here hx rfl (hb hby d3_46) rfl k) ?_
      refine own_go T25 m 48 #[rv x0, iv 4, iv x2] [(.int 2), (.int 4)] (fun t k => XS.iconst X25.here hx rfl (hb hby d3_47) k) ?_
      refine own_go T25 m 51 #[rv x0, iv 4, iv x2] [] (fun t k => XS.icmpNo X25.here hx rfl (hb hby d3_48) rfl (flt (by decide)).1 k) ?_
      refine own_go T25 m 52 #[rv x0, iv 4, iv x2] [(.ref x0)] (fun t k => XS.aloadN X25.here hx rfl (hb hby d3_51) rfl rfl k) ?_
      refine own_go T25 m 53 #[rv x0, iv 4, iv x2] [(.int 4), (.ref x0)] (fun t k => XS.iloadN X25.here hx rfl (hb hby d3_52) rfl k) ?_
      refine own_go T25 m 54 #[rv x0, iv 4, iv x2] [(.int 1), (.int 4), (.ref x0)] (fun t k => XS.iconst X25.here hx rfl (hb hby d3_53) k) ?_
      obtain ⟨_, T37, L37, X37, ⟨rfl, e37, rfl⟩, st37⟩ := own_static X25 hx hZ (y := (⟨"com/example/substring_search/substringsearch/PrefixTableFallBackPinLaw", "border", "([III)Z"⟩ : MethodName)) hown (own_w hw 5 rfl) (own_w hw 6 rfl) (own_w hw 3 rfl) (own_w hw 7 rfl) (by decide) (rmB41 l Z a0 hw [] x0 kp p0 p1 p2 p3 p4 h0 Vp) e25 0 (argsL := [(.ref x0), (.int 4), (.int 1)]) (rest := []) (Ls := #[rv x0, iv 4, iv x2]) (by rw [hml]; rfl) (lenOf pd___III_Z rfl) rfl rfl (Nat.le_of_eq rfl) (hb hby d3_54) (by decide) (by decide) (by decide) (by decide)
      replace X37 := own_nil X37
      refine own_go T37 m 57 #[rv x0, iv 4, iv x2] [(.int (if p0 = p3 then 1 else 0))] (st37) ?_
      by_cases hB57_38 : p0 = p3
      · rw [if_pos hB57_38]
        refine own_go T37 m 60 #[rv x0, iv 4, iv x2] [] (fun t k => XS.ifNo X37.here hx rfl (hb hby d3_57) rfl ((if0 _ _).trans (feq (by decide)).1) k) ?_
        refine own_go T37 m 61 #[rv x0, iv 4, iv x2] [(.ref x0)] (fun t k => XS.aloadN X37.here hx rfl (hb hby d3_60) rfl rfl k) ?_
        refine own_go T37 m 62 #[rv x0, iv 4, iv x2] [(.int 1), (.ref x0)] (fun t k => XS.iconst X37.here hx rfl (hb hby d3_61) k) ?_
        refine own_go T37 m 63 #[rv x0, iv 4, iv x2] [(.int p1)] (own_iaload X37 hx hZ e37 Vp (j := (1 : Int32)) ⟨by decide, by decide⟩ rfl (hb hby d3_62)) ?_
        refine own_go T37 m 64 #[rv x0, iv 4, iv x2] [(.int x2), (.int p1)] (fun t k => XS.iloadN X37.here hx rfl (hb hby d3_63) rfl k) ?_
        by_cases hc64_40 : p1 = x2
        · refine own_go T37 m 67 #[rv x0, iv 4, iv x2] [] (fun t k => XS.icmpNo X37.here hx rfl (hb hby d3_64) rfl (teq hc64_40).2 k) ?_
          refine own_go T37 m 68 #[rv x0, iv 4, iv x2] [(.int 1)] (fun t k => XS.iconst X37.here hx rfl (hb hby d3_67) k) ?_
          refine own_retI X37 hx hlk hret (hb hby d3_68) (by decide) (by decide) ?_
          exact ⟨by rw [own_lf63 p0 p1 p2 p3 p4 x2 hB11_2 hB34_26 hB57_38 hc64_40], e37, rfl⟩
        · refine own_go T37 m 69 #[rv x0, iv 4, iv x2] [] (fun t k => XS.icmpYes X37.here hx rfl (pc0 := 64) (pc' := 69) rfl (hb hby d3_64) rfl (feq hc64_40).2 (by decide) (by decide) k) ?_
          refine own_go T37 m 70 #[rv x0, iv 4, iv x2] [(.int 4)] (fun t k => XS.iloadN X37.here hx rfl (hb hby d3_69) rfl k) ?_
          refine own_go T37 m 71 #[rv x0, iv 4, iv x2] [(.int 1), (.int 4)] (fun t k => XS.iconst X37.here hx rfl (hb hby d3_70) k) ?_
          refine own_go T37 m 74 #[rv x0, iv 4, iv x2] [] (fun t k => XS.icmpNo X37.here hx rfl (hb hby d3_71) rfl (flt (by decide)).1 k) ?_
          refine own_go T37 m 75 #[rv x0, iv 4, iv x2] [(.ref x0)] (fun t k => XS.aloadN X37.here hx rfl (hb hby d3_74) rfl rfl k) ?_
          refine own_go T37 m 76 #[rv x0, iv 4, iv x2] [(.int 0), (.ref x0)] (fun t k => XS.iconst X37.here hx rfl (hb hby d3_75) k) ?_
          refine own_go T37 m 77 #[rv x0, iv 4, iv x2] [(.int p0)] (own_iaload X37 hx hZ e37 Vp (j := (0 : Int32)) ⟨by decide, by decide⟩ rfl (hb hby d3_76)) ?_
          refine own_go T37 m 78 #[rv x0, iv 4, iv x2] [(.int x2), (.int p0)] (fun t k => XS.iloadN X37.here hx rfl (hb hby d3_77) rfl k) ?_
          by_cases hc78_42 : p0 = x2
          · refine own_go T37 m 81 #[rv x0, iv 4, iv x2] [] (fun t k => XS.icmpNo X37.here hx rfl (hb hby d3_78) rfl (teq hc78_42).2 k) ?_
            refine own_go T37 m 82 #[rv x0, iv 4, iv x2] [(.int 0)] (fun t k => XS.iconst X37.here hx rfl (hb hby d3_81) k) ?_
            refine own_retI X37 hx hlk hret (hb hby d3_82) (by decide) (by decide) ?_
            exact ⟨by rw [own_lf64 p0 p1 p2 p3 p4 x2 hB11_2 hB34_26 hB57_38 hc64_40 hc78_42], e37, rfl⟩
          · refine own_go T37 m 83 #[rv x0, iv 4, iv x2] [] (fun t k => XS.icmpYes X37.here hx rfl (pc0 := 78) (pc' := 83) rfl (hb hby d3_78) rfl (feq hc78_42).2 (by decide) (by decide) k) ?_
            refine own_go T37 m 84 #[rv x0, iv 4, iv x2] [(.int (-1))] (fun t k => XS.iconst X37.here hx rfl (hb hby d3_83) k) ?_
            refine own_retI X37 hx hlk hret (hb hby d3_84) (by decide) (by decide) ?_
            exact ⟨by rw [own_lf65 p0 p1 p2 p3 p4 x2 hB11_2 hB34_26 hB57_38 hc64_40 hc78_42], e37, rfl⟩
      · rw [if_neg hB57_38]
        refine own_go T37 m 69 #[rv x0, iv 4, iv x2] [] (fun t k => XS.ifYes X37.here hx rfl (pc0 := 57) (pc' := 69) rfl (hb hby d3_57) rfl ((if0 _ _).trans (teq (by decide)).1) (by decide) (by decide) k) ?_
        refine own_go T37 m 70 #[rv x0, iv 4, iv x2] [(.int 4)] (fun t k => XS.iloadN X37.here hx rfl (hb hby d3_69) rfl k) ?_
        refine own_go T37 m 71 #[rv x0, iv 4, iv x2] [(.int 1), (.int 4)] (fun t k => XS.iconst X37.here hx rfl (hb hby d3_70) k) ?_
        refine own_go T37 m 74 #[rv x0, iv 4, iv x2] [] (fun t k => XS.icmpNo X37.here hx rfl (hb hby d3_71) rfl (flt (by decide)).1 k) ?_
        refine own_go T37 m 75 #[rv x0, iv 4, iv x2] [(.ref x0)] (fun t k => XS.aloadN X37.here hx rfl (hb hby d3_74) rfl rfl k) ?_
        refine own_go T37 m 76 #[rv x0, iv 4, iv x2] [(.int 0), (.ref x0)] (fun t k => XS.iconst X37.here hx rfl (hb hby d3_75) k) ?_
        refine own_go T37 m 77 #[rv x0, iv 4, iv x2] [(.int p0)] (own_iaload X37 hx hZ e37 Vp (j := (0 : Int32)) ⟨by decide, by decide⟩ rfl (hb hby d3_76)) ?_
        refine own_go T37 m 78 #[rv x0, iv 4, iv x2] [(.int x2), (.int p0)] (fun t k => XS.iloadN X37.here hx rfl (hb hby d3_77) rfl k) ?_
        by_cases hc78_44 : p0 = x2
        · refine own_go T37 m 81 #[rv x0, iv 4, iv x2] [] (fun t k => XS.icmpNo X37.here hx rfl (hb hby d3_78) rfl (teq hc78_44).2 k) ?_
          refine own_go T37 m 82 #[rv x0, iv 4, iv x2] [(.int 0)] (fun t k => XS.iconst X37.here hx rfl (hb hby d3_81) k) ?_
          refine own_retI X37 hx hlk hret (hb hby d3_82) (by decide) (by decide) ?_
          exact ⟨by rw [own_lf66 p0 p1 p2 p3 p4 x2 hB11_2 hB34_26 hB57_38 hc78_44], e37, rfl⟩
        · refine own_go T37 m 83 #[rv x0, iv 4, iv x2] [] (fun t k => XS.icmpYes X37.here hx rfl (pc0 := 78) (pc' := 83) rfl (hb hby d3_78) rfl (feq hc78_44).2 (by decide) (by decide) k) ?_
          refine own_go T37 m 84 #[rv x0, iv 4, iv x2] [(.int (-1))] (fun t k => XS.iconst X37.here hx rfl (hb hby d3_83) k) ?_
          refine own_retI X37 hx hlk hret (hb hby d3_84) (by decide) (by decide) ?_
          exact ⟨by rw [own_lf67 p0 p1 p2 p3 p4 x2 hB11_2 hB34_26 hB57_38 hc78_44], e37, rfl⟩
theorem d4_0 : decode prog_4_method_4_code 0 = .ok (.iload_n 2, 1) := by decide +kernel
theorem d4_1 : decode prog_4_method_4_code 1 = .ok (.ifCond .ne 5, 3) := by decide +kernel
theorem d4_4 : decode prog_4_method_4_code 4 = .ok (.iconst (-1), 1) := by decide +kernel
theorem d4_5 : decode prog_4_method_4_code 5 = .ok (.ireturn, 1) := by decide +kernel
theorem d4_6 : decode prog_4_method_4_code 6 = .ok (.aload_n 0, 1) := by decide +kernel
theorem d4_7 : decode prog_4_method_4_code 7 = .ok (.iload_n 2, 1) := by decide +kernel
theorem d4_8 : decode prog_4_method_4_code 8 = .ok (.iconst 1, 1) := by decide +kernel
theorem d4_9 : decode prog_4_method_4_code 9 = .ok (.isub, 1) := by decide +kernel
theorem d4_10 : decode prog_4_method_4_code 10 = .ok (.iaload, 1) := by decide +kernel
theorem d4_11 : decode prog_4_method_4_code 11 = .ok (.istore_n 2, 1) := by decide +kernel
theorem d4_12 : decode prog_4_method_4_code 12 = .ok (.aload_n 1, 1) := by decide +kernel
theorem d4_13 : decode prog_4_method_4_code 13 = .ok (.iload_n 2, 1) := by decide +kernel
theorem d4_14 : decode prog_4_method_4_code 14 = .ok (.iaload, 1) := by decide +kernel
theorem d4_15 : decode prog_4_method_4_code 15 = .ok (.iload_n 3, 1) := by decide +kernel
theorem d4_16 : decode prog_4_method_4_code 16 = .ok (.if_icmp .ne (-16), 3) := by decide +kernel
theorem d4_19 : decode prog_4_method_4_code 19 = .ok (.iload_n 2, 1) := by decide +kernel
theorem d4_20 : decode prog_4_method_4_code 20 = .ok (.ireturn, 1) := by decide +kernel
theorem pf_com_example_substring_search_substringsearch_PrefixTable_fallBack___I_III_I : plainFor (⟨"com/example/substring_search/substringsearch/PrefixTable", "fallBack", "([I[III)I"⟩ : MethodName) = true := by first | exact plainFor_of_name (by first | (simp [plainName, overriddenIn]; done) | decide +kernel) | exact Jvm.Free.JP.mathPlain rfl (by decide +kernel) | decide +kernel
theorem own_lf68 (p0 p1 p2 p3 p4 x3 : Int32) : own_ref0 p0 p1 p2 p3 x3 = (-1 : Int32) := by
  unfold own_ref0
  grind
theorem ef_rmF0 (m : MethodId) (q0 : Addr) (q1 : Addr) (q2 : Int32) (q3 : Int32) : entryFrame m #[(.ref q0), (.ref q1), (.int q2), (.int q3)] 4 = mkF m 0 #[rv q0, rv q1, iv q2, iv q3] [] := by first | (simp [entryFrame, mkF, argsToLocals, Value.category]; done) | rfl
set_option maxRecDepth 65536 in
set_option maxHeartbeats 40000000 in
theorem rmF0 (l : Launch) (Z : State) (a0 : Array Value) (hw : ∀ d ∈ tables_1, d.before a0 Z = true) (ws : List Jvm.Cond) (x0 : Addr) (x1 : Addr) (x3 : Int32) (kp : ClassId) (p0 p1 p2 p3 p4 : Int32) (kt : ClassId) (h0 : Heap) (Vp : Arv Z h0 x1 kp .int 5 [(.int p0), (.int p1), (.int p2), (.int p3), (.int p4)] (.int 0)) (Vt : Arv Z h0 x0 kt .int 5 [(.int 0), (.int (own_l2 p0 p1)), (.int (own_l3 p0 p1 p2)), (.int (own_l4 p0 p1 p2 p3)), (.int 0)] (.int 0)) :
    OwnC l Z (⟨"com/example/substring_search/substringsearch/PrefixTable", "fallBack", "([I[III)I"⟩ : MethodName) prog_4_method_4_code 4 (some .int) ws ({ frames := 0, cells := 0, slots := 0, locals := 0 } : Room) #[(.ref x0), (.ref x1), (.int 0), (.int x3)] h0 (OwnPure (.int (own_ref0 p0 p1 p2 p3 x3)) h0) := by
  refine own_entry pf_com_example_substring_search_substringsearch_PrefixTable_fallBack___I_III_I (fun m => ef_rmF0 m x0 x1 (0 : Int32) x3) ?_
  intro p e s m below meth c T0 X0 hC e0
  obtain ⟨hx, hby, hml, hown, hnm, hret, hlk, hZ⟩ := hC
  refine own_go T0 m 1 #[rv x0, rv x1, iv 0, iv x3] [(.int 0)] (fun t k => XS.iloadN X0.here hx rfl (hb hby d4_0) rfl k) ?_
  refine own_go T0 m 4 #[rv x0, rv x1, iv 0, iv x3] [] (fun t k => XS.ifNo X0.here hx rfl (hb hby d4_1) rfl ((if0 _ _).trans (teq (by decide)).2) k) ?_
  refine own_go T0 m 5 #[rv x0, rv x1, iv 0, iv x3] [(.int (-1))] (fun t k => XS.iconst X0.here hx rfl (hb hby d4_4) k) ?_
  refine own_retI X0 hx hlk hret (hb hby d4_5) (by decide) (by decide) ?_
  exact ⟨by rw [own_lf68 p0 p1 p2 p3 p4 x3], e0, rfl⟩
theorem own_lf69 (p0 p1 p2 p3 p4 x3 : Int32) (hc16_3 : p0 = x3) : own_ref1 p0 p1 p2 p3 x3 = (0 : Int32) := by
  unfold own_ref1
  grind
theorem own_lf70 (p0 p1 p2 p3 p4 x3 : Int32) (hc16_3 : ¬ (p0 = x3)) : own_ref1 p0 p1 p2 p3 x3 = (-1 : Int32) := by
  unfold own_ref1
  grind
theorem ef_rmF1 (m : MethodId) (q0 : Addr) (q1 : Addr) (q2 : Int32) (q3 : Int32) : entryFrame m #[(.ref q0), (.ref q1), (.int q2), (.int q3)] 4 = mkF m 0 #[rv q0, rv q1, iv q2, iv q3] [] := by first | (simp [entryFrame, mkF, argsToLocals, Value.category]; done) | rfl
set_option maxRecDepth 65536 in
set_option maxHeartbeats 40000000 in
theorem rmF1 (l : Launch) (Z : State) (a0 : Array Value) (hw : ∀ d ∈ tables_1, d.before a0 Z = true) (ws : List Jvm.Cond) (x0 : Addr) (x1 : Addr) (x3 : Int32) (kp : ClassId) (p0 p1 p2 p3 p4 : Int32) (kt : ClassId) (h0 : Heap) (Vp : Arv Z h0 x1 kp .int 5 [(.int p0), (.int p1), (.int p2), (.int p3), (.int p4)] (.int 0)) (Vt : Arv Z h0 x0 kt .int 5 [(.int 0), (.int (own_l2 p0 p1)), (.int (own_l3 p0 p1 p2)), (.int (own_l4 p0 p1 p2 p3)), (.int 0)] (.int 0)) :
    OwnC l Z (⟨"com/example/substring_search/substringsearch/PrefixTable", "fallBack", "([I[III)I"⟩ : MethodName) prog_4_method_4_code 4 (some .int) ws ({ frames := 0, cells := 0, slots := 0, locals := 0 } : Room) #[(.ref x0), (.ref x1), (.int 1), (.int x3)] h0 (OwnPure (.int (own_ref1 p0 p1 p2 p3 x3)) h0) := by
  refine own_entry pf_com_example_substring_search_substringsearch_PrefixTable_fallBack___I_III_I (fun m => ef_rmF1 m x0 x1 (1 : Int32) x3) ?_
  intro p e s m below meth c T0 X0 hC e0
  obtain ⟨hx, hby, hml, hown, hnm, hret, hlk, hZ⟩ := hC
  refine own_go T0 m 1 #[rv x0, rv x1, iv 1, iv x3] [(.int 1)] (fun t k => XS.iloadN X0.here hx rfl (hb hby d4_0) rfl k) ?_
  refine own_go T0 m 6 #[rv x0, rv x1, iv 1, iv x3] [] (fun t k => XS.ifYes X0.here hx rfl (pc0 := 1) (pc' := 6) rfl (hb hby d4_1) rfl ((if0 _ _).trans (feq (by decide)).2) (by decide) (by decide) k) ?_
  refine own_go T0 m 7 #[rv x0, rv x1, iv 1, iv x3] [(.ref x0)] (fun t k => XS.aloadN X0.here hx rfl (hb hby d4_6) rfl rfl k) ?_
  refine own_go T0 m 8 #[rv x0, rv x1, iv 1, iv x3] [(.int 1), (.ref x0)] (fun t k => XS.iloadN X0.here hx rfl (hb hby d4_7) rfl k) ?_
  refine own_go T0 m 9 #[rv x0, rv x1, iv 1, iv x3] [(.int 1), (.int 1), (.ref x0)] (fun t k => XS.iconst X0.here hx rfl (hb hby d4_8) k) ?_
  refine own_go T0 m 10 #[rv x0, rv x1, iv 1, iv x3] [(.int ((1 : Int32) - (1 : Int32))), (.ref x0)] (fun t k => XS.isub X0.here hx rfl (hb hby d4_9) rfl k) ?_
  rw [show ((1 : Int32) - (1 : Int32)) = (0 : Int32) from by decide]
  refine own_go T0 m 11 #[rv x0, rv x1, iv 1, iv x3] [(.int 0)] (own_iaload X0 hx hZ e0 Vt (j := (0 : Int32)) ⟨by decide, by decide⟩ rfl (hb hby d4_10)) ?_
  refine own_go T0 m 12 #[rv x0, rv x1, iv 0, iv x3] [] (fun t k => XS.istoreN X0.here hx rfl (hb hby d4_11) rfl rfl k) ?_
  refine own_go T0 m 13 #[rv x0, rv x1, iv 0, iv x3] [(.ref x1)] (fun t k => XS.aloadN X0.here hx rfl (hb hby d4_12) rfl rfl k) ?_
  refine own_go T0 m 14 #[rv x0, rv x1, iv 0, iv x3] [(.int 0), (.ref x1)] (fun t k => XS.iloadN X0.here hx rfl (hb hby d4_13) rfl k) ?_
  refine own_go T0 m 15 #[rv x0, rv x1, iv 0, iv x3] [(.int p0)] (own_iaload X0 hx hZ e0 Vp (j := (0 : Int32)) ⟨by decide, by decide⟩ rfl (hb hby d4_14)) ?_
  refine own_go T0 m 16 #[rv x0, rv x1, iv 0, iv x3] [(.int x3), (.int p0)] (fun t k => XS.iloadN X0.here hx rfl (hb hby d4_15) rfl k) ?_
  by_cases hc16_3 : p0 = x3
  · refine own_go T0 m 19 #[rv x0, rv x1, iv 0, iv x3] [] (fun t k => XS.icmpNo X0.here hx rfl (hb hby d4_16) rfl (teq hc16_3).2 k) ?_
    refine own_go T0 m 20 #[rv x0, rv x1, iv 0, iv x3] [(.int 0)] (fun t k => XS.iloadN X0.here hx rfl (hb hby d4_19) rfl k) ?_
    refine own_retI X0 hx hlk hret (hb hby d4_20) (by decide) (by decide) ?_
    exact ⟨by rw [own_lf69 p0 p1 p2 p3 p4 x3 hc16_3], e0, rfl⟩
  · refine own_go T0 m 0 #[rv x0, rv x1, iv 0, iv x3] [] (fun t k => XS.icmpYes X0.here hx rfl (pc0 := 16) (pc' := 0) rfl (hb hby d4_16) rfl (feq hc16_3).2 (by decide) (by decide) k) ?_
    refine own_go T0 m 1 #[rv x0, rv x1, iv 0, iv x3] [(.int 0)] (fun t k => XS.iloadN X0.here hx rfl (hb hby d4_0) rfl k) ?_
    refine own_go T0 m 4 #[rv x0, rv x1, iv 0, iv x3] [] (fun t k => XS.ifNo X0.here hx rfl (hb hby d4_1) rfl ((if0 _ _).trans (teq (by decide)).2) k) ?_
    refine own_go T0 m 5 #[rv x0, rv x1, iv 0, iv x3] [(.int (-1))] (fun t k => XS.iconst X0.here hx rfl (hb hby d4_4) k) ?_
    refine own_retI X0 hx hlk hret (hb hby d4_5) (by decide) (by decide) ?_
    exact ⟨by rw [own_lf70 p0 p1 p2 p3 p4 x3 hc16_3], e0, rfl⟩
theorem own_lf71 (p0 p1 p2 p3 p4 x3 : Int32) (hT11_2 : p0 = p1) (hc16_4 : p1 = x3) : own_ref2 p0 p1 p2 p3 x3 = (1 : Int32) := by
  unfold own_ref2
  grind
theorem own_lf72 (p0 p1 p2 p3 p4 x3 : Int32) (hT11_2 : p0 = p1) (hc16_4 : ¬ (p1 = x3)) (hc16_7 : p0 = x3) : own_ref2 p0 p1 p2 p3 x3 = (0 : Int32) := by
  unfold own_ref2
  grind
theorem own_lf73 (p0 p1 p2 p3 p4 x3 : Int32) (hT11_2 : p0 = p1) (hc16_4 : ¬ (p1 = x3)) (hc16_7 : ¬ (p0 = x3)) : own_ref2 p0 p1 p2 p3 x3 = (-1 : Int32) := by
  unfold own_ref2
  grind
theorem own_lf74 (p0 p1 p2 p3 p4 x3 : Int32) (hT11_2 : ¬ (p0 = p1)) (hc16_9 : p0 = x3) : own_ref2 p0 p1 p2 p3 x3 = (0 : Int32) := by
  unfold own_ref2
  grind
theorem own_lf75 (p0 p1 p2 p3 p4 x3 : Int32) (hT11_2 : ¬ (p0 = p1)) (hc16_9 : ¬ (p0 = x3)) : own_ref2 p0 p1 p2 p3 x3 = (-1 : Int32) := by
  unfold own_ref2
  grind
theorem ef_rmF2 (m : MethodId) (q0 : Addr) (q1 : Addr) (q2 : Int32) (q3 : Int32) : entryFrame m #[(.ref q0), (.ref q1), (.int q2), (.int q3)] 4 = mkF m 0 #[rv q0, rv q1, iv q2, iv q3] [] := by first | (simp [entryFrame, mkF, argsToLocals, Value.category]; done) | rfl
set_option maxRecDepth 65536 in
set_option maxHeartbeats 40000000 in
theorem rmF2 (l : Launch) (Z : State) (a0 : Array Value) (hw : ∀ d ∈ tables_1, d.before a0 Z = true) (ws : List Jvm.Cond) (x0 : Addr) (x1 : Addr) (x3 : Int32) (kp : ClassId) (p0 p1 p2 p3 p4 : Int32) (kt : ClassId) (h0 : Heap) (Vp : Arv Z h0 x1 kp .int 5 [(.int p0), (.int p1), (.int p2), (.int p3), (.int p4)] (.int 0)) (Vt : Arv Z h0 x0 kt .int 5 [(.int 0), (.int (own_l2 p0 p1)), (.int (own_l3 p0 p1 p2)), (.int (own_l4 p0 p1 p2 p3)), (.int 0)] (.int 0)) :
    OwnC l Z (⟨"com/example/substring_search/substringsearch/PrefixTable", "fallBack", "([I[III)I"⟩ : MethodName) prog_4_method_4_code 4 (some .int) ws ({ frames := 0, cells := 0, slots := 0, locals := 0 } : Room) #[(.ref x0), (.ref x1), (.int 2), (.int x3)] h0 (OwnPure (.int (own_ref2 p0 p1 p2 p3 x3)) h0) := by
  refine own_entry pf_com_example_substring_search_substringsearch_PrefixTable_fallBack___I_III_I (fun m => ef_rmF2 m x0 x1 (2 : Int32) x3) ?_
  intro p e s m below meth c T0 X0 hC e0
  obtain ⟨hx, hby, hml, hown, hnm, hret, hlk, hZ⟩ := hC
  refine own_go T0 m 1 #[rv x0, rv x1, iv 2, iv x3] [(.int 2)] (fun t k => XS.iloadN X0.here hx rfl (hb hby d4_0) rfl k) ?_
  refine own_go T0 m 6 #[rv x0, rv x1, iv 2, iv x3] [] (fun t k => XS.ifYes X0.here hx rfl (pc0 := 1) (pc' := 6) rfl (hb hby d4_1) rfl ((if0 _ _).trans (feq (by decide)).2) (by decide) (by decide) k) ?_
  refine own_go T0 m 7 #[rv x0, rv x1, iv 2, iv x3] [(.ref x0)] (fun t k => XS.aloadN X0.here hx rfl (hb hby d4_6) rfl rfl k) ?_
  refine own_go T0 m 8 #[rv x0, rv x1, iv 2, iv x3] [(.int 2), (.ref x0)] (fun t k => XS.iloadN X0.here hx rfl (hb hby d4_7) rfl k) ?_
  refine own_go T0 m 9 #[rv x0, rv x1, iv 2, iv x3] [(.int 1), (.int 2), (.ref x0)] (fun t k => XS.iconst X0.here hx rfl (hb hby d4_8) k) ?_
  refine own_go T0 m 10 #[rv x0, rv x1, iv 2, iv x3] [(.int ((2 : Int32) - (1 : Int32))), (.ref x0)] (fun t k => XS.isub X0.here hx rfl (hb hby d4_9) rfl k) ?_
  rw [show ((2 : Int32) - (1 : Int32)) = (1 : Int32) from by decide]
  refine own_go T0 m 11 #[rv x0, rv x1, iv 2, iv x3] [(.int (own_l2 p0 p1))] (own_iaload X0 hx hZ e0 Vt (j := (1 : Int32)) ⟨by decide, by decide⟩ rfl (hb hby d4_10)) ?_
  by_cases hT11_2 : p0 = p1
  · rw [show (own_l2 p0 p1) = (1 : Int32) from (if_pos hT11_2)]
    refine own_go T0 m 12 #[rv x0, rv x1, iv 1, iv x3] [] (fun t k => XS.istoreN X0.here hx rfl (hb hby d4_11) rfl rfl k) ?_
    refine own_go T0 m 13 #[rv x0, rv x1, iv 1, iv x3] [(.ref x1)] (fun t k => XS.aloadN X0.here hx rfl (hb hby d4_12) rfl rfl k) ?_
    refine own_go T0 m 14 #[rv x0, rv x1, iv 1, iv x3] [(.int 1), (.ref x1)] (fun t k => XS.iloadN X0.here hx rfl (hb hby d4_13) rfl k) ?_
    refine own_go T0 m 15 #[rv x0, rv x1, iv 1, iv x3] [(.int p1)] (own_iaload X0 hx hZ e0 Vp (j := (1 : Int32)) ⟨by decide, by decide⟩ rfl (hb hby d4_14)) ?_
    refine own_go T0 m 16 #[rv x0, rv x1, iv 1, iv x3] [(.int x3), (.int p1)] (fun t k => XS.iloadN X0.here hx rfl (hb hby d4_15) rfl k) ?_
    by_cases hc16_4 : p1 = x3
    · refine own_go T0 m 19 #[rv x0, rv x1, iv 1, iv x3] [] (fun t k => XS.icmpNo X0.here hx rfl (hb hby d4_16) rfl (teq hc16_4).2 k) ?_
      refine own_go T0 m 20 #[rv x0, rv x1, iv 1, iv x3] [(.int 1)] (fun t k => XS.iloadN X0.here hx rfl (hb hby d4_19) rfl k) ?_
      refine own_retI X0 hx hlk hret (hb hby d4_20) (by decide) (by decide) ?_
      exact ⟨by rw [own_lf71 p0 p1 p2 p3 p4 x3 hT11_2 hc16_4], e0, rfl⟩
    · refine own_go T0 m 0 #[rv x0, rv x1, iv 1, iv x3] [] (fun t k => XS.icmpYes X0.here hx rfl (pc0 := 16) (pc' := 0) rfl (hb hby d4_16) rfl (feq hc16_4).2 (by decide) (by decide) k) ?_
      refine own_go T0 m 1 #[rv x0, rv x1, iv 1, iv x3] [(.int 1)] (fun t k => XS.iloadN X0.here hx rfl (hb hby d4_0) rfl k) ?_
      refine own_go T0 m 6 #[rv x0, rv x1, iv 1, iv x3] [] (fun t k => XS.ifYes X0.here hx rfl (pc0 := 1) (pc' := 6) rfl (hb hby d4_1) rfl ((if0 _ _).trans (feq (by decide)).2) (by decide) (by decide) k) ?_
      refine own_go T0 m 7 #[rv x0, rv x1, iv 1, iv x3] [(.ref x0)] (fun t k => XS.aloadN X0.here hx rfl (hb hby d4_6) rfl rfl k) ?_
      refine own_go T0 m 8 #[rv x0, rv x1, iv 1, iv x3] [(.int 1), (.ref x0)] (fun t k => XS.iloadN X0.here hx rfl (hb hby d4_7) rfl k) ?_
      refine own_go T0 m 9 #[rv x0, rv x1, iv 1, iv x3] [(.int 1), (.int 1), (.ref x0)] (fun t k => XS.iconst X0.here hx rfl (hb hby d4_8) k) ?_
      refine own_go T0 m 10 #[rv x0, rv x1, iv 1, iv x3] [(.int ((1 : Int32) - (1 : Int32))), (.ref x0)] (fun t k => XS.isub X0.here hx rfl (hb hby d4_9) rfl k) ?_
      rw [show ((1 : Int32) - (1 : Int32)) = (0 : Int32) from by decide]
      refine own_go T0 m 11 #[rv x0, rv x1, iv 1, iv x3] [(.int 0)] (own_iaload X0 hx hZ e0 Vt (j := (0 : Int32)) ⟨by decide, by decide⟩ rfl (hb hby d4_10)) ?_
      refine own_go T0 m 12 #[rv x0, rv x1, iv 0, iv x3] [] (fun t k => XS.istoreN X0.here hx rfl (hb hby d4_11) rfl rfl k) ?_
      refine own_go T0 m 13 #[rv x0, rv x1, iv 0, iv x3] [(.ref x1)] (fun t k => XS.aloadN X0.here hx rfl (hb hby d4_12) rfl rfl k) ?_
      refine own_go T0 m 14 #[rv x0, rv x1, iv 0, iv x3] [(.int 0), (.ref x1)] (fun t k => XS.iloadN X0.here hx rfl (hb hby d4_13) rfl k) ?_
      refine own_go T0 m 15 #[rv x0, rv x1, iv 0, iv x3] [(.int p0)] (own_iaload X0 hx hZ e0 Vp (j := (0 : Int32)) ⟨by decide, by decide⟩ rfl (hb hby d4_14)) ?_
      refine own_go T0 m 16 #[rv x0, rv x1, iv 0, iv x3] [(.int x3), (.int p0)] (fun t k => XS.iloadN X0.here hx rfl (hb hby d4_15) rfl k) ?_
      by_cases hc16_7 : p0 = x3
      · refine own_go T0 m 19 #[rv x0, rv x1, iv 0, iv x3] [] (fun t k => XS.icmpNo X0.here hx rfl (hb hby d4_16) rfl (teq hc16_7).2 k) ?_
        refine own_go T0 m 20 #[rv x0, rv x1, iv 0, iv x3] [(.int 0)] (fun t k => XS.iloadN X0.here hx rfl (hb hby d4_19) rfl k) ?_
        refine own_retI X0 hx hlk hret (hb hby d4_20) (by decide) (by decide) ?_
        exact ⟨by rw [own_lf72 p0 p1 p2 p3 p4 x3 hT11_2 hc16_4 hc16_7], e0, rfl⟩
      · refine own_go T0 m 0 #[rv x0, rv x1, iv 0, iv x3] [] (fun t k => XS.icmpYes X0.here hx rfl (pc0 := 16) (pc' := 0) rfl (hb hby d4_16) rfl (feq hc16_7).2 (by decide) (by decide) k) ?_
        refine own_go T0 m 1 #[rv x0, rv x1, iv 0, iv x3] [(.int 0)] (fun t k => XS.iloadN X0.here hx rfl (hb hby d4_0) rfl k) ?_
        refine own_go T0 m 4 #[rv x0, rv x1, iv 0, iv x3] [] (fun t k => XS.ifNo X0.here hx rfl (hb hby d4_1) rfl ((if0 _ _).trans (teq (by decide)).2) k) ?_
        refine own_go T0 m 5 #[rv x0, rv x1, iv 0, iv x3] [(.int (-1))] (fun t k => XS.iconst X0.here hx rfl (hb hby d4_4) k) ?_
        refine own_retI X0 hx hlk hret (hb hby d4_5) (by decide) (by decide) ?_
        exact ⟨by rw [own_lf73 p0 p1 p2 p3 p4 x3 hT11_2 hc16_4 hc16_7], e0, rfl⟩
  · rw [show (own_l2 p0 p1) = (0 : Int32) from (if_neg hT11_2)]
    refine own_go T0 m 12 #[rv x0, rv x1, iv 0, iv x3] [] (fun t k => XS.istoreN X0.here hx rfl (hb hby d4_11) rfl rfl k) ?_
    refine own_go T0 m 13 #[rv x0, rv x1, iv 0, iv x3] [(.ref x1)] (fun t k => XS.aloadN X0.here hx rfl (hb hby d4_12) rfl rfl k) ?_
    refine own_go T0 m 14 #[rv x0, rv x1, iv 0, iv x3] [(.int 0), (.ref x1)] (fun t k => XS.iloadN X0.here hx rfl (hb hby d4_13) rfl k) ?_
    refine own_go T0 m 15 #[rv x0, rv x1, iv 0, iv x3] [(.int p0)] (own_iaload X0 hx hZ e0 Vp (j := (0 : Int32)) ⟨by decide, by decide⟩ rfl (hb hby d4_14)) ?_
    refine own_go T0 m 16 #[rv x0, rv x1, iv 0, iv x3] [(.int x3), (.int p0)] (fun t k => XS.iloadN X0.here hx rfl (hb hby d4_15) rfl k) ?_
    by_cases hc16_9 : p0 = x3
    · refine own_go T0 m 19 #[rv x0, rv x1, iv 0, iv x3] [] (fun t k => XS.icmpNo X0.here hx rfl (hb hby d4_16) rfl (teq hc16_9).2 k) ?_
      refine own_go T0 m 20 #[rv x0, rv x1, iv 0, iv x3] [(.int 0)] (fun t k => XS.iloadN X0.here hx rfl (hb hby d4_19) rfl k) ?_
      refine own_retI X0 hx hlk hret (hb hby d4_20) (by decide) (by decide) ?_
      exact ⟨by rw [own_lf74 p0 p1 p2 p3 p4 x3 hT11_2 hc16_9], e0, rfl⟩
    · refine own_go T0 m 0 #[rv x0, rv x1, iv 0, iv x3] [] (fun t k => XS.icmpYes X0.here hx rfl (pc0 := 16) (pc' := 0) rfl (hb hby d4_16) rfl (feq hc16_9).2 (by decide) (by decide) k) ?_
      refine own_go T0 m 1 #[rv x0, rv x1, iv 0, iv x3] [(.int 0)] (fun t k => XS.iloadN X0.here hx rfl (hb hby d4_0) rfl k) ?_
      refine own_go T0 m 4 #[rv x0, rv x1, iv 0, iv x3] [] (fun t k => XS.ifNo X0.here hx rfl (hb hby d4_1) rfl ((if0 _ _).trans (teq (by decide)).2) k) ?_
      refine own_go T0 m 5 #[rv x0, rv x1, iv 0, iv x3] [(.int (-1))] (fun t k => XS.iconst X0.here hx rfl (hb hby d4_4) k) ?_
      refine own_retI X0 hx hlk hret (hb hby d4_5) (by decide) (by decide) ?_
      exact ⟨by rw [own_lf75 p0 p1 p2 p3 p4 x3 hT11_2 hc16_9], e0, rfl⟩
theorem own_lf76 (p0 p1 p2 p3 p4 x3 : Int32) (hT11_2 : p0 = p1 ∧ p1 = p2) (hc16_4 : p2 = x3) : own_ref3 p0 p1 p2 p3 x3 = (2 : Int32) := by
  unfold own_ref3
  grind
theorem own_lf77 (p0 p1 p2 p3 p4 x3 : Int32) (hT11_2 : p0 = p1 ∧ p1 = p2) (hc16_4 : ¬ (p2 = x3)) (hT11_6 : p0 = p1) (hc16_8 : p1 = x3) : own_ref3 p0 p1 p2 p3 x3 = (1 : Int32) := by
  unfold own_ref3
  grind
theorem own_lf78 (p0 p1 p2 p3 p4 x3 : Int32) (hT11_2 : p0 = p1 ∧ p1 = p2) (hc16_4 : ¬ (p2 = x3)) (hT11_6 : p0 = p1) (hc16_8 : ¬ (p1 = x3)) (hc16_11 : p0 = x3) : own_ref3 p0 p1 p2 p3 x3 = (0 : Int32) := by
  unfold own_ref3
  grind
theorem own_lf79 (p0 p1 p2 p3 p4 x3 : Int32) (hT11_2 : p0 = p1 ∧ p1 = p2) (hc16_4 : ¬ (p2 = x3)) (hT11_6 : p0 = p1) (hc16_8 : ¬ (p1 = x3)) (hc16_11 : ¬ (p0 = x3)) : own_ref3 p0 p1 p2 p3 x3 = (-1 : Int32) := by
  unfold own_ref3
  grind
theorem own_lf80 (p0 p1 p2 p3 p4 x3 : Int32) (hT11_2 : p0 = p1 ∧ p1 = p2) (hc16_4 : ¬ (p2 = x3)) (hT11_6 : ¬ (p0 = p1)) (hc16_13 : p0 = x3) : own_ref3 p0 p1 p2 p3 x3 = (0 : Int32) := by
  unfold own_ref3
  grind
theorem own_lf81 (p0 p1 p2 p3 p4 x3 : Int32) (hT11_2 : p0 = p1 ∧ p1 = p2) (hc16_4 : ¬ (p2 = x3)) (hT11_6 : ¬ (p0 = p1)) (hc16_13 : ¬ (p0 = x3)) : own_ref3 p0 p1 p2 p3 x3 = (-1 : Int32) := by
  unfold own_ref3
  grind
theorem own_lf82 (p0 p1 p2 p3 p4 x3 : Int32) (hT11_2 : ¬ (p0 = p1 ∧ p1 = p2)) (hT11_14 : p0 = p2) (hc16_16 : p1 = x3) : own_ref3 p0 p1 p2 p3 x3 = (1 : Int32) := by
  unfold own_ref3
  grind
theorem own_lf83 (p0 p1 p2 p3 p4 x3 : Int32) (hT11_2 : ¬ (p0 = p1 ∧ p1 = p2)) (hT11_14 : p0 = p2) (hc16_16 : ¬ (p1 = x3)) (hc16_19 : p0 = x3) : own_ref3 p0 p1 p2 p3 x3 = (0 : Int32) := by
  unfold own_ref3
  grind
theorem own_lf84 (p0 p1 p2 p3 p4 x3 : Int32) (hT11_2 : ¬ (p0 = p1 ∧ p1 = p2)) (hT11_14 : p0 = p2) (hc16_16 : ¬ (p1 = x3)) (hc16_19 : ¬ (p0 = x3)) : own_ref3 p0 p1 p2 p3 x3 = (-1 : Int32) := by
  unfold own_ref3
  grind
theorem own_lf85 (p0 p1 p2 p3 p4 x3 : Int32) (hT11_2 : ¬ (p0 = p1 ∧ p1 = p2)) (hT11_14 : ¬ (p0 = p2)) (hc16_21 : p0 = x3) : own_ref3 p0 p1 p2 p3 x3 = (0 : Int32) := by
  unfold own_ref3
  grind
theorem own_lf86 (p0 p1 p2 p3 p4 x3 : Int32) (hT11_2 : ¬ (p0 = p1 ∧ p1 = p2)) (hT11_14 : ¬ (p0 = p2)) (hc16_21 : ¬ (p0 = x3)) : own_ref3 p0 p1 p2 p3 x3 = (-1 : Int32) := by
  unfold own_ref3
  grind
theorem ef_rmF3 (m : MethodId) (q0 : Addr) (q1 : Addr) (q2 : Int32) (q3 : Int32) : entryFrame m #[(.ref q0), (.ref q1), (.int q2), (.int q3)] 4 = mkF m 0 #[rv q0, rv q1, iv q2, iv q3] [] := by first | (simp [entryFrame, mkF, argsToLocals, Value.category]; done) | rfl
set_option maxRecDepth 65536 in
set_option maxHeartbeats 40000000 in
theorem rmF3 (l : Launch) (Z : State) (a0 : Array Value) (hw : ∀ d ∈ tables_1, d.before a0 Z = true) (ws : List Jvm.Cond) (x0 : Addr) (x1 : Addr) (x3 : Int32) (kp : ClassId) (p0 p1 p2 p3 p4 : Int32) (kt : ClassId) (h0 : Heap) (Vp : Arv Z h0 x1 kp .int 5 [(.int p0), (.int p1), (.int p2), (.int p3), (.int p4)] (.int 0)) (Vt : Arv Z h0 x0 kt .int 5 [(.int 0), (.int (own_l2 p0 p1)), (.int (own_l3 p0 p1 p2)), (.int (own_l4 p0 p1 p2 p3)), (.int 0)] (.int 0)) :
    OwnC l Z (⟨"com/example/substring_search/substringsearch/PrefixTable", "fallBack", "([I[III)I"⟩ : MethodName) prog_4_method_4_code 4 (some .int) ws ({ frames := 0, cells := 0, slots := 0, locals := 0 } : Room) #[(.ref x0), (.ref x1), (.int 3), (.int x3)] h0 (OwnPure (.int (own_ref3 p0 p1 p2 p3 x3)) h0) := by
  refine own_entry pf_com_example_substring_search_substringsearch_PrefixTable_fallBack___I_III_I (fun m => ef_rmF3 m x0 x1 (3 : Int32) x3) ?_
  intro p e s m below meth c T0 X0 hC e0
  obtain ⟨hx, hby, hml, hown, hnm, hret, hlk, hZ⟩ := hC
  refine own_go T0 m 1 #[rv x0, rv x1, iv 3, iv x3] [(.int 3)] (fun t k => XS.iloadN X0.here hx rfl (hb hby d4_0) rfl k) ?_
  refine own_go T0 m 6 #[rv x0, rv x1, iv 3, iv x3] [] (fun t k => XS.ifYes X0.here hx rfl (pc0 := 1) (pc' := 6) rfl (hb hby d4_1) rfl ((if0 _ _).trans (feq (by decide)).2) (by decide) (by decide) k) ?_
  refine own_go T0 m 7 #[rv x0, rv x1, iv 3, iv x3] [(.ref x0)] (fun t k => XS.aloadN X0.here hx rfl (hb hby d4_6) rfl rfl k) ?_
  refine own_go T0 m 8 #[rv x0, rv x1, iv 3, iv x3] [(.int 3), (.ref x0)] (fun t k => XS.iloadN X0.here hx rfl (hb hby d4_7) rfl k) ?_
  refine own_go T0 m 9 #[rv x0, rv x1, iv 3, iv x3] [(.int 1), (.int 3), (.ref x0)] (fun t k => XS.iconst X0.here hx rfl (hb hby d4_8) k) ?_
  refine own_go T0 m 10 #[rv x0, rv x1, iv 3, iv x3] [(.int ((3 : Int32) - (1 : Int32))), (.ref x0)] (fun t k => XS.isub X0.here hx rfl (hb hby d4_9) rfl k) ?_
  rw [show ((3 : Int32) - (1 : Int32)) = (2 : Int32) from by decide]
  refine own_go T0 m 11 #[rv x0, rv x1, iv 3, iv x3] [(.int (own_l3 p0 p1 p2))] (own_iaload X0 hx hZ e0 Vt (j := (2 : Int32)) ⟨by decide, by decide⟩ rfl (hb hby d4_10)) ?_
  by_cases hT11_2 : p0 = p1 ∧ p1 = p2
  · rw [show (own_l3 p0 p1 p2) = (2 : Int32) from (if_pos hT11_2)]
    refine own_go T0 m 12 #[rv x0, rv x1, iv 2, iv x3] [] (fun t k => XS.istoreN X0.here hx rfl (hb hby d4_11) rfl rfl k) ?_
    refine own_go T0 m 13 #[rv x0, rv x1, iv 2, iv x3] [(.ref x1)] (fun t k => XS.aloadN X0.here hx rfl (hb hby d4_12) rfl rfl k) ?_
    refine own_go T0 m 14 #[rv x0, rv x1, iv 2, iv x3] [(.int 2), (.ref x1)] (fun t k => XS.iloadN X0.here hx rfl (hb hby d4_13) rfl k) ?_
    refine own_go T0 m 15 #[rv x0, rv x1, iv 2, iv x3] [(.int p2)] (own_iaload X0 hx hZ e0 Vp (j := (2 : Int32)) ⟨by decide, by decide⟩ rfl (hb hby d4_14)) ?_
    refine own_go T0 m 16 #[rv x0, rv x1, iv 2, iv x3] [(.int x3), (.int p2)] (fun t k => XS.iloadN X0.here hx rfl (hb hby d4_15) rfl k) ?_
    by_cases hc16_4 : p2 = x3
    · refine own_go T0 m 19 #[rv x0, rv x1, iv 2, iv x3] [] (fun t k => XS.icmpNo X0.here hx rfl (hb hby d4_16) rfl (teq hc16_4).2 k) ?_
      refine own_go T0 m 20 #[rv x0, rv x1, iv 2, iv x3] [(.int 2)] (fun t k => XS.iloadN X0.here hx rfl (hb hby d4_19) rfl k) ?_
      refine own_retI X0 hx hlk hret (hb hby d4_20) (by decide) (by decide) ?_
      exact ⟨by rw [own_lf76 p0 p1 p2 p3 p4 x3 hT11_2 hc16_4], e0, rfl⟩
    · refine own_go T0 m 0 #[rv x0, rv x1, iv 2, iv x3] [] (fun t k => XS.icmpYes X0.here hx rfl (pc0 := 16) (pc' := 0) rfl (hb hby d4_16) rfl (feq hc16_4).2 (by decide) (by decide) k) ?_
      refine own_go T0 m 1 #[rv x0, rv x1, iv 2, iv x3] [(.int 2)] (fun t k => XS.iloadN X0.here hx rfl (hb hby d4_0) rfl k) ?_
      refine own_go T0 m 6 #[rv x0, rv x1, iv 2, iv x3] [] (fun t k => XS.ifYes X0.here hx rfl (pc0 := 1) (pc' := 6) rfl (hb hby d4_1) rfl ((if0 _ _).trans (feq (by decide)).2) (by decide) (by decide) k) ?_
      refine own_go T0 m 7 #[rv x0, rv x1, iv 2, iv x3] [(.ref x0)] (fun t k => XS.aloadN X0.here hx rfl (hb hby d4_6) rfl rfl k) ?_
      refine own_go T0 m 8 #[rv x0, rv x1, iv 2, iv x3] [(.int 2), (.ref x0)] (fun t k => XS.iloadN X0.here hx rfl (hb hby d4_7) rfl k) ?_
      refine own_go T0 m 9 #[rv x0, rv x1, iv 2, iv x3] [(.int 1), (.int 2), (.ref x0)] (fun t k => XS.iconst X0.here hx rfl (hb hby d4_8) k) ?_
      refine own_go T0 m 10 #[rv x0, rv x1, iv 2, iv x3] [(.int ((2 : Int32) - (1 : Int32))), (.ref x0)] (fun t k => XS.isub X0.here hx rfl (hb hby d4_9) rfl k) ?_
      rw [show ((2 : Int32) - (1 : Int32)) = (1 : Int32) from by decide]
      refine own_go T0 m 11 #[rv x0, rv x1, iv 2, iv x3] [(.int (own_l2 p0 p1))] (own_iaload X0 hx hZ e0 Vt (j := (1 : Int32)) ⟨by decide, by decide⟩ rfl (hb hby d4_10)) ?_
      by_cases hT11_6 : p0 = p1
      · rw [show (own_l2 p0 p1) = (1 : Int32) from (if_pos hT11_6)]
        refine own_go T0 m 12 #[rv x0, rv x1, iv 1, iv x3] [] (fun t k => XS.istoreN X0.here hx rfl (hb hby d4_11) rfl rfl k) ?_
        refine own_go T0 m 13 #[rv x0, rv x1, iv 1, iv x3] [(.ref x1)] (fun t k => XS.aloadN X0.here hx rfl (hb hby d4_12) rfl rfl k) ?_
        refine own_go T0 m 14 #[rv x0, rv x1, iv 1, iv x3] [(.int 1), (.ref x1)] (fun t k => XS.iloadN X0.here hx rfl (hb hby d4_13) rfl k) ?_
        refine own_go T0 m 15 #[rv x0, rv x1, iv 1, iv x3] [(.int p1)] (own_iaload X0 hx hZ e0 Vp (j := (1 : Int32)) ⟨by decide, by decide⟩ rfl (hb hby d4_14)) ?_
        refine own_go T0 m 16 #[rv x0, rv x1, iv 1, iv x3] [(.int x3), (.int p1)] (fun t k => XS.iloadN X0.here hx rfl (hb hby d4_15) rfl k) ?_
        by_cases hc16_8 : p1 = x3
        · refine own_go T0 m 19 #[rv x0, rv x1, iv 1, iv x3] [] (fun t k => XS.icmpNo X0.here hx rfl (hb hby d4_16) rfl (teq hc16_8).2 k) ?_
          refine own_go T0 m 20 #[rv x0, rv x1, iv 1, iv x3] [(.int 1)] (fun t k => XS.iloadN X0.here hx rfl (hb hby d4_19) rfl k) ?_
          refine own_retI X0 hx hlk hret (hb hby d4_20) (by decide) (by decide) ?_
          exact ⟨by rw [own_lf77 p0 p1 p2 p3 p4 x3 hT11_2 hc16_4 hT11_6 hc16_8], e0, rfl⟩
        · refine own_go T0 m 0 #[rv x0, rv x1, iv 1, iv x3] [] (fun t k => XS.icmpYes X0.here hx rfl (pc0 := 16) (pc' := 0) rfl (hb hby d4_16) rfl (feq hc16_8).2 (by decide) (by decide) k) ?_
          refine own_go T0 m 1 #[rv x0, rv x1, iv 1, iv x3] [(.int 1)] (fun t k => XS.iloadN X0.here hx rfl (hb hby d4_0) rfl k) ?_
          refine own_go T0 m 6 #[rv x0, rv x1, iv 1, iv x3] [] (fun t k => XS.ifYes X0.here hx rfl (pc0 := 1) (pc' := 6) rfl (hb hby d4_1) rfl ((if0 _ _).trans (feq (by decide)).2) (by decide) (by decide) k) ?_
          refine own_go T0 m 7 #[rv x0, rv x1, iv 1, iv x3] [(.ref x0)] (fun t k => XS.aloadN X0.here hx rfl (hb hby d4_6) rfl rfl k) ?_
          refine own_go T0 m 8 #[rv x0, rv x1, iv 1, iv x3] [(.int 1), (.ref x0)] (fun t k => XS.iloadN X0.here hx rfl (hb hby d4_7) rfl k) ?_
          refine own_go T0 m 9 #[rv x0, rv x1, iv 1, iv x3] [(.int 1), (.int 1), (.ref x0)] (fun t k => XS.iconst X0.here hx rfl (hb hby d4_8) k) ?_
          refine own_go T0 m 10 #[rv x0, rv x1, iv 1, iv x3] [(.int ((1 : Int32) - (1 : Int32))), (.ref x0)] (fun t k => XS.isub X0.here hx rfl (hb hby d4_9) rfl k) ?_
          rw [show ((1 : Int32) - (1 : Int32)) = (0 : Int32) from by decide]
          refine own_go T0 m 11 #[rv x0, rv x1, iv 1, iv x3] [(.int 0)] (own_iaload X0 hx hZ e0 Vt (j := (0 : Int32)) ⟨by decide, by decide⟩ rfl (hb hby d4_10)) ?_
          refine own_go T0 m 12 #[rv x0, rv x1, iv 0, iv x3] [] (fun t k => XS.istoreN X0.here hx rfl (hb hby d4_11) rfl rfl k) ?_
          refine own_go T0 m 13 #[rv x0, rv x1, iv 0, iv x3] [(.ref x1)] (fun t k => XS.aloadN X0.here hx rfl (hb hby d4_12) rfl rfl k) ?_
          refine own_go T0 m 14 #[rv x0, rv x1, iv 0, iv x3] [(.int 0), (.ref x1)] (fun t k => XS.iloadN X0.here hx rfl (hb hby d4_13) rfl k) ?_
          refine own_go T0 m 15 #[rv x0, rv x1, iv 0, iv x3] [(.int p0)] (own_iaload X0 hx hZ e0 Vp (j := (0 : Int32)) ⟨by decide, by decide⟩ rfl (hb hby d4_14)) ?_
          refine own_go T0 m 16 #[rv x0, rv x1, iv 0, iv x3] [(.int x3), (.int p0)] (fun t k => XS.iloadN X0.here hx rfl (hb hby d4_15) rfl k) ?_
          by_cases hc16_11 : p0 = x3
          · refine own_go T0 m 19 #[rv x0, rv x1, iv 0, iv x3] [] (fun t k => XS.icmpNo X0.here hx rfl (hb hby d4_16) rfl (teq hc16_11).2 k) ?_
            refine own_go T0 m 20 #[rv x0, rv x1, iv 0, iv x3] [(.int 0)] (fun t k => XS.iloadN X0.here hx rfl (hb hby d4_19) rfl k) ?_
            refine own_retI X0 hx hlk hret (hb hby d4_20) (by decide) (by decide) ?_
            exact ⟨by rw [own_lf78 p0 p1 p2 p3 p4 x3 hT11_2 hc16_4 hT11_6 hc16_8 hc16_11], e0, rfl⟩
          · refine own_go T0 m 0 #[rv x0, rv x1, iv 0, iv x3] [] (fun t k => XS.icmpYes X0.here hx rfl (pc0 := 16) (pc' := 0) rfl (hb hby d4_16) rfl (feq hc16_11).2 (by decide) (by decide) k) ?_
            refine own_go T0 m 1 #[rv x0, rv x1, iv 0, iv x3] [(.int 0)] (fun t k => XS.iloadN X0.here hx rfl (hb hby d4_0) rfl k) ?_
            refine own_go T0 m 4 #[rv x0, rv x1, iv 0, iv x3] [] (fun t k => XS.ifNo X0.here hx rfl (hb hby d4_1) rfl ((if0 _ _).trans (teq (by decide)).2) k) ?_
            refine own_go T0 m 5 #[rv x0, rv x1, iv 0, iv x3] [(.int (-1))] (fun t k => XS.iconst X0.here hx rfl (hb hby d4_4) k) ?_
            refine own_retI X0 hx hlk hret (hb hby d4_5) (by decide) (by decide) ?_
            exact ⟨by rw [own_lf79 p0 p1 p2 p3 p4 x3 hT11_2 hc16_4 hT11_6 hc16_8 hc16_11], e0, rfl⟩
      · rw [show (own_l2 p0 p1) = (0 : Int32) from (if_neg hT11_6)]
        refine own_go T0 m 12 #[rv x0, rv x1, iv 0, iv x3] [] (fun t k => XS.istoreN X0.here hx rfl (hb hby d4_11) rfl rfl k) ?_
        refine own_go T0 m 13 #[rv x0, rv x1, iv 0, iv x3] [(.ref x1)] (fun t k => XS.aloadN X0.here hx rfl (hb hby d4_12) rfl rfl k) ?_
        refine own_go T0 m 14 #[rv x0, rv x1, iv 0, iv x3] [(.int 0), (.ref x1)] (fun t k => XS.iloadN X0.here hx rfl (hb hby d4_13) rfl k) ?_
        refine own_go T0 m 15 #[rv x0, rv x1, iv 0, iv x3] [(.int p0)] (own_iaload X0 hx hZ e0 Vp (j := (0 : Int32)) ⟨by decide, by decide⟩ rfl (hb hby d4_14)) ?_
        refine own_go T0 m 16 #[rv x0, rv x1, iv 0, iv x3] [(.int x3), (.int p0)] (fun t k => XS.iloadN X0.here hx rfl (hb hby d4_15) rfl k) ?_
        by_cases hc16_13 : p0 = x3
        · refine own_go T0 m 19 #[rv x0, rv x1, iv 0, iv x3] [] (fun t k => XS.icmpNo X0.here hx rfl (hb hby d4_16) rfl (teq hc16_13).2 k) ?_
          refine own_go T0 m 20 #[rv x0, rv x1, iv 0, iv x3] [(.int 0)] (fun t k => XS.iloadN X0.here hx rfl (hb hby d4_19) rfl k) ?_
          refine own_retI X0 hx hlk hret (hb hby d4_20) (by decide) (by decide) ?_
          exact ⟨by rw [own_lf80 p0 p1 p2 p3 p4 x3 hT11_2 hc16_4 hT11_6 hc16_13], e0, rfl⟩
        · refine own_go T0 m 0 #[rv x0, rv x1, iv 0, iv x3] [] (fun t k => XS.icmpYes X0.here hx rfl (pc0 := 16) (pc' := 0) rfl (hb hby d4_16) rfl (feq hc16_13).2 (by decide) (by decide) k) ?_
          refine own_go T0 m 1 #[rv x0, rv x1, iv 0, iv x3] [(.int 0)] (fun t k => XS.iloadN X0.here hx rfl (hb hby d4_0) rfl k) ?_
          refine own_go T0 m 4 #[rv x0, rv x1, iv 0, iv x3] [] (fun t k => XS.ifNo X0.here hx rfl (hb hby d4_1) rfl ((if0 _ _).trans (teq (by decide)).2) k) ?_
          refine own_go T0 m 5 #[rv x0, rv x1, iv 0, iv x3] [(.int (-1))] (fun t k => XS.iconst X0.here hx rfl (hb hby d4_4) k) ?_
          refine own_retI X0 hx hlk hret (hb hby d4_5) (by decide) (by decide) ?_
          exact ⟨by rw [own_lf81 p0 p1 p2 p3 p4 x3 hT11_2 hc16_4 hT11_6 hc16_13], e0, rfl⟩
  · by_cases hT11_14 : p0 = p2
    · rw [show (own_l3 p0 p1 p2) = (1 : Int32) from ((if_neg hT11_2).trans (if_pos hT11_14))]
      refine own_go T0 m 12 #[rv x0, rv x1, iv 1, iv x3] [] (fun t k => XS.istoreN X0.here hx rfl (hb hby d4_11) rfl rfl k) ?_
      refine own_go T0 m 13 #[rv x0, rv x1, iv 1, iv x3] [(.ref x1)] (fun t k => XS.aloadN X0.here hx rfl (hb hby d4_12) rfl rfl k) ?_
      refine own_go T0 m 14 #[rv x0, rv x1, iv 1, iv x3] [(.int 1), (.ref x1)] (fun t k => XS.iloadN X0.here hx rfl (hb hby d4_13) rfl k) ?_
      refine own_go T0 m 15 #[rv x0, rv x1, iv 1, iv x3] [(.int p1)] (own_iaload X0 hx hZ e0 Vp (j := (1 : Int32)) ⟨by decide, by decide⟩ rfl (hb hby d4_14)) ?_
      refine own_go T0 m 16 #[rv x0, rv x1, iv 1, iv x3] [(.int x3), (.int p1)] (fun t k => XS.iloadN X0.here hx rfl (hb hby d4_15) rfl k) ?_
      by_cases hc16_16 : p1 = x3
      · refine own_go T0 m 19 #[rv x0, rv x1, iv 1, iv x3] [] (fun t k => XS.icmpNo X0.here hx rfl (hb hby d4_16) rfl (teq hc16_16).2 k) ?_
        refine own_go T0 m 20 #[rv x0, rv x1, iv 1, iv x3] [(.int 1)] (fun t k => XS.iloadN X0.here hx rfl (hb hby d4_19) rfl k) ?_
        refine own_retI X0 hx hlk hret (hb hby d4_20) (by decide) (by decide) ?_
        exact ⟨by rw [own_lf82 p0 p1 p2 p3 p4 x3 hT11_2 hT11_14 hc16_16], e0, rfl⟩
      · refine own_go T0 m 0 #[rv x0, rv x1, iv 1, iv x3] [] (fun t k => XS.icmpYes X0.here hx rfl (pc0 := 16) (pc' := 0) rfl (hb hby d4_16) rfl (feq hc16_16).2 (by decide) (by decide) k) ?_
        refine own_go T0 m 1 #[rv x0, rv x1, iv 1, iv x3] [(.int 1)] (fun t k => XS.iloadN X0.here hx rfl (hb hby d4_0) rfl k) ?_
        refine own_go T0 m 6 #[rv x0, rv x1, iv 1, iv x3] [] (fun t k => XS.ifYes X0.here hx rfl (pc0 := 1) (pc' := 6) rfl (hb hby d4_1) rfl ((if0 _ _).trans (feq (by decide)).2) (by decide) (by decide) k) ?_
        refine own_go T0 m 7 #[rv x0, rv x1, iv 1, iv x3] [(.ref x0)] (fun t k => XS.aloadN X0.here hx rfl (hb hby d4_6) rfl rfl k) ?_
        refine own_go T0 m 8 #[rv x0, rv x1, iv 1, iv x3] [(.int 1), (.ref x0)] (fun t k => XS.iloadN X0.here hx rfl (hb hby d4_7) rfl k) ?_
        refine own_go T0 m 9 #[rv x0, rv x1, iv 1, iv x3] [(.int 1), (.int 1), (.ref x0)] (fun t k => XS.iconst X0.here hx rfl (hb hby d4_8) k) ?_
        refine own_go T0 m 10 #[rv x0, rv x1, iv 1, iv x3] [(.int ((1 : Int32) - (1 : Int32))), (.ref x0)] (fun t k => XS.isub X0.here hx rfl (hb hby d4_9) rfl k) ?_
        rw [show ((1 : Int32) - (1 : Int32)) = (0 : Int32) from by decide]
        refine own_go T0 m 11 #[rv x0, rv x1, iv 1, iv x3] [(.int 0)] (own_iaload X0 hx hZ e0 Vt (j := (0 : Int32)) ⟨by decide, by decide⟩ rfl (hb hby d4_10)) ?_
        refine own_go T0 m 12 #[rv x0, rv x1, iv 0, iv x3] [] (fun t k => XS.istoreN X0.here hx rfl (hb hby d4_11) rfl rfl k) ?_
        refine own_go T0 m 13 #[rv x0, rv x1, iv 0, iv x3] [(.ref x1)] (fun t k => XS.aloadN X0.here hx rfl (hb hby d4_12) rfl rfl k) ?_
        refine own_go T0 m 14 #[rv x0, rv x1, iv 0, iv x3] [(.int 0), (.ref x1)] (fun t k => XS.iloadN X0.here hx rfl (hb hby d4_13) rfl k) ?_
        refine own_go T0 m 15 #[rv x0, rv x1, iv 0, iv x3] [(.int p0)] (own_iaload X0 hx hZ e0 Vp (j := (0 : Int32)) ⟨by decide, by decide⟩ rfl (hb hby d4_14)) ?_
        refine own_go T0 m 16 #[rv x0, rv x1, iv 0, iv x3] [(.int x3), (.int p0)] (fun t k => XS.iloadN X0.here hx rfl (hb hby d4_15) rfl k) ?_
        by_cases hc16_19 : p0 = x3
        · refine own_go T0 m 19 #[rv x0, rv x1, iv 0, iv x3] [] (fun t k => XS.icmpNo X0.here hx rfl (hb hby d4_16) rfl (teq hc16_19).2 k) ?_
          refine own_go T0 m 20 #[rv x0, rv x1, iv 0, iv x3] [(.int 0)] (fun t k => XS.iloadN X0.here hx rfl (hb hby d4_19) rfl k) ?_
          refine own_retI X0 hx hlk hret (hb hby d4_20) (by decide) (by decide) ?_
          exact ⟨by rw [own_lf83 p0 p1 p2 p3 p4 x3 hT11_2 hT11_14 hc16_16 hc16_19], e0, rfl⟩
        · refine own_go T0 m 0 #[rv x0, rv x1, iv 0, iv x3] [] (fun t k => XS.icmpYes X0.here hx rfl (pc0 := 16) (pc' := 0) rfl (hb hby d4_16) rfl (feq hc16_19).2 (by decide) (by decide) k) ?_
          refine own_go T0 m 1 #[rv x0, rv x1, iv 0, iv x3] [(.int 0)] (fun t k => XS.iloadN X0.here hx rfl (hb hby d4_0) rfl k) ?_
          refine own_go T0 m 4 #[rv x0, rv x1, iv 0, iv x3] [] (fun t k => XS.ifNo X0.here hx rfl (hb hby d4_1) rfl ((if0 _ _).trans (teq (by decide)).2) k) ?_
          refine own_go T0 m 5 #[rv x0, rv x1, iv 0, iv x3] [(.int (-1))] (fun t k => XS.iconst X0.here hx rfl (hb hby d4_4) k) ?_
          refine own_retI X0 hx hlk hret (hb hby d4_5) (by decide) (by decide) ?_
          exact ⟨by rw [own_lf84 p0 p1 p2 p3 p4 x3 hT11_2 hT11_14 hc16_16 hc16_19], e0, rfl⟩
    · rw [show (own_l3 p0 p1 p2) = (0 : Int32) from ((if_neg hT11_2).trans (if_neg hT11_14))]
      refine own_go T0 m 12 #[rv x0, rv x1, iv 0, iv x3] [] (fun t k => XS.istoreN X0.here hx rfl (hb hby d4_11) rfl rfl k) ?_
      refine own_go T0 m 13 #[rv x0, rv x1, iv 0, iv x3] [(.ref x1)] (fun t k => XS.aloadN X0.here hx rfl (hb hby d4_12) rfl rfl k) ?_
      refine own_go T0 m 14 #[rv x0, rv x1, iv 0, iv x3] [(.int 0), (.ref x1)] (fun t k => XS.iloadN X0.here hx rfl (hb hby d4_13) rfl k) ?_
      refine own_go T0 m 15 #[rv x0, rv x1, iv 0, iv x3] [(.int p0)] (own_iaload X0 hx hZ e0 Vp (j := (0 : Int32)) ⟨by decide, by decide⟩ rfl (hb hby d4_14)) ?_
      refine own_go T0 m 16 #[rv x0, rv x1, iv 0, iv x3] [(.int x3), (.int p0)] (fun t k => XS.iloadN X0.here hx rfl (hb hby d4_15) rfl k) ?_
      by_cases hc16_21 : p0 = x3
      · refine own_go T0 m 19 #[rv x0, rv x1, iv 0, iv x3] [] (fun t k => XS.icmpNo X0.here hx rfl (hb hby d4_16) rfl (teq hc16_21).2 k) ?_
        refine own_go T0 m 20 #[rv x0, rv x1, iv 0, iv x3] [(.int 0)] (fun t k => XS.iloadN X0.here hx rfl (hb hby d4_19) rfl k) ?_
        refine own_retI X0 hx hlk hret (hb hby d4_20) (by decide) (by decide) ?_
        exact ⟨by rw [own_lf85 p0 p1 p2 p3 p4 x3 hT11_2 hT11_14 hc16_21], e0, rfl⟩
      · refine own_go T0 m 0 #[rv x0, rv x1, iv 0, iv x3] [] (fun t k => XS.icmpYes X0.here hx rfl (pc0 := 16) (pc' := 0) rfl (hb hby d4_16) rfl (feq hc16_21).2 (by decide) (by decide) k) ?_
        refine own_go T0 m 1 #[rv x0, rv x1, iv 0, iv x3] [(.int 0)] (fun t k => XS.iloadN X0.here hx rfl (hb hby d4_0) rfl k) ?_
        refine own_go T0 m 4 #[rv x0, rv x1, iv 0, iv x3] [] (fun t k => XS.ifNo X0.here hx rfl (hb hby d4_1) rfl ((if0 _ _).trans (teq (by decide)).2) k) ?_
        refine own_go T0 m 5 #[rv x0, rv x1, iv 0, iv x3] [(.int (-1))] (fun t k => XS.iconst X0.here hx rfl (hb hby d4_4) k) ?_
        refine own_retI X0 hx hlk hret (hb hby d4_5) (by decide) (by decide) ?_
        exact ⟨by rw [own_lf86 p0 p1 p2 p3 p4 x3 hT11_2 hT11_14 hc16_21], e0, rfl⟩
theorem own_lf87 (p0 p1 p2 p3 p4 x3 : Int32) (hT11_2 : p0 = p1 ∧ p1 = p2 ∧ p2 = p3) (hc16_4 : p3 = x3) : own_ref4 p0 p1 p2 p3 x3 = (3 : Int32) := by
  unfold own_ref4
  grind
theorem own_lf88 (p0 p1 p2 p3 p4 x3 : Int32) (hT11_2 : p0 = p1 ∧ p1 = p2 ∧ p2 = p3) (hc16_4 : ¬ (p3 = x3)) (hT11_6 : p0 = p1 ∧ p1 = p2) (hc16_8 : p2 = x3) : own_ref4 p0 p1 p2 p3 x3 = (2 : Int32) := by
  unfold own_ref4
  grind
theorem own_lf89 (p0 p1 p2 p3 p4 x3 : Int32) (hT11_2 : p0 = p1 ∧ p1 = p2 ∧ p2 = p3) (hc16_4 : ¬ (p3 = x3)) (hT11_6 : p0 = p1 ∧ p1 = p2) (hc16_8 : ¬ (p2 = x3)) (hT11_10 : p0 = p1) (hc16_12 : p1 = x3) : own_ref4 p0 p1 p2 p3 x3 = (1 : Int32) := by
  unfold own_ref4
  grind
theorem own_lf90 (p0 p1 p2 p3 p4 x3 : Int32) (hT11_2 : p0 = p1 ∧ p1 = p2 ∧ p2 = p3) (hc16_4 : ¬ (p3 = x3)) (hT11_6 : p0 = p1 ∧ p1 = p2) (hc16_8 : ¬ (p2 = x3)) (hT11_10 : p0 = p1) (hc16_12 : ¬ (p1 = x3)) (hc16_15 : p0 = x3) : own_ref4 p0 p1 p2 p3 x3 = (0 : Int32) := by
  unfold own_ref4
  grind
theorem own_lf91 (p0 p1 p2 p3 p4 x3 : Int32) (hT11_2 : p0 = p1 ∧ p1 = p2 ∧ p2 = p3) (hc16_4 : ¬ (p3 = x3)) (hT11_6 : p0 = p1 ∧ p1 = p2) (hc16_8 : ¬ (p2 = x3)) (hT11_10 : p0 = p1) (hc16_12 : ¬ (p1 = x3)) (hc16_15 : ¬ (p0 = x3)) : own_ref4 p0 p1 p2 p3 x3 = (-1 : Int32) := by
  unfold own_ref4
  grind
theorem own_lf92 (p0 p1 p2 p3 p4 x3 : Int32) (hT11_2 : p0 = p1 ∧ p1 = p2 ∧ p2 = p3) (hc16_4 : ¬ (p3 = x3)) (hT11_6 : p0 = p1 ∧ p1 = p2) (hc16_8 : ¬ (p2 = x3)) (hT11_10 : ¬ (p0 = p1)) (hc16_17 : p0 = x3) : own_ref4 p0 p1 p2 p3 x3 = (0 : Int32) := by
  unfold own_ref4
  grind
theorem own_lf93 (p0 p1 p2 p3 p4 x3 : Int32) (hT11_2 : p0 = p1 ∧ p1 = p2 ∧ p2 = p3) (hc16_4 : ¬ (p3 = x3)) (hT11_6 : p0 = p1 ∧ p1 = p2) (hc16_8 : ¬ (p2 = x3)) (hT11_10 : ¬ (p0 = p1)) (hc16_17 : ¬ (p0 = x3)) : own_ref4 p0 p1 p2 p3 x3 = (-1 : Int32) := by
  unfold own_ref4
  grind
theorem own_lf94 (p0 p1 p2 p3 p4 x3 : Int32) (hT11_2 : p0 = p1 ∧ p1 = p2 ∧ p2 = p3) (hc16_4 : ¬ (p3 = x3)) (hT11_6 : ¬ (p0 = p1 ∧ p1 = p2)) (hT11_18 : p0 = p2) (hc16_20 : p1 = x3) : own_ref4 p0 p1 p2 p3 x3 = (1 : Int32) := by
  unfold own_ref4
  grind
theorem own_lf95 (p0 p1 p2 p3 p4 x3 : Int32) (hT11_2 : p0 = p1 ∧ p1 = p2 ∧ p2 = p3) (hc16_4 : ¬ (p3 = x3)) (hT11_6 : ¬ (p0 = p1 ∧ p1 = p2)) (hT11_18 : p0 = p2) (hc16_20 : ¬ (p1 = x3)) (hc16_23 : p0 = x3) : own_ref4 p0 p1 p2 p3 x3 = (0 : Int32) := by
  unfold own_ref4
  grind
theorem own_lf96 (p0 p1 p2 p3 p4 x3 : Int32) (hT11_2 : p0 = p1 ∧ p1 = p2 ∧ p2 = p3) (hc16_4 : ¬ (p3 = x3)) (hT11_6 : ¬ (p0 = p1 ∧ p1 = p2)) (hT11_18 : p0 = p2) (hc16_20 : ¬ (p1 = x3)) (hc16_23 : ¬ (p0 = x3)) : own_ref4 p0 p1 p2 p3 x3 = (-1 : Int32) := by
  unfold own_ref4
  grind
theorem own_lf97 (p0 p1 p2 p3 p4 x3 : Int32) (hT11_2 : p0 = p1 ∧ p1 = p2 ∧ p2 = p3) (hc16_4 : ¬ (p3 = x3)) (hT11_6 : ¬ (p0 = p1 ∧ p1 = p2)) (hT11_18 : ¬ (p0 = p2)) (hc16_25 : p0 = x3) : own_ref4 p0 p1 p2 p3 x3 = (0 : Int32) := by
  unfold own_ref4
  grind
theorem own_lf98 (p0 p1 p2 p3 p4 x3 : Int32) (hT11_2 : p0 = p1 ∧ p1 = p2 ∧ p2 = p3) (hc16_4 : ¬ (p3 = x3)) (hT11_6 : ¬ (p0 = p1 ∧ p1 = p2)) (hT11_18 : ¬ (p0 = p2)) (hc16_25 : ¬ (p0 = x3)) : own_ref4 p0 p1 p2 p3 x3 = (-1 : Int32) := by
  unfold own_ref4
  grind
theorem own_lf99 (p0 p1 p2 p3 p4 x3 : Int32) (hT11_2 : ¬ (p0 = p1 ∧ p1 = p2 ∧ p2 = p3)) (hT11_26 : p0 = p2 ∧ p1 = p3) (hc16_28 : p2 = x3) : own_ref4 p0 p1 p2 p3 x3 = (2 : Int32) := by
  unfold own_ref4
  grind
theorem own_lf100 (p0 p1 p2 p3 p4 x3 : Int32) (hT11_2 : ¬ (p0 = p1 ∧ p1 = p2 ∧ p2 = p3)) (hT11_26 : p0 = p2 ∧ p1 = p3) (hc16_28 : ¬ (p2 = x3)) (hT11_30 : p0 = p1) (hc16_32 : p1 = x3) : own_ref4 p0 p1 p2 p3 x3 = (1 : Int32) := by
  unfold own_ref4
  grind
theorem own_lf101 (p0 p1 p2 p3 p4 x3 : Int32) (hT11_2 : ¬ (p0 = p1 ∧ p1 = p2 ∧ p2 = p3)) (hT11_26 : p0 = p2 ∧ p1 = p3) (hc16_28 : ¬ (p2 = x3)) (hT11_30 : p0 = p1) (hc16_32 : ¬ (p1 = x3)) (hc16_35 : p0 = x3) : own_ref4 p0 p1 p2 p3 x3 = (0 : Int32) := by
  unfold own_ref4
  grind
theorem own_lf102 (p0 p1 p2 p3 p4 x3 : Int32) (hT11_2 : ¬ (p0 = p1 ∧ p1 = p2 ∧ p2 = p3)) (hT11_26 : p0 = p2 ∧ p1 = p3) (hc16_28 : ¬ (p2 = x3)) (hT11_30 : p0 = p1) (hc16_32 : ¬ (p1 = x3)) (hc16_35 : ¬ (p0 = x3)) : own_ref4 p0 p1 p2 p3 x3 = (-1 : Int32) := by
  unfold own_ref4
  grind
theorem own_lf103 (p0 p1 p2 p3 p4 x3 : Int32) (hT11_2 : ¬ (p0 = p1 ∧ p1 = p2 ∧ p2 = p3)) (hT11_26 : p0 = p2 ∧ p1 = p3) (hc16_28 : ¬ (p2 = x3)) (hT11_30 : ¬ (p0 = p1)) (hc16_37 : p0 = x3) : own_ref4 p0 p1 p2 p3 x3 = (0 : Int32) := by
  unfold own_ref4
  grind
theorem own_lf104 (p0 p1 p2 p3 p4 x3 : Int32) (hT11_2 : ¬ (p0 = p1 ∧ p1 = p2 ∧ p2 = p3)) (hT11_26 : p0 = p2 ∧ p1 = p3) (hc16_28 : ¬ (p2 = x3)) (hT11_30 : ¬ (p0 = p1)) (hc16_37 : ¬ (p0 = x3)) : own_ref4 p0 p1 p2 p3 x3 = (-1 : Int32) := by
  unfold own_ref4
  grind
theorem own_lf105 (p0 p1 p2 p3 p4 x3 : Int32) (hT11_2 : ¬ (p0 = p1 ∧ p1 = p2 ∧ p2 = p3)) (hT11_26 : ¬ (p0 = p2 ∧ p1 = p3)) (hT11_38 : p0 = p3) (hc16_40 : p1 = x3) : own_ref4 p0 p1 p2 p3 x3 = (1 : Int32) := by
  unfold own_ref4
  grind
theorem own_lf106 (p0 p1 p2 p3 p4 x3 : Int32) (hT11_2 : ¬ (p0 = p1 ∧ p1 = p2 ∧ p2 = p3)) (hT11_26 : ¬ (p0 = p2 ∧ p1 = p3)) (hT11_38 : p0 = p3) (hc16_40 : ¬ (p1 = x3)) (hc16_43 : p0 = x3) : own_ref4 p0 p1 p2 p3 x3 = (0 : Int32) := by
  unfold own_ref4
  grind
theorem own_lf107 (p0 p1 p2 p3 p4 x3 : Int32) (hT11_2 : ¬ (p0 = p1 ∧ p1 = p2 ∧ p2 = p3)) (hT11_26 : ¬ (p0 = p2 ∧ p1 = p3)) (hT11_38 : p0 = p3) (hc16_40 : ¬ (p1 = x3)) (hc16_43 : ¬ (p0 = x3)) : own_ref4 p0 p1 p2 p3 x3 = (-1 : Int32) := by
  unfold own_ref4
  grind
theorem own_lf108 (p0 p1 p2 p3 p4 x3 : Int32) (hT11_2 : ¬ (p0 = p1 ∧ p1 = p2 ∧ p2 = p3)) (hT11_26 : ¬ (p0 = p2 ∧ p1 = p3)) (hT11_38 : ¬ (p0 = p3)) (hc16_45 : p0 = x3) : own_ref4 p0 p1 p2 p3 x3 = (0 : Int32) := by
  unfold own_ref4
  grind
theorem own_lf109 (p0 p1 p2 p3 p4 x3 : Int32) (hT11_2 : ¬ (p0 = p1 ∧ p1 = p2 ∧ p2 = p3)) (hT11_26 : ¬ (p0 = p2 ∧ p1 = p3)) (hT11_38 : ¬ (p0 = p3)) (hc16_45 : ¬ (p0 = x3)) : own_ref4 p0 p1 p2 p3 x3 = (-1 : Int32) := by
  unfold own_ref4
  grind
theorem ef_rmF4 (m : MethodId) (q0 : Addr) (q1 : Addr) (q2 : Int32) (q3 : Int32) : entryFrame m #[(.ref q0), (.ref q1), (.int q2), (.int q3)] 4 = mkF m 0 #[rv q0, rv q1, iv q2, iv q3] [] := by first | (simp [entryFrame, mkF, argsToLocals, Value.category]; done) | rfl
set_option maxRecDepth 65536 in
set_option maxHeartbeats 40000000 in
theorem rmF4 (l : Launch) (Z : State) (a0 : Array Value) (hw : ∀ d ∈ tables_1, d.before a0 Z = true) (ws : List Jvm.Cond) (x0 : Addr) (x1 : Addr) (x3 : Int32) (kp : ClassId) (p0 p1 p2 p3 p4 : Int32) (kt : ClassId) (h0 : Heap) (Vp : Arv Z h0 x1 kp .int 5 [(.int p0), (.int p1), (.int p2), (.int p3), (.int p4)] (.int 0)) (Vt : Arv Z h0 x0 kt .int 5 [(.int 0), (.int (own_l2 p0 p1)), (.int (own_l3 p0 p1 p2)), (.int (own_l4 p0 p1 p2 p3)), (.int 0)] (.int 0)) :
    OwnC l Z (⟨"com/example/substring_search/substringsearch/PrefixTable", "fallBack", "([I[III)I"⟩ : MethodName) prog_4_method_4_code 4 (some .int) ws ({ frames := 0, cells := 0, slots := 0, locals := 0 } : Room) #[(.ref x0), (.ref x1), (.int 4), (.int x3)] h0 (OwnPure (.int (own_ref4 p0 p1 p2 p3 x3)) h0) := by
  refine own_entry pf_com_example_substring_search_substringsearch_PrefixTable_fallBack___I_III_I (fun m => ef_rmF4 m x0 x1 (4 : Int32) x3) ?_
  intro p e s m below meth c T0 X0 hC e0
  obtain ⟨hx, hby, hml, hown, hnm, hret, hlk, hZ⟩ := hC
  refine own_go T0 m 1 #[rv x0, rv x1, iv 4, iv x3] [(.int 4)] (fun t k => XS.iloadN X0.here hx rfl (hb hby d4_0) rfl k) ?_
  refine own_go T0 m 6 #[rv x0, rv x1, iv 4, iv x3] [] (fun t k => XS.ifYes X0.here hx rfl (pc0 := 1) (pc' := 6) rfl (hb hby d4_1) rfl ((if0 _ _).trans (feq (by decide)).2) (by decide) (by decide) k) ?_
  refine own_go T0 m 7 #[rv x0, rv x1, iv 4, iv x3] [(.ref x0)] (fun t k => XS.aloadN X0.here hx rfl (hb hby d4_6) rfl rfl k) ?_
  refine own_go T0 m 8 #[rv x0, rv x1, iv 4, iv x3] [(.int 4), (.ref x0)] (fun t k => XS.iloadN X0.here hx rfl (hb hby d4_7) rfl k) ?_
  refine own_go T0 m 9 #[rv x0, rv x1, iv 4, iv x3] [(.int 1), (.int 4), (.ref x0)] (fun t k => XS.iconst X0.here hx rfl (hb hby d4_8) k) ?_
  refine own_go T0 m 10 #[rv x0, rv x1, iv 4, iv x3] [(.int ((4 : Int32) - (1 : Int32))), (.ref x0)] (fun t k => XS.isub X0.here hx rfl (hb hby d4_9) rfl k) ?_
  rw [show ((4 : Int32) - (1 : Int32)) = (3 : Int32) from by decide]
  refine own_go T0 m 11 #[rv x0, rv x1, iv 4, iv x3] [(.int (own_l4 p0 p1 p2 p3))] (own_iaload X0 hx hZ e0 Vt (j := (3 : Int32)) ⟨by decide, by decide⟩ rfl (hb hby d4_10)) ?_
  by_cases hT11_2 : p0 = p1 ∧ p1 = p2 ∧ p2 = p3
  · rw [show (own_l4 p0 p1 p2 p3) = (3 : Int32) from (if_pos hT11_2)]
    refine own_go T0 m 12 #[rv x0, rv x1, iv 3, iv x3] [] (fun t k => XS.istoreN X0.here hx rfl (hb hby d4_11) rfl rfl k) ?_
    refine own_go T0 m 13 #[rv x0, rv x1, iv 3, iv x3] [(.ref x1)] (fun t k => XS.aloadN X0.here hx rfl (hb hby d4_12) rfl rfl k) ?_
    refine own_go T0 m 14 #[rv x0, rv x1, iv 3, iv x3] [(.int 3), (.ref x1)] (fun t k => XS.iloadN X0.here hx rfl (hb hby d4_13) rfl k) ?_
    refine own_go T0 m 15 #[rv x0, rv x1, iv 3, iv x3] [(.int p3)] (own_iaload X0 hx hZ e0 Vp (j := (3 : Int32)) ⟨by decide, by decide⟩ rfl (hb hby d4_14)) ?_
    refine own_go T0 m 16 #[rv x0, rv x1, iv 3, iv x3] [(.int x3), (.int p3)] (fun t k => XS.iloadN X0.here hx rfl (hb hby d4_15) rfl k) ?_
    by_cases hc16_4 : p3 = x3
    · refine own_go T0 m 19 #[rv x0, rv x1, iv 3, iv x3] [] (fun t k => XS.icmpNo X0.here hx rfl (hb hby d4_16) rfl (teq hc16_4).2 k) ?_
      refine own_go T0 m 20 #[rv x0, rv x1, iv 3, iv x3] [(.int 3)] (fun t k => XS.iloadN X0.here hx rfl (hb hby d4_19) rfl k) ?_
      refine own_retI X0 hx hlk hret (hb hby d4_20) (by decide) (by decide) ?_
      exact ⟨by rw [own_lf87 p0 p1 p2 p3 p4 x3 hT11_2 hc16_4], e0, rfl⟩
    · refine own_go T0 m 0 #[rv x0, rv x1, iv 3, iv x3] [] (fun t k => XS.icmpYes X0.here hx rfl (pc0 := 16) (pc' := 0) rfl (hb hby d4_16) rfl (feq hc16_4).2 (by decide) (by decide) k) ?_
      refine own_go T0 m 1 #[rv x0, rv x1, iv 3, iv x3] [(.int 3)] (fun t k => XS.iloadN X0.here hx rfl (hb hby d4_0) rfl k) ?_
      refine own_go T0 m 6 #[rv x0, rv x1, iv 3, iv x3] [] (fun t k => XS.ifYes X0.here hx rfl (pc0 := 1) (pc' := 6) rfl (hb hby d4_1) rfl ((if0 _ _).trans (feq (by decide)).2) (by decide) (by decide) k) ?_
      refine own_go T0 m 7 #[rv x0, rv x1, iv 3, iv x3] [(.ref x0)] (fun t k => XS.aloadN X0.here hx rfl (hb hby d4_6) rfl rfl k) ?_
      refine own_go T0 m 8 #[rv x0, rv x1, iv 3, iv x3] [(.int 3), (.ref x0)] (fun t k => XS.iloadN X0.here hx rfl (hb hby d4_7) rfl k) ?_
      refine own_go T0 m 9 #[rv x0, rv x1, iv 3, iv x3] [(.int 1), (.int 3), (.ref x0)] (fun t k => XS.iconst X0.here hx rfl (hb hby d4_8) k) ?_
      refine own_go T0 m 10 #[rv x0, rv x1, iv 3, iv x3] [(.int ((3 : Int32) - (1 : Int32))), (.ref x0)] (fun t k => XS.isub X0.here hx rfl (hb hby d4_9) rfl k) ?_
      rw [show ((3 : Int32) - (1 : Int32)) = (2 : Int32) from by decide]
      refine own_go T0 m 11 #[rv x0, rv x1, iv 3, iv x3] [(.int (own_l3 p0 p1 p2))] (own_iaload X0 hx hZ e0 Vt (j := (2 : Int32)) ⟨by decide, by decide⟩ rfl (hb hby d4_10)) ?_
      by_cases hT11_6 : p0 = p1 ∧ p1 = p2
      · rw [show (own_l3 p0 p1 p2) = (2 : Int32) from (if_pos hT11_6)]
        refine own_go T0 m 12 #[rv x0, rv x1, iv 2, iv x3] [] (fun t k => XS.istoreN X0.here hx rfl (hb hby d4_11) rfl rfl k) ?_
        refine own_go T0 m 13 #[rv x0, rv x1, iv 2, iv x3] [(.ref x1)] (fun t k => XS.aloadN X0.here hx rfl (hb hby d4_12) rfl rfl k) ?_
        refine own_go T0 m 14 #[rv x0, rv x1, iv 2, iv x3] [(.int 2), (.ref x1)] (fun t k => XS.iloadN X0.here hx rfl (hb hby d4_13) rfl k) ?_
        refine own_go T0 m 15 #[rv x0, rv x1, iv 2, iv x3] [(.int p2)] (own_iaload X0 hx hZ e0 Vp (j := (2 : Int32)) ⟨by decide, by decide⟩ rfl (hb hby d4_14)) ?_
        refine own_go T0 m 16 #[rv x0, rv x1, iv 2, iv x3] [(.int x3), (.int p2)] (fun t k => XS.iloadN X0.here hx rfl (hb hby d4_15) rfl k) ?_
        by_cases hc16_8 : p2 = x3
        · refine own_go T0 m 19 #[rv x0, rv x1, iv 2, iv x3] [] (fun t k => XS.icmpNo X0.here hx rfl (hb hby d4_16) rfl (teq hc16_8).2 k) ?_
          refine own_go T0 m 20 #[rv x0, rv x1, iv 2, iv x3] [(.int 2)] (fun t k => XS.iloadN X0.here hx rfl (hb hby d4_19) rfl k) ?_
          refine own_retI X0 hx hlk hret (hb hby d4_20) (by decide) (by decide) ?_
          exact ⟨by rw [own_lf88 p0 p1 p2 p3 p4 x3 hT11_2 hc16_4 hT11_6 hc16_8], e0, rfl⟩
        · refine own_go T0 m 0 #[rv x0, rv x1, iv 2, iv x3] [] (fun t k => XS.icmpYes X0.here hx rfl (pc0 := 16) (pc' := 0) rfl (hb hby d4_16) rfl (feq hc16_8).2 (by decide) (by decide) k) ?_
          refine own_go T0 m 1 #[rv x0, rv x1, iv 2, iv x3] [(.int 2)] (fun t k => XS.iloadN X0.here hx rfl (hb hby d4_0) rfl k) ?_
          refine own_go T0 m 6 #[rv x0, rv x1, iv 2, iv x3] [] (fun t k => XS.ifYes X0.here hx rfl (pc0 := 1) (pc' := 6) rfl (hb hby d4_1) rfl ((if0 _ _).trans (feq (by decide)).2) (by decide) (by decide) k) ?_
          refine own_go T0 m 7 #[rv x0, rv x1, iv 2, iv x3] [(.ref x0)] (fun t k => XS.aloadN X0.here hx rfl (hb hby d4_6) rfl rfl k) ?_
          refine own_go T0 m 8 #[rv x0, rv x1, iv 2, iv x3] [(.int 2), (.ref x0)] (fun t k => XS.iloadN X0.here hx rfl (hb hby d4_7) rfl k) ?_
          refine own_go T0 m 9 #[rv x0, rv x1, iv 2, iv x3] [(.int 1), (.int 2), (.ref x0)] (fun t k => XS.iconst X0.here hx rfl (hb hby d4_8) k) ?_
          refine own_go T0 m 10 #[rv x0, rv x1, iv 2, iv x3] [(.int ((2 : Int32) - (1 : Int32))), (.ref x0)] (fun t k => XS.isub X0.here hx rfl (hb hby d4_9) rfl k) ?_
          rw [show ((2 : Int32) - (1 : Int32)) = (1 : Int32) from by decide]
          refine own_go T0 m 11 #[rv x0, rv x1, iv 2, iv x3] [(.int (own_l2 p0 p1))] (own_iaload X0 hx hZ e0 Vt (j := (1 : Int32)) ⟨by decide, by decide⟩ rfl (hb hby d4_10)) ?_
          by_cases hT11_10 : p0 = p1
          · rw [show (own_l2 p0 p1) = (1 : Int32) from (if_pos hT11_10)]
            refine own_go T0 m 12 #[rv x0, rv x1, iv 1, iv x3] [] (fun t k => XS.istoreN X0.here hx rfl (hb hby d4_11) rfl rfl k) ?_
            refine own_go T0 m 13 #[rv x0, rv x1, iv 1, iv x3] [(.ref x1)] (fun t k => XS.aloadN X0.here hx rfl (hb hby d4_12) rfl rfl k) ?_
            refine own_go T0 m 14 #[rv x0, rv x1, iv 1, iv x3] [(.int 1), (.ref x1)] (fun t k => XS.iloadN X0.here hx rfl (hb hby d4_13) rfl k) ?_
            refine own_go T0 m 15 #[rv x0, rv x1, iv 1, iv x3] [(.int p1)] (own_iaload X0 hx hZ e0 Vp (j := (1 : Int32)) ⟨by decide, by decide⟩ rfl (hb hby d4_14)) ?_
            refine own_go T0 m 16 #[rv x0, rv x1, iv 1, iv x3] [(.int x3), (.int p1)] (fun t k => XS.iloadN X0.here hx rfl (hb hby d4_15) rfl k) ?_
            by_cases hc16_12 : p1 = x3
            · refine own_go T0 m 19 #[rv x0, rv x1, iv 1, iv x3] [] (fun t k => XS.icmpNo X0.here hx rfl (hb hby d4_16) rfl (teq hc16_12).2 k) ?_
              refine own_go T0 m 20 #[rv x0, rv x1, iv 1, iv x3] [(.int 1)] (fun t k => XS.iloadN X0.here hx rfl (hb hby d4_19) rfl k) ?_
              refine own_retI X0 hx hlk hret (hb hby d4_20) (by decide) (by decide) ?_
              exact ⟨by rw [own_lf89 p0 p1 p2 p3 p4 x3 hT11_2 hc16_4 hT11_6 hc16_8 hT11_10 hc16_12], e0, rfl⟩
            · refine own_go T0 m 0 #[rv x0, rv x1, iv 1, iv x3] [] (fun t k => XS.icmpYes X0.here hx rfl (pc0 := 16) (pc' := 0) rfl (hb hby d4_16) rfl (feq hc16_12).2 (by decide) (by decide) k) ?_
              refine own_go T0 m 1 #[rv x0, rv x1, iv 1, iv x3] [(.int 1)] (fun t k => XS.iloadN X0.here hx rfl (hb hby d4_0) rfl k) ?_
              refine own_go T0 m 6 #[rv x0, rv x1, iv 1, iv x3] [] (fun t k => XS.ifYes X0.here hx rfl (pc0 := 1) (pc' := 6) rfl (hb hby d4_1) rfl ((if0 _ _).trans (feq (by decide)).2) (by decide) (by decide) k) ?_
              refine own_go T0 m 7 #[rv x0, rv x1, iv 1, iv x3] [(.ref x0)] (fun t k => XS.aloadN X0.here hx rfl (hb hby d4_6) rfl rfl k) ?_
              refine own_go T0 m 8 #[rv x0, rv x1, iv 1, iv x3] [(.int 1), (.ref x0)] (fun t k => XS.iloadN X0.here hx rfl (hb hby d4_7) rfl k) ?_
              refine own_go T0 m 9 #[rv x0, rv x1, iv 1, iv x3] [(.int 1), (.int 1), (.ref x0)] (fun t k => XS.iconst X0.here hx rfl (hb hby d4_8) k) ?_
              refine own_go T0 m 10 #[rv x0, rv x1, iv 1, iv x3] [(.int ((1 : Int32) - (1 : Int32))), (.ref x0)] (fun t k => XS.isub X0.here hx rfl (hb hby d4_9) rfl k) ?_
              rw [show ((1 : Int32) - (1 : Int32)) = (0 : Int32) from by decide]
              refine own_go T0 m 11 #[rv x0, rv x1, iv 1, iv x3] [(.int 0)] (own_iaload X0 hx hZ e0 Vt (j := (0 : Int32)) ⟨by decide, by decide⟩ rfl (hb hby d4_10)) ?_
              refine own_go T0 m 12 #[rv x0, rv x1, iv 0, iv x3] [] (fun t k => XS.istoreN X0.here hx rfl (hb hby d4_11) rfl rfl k) ?_
              refine own_go T0 m 13 #[rv x0, rv x1, iv 0, iv x3] [(.ref x1)] (fun t k => XS.aloadN X0.here hx rfl (hb hby d4_12) rfl rfl k) ?_
              refine own_go T0 m 14 #[rv x0, rv x1, iv 0, iv x3] [(.int 0), (.ref x1)] (fun t k => XS.iloadN X0.here hx rfl (hb hby d4_13) rfl k) ?_
              refine own_go T0 m 15 #[rv x0, rv x1, iv 0, iv x3] [(.int p0)] (own_iaload X0 hx hZ e0 Vp (j := (0 : Int32)) ⟨by decide, by decide⟩ rfl (hb hby d4_14)) ?_
              refine own_go T0 m 16 #[rv x0, rv x1, iv 0, iv x3] [(.int x3), (.int p0)] (fun t k => XS.iloadN X0.here hx rfl (hb hby d4_15) rfl k) ?_
              by_cases hc16_15 : p0 = x3
              · refine own_go T0 m 19 #[rv x0, rv x1, iv 0, iv x3] [] (fun t k => XS.icmpNo X0.here hx rfl (hb hby d4_16) rfl (teq hc16_15).2 k) ?_
                refine own_go T0 m 20 #[rv x0, rv x1, iv 0, iv x3] [(.int 0)] (fun t k => XS.iloadN X0.here hx rfl (hb hby d4_19) rfl k) ?_
                refine own_retI X0 hx hlk hret (hb hby d4_20) (by decide) (by decide) ?_
                exact ⟨by rw [own_lf90 p0 p1 p2 p3 p4 x3 hT11_2 hc16_4 hT11_6 hc16_8 hT11_10 hc16_12 hc16_15], e0, rfl⟩
              · refine own_go T0 m 0 #[rv x0, rv x1, iv 0, iv x3] [] (fun t k => XS.icmpYes X0.here hx rfl (pc0 := 16) (pc' := 0) rfl (hb hby d4_16) rfl (feq hc16_15).2 (by decide) (by decide) k) ?_
                refine own_go T0 m 1 #[rv x0, rv x1, iv 0, iv x3] [(.int 0)] (fun t k => XS.iloadN X0.here hx rfl (hb hby d4_0) rfl k) ?_
                refine own_go T0 m 4 #[rv x0, rv x1, iv 0, iv x3] [] (fun t k => XS.ifNo X0.here hx rfl (hb hby d4_1) rfl ((if0 _ _).trans (teq (by decide)).2) k) ?_
                refine own_go T0 m 5 #[rv x0, rv x1, iv 0, iv x3] [(.int (-1))] (fun t k => XS.iconst X0.here hx rfl (hb hby d4_4) k) ?_
                refine own_retI X0 hx hlk hret (hb hby d4_5) (by decide) (by decide) ?_
                exact ⟨by rw [own_lf91 p0 p1 p2 p3 p4 x3 hT11_2 hc16_4 hT11_6 hc16_8 hT11_10 hc16_12 hc16_15], e0, rfl⟩
          · rw [show (own_l2 p0 p1) = (0 : Int32) from (if_neg hT11_10)]
            refine own_go T0 m 12 #[rv x0, rv x1, iv 0, iv x3] [] (fun t k => XS.istoreN X0.here hx rfl (hb hby d4_11) rfl rfl k) ?_
            refine own_go T0 m 13 #[rv x0, rv x1, iv 0, iv x3] [(.ref x1)] (fun t k => XS.aloadN X0.here hx rfl (hb hby d4_12) rfl rfl k) ?_
            refine own_go T0 m 14 #[rv x0, rv x1, iv 0, iv x3] [(.int 0), (.ref x1)] (fun t k => XS.iloadN X0.here hx rfl (hb hby d4_13) rfl k) ?_
            refine own_go T0 m 15 #[rv x0, rv x1, iv 0, iv x3] [(.int p0)] (own_iaload X0 hx hZ e0 Vp (j := (0 : Int32)) ⟨by decide, by decide⟩ rfl (hb hby d4_14)) ?_
            refine own_go T0 m 16 #[rv x0, rv x1, iv 0, iv x3] [(.int x3), (.int p0)] (fun t k => XS.iloadN X0.here hx rfl (hb hby d4_15) rfl k) ?_
            by_cases hc16_17 : p0 = x3
            · refine own_go T0 m 19 #[rv x0, rv x1, iv 0, iv x3] [] (fun t k => XS.icmpNo X0.here hx rfl (hb hby d4_16) rfl (teq hc16_17).2 k) ?_
              refine own_go T0 m 20 #[rv x0, rv x1, iv 0, iv x3] [(.int 0)] (fun t k => XS.iloadN X0.here hx rfl (hb hby d4_19) rfl k) ?_
              refine own_retI X0 hx hlk hret (hb hby d4_20) (by decide) (by decide) ?_
              exact ⟨by rw [own_lf92 p0 p1 p2 p3 p4 x3 hT11_2 hc16_4 hT11_6 hc16_8 hT11_10 hc16_17], e0, rfl⟩
            · refine own_go T0 m 0 #[rv x0, rv x1, iv 0, iv x3] [] (fun t k => XS.icmpYes X0.here hx rfl (pc0 := 16) (pc' := 0) rfl (hb hby d4_16) rfl (feq hc16_17).2 (by decide) (by decide) k) ?_
              refine own_go T0 m 1 #[rv x0, rv x1, iv 0, iv x3] [(.int 0)] (fun t k => XS.iloadN X0.here hx rfl (hb hby d4_0) rfl k) ?_
              refine own_go T0 m 4 #[rv x0, rv x1, iv 0, iv x3] [] (fun t k => XS.ifNo X0.here hx rfl (hb hby d4_1) rfl ((if0 _ _).trans (teq (by decide)).2) k) ?_
              refine own_go T0 m 5 #[rv x0, rv x1, iv 0, iv x3] [(.int (-1))] (fun t k => XS.iconst X0.here hx rfl (hb hby d4_4) k) ?_
              refine own_retI X0 hx hlk hret (hb hby d4_5) (by decide) (by decide) ?_
              exact ⟨by rw [own_lf93 p0 p1 p2 p3 p4 x3 hT11_2 hc16_4 hT11_6 hc16_8 hT11_10 hc16_17], e0, rfl⟩
      · by_cases hT11_18 : p0 = p2
        · rw [show (own_l3 p0 p1 p2) = (1 : Int32) from ((if_neg hT11_6).trans (if_pos hT11_18))]
          refine own_go T0 m 12 #[rv x0, rv x1, iv 1, iv x3] [] (fun t k => XS.istoreN X0.here hx rfl (hb hby d4_11) rfl rfl k) ?_
          refine own_go T0 m 13 #[rv x0, rv x1, iv 1, iv x3] [(.ref x1)] (fun t k => XS.aloadN X0.here hx rfl (hb hby d4_12) rfl rfl k) ?_
          refine own_go T0 m 14 #[rv x0, rv x1, iv 1, iv x3] [(.int 1), (.ref x1)] (fun t k => XS.iloadN X0.here hx rfl (hb hby d4_13) rfl k) ?_
          refine own_go T0 m 15 #[rv x0, rv x1, iv 1, iv x3] [(.int p1)] (own_iaload X0 hx hZ e0 Vp (j := (1 : Int32)) ⟨by decide, by decide⟩ rfl (hb hby d4_14)) ?_
          refine own_go T0 m 16 #[rv x0, rv x1, iv 1, iv x3] [(.int x3), (.int p1)] (fun t k => XS.iloadN X0.here hx rfl (hb hby d4_15) rfl k) ?_
          by_cases hc16_20 : p1 = x3
          · refine own_go T0 m 19 #[rv x0, rv x1, iv 1, iv x3] [] (fun t k => XS.icmpNo X0.here hx rfl (hb hby d4_16) rfl (teq hc16_20).2 k) ?_
            refine own_go T0 m 20 #[rv x0, rv x1, iv 1, iv x3] [(.int 1)] (fun t k => XS.iloadN X0.here hx rfl (hb hby d4_19) rfl k) ?_
            refine own_retI X0 hx hlk hret (hb hby d4_20) (by decide) (by decide) ?_
            exact ⟨by rw [own_lf94 p0 p1 p2 p3 p4 x3 hT11_2 hc16_4 hT11_6 hT11_18 hc16_20], e0, rfl⟩
          · refine own_go T0 m 0 #[rv x0, rv x1, iv 1, iv x3] [] (fun t k => XS.icmpYes X0.here hx rfl (pc0 := 16) (pc' := 0) rfl (hb hby d4_16) rfl (feq hc16_20).2 (by decide) (by decide) k) ?_
            refine own_go T0 m 1 #[rv x0, rv x1, iv 1, iv x3] [(.int 1)] (fun t k => XS.iloadN X0.here hx rfl (hb hby d4_0) rfl k) ?_
            refine own_go T0 m 6 #[rv x0, rv x1, iv 1, iv x3] [] (fun t k => XS.ifYes X0.here hx rfl (pc0 := 1) (pc' := 6) rfl (hb hby d4_1) rfl ((if0 _ _).trans (feq (by decide)).2) (by decide) (by decide) k) ?_
            refine own_go T0 m 7 #[rv x0, rv x1, iv 1, iv x3] [(.ref x0)] (fun t k => XS.aloadN X0.here hx rfl (hb hby d4_6) rfl rfl k) ?_
            refine own_go T0 m 8 #[rv x0, rv x1, iv 1, iv x3] [(.int 1), (.ref x0)] (fun t k => XS.iloadN X0.here hx rfl (hb hby d4_7) rfl k) ?_
            refine own_go T0 m 9 #[rv x0, rv x1, iv 1, iv x3] [(.int 1), (.int 1), (.ref x0)] (fun t k => XS.iconst X0.here hx rfl (hb hby d4_8) k) ?_
            refine own_go T0 m 10 #[rv x0, rv x1, iv 1, iv x3] [(.int ((1 : Int32) - (1 : Int32))), (.ref x0)] (fun t k => XS.isub X0.here hx rfl (hb hby d4_9) rfl k) ?_
            rw [show ((1 : Int32) - (1 : Int32)) = (0 : Int32) from by decide]
            refine own_go T0 m 11 #[rv x0, rv x1, iv 1, iv x3] [(.int 0)] (own_iaload X0 hx hZ e0 Vt (j := (0 : Int32)) ⟨by decide, by decide⟩ rfl (hb hby d4_10)) ?_
            refine own_go T0 m 12 #[rv x0, rv x1, iv 0, iv x3] [] (fun t k => XS.istoreN X0.here hx rfl (hb hby d4_11) rfl rfl k) ?_
            refine own_go T0 m 13 #[rv x0, rv x1, iv 0, iv x3] [(.ref x1)] (fun t k => XS.aloadN X0.here hx rfl (hb hby d4_12) rfl rfl k) ?_
            refine own_go T0 m 14 #[rv x0, rv x1, iv 0, iv x3] [(.int 0), (.ref x1)] (fun t k => XS.iloadN X0.here hx rfl (hb hby d4_13) rfl k) ?_
            refine own_go T0 m 15 #[rv x0, rv x1, iv 0, iv x3] [(.int p0)] (own_iaload X0 hx hZ e0 Vp (j := (0 : Int32)) ⟨by decide, by decide⟩ rfl (hb hby d4_14)) ?_
            refine own_go T0 m 16 #[rv x0, rv x1, iv 0, iv x3] [(.int x3), (.int p0)] (fun t k => XS.iloadN X0.here hx rfl (hb hby d4_15) rfl k) ?_
            by_cases hc16_23 : p0 = x3
            · refine own_go T0 m 19 #[rv x0, rv x1, iv 0, iv x3] [] (fun t k => XS.icmpNo X0.here hx rfl (hb hby d4_16) rfl (teq hc16_23).2 k) ?_
              refine own_go T0 m 20 #[rv x0, rv x1, iv 0, iv x3] [(.int 0)] (fun t k => XS.iloadN X0.here hx rfl (hb hby d4_19) rfl k) ?_
              refine own_retI X0 hx hlk hret (hb hby d4_20) (by decide) (by decide) ?_
              exact ⟨by rw [own_lf95 p0 p1 p2 p3 p4 x3 hT11_2 hc16_4 hT11_6 hT11_18 hc16_20 hc16_23], e0, rfl⟩
            · refine own_go T0 m 0 #[rv x0, rv x1, iv 0, iv x3] [] (fun t k => XS.icmpYes X0.here hx rfl (pc0 := 16) (pc' := 0) rfl (hb hby d4_16) rfl (feq hc16_23).2 (by decide) (by decide) k) ?_
              refine own_go T0 m 1 #[rv x0, rv x1, iv 0, iv x3] [(.int 0)] (fun t k => XS.iloadN X0.here hx rfl (hb hby d4_0) rfl k) ?_
              refine own_go T0 m 4 #[rv x0, rv x1, iv 0, iv x3] [] (fun t k => XS.ifNo X0.here hx rfl (hb hby d4_1) rfl ((if0 _ _).trans (teq (by decide)).2) k) ?_
              refine own_go T0 m 5 #[rv x0, rv x1, iv 0, iv x3] [(.int (-1))] (fun t k => XS.iconst X0.here hx rfl (hb hby d4_4) k) ?_
              refine own_retI X0 hx hlk hret (hb hby d4_5) (by decide) (by decide) ?_
              exact ⟨by rw [own_lf96 p0 p1 p2 p3 p4 x3 hT11_2 hc16_4 hT11_6 hT11_18 hc16_20 hc16_23], e0, rfl⟩
        · rw [show (own_l3 p0 p1 p2) = (0 : Int32) from ((if_neg hT11_6).trans (if_neg hT11_18))]
          refine own_go T0 m 12 #[rv x0, rv x1, iv 0, iv x3] [] (fun t k => XS.istoreN X0.here hx rfl (hb hby d4_11) rfl rfl k) ?_
          refine own_go T0 m 13 #[rv x0, rv x1, iv 0, iv x3] [(.ref x1)] (fun t k => XS.aloadN X0.here hx rfl (hb hby d4_12) rfl rfl k) ?_
          refine own_go T0 m 14 #[rv x0, rv x1, iv 0, iv x3] [(.int 0), (.ref x1)] (fun t k => XS.iloadN X0.here hx rfl (hb hby d4_13) rfl k) ?_
          refine own_go T0 m 15 #[rv x0, rv x1, iv 0, iv x3] [(.int p0)] (own_iaload X0 hx hZ e0 Vp (j := (0 : Int32)) ⟨by decide, by decide⟩ rfl (hb hby d4_14)) ?_
          refine own_go T0 m 16 #[rv x0, rv x1, iv 0, iv x3] [(.int x3), (.int p0)] (fun t k => XS.iloadN X0.here hx rfl (hb hby d4_15) rfl k) ?_
          by_cases hc16_25 : p0 = x3
          · refine own_go T0 m 19 #[rv x0, rv x1, iv 0, iv x3] [] (fun t k => XS.icmpNo X0.here hx rfl (hb hby d4_16) rfl (teq hc16_25).2 k) ?_
            refine own_go T0 m 20 #[rv x0, rv x1, iv 0, iv x3] [(.int 0)] (fun t k => XS.iloadN X0.here hx rfl (hb hby d4_19) rfl k) ?_
            refine own_retI X0 hx hlk hret (hb hby d4_20) (by decide) (by decide) ?_
            exact ⟨by rw [own_lf97 p0 p1 p2 p3 p4 x3 hT11_2 hc16_4 hT11_6 hT11_18 hc16_25], e0, rfl⟩
          · refine own_go T0 m 0 #[rv x0, rv x1, iv 0, iv x3] [] (fun t k => XS.icmpYes X0.here hx rfl (pc0 := 16) (pc' := 0) rfl (hb hby d4_16) rfl (feq hc16_25).2 (by decide) (by decide) k) ?_
            refine own_go T0 m 1 #[rv x0, rv x1, iv 0, iv x3] [(.int 0)] (fun t k => XS.iloadN X0.here hx rfl (hb hby d4_0) rfl k) ?_
            refine own_go T0 m 4 #[rv x0, rv x1, iv 0, iv x3] [] (fun t k => XS.ifNo X0.here hx rfl (hb hby d4_1) rfl ((if0 _ _).trans (teq (by decide)).2) k) ?_
            refine own_go T0 m 5 #[rv x0, rv x1, iv 0, iv x3] [(.int (-1))] (fun t k => XS.iconst X0.here hx rfl (hb hby d4_4) k) ?_
            refine own_retI X0 hx hlk hret (hb hby d4_5) (by decide) (by decide) ?_
            exact ⟨by rw [own_lf98 p0 p1 p2 p3 p4 x3 hT11_2 hc16_4 hT11_6 hT11_18 hc16_25], e0, rfl⟩
  · by_cases hT11_26 : p0 = p2 ∧ p1 = p3
    · rw [show (own_l4 p0 p1 p2 p3) = (2 : Int32) from ((if_neg hT11_2).trans (if_pos hT11_26))]
      refine own_go T0 m 12 #[rv x0, rv x1, iv 2, iv x3] [] (fun t k => XS.istoreN X0.here hx rfl (hb hby d4_11) rfl rfl k) ?_
      refine own_go T0 m 13 #[rv x0, rv x1, iv 2, iv x3] [(.ref x1)] (fun t k => XS.aloadN X0.here hx rfl (hb hby d4_12) rfl rfl k) ?_
      refine own_go T0 m 14 #[rv x0, rv x1, iv 2, iv x3] [(.int 2), (.ref x1)] (fun t k => XS.iloadN X0.here hx rfl (hb hby d4_13) rfl k) ?_
      refine own_go T0 m 15 #[rv x0, rv x1, iv 2, iv x3] [(.int p2)] (own_iaload X0 hx hZ e0 Vp (j := (2 : Int32)) ⟨by decide, by decide⟩ rfl (hb hby d4_14)) ?_
      refine own_go T0 m 16 #[rv x0, rv x1, iv 2, iv x3] [(.int x3), (.int p2)] (fun t k => XS.iloadN X0.here hx rfl (hb hby d4_15) rfl k) ?_
      by_cases hc16_28 : p2 = x3
      · refine own_go T0 m 19 #[rv x0, rv x1, iv 2, iv x3] [] (fun t k => XS.icmpNo X0.here hx rfl (hb hby d4_16) rfl (teq hc16_28).2 k) ?_
        refine own_go T0 m 20 #[rv x0, rv x1, iv 2, iv x3] [(.int 2)] (fun t k => XS.iloadN X0.here hx rfl (hb hby d4_19) rfl k) ?_
        refine own_retI X0 hx hlk hret (hb hby d4_20) (by decide) (by decide) ?_
        exact ⟨by rw [own_lf99 p0 p1 p2 p3 p4 x3 hT11_2 hT11_26 hc16_28], e0, rfl⟩
      · refine own_go T0 m 0 #[rv x0, rv x1, iv 2, iv x3] [] (fun t k => XS.icmpYes X0.here hx rfl (pc0 := 16) (pc' := 0) rfl (hb hby d4_16) rfl (feq hc16_28).2 (by decide) (by decide) k) ?_
        refine own_go T0 m 1 #[rv x0, rv x1, iv 2, iv x3] [(.int 2)] (fun t k => XS.iloadN X0.here hx rfl (hb hby d4_0) rfl k) ?_
        refine own_go T0 m 6 #[rv x0, rv x1, iv 2, iv x3] [] (fun t k => XS.ifYes X0.here hx rfl (pc0 := 1) (pc' := 6) rfl (hb hby d4_1) rfl ((if0 _ _).trans (feq (by decide)).2) (by decide) (by decide) k) ?_
        refine own_go T0 m 7 #[rv x0, rv x1, iv 2, iv x3] [(.ref x0)] (fun t k => XS.aloadN X0.here hx rfl (hb hby d4_6) rfl rfl k) ?_
        refine own_go T0 m 8 #[rv x0, rv x1, iv 2, iv x3] [(.int 2), (.ref x0)] (fun t k => XS.iloadN X0.here hx rfl (hb hby d4_7) rfl k) ?_
        refine own_go T0 m 9 #[rv x0, rv x1, iv 2, iv x3] [(.int 1), (.int 2), (.ref x0)] (fun t k => XS.iconst X0.here hx rfl (hb hby d4_8) k) ?_
        refine own_go T0 m 10 #[rv x0, rv x1, iv 2, iv x3] [(.int ((2 : Int32) - (1 : Int32))), (.ref x0)] (fun t k => XS.isub X0.here hx rfl (hb hby d4_9) rfl k) ?_
        rw [show ((2 : Int32) - (1 : Int32)) = (1 : Int32) from by decide]
        refine own_go T0 m 11 #[rv x0, rv x1, iv 2, iv x3] [(.int (own_l2 p0 p1))] (own_iaload X0 hx hZ e0 Vt (j := (1 : Int32)) ⟨by decide, by decide⟩ rfl (hb hby d4_10)) ?_
        by_cases hT11_30 : p0 = p1
        · rw [show (own_l2 p0 p1) = (1 : Int32) from (if_pos hT11_30)]
          refine own_go T0 m 12 #[rv x0, rv x1, iv 1, iv x3] [] (fun t k => XS.istoreN X0.here hx rfl (hb hby d4_11) rfl rfl k) ?_
          refine own_go T0 m 13 #[rv x0, rv x1, iv 1, iv x3] [(.ref x1)] (fun t k => XS.aloadN X0.here hx rfl (hb hby d4_12) rfl rfl k) ?_
          refine own_go T0 m 14 #[rv x0, rv x1, iv 1, iv x3] [(.int 1), (.ref x1)] (fun t k => XS.iloadN X0.here hx rfl (hb hby d4_13) rfl k) ?_
          refine own_go T0 m 15 #[rv x0, rv x1, iv 1, iv x3] [(.int p1)] (own_iaload X0 hx hZ e0 Vp (j := (1 : Int32)) ⟨by decide, by decide⟩ rfl (hb hby d4_14)) ?_
          refine own_go T0 m 16 #[rv x0, rv x1, iv 1, iv x3] [(.int x3), (.int p1)] (fun t k => XS.iloadN X0.here hx rfl (hb hby d4_15) rfl k) ?_
          by_cases hc16_32 : p1 = x3
          · refine own_go T0 m 19 #[rv x0, rv x1, iv 1, iv x3] [] (fun t k => XS.icmpNo X0.here hx rfl (hb hby d4_16) rfl (teq hc16_32).2 k) ?_
            refine own_go T0 m 20 #[rv x0, rv x1, iv 1, iv x3] [(.int 1)] (fun t k => XS.iloadN X0.here hx rfl (hb hby d4_19) rfl k) ?_
            refine own_retI X0 hx hlk hret (hb hby d4_20) (by decide) (by decide) ?_
            exact ⟨by rw [own_lf100 p0 p1 p2 p3 p4 x3 hT11_2 hT11_26 hc16_28 hT11_30 hc16_32], e0, rfl⟩
          · refine own_go T0 m 0 #[rv x0, rv x1, iv 1, iv x3] [] (fun t k => XS.icmpYes X0.here hx rfl (pc0 := 16) (pc' := 0) rfl (hb hby d4_16) rfl (feq hc16_32).2 (by decide) (by decide) k) ?_
            refine own_go T0 m 1 #[rv x0, rv x1, iv 1, iv x3] [(.int 1)] (fun t k => XS.iloadN X0.here hx rfl (hb hby d4_0) rfl k) ?_
            refine own_go T0 m 6 #[rv x0, rv x1, iv 1, iv x3] [] (fun t k => XS.ifYes X0.here hx rfl (pc0 := 1) (pc' := 6) rfl (hb hby d4_1) rfl ((if0 _ _).trans (feq (by decide)).2) (by decide) (by decide) k) ?_
            refine own_go T0 m 7 #[rv x0, rv x1, iv 1, iv x3] [(.ref x0)] (fun t k => XS.aloadN X0.here hx rfl (hb hby d4_6) rfl rfl k) ?_
            refine own_go T0 m 8 #[rv x0, rv x1, iv 1, iv x3] [(.int 1), (.ref x0)] (fun t k => XS.iloadN X0.here hx rfl (hb hby d4_7) rfl k) ?_
            refine own_go T0 m 9 #[rv x0, rv x1, iv 1, iv x3] [(.int 1), (.int 1), (.ref x0)] (fun t k => XS.iconst X0.here hx rfl (hb hby d4_8) k) ?_
            refine own_go T0 m 10 #[rv x0, rv x1, iv 1, iv x3] [(.int ((1 : Int32) - (1 : Int32))), (.ref x0)] (fun t k => XS.isub X0.here hx rfl (hb hby d4_9) rfl k) ?_
            rw [show ((1 : Int32) - (1 : Int32)) = (0 : Int32) from by decide]
            refine own_go T0 m 11 #[rv x0, rv x1, iv 1, iv x3] [(.int 0)] (own_iaload X0 hx hZ e0 Vt (j := (0 : Int32)) ⟨by decide, by decide⟩ rfl (hb hby d4_10)) ?_
            refine own_go T0 m 12 #[rv x0, rv x1, iv 0, iv x3] [] (fun t k => XS.istoreN X0.here hx rfl (hb hby d4_11) rfl rfl k) ?_
            refine own_go T0 m 13 #[rv x0, rv x1, iv 0, iv x3] [(.ref x1)] (fun t k => XS.aloadN X0.here hx rfl (hb hby d4_12) rfl rfl k) ?_
            refine own_go T0 m 14 #[rv x0, rv x1, iv 0, iv x3] [(.int 0), (.ref x1)] (fun t k => XS.iloadN X0.here hx rfl (hb hby d4_13) rfl k) ?_
            refine own_go T0 m 15 #[rv x0, rv x1, iv 0, iv x3] [(.int p0)] (own_iaload X0 hx hZ e0 Vp (j := (0 : Int32)) ⟨by decide, by decide⟩ rfl (hb hby d4_14)) ?_
            refine own_go T0 m 16 #[rv x0, rv x1, iv 0, iv x3] [(.int x3), (.int p0)] (fun t k => XS.iloadN X0.here hx rfl (hb hby d4_15) rfl k) ?_
            by_cases hc16_35 : p0 = x3
            · refine own_go T0 m 19 #[rv x0, rv x1, iv 0, iv x3] [] (fun t k => XS.icmpNo X0.here hx rfl (hb hby d4_16) rfl (teq hc16_35).2 k) ?_
              refine own_go T0 m 20 #[rv x0, rv x1, iv 0, iv x3] [(.int 0)] (fun t k => XS.iloadN X0.here hx rfl (hb hby d4_19) rfl k) ?_
              refine own_retI X0 hx hlk hret (hb hby d4_20) (by decide) (by decide) ?_
              exact ⟨by rw [own_lf101 p0 p1 p2 p3 p4 x3 hT11_2 hT11_26 hc16_28 hT11_30 hc16_32 hc16_35], e0, rfl⟩
            · refine own_go T0 m 0 #[rv x0, rv x1, iv 0, iv x3] [] (fun t k => XS.icmpYes X0.here hx rfl (pc0 := 16) (pc' := 0) rfl (hb hby d4_16) rfl (feq hc16_35).2 (by decide) (by decide) k) ?_
              refine own_go T0 m 1 #[rv x0, rv x1, iv 0, iv x3] [(.int 0)] (fun t k => XS.iloadN X0.here hx rfl (hb hby d4_0) rfl k) ?_
              refine own_go T0 m 4 #[rv x0, rv x1, iv 0, iv x3] [] (fun t k => XS.ifNo X0.here hx rfl (hb hby d4_1) rfl ((if0 _ _).trans (teq (by decide)).2) k) ?_
              refine own_go T0 m 5 #[rv x0, rv x1, iv 0, iv x3] [(.int (-1))] (fun t k => XS.iconst X0.here hx rfl (hb hby d4_4) k) ?_
              refine own_retI X0 hx hlk hret (hb hby d4_5) (by decide) (by decide) ?_
              exact ⟨by rw [own_lf102 p0 p1 p2 p3 p4 x3 hT11_2 hT11_26 hc16_28 hT11_30 hc16_32 hc16_35], e0, rfl⟩
        · rw [show (own_l2 p0 p1) = (0 : Int32) from (if_neg hT11_30)]
          refine own_go T0 m 12 #[rv x0, rv x1, iv 0, iv x3] [] (fun t k => XS.istoreN X0.here hx rfl (hb hby d4_11) rfl rfl k) ?_
          refine own_go T0 m 13 #[rv x0, rv x1, iv 0, iv x3] [(.ref x1)] (fun t k => XS.aloadN X0.here hx rfl (hb hby d4_12) rfl rfl k) ?_
          refine own_go T0 m 14 #[rv x0, rv x1, iv 0, iv x3] [(.int 0), (.ref x1)] (fun t k => XS.iloadN X0.here hx rfl (hb hby d4_13) rfl k) ?_
          refine own_go T0 m 15 #[rv x0, rv x1, iv 0, iv x3] [(.int p0)] (own_iaload X0 hx hZ e0 Vp (j := (0 : Int32)) ⟨by decide, by decide⟩ rfl (hb hby d4_14)) ?_
          refine own_go T0 m 16 #[rv x0, rv x1, iv 0, iv x3] [(.int x3), (.int p0)] (fun t k => XS.iloadN X0.here hx rfl (hb hby d4_15) rfl k) ?_
          by_cases hc16_37 : p0 = x3
          · refine own_go T0 m 19 #[rv x0, rv x1, iv 0, iv x3] [] (fun t k => XS.icmpNo X0.here hx rfl (hb hby d4_16) rfl (teq hc16_37).2 k) ?_
            refine own_go T0 m 20 #[rv x0, rv x1, iv 0, iv x3] [(.int 0)] (fun t k => XS.iloadN X0.here hx rfl (hb hby d4_19) rfl k) ?_
            refine own_retI X0 hx hlk hret (hb hby d4_20) (by decide) (by decide) ?_
            exact ⟨by rw [own_lf103 p0 p1 p2 p3 p4 x3 hT11_2 hT11_26 hc16_28 hT11_30 hc16_37], e0, rfl⟩
          · refine own_go T0 m 0 #[rv x0, rv x1, iv 0, iv x3] [] (fun t k => XS.icmpYes X0.here hx rfl (pc0 := 16) (pc' := 0) rfl (hb hby d4_16) rfl (feq hc16_37).2 (by decide) (by decide) k) ?_
            refine own_go T0 m 1 #[rv x0, rv x1, iv 0, iv x3] [(.int 0)] (fun t k => XS.iloadN X0.here hx rfl (hb hby d4_0) rfl k) ?_
            refine own_go T0 m 4 #[rv x0, rv x1, iv 0, iv x3] [] (fun t k => XS.ifNo X0.here hx rfl (hb hby d4_1) rfl ((if0 _ _).trans (teq (by decide)).2) k) ?_
            refine own_go T0 m 5 #[rv x0, rv x1, iv 0, iv x3] [(.int (-1))] (fun t k => XS.iconst X0.here hx rfl (hb hby d4_4) k) ?_
            refine own_retI X0 hx hlk hret (hb hby d4_5) (by decide) (by decide) ?_
            exact ⟨by rw [own_lf104 p0 p1 p2 p3 p4 x3 hT11_2 hT11_26 hc16_28 hT11_30 hc16_37], e0, rfl⟩
    · by_cases hT11_38 : p0 = p3
      · rw [show (own_l4 p0 p1 p2 p3) = (1 : Int32) from ((if_neg hT11_2).trans ((if_neg hT11_26).trans (if_pos hT11_38)))]
        refine own_go T0 m 12 #[rv x0, rv x1, iv 1, iv x3] [] (fun t k => XS.istoreN X0.here hx rfl (hb hby d4_11) rfl rfl k) ?_
        refine own_go T0 m 13 #[rv x0, rv x1, iv 1, iv x3] [(.ref x1)] (fun t k => XS.aloadN X0.here hx rfl (hb hby d4_12) rfl rfl k) ?_
        refine own_go T0 m 14 #[rv x0, rv x1, iv 1, iv x3] [(.int 1), (.ref x1)] (fun t k => XS.iloadN X0.here hx rfl (hb hby d4_13) rfl k) ?_
        refine own_go T0 m 15 #[rv x0, rv x1, iv 1, iv x3] [(.int p1)] (own_iaload X0 hx hZ e0 Vp (j := (1 : Int32)) ⟨by decide, by decide⟩ rfl (hb hby d4_14)) ?_
        refine own_go T0 m 16 #[rv x0, rv x1, iv 1, iv x3] [(.int x3), (.int p1)] (fun t k => XS.iloadN X0.here hx rfl (hb hby d4_15) rfl k) ?_
        by_cases hc16_40 : p1 = x3
        · refine own_go T0 m 19 #[rv x0, rv x1, iv 1, iv x3] [] (fun t k => XS.icmpNo X0.here hx rfl (hb hby d4_16) rfl (teq hc16_40).2 k) ?_
          refine own_go T0 m 20 #[rv x0, rv x1, iv 1, iv x3] [(.int 1)] (fun t k => XS.iloadN X0.here hx rfl (hb hby d4_19) rfl k) ?_
          refine own_retI X0 hx hlk hret (hb hby d4_20) (by decide) (by decide) ?_
          exact ⟨by rw [own_lf105 p0 p1 p2 p3 p4 x3 hT11_2 hT11_26 hT11_38 hc16_40], e0, rfl⟩
        · refine own_go T0 m 0 #[rv x0, rv x1, iv 1, iv x3] [] (fun t k => XS.icmpYes X0.here hx rfl (pc0 := 16) (pc' := 0) rfl (hb hby d4_16) rfl (feq hc16_40).2 (by decide) (by decide) k) ?_
          refine own_go T0 m 1 #[rv x0, rv x1, iv 1, iv x3] [(.int 1)] (fun t k => XS.iloadN X0.here hx rfl (hb hby d4_0) rfl k) ?_
          refine own_go T0 m 6 #[rv x0, rv x1, iv 1, iv x3] [] (fun t k => XS.ifYes X0.here hx rfl (pc0 := 1) (pc' := 6) rfl (hb hby d4_1) rfl ((if0 _ _).trans (feq (by decide)).2) (by decide) (by decide) k) ?_
          refine own_go T0 m 7 #[rv x0, rv x1, iv 1, iv x3] [(.ref x0)] (fun t k => XS.aloadN X0.here hx rfl (hb hby d4_6) rfl rfl k) ?_
          refine own_go T0 m 8 #[rv x0, rv x1, iv 1, iv x3] [(.int 1), (.ref x0)] (fun t k => XS.iloadN X0.here hx rfl (hb hby d4_7) rfl k) ?_
          refine own_go T0 m 9 #[rv x0, rv x1, iv 1, iv x3] [(.int 1), (.int 1), (.ref x0)] (fun t k => XS.iconst X0.here hx rfl (hb hby d4_8) k) ?_
          refine own_go T0 m 10 #[rv x0, rv x1, iv 1, iv x3] [(.int ((1 : Int32) - (1 : Int32))), (.ref x0)] (fun t k => XS.isub X0.here hx rfl (hb hby d4_9) rfl k) ?_
          rw [show ((1 : Int32) - (1 : Int32)) = (0 : Int32) from by decide]
          refine own_go T0 m 11 #[rv x0, rv x1, iv 1, iv x3] [(.int 0)] (own_iaload X0 hx hZ e0 Vt (j := (0 : Int32)) ⟨by decide, by decide⟩ rfl (hb hby d4_10)) ?_
          refine own_go T0 m 12 #[rv x0, rv x1, iv 0, iv x3] [] (fun t k => XS.istoreN X0.here hx rfl (hb hby d4_11) rfl rfl k) ?_
          refine own_go T0 m 13 #[rv x0, rv x1, iv 0, iv x3] [(.ref x1)] (fun t k => XS.aloadN X0.here hx rfl (hb hby d4_12) rfl rfl k) ?_
          refine own_go T0 m 14 #[rv x0, rv x1, iv 0, iv x3] [(.int 0), (.ref x1)] (fun t k => XS.iloadN X0.here hx rfl (hb hby d4_13) rfl k) ?_
          refine own_go T0 m 15 #[rv x0, rv x1, iv 0, iv x3] [(.int p0)] (own_iaload X0 hx hZ e0 Vp (j := (0 : Int32)) ⟨by decide, by decide⟩ rfl (hb hby d4_14)) ?_
          refine own_go T0 m 16 #[rv x0, rv x1, iv 0, iv x3] [(.int x3), (.int p0)] (fun t k => XS.iloadN X0.here hx rfl (hb hby d4_15) rfl k) ?_
          by_cases hc16_43 : p0 = x3
          · refine own_go T0 m 19 #[rv x0, rv x1, iv 0, iv x3] [] (fun t k => XS.icmpNo X0.here hx rfl (hb hby d4_16) rfl (teq hc16_43).2 k) ?_
            refine own_go T0 m 20 #[rv x0, rv x1, iv 0, iv x3] [(.int 0)] (fun t k => XS.iloadN X0.here hx rfl (hb hby d4_19) rfl k) ?_
            refine own_retI X0 hx hlk hret (hb hby d4_20) (by decide) (by decide) ?_
            exact ⟨by rw [own_lf106 p0 p1 p2 p3 p4 x3 hT11_2 hT11_26 hT11_38 hc16_40 hc16_43], e0, rfl⟩
          · refine own_go T0 m 0 #[rv x0, rv x1, iv 0, iv x3] [] (fun t k => XS.icmpYes X0.here hx rfl (pc0 := 16) (pc' := 0) rfl (hb hby d4_16) rfl (feq hc16_43).2 (by decide) (by decide) k) ?_
            refine own_go T0 m 1 #[rv x0, rv x1, iv 0, iv x3] [(.int 0)] (fun t k => XS.iloadN X0.here hx rfl (hb hby d4_0) rfl k) ?_
            refine own_go T0 m 4 #[rv x0, rv x1, iv 0, iv x3] [] (fun t k => XS.ifNo X0.here hx rfl (hb hby d4_1) rfl ((if0 _ _).trans (teq (by decide)).2) k) ?_
            refine own_go T0 m 5 #[rv x0, rv x1, iv 0, iv x3] [(.int (-1))] (fun t k => XS.iconst X0.here hx rfl (hb hby d4_4) k) ?_
            refine own_retI X0 hx hlk hret (hb hby d4_5) (by decide) (by decide) ?_
            exact ⟨by rw [own_lf107 p0 p1 p2 p3 p4 x3 hT11_2 hT11_26 hT11_38 hc16_40 hc16_43], e0, rfl⟩
      · rw [show (own_l4 p0 p1 p2 p3) = (0 : Int32) from ((if_neg hT11_2).trans ((if_neg hT11_26).trans (if_neg hT11_38)))]
        refine own_go T0 m 12 #[rv x0, rv x1, iv 0, iv x3] [] (fun t k => XS.istoreN X0.here hx rfl (hb hby d4_11) rfl rfl k) ?_
        refine own_go T0 m 13 #[rv x0, rv x1, iv 0, iv x3] [(.ref x1)] (fun t k => XS.aloadN X0.here hx rfl (hb hby d4_12) rfl rfl k) ?_
        refine own_go T0 m 14 #[rv x0, rv x1, iv 0, iv x3] [(.int 0), (.ref x1)] (fun t k => XS.iloadN X0.here hx rfl (hb hby d4_13) rfl k) ?_
        refine own_go T0 m 15 #[rv x0, rv x1, iv 0, iv x3] [(.int p0)] (own_iaload X0 hx hZ e0 Vp (j := (0 : Int32)) ⟨by decide, by decide⟩ rfl (hb hby d4_14)) ?_
        refine own_go T0 m 16 #[rv x0, rv x1, iv 0, iv x3] [(.int x3), (.int p0)] (fun t k => XS.iloadN X0.here hx rfl (hb hby d4_15) rfl k) ?_
        by_cases hc16_45 : p0 = x3
        · refine own_go T0 m 19 #[rv x0, rv x1, iv 0, iv x3] [] (fun t k => XS.icmpNo X0.here hx rfl (hb hby d4_16) rfl (teq hc16_45).2 k) ?_
          refine own_go T0 m 20 #[rv x0, rv x1, iv 0, iv x3] [(.int 0)] (fun t k => XS.iloadN X0.here hx rfl (hb hby d4_19) rfl k) ?_
          refine own_retI X0 hx hlk hret (hb hby d4_20) (by decide) (by decide) ?_
          exact ⟨by rw [own_lf108 p0 p1 p2 p3 p4 x3 hT11_2 hT11_26 hT11_38 hc16_45], e0, rfl⟩
        · refine own_go T0 m 0 #[rv x0, rv x1, iv 0, iv x3] [] (fun t k => XS.icmpYes X0.here hx rfl (pc0 := 16) (pc' := 0) rfl (hb hby d4_16) rfl (feq hc16_45).2 (by decide) (by decide) k) ?_
          refine own_go T0 m 1 #[rv x0, rv x1, iv 0, iv x3] [(.int 0)] (fun t k => XS.iloadN X0.here hx rfl (hb hby d4_0) rfl k) ?_
          refine own_go T0 m 4 #[rv x0, rv x1, iv 0, iv x3] [] (fun t k => XS.ifNo X0.here hx rfl (hb hby d4_1) rfl ((if0 _ _).trans (teq (by decide)).2) k) ?_
          refine own_go T0 m 5 #[rv x0, rv x1, iv 0, iv x3] [(.int (-1))] (fun t k => XS.iconst X0.here hx rfl (hb hby d4_4) k) ?_
          refine own_retI X0 hx hlk hret (hb hby d4_5) (by decide) (by decide) ?_
          exact ⟨by rw [own_lf109 p0 p1 p2 p3 p4 x3 hT11_2 hT11_26 hT11_38 hc16_45], e0, rfl⟩
theorem pf_com_example_substring_search_substringsearch_PrefixTableFallBackPinLaw_law__IIII_Z : plainFor (⟨"com/example/substring_search/substringsearch/PrefixTableFallBackPinLaw", "law", "(IIII)Z"⟩ : MethodName) = true := by first | exact plainFor_of_name (by first | (simp [plainName, overriddenIn]; done) | decide +kernel) | exact Jvm.Free.JP.mathPlain rfl (by decide +kernel) | decide +kernel
theorem ef_rm0 (m : MethodId) (q0 : Int32) (q1 : Int32) (q2 : Int32) (q3 : Int32) : entryFrame m #[(.int q0), (.int q1), (.int q2), (.int q3)] maxLocals = mkF m 0 #[iv q0, iv q1, iv q2, iv q3, .unset, .unset, .unset, .unset, .unset, .unset] [] := by first | (simp [entryFrame, mkF, argsToLocals, Value.category, maxLocals]; done) | rfl
set_option maxRecDepth 65536 in
set_option maxHeartbeats 40000000 in
theorem rm0 (l : Launch) (Z : State) (a0 : Array Value) (hw : ∀ d ∈ tables_1, d.before a0 Z = true) (ws : List Jvm.Cond) (x0 : Int32) (x1 : Int32) (x2 : Int32) (x3 : Int32) (h0 : Heap) (n0 : Nat) (Z0 : n0 ≤ h0.size) :
    OwnC l Z x code maxLocals ret ws room_1 #[(.int x0), (.int x1), (.int x2), (.int x3)] h0 (fun v h L => v = some (.int 1) ∧ Fr n0 L) := by
  refine own_entry pf_com_example_substring_search_substringsearch_PrefixTableFallBackPinLaw_law__IIII_Z (fun m => ef_rm0 m x0 x1 x2 x3) ?_
  intro p e s m below meth c T0 X0 hC e0
  obtain ⟨hx, hby, hml, hown, hnm, hret, hlk, hZ⟩ := hC
  have hml : c.maxLocals = 10 := hml
  have N0 := Fr.nil n0
  refine own_go T0 m 1 #[iv x0, iv x1, iv x2, iv x3, .unset, .unset, .unset, .unset, .unset, .unset] [(.int 5)] (fun t k => XS.iconst X0.here hx rfl (hb hby at_0) k) ?_
  obtain ⟨T1, h1, k1, X1, e1, E1, A1, st1⟩ := newP X0 hx hZ (own_w hw 0 rfl) e0 (g := (mkF m 1 #[iv x0, iv x1, iv x2, iv x3, .unset, .unset, .unset, .unset, .unset, .unset] [(.int 5)])) rfl (hb hby at_1) rfl (by decide) (cap := 5) (by decide) (by decide) (by decide) (by decide)
  obtain ⟨b1, g1⟩ : ∃ z, z = h0.size := ⟨_, rfl⟩
  rw [← g1] at A1 st1
  have g_b1 : n0 ≤ b1 := Nat.le_trans Z0 (Nat.le_of_eq g1.symm)
  have Z_1 : n0 ≤ h1.size := Nat.le_trans Z0 E1.1
  have V_b1 : Arv Z h1 b1 k1 .int (5 : Int32) [(.int 0), (.int 0), (.int 0), (.int 0), (.int 0)] (.int 0) := (Arv.new A1 (by decide)).pad (pad_rep [] (.int 0) 5)
  refine own_go T1 m 3 #[iv x0, iv x1, iv x2, iv x3, .unset, .unset, .unset, .unset, .unset, .unset] [(.ref b1)] (st1) ?_
  refine own_go T1 m 5 #[iv x0, iv x1, iv x2, iv x3, rv b1, .unset, .unset, .unset, .unset, .unset] [] (fun t k => XS.astore X1.here hx rfl (hb hby at_3) rfl rfl rfl k) ?_
  refine own_go T1 m 7 #[iv x0, iv x1, iv x2, iv x3, rv b1, .unset, .unset, .unset, .unset, .unset] [(.ref b1)] (fun t k => XS.aload X1.here hx rfl (hb hby at_5) rfl rfl k) ?_
  refine own_go T1 m 8 #[iv x0, iv x1, iv x2, iv x3, rv b1, .unset, .unset, .unset, .unset, .unset] [(.int 0), (.ref b1)] (fun t k => XS.iconst X1.here hx rfl (hb hby at_7) k) ?_
  refine own_go T1 m 9 #[iv x0, iv x1, iv x2, iv x3, rv b1, .unset, .unset, .unset, .unset, .unset] [(.int x0), (.int 0), (.ref b1)] (fun t k => XS.iloadN X1.here hx rfl (hb hby at_8) rfl k) ?_
  refine own_go T1 m 10 #[iv x0, iv x1, iv x2, iv x3, rv b1, .unset, .unset, .unset, .unset, .unset] [(.int x1), (.int x0), (.int 0), (.ref b1)] (fun t k => XS.iloadN X1.here hx rfl (hb hby at_9) rfl k) ?_
  refine own_go T1 m 11 #[iv x0, iv x1, iv x2, iv x3, rv b1, .unset, .unset, .unset, .unset, .unset] [(.int 3), (.int x1), (.int x0), (.int 0), (.ref b1)] (fun t k => XS.iconst X1.here hx rfl (hb hby at_10) k) ?_
  refine own_go T1 m 12 #[iv x0, iv x1, iv x2, iv x3, rv b1, .unset, .unset, .unset, .unset, .unset] [(.int (x1 &&& (3 : Int32))), (.int x0), (.int 0), (.ref b1)] (fun t k => XS.iand X1.here hx rfl (hb hby at_11) rfl k) ?_
  refine own_go T1 m 13 #[iv x0, iv x1, iv x2, iv x3, rv b1, .unset, .unset, .unset, .unset, .unset] [(.int (x0 + (x1 &&& (3 : Int32)))), (.int 0), (.ref b1)] (fun t k => XS.iadd X1.here hx rfl (hb hby at_12) rfl k) ?_
  obtain ⟨p0, hd_p0⟩ : ∃ z, z = (x0 + (x1 &&& (3 : Int32))) := ⟨_, rfl⟩
  rw [← hd_p0]
  obtain ⟨T2, h2, X2, e2, W2, V2, st2⟩ := own_iastore X1 hx hZ e1 V_b1 (j := (0 : Int32)) ⟨by decide, by decide⟩ 0 rfl (Nat.le_of_ble_eq_true rfl) (Ls := #[iv x0, iv x1, iv x2, iv x3, rv b1, .unset, .unset, .unset, .unset, .unset]) (rest := []) (x := p0) (hb hby at_13)
  replace V2 : Arv Z h2 b1 k1 .int (5 : Int32) [(.int p0), (.int 0), (.int 0), (.int 0), (.int 0)] (.int 0) := V2
  have Z_2 : n0 ≤ h2.size := Nat.le_trans Z_1 (Keep.of_wr W2).1
  have N2 := Fr.snoc X2 N0 g_b1
  refine own_go T2 m 14 #[iv x0, iv x1, iv x2, iv x3, rv b1, .unset, .unset, .unset, .unset, .unset] [] (st2) ?_
  refine own_go T2 m 16 #[iv x0, iv x1, iv x2, iv x3, rv b1, .unset, .unset, .unset, .unset, .unset] [(.ref b1)] (fun t k => XS.aload X2.here hx rfl (hb hby at_14) rfl rfl k) ?_
  refine own_go T2 m 17 #[iv x0, iv x1, iv x2, iv x3, rv b1, .unset, .unset, .unset, .unset, .unset] [(.int 1), (.ref b1)] (fun t k => XS.iconst X2.here hx rfl (hb hby at_16) k) ?_
  refine own_go T2 m 18 #[iv x0, iv x1, iv x2, iv x3, rv b1, .unset, .unset, .unset, .unset, .unset] [(.int x0), (.int 1), (.ref b1)] (fun t k => XS.iloadN X2.here hx rfl (hb hby at_17) rfl k) ?_
  refine own_go T2 m 19 #[iv x0, iv x1, iv x2, iv x3, rv b1, .unset, .unset, .unset, .unset, .unset] [(.int x1), (.int x0), (.int 1), (.ref b1)] (fun t k => XS.iloadN X2.here hx rfl (hb hby at_18) rfl k) ?_
  refine own_go T2 m 20 #[iv x0, iv x1, iv x2, iv x3, rv b1, .unset, .unset, .unset, .unset, .unset] [(.int 2), (.int x1), (.int x0), (.int 1), (.ref b1)] (fun t k => XS.iconst X2.here hx rfl (hb hby at_19) k) ?_
  refine own_go T2 m 21 #[iv x0, iv x1, iv x2, iv x3, rv b1, .unset, .unset, .unset, .unset, .unset] [(.int ((x1.toUInt32 >>> ((2 : Int32) &&& 31).toUInt32).toInt32)), (.int x0), (.int 1), (.ref b1)] (fun t k => XS.iushr X2.here hx rfl (hb hby at_20) rfl k) ?_
  refine own_go T2 m 22 #[iv x0, iv x1, iv x2, iv x3, rv b1, .unset, .unset, .unset, .unset, .unset] [(.int 3), (.int ((x1.toUInt32 >>> ((2 : Int32) &&& 31).toUInt32).toInt32)), (.int x0), (.int 1), (.ref b1)] (fun t k => XS.iconst X2.here hx rfl (hb hby at_21) k) ?_
  refine own_go T2 m 23 #[iv x0, iv x1, iv x2, iv x3, rv b1, .unset, .unset, .unset, .unset, .unset] [(.int (((x1.toUInt32 >>> ((2 : Int32) &&& 31).toUInt32).toInt32) &&& (3 : Int32))), (.int x0), (.int 1), (.ref b1)] (fun t k => XS.iand X2.here hx rfl (hb hby at_22) rfl k) ?_
  refine own_go T2 m 24 #[iv x0, iv x1, iv x2, iv x3, rv b1, .unset, .unset, .unset, .unset, .unset] [(.int (x0 + (((x1.toUInt32 >>> ((2 : Int32) &&& 31).toUInt32).toInt32) &&& (3 : Int32)))), (.int 1), (.ref b1)] (fun t k => XS.iadd X2.here hx rfl (hb hby at_23) rfl k) ?_
  obtain ⟨p1, hd_p1⟩ : ∃ z, z = (x0 + (((x1.toUInt32 >>> ((2 : Int32) &&& 31).toUInt32).toInt32) &&& (3 : Int32))) := ⟨_, rfl⟩
  rw [← hd_p1]
  obtain ⟨T3, h3, X3, e3, W3, V3, st3⟩ := own_iastore X2 hx hZ e2 V2 (j := (1 : Int32)) ⟨by decide, by decide⟩ 1 rfl (Nat.le_of_ble_eq_true rfl) (Ls := #[iv x0, iv x1, iv x2, iv x3, rv b1, .unset, .unset, .unset, .unset, .unset]) (rest := []) (x := p1) (hb hby at_24)
  replace V3 : Arv Z h3 b1 k1 .int (5 : Int32) [(.int p0), (.int p1), (.int 0), (.int 0), (.int 0)] (.int 0) := V3
  have Z_3 : n0 ≤ h3.size := Nat.le_trans Z_2 (Keep.of_wr W3).1
  have N3 := Fr.snoc X3 N2 g_b1
  refine own_go T3 m 25 #[iv x0, iv x1, iv x2, iv x3, rv b1, .unset, .unset, .unset, .unset, .unset] [] (st3) ?_
  refine own_go T3 m 27 #[iv x0, iv x1, iv x2, iv x3, rv b1, .unset, .unset, .unset, .unset, .unset] [(.ref b1)] (fun t k => XS.aload X3.here hx rfl (hb hby at_25) rfl rfl k) ?_
  refine own_go T3 m 28 #[iv x0, iv x1, iv x2, iv x3, rv b1, .unset, .unset, .unset, .unset, .unset] [(.int 2), (.ref b1)] (fun t k => XS.iconst X3.here hx rfl (hb hby at_27) k) ?_
  refine own_go T3 m 29 #[iv x0, iv x1, iv x2, iv x3, rv b1, .unset, .unset, .unset, .unset, .unset] [(.int x0), (.int 2), (.ref b1)] (fun t k => XS.iloadN X3.here hx rfl (hb hby at_28) rfl k) ?_
  refine own_go T3 m 30 #[iv x0, iv x1, iv x2, iv x3, rv b1, .unset, .unset, .unset, .unset, .unset] [(.int x1), (.int x0), (.int 2), (.ref b1)] (fun t k => XS.iloadN X3.here hx rfl (hb hby at_29) rfl k) ?_
  refine own_go T3 m 31 #[iv x0, iv x1, iv x2, iv x3, rv b1, .unset, .unset, .unset, .unset, .unset] [(.int 4), (.int x1), (.int x0), (.int 2), (.ref b1)] (fun t k => XS.iconst X3.here hx rfl (hb hby at_30) k) ?_
  refine own_go T3 m 32 #[iv x0, iv x1, iv x2, iv x3, rv b1, .unset, .unset, .unset, .unset, .unset] [(.int ((x1.toUInt32 >>> ((4 : Int32) &&& 31).toUInt32).toInt32)), (.int x0), (.int 2), (.ref b1)] (fun t k => XS.iushr X3.here hx rfl (hb hby at_31) rfl k) ?_
  refine own_go T3 m 33 #[iv x0, iv x1, iv x2, iv x3, rv b1, .unset, .unset, .unset, .unset, .unset] [(.int 3), (.int ((x1.toUInt32 >>> ((4 : Int32) &&& 31).toUInt32).toInt32)), (.int x0), (.int 2), (.ref b1)] (fun t k => XS.iconst X3.here hx rfl (hb hby at_32) k) ?_
  refine own_go T3 m 34 #[iv x0, iv x1, iv x2, iv x3, rv b1, .unset, .unset, .unset, .unset, .unset] [(.int (((x1.toUInt32 >>> ((4 : Int32) &&& 31).toUInt32).toInt32) &&& (3 : Int32))), (.int x0), (.int 2), (.ref b1)] (fun t k => XS.iand X3.here hx rfl (hb hby at_33) rfl k) ?_
  refine own_go T3 m 35 #[iv x0, iv x1, iv x2, iv x3, rv b1, .unset, .unset, .unset, .unset, .unset] [(.int (x0 + (((x1.toUInt32 >>> ((4 : Int32) &&& 31).toUInt32).toInt32) &&& (3 : Int32)))), (.int 2), (.ref b1)] (fun t k => XS.iadd X3.here hx rfl (hb hby at_34) rfl k) ?_
  obtain ⟨p2, hd_p2⟩ : ∃ z, z = (x0 + (((x1.toUInt32 >>> ((4 : Int32) &&& 31).toUInt32).toInt32) &&& (3 : Int32))) := ⟨_, rfl⟩
  rw [← hd_p2]
  obtain ⟨T4, h4, X4, e4, W4, V4, st4⟩ := own_iastore X3 hx hZ e3 V3 (j := (2 : Int32)) ⟨by decide, by decide⟩ 2 rfl (Nat.le_of_ble_eq_true rfl) (Ls := #[iv x0, iv x1, iv x2, iv x3, rv b1, .unset, .unset, .unset, .unset, .unset]) (rest := []) (x := p2) (hb hby at_35)
  replace V4 : Arv Z h4 b1 k1 .int (5 : Int32) [(.int p0), (.int p1), (.int p2), (.int 0), (.int 0)] (.int 0) := V4
  have Z_4 : n0 ≤ h4.size := Nat.le_trans Z_3 (Keep.of_wr W4).1
  have N4 := Fr.snoc X4 N3 g_b1
  refine own_go T4 m 36 #[iv x0, iv x1, iv x2, iv x3, rv b1, .unset, .unset, .unset, .unset, .unset] [] (st4) ?_
  refine own_go T4 m 38 #[iv x0, iv x1, iv x2, iv x3, rv b1, .unset, .unset, .unset, .unset, .unset] [(.ref b1)] (fun t k => XS.aload X4.here hx rfl (hb hby at_36) rfl rfl k) ?_
  refine own_go T4 m 39 #[iv x0, iv x1, iv x2, iv x3, rv b1, .unset, .unset, .unset, .unset, .unset] [(.int 3), (.ref b1)] (fun t k => XS.iconst X4.here hx rfl (hb hby at_38) k) ?_
  refine own_go T4 m 40 #[iv x0, iv x1, iv x2, iv x3, rv b1, .unset, .unset, .unset, .unset, .unset] [(.int x0), (.int 3), (.ref b1)] (fun t k => XS.iloadN X4.here hx rfl (hb hby at_39) rfl k) ?_
  refine own_go T4 m 41 #[iv x0, iv x1, iv x2, iv x3, rv b1, .unset, .unset, .unset, .unset, .unset] [(.int x1), (.int x0), (.int 3), (.ref b1)] (fun t k => XS.iloadN X4.here hx rfl (hb hby at_40) rfl k) ?_
  refine own_go T4 m 43 #[iv x0, iv x1, iv x2, iv x3, rv b1, .unset, .unset, .unset, .unset, .unset] [(.int 6), (.int x1), (.int x0), (.int 3), (.ref b1)] (fun t k => XS.bipush X4.here hx rfl (hb hby at_41) k) ?_
  refine own_go T4 m 44 #[iv x0, iv x1, iv x2, iv x3, rv b1, .unset, .unset, .unset, .unset, .unset] [(.int ((x1.toUInt32 >>> ((6 : Int32) &&& 31).toUInt32).toInt32)), (.int x0), (.int 3), (.ref b1)] (fun t k => XS.iushr X4.here hx rfl (hb hby at_43) rfl k) ?_
  refine own_go T4 m 45 #[iv x0, iv x1, iv x2, iv x3, rv b1, .unset, .unset, .unset, .unset, .unset] [(.int 3), (.int ((x1.toUInt32 >>> ((6 : Int32) &&& 31).toUInt32).toInt32)), (.int x0), (.int 3), (.ref b1)] (fun t k => XS.iconst X4.here hx rfl (hb hby at_44) k) ?_
  refine own_go T4 m 46 #[iv x0, iv x1, iv x2, iv x3, rv b1, .unset, .unset, .unset, .unset, .unset] [(.int (((x1.toUInt32 >>> ((6 : Int32) &&& 31).toUInt32).toInt32) &&& (3 : Int32))), (.int x0), (.int 3), (.ref b1)] (fun t k => XS.iand X4.here hx rfl (hb hby at_45) rfl k) ?_
  refine own_go T4 m 47 #[iv x0, iv x1, iv x2, iv x3, rv b1, .unset, .unset, .unset, .unset, .unset] [(.int (x0 + (((x1.toUInt32 >>> ((6 : Int32) &&& 31).toUInt32).toInt32) &&& (3 : Int32)))), (.int 3), (.ref b1)] (fun t k => XS.iadd X4.here hx rfl (hb hby at_46) rfl k) ?_
  obtain ⟨p3, hd_p3⟩ : ∃ z, z = (x0 + (((x1.toUInt32 >>> ((6 : Int32) &&& 31).toUInt32).toInt32) &&& (3 : Int32))) := ⟨_, rfl⟩
  rw [← hd_p3]
  obtain ⟨T5, h5, X5, e5, W5, V5, st5⟩ := own_iastore X4 hx hZ e4 V4 (j := (3 : Int32)) ⟨by decide, by decide⟩ 3 rfl (Nat.le_of_ble_eq_true rfl) (Ls := #[iv x0, iv x1, iv x2, iv x3, rv b1, .unset, .unset, .unset, .unset, .unset]) (rest := []) (x := p3) (hb hby at_47)
  replace V5 : Arv Z h5 b1 k1 .int (5 : Int32) [(.int p0), (.int p1), (.int p2), (.int p3), (.int 0)] (.int 0) := V5
  have Z_5 : n0 ≤ h5.size := Nat.le_trans Z_4 (Keep.of_wr W5).1
  have N5 := Fr.snoc X5 N4 g_b1
  refine own_go T5 m 48 #[iv x0, iv x1, iv x2, iv x3, rv b1, .unset, .unset, .unset, .unset, .unset] [] (st5) ?_
  refine own_go T5 m 50 #[iv x0, iv x1, iv x2, iv x3, rv b1, .unset, .unset, .unset, .unset, .unset] [(.ref b1)] (fun t k => XS.aload X5.here hx rfl (hb hby at_48) rfl rfl k) ?_
  refine own_go T5 m 51 #[iv x0, iv x1, iv x2, iv x3, rv b1, .unset, .unset, .unset, .unset, .unset] [(.int 4), (.ref b1)] (fun t k => XS.iconst X5.here hx rfl (hb hby at_50) k) ?_
  refine own_go T5 m 52 #[iv x0, iv x1, iv x2, iv x3, rv b1, .unset, .unset, .unset, .unset, .unset] [(.int x0), (.int 4), (.ref b1)] (fun t k => XS.iloadN X5.here hx rfl (hb hby at_51) rfl k) ?_
  refine own_go T5 m 53 #[iv x0, iv x1, iv x2, iv x3, rv b1, .unset, .unset, .unset, .unset, .unset] [(.int x1), (.int x0), (.int 4), (.ref b1)] (fun t k => XS.iloadN X5.here hx rfl (hb hby at_52) rfl k) ?_
  refine own_go T5 m 55 #[iv x0, iv x1, iv x2, iv x3, rv b1, .unset, .unset, .unset, .unset, .unset] [(.int 8), (.int x1), (.int x0), (.int 4), (.ref b1)] (fun t k => XS.bipush X5.here hx rfl (hb hby at_53) k) ?_
  refine own_go T5 m 56 #[iv x0, iv x1, iv x2, iv x3, rv b1, .unset, .unset, .unset, .unset, .unset] [(.int ((x1.toUInt32 >>> ((8 : Int32) &&& 31).toUInt32).toInt32)), (.int x0), (.int 4), (.ref b1)] (fun t k => XS.iushr X5.here hx rfl (hb hby at_55) rfl k) ?_
  refine own_go T5 m 57 #[iv x0, iv x1, iv x2, iv x3, rv b1, .unset, .unset, .unset, .unset, .unset] [(.int 3), (.int ((x1.toUInt32 >>> ((8 : Int32) &&& 31).toUInt32).toInt32)), (.int x0), (.int 4), (.ref b1)] (fun t k => XS.iconst X5.here hx rfl (hb hby at_56) k) ?_
  refine own_go T5 m 58 #[iv x0, iv x1, iv x2, iv x3, rv b1, .unset, .unset, .unset, .unset, .unset] [(.int (((x1.toUInt32 >>> ((8 : Int32) &&& 31).toUInt32).toInt32) &&& (3 : Int32))), (.int x0), (.int 4), (.ref b1)] (fun t k => XS.iand X5.here hx rfl (hb hby at_57) rfl k) ?_
  refine own_go T5 m 59 #[iv x0, iv x1, iv x2, iv x3, rv b1, .unset, .unset, .unset, .unset, .unset] [(.int (x0 + (((x1.toUInt32 >>> ((8 : Int32) &&& 31).toUInt32).toInt32) &&& (3 : Int32)))), (.int 4), (.ref b1)] (fun t k => XS.iadd X5.here hx rfl (hb hby at_58) rfl k) ?_
  obtain ⟨p4, hd_p4⟩ : ∃ z, z = (x0 + (((x1.toUInt32 >>> ((8 : Int32) &&& 31).toUInt32).toInt32) &&& (3 : Int32))) := ⟨_, rfl⟩
  rw [← hd_p4]
  obtain ⟨T6, h6, X6, e6, W6, V6, st6⟩ := own_iastore X5 hx hZ e5 V5 (j := (4 : Int32)) ⟨by decide, by decide⟩ 4 rfl (Nat.le_of_ble_eq_true rfl) (Ls := #[iv x0, iv x1, iv x2, iv x3, rv b1, .unset, .unset, .unset, .unset, .unset]) (rest := []) (x := p4) (hb hby at_59)
  replace V6 : Arv Z h6 b1 k1 .int (5 : Int32) [(.int p0), (.int p1), (.int p2), (.int p3), (.int p4)] (.int 0) := V6
  have Z_6 : n0 ≤ h6.size := Nat.le_trans Z_5 (Keep.of_wr W6).1
  have N6 := Fr.snoc X6 N5 g_b1
  refine own_go T6 m 60 #[iv x0, iv x1, iv x2, iv x3, rv b1, .unset, .unset, .unset, .unset, .unset] [] (st6) ?_
  refine own_go T6 m 61 #[iv x0, iv x1, iv x2, iv x3, rv b1, .unset, .unset, .unset, .unset, .unset] [(.int 5)] (fun t k => XS.iconst X6.here hx rfl (hb hby at_60) k) ?_
  obtain ⟨T7, h7, k7, X7, e7, E7, A7, st7⟩ := newP X6 hx hZ (own_w hw 0 rfl) e6 (g := (mkF m 61 #[iv x0, iv x1, iv x2, iv x3, rv b1, .unset, .unset, .unset, .unset, .unset] [(.int 5)])) rfl (hb hby at_61) rfl (by decide) (cap := 5) (by decide) (by decide) (by decide) (by decide)
  obtain ⟨b7, g7⟩ : ∃ z, z = h6.size := ⟨_, rfl⟩
  rw [← g7] at A7 st7
  have ne_b1_b7 : b1 ≠ b7 := Nat.ne_of_lt (Nat.lt_of_lt_of_eq V6.lt g7.symm)
  have g_b7 : n0 ≤ b7 := Nat.le_trans Z_6 (Nat.le_of_eq g7.symm)
  have cf8 := V6.ext E7
  have Z_7 : n0 ≤ h7.size := Nat.le_trans Z_6 E7.1
  have V_b7 : Arv Z h7 b7 k7 .int (5 : Int32) [(.int 0), (.int 0), (.int 0), (.int 0), (.int 0)] (.int 0) := (Arv.new A7 (by decide)).pad (pad_rep [] (.int 0) 5)
  refine own_go T7 m 63 #[iv x0, iv x1, iv x2, iv x3, rv b1, .unset, .unset, .unset, .unset, .unset] [(.ref b7)] (st7) ?_
  refine own_go T7 m 65 #[iv x0, iv x1, iv x2, iv x3, rv b1, rv b7, .unset, .unset, .unset, .unset] [] (fun t k => XS.astore X7.here hx rfl (hb hby at_63) rfl rfl rfl k) ?_
  refine own_go T7 m 67 #[iv x0, iv x1, iv x2, iv x3, rv b1, rv b7, .unset, .unset, .unset, .unset] [(.ref b7)] (fun t k => XS.aload X7.here hx rfl (hb hby at_65) rfl rfl k) ?_
  refine own_go T7 m 68 #[iv x0, iv x1, iv x2, iv x3, rv b1, rv b7, .unset, .unset, .unset, .unset] [(.int 0), (.ref b7)] (fun t k => XS.iconst X7.here hx rfl (hb hby at_67) k) ?_
  refine own_go T7 m 69 #[iv x0, iv x1, iv x2, iv x3, rv b1, rv b7, .unset, .unset, .unset, .unset] [(.int 0), (.int 0), (.ref b7)] (fun t k => XS.iconst X7.here hx rfl (hb hby at_68) k) ?_
  obtain ⟨T9, h9, X9, e9, W9, V9, st9⟩ := own_iastore X7 hx hZ e7 V_b7 (j := (0 : Int32)) ⟨by decide, by decide⟩ 0 rfl (Nat.le_of_ble_eq_true rfl) (Ls := #[iv x0, iv x1, iv x2, iv x3, rv b1, rv b7, .unset, .unset, .unset, .unset]) (rest := []) (x := (0 : Int32)) (hb hby at_69)
  replace V9 : Arv Z h9 b7 k7 .int (5 : Int32) [(.int 0), (.int 0), (.int 0), (.int 0), (.int 0)] (.int 0) := V9
  have cf10 := cf8.other W9 ne_b1_b7
  have Z_9 : n0 ≤ h9.size := Nat.le_trans Z_7 (Keep.of_wr W9).1
  have N9 := Fr.snoc X9 N6 g_b7
  refine own_go T9 m 70 #[iv x0, iv x1, iv x2, iv x3, rv b1, rv b7, .unset, .unset, .unset, .unset] [] (st9) ?_
  refine own_go T9 m 72 #[iv x0, iv x1, iv x2, iv x3, rv b1, rv b7, .unset, .unset, .unset, .unset] [(.ref b7)] (fun t k => XS.aload X9.here hx rfl (hb hby at_70) rfl rfl k) ?_
  refine own_go T9 m 73 #[iv x0, iv x1, iv x2, iv x3, rv b1, rv b7, .unset, .unset, .unset, .unset] [(.int 1), (.ref b7)] (fun t k => XS.iconst X9.here hx rfl (hb hby at_72) k) ?_
  refine own_go T9 m 75 #[iv x0, iv x1, iv x2, iv x3, rv b1, rv b7, .unset, .unset, .unset, .unset] [(.ref b1), (.int 1), (.ref b7)] (fun t k => XS.aload X9.here hx rfl (hb hby at_73) rfl rfl k) ?_
  refine own_go T9 m 76 #[iv x0, iv x1, iv x2, iv x3, rv b1, rv b7, .unset, .unset, .unset, .unset] [(.int 2), (.ref b1), (.int 1), (.ref b7)] (fun t k => XS.iconst X9.here hx rfl (hb hby at_75) k) ?_
  obtain ⟨_, T11, L11, X11, ⟨rfl, e11, rfl⟩, st11⟩ := own_static X9 hx hZ (y := (⟨"com/example/substring_search/substringsearch/PrefixTableFallBackPinLaw", "longest", "([II)I"⟩ : MethodName)) hown (own_w hw 1 rfl) (own_w hw 2 rfl) (own_w hw 3 rfl) (own_w hw 4 rfl) (by decide) (rmL2 l Z a0 hw [] b1 k1 p0 p1 p2 p3 p4 h9 cf10) e9 2 (argsL := [(.ref b1), (.int 2)]) (rest := [(.int 1), (.ref b7)]) (Ls := #[iv x0, iv x1, iv x2, iv x3, rv b1, rv b7, .unset, .unset, .unset, .unset]) (by rw [hml]; rfl) (lenOf pd___II_I rfl) rfl rfl (Nat.le_of_eq rfl) (hb hby at_76) (by decide) (by decide) (by decide) (by decide)
  replace X11 := own_nil X11
  refine own_go T11 m 79 #[iv x0, iv x1, iv x2, iv x3, rv b1, rv b7, .unset, .unset, .unset, .unset] [(.int (own_l2 p0 p1)), (.int 1), (.ref b7)] (st11) ?_
  obtain ⟨T12, h12, X12, e12, W12, V12, st12⟩ := own_iastore X11 hx hZ e11 V9 (j := (1 : Int32)) ⟨by decide, by decide⟩ 1 rfl (Nat.le_of_ble_eq_true rfl) (Ls := #[iv x0, iv x1, iv x2, iv x3, rv b1, rv b7, .unset, .unset, .unset, .unset]) (rest := []) (x := (own_l2 p0 p1)) (hb hby at_79)
  replace V12 : Arv Z h12 b7 k7 .int (5 : Int32) [(.int 0), (.int (own_l2 p0 p1)), (.int 0), (.int 0), (.int 0)] (.int 0) := V12
  have cf13 := cf10.other W12 ne_b1_b7
  have Z_12 : n0 ≤ h12.size := Nat.le_trans Z_9 (Keep.of_wr W12).1
  have N12 := Fr.snoc X12 N9 g_b7
  refine own_go T12 m 80 #[iv x0, iv x1, iv x2, iv x3, rv b1, rv b7, .unset, .unset, .unset, .unset] [] (st12) ?_
  refine own_go T12 m 82 #[iv x0, iv x1, iv x2, iv x3, rv b1, rv b7, .unset, .unset, .unset, .unset] [(.ref b7)] (fun t k => XS.aload X12.here hx rfl (hb hby at_80) rfl rfl k) ?_
  refine own_go T12 m 83 #[iv x0, iv x1, iv x2, iv x3, rv b1, rv b7, .unset, .unset, .unset, .unset] [(.int 2), (.ref b7)] (fun t k => XS.iconst X12.here hx rfl (hb hby at_82) k) ?_
  refine own_go T12 m 85 #[iv x0, iv x1, iv x2, iv x3, rv b1, rv b7, .unset, .unset, .unset, .unset] [(.ref b1), (.int 2), (.ref b7)] (fun t k => XS.aload X12.here hx rfl (hb hby at_83) rfl rfl k) ?_
  refine own_go T12 m 86 #[iv x0, iv x1, iv x2, iv x3, rv b1, rv b7, .unset, .unset, .unset, .unset] [(.int 3), (.ref b1), (.int 2), (.ref b7)] (fun t k => XS.iconst X12.here hx rfl (hb hby at_85) k) ?_
  obtain ⟨_, T14, L14, X14, ⟨rfl, e14, rfl⟩, st14⟩ := own_static X12 hx hZ (y := (⟨"com/example/substring_search/substringsearch/PrefixTableFallBackPinLaw", "longest", "([II)I"⟩ : MethodName)) hown (own_w hw 1 rfl) (own_w hw 2 rfl) (own_w hw 3 rfl) (own_w hw 4 rfl) (by decide) (rmL3 l Z a0 hw [] b1 k1 p0 p1 p2 p3 p4 h12 cf13) e12 2 (argsL := [(.ref b1), (.int 3)]) (rest := [(.int 2), (.ref b7)]) (Ls := #[iv x0, iv x1, iv x2, iv x3, rv b1, rv b7, .unset, .unset, .unset, .unset]) (by rw [hml]; rfl) (lenOf pd___II_I rfl) rfl rfl (Nat.le_of_eq rfl) (hb hby at_86) (by decide) (by decide) (by decide) (by decide)
  replace X14 := own_nil X14
  refine own_go T14 m 89 #[iv x0, iv x1, iv x2, iv x3, rv b1, rv b7, .unset, .unset, .unset, .unset] [(.int (own_l3 p0 p1 p2)), (.int 2), (.ref b7)] (st14) ?_
  obtain ⟨T15, h15, X15, e15, W15, V15, st15⟩ := own_iastore X14 hx hZ e14 V12 (j := (2 : Int32)) ⟨by decide, by decide⟩ 2 rfl (Nat.le_of_ble_eq_true rfl) (Ls := #[iv x0, iv x1, iv x2, iv x3, rv b1, rv b7, .unset, .unset, .unset, .unset]) (rest := []) (x := (own_l3 p0 p1 p2)) (hb hby at_89)
  replace V15 : Arv Z h15 b7 k7 .int (5 : Int32) [(.int 0), (.int (own_l2 p0 p1)), (.int (own_l3 p0 p1 p2)), (.int 0), (.int 0)] (.int 0) := V15
  have cf16 := cf13.other W15 ne_b1_b7
  have Z_15 : n0 ≤ h15.size := Nat.le_trans Z_12 (Keep.of_wr W15).1
  have N15 := Fr.snoc X15 N12 g_b7
  refine own_go T15 m 90 #[iv x0, iv x1, iv x2, iv x3, rv b1, rv b7, .unset, .unset, .unset, .unset] [] (st15) ?_
  refine own_go T15 m 92 #[iv x0, iv x1, iv x2, iv x3, rv b1, rv b7, .unset, .unset, .unset, .unset] [(.ref b7)] (fun t k => XS.aload X15.here hx rfl (hb hby at_90) rfl rfl k) ?_
  refine own_go T15 m 93 #[iv x0, iv x1, iv x2, iv x3, rv b1, rv b7, .unset, .unset, .unset, .unset] [(.int 3), (.ref b7)] (fun t k => XS.iconst X15.here hx rfl (hb hby at_92) k) ?_
  refine own_go T15 m 95 #[iv x0, iv x1, iv x2, iv x3, rv b1, rv b7, .unset, .unset, .unset, .unset] [(.ref b1), (.int 3), (.ref b7)] (fun t k => XS.aload X15.here hx rfl (hb hby at_93) rfl rfl k) ?_
  refine own_go T15 m 96 #[iv x0, iv x1, iv x2, iv x3, rv b1, rv b7, .unset, .unset, .unset, .unset] [(.int 4), (.ref b1), (.int 3), (.ref b7)] (fun t k => XS.iconst X15.here hx rfl (hb hby at_95) k) ?_
  obtain ⟨_, T17, L17, X17, ⟨rfl, e17, rfl⟩, st17⟩ := own_static X15 hx hZ (y := (⟨"com/example/substring_search/substringsearch/PrefixTableFallBackPinLaw", "longest", "([II)I"⟩ : MethodName)) hown (own_w hw 1 rfl) (own_w hw 2 rfl) (own_w hw 3 rfl) (own_w hw 4 rfl) (by decide) (rmL4 l Z a0 hw [] b1 k1 p0 p1 p2 p3 p4 h15 cf16) e15 2 (argsL := [(.ref b1), (.int 4)]) (rest := [(.int 3), (.ref b7)]) (Ls := #[iv x0, iv x1, iv x2, iv x3, rv b1, rv b7, .unset, .unset, .unset, .unset]) (by rw [hml]; rfl) (lenOf pd___II_I rfl) rfl rfl (Nat.le_of_eq rfl) (hb hby at_96) (by decide) (by decide) (by decide) (by decide)
  replace X17 := own_nil X17
  refine own_go T17 m 99 #[iv x0, iv x1, iv x2, iv x3, rv b1, rv b7, .unset, .unset, .unset, .unset] [(.int (own_l4 p0 p1 p2 p3)), (.int 3), (.ref b7)] (st17) ?_
  obtain ⟨T18, h18, X18, e18, W18, V18, st18⟩ := own_iastore X17 hx hZ e17 V15 (j := (3 : Int32)) ⟨by decide, by decide⟩ 3 rfl (Nat.le_of_ble_eq_true rfl) (Ls := #[iv x0, iv x1, iv x2, iv x3, rv b1, rv b7, .unset, .unset, .unset, .unset]) (rest := []) (x := (own_l4 p0 p1 p2 p3)) (hb hby at_99)
  replace V18 : Arv Z h18 b7 k7 .int (5 : Int32) [(.int 0), (.int (own_l2 p0 p1)), (.int (own_l3 p0 p1 p2)), (.int (own_l4 p0 p1 p2 p3)), (.int 0)] (.int 0) := V18
  have cf19 := cf16.other W18 ne_b1_b7
  have Z_18 : n0 ≤ h18.size := Nat.le_trans Z_15 (Keep.of_wr W18).1
  have N18 := Fr.snoc X18 N15 g_b7
  refine own_go T18 m 100 #[iv x0, iv x1, iv x2, iv x3, rv b1, rv b7, .unset, .unset, .unset, .unset] [] (st18) ?_
  refine own_go T18 m 102 #[iv x0, iv x1, iv x2, iv x3, rv b1, rv b7, .unset, .unset, .unset, .unset] [(.ref b7)] (fun t k => XS.aload X18.here hx rfl (hb hby at_100) rfl rfl k) ?_
  refine own_go T18 m 103 #[iv x0, iv x1, iv x2, iv x3, rv b1, rv b7, .unset, .unset, .unset, .unset] [(.int 4), (.ref b7)] (fun t k => XS.iconst X18.here hx rfl (hb hby at_102) k) ?_
  refine own_go T18 m 104 #[iv x0, iv x1, iv x2, iv x3, rv b1, rv b7, .unset, .unset, .unset, .unset] [(.int 0), (.int 4), (.ref b7)] (fun t k => XS.iconst X18.here hx rfl (hb hby at_103) k) ?_
  obtain ⟨T20, h20, X20, e20, W20, V20, st20⟩ := own_iastore X18 hx hZ e18 V18 (j := (4 : Int32)) ⟨by decide, by decide⟩ 4 rfl (Nat.le_of_ble_eq_true rfl) (Ls := #[iv x0, iv x1, iv x2, iv x3, rv b1, rv b7, .unset, .unset, .unset, .unset]) (rest := []) (x := (0 : Int32)) (hb hby at_104)
  replace V20 : Arv Z h20 b7 k7 .int (5 : Int32) [(.int 0), (.int (own_l2 p0 p1)), (.int (own_l3 p0 p1 p2)), (.int (own_l4 p0 p1 p2 p3)), (.int 0)] (.int 0) := V20
  have cf21 := cf19.other W20 ne_b1_b7
  have Z_20 : n0 ≤ h20.size := Nat.le_trans Z_18 (Keep.of_wr W20).1
  have N20 := Fr.snoc X20 N18 g_b7
  refine own_go T20 m 105 #[iv x0, iv x1, iv x2, iv x3, rv b1, rv b7, .unset, .unset, .unset, .unset] [] (st20) ?_
  refine own_go T20 m 106 #[iv x0, iv x1, iv x2, iv x3, rv b1, rv b7, .unset, .unset, .unset, .unset] [(.int x2)] (fun t k => XS.iloadN X20.here hx rfl (hb hby at_105) rfl k) ?_
  refine own_go T20 m 108 #[iv x0, iv x1, iv x2, iv x3, rv b1, rv b7, .unset, .unset, .unset, .unset] [(.int 2147483647), (.int x2)] (X20.ldcInt hx hown (mvT hZ (own_w hw 8 rfl)) (g := (mkF m 106 #[iv x0, iv x1, iv x2, iv x3, rv b1, rv b7, .unset, .unset, .unset, .unset] [(.int x2)])) rfl (hb hby at_106)) ?_
  refine own_go T20 m 109 #[iv x0, iv x1, iv x2, iv x3, rv b1, rv b7, .unset, .unset, .unset, .unset] [(.int (x2 &&& (2147483647 : Int32)))] (fun t k => XS.iand X20.here hx rfl (hb hby at_108) rfl k) ?_
  refine own_go T20 m 110 #[iv x0, iv x1, iv x2, iv x3, rv b1, rv b7, .unset, .unset, .unset, .unset] [(.int 5), (.int (x2 &&& (2147483647 : Int32)))] (fun t k => XS.iconst X20.here hx rfl (hb hby at_109) k) ?_
  refine own_go T20 m 111 #[iv x0, iv x1, iv x2, iv x3, rv b1, rv b7, .unset, .unset, .unset, .unset] [(.int ((x2 &&& (2147483647 : Int32)) % (5 : Int32)))] (fun t k => own_rem_ne X20 hx rfl (hb hby at_110) rfl (by decide) k) ?_
  rcases own_mod5 x2 with hq | hq | hq | hq | hq
  · rw [hq]
    refine own_go T20 m 113 #[iv x0, iv x1, iv x2, iv x3, rv b1, rv b7, iv 0, .unset, .unset, .unset] [] (fun t k => XS.istore X20.here hx rfl (hb hby at_111) rfl rfl k) ?_
    refine own_go T20 m 114 #[iv x0, iv x1, iv x2, iv x3, rv b1, rv b7, iv 0, .unset, .unset, .unset] [(.int x3)] (fun t k => XS.iloadN X20.here hx rfl (hb hby at_113) rfl k) ?_
    refine own_go T20 m 115 #[iv x0, iv x1, iv x2, iv x3, rv b1, rv b7, iv 0, .unset, .unset, .unset] [(.int 3), (.int x3)] (fun t k => XS.iconst X20.here hx rfl (hb hby at_114) k) ?_
    refine own_go T20 m 116 #[iv x0, iv x1, iv x2, iv x3, rv b1, rv b7, iv 0, .unset, .unset, .unset] [(.int ((x3.toUInt32 >>> ((3 : Int32) &&& 31).toUInt32).toInt32))] (fun t k => XS.iushr X20.here hx rfl (hb hby at_115) rfl k) ?_
    refine own_go T20 m 117 #[iv x0, iv x1, iv x2, iv x3, rv b1, rv b7, iv 0, .unset, .unset, .unset] [(.int 1), (.int ((x3.toUInt32 >>> ((3 : Int32) &&& 31).toUInt32).toInt32))] (fun t k => XS.iconst X20.here hx rfl (hb hby at_116) k) ?_
    refine own_go T20 m 118 #[iv x0, iv x1, iv x2, iv x3, rv b1, rv b7, iv 0, .unset, .unset, .unset] [(.int (((x3.toUInt32 >>> ((3 : Int32) &&& 31).toUInt32).toInt32) &&& (1 : Int32)))] (fun t k => XS.iand X20.here hx rfl (hb hby at_117) rfl k) ?_
    have seg133 : ∀ (v7 : Int32), OwnG p.tables e below s (fun v h L => v = some (.int 1) ∧ Fr n0 L) room_1.cells room_1.slots (T20.setTop (mkF m 133 #[iv x0, iv x1, iv x2, iv x3, rv b1, rv b7, iv 0, iv v7, .unset, .unset] [])) := by
      intro v7
      refine own_go T20 m 135 #[iv x0, iv x1, iv x2, iv x3, rv b1, rv b7, iv 0, iv v7, .unset, .unset] [(.ref b1)] (fun t k => XS.aload X20.here hx rfl (hb hby at_133) rfl rfl k) ?_
      refine own_go T20 m 137 #[iv x0, iv x1, iv x2, iv x3, rv b1, rv b7, iv 0, iv v7, .unset, .unset] [(.int 0), (.ref b1)] (fun t k => XS.iload X20.here hx rfl (hb hby at_135) rfl k) ?_
      refine own_go T20 m 139 #[iv x0, iv x1, iv x2, iv x3, rv b1, rv b7, iv 0, iv v7, .unset, .unset] [(.int v7), (.int 0), (.ref b1)] (fun t k => XS.iload X20.here hx rfl (hb hby at_137) rfl k) ?_
      obtain ⟨_, T23, L23, X23, ⟨rfl, e23, rfl⟩, st23⟩ := own_static X20 hx hZ (y := (⟨"com/example/substring_search/substringsearch/PrefixTableFallBackPinLaw", "ref", "([III)I"⟩ : MethodName)) hown (own_w hw 9 rfl) (own_w hw 10 rfl) (own_w hw 3 rfl) (own_w hw 11 rfl) (by decide) (rmR0 l Z a0 hw [] b1 v7 k1 p0 p1 p2 p3 p4 h20 cf21) e20 0 (argsL := [(.ref b1), (.int 0), (.int v7)]) (rest := []) (Ls := #[iv x0, iv x1, iv x2, iv x3, rv b1, rv b7, iv 0, iv v7, .unset, .unset]) (by rw [hml]; rfl) (lenOf pd___III_I rfl) rfl rfl (Nat.le_of_eq rfl) (hb hby at_139) (by decide) (by decide) (by decide) (by decide)
      replace X23 := own_nil X23
      refine own_go T23 m 142 #[iv x0, iv x1, iv x2, iv x3, rv b1, rv b7, iv 0, iv v7, .unset, .unset] [(.int (own_ref0 p0 p1 p2 p3 v7))] (st23) ?_
      refine own_go T23 m 144 #[iv x0, iv x1, iv x2, iv x3, rv b1, rv b7, iv 0, iv v7, iv (own_ref0 p0 p1 p2 p3 v7), .unset] [] (fun t k => XS.istore X23.here hx rfl (hb hby at_142) rfl rfl k) ?_
      refine own_go T23 m 146 #[iv x0, iv x1, iv x2, iv x3, rv b1, rv b7, iv 0, iv v7, iv (own_ref0 p0 p1 p2 p3 v7), .unset] [(.ref b7)] (fun t k => XS.aload X23.here hx rfl (hb hby at_144) rfl rfl k) ?_
      refine own_go T23 m 148 #[iv x0, iv x1, iv x2, iv x3, rv b1, rv b7, iv 0, iv v7, iv (own_ref0 p0 p1 p2 p3 v7), .unset] [(.ref b1), (.ref b7)] (fun t k => XS.aload X23.here hx rfl (hb hby at_146) rfl rfl k) ?_
      refine own_go T23 m 150 #[iv x0, iv x1, iv x2, iv x3, rv b1, rv b7, iv 0, iv v7, iv (own_ref0 p0 p1 p2 p3 v7), .unset] [(.int 0), (.ref b1), (.ref b7)] (fun t k => XS.iload X23.here hx rfl (hb hby at_148) rfl k) ?_
      refine own_go T23 m 152 #[iv x0, iv x1, iv x2, iv x3, rv b1, rv b7, iv 0, iv v7, iv (own_ref0 p0 p1 p2 p3 v7), .unset] [(.int v7), (.int 0), (.ref b1), (.ref b7)] (fun t k => XS.iload X23.here hx rfl (hb hby at_150) rfl k) ?_
      obtain ⟨_, T24, L24, X24, ⟨rfl, e24, rfl⟩, st24⟩ := own_static X23 hx hZ (y := (⟨"com/example/substring_search/substringsearch/PrefixTable", "fallBack", "([I[III)I"⟩ : MethodName)) hown (own_w hw 12 rfl) (own_w hw 13 rfl) (own_w hw 14 rfl) (own_w hw 15 rfl) (by decide) (rmF0 l Z a0 hw [] b7 b1 v7 k1 p0 p1 p2 p3 p4 k7 h20 cf21 V20) e23 0 (argsL := [(.ref b7), (.ref b1), (.int 0), (.int v7)]) (rest := []) (Ls := #[iv x0, iv x1, iv x2, iv x3, rv b1, rv b7, iv 0, iv v7, iv (own_ref0 p0 p1 p2 p3 v7), .unset]) (by rw [hml]; rfl) (lenOf pd___I_III_I rfl) rfl rfl (Nat.le_of_eq rfl) (hb hby at_152) (by decide) (by decide) (by decide) (by decide)
      replace X24 := own_nil X24
      refine own_go T24 m 155 #[iv x0, iv x1, iv x2, iv x3, rv b1, rv b7, iv 0, iv v7, iv (own_ref0 p0 p1 p2 p3 v7), .unset] [(.int (own_ref0 p0 p1 p2 p3 v7))] (st24) ?_
      refine own_go T24 m 157 #[iv x0, iv x1, iv x2, iv x3, rv b1, rv b7, iv 0, iv v7, iv (own_ref0 p0 p1 p2 p3 v7), iv (own_ref0 p0 p1 p2 p3 v7)] [] (fun t k => XS.istore X24.here hx rfl (hb hby at_155) rfl rfl k) ?_
      refine own_go T24 m 159 #[iv x0, iv x1, iv x2, iv x3, rv b1, rv b7, iv 0, iv v7, iv (own_ref0 p0 p1 p2 p3 v7), iv (own_ref0 p0 p1 p2 p3 v7)] [(.int (own_ref0 p0 p1 p2 p3 v7))] (fun t k => XS.iload X24.here hx rfl (hb hby at_157) rfl k) ?_
      refine own_go T24 m 161 #[iv x0, iv x1, iv x2, iv x3, rv b1, rv b7, iv 0, iv v7, iv (own_ref0 p0 p1 p2 p3 v7), iv (own_ref0 p0 p1 p2 p3 v7)] [(.int (own_ref0 p0 p1 p2 p3 v7)), (.int (own_ref0 p0 p1 p2 p3 v7))] (fun t k => XS.iload X24.here hx rfl (hb hby at_159) rfl k) ?_
      refine own_go T24 m 164 #[iv x0, iv x1, iv x2, iv x3, rv b1, rv b7, iv 0, iv v7, iv (own_ref0 p0 p1 p2 p3 v7), iv (own_ref0 p0 p1 p2 p3 v7)] [] (fun t k => XS.icmpNo X24.here hx rfl (hb hby at_161) rfl (teq rfl).2 k) ?_
      refine own_go T24 m 165 #[iv x0, iv x1, iv x2, iv x3, rv b1, rv b7, iv 0, iv v7, iv (own_ref0 p0 p1 p2 p3 v7), iv (own_ref0 p0 p1 p2 p3 v7)] [(.int 1)] (fun t k => XS.iconst X24.here hx rfl (hb hby at_164) k) ?_
      refine own_go T24 m 169 #[iv x0, iv x1, iv x2, iv x3, rv b1, rv b7, iv 0, iv v7, iv (own_ref0 p0 p1 p2 p3 v7), iv (own_ref0 p0 p1 p2 p3 v7)] [(.int 1)] (fun t k => XS.goto X24.here hx rfl (pc0 := 165) (pc' := 169) rfl (hb hby at_165) (by decide) (by decide) k) ?_
      refine own_retZ X24 hx hlk hret (by decide) (hb hby at_169) (by decide) (by decide) ?_
      exact ⟨rfl, N20⟩
    by_cases hc118_25 : (((x3.toUInt32 >>> ((3 : Int32) &&& 31).toUInt32).toInt32) &&& (1 : Int32)) = (0 : Int32)
    · refine own_go T20 m 121 #[iv x0, iv x1, iv x2, iv x3, rv b1, rv b7, iv 0, .unset, .unset, .unset] [] (fun t k => XS.ifNo X20.here hx rfl (hb hby at_118) rfl ((if0 _ _).trans (teq hc118_25).2) k) ?_
      refine own_go T20 m 122 #[iv x0, iv x1, iv x2, iv x3, rv b1, rv b7, iv 0, .unset, .unset, .unset] [(.int x0)] (fun t k => XS.iloadN X20.here hx rfl (hb hby at_121) rfl k) ?_
      refine own_go T20 m 123 #[iv x0, iv x1, iv x2, iv x3, rv b1, rv b7, iv 0, .unset, .unset, .unset] [(.int x3), (.int x0)] (fun t k => XS.iloadN X20.here hx rfl (hb hby at_122) rfl k) ?_
      refine own_go T20 m 125 #[iv x0, iv x1, iv x2, iv x3, rv b1, rv b7, iv 0, .unset, .unset, .unset] [(.int 7), (.int x3), (.int x0)] (fun t k => XS.bipush X20.here hx rfl (hb hby at_123) k) ?_
      refine own_go T20 m 126 #[iv x0, iv x1, iv x2, iv x3, rv b1, rv b7, iv 0, .unset, .unset, .unset] [(.int (x3 &&& (7 : Int32))), (.int x0)] (fun t k => XS.iand X20.here hx rfl (hb hby at_125) rfl k) ?_
      refine own_go T20 m 127 #[iv x0, iv x1, iv x2, iv x3, rv b1, rv b7, iv 0, .unset, .unset, .unset] [(.int (x0 + (x3 &&& (7 : Int32))))] (fun t k => XS.iadd X20.here hx rfl (hb hby at_126) rfl k) ?_
      refine own_go T20 m 131 #[iv x0, iv x1, iv x2, iv x3, rv b1, rv b7, iv 0, .unset, .unset, .unset] [(.int (x0 + (x3 &&& (7 : Int32))))] (fun t k => XS.goto X20.here hx rfl (pc0 := 127) (pc' := 131) rfl (hb hby at_127) (by decide) (by decide) k) ?_
      refine own_go T20 m 133 #[iv x0, iv x1, iv x2, iv x3, rv b1, rv b7, iv 0, iv (x0 + (x3 &&& (7 : Int32))), .unset, .unset] [] (fun t k => XS.istore X20.here hx rfl (hb hby at_131) rfl rfl k) ?_
      exact seg133 (x0 + (x3 &&& (7 : Int32)))
    · refine own_go T20 m 130 #[iv x0, iv x1, iv x2, iv x3, rv b1, rv b7, iv 0, .unset, .unset, .unset] [] (fun t k => XS.ifYes X20.here hx rfl (pc0 := 118) (pc' := 130) rfl (hb hby at_118) rfl ((if0 _ _).trans (feq hc118_25).2) (by decide) (by decide) k) ?_
      refine own_go T20 m 131 #[iv x0, iv x1, iv x2, iv x3, rv b1, rv b7, iv 0, .unset, .unset, .unset] [(.int x3)] (fun t k => XS.iloadN X20.here hx rfl (hb hby at_130) rfl k) ?_
      refine own_go T20 m 133 #[iv x0, iv x1, iv x2, iv x3, rv b1, rv b7, iv 0, iv x3, .unset, .unset] [] (fun t k => XS.istore X20.here hx rfl (hb hby at_131) rfl rfl k) ?_
      exact seg133 x3
  · rw [hq]
    refine own_go T20 m 113 #[iv x0, iv x1, iv x2, iv x3, rv b1, rv b7, iv 1, .unset, .unset, .unset] [] (fun t k => XS.istore X20.here hx rfl (hb hby at_111) rfl rfl k) ?_
    refine own_go T20 m 114 #[iv x0, iv x1, iv x2, iv x3, rv b1, rv b7, iv 1, .unset, .unset, .unset] [(.int x3)] (fun t k => XS.iloadN X20.here hx rfl (hb hby at_113) rfl k) ?_
    refine own_go T20 m 115 #[iv x0, iv x1, iv x2, iv x3, rv b1, rv b7, iv 1, .unset, .unset, .unset] [(.int 3), (.int x3)] (fun t k => XS.iconst X20.here hx rfl (hb hby at_114) k) ?_
    refine own_go T20 m 116 #[iv x0, iv x1, iv x2, iv x3, rv b1, rv b7, iv 1, .unset, .unset, .unset] [(.int ((x3.toUInt32 >>> ((3 : Int32) &&& 31).toUInt32).toInt32))] (fun t k => XS.iushr X20.here hx rfl (hb hby at_115) rfl k) ?_
    refine own_go T20 m 117 #[iv x0, iv x1, iv x2, iv x3, rv b1, rv b7, iv 1, .unset, .unset, .unset] [(.int 1), (.int ((x3.toUInt32 >>> ((3 : Int32) &&& 31).toUInt32).toInt32))] (fun t k => XS.iconst X20.here hx rfl (hb hby at_116) k) ?_
    refine own_go T20 m 118 #[iv x0, iv x1, iv x2, iv x3, rv b1, rv b7, iv 1, .unset, .unset, .unset] [(.int (((x3.toUInt32 >>> ((3 : Int32) &&& 31).toUInt32).toInt32) &&& (1 : Int32)))] (fun t k => XS.iand X20.here hx rfl (hb hby at_117) rfl k) ?_
    have seg133 : ∀ (v7 : Int32), OwnG p.tables e below s (fun v h L => v = some (.int 1) ∧ Fr n0 L) room_1.cells room_1.slots (T20.setTop (mkF m 133 #[iv x0, iv x1, iv x2, iv x3, rv b1, rv b7, iv 1, iv v7, .unset, .unset] [])) := by
      intro v7
      refine own_go T20 m 135 #[iv x0, iv x1, iv x2, iv x3, rv b1, rv b7, iv 1, iv v7, .unset, .unset] [(.ref b1)] (fun t k => XS.aload X20.here hx rfl (hb hby at_133) rfl rfl k) ?_
      refine own_go T20 m 137 #[iv x0, iv x1, iv x2, iv x3, rv b1, rv b7, iv 1, iv v7, .unset, .unset] [(.int 1), (.ref b1)] (fun t k => XS.iload X20.here hx rfl (hb hby at_135) rfl k) ?_
      refine own_go T20 m 139 #[iv x0, iv x1, iv x2, iv x3, rv b1, rv b7, iv 1, iv v7, .unset, .unset] [(.int v7), (.int 1), (.ref b1)] (fun t k => XS.iload X20.here hx rfl (hb hby at_137) rfl k) ?_
      obtain ⟨_, T27, L27, X27, ⟨rfl, e27, rfl⟩, st27⟩ := own_static X20 hx hZ (y := (⟨"com/example/substring_search/substringsearch/PrefixTableFallBackPinLaw", "ref", "([III)I"⟩ : MethodName)) hown (own_w hw 9 rfl) (own_w hw 10 rfl) (own_w hw 3 rfl) (own_w hw 11 rfl) (by decide) (rmR1 l Z a0 hw [] b1 v7 k1 p0 p1 p2 p3 p4 h20 cf21) e20 0 (argsL := [(.ref b1), (.int 1), (.int v7)]) (rest := []) (Ls := #[iv x0, iv x1, iv x2, iv x3, rv b1, rv b7, iv 1, iv v7, .unset, .unset]) (by rw [hml]; rfl) (lenOf pd___III_I rfl) rfl rfl (Nat.le_of_eq rfl) (hb hby at_139) (by decide) (by decide) (by decide) (by decide)
      replace X27 := own_nil X27
      refine own_go T27 m 142 #[iv x0, iv x1, iv x2, iv x3, rv b1, rv b7, iv 1, iv v7, .unset, .unset] [(.int (own_ref1 p0 p1 p2 p3 v7))] (st27) ?_
      refine own_go T27 m 144 #[iv x0, iv x1, iv x2, iv x3, rv b1, rv b7, iv 1, iv v7, iv (own_ref1 p0 p1 p2 p3 v7), .unset] [] (fun t k => XS.istore X27.here hx rfl (hb hby at_142) rfl rfl k) ?_
      refine own_go T27 m 146 #[iv x0, iv x1, iv x2, iv x3, rv b1, rv b7, iv 1, iv v7, iv (own_ref1 p0 p1 p2 p3 v7), .unset] [(.ref b7)] (fun t k => XS.aload X27.here hx rfl (hb hby at_144) rfl rfl k) ?_
      refine own_go T27 m 148 #[iv x0, iv x1, iv x2, iv x3, rv b1, rv b7, iv 1, iv v7, iv (own_ref1 p0 p1 p2 p3 v7), .unset] [(.ref b1), (.ref b7)] (fun t k => XS.aload X27.here hx rfl (hb hby at_146) rfl rfl k) ?_
      refine own_go T27 m 150 #[iv x0, iv x1, iv x2, iv x3, rv b1, rv b7, iv 1, iv v7, iv (own_ref1 p0 p1 p2 p3 v7), .unset] [(.int 1), (.ref b1), (.ref b7)] (fun t k => XS.iload X27.here hx rfl (hb hby at_148) rfl k) ?_
      refine own_go T27 m 152 #[iv x0, iv x1, iv x2, iv x3, rv b1, rv b7, iv 1, iv v7, iv (own_ref1 p0 p1 p2 p3 v7), .unset] [(.int v7), (.int 1), (.ref b1), (.ref b7)] (fun t k => XS.iload X27.here hx rfl (hb hby at_150) rfl k) ?_
      obtain ⟨_, T28, L28, X28, ⟨rfl, e28, rfl⟩, st28⟩ := own_static X27 hx hZ (y := (⟨"com/example/substring_search/substringsearch/PrefixTable", "fallBack", "([I[III)I"⟩ : MethodName)) hown (own_w hw 12 rfl) (own_w hw 13 rfl) (own_w hw 14 rfl) (own_w hw 15 rfl) (by decide) (rmF1 l Z a0 hw [] b7 b1 v7 k1 p0 p1 p2 p3 p4 k7 h20 cf21 V20) e27 0 (argsL := [(.ref b7), (.ref b1), (.int 1), (.int v7)]) (rest := []) (Ls := #[iv x0, iv x1, iv x2, iv x3, rv b1, rv b7, iv 1, iv v7, iv (own_ref1 p0 p1 p2 p3 v7), .unset]) (by rw [hml]; rfl) (lenOf pd___I_III_I rfl) rfl rfl (Nat.le_of_eq rfl) (hb hby at_152) (by decide) (by decide) (by decide) (by decide)
      replace X28 := own_nil X28
      refine own_go T28 m 155 #[iv x0, iv x1, iv x2, iv x3, rv b1, rv b7, iv 1, iv v7, iv (own_ref1 p0 p1 p2 p3 v7), .unset] [(.int (own_ref1 p0 p1 p2 p3 v7))] (st28) ?_
      refine own_go T28 m 157 #[iv x0, iv x1, iv x2, iv x3, rv b1, rv b7, iv 1, iv v7, iv (own_ref1 p0 p1 p2 p3 v7), iv (own_ref1 p0 p1 p2 p3 v7)] [] (fun t k => XS.istore X28.here hx rfl (hb hby at_155) rfl rfl k) ?_
      refine own_go T28 m 159 #[iv x0, iv x1, iv x2, iv x3, rv b1, rv b7, iv 1, iv v7, iv (own_ref1 p0 p1 p2 p3 v7), iv (own_ref1 p0 p1 p2 p3 v7)] [(.int (own_ref1 p0 p1 p2 p3 v7))] (fun t k => XS.iload X28.here hx rfl (hb hby at_157) rfl k) ?_
      refine own_go T28 m 161 #[iv x0, iv x1, iv x2, iv x3, rv b1, rv b7, iv 1, iv v7, iv (own_ref1 p0 p1 p2 p3 v7), iv (own_ref1 p0 p1 p2 p3 v7)] [(.int (own_ref1 p0 p1 p2 p3 v7)), (.int (own_ref1 p0 p1 p2 p3 v7))] (fun t k => XS.iload X28.here hx rfl (hb hby at_159) rfl k) ?_
      refine own_go T28 m 164 #[iv x0, iv x1, iv x2, iv x3, rv b1, rv b7, iv 1, iv v7, iv (own_ref1 p0 p1 p2 p3 v7), iv (own_ref1 p0 p1 p2 p3 v7)] [] (fun t k => XS.icmpNo X28.here hx rfl (hb hby at_161) rfl (teq rfl).2 k) ?_
      refine own_go T28 m 165 #[iv x0, iv x1, iv x2, iv x3, rv b1, rv b7, iv 1, iv v7, iv (own_ref1 p0 p1 p2 p3 v7), iv (own_ref1 p0 p1 p2 p3 v7)] [(.int 1)] (fun t k => XS.iconst X28.here hx rfl (hb hby at_164) k) ?_
      refine own_go T28 m 169 #[iv x0, iv x1, iv x2, iv x3, rv b1, rv b7, iv 1, iv v7, iv (own_ref1 p0 p1 p2 p3 v7), iv (own_ref1 p0 p1 p2 p3 v7)] [(.int 1)] (fun t k => XS.goto X28.here hx rfl (pc0 := 165) (pc' := 169) rfl (hb hby at_165) (by decide) (by decide) k) ?_
      refine own_retZ X28 hx hlk hret (by decide) (hb hby at_169) (by decide) (by decide) ?_
      exact ⟨rfl, N20⟩
    by_cases hc118_29 : (((x3.toUInt32 >>> ((3 : Int32) &&& 31).toUInt32).toInt32) &&& (1 : Int32)) = (0 : Int32)
    · refine own_go T20 m 121 #[iv x0, iv x1, iv x2, iv x3, rv b1, rv b7, iv 1, .unset, .unset, .unset] [] (fun t k => XS.ifNo X20.here hx rfl (hb hby at_118) rfl ((if0 _ _).trans (teq hc118_29).2) k) ?_
      refine own_go T20 m 122 #[iv x0, iv x1, iv x2, iv x3, rv b1, rv b7, iv 1, .unset, .unset, .unset] [(.int x0)] (fun t k => XS.iloadN X20.here hx rfl (hb hby at_121) rfl k) ?_
      refine own_go T20 m 123 #[iv x0, iv x1, iv x2, iv x3, rv b1, rv b7, iv 1, .unset, .unset, .unset] [(.int x3), (.int x0)] (fun t k => XS.iloadN X20.here hx rfl (hb hby at_122) rfl k) ?_
      refine own_go T20 m 125 #[iv x0, iv x1, iv x2, iv x3, rv b1, rv b7, iv 1, .unset, .unset, .unset] [(.int 7), (.int x3), (.int x0)] (fun t k => XS.bipush X20.here hx rfl (hb hby at_123) k) ?_
      refine own_go T20 m 126 #[iv x0, iv x1, iv x2, iv x3, rv b1, rv b7, iv 1, .unset, .unset, .unset] [(.int (x3 &&& (7 : Int32))), (.int x0)] (fun t k => XS.iand X20.here hx rfl (hb hby at_125) rfl k) ?_
      refine own_go T20 m 127 #[iv x0, iv x1, iv x2, iv x3, rv b1, rv b7, iv 1, .unset, .unset, .unset] [(.int (x0 + (x3 &&& (7 : Int32))))] (fun t k => XS.iadd X20.here hx rfl (hb hby at_126) rfl k) ?_
      refine own_go T20 m 131 #[iv x0, iv x1, iv x2, iv x3, rv b1, rv b7, iv 1, .unset, .unset, .unset] [(.int (x0 + (x3 &&& (7 : Int32))))] (fun t k => XS.goto X20.here hx rfl (pc0 := 127) (pc' := 131) rfl (hb hby at_127) (by decide) (by decide) k) ?_
      refine own_go T20 m 133 #[iv x0, iv x1, iv x2, iv x3, rv b1, rv b7, iv 1, iv (x0 + (x3 &&& (7 : Int32))), .unset, .unset] [] (fun t k => XS.istore X20.here hx rfl (hb hby at_131) rfl rfl k) ?_
      exact seg133 (x0 + (x3 &&& (7 : Int32)))
    · refine own_go T20 m 130 #[iv x0, iv x1, iv x2, iv x3, rv b1, rv b7, iv 1, .unset, .unset, .unset] [] (fun t k => XS.ifYes X20.here hx rfl (pc0 := 118) (pc' := 130) rfl (hb hby at_118) rfl ((if0 _ _).trans (feq hc118_29).2) (by decide) (by decide) k) ?_
      refine own_go T20 m 131 #[iv x0, iv x1, iv x2, iv x3, rv b1, rv b7, iv 1, .unset, .unset, .unset] [(.int x3)] (fun t k => XS.iloadN X20.here hx rfl (hb hby at_130) rfl k) ?_
      refine own_go T20 m 133 #[iv x0, iv x1, iv x2, iv x3, rv b1, rv b7, iv 1, iv x3, .unset, .unset] [] (fun t k => XS.istore X20.here hx rfl (hb hby at_131) rfl rfl k) ?_
      exact seg133 x3
  · rw [hq]
    refine own_go T20 m 113 #[iv x0, iv x1, iv x2, iv x3, rv b1, rv b7, iv 2, .unset, .unset, .unset] [] (fun t k => XS.istore X20.here hx rfl (hb hby at_111) rfl rfl k) ?_
    refine own_go T20 m 114 #[iv x0, iv x1, iv x2, iv x3, rv b1, rv b7, iv 2, .unset, .unset, .unset] [(.int x3)] (fun t k => XS.iloadN X20.here hx rfl (hb hby at_113) rfl k) ?_
    refine own_go T20 m 115 #[iv x0, iv x1, iv x2, iv x3, rv b1, rv b7, iv 2, .unset, .unset, .unset] [(.int 3), (.int x3)] (fun t k => XS.iconst X20.here hx rfl (hb hby at_114) k) ?_
    refine own_go T20 m 116 #[iv x0, iv x1, iv x2, iv x3, rv b1, rv b7, iv 2, .unset, .unset, .unset] [(.int ((x3.toUInt32 >>> ((3 : Int32) &&& 31).toUInt32).toInt32))] (fun t k => XS.iushr X20.here hx rfl (hb hby at_115) rfl k) ?_
    refine own_go T20 m 117 #[iv x0, iv x1, iv x2, iv x3, rv b1, rv b7, iv 2, .unset, .unset, .unset] [(.int 1), (.int ((x3.toUInt32 >>> ((3 : Int32) &&& 31).toUInt32).toInt32))] (fun t k => XS.iconst X20.here hx rfl (hb hby at_116) k) ?_
    refine own_go T20 m 118 #[iv x0, iv x1, iv x2, iv x3, rv b1, rv b7, iv 2, .unset, .unset, .unset] [(.int (((x3.toUInt32 >>> ((3 : Int32) &&& 31).toUInt32).toInt32) &&& (1 : Int32)))] (fun t k => XS.iand X20.here hx rfl (hb hby at_117) rfl k) ?_
    have seg133 : ∀ (v7 : Int32), OwnG p.tables e below s (fun v h L => v = some (.int 1) ∧ Fr n0 L) room_1.cells room_1.slots (T20.setTop (mkF m 133 #[iv x0, iv x1, iv x2, iv x3, rv b1, rv b7, iv 2, iv v7, .unset, .unset] [])) := by
      intro v7
      refine own_go T20 m 135 #[iv x0, iv x1, iv x2, iv x3, rv b1, rv b7, iv 2, iv v7, .unset, .unset] [(.ref b1)] (fun t k => XS.aload X20.here hx rfl (hb hby at_133) rfl rfl k) ?_
      refine own_go T20 m 137 #[iv x0, iv x1, iv x2, iv x3, rv b1, rv b7, iv 2, iv v7, .unset, .unset] [(.int 2), (.ref b1)] (fun t k => XS.iload X20.here hx rfl (hb hby at_135) rfl k) ?_
      refine own_go T20 m 139 #[iv x0, iv x1, iv x2, iv x3, rv b1, rv b7, iv 2, iv v7, .unset, .unset] [(.int v7), (.int 2), (.ref b1)] (fun t k => XS.iload X20.here hx rfl (hb hby at_137) rfl k) ?_
      obtain ⟨_, T31, L31, X31, ⟨rfl, e31, rfl⟩, st31⟩ := own_static X20 hx hZ (y := (⟨"com/example/substring_search/substringsearch/PrefixTableFallBackPinLaw", "ref", "([III)I"⟩ : MethodName)) hown (own_w hw 9 rfl) (own_w hw 10 rfl) (own_w hw 3 rfl) (own_w hw 11 rfl) (by decide) (rmR2 l Z a0 hw [] b1 v7 k1 p0 p1 p2 p3 p4 h20 cf21) e20 0 (argsL := [(.ref b1), (.int 2), (.int v7)]) (rest := []) (Ls := #[iv x0, iv x1, iv x2, iv x3, rv b1, rv b7, iv 2, iv v7, .unset, .unset]) (by rw [hml]; rfl) (lenOf pd___III_I rfl) rfl rfl (Nat.le_of_eq rfl) (hb hby at_139) (by decide) (by decide) (by decide) (by decide)
      replace X31 := own_nil X31
      refine own_go T31 m 142 #[iv x0, iv x1, iv x2, iv x3, rv b1, rv b7, iv 2, iv v7, .unset, .unset] [(.int (own_ref2 p0 p1 p2 p3 v7))] (st31) ?_
      refine own_go T31 m 144 #[iv x0, iv x1, iv x2, iv x3, rv b1, rv b7, iv 2, iv v7, iv (own_ref2 p0 p1 p2 p3 v7), .unset] [] (fun t k => XS.istore X31.here hx rfl (hb hby at_142) rfl rfl k) ?_
      refine own_go T31 m 146 #[iv x0, iv x1, iv x2, iv x3, rv b1, rv b7, iv 2, iv v7, iv (own_ref2 p0 p1 p2 p3 v7), .unset] [(.ref b7)] (fun t k => XS.aload X31.here hx rfl (hb hby at_144) rfl rfl k) ?_
      refine own_go T31 m 148 #[iv x0, iv x1, iv x2, iv x3, rv b1, rv b7, iv 2, iv v7, iv (own_ref2 p0 p1 p2 p3 v7), .unset] [(.ref b1), (.ref b7)] (fun t k => XS.aload X31.here hx rfl (hb hby at_146) rfl rfl k) ?_
      refine own_go T31 m 150 #[iv x0, iv x1, iv x2, iv x3, rv b1, rv b7, iv 2, iv v7, iv (own_ref2 p0 p1 p2 p3 v7), .unset] [(.int 2), (.ref b1), (.ref b7)] (fun t k => XS.iload X31.here hx rfl (hb hby at_148) rfl k) ?_
      refine own_go T31 m 152 #[iv x0, iv x1, iv x2, iv x3, rv b1, rv b7, iv 2, iv v7, iv (own_ref2 p0 p1 p2 p3 v7), .unset] [(.int v7), (.int 2), (.ref b1), (.ref b7)] (fun t k => XS.iload X31.here hx rfl (hb hby at_150) rfl k) ?_
      obtain ⟨_, T32, L32, X32, ⟨rfl, e32, rfl⟩, st32⟩ := own_static X31 hx hZ (y := (⟨"com/example/substring_search/substringsearch/PrefixTable", "fallBack", "([I[III)I"⟩ : MethodName)) hown (own_w hw 12 rfl) (own_w hw 13 rfl) (own_w hw 14 rfl) (own_w hw 15 rfl) (by decide) (rmF2 l Z a0 hw [] b7 b1 v7 k1 p0 p1 p2 p3 p4 k7 h20 cf21 V20) e31 0 (argsL := [(.ref b7), (.ref b1), (.int 2), (.int v7)]) (rest := []) (Ls := #[iv x0, iv x1, iv x2, iv x3, rv b1, rv b7, iv 2, iv v7, iv (own_ref2 p0 p1 p2 p3 v7), .unset]) (by rw [hml]; rfl) (lenOf pd___I_III_I rfl) rfl rfl (Nat.le_of_eq rfl) (hb hby at_152) (by decide) (by decide) (by decide) (by decide)
      replace X32 := own_nil X32
      refine own_go T32 m 155 #[iv x0, iv x1, iv x2, iv x3, rv b1, rv b7, iv 2, iv v7, iv (own_ref2 p0 p1 p2 p3 v7), .unset] [(.int (own_ref2 p0 p1 p2 p3 v7))] (st32) ?_
      refine own_go T32 m 157 #[iv x0, iv x1, iv x2, iv x3, rv b1, rv b7, iv 2, iv v7, iv (own_ref2 p0 p1 p2 p3 v7), iv (own_ref2 p0 p1 p2 p3 v7)] [] (fun t k => XS.istore X32.here hx rfl (hb hby at_155) rfl rfl k) ?_
      refine own_go T32 m 159 #[iv x0, iv x1, iv x2, iv x3, rv b1, rv b7, iv 2, iv v7, iv (own_ref2 p0 p1 p2 p3 v7), iv (own_ref2 p0 p1 p2 p3 v7)] [(.int (own_ref2 p0 p1 p2 p3 v7))] (fun t k => XS.iload X32.here hx rfl (hb hby at_157) rfl k) ?_
      refine own_go T32 m 161 #[iv x0, iv x1, iv x2, iv x3, rv b1, rv b7, iv 2, iv v7, iv (own_ref2 p0 p1 p2 p3 v7), iv (own_ref2 p0 p1 p2 p3 v7)] [(.int (own_ref2 p0 p1 p2 p3 v7)), (.int (own_ref2 p0 p1 p2 p3 v7))] (fun t k => XS.iload X32.here hx rfl (hb hby at_159) rfl k) ?_
      refine own_go T32 m 164 #[iv x0, iv x1, iv x2, iv x3, rv b1, rv b7, iv 2, iv v7, iv (own_ref2 p0 p1 p2 p3 v7), iv (own_ref2 p0 p1 p2 p3 v7)] [] (fun t k => XS.icmpNo X32.here hx rfl (hb hby at_161) rfl (teq rfl).2 k) ?_
      refine own_go T32 m 165 #[iv x0, iv x1, iv x2, iv x3, rv b1, rv b7, iv 2, iv v7, iv (own_ref2 p0 p1 p2 p3 v7), iv (own_ref2 p0 p1 p2 p3 v7)] [(.int 1)] (fun t k => XS.iconst X32.here hx rfl (hb hby at_164) k) ?_
      refine own_go T32 m 169 #[iv x0, iv x1, iv x2, iv x3, rv b1, rv b7, iv 2, iv v7, iv (own_ref2 p0 p1 p2 p3 v7), iv (own_ref2 p0 p1 p2 p3 v7)] [(.int 1)] (fun t k => XS.goto X32.here hx rfl (pc0 := 165) (pc' := 169) rfl (hb hby at_165) (by decide) (by decide) k) ?_
      refine own_retZ X32 hx hlk hret (by decide) (hb hby at_169) (by decide) (by decide) ?_
      exact ⟨rfl, N20⟩
    by_cases hc118_33 : (((x3.toUInt32 >>> ((3 : Int32) &&& 31).toUInt32).toInt32) &&& (1 : Int32)) = (0 : Int32)
    · refine own_go T20 m 121 #[iv x0, iv x1, iv x2, iv x3, rv b1, rv b7, iv 2, .unset, .unset, .unset] [] (fun t k => XS.ifNo X20.here hx rfl (hb hby at_118) rfl ((if0 _ _).trans (teq hc118_33).2) k) ?_
      refine own_go T20 m 122 #[iv x0, iv x1, iv x2, iv x3, rv b1, rv b7, iv 2, .unset, .unset, .unset] [(.int x0)] (fun t k => XS.iloadN X20.here hx rfl (hb hby at_121) rfl k) ?_
      refine own_go T20 m 123 #[iv x0, iv x1, iv x2, iv x3, rv b1, rv b7, iv 2, .unset, .unset, .unset] [(.int x3), (.int x0)] (fun t k => XS.iloadN X20.here hx rfl (hb hby at_122) rfl k) ?_
      refine own_go T20 m 125 #[iv x0, iv x1, iv x2, iv x3, rv b1, rv b7, iv 2, .unset, .unset, .unset] [(.int 7), (.int x3), (.int x0)] (fun t k => XS.bipush X20.here hx rfl (hb hby at_123) k) ?_
      refine own_go T20 m 126 #[iv x0, iv x1, iv x2, iv x3, rv b1, rv b7, iv 2, .unset, .unset, .unset] [(.int (x3 &&& (7 : Int32))), (.int x0)] (fun t k => XS.iand X20.here hx rfl (hb hby at_125) rfl k) ?_
      refine own_go T20 m 127 #[iv x0, iv x1, iv x2, iv x3, rv b1, rv b7, iv 2, .unset, .unset, .unset] [(.int (x0 + (x3 &&& (7 : Int32))))] (fun t k => XS.iadd X20.here hx rfl (hb hby at_126) rfl k) ?_
      refine own_go T20 m 131 #[iv x0, iv x1, iv x2, iv x3, rv b1, rv b7, iv 2, .unset, .unset, .unset] [(.int (x0 + (x3 &&& (7 : Int32))))] (fun t k => XS.goto X20.here hx rfl (pc0 := 127) (pc' := 131) rfl (hb hby at_127) (by decide) (by decide) k) ?_
      refine own_go T20 m 133 #[iv x0, iv x1, iv x2, iv x3, rv b1, rv b7, iv 2, iv (x0 + (x3 &&& (7 : Int32))), .unset, .unset] [] (fun t k => XS.istore X20.here hx rfl (hb hby at_131) rfl rfl k) ?_
      exact seg133 (x0 + (x3 &&& (7 : Int32)))
    · refine own_go T20 m 130 #[iv x0, iv x1, iv x2, iv x3, rv b1, rv b7, iv 2, .unset, .unset, .unset] [] (fun t k => XS.ifYes X20.here hx rfl (pc0 := 118) (pc' := 130) rfl (hb hby at_118) rfl ((if0 _ _).trans (feq hc118_33).2) (by decide) (by decide) k) ?_
      refine own_go T20 m 131 #[iv x0, iv x1, iv x2, iv x3, rv b1, rv b7, iv 2, .unset, .unset, .unset] [(.int x3)] (fun t k => XS.iloadN X20.here hx rfl (hb hby at_130) rfl k) ?_
      refine own_go T20 m 133 #[iv x0, iv x1, iv x2, iv x3, rv b1, rv b7, iv 2, iv x3, .unset, .unset] [] (fun t k => XS.istore X20.here hx rfl (hb hby at_131) rfl rfl k) ?_
      exact seg133 x3
  · rw [hq]
    refine own_go T20 m 113 #[iv x0, iv x1, iv x2, iv x3, rv b1, rv b7, iv 3, .unset, .unset, .unset] [] (fun t k => XS.istore X20.here hx rfl (hb hby at_111) rfl rfl k) ?_
    refine own_go T20 m 114 #[iv x0, iv x1, iv x2, iv x3, rv b1, rv b7, iv 3, .unset, .unset, .unset] [(.int x3)] (fun t k => XS.iloadN X20.here hx rfl (hb hby at_113) rfl k) ?_
    refine own_go T20 m 115 #[iv x0, iv x1, iv x2, iv x3, rv b1, rv b7, iv 3, .unset, .unset, .unset] [(.int 3), (.int x3)] (fun t k => XS.iconst X20.here hx rfl (hb hby at_114) k) ?_
    refine own_go T20 m 116 #[iv x0, iv x1, iv x2, iv x3, rv b1, rv b7, iv 3, .unset, .unset, .unset] [(.int ((x3.toUInt32 >>> ((3 : Int32) &&& 31).toUInt32).toInt32))] (fun t k => XS.iushr X20.here hx rfl (hb hby at_115) rfl k) ?_
    refine own_go T20 m 117 #[iv x0, iv x1, iv x2, iv x3, rv b1, rv b7, iv 3, .unset, .unset, .unset] [(.int 1), (.int ((x3.toUInt32 >>> ((3 : Int32) &&& 31).toUInt32).toInt32))] (fun t k => XS.iconst X20.here hx rfl (hb hby at_116) k) ?_
    refine own_go T20 m 118 #[iv x0, iv x1, iv x2, iv x3, rv b1, rv b7, iv 3, .unset, .unset, .unset] [(.int (((x3.toUInt32 >>> ((3 : Int32) &&& 31).toUInt32).toInt32) &&& (1 : Int32)))] (fun t k => XS.iand X20.here hx rfl (hb hby at_117) rfl k) ?_
    have seg133 : ∀ (v7 : Int32), OwnG p.tables e below s (fun v h L => v = some (.int 1) ∧ Fr n0 L) room_1.cells room_1.slots (T20.setTop (mkF m 133 #[iv x0, iv x1, iv x2, iv x3, rv b1, rv b7, iv 3, iv v7, .unset, .unset] [])) := by
      intro v7
      refine own_go T20 m 135 #[iv x0, iv x1, iv x2, iv x3, rv b1, rv b7, iv 3, iv v7, .unset, .unset] [(.ref b1)] (fun t k => XS.aload X20.here hx rfl (hb hby at_133) rfl rfl k) ?_
      refine own_go T20 m 137 #[iv x0, iv x1, iv x2, iv x3, rv b1, rv b7, iv 3, iv v7, .unset, .unset] [(.int 3), (.ref b1)] (fun t k => XS.iload X20.here hx rfl (hb hby at_135) rfl k) ?_
      refine own_go T20 m 139 #[iv x0, iv x1, iv x2, iv x3, rv b1, rv b7, iv 3, iv v7, .unset, .unset] [(.int v7), (.int 3), (.ref b1)] (fun t k => XS.iload X20.here hx rfl (hb hby at_137) rfl k) ?_
      obtain ⟨_, T35, L35, X35, ⟨rfl, e35, rfl⟩, st35⟩ := own_static X20 hx hZ (y := (⟨"com/example/substring_search/substringsearch/PrefixTableFallBackPinLaw", "ref", "([III)I"⟩ : MethodName)) hown (own_w hw 9 rfl) (own_w hw 10 rfl) (own_w hw 3 rfl) (own_w hw 11 rfl) (by decide) (rmR3 l Z a0 hw [] b1 v7 k1 p0 p1 p2 p3 p4 h20 cf21) e20 0 (argsL := [(.ref b1), (.int 3), (.int v7)]) (rest := []) (Ls := #[iv x0, iv x1, iv x2, iv x3, rv b1, rv b7, iv 3, iv v7, .unset, .unset]) (by rw [hml]; rfl) (lenOf pd___III_I rfl) rfl rfl (Nat.le_of_eq rfl) (hb hby at_139) (by decide) (by decide) (by decide) (by decide)
      replace X35 := own_nil X35
      refine own_go T35 m 142 #[iv x0, iv x1, iv x2, iv x3, rv b1, rv b7, iv 3, iv v7, .unset, .unset] [(.int (own_ref3 p0 p1 p2 p3 v7))] (st35) ?_
      refine own_go T35 m 144 #[iv x0, iv x1, iv x2, iv x3, rv b1, rv b7, iv 3, iv v7, iv (own_ref3 p0 p1 p2 p3 v7), .unset] [] (fun t k => XS.istore X35.here hx rfl (hb hby at_142) rfl rfl k) ?_
      refine own_go T35 m 146 #[iv x0, iv x1, iv x2, iv x3, rv b1, rv b7, iv 3, iv v7, iv (own_ref3 p0 p1 p2 p3 v7), .unset] [(.ref b7)] (fun t k => XS.aload X35.here hx rfl (hb hby at_144) rfl rfl k) ?_
      refine own_go T35 m 148 #[iv x0, iv x1, iv x2, iv x3, rv b1, rv b7, iv 3, iv v7, iv (own_ref3 p0 p1 p2 p3 v7), .unset] [(.ref b1), (.ref b7)] (fun t k => XS.aload X35.here hx rfl (hb hby at_146) rfl rfl k) ?_
      refine own_go T35 m 150 #[iv x0, iv x1, iv x2, iv x3, rv b1, rv b7, iv 3, iv v7, iv (own_ref3 p0 p1 p2 p3 v7), .unset] [(.int 3), (.ref b1), (.ref b7)] (fun t k => XS.iload X35.here hx rfl (hb hby at_148) rfl k) ?_
      refine own_go T35 m 152 #[iv x0, iv x1, iv x2, iv x3, rv b1, rv b7, iv 3, iv v7, iv (own_ref3 p0 p1 p2 p3 v7), .unset] [(.int v7), (.int 3), (.ref b1), (.ref b7)] (fun t k => XS.iload X35.here hx rfl (hb hby at_150) rfl k) ?_
      obtain ⟨_, T36, L36, X36, ⟨rfl, e36, rfl⟩, st36⟩ := own_static X35 hx hZ (y := (⟨"com/example/substring_search/substringsearch/PrefixTable", "fallBack", "([I[III)I"⟩ : MethodName)) hown (own_w hw 12 rfl) (own_w hw 13 rfl) (own_w hw 14 rfl) (own_w hw 15 rfl) (by decide) (rmF3 l Z a0 hw [] b7 b1 v7 k1 p0 p1 p2 p3 p4 k7 h20 cf21 V20) e35 0 (argsL := [(.ref b7), (.ref b1), (.int 3), (.int v7)]) (rest := []) (Ls := #[iv x0, iv x1, iv x2, iv x3, rv b1, rv b7, iv 3, iv v7, iv (own_ref3 p0 p1 p2 p3 v7), .unset]) (by rw [hml]; rfl) (lenOf pd___I_III_I rfl) rfl rfl (Nat.le_of_eq rfl) (hb hby at_152) (by decide) (by decide) (by decide) (by decide)
      replace X36 := own_nil X36
      refine own_go T36 m 155 #[iv x0, iv x1, iv x2, iv x3, rv b1, rv b7, iv 3, iv v7, iv (own_ref3 p0 p1 p2 p3 v7), .unset] [(.int (own_ref3 p0 p1 p2 p3 v7))] (st36) ?_
      refine own_go T36 m 157 #[iv x0, iv x1, iv x2, iv x3, rv b1, rv b7, iv 3, iv v7, iv (own_ref3 p0 p1 p2 p3 v7), iv (own_ref3 p0 p1 p2 p3 v7)] [] (fun t k => XS.istore X36.here hx rfl (hb hby at_155) rfl rfl k) ?_
      refine own_go T36 m 159 #[iv x0, iv x1, iv x2, iv x3, rv b1, rv b7, iv 3, iv v7, iv (own_ref3 p0 p1 p2 p3 v7), iv (own_ref3 p0 p1 p2 p3 v7)] [(.int (own_ref3 p0 p1 p2 p3 v7))] (fun t k => XS.iload X36.here hx rfl (hb hby at_157) rfl k) ?_
      refine own_go T36 m 161 #[iv x0, iv x1, iv x2, iv x3, rv b1, rv b7, iv 3, iv v7, iv (own_ref3 p0 p1 p2 p3 v7), iv (own_ref3 p0 p1 p2 p3 v7)] [(.int (own_ref3 p0 p1 p2 p3 v7)), (.int (own_ref3 p0 p1 p2 p3 v7))] (fun t k => XS.iload X36.here hx rfl (hb hby at_159) rfl k) ?_
      refine own_go T36 m 164 #[iv x0, iv x1, iv x2, iv x3, rv b1, rv b7, iv 3, iv v7, iv (own_ref3 p0 p1 p2 p3 v7), iv (own_ref3 p0 p1 p2 p3 v7)] [] (fun t k => XS.icmpNo X36.here hx rfl (hb hby at_161) rfl (teq rfl).2 k) ?_
      refine own_go T36 m 165 #[iv x0, iv x1, iv x2, iv x3, rv b1, rv b7, iv 3, iv v7, iv (own_ref3 p0 p1 p2 p3 v7), iv (own_ref3 p0 p1 p2 p3 v7)] [(.int 1)] (fun t k => XS.iconst X36.here hx rfl (hb hby at_164) k) ?_
      refine own_go T36 m 169 #[iv x0, iv x1, iv x2, iv x3, rv b1, rv b7, iv 3, iv v7, iv (own_ref3 p0 p1 p2 p3 v7), iv (own_ref3 p0 p1 p2 p3 v7)] [(.int 1)] (fun t k => XS.goto X36.here hx rfl (pc0 := 165) (pc' := 169) rfl (hb hby at_165) (by decide) (by decide) k) ?_
      refine own_retZ X36 hx hlk hret (by decide) (hb hby at_169) (by decide) (by decide) ?_
      exact ⟨rfl, N20⟩
    by_cases hc118_37 : (((x3.toUInt32 >>> ((3 : Int32) &&& 31).toUInt32).toInt32) &&& (1 : Int32)) = (0 : Int32)
    · refine own_go T20 m 121 #[iv x0, iv x1, iv x2, iv x3, rv b1, rv b7, iv 3, .unset, .unset, .unset] [] (fun t k => XS.ifNo X20.here hx rfl (hb hby at_118) rfl ((if0 _ _).trans (teq hc118_37).2) k) ?_
      refine own_go T20 m 122 #[iv x0, iv x1, iv x2, iv x3, rv b1, rv b7, iv 3, .unset, .unset, .unset] [(.int x0)] (fun t k => XS.iloadN X20.here hx rfl (hb hby at_121) rfl k) ?_
      refine own_go T20 m 123 #[iv x0, iv x1, iv x2, iv x3, rv b1, rv b7, iv 3, .unset, .unset, .unset] [(.int x3), (.int x0)] (fun t k => XS.iloadN X20.here hx rfl (hb hby at_122) rfl k) ?_
      refine own_go T20 m 125 #[iv x0, iv x1, iv x2, iv x3, rv b1, rv b7, iv 3, .unset, .unset, .unset] [(.int 7), (.int x3), (.int x0)] (fun t k => XS.bipush X20.here hx rfl (hb hby at_123) k) ?_
      refine own_go T20 m 126 #[iv x0, iv x1, iv x2, iv x3, rv b1, rv b7, iv 3, .unset, .unset, .unset] [(.int (x3 &&& (7 : Int32))), (.int x0)] (fun t k => XS.iand X20.here hx rfl (hb hby at_125) rfl k) ?_
      refine own_go T20 m 127 #[iv x0, iv x1, iv x2, iv x3, rv b1, rv b7, iv 3, .unset, .unset, .unset] [(.int (x0 + (x3 &&& (7 : Int32))))] (fun t k => XS.iadd X20.here hx rfl (hb hby at_126) rfl k) ?_
      refine own_go T20 m 131 #[iv x0, iv x1, iv x2, iv x3, rv b1, rv b7, iv 3, .unset, .unset, .unset] [(.int (x0 + (x3 &&& (7 : Int32))))] (fun t k => XS.goto X20.here hx rfl (pc0 := 127) (pc' := 131) rfl (hb hby at_127) (by decide) (by decide) k) ?_
      refine own_go T20 m 133 #[iv x0, iv x1, iv x2, iv x3, rv b1, rv b7, iv 3, iv (x0 + (x3 &&& (7 : Int32))), .unset, .unset] [] (fun t k => XS.istore X20.here hx rfl (hb hby at_131) rfl rfl k) ?_
      exact seg133 (x0 + (x3 &&& (7 : Int32)))
    · refine own_go T20 m 130 #[iv x0, iv x1, iv x2, iv x3, rv b1, rv b7, iv 3, .unset, .unset, .unset] [] (fun t k => XS.ifYes X20.here hx rfl (pc0 := 118) (pc' := 130) rfl (hb hby at_118) rfl ((if0 _ _).trans (feq hc118_37).2) (by decide) (by decide) k) ?_
      refine own_go T20 m 131 #[iv x0, iv x1, iv x2, iv x3, rv b1, rv b7, iv 3, .unset, .unset, .unset] [(.int x3)] (fun t k => XS.iloadN X20.here hx rfl (hb hby at_130) rfl k) ?_
      refine own_go T20 m 133 #[iv x0, iv x1, iv x2, iv x3, rv b1, rv b7, iv 3, iv x3, .unset, .unset] [] (fun t k => XS.istore X20.here hx rfl (hb hby at_131) rfl rfl k) ?_
      exact seg133 x3
  · rw [hq]
    refine own_go T20 m 113 #[iv x0, iv x1, iv x2, iv x3, rv b1, rv b7, iv 4, .unset, .unset, .unset] [] (fun t k => XS.istore X20.here hx rfl (hb hby at_111) rfl rfl k) ?_
    refine own_go T20 m 114 #[iv x0, iv x1, iv x2, iv x3, rv b1, rv b7, iv 4, .unset, .unset, .unset] [(.int x3)] (fun t k => XS.iloadN X20.here hx rfl (hb hby at_113) rfl k) ?_
    refine own_go T20 m 115 #[iv x0, iv x1, iv x2, iv x3, rv b1, rv b7, iv 4, .unset, .unset, .unset] [(.int 3), (.int x3)] (fun t k => XS.iconst X20.here hx rfl (hb hby at_114) k) ?_
    refine own_go T20 m 116 #[iv x0, iv x1, iv x2, iv x3, rv b1, rv b7, iv 4, .unset, .unset, .unset] [(.int ((x3.toUInt32 >>> ((3 : Int32) &&& 31).toUInt32).toInt32))] (fun t k => XS.iushr X20.here hx rfl (hb hby at_115) rfl k) ?_
    refine own_go T20 m 117 #[iv x0, iv x1, iv x2, iv x3, rv b1, rv b7, iv 4, .unset, .unset, .unset] [(.int 1), (.int ((x3.toUInt32 >>> ((3 : Int32) &&& 31).toUInt32).toInt32))] (fun t k => XS.iconst X20.here hx rfl (hb hby at_116) k) ?_
    refine own_go T20 m 118 #[iv x0, iv x1, iv x2, iv x3, rv b1, rv b7, iv 4, .unset, .unset, .unset] [(.int (((x3.toUInt32 >>> ((3 : Int32) &&& 31).toUInt32).toInt32) &&& (1 : Int32)))] (fun t k => XS.iand X20.here hx rfl (hb hby at_117) rfl k) ?_
    have seg133 : ∀ (v7 : Int32), OwnG p.tables e below s (fun v h L => v = some (.int 1) ∧ Fr n0 L) room_1.cells room_1.slots (T20.setTop (mkF m 133 #[iv x0, iv x1, iv x2, iv x3, rv b1, rv b7, iv 4, iv v7, .unset, .unset] [])) := by
      intro v7
      refine own_go T20 m 135 #[iv x0, iv x1, iv x2, iv x3, rv b1, rv b7, iv 4, iv v7, .unset, .unset] [(.ref b1)] (fun t k => XS.aload X20.here hx rfl (hb hby at_133) rfl rfl k) ?_
      refine own_go T20 m 137 #[iv x0, iv x1, iv x2, iv x3, rv b1, rv b7, iv 4, iv v7, .unset, .unset] [(.int 4), (.ref b1)] (fun t k => XS.iload X20.here hx rfl (hb hby at_135) rfl k) ?_
      refine own_go T20 m 139 #[iv x0, iv x1, iv x2, iv x3, rv b1, rv b7, iv 4, iv v7, .unset, .unset] [(.int v7), (.int 4), (.ref b1)] (fun t k => XS.iload X20.here hx rfl (hb hby at_137) rfl k) ?_
      obtain ⟨_, T39, L39, X39, ⟨rfl, e39, rfl⟩, st39⟩ := own_static X20 hx hZ (y := (⟨"com/example/substring_search/substringsearch/PrefixTableFallBackPinLaw", "ref", "([III)I"⟩ : MethodName)) hown (own_w hw 9 rfl) (own_w hw 10 rfl) (own_w hw 3 rfl) (own_w hw 11 rfl) (by decide) (rmR4 l Z a0 hw [] b1 v7 k1 p0 p1 p2 p3 p4 h20 cf21) e20 0 (argsL := [(.ref b1), (.int 4), (.int v7)]) (rest := []) (Ls := #[iv x0, iv x1, iv x2, iv x3, rv b1, rv b7, iv 4, iv v7, .unset, .unset]) (by rw [hml]; rfl) (lenOf pd___III_I rfl) rfl rfl (Nat.le_of_eq rfl) (hb hby at_139) (by decide) (by decide) (by decide) (by decide)
      replace X39 := own_nil X39
      refine own_go T39 m 142 #[iv x0, iv x1, iv x2, iv x3, rv b1, rv b7, iv 4, iv v7, .unset, .unset] [(.int (own_ref4 p0 p1 p2 p3 v7))] (st39) ?_
      refine own_go T39 m 144 #[iv x0, iv x1, iv x2, iv x3, rv b1, rv b7, iv 4, iv v7, iv (own_ref4 p0 p1 p2 p3 v7), .unset] [] (fun t k => XS.istore X39.here hx rfl (hb hby at_142) rfl rfl k) ?_
      refine own_go T39 m 146 #[iv x0, iv x1, iv x2, iv x3, rv b1, rv b7, iv 4, iv v7, iv (own_ref4 p0 p1 p2 p3 v7), .unset] [(.ref b7)] (fun t k => XS.aload X39.here hx rfl (hb hby at_144) rfl rfl k) ?_
      refine own_go T39 m 148 #[iv x0, iv x1, iv x2, iv x3, rv b1, rv b7, iv 4, iv v7, iv (own_ref4 p0 p1 p2 p3 v7), .unset] [(.ref b1), (.ref b7)] (fun t k => XS.aload X39.here hx rfl (hb hby at_146) rfl rfl k) ?_
      refine own_go T39 m 150 #[iv x0, iv x1, iv x2, iv x3, rv b1, rv b7, iv 4, iv v7, iv (own_ref4 p0 p1 p2 p3 v7), .unset] [(.int 4), (.ref b1), (.ref b7)] (fun t k => XS.iload X39.here hx rfl (hb hby at_148) rfl k) ?_
      refine own_go T39 m 152 #[iv x0, iv x1, iv x2, iv x3, rv b1, rv b7, iv 4, iv v7, iv (own_ref4 p0 p1 p2 p3 v7), .unset] [(.int v7), (.int 4), (.ref b1), (.ref b7)] (fun t k => XS.iload X39.here hx rfl (hb hby at_150) rfl k) ?_
      obtain ⟨_, T40, L40, X40, ⟨rfl, e40, rfl⟩, st40⟩ := own_static X39 hx hZ (y := (⟨"com/example/substring_search/substringsearch/PrefixTable", "fallBack", "([I[III)I"⟩ : MethodName)) hown (own_w hw 12 rfl) (own_w hw 13 rfl) (own_w hw 14 rfl) (own_w hw 15 rfl) (by decide) (rmF4 l Z a0 hw [] b7 b1 v7 k1 p0 p1 p2 p3 p4 k7 h20 cf21 V20) e39 0 (argsL := [(.ref b7), (.ref b1), (.int 4), (.int v7)]) (rest := []) (Ls := #[iv x0, iv x1, iv x2, iv x3, rv b1, rv b7, iv 4, iv v7, iv (own_ref4 p0 p1 p2 p3 v7), .unset]) (by rw [hml]; rfl) (lenOf pd___I_III_I rfl) rfl rfl (Nat.le_of_eq rfl) (hb hby at_152) (by decide) (by decide) (by decide) (by decide)
      replace X40 := own_nil X40
      refine own_go T40 m 155 #[iv x0, iv x1, iv x2, iv x3, rv b1, rv b7, iv 4, iv v7, iv (own_ref4 p0 p1 p2 p3 v7), .unset] [(.int (own_ref4 p0 p1 p2 p3 v7))] (st40) ?_
      refine own_go T40 m 157 #[iv x0, iv x1, iv x2, iv x3, rv b1, rv b7, iv 4, iv v7, iv (own_ref4 p0 p1 p2 p3 v7), iv (own_ref4 p0 p1 p2 p3 v7)] [] (fun t k => XS.istore X40.here hx rfl (hb hby at_155) rfl rfl k) ?_
      refine own_go T40 m 159 #[iv x0, iv x1, iv x2, iv x3, rv b1, rv b7, iv 4, iv v7, iv (own_ref4 p0 p1 p2 p3 v7), iv (own_ref4 p0 p1 p2 p3 v7)] [(.int (own_ref4 p0 p1 p2 p3 v7))] (fun t k => XS.iload X40.here hx rfl (hb hby at_157) rfl k) ?_
      refine own_go T40 m 161 #[iv x0, iv x1, iv x2, iv x3, rv b1, rv b7, iv 4, iv v7, iv (own_ref4 p0 p1 p2 p3 v7), iv (own_ref4 p0 p1 p2 p3 v7)] [(.int (own_ref4 p0 p1 p2 p3 v7)), (.int (own_ref4 p0 p1 p2 p3 v7))] (fun t k => XS.iload X40.here hx rfl (hb hby at_159) rfl k) ?_
      refine own_go T40 m 164 #[iv x0, iv x1, iv x2, iv x3, rv b1, rv b7, iv 4, iv v7, iv (own_ref4 p0 p1 p2 p3 v7), iv (own_ref4 p0 p1 p2 p3 v7)] [] (fun t k => XS.icmpNo X40.here hx rfl (hb hby at_161) rfl (teq rfl).2 k) ?_
      refine own_go T40 m 165 #[iv x0, iv x1, iv x2, iv x3, rv b1, rv b7, iv 4, iv v7, iv (own_ref4 p0 p1 p2 p3 v7), iv (own_ref4 p0 p1 p2 p3 v7)] [(.int 1)] (fun t k => XS.iconst X40.here hx rfl (hb hby at_164) k) ?_
      refine own_go T40 m 169 #[iv x0, iv x1, iv x2, iv x3, rv b1, rv b7, iv 4, iv v7, iv (own_ref4 p0 p1 p2 p3 v7), iv (own_ref4 p0 p1 p2 p3 v7)] [(.int 1)] (fun t k => XS.goto X40.here hx rfl (pc0 := 165) (pc' := 169) rfl (hb hby at_165) (by decide) (by decide) k) ?_
      refine own_retZ X40 hx hlk hret (by decide) (hb hby at_169) (by decide) (by decide) ?_
      exact ⟨rfl, N20⟩
    by_cases hc118_41 : (((x3.toUInt32 >>> ((3 : Int32) &&& 31).toUInt32).toInt32) &&& (1 : Int32)) = (0 : Int32)
    · refine own_go T20 m 121 #[iv x0, iv x1, iv x2, iv x3, rv b1, rv b7, iv 4, .unset, .unset, .unset] [] (fun t k => XS.ifNo X20.here hx rfl (hb hby at_118) rfl ((if0 _ _).trans (teq hc118_41).2) k) ?_
      refine own_go T20 m 122 #[iv x0, iv x1, iv x2, iv x3, rv b1, rv b7, iv 4, .unset, .unset, .unset] [(.int x0)] (fun t k => XS.iloadN X20.here hx rfl (hb hby at_121) rfl k) ?_
      refine own_go T20 m 123 #[iv x0, iv x1, iv x2, iv x3, rv b1, rv b7, iv 4, .unset, .unset, .unset] [(.int x3), (.int x0)] (fun t k => XS.iloadN X20.here hx rfl (hb hby at_122) rfl k) ?_
      refine own_go T20 m 125 #[iv x0, iv x1, iv x2, iv x3, rv b1, rv b7, iv 4, .unset, .unset, .unset] [(.int 7), (.int x3), (.int x0)] (fun t k => XS.bipush X20.here hx rfl (hb hby at_123) k) ?_
      refine own_go T20 m 126 #[iv x0, iv x1, iv x2, iv x3, rv b1, rv b7, iv 4, .unset, .unset, .unset] [(.int (x3 &&& (7 : Int32))), (.int x0)] (fun t k => XS.iand X20.here hx rfl (hb hby at_125) rfl k) ?_
      refine own_go T20 m 127 #[iv x0, iv x1, iv x2, iv x3, rv b1, rv b7, iv 4, .unset, .unset, .unset] [(.int (x0 + (x3 &&& (7 : Int32))))] (fun t k => XS.iadd X20.here hx rfl (hb hby at_126) rfl k) ?_
      refine own_go T20 m 131 #[iv x0, iv x1, iv x2, iv x3, rv b1, rv b7, iv 4, .unset, .unset, .unset] [(.int (x0 + (x3 &&& (7 : Int32))))] (fun t k => XS.goto X20.here hx rfl (pc0 := 127) (pc' := 131) rfl (hb hby at_127) (by decide) (by decide) k) ?_
      refine own_go T20 m 133 #[iv x0, iv x1, iv x2, iv x3, rv b1, rv b7, iv 4, iv (x0 + (x3 &&& (7 : Int32))), .unset, .unset] [] (fun t k => XS.istore X20.here hx rfl (hb hby at_131) rfl rfl k) ?_
      exact seg133 (x0 + (x3 &&& (7 : Int32)))
    · refine own_go T20 m 130 #[iv x0, iv x1, iv x2, iv x3, rv b1, rv b7, iv 4, .unset, .unset, .unset] [] (fun t k => XS.ifYes X20.here hx rfl (pc0 := 118) (pc' := 130) rfl (hb hby at_118) rfl ((if0 _ _).trans (feq hc118_41).2) (by decide) (by decide) k) ?_
      refine own_go T20 m 131 #[iv x0, iv x1, iv x2, iv x3, rv b1, rv b7, iv 4, .unset, .unset, .unset] [(.int x3)] (fun t k => XS.iloadN X20.here hx rfl (hb hby at_130) rfl k) ?_
      refine own_go T20 m 133 #[iv x0, iv x1, iv x2, iv x3, rv b1, rv b7, iv 4, iv x3, .unset, .unset] [] (fun t k => XS.istore X20.here hx rfl (hb hby at_131) rfl rfl k) ?_
      exact seg133 x3
set_option maxRecDepth 65536 in
set_option maxHeartbeats 40000000 in
theorem comes_1 {Post : Tables → Env → Array Value → State → Outcome → State → Prop} (hpost : ∀ tb e args s v u, (limb_1_1.after args s (.returned v) u = true ∧ limb_1_2.after args s (.returned v) u = true ∧ True) → FrameEnd s (.returned v) u (Jvm.fieldLocs frame_1_writes args s ++ Jvm.arrayLocs frame_1_arrays args s ++ Jvm.staticLocs frame_1_statics s) 16 128 → Post tb e args s (.returned v) u) :
    ArmFor flags0 classFile x code maxLocals ret World_1 tables_1 room_1 Calls_1 rest_1 Pre_1 Post := by
  intro l hfl _ _ p e ha hc hk s m args below hf hA hF happ hP
  obtain ⟨hcalls, hrest, hpre⟩ := hP
  obtain ⟨-, -, -, hnamed, -, -, -, hat⟩ := (Spec.applies_iff hf).mp happ
  obtain ⟨hg, hn⟩ := and_e (Cond.before_iff.mp (show (Jvm.Cond.and given_1 narrow_1).before args s = true from hpre))
  obtain ⟨gg1, gg2⟩ := and_e hg
  obtain ⟨gg3, gg4⟩ := and_e gg2
  obtain ⟨gg5, gg6⟩ := and_e gg4
  obtain ⟨gg7, gg8⟩ := and_e gg6
  obtain ⟨w0, w1, w2, w3, rfl⟩ : ∃ w0 w1 w2 w3 : Value, args = #[w0, w1, w2, w3] := by
    have hs : args.size = 4 := by simpa [Cond.value, given_1] using gg1
    obtain ⟨L⟩ := args
    match L, hs with
    | [w0, w1, w2, w3], _ => exact ⟨w0, w1, w2, w3, rfl⟩
  have hw := fun d (hd : d ∈ tables_1) => atoms_spec (ws := Jvm.Cond.code x code maxLocals ret :: tables_1) hat d (List.mem_cons_of_mem _ hd)
  have hfit : Fit s := fun {y c} hc i hi => by
    obtain ⟨ha, rfl⟩ := Array.getElem?_eq_some_iff.mp hc
    have q := List.all_eq_true.mp ((Array.all_eq_true_iff_forall_mem.mp hF) _ (Array.getElem_mem ha)) i (List.mem_range.mpr hi)
    simpa [Array.getElem?_eq_getElem hi] using q
  obtain ⟨i0, ei0⟩ := is_v gg3
  obtain rfl : w0 = (.int i0) := Option.some.inj ei0
  obtain ⟨i1, ei1⟩ := is_v gg5
  obtain rfl : w1 = (.int i1) := Option.some.inj ei1
  obtain ⟨i2, ei2⟩ := is_v gg7
  obtain rfl : w2 = (.int i2) := Option.some.inj ei2
  obtain ⟨i3, ei3⟩ := is_v gg8
  obtain rfl : w3 = (.int i3) := Option.some.inj ei3
  obtain ⟨n, o, h1, h2, h3, _, L, rfl, ⟨rfl, N⟩, hq⟩ := rm0 l s _ hw tables_1 i0 i1 i2 i3 s.heap s.heap.size (Nat.le_refl _) p e ha hc hk s m _ below hf ((Spec.applies_iff_loose hf).mp happ).1 ⟨rfl, State.Warmed39.refl s, rfl⟩ trivial
  refine ⟨n, _, h1, h2, h3, hpost _ _ _ _ _ _ ⟨Cond.after_iff.mpr rfl, Cond.after_iff.mpr (eq_i res_at (Term.int_eval (1)) rfl), trivial⟩ ⟨hq.1, hq.2.1, (hq.2.2.sift fun y hy => Or.inr (N y hy)).mono (by decide) (by decide)⟩⟩
theorem main_1_1 : Claimed_1_1 := comes_1 fun _ _ _ _ _ _ h hF => ⟨h.1, hF⟩
theorem main_1_2 : Claimed_1_2 := comes_1 fun _ _ _ _ _ _ h hF => ⟨h.2.1, hF⟩
end Jvm.Pilot.@@N@@
namespace Jvm.Pilot.@@N@@
open Jvm Jvm.ClassFile Sem Op Lib Jvm.Free Jvm.Stand Jvm.Pilot.@@N@@.Jvm.D
/-! MADE BY PROGRAM (witnessworld.py) out of the Statement's table words and the real class files: 9 classes; the members and pool entries that the words name. The judged class is class 1, her method 1. -/
namespace start1
open Jvm.ClassFile
def u (s : String) : CpInfo := .utf8 (stringToUtf16 s)
/-- a pool by its gaps: so many unusable entries, then the entry; so many at the end -/
def gap : Nat → List CpInfo → List CpInfo
  | 0, r => r
  | n + 1, r => .unusable :: gap n r
def poolList (es : List (Nat × CpInfo)) (last : Nat) : List CpInfo := es.foldr (fun e r => gap e.1 (e.2 :: r)) (gap last [])
def pool (es : List (Nat × CpInfo)) (last : Nat) : Array CpInfo := ⟨poolList es last⟩
def fileOf (pool : Array CpInfo) (this : Nat) (attrs : Array Attribute := #[]) (ms : Array MethodInfo := #[]) (fl : Nat := 33) (sup : Nat := 0) (ifs : Array Nat := #[]) (fds : Array FieldInfo := #[]) : ClassFile where
  minorVersion := 0
  majorVersion := 65
  constantPool := pool
  accessFlags := fl
  thisClass := this
  superClass := sup
  interfaces := ifs
  fields := fds
  methods := ms
  attributes := attrs
def plain (name : String) (sup : Option ClassId) : Class where
  name := name
  kind := .ordinary
  loader := none
  accessFlags := 33
  super := sup
  interfaces := #[]
  cf := none
  fields := #[]
  methods := #[]
  instanceTypes := #[]
  staticTypes := #[]
  resolved := #[]
  callSites := []
  init := .initialized
  statics := none
  mirror := none

def pool0 : Array CpInfo := pool [(5, u "<init>"), (0, u "()V"), (1, .class_ 10), (1, u "java/lang/Object")] 113

def k0m0 : Method := { name := "<init>", desc := "()V", sig := { parameters := [], returnType := none }, accessFlags := 1, code := none }
/-- java/lang/Object -/
def k0 : Class := { plain "java/lang/Object" none with
  accessFlags := 33
  interfaces := #[]
  cf := some (fileOf pool0 8 #[] #[{ accessFlags := 1, nameIndex := 5, descriptorIndex := 6, attributes := #[] }] 33 0 #[] #[])
  fields := #[]
  methods := #[k0m0]
  instanceTypes := #[]
  staticTypes := #[]
  resolved := Array.replicate 124 none
  statics := none }

def pool1 : Array CpInfo := pool [(2, .class_ 4), (1, u "java/lang/Object"), (0, u "<init>"), (0, u "()V"), (0, .methodref 8 9), (0, .class_ 10), (0, .nameAndType 11 12), (0, u "com/example/substring_search/substringsearch/PrefixTableFallBackPinLaw"), (0, u "longest"), (0, u "([II)I"), (0, .integer 2147483647), (0, .methodref 8 15), (0, .nameAndType 16 17), (0, u "ref"), (0, u "([III)I"), (0, .methodref 19 20), (0, .class_ 21), (0, .nameAndType 22 23), (0, u "com/example/substring_search/substringsearch/PrefixTable"), (0, u "fallBack"), (0, u "([I[III)I"), (0, .methodref 8 25), (0, .nameAndType 26 27), (0, u "border"), (0, u "([III)Z"), (2, u "law"), (0, u "(IIII)Z")] 5

def k1m0 : Method := { name := "<init>", desc := "()V", sig := { parameters := [], returnType := none }, accessFlags := 2, code := none }
def k1c1 : Code := { maxStack := 5, maxLocals := 10, code := code, exceptionTable := #[], attributes := #[] }
def k1m1 : Method := { name := "law", desc := "(IIII)Z", sig := { parameters := [.int, .int, .int, .int], returnType := some .boolean }, accessFlags := 9, code := some k1c1 }
def k1c2 : Code := { maxStack := 4, maxLocals := 3, code := method_3_code, exceptionTable := #[], attributes := #[] }
def k1m2 : Method := { name := "border", desc := "([III)Z", sig := { parameters := [(.array .int), .int, .int], returnType := some .boolean }, accessFlags := 10, code := some k1c2 }
def k1c3 : Code := { maxStack := 3, maxLocals := 2, code := method_4_code, exceptionTable := #[], attributes := #[] }
def k1m3 : Method := { name := "longest", desc := "([II)I", sig := { parameters := [(.array .int), .int], returnType := some .int }, accessFlags := 10, code := some k1c3 }
def k1c4 : Code := { maxStack := 3, maxLocals := 3, code := method_5_code, exceptionTable := #[], attributes := #[] }
def k1m4 : Method := { name := "ref", desc := "([III)I", sig := { parameters := [(.array .int), .int, .int], returnType := some .int }, accessFlags := 10, code := some k1c4 }
/-- com/example/substring_search/substringsearch/PrefixTableFallBackPinLaw -/
def k1 : Class := { plain "com/example/substring_search/substringsearch/PrefixTableFallBackPinLaw" (some 0) with
  accessFlags := 49
  interfaces := #[]
  cf := some (fileOf pool1 8 #[] #[{ accessFlags := 2, nameIndex := 5, descriptorIndex := 6, attributes := #[] }, { accessFlags := 9, nameIndex := 30, descriptorIndex := 31, attributes := #[] }, { accessFlags := 10, nameIndex := 26, descriptorIndex := 27, attributes := #[] }, { accessFlags := 10, nameIndex := 11, descriptorIndex := 12, attributes := #[] }, { accessFlags := 10, nameIndex := 16, descriptorIndex := 17, attributes := #[] }] 49 2 #[] #[])
  fields := #[]
  methods := #[k1m0, k1m1, k1m2, k1m3, k1m4]
  instanceTypes := #[]
  staticTypes := #[]
  resolved := Array.replicate 37 none
  statics := none }

def pool2 : Array CpInfo := pool [(2, .class_ 4), (1, u "java/lang/Object"), (0, u "<init>"), (0, u "()V"), (1, .class_ 10), (1, u "com/example/substring_search/substringsearch/PrefixTable"), (1, u "([I[III)I"), (2, u "fallBack")] 9

def k2m0 : Method := { name := "<init>", desc := "()V", sig := { parameters := [], returnType := none }, accessFlags := 2, code := none }
def k2c1 : Code := { maxStack := 3, maxLocals := 4, code := prog_4_method_4_code, exceptionTable := #[], attributes := #[] }
def k2m1 : Method := { name := "fallBack", desc := "([I[III)I", sig := { parameters := [(.array .int), (.array .int), .int, .int], returnType := some .int }, accessFlags := 8, code := some k2c1 }
/-- com/example/substring_search/substringsearch/PrefixTable -/
def k2 : Class := { plain "com/example/substring_search/substringsearch/PrefixTable" (some 0) with
  accessFlags := 32
  interfaces := #[]
  cf := some (fileOf pool2 8 #[] #[{ accessFlags := 2, nameIndex := 5, descriptorIndex := 6, attributes := #[] }, { accessFlags := 8, nameIndex := 15, descriptorIndex := 12, attributes := #[] }] 32 2 #[] #[])
  fields := #[]
  methods := #[k2m0, k2m1]
  instanceTypes := #[]
  staticTypes := #[]
  resolved := Array.replicate 25 none
  statics := none }

def pool3 : Array CpInfo := pool [(1, u "java/lang/Cloneable"), (0, .class_ 1), (0, u "java/lang/Object"), (0, .class_ 3)] 3

/-- java/lang/Cloneable -/
def k3 : Class := { plain "java/lang/Cloneable" (some 0) with
  accessFlags := 1537
  interfaces := #[]
  cf := some (fileOf pool3 2 #[] #[] 1537 4 #[] #[])
  fields := #[]
  methods := #[]
  instanceTypes := #[]
  staticTypes := #[]
  resolved := Array.replicate 8 none
  statics := none }

def pool4 : Array CpInfo := pool [(1, u "java/io/Serializable"), (0, .class_ 1), (0, u "java/lang/Object"), (0, .class_ 3)] 3

/-- java/io/Serializable -/
def k4 : Class := { plain "java/io/Serializable" (some 0) with
  accessFlags := 1537
  interfaces := #[]
  cf := some (fileOf pool4 2 #[] #[] 1537 4 #[] #[])
  fields := #[]
  methods := #[]
  instanceTypes := #[]
  staticTypes := #[]
  resolved := Array.replicate 8 none
  statics := none }

/-- the primitive byte -/
def k5 : Class := { plain "byte" none with kind := .primitive 'B', accessFlags := 0x411 }
/-- [B -/
def k6 : Class := { plain "[B" (some 0) with kind := .array 5 .byte, interfaces := #[3, 4], accessFlags := 1041 }

/-- the primitive int -/
def k7 : Class := { plain "int" none with kind := .primitive 'I', accessFlags := 0x411 }
/-- [I -/
def k8 : Class := { plain "[I" (some 0) with kind := .array 7 .int, interfaces := #[3, 4], accessFlags := 1041 }

def heap : Heap := #[]
def classes : Array Class := #[k0, k1, k2, k3, k4, k5, k6, k7, k8]
def interned : List (Array UInt16 × Addr) := []
def slotsUsed : Nat := 0
def theMethod : MethodId := ⟨1, 1⟩
def args0 : Array Value := #[.int 0, .int 0, .int 0, .int 0]
def aboutOver (below : List Frame) : State where
  vm := { classes := classes, interned := interned.toArray }
  heap := heap
  slotsUsed := slotsUsed
  threads := #[{ frames := .invoking theMethod args0 :: below }]
def below0 : List Frame := [.native { method := ⟨0, 0⟩, args := #[] }]
def about1 : State := aboutOver below0
def p0 : Program := .bare "" "" ""
def e0 : Env := launch0.env 0 0 0
theorem w_frames : about1.frames = Frame.invoking theMethod args0 :: below0 := rfl
set_option maxRecDepth 65536 in
theorem w_args : argsFit about1.vm theMethod args0 = true := by decide +kernel
set_option maxRecDepth 65536 in
theorem w_heap : heapFits about1 = true := by decide +kernel
set_option maxRecDepth 65536 in
theorem w_runnable : about1.curStatus? = some .runnable := by decide +kernel
set_option maxRecDepth 65536 in
theorem w_alone : about1.alone = true := by decide +kernel
set_option maxRecDepth 65536 in
theorem w_named : about1.methodNamed? x = some theMethod := by decide +kernel
set_option maxRecDepth 65536 in
theorem w_hears : about1.hears theMethod below0 = true := by decide +kernel
set_option maxRecDepth 65536 in
theorem w_ripe : about1.ripe theMethod args0 below0 = true := by decide +kernel
theorem w_running : about1.status = .running := rfl
set_option maxRecDepth 65536 in
theorem w_room : about1.hasRoom e0.platform room_1 = true :=
  launch0.hasRoom_least _ room_1 (by decide +kernel) (by decide +kernel) (by decide +kernel) (by decide +kernel) (by decide +kernel) (by decide +kernel)
theorem allAtoms_all (ts : List Jvm.Cond) (a : Array Jvm.Value) (st : Jvm.State) : (allAtoms ts).before a st = ts.all (fun c => c.before a st) := by
  induction ts with
  | nil => rfl
  | cons c t ih =>
    show (Jvm.Cond.and c (allAtoms t)).before a st = _
    rw [Jvm.Cond.before_and, ih, List.all_cons]
def words1 : List Jvm.Cond := Jvm.Cond.code x code maxLocals ret :: tables_1
/-- a 'code' word, met by the world's own term for the bytes: nothing is compared byte by byte -/
theorem code_word {y : MethodName} {bytes : ByteArray} {mx : Nat} {rt : Option FieldType} {a : Array Value} {s : State} {m : MethodId} {meth : Method} {c : Code} (h1 : s.methodNamed? y = some m) (h2 : s.vm.method? m = some meth) (h3 : meth.code = some c) (h4 : c.code = bytes)
    (h5 : (c.maxLocals == mx && c.exceptionTable.isEmpty && decide (c.maxStack ≤ mostOperands) && decide (meth.sig.returnType = rt) && !meth.locks && decide (parseMethodDescriptor y.desc = some meth.sig)) = true) : (Jvm.Cond.code y bytes mx rt).before a s = true := by
  simp only [Bool.and_eq_true, beq_iff_eq, Bool.not_eq_true', decide_eq_true_eq] at h5
  obtain ⟨⟨⟨⟨⟨g1, g2⟩, g3⟩, g4⟩, g5⟩, g6⟩ := h5
  simp [Cond.before, Cond.holds, Cond.value, h1, h2, h3, h4, g1, g2, g3, g4, g5, g6]
def isCode : Jvm.Cond → Bool
  | .code _ _ _ _ => true
  | _ => false
theorem all_split {L : List Jvm.Cond} {P : Jvm.Cond → Bool} (h1 : L.all (fun c => isCode c || P c) = true) (h2 : ∀ c ∈ L.filter isCode, P c = true) : L.all P = true := by
  refine List.all_eq_true.mpr fun c hc => ?_
  have h := List.all_eq_true.mp h1 c hc
  rcases Bool.eq_false_or_eq_true (isCode c) with hi | hi
  · exact h2 c (List.mem_filter.mpr ⟨hc, hi⟩)
  · simpa [hi] using h
set_option maxRecDepth 65536 in
theorem w_c0 : (Jvm.Cond.code x code maxLocals ret).before args0 about1 = true := code_word (m := ⟨1, 1⟩) (meth := k1m1) (c := k1c1) (by decide +kernel) rfl rfl rfl (by decide +kernel)
set_option maxRecDepth 65536 in
theorem w_c1 : (Jvm.Cond.code ({ cls := "com/example/substring_search/substringsearch/PrefixTableFallBackPinLaw", name := "longest", desc := "([II)I" } : Jvm.MethodName) method_4_code (2 : Nat) (Option.some Jvm.ClassFile.FieldType.int)).before args0 about1 = true := code_word (m := ⟨1, 3⟩) (meth := k1m3) (c := k1c3) (by decide +kernel) rfl rfl rfl (by decide +kernel)
set_option maxRecDepth 65536 in
theorem w_c2 : (Jvm.Cond.code ({ cls := "com/example/substring_search/substringsearch/PrefixTableFallBackPinLaw", name := "border", desc := "([III)Z" } : Jvm.MethodName) method_3_code (3 : Nat) (Option.some Jvm.ClassFile.FieldType.boolean)).before args0 about1 = true := code_word (m := ⟨1, 2⟩) (meth := k1m2) (c := k1c2) (by decide +kernel) rfl rfl rfl (by decide +kernel)
set_option maxRecDepth 65536 in
theorem w_c3 : (Jvm.Cond.code ({ cls := "com/example/substring_search/substringsearch/PrefixTableFallBackPinLaw", name := "ref", desc := "([III)I" } : Jvm.MethodName) method_5_code (3 : Nat) (Option.some Jvm.ClassFile.FieldType.int)).before args0 about1 = true := code_word (m := ⟨1, 4⟩) (meth := k1m4) (c := k1c4) (by decide +kernel) rfl rfl rfl (by decide +kernel)
set_option maxRecDepth 65536 in
theorem w_c4 : (Jvm.Cond.code ({ cls := "com/example/substring_search/substringsearch/PrefixTable", name := "fallBack", desc := "([I[III)I" } : Jvm.MethodName) prog_4_method_4_code (4 : Nat) (Option.some Jvm.ClassFile.FieldType.int)).before args0 about1 = true := code_word (m := ⟨2, 1⟩) (meth := k2m1) (c := k2c1) (by decide +kernel) rfl rfl rfl (by decide +kernel)
def codes1 : List Jvm.Cond := [Jvm.Cond.code x code maxLocals ret, Jvm.Cond.code ({ cls := "com/example/substring_search/substringsearch/PrefixTableFallBackPinLaw", name := "longest", desc := "([II)I" } : Jvm.MethodName) method_4_code (2 : Nat) (Option.some Jvm.ClassFile.FieldType.int), Jvm.Cond.code ({ cls := "com/example/substring_search/substringsearch/PrefixTableFallBackPinLaw", name := "border", desc := "([III)Z" } : Jvm.MethodName) method_3_code (3 : Nat) (Option.some Jvm.ClassFile.FieldType.boolean), Jvm.Cond.code ({ cls := "com/example/substring_search/substringsearch/PrefixTableFallBackPinLaw", name := "ref", desc := "([III)I" } : Jvm.MethodName) method_5_code (3 : Nat) (Option.some Jvm.ClassFile.FieldType.int), Jvm.Cond.code ({ cls := "com/example/substring_search/substringsearch/PrefixTable", name := "fallBack", desc := "([I[III)I" } : Jvm.MethodName) prog_4_method_4_code (4 : Nat) (Option.some Jvm.ClassFile.FieldType.int)]
set_option maxRecDepth 65536 in
theorem codes_eq : words1.filter isCode = codes1 := rfl
theorem w_codes : ∀ c ∈ words1.filter isCode, c.before args0 about1 = true := by
  rw [codes_eq]
  intro c hc
  simp only [codes1, List.mem_cons, List.not_mem_nil, or_false] at hc
  rcases hc with rfl | rfl | rfl | rfl | rfl
  · exact w_c0
  · exact w_c1
  · exact w_c2
  · exact w_c3
  · exact w_c4
set_option maxRecDepth 65536 in
theorem w_t1 : words1.all (fun c => isCode c || c.before args0 about1) = true := by decide +kernel
theorem w_tables : (allAtoms (Jvm.Cond.code x code maxLocals ret :: tables_1)).before args0 about1 = true := by
  rw [allAtoms_all]
  show words1.all (fun c => c.before args0 about1) = true
  refine all_split ?_ w_codes
  rw [w_t1]
set_option maxRecDepth 65536 in
theorem w_case : (Jvm.Cond.and given_1 narrow_1).before args0 about1 = true := by decide +kernel
theorem w_applies : (headSpec (Jvm.Cond.code x code maxLocals ret :: tables_1) room_1).applies x e0.platform about1 = true :=
  (Spec.applies_iff w_frames).mpr ⟨w_running, w_runnable, w_alone, w_named, w_hears, w_ripe, w_room, w_tables⟩
theorem atStart : AtStart classFile x code maxLocals ret World_1 tables_1 room_1 Calls_1 rest_1 Pre_1 launch0 p0 e0 about1 theMethod args0 below0 :=
  ⟨lists_1, trivial, launch0.admits_env _ _ _, launch0.least_env, fairChoices_fair.cas, fairChoices_fair.clock, w_frames, w_args, w_heap, w_applies, trivial, trivial, w_case⟩
end start1
theorem witness_1 : WitnessClaimed_1 := ⟨start1.p0, start1.e0, start1.about1, start1.theMethod, start1.args0, start1.below0, start1.atStart⟩
end Jvm.Pilot.@@N@@
