import JvmDerived
import JvmDerived.Pilot.@@N@@Statement
import JvmDerived.Pilot.@@N@@Code
set_option linter.unusedVariables false
set_option linter.unusedSimpArgs false
namespace Jvm.RoadKit
open Sem ClassFile Op Lib Jvm.Stand Jvm.Free Jvm.LawKit
section OwnKit
variable {p : Program} {l : Launch} {e : Env} {R : Room} {s : State} {m : MethodId} {args : Array Value} {below : List Frame} {meth : Method} {c : Code} {T : State} {locs : List Loc} {cells slots : Nat} {Z : State} {a0 : Array Value} {h : Heap}
abbrev OwnP : Type := Option Value → Heap → List Loc → Prop
/-- from the state A the run comes back with what P says -/
def OwnG (tb : Tables) (e : Env) (below : List Frame) (s : State) (P : OwnP) (rc rs : Nat) (A : State) : Prop :=
  ∃ s₂ o, Steps tb e below A s₂ ∧ s₂.status = .running ∧ Ended s₂ below o ∧ ∃ v L, o = .returned v ∧ P v s₂.heap L ∧ FrameEnd s o s₂ L rc rs
theorem own_go {tb : Tables} {P : OwnP} {rc rs : Nat} {A : State} (T' : State) (m' : MethodId) (pc : Nat) (Ls : Array Slot) (st : List Value) (f : ∀ t, Steps tb e below (T'.setTop (mkF m' pc Ls st)) t → Steps tb e below A t) (k : OwnG tb e below s P rc rs (T'.setTop (mkF m' pc Ls st))) : OwnG tb e below s P rc rs A := by
  obtain ⟨s₂, o, h1, h2⟩ := k
  exact ⟨s₂, o, f _ h1, h2⟩
theorem own_mono {tb : Tables} {P P' : OwnP} {rc rs : Nat} {A : State} (f : ∀ v h L, P v h L → P' v h L) (k : OwnG tb e below s P rc rs A) : OwnG tb e below s P' rc rs A := by
  obtain ⟨s₂, o, h1, h2, h3, v, L, h4, h5, h6⟩ := k
  exact ⟨s₂, o, h1, h2, h3, v, L, h4, f _ _ _ h5, h6⟩
/-- what a walk knows of the body -/
def OwnX (Z : State) (p : Program) (s : State) (m : MethodId) (meth : Method) (c : Code) (bytes : ByteArray) (maxL : Nat) (ret : Option FieldType) (own nm : String) : Prop :=
  p.tables.exec = Jvm.exec ∧ c.code = bytes ∧ c.maxLocals = maxL ∧ s.vm.findClass own = some m.cls ∧ meth.name = nm ∧ meth.sig.returnType = ret ∧ meth.locks = false ∧ Z.Warmed39 s.vm
/-- a body's contract -/
abbrev OwnC (l : Launch) (Z : State) (y : MethodName) (bytes : ByteArray) (maxL : Nat) (ret : Option FieldType) (ws : List Cond) (rm : Room) (as' : Array Value) (h0 : Heap) (P : OwnP) : Prop :=
  MetFree l y (head1 (Cond.code y bytes maxL ret :: ws) rm) (fun a U => a = as' ∧ Z.Warmed39 U.vm ∧ U.heap = h0) (fun _ _ _ _ _ => True) (fun _ U o U' => ∃ v L, o = .returned v ∧ P v U'.heap L ∧ FrameEnd U o U' L rm.cells rm.slots)
theorem own_entry {y : MethodName} {bytes : ByteArray} {maxL : Nat} {ret : Option FieldType} {ws : List Cond} {rm : Room} {as' : Array Value} {h0 : Heap} {P : OwnP} {Ls : Array Slot} (hpl : plainFor y = true) (ef : ∀ m, entryFrame m as' maxL = mkF m 0 Ls [])
    (body : ∀ (p : Program) (e : Env) (s : State) (m : MethodId) (below : List Frame) (meth : Method) (c : Code) (T : State), Stand p l e rm s m as' below meth c T [] 0 0 → OwnX Z p s m meth c bytes maxL ret y.cls y.name → T.heap = h0 → OwnG p.tables e below s P rm.cells rm.slots (T.setTop (mkF m 0 Ls []))) :
    OwnC l Z y bytes maxL ret ws rm as' h0 P := by
  refine MetFree.of_bodySF hpl hisR ?_
  intro p e s m args below meth c s₁ Bd hml0 hP hK
  obtain ⟨rfl, hZ, hh⟩ := hP
  have e0 : s₁.heap = h0 := by rw [← hh, Bd.state]; rfl
  obtain ⟨s₂, o, h1, h2⟩ := body p e s m below meth c s₁ (Stand.of_body Bd) ⟨Bd.exec, Bd.bytes, hml0, findClass_of_methodNamed Bd.named, (name_of_methodNamed Bd.named Bd.method).1, Bd.returns, Bd.notSynchronized, hZ⟩ e0
  exact ⟨s₂, o, castTop (ef m) h1, h2⟩
theorem own_ret {P : OwnP} {rc rs : Nat} (X : Stand p l e R s m args below meth c T locs cells slots) (hx : p.tables.exec = Jvm.exec) (hlk : meth.locks = false) {pc : Nat} {Ls : Array Slot} {w : Value} {t : FieldType} {i : Instr} {rest : List Value} (hret : meth.sig.returnType = some t) (hn : narrow t w = w)
    (hi : (i = .ireturn ∧ (t = .int ∨ t = .boolean ∨ t = .byte ∨ t = .char ∨ t = .short) ∧ ∃ z, w = .int z) ∨ (i = .lreturn ∧ t = .long ∧ ∃ z, w = .long z) ∨ (i = .dreturn ∧ t = .double ∧ ∃ z, w = .double z) ∨ (i = .freturn ∧ t = .float ∧ ∃ z, w = .float z) ∨ (i = .areturn ∧ t.isReference = true ∧ w.isRef = true))
    (hd : decode c.code pc = .ok (i, 1)) (hc : cells ≤ rc) (hs : slots ≤ rs) (hP : P (some w) T.heap locs) : OwnG p.tables e below s P rc rs (T.setTop (mkF m pc Ls (w :: rest))) := by
  obtain ⟨fs, hr, hrun, hended, hW, hsame⟩ := X.leave (v := some w) (fun h => by rw [hret] at h; cases h) hlk
  exact ⟨_, _, retOut X hx hret hn hi hd hr, hrun, hended, _, _, rfl, hP, ⟨_, rfl⟩, hW, hsame.mono hc hs⟩
theorem own_retI {P : OwnP} {rc rs : Nat} (X : Stand p l e R s m args below meth c T locs cells slots) (hx : p.tables.exec = Jvm.exec) (hlk : meth.locks = false) {pc : Nat} {Ls : Array Slot} {z : Int32} {rest : List Value} (hret : meth.sig.returnType = some .int)
    (hd : decode c.code pc = .ok (.ireturn, 1)) (hc : cells ≤ rc) (hs : slots ≤ rs) (hP : P (some (.int z)) T.heap locs) : OwnG p.tables e below s P rc rs (T.setTop (mkF m pc Ls (.int z :: rest))) :=
  own_ret X hx hlk hret rfl (Or.inl ⟨rfl, Or.inl rfl, z, rfl⟩) hd hc hs hP
theorem own_retZ {P : OwnP} {rc rs : Nat} (X : Stand p l e R s m args below meth c T locs cells slots) (hx : p.tables.exec = Jvm.exec) (hlk : meth.locks = false) {pc : Nat} {Ls : Array Slot} {z : Int32} {rest : List Value} (hret : meth.sig.returnType = some .boolean) (hz : z = 0 ∨ z = 1)
    (hd : decode c.code pc = .ok (.ireturn, 1)) (hc : cells ≤ rc) (hs : slots ≤ rs) (hP : P (some (.int z)) T.heap locs) : OwnG p.tables e below s P rc rs (T.setTop (mkF m pc Ls (.int z :: rest))) :=
  own_ret X hx hlk hret (by rcases hz with rfl | rfl <;> rfl) (Or.inl ⟨rfl, Or.inr (Or.inl rfl), z, rfl⟩) hd hc hs hP
theorem own_retB {P : OwnP} {rc rs : Nat} (X : Stand p l e R s m args below meth c T locs cells slots) (hx : p.tables.exec = Jvm.exec) (hlk : meth.locks = false) {pc : Nat} {Ls : Array Slot} {z : Int32} {rest : List Value} (hret : meth.sig.returnType = some .byte) (hz : narrow .byte (.int z) = .int z)
    (hd : decode c.code pc = .ok (.ireturn, 1)) (hc : cells ≤ rc) (hs : slots ≤ rs) (hP : P (some (.int z)) T.heap locs) : OwnG p.tables e below s P rc rs (T.setTop (mkF m pc Ls (.int z :: rest))) :=
  own_ret X hx hlk hret hz (Or.inl ⟨rfl, Or.inr (Or.inr (Or.inl rfl)), z, rfl⟩) hd hc hs hP
theorem own_retJ {P : OwnP} {rc rs : Nat} (X : Stand p l e R s m args below meth c T locs cells slots) (hx : p.tables.exec = Jvm.exec) (hlk : meth.locks = false) {pc : Nat} {Ls : Array Slot} {z : Int64} {rest : List Value} (hret : meth.sig.returnType = some .long)
    (hd : decode c.code pc = .ok (.lreturn, 1)) (hc : cells ≤ rc) (hs : slots ≤ rs) (hP : P (some (.long z)) T.heap locs) : OwnG p.tables e below s P rc rs (T.setTop (mkF m pc Ls (.long z :: rest))) :=
  own_ret X hx hlk hret rfl (Or.inr (Or.inl ⟨rfl, rfl, z, rfl⟩)) hd hc hs hP
theorem own_retA {P : OwnP} {rc rs : Nat} (X : Stand p l e R s m args below meth c T locs cells slots) (hx : p.tables.exec = Jvm.exec) (hlk : meth.locks = false) {pc : Nat} {Ls : Array Slot} {w : Value} {t : FieldType} {rest : List Value} (hret : meth.sig.returnType = some t) (hn : narrow t w = w) (ht : t.isReference = true) (hw : w.isRef = true)
    (hd : decode c.code pc = .ok (.areturn, 1)) (hc : cells ≤ rc) (hs : slots ≤ rs) (hP : P (some w) T.heap locs) : OwnG p.tables e below s P rc rs (T.setTop (mkF m pc Ls (w :: rest))) :=
  own_ret X hx hlk hret hn (Or.inr (Or.inr (Or.inr (Or.inr ⟨rfl, ht, hw⟩)))) hd hc hs hP
theorem own_retV {P : OwnP} {rc rs : Nat} (X : Stand p l e R s m args below meth c T locs cells slots) (hx : p.tables.exec = Jvm.exec) (hlk : meth.locks = false) {pc : Nat} {Ls : Array Slot} (hret : meth.sig.returnType = none)
    (hd : decode c.code pc = .ok (.return_, 1)) (hc : cells ≤ rc) (hs : slots ≤ rs) (hP : P none T.heap locs) : OwnG p.tables e below s P rc rs (T.setTop (mkF m pc Ls [])) := by
  obtain ⟨fs, hr, hrun, hended, hW, hsame⟩ := X.leave (v := none) (fun _ => rfl) hlk
  exact ⟨_, _, X.returnOut hx hret hd hr, hrun, hended, _, _, rfl, hP, ⟨_, rfl⟩, hW, hsame.mono hc hs⟩
theorem own_static (X : Stand p l e R s m args below meth c T locs cells slots) (hx : p.tables.exec = Jvm.exec) (hZ : Z.Warmed39 s.vm) {own : String} {index : Nat} {y : MethodName} {bytes : ByteArray} {maxL : Nat} {ret : Option FieldType} {rm : Room} {as' : Array Value} {P : OwnP}
    (hown : s.vm.findClass own = some m.cls) (w1 : (Cond.methodLink own index y).before a0 Z = true) (w2 : (Cond.static y).before a0 Z = true) (w3 : (Cond.initialized y.cls).before a0 Z = true) (w4 : (Cond.code y bytes maxL ret).before a0 Z = true) (hy : y.cls ≠ "java/lang/invoke/MethodHandle" ∧ y.cls ≠ "java/lang/invoke/VarHandle")
    (hM : OwnC l Z y bytes maxL ret [] rm as' h P) (eT : T.heap = h) {pc : Nat} {Ls : Array Slot} {argsL rest : List Value} (W : Nat) {st : List Value} (hsz : Ls.size = c.maxLocals) (hlen : ∀ sig, parseMethodDescriptor y.desc = some sig → argsL.length = sig.parameters.length) (has : argsL.toArray = as') (hst : st = argsL.reverse ++ rest) (hW : (rest.map fun v => v.category).sum ≤ W)
    (hd : decode c.code pc = .ok (.invokestatic index, 3)) (hf : rm.frames + 1 ≤ R.frames) (hl : W + (maxL + 11) + rm.locals ≤ R.locals) (hc : cells + rm.cells ≤ R.cells) (hs : slots + rm.slots ≤ R.slots) :
    ∃ v T' L, Stand p l e R s m args below meth c T' (locs ++ L) (cells + rm.cells) (slots + rm.slots) ∧ P v T'.heap L ∧ ∀ t, Steps p.tables e below (T'.setTop (mkF m (pc + 3) Ls (v.toList ++ rest))) t → Steps p.tables e below (T.setTop (mkF m pc Ls st)) t := by
  obtain ⟨v, vm₁, ⟨T', L', k', n'⟩, -, X', ⟨L, hQ, l1, l2, l3⟩, stp⟩ := Jvm.LawKit.callS X hx hown (mvT hZ w1) (mvT hZ w2) (mvT hZ w3) (mvT hZ w4) hy (backOf (W := W) hM hZ w4 w3 hf hl) (g := mkF m pc Ls st) rfl hsz (argsL := argsL) (rest := rest) hlen hst (by show 2 * 0 + _ ≤ _; omega) hd (fun _ _ => ⟨has, eT, hc, hs⟩)
  dsimp only [Pt.U, Pt.locs, Pt.cells, Pt.slots] at X' l1 l2 l3 stp hQ
  subst l1 l2 l3
  exact ⟨v, T', L, X', hQ, stp⟩
theorem own_init (X : Stand p l e R s m args below meth c T locs cells slots) (hx : p.tables.exec = Jvm.exec) (hZ : Z.Warmed39 s.vm) {own : String} {index : Nat} {y : MethodName} {bytes : ByteArray} {maxL : Nat} {rm : Room} {as' : Array Value} {P : OwnP} (hy1 : y.name = "<init>")
    (hown : s.vm.findClass own = some m.cls) (w1 : (Cond.methodLink own index y).before a0 Z = true) (w2 : (Cond.instanceMethod y).before a0 Z = true) (w3 : (Cond.initialized y.cls).before a0 Z = true) (w4 : (Cond.code y bytes maxL none).before a0 Z = true) (hy : y.cls ≠ "java/lang/invoke/MethodHandle" ∧ y.cls ≠ "java/lang/invoke/VarHandle")
    (hM : OwnC l Z y bytes maxL none [] rm as' h P) (eT : T.heap = h) {pc : Nat} {Ls : Array Slot} {a : Addr} {argsL rest : List Value} (W : Nat) {st : List Value} (hsz : Ls.size = c.maxLocals) (hlen : ∀ sig, parseMethodDescriptor y.desc = some sig → argsL.length = sig.parameters.length) (has : (.ref a :: argsL).toArray = as') (hst : st = argsL.reverse ++ .ref a :: rest) (hW : (rest.map fun v => v.category).sum ≤ W)
    (hd : decode c.code pc = .ok (.invokespecial index, 3)) (hf : rm.frames + 1 ≤ R.frames) (hl : W + (maxL + 11) + rm.locals ≤ R.locals) (hc : cells + rm.cells ≤ R.cells) (hs : slots + rm.slots ≤ R.slots) :
    ∃ v T' L, Stand p l e R s m args below meth c T' (locs ++ L) (cells + rm.cells) (slots + rm.slots) ∧ P v T'.heap L ∧ ∀ t, Steps p.tables e below (T'.setTop (mkF m (pc + 3) Ls (v.toList ++ rest))) t → Steps p.tables e below (T.setTop (mkF m pc Ls st)) t := by
  obtain ⟨v, vm₁, ⟨T', L', k', n'⟩, -, X', ⟨L, hQ, l1, l2, l3⟩, stp⟩ := X.specialBack hx hy1 hown (mvT hZ w1) (mvT hZ w2) (mvT hZ w4) hy (backOf (W := W) hM hZ w4 w3 hf hl) (g := mkF m pc Ls st) rfl hsz (Steps.refl _) (a := a) (argsL := argsL) (rest := rest) hlen hst (by show 2 * 0 + _ ≤ _; omega) hd (fun _ _ => ⟨has, eT, hc, hs⟩)
  dsimp only [Pt.U, Pt.locs, Pt.cells, Pt.slots] at X' l1 l2 l3 stp hQ
  subst l1 l2 l3
  exact ⟨v, T', L, X', hQ, fun t k => stp.trans k⟩
theorem own_virtual (X : Stand p l e R s m args below meth c T locs cells slots) (hx : p.tables.exec = Jvm.exec) (hZ : Z.Warmed39 s.vm) {own C : String} {index : Nat} {y z : MethodName} {bytes : ByteArray} {maxL : Nat} {ret : Option FieldType} {rm : Room} {as' : Array Value} {P : OwnP}
    (hown : s.vm.findClass own = some m.cls) (w1 : (Cond.methodLink own index y).before a0 Z = true) (w2 : (Cond.declares y).before a0 Z = true) (hnf : NotFace s y) (w5 : (Cond.selects C y z).before a0 Z = true) (w6 : (Cond.instanceMethod z).before a0 Z = true) (w3 : (Cond.initialized z.cls).before a0 Z = true) (w4 : (Cond.code z bytes maxL ret).before a0 Z = true) (hy : y.cls ≠ "java/lang/invoke/MethodHandle" ∧ y.cls ≠ "java/lang/invoke/VarHandle")
    (hM : OwnC l Z z bytes maxL ret [] rm as' h P) (eT : T.heap = h) {a : Addr} (E : Exa Z h a C) {pc : Nat} {Ls : Array Slot} {argsL rest : List Value} (W : Nat) {st : List Value} (hsz : Ls.size = c.maxLocals) (hlen : ∀ sig, parseMethodDescriptor y.desc = some sig → argsL.length = sig.parameters.length) (has : (.ref a :: argsL).toArray = as') (hst : st = argsL.reverse ++ .ref a :: rest) (hW : (rest.map fun v => v.category).sum ≤ W)
    (hd : decode c.code pc = .ok (.invokevirtual index, 3)) (hf : rm.frames + 1 ≤ R.frames) (hl : W + (maxL + 11) + rm.locals ≤ R.locals) (hc : cells + rm.cells ≤ R.cells) (hs : slots + rm.slots ≤ R.slots) :
    ∃ v T' L, Stand p l e R s m args below meth c T' (locs ++ L) (cells + rm.cells) (slots + rm.slots) ∧ P v T'.heap L ∧ ∀ t, Steps p.tables e below (T'.setTop (mkF m (pc + 3) Ls (v.toList ++ rest))) t → Steps p.tables e below (T.setTop (mkF m pc Ls st)) t := by
  obtain ⟨cq, kq, qa, qb, qc⟩ := isOf hZ eT E
  obtain ⟨v, vm₁, ⟨T', L', k', n'⟩, -, X', ⟨L, hQ, l1, l2, l3⟩, stp⟩ := X.virtualBack hx (y := y) (z := z) hown (mvT hZ w1) (mvT hZ w2) hnf (mvT hZ w5) (mvT hZ w6) hy (backOf (W := W) hM hZ w4 w3 hf hl) qa qc (g := mkF m pc Ls st) rfl hsz (Steps.refl _) (argsL := argsL) (rest := rest) hlen hst (by show 2 * 0 + _ ≤ _; omega) hd (fun _ _ => ⟨has, eT, hc, hs⟩)
  dsimp only [Pt.U, Pt.locs, Pt.cells, Pt.slots] at X' l1 l2 l3 stp hQ
  subst l1 l2 l3
  exact ⟨v, T', L, X', hQ, fun t k => stp.trans k⟩
/-- a body that writes nothing and makes nothing -/
def OwnPure (w : Value) (h0 : Heap) : OwnP := fun v h L => v = some w ∧ h = h0 ∧ L = []
theorem own_nil (X : Stand p l e R s m args below meth c T (locs ++ []) cells slots) : Stand p l e R s m args below meth c T locs cells slots := by rwa [List.append_nil] at X
theorem own_iaload (X : Stand p l e R s m args below meth c T locs cells slots) (hx : p.tables.exec = Jvm.exec) (hZ : Z.Warmed39 s.vm) (eT : T.heap = h) {a : Addr} {k : ClassId} {n : Int32} {vs : List Value} {dv : Value} (V : Arv Z h a k .int n vs dv) {j x : Int32} (hj : ¬ j < 0 ∧ j < n) (hv : vs.getD j.toNatClampNeg dv = .int x)
    {pc : Nat} {Ls : Array Slot} {rest : List Value} (hd : decode c.code pc = .ok (.iaload, 1)) : ∀ t, Steps p.tables e below (T.setTop (mkF m (pc + 1) Ls (.int x :: rest))) t → Steps p.tables e below (T.setTop (mkF m pc Ls (.int j :: .ref a :: rest))) t := by
  obtain ⟨cl, A, -, S, -, H, -⟩ := V
  exact fun t k => X.iaload hx (by rw [eT]; exact A.1) (State.isArrayOf_alike hZ.alike A.2.1) A.2.2 (inb_of S hj) (H.at (inb_of S hj) hv) (g := mkF m pc Ls (.int j :: .ref a :: rest)) rfl rfl hd t k
theorem own_baload (X : Stand p l e R s m args below meth c T locs cells slots) (hx : p.tables.exec = Jvm.exec) (hZ : Z.Warmed39 s.vm) (eT : T.heap = h) {a : Addr} {k : ClassId} {n : Int32} {vs : List Value} {dv : Value} (V : Arv Z h a k .byte n vs dv) {j x : Int32} (hj : ¬ j < 0 ∧ j < n) (hv : vs.getD j.toNatClampNeg dv = .int x)
    {pc : Nat} {Ls : Array Slot} {rest : List Value} (hd : decode c.code pc = .ok (.baload, 1)) : ∀ t, Steps p.tables e below (T.setTop (mkF m (pc + 1) Ls (.int x :: rest))) t → Steps p.tables e below (T.setTop (mkF m pc Ls (.int j :: .ref a :: rest))) t := by
  obtain ⟨cl, A, -, S, -, H, -⟩ := V
  exact fun t k => X.baloadBytes hx (by rw [eT]; exact A.1) (State.isArrayOf_alike hZ.alike A.2.1) A.2.2 (inb_of S hj) (H.at (inb_of S hj) hv) (g := mkF m pc Ls (.int j :: .ref a :: rest)) rfl rfl hd t k
theorem own_aaload (X : Stand p l e R s m args below meth c T locs cells slots) (hx : p.tables.exec = Jvm.exec) (hZ : Z.Warmed39 s.vm) (eT : T.heap = h) {a : Addr} {k : ClassId} {ty : FieldType} {n : Int32} {vs : List Value} {dv : Value} (V : Arv Z h a k ty n vs dv) (hty : ty.isReference = true) {j : Int32} {w : Value} (hj : ¬ j < 0 ∧ j < n) (hv : vs.getD j.toNatClampNeg dv = w)
    {pc : Nat} {Ls : Array Slot} {rest : List Value} (hd : decode c.code pc = .ok (.aaload, 1)) : ∀ t, Steps p.tables e below (T.setTop (mkF m (pc + 1) Ls (w :: rest))) t → Steps p.tables e below (T.setTop (mkF m pc Ls (.int j :: .ref a :: rest))) t := by
  obtain ⟨cl, A, -, S, -, H, -⟩ := V
  exact fun t k => X.aaload hx (by rw [eT]; exact A.1) (State.isArrayOf_alike hZ.alike A.2.1) hty A.2.2 (inb_of S hj) (H.at (inb_of S hj) hv) (g := mkF m pc Ls (.int j :: .ref a :: rest)) rfl rfl hd t k
theorem own_alen (X : Stand p l e R s m args below meth c T locs cells slots) (hx : p.tables.exec = Jvm.exec) (hZ : Z.Warmed39 s.vm) (eT : T.heap = h) {a : Addr} {k : ClassId} {ty : FieldType} {n : Int32} {vs : List Value} {dv : Value} (V : Arv Z h a k ty n vs dv)
    {pc : Nat} {Ls : Array Slot} {rest : List Value} (hd : decode c.code pc = .ok (.arraylength, 1)) : ∀ t, Steps p.tables e below (T.setTop (mkF m (pc + 1) Ls (.int n :: rest))) t → Steps p.tables e below (T.setTop (mkF m pc Ls (.ref a :: rest))) t := by
  obtain ⟨cl, A, -, S, N, H, -⟩ := V
  intro t q
  refine X.arraylength hx (by rw [eT]; exact A.1) (State.isArrayOf_alike hZ.alike A.2.1) (g := mkF m pc Ls (.ref a :: rest)) rfl rfl hd t ?_
  rw [len_of S N]
  exact q
theorem own_iastore (X : Stand p l e R s m args below meth c T locs cells slots) (hx : p.tables.exec = Jvm.exec) (hZ : Z.Warmed39 s.vm) (eT : T.heap = h) {a : Addr} {k : ClassId} {n : Int32} {vs : List Value} {dv : Value} (V : Arv Z h a k .int n vs dv) {j x : Int32} (hj : ¬ j < 0 ∧ j < n) (i : Nat) (hi : j.toNatClampNeg = i) (hl : i < vs.length)
    {pc : Nat} {Ls : Array Slot} {rest : List Value} (hd : decode c.code pc = .ok (.iastore, 1)) : ∃ T' h', Stand p l e R s m args below meth c T' (locs ++ [⟨a, i⟩]) cells slots ∧ T'.heap = h' ∧ Wr h h' a i (.int x) ∧ Arv Z h' a k .int n (vs.set i (.int x)) dv ∧ ∀ t, Steps p.tables e below (T'.setTop (mkF m (pc + 1) Ls rest)) t → Steps p.tables e below (T.setTop (mkF m pc Ls (.int x :: .int j :: .ref a :: rest))) t := by
  obtain ⟨cl, A, q1, S, N, H, G⟩ := V
  obtain ⟨T', h', X', e', W', st⟩ := stI X hx hZ eT A (j := j) (x := x) (inb_of S hj) (g := mkF m pc Ls (.int x :: .int j :: .ref a :: rest)) rfl rfl hd
  have V' := Arv.set A q1 S N H G (v := .int x) rfl W' i hi hl
  rw [hi] at X' W'
  exact ⟨T', h', X', e', W', V', st⟩
theorem own_bastore (X : Stand p l e R s m args below meth c T locs cells slots) (hx : p.tables.exec = Jvm.exec) (hZ : Z.Warmed39 s.vm) (eT : T.heap = h) {a : Addr} {k : ClassId} {n : Int32} {vs : List Value} {dv : Value} (V : Arv Z h a k .byte n vs dv) {j x : Int32} (hj : ¬ j < 0 ∧ j < n) (i : Nat) (hi : j.toNatClampNeg = i) (hl : i < vs.length)
    {pc : Nat} {Ls : Array Slot} {rest : List Value} (hd : decode c.code pc = .ok (.bastore, 1)) : ∃ T' h', Stand p l e R s m args below meth c T' (locs ++ [⟨a, i⟩]) cells slots ∧ T'.heap = h' ∧ Wr h h' a i (.int x.toInt8.toInt32) ∧ Arv Z h' a k .byte n (vs.set i (.int x.toInt8.toInt32)) dv ∧ ∀ t, Steps p.tables e below (T'.setTop (mkF m (pc + 1) Ls rest)) t → Steps p.tables e below (T.setTop (mkF m pc Ls (.int x :: .int j :: .ref a :: rest))) t := by
  obtain ⟨cl, A, q1, S, N, H, G⟩ := V
  obtain ⟨T', h', X', e', W', st⟩ := stB X hx hZ eT A (j := j) (x := x) (inb_of S hj) (g := mkF m pc Ls (.int x :: .int j :: .ref a :: rest)) rfl rfl hd
  have V' := Arv.set A q1 S N H G (v := .int x.toInt8.toInt32) (fits_nar_byte x) W' i hi hl
  rw [hi] at X' W'
  exact ⟨T', h', X', e', W', V', st⟩
theorem own_aastore (X : Stand p l e R s m args below meth c T locs cells slots) (hx : p.tables.exec = Jvm.exec) (hZ : Z.Warmed39 s.vm) (eT : T.heap = h) {a : Addr} {k : ClassId} {ty : FieldType} {n : Int32} {vs : List Value} {dv : Value} (V : Arv Z h a k ty n vs dv) (hty : ty.isReference = true) {C : String} (O : Ovr Z k C) {y : Addr} (I : Ins Z h y C true) {j : Int32} (hj : ¬ j < 0 ∧ j < n) (i : Nat) (hi : j.toNatClampNeg = i) (hl : i < vs.length)
    {pc : Nat} {Ls : Array Slot} {rest : List Value} (hd : decode c.code pc = .ok (.aastore, 1)) : ∃ T' h', Stand p l e R s m args below meth c T' (locs ++ [⟨a, i⟩]) cells slots ∧ T'.heap = h' ∧ Wr h h' a i (.ref y) ∧ Arv Z h' a k ty n (vs.set i (.ref y)) dv ∧ ∀ t, Steps p.tables e below (T'.setTop (mkF m (pc + 1) Ls rest)) t → Steps p.tables e below (T.setTop (mkF m pc Ls (.ref y :: .int j :: .ref a :: rest))) t := by
  obtain ⟨cl, A, q1, S, N, H, G⟩ := V
  obtain ⟨T', h', X', e', W', st⟩ := stR X hx hZ eT A (j := j) (v := .ref y) (inb_of S hj) hty (Sto.ofV A q1 O I) (g := mkF m pc Ls (.ref y :: .int j :: .ref a :: rest)) rfl rfl hd
  have V' := Arv.set A q1 S N H G (v := .ref y) (by cases ty <;> first | rfl | (simp [FieldType.isReference] at hty)) W' i hi hl
  rw [hi] at X' W'
  exact ⟨T', h', X', e', W', V', st⟩
theorem own_lt_eq {x y : Int64} (h : x = y) : lcmpW x y = 0 := (lw_eq x y).mpr h
theorem own_rem_ne {x y : Int32} {target : State} {g : JFrame} (X : Stand p l e R s m args below meth c T locs cells slots) (hx : p.tables.exec = Jvm.exec) (hg : g.method = m) {rest : List Value} (hd : decode c.code g.pc = .ok (.irem, 1)) (hs : g.stack = .int y :: .int x :: rest) (hy : y ≠ 0)
    (hr : Steps p.tables e below (T.setTop { g with pc := g.pc + 1, stack := .int (x % y) :: rest }) target) : Steps p.tables e below (T.setTop g) target := iremM X hx hg hd hs hy hr
theorem own_lrem {x y : Int64} {target : State} {g : JFrame} (X : Stand p l e R s m args below meth c T locs cells slots) (hx : p.tables.exec = Jvm.exec) (hg : g.method = m) {rest : List Value} (hd : decode c.code g.pc = .ok (.lrem, 1)) (hs : g.stack = .long y :: .long x :: rest) (hy : y ≠ 0)
    (hr : Steps p.tables e below (T.setTop { g with pc := g.pc + 1, stack := .long (x % y) :: rest }) target) : Steps p.tables e below (T.setTop g) target := by
  refine XS.lrem X.here hx hg hd hs hy ?_
  rw [lrem_mod]
  exact hr
theorem own_fld_int {args : Array Value} {t : Term} {C n d : String} {k : Int32} {a : Addr} (ev : t.eval args Z none [] Z = some (.ref a)) (h : (Cond.eq (Term.field t C n d) (Term.int k)).value args Z none Z [] = some true) : Fld Z Z.heap a C n d (.int k) := by
  obtain ⟨x, y, h1, h2, h3, h4⟩ := cmp_v (Or.inl h)
  have hy : y = .int k := by rw [Term.int_eval] at h2; exact (Option.some.inj h2).symm
  subst hy
  obtain ⟨z, rfl⟩ : ∃ z, x = .int z := h4
  have hz : z = k := by simpa [Cond.value, h1, h2] using h
  subst hz
  rw [fld_at ev] at h1
  exact Fld.start h1
theorem own_sta_keep {C n d : String} {v : Value} {h' : Heap} (F : Sta Z h C n d v) (K : Keep h h' []) : Sta Z h' C n d v := by
  obtain ⟨cf, i, k, f, st, cell, h1, h2, h3, h4, h5, h6⟩ := F
  exact ⟨cf, i, k, f, st, cell, h1, h2, h3, h4, K.2.1 _ _ h5 nin0, h6⟩
/-- the objects of C are no K: C's superclasses are named, K is a class that has objects -/
theorem own_nsroot {O K : String} {n : Nat} (w : (Cond.noSuperclass O).before a0 Z = true) (wk : (Cond.instantiable K n).before a0 Z = true) (hn : O ≠ K) : NS Z O K := by
  obtain ⟨c, k, h1, h2, h3, -, -⟩ := Cond.noSuperclass_spec w
  obtain ⟨t, kt, g1, -⟩ := Cond.instantiable_spec wk
  have ne := ids_ne h1 g1 hn
  refine ⟨c, t, h1, g1, fun fuel => ?_⟩
  cases fuel with
  | zero => rfl
  | succ f => simp [Vm.isSubclassAux, ne, h2, h3]
theorem own_nsno {C S K : String} {n : Nat} (w : (Cond.superclass C S).before a0 Z = true) (wk : (Cond.instantiable K n).before a0 Z = true) (q : NS Z C K) (hn : C ≠ K) : ∃ c t, Z.vm.findClass C = some c ∧ Z.vm.findClass K = some t ∧ Z.vm.assignable c t = false := by
  obtain ⟨c, t, h0, g0, n3⟩ := q
  obtain ⟨p, k, kp, h1, h2, h3, h4, h5, -, h7⟩ := Cond.superclass_spec h0 w
  obtain ⟨t', kt, g1, g2, g3, g4, -⟩ := Cond.instantiable_spec wk
  cases g0.symm.trans g1
  have g5 : kt.isInterface = false := by
    cases hq : kt.isInterface with
    | false => rfl
    | true => rw [hq] at g4; simp at g4
  have ne := ids_ne h0 g0 hn
  refine ⟨c, t, h0, g0, ?_⟩
  show Z.vm.assignableAux (255 + 1) c t = false
  simp [Vm.assignableAux, ne, h2, g2, h5, g3, g5, Vm.isSubclass, n3]
theorem own_s16 (x : Int32) : x.toInt16.toInt32.toInt16.toInt32 = x.toInt16.toInt32 := by simp
theorem own_virtualUp (X : Stand p l e R s m args below meth c T locs cells slots) (hx : p.tables.exec = Jvm.exec) (hZ : Z.Warmed39 s.vm) {own C owner : String} {index : Nat} {x y : MethodName} {bytes : ByteArray} {maxL : Nat} {ret : Option FieldType} {rm : Room} {as' : Array Value} {P : OwnP}
    (hown : s.vm.findClass own = some m.cls) (w1 : (Cond.methodLink own index x).before a0 Z = true) (w2 : (Cond.sameMethod x.cls owner x.name x.desc).before a0 Z = true) (w7 : (Cond.declares ⟨owner, x.name, x.desc⟩).before a0 Z = true) (hy : owner ≠ "java/lang/invoke/MethodHandle" ∧ owner ≠ "java/lang/invoke/VarHandle") (w5 : (Cond.selects C x y).before a0 Z = true) (w6 : (Cond.instanceMethod y).before a0 Z = true) (w3 : (Cond.initialized y.cls).before a0 Z = true) (w4 : (Cond.code y bytes maxL ret).before a0 Z = true)
    (hM : OwnC l Z y bytes maxL ret [] rm as' h P) (eT : T.heap = h) {a : Addr} (E : Exa Z h a C) {pc : Nat} {Ls : Array Slot} {argsL rest : List Value} (W : Nat) {st : List Value} (hsz : Ls.size = c.maxLocals) (hlen : ∀ sig, parseMethodDescriptor x.desc = some sig → argsL.length = sig.parameters.length) (has : (.ref a :: argsL).toArray = as') (hst : st = argsL.reverse ++ .ref a :: rest) (hW : (rest.map fun v => v.category).sum ≤ W)
    (hd : decode c.code pc = .ok (.invokevirtual index, 3)) (hf : rm.frames + 1 ≤ R.frames) (hl : W + (maxL + 11) + rm.locals ≤ R.locals) (hc : cells + rm.cells ≤ R.cells) (hs : slots + rm.slots ≤ R.slots) :
    ∃ v T' L, Stand p l e R s m args below meth c T' (locs ++ L) (cells + rm.cells) (slots + rm.slots) ∧ P v T'.heap L ∧ ∀ t, Steps p.tables e below (T'.setTop (mkF m (pc + 3) Ls (v.toList ++ rest))) t → Steps p.tables e below (T.setTop (mkF m pc Ls st)) t := by
  obtain ⟨cq, kq, qa, qb, qc⟩ := isOf hZ eT E
  obtain ⟨v, vm₁, ⟨T', L', k', n'⟩, -, X', ⟨L, hQ, l1, l2, l3⟩, stp⟩ := X.virtualBackUp hx (x := x) (y := y) hown (mvT hZ w1) (mvT hZ w2) (mvT hZ w7) hy (mvT hZ w5) (mvT hZ w6) (backOf (W := W) hM hZ w4 w3 hf hl) qa qc (g := mkF m pc Ls st) rfl hsz (Steps.refl _) (argsL := argsL) (rest := rest) hlen hst (by show 2 * 0 + _ ≤ _; omega) hd (fun _ _ => ⟨has, eT, hc, hs⟩)
  dsimp only [Pt.U, Pt.locs, Pt.cells, Pt.slots] at X' l1 l2 l3 stp hQ
  subst l1 l2 l3
  exact ⟨v, T', L, X', hQ, fun t k => stp.trans k⟩
theorem own_castore (X : Stand p l e R s m args below meth c T locs cells slots) (hx : p.tables.exec = Jvm.exec) (hZ : Z.Warmed39 s.vm) (eT : T.heap = h) {a : Addr} {k : ClassId} {n : Int32} {vs : List Value} {dv : Value} (V : Arv Z h a k .char n vs dv) {j x : Int32} (hj : ¬ j < 0 ∧ j < n) (i : Nat) (hi : j.toNatClampNeg = i) (hl : i < vs.length)
    {pc : Nat} {Ls : Array Slot} {rest : List Value} (hd : decode c.code pc = .ok (.castore, 1)) : ∃ T' h', Stand p l e R s m args below meth c T' (locs ++ [⟨a, i⟩]) cells slots ∧ T'.heap = h' ∧ Wr h h' a i (.int x.toUInt32.toUInt16.toUInt32.toInt32) ∧ Arv Z h' a k .char n (vs.set i (.int x.toUInt32.toUInt16.toUInt32.toInt32)) dv ∧ ∀ t, Steps p.tables e below (T'.setTop (mkF m (pc + 1) Ls rest)) t → Steps p.tables e below (T.setTop (mkF m pc Ls (.int x :: .int j :: .ref a :: rest))) t := by
  obtain ⟨cl, A, q1, S, N, H, G⟩ := V
  obtain ⟨T', h', X', e', W', st⟩ := stC X hx hZ eT A (j := j) (x := x) (inb_of S hj) (g := mkF m pc Ls (.int x :: .int j :: .ref a :: rest)) rfl rfl hd
  have V' := Arv.set A q1 S N H G (v := .int x.toUInt32.toUInt16.toUInt32.toInt32) (fits_nar_char x) W' i hi hl
  rw [hi] at X' W'
  exact ⟨T', h', X', e', W', V', st⟩
theorem own_sta_keep1 {C n d C' : String} {v : Value} {h' : Heap} {a : Addr} (F : Sta Z h C n d v) (K : Keep h h' [a]) (E : Exa Z h a C') : Sta Z h' C n d v := by
  obtain ⟨cf, i, k, f, st, cell, h1, h2, h3, h4, h5, h6, h7⟩ := F
  obtain ⟨cell', k', e1, -, -, e4, -⟩ := E
  have hne : st ≠ a := fun q => by
    subst q
    cases h5.symm.trans e1
    rw [h6] at e4
    cases e4
  exact ⟨cf, i, k, f, st, cell, h1, h2, h3, h4, K.2.1 _ _ h5 (ninS hne nin0), h6, h7⟩
theorem own_private (X : Stand p l e R s m args below meth c T locs cells slots) (hx : p.tables.exec = Jvm.exec) (hZ : Z.Warmed39 s.vm) {own C : String} {index n : Nat} {y : MethodName} {bytes : ByteArray} {maxL : Nat} {ret : Option FieldType} {rm : Room} {as' : Array Value} {P : OwnP}
    (hown : s.vm.findClass own = some m.cls) (w1 : (Cond.methodLink own index y).before a0 Z = true) (w2 : (Cond.instanceMethod y).before a0 Z = true) (wp : (Cond.privateMethod y).before a0 Z = true) (wi : (Cond.instantiable y.cls n).before a0 Z = true) (w3 : (Cond.initialized y.cls).before a0 Z = true) (w4 : (Cond.code y bytes maxL ret).before a0 Z = true) (hy : y.cls ≠ "java/lang/invoke/MethodHandle" ∧ y.cls ≠ "java/lang/invoke/VarHandle")
    (hM : OwnC l Z y bytes maxL ret [] rm as' h P) (eT : T.heap = h) {a : Addr} (E : Exa Z h a C) {pc : Nat} {Ls : Array Slot} {argsL rest : List Value} (W : Nat) {st : List Value} (hsz : Ls.size = c.maxLocals) (hlen : ∀ sig, parseMethodDescriptor y.desc = some sig → argsL.length = sig.parameters.length) (has : (.ref a :: argsL).toArray = as') (hst : st = argsL.reverse ++ .ref a :: rest) (hW : (rest.map fun v => v.category).sum ≤ W)
    (hd : decode c.code pc = .ok (.invokevirtual index, 3)) (hf : rm.frames + 1 ≤ R.frames) (hl : W + (maxL + 11) + rm.locals ≤ R.locals) (hc : cells + rm.cells ≤ R.cells) (hs : slots + rm.slots ≤ R.slots) :
    ∃ v T' L, Stand p l e R s m args below meth c T' (locs ++ L) (cells + rm.cells) (slots + rm.slots) ∧ P v T'.heap L ∧ ∀ t, Steps p.tables e below (T'.setTop (mkF m (pc + 3) Ls (v.toList ++ rest))) t → Steps p.tables e below (T.setTop (mkF m pc Ls st)) t := by
  obtain ⟨cell, hcell, hobj⟩ := E.cell
  have hpriv := Cond.privateMethod_at (mvP hZ wp (args := args))
  obtain ⟨ci, ki, i1, i2, i3, i4, -⟩ := Cond.instantiable_spec (show (Cond.instantiable y.cls n).before args s = true from mvT hZ wi)
  have hni : ki.isInterface = false := by
    cases hq : ki.isInterface with
    | false => rfl
    | true => rw [hq] at i4; simp at i4
  have hsel := selects_self_of_private (args := args) i1 i2 hni hpriv (mvT hZ w2) hy
  obtain ⟨v, vm₁, ⟨T', L', k', n'⟩, -, X', ⟨L, hQ, l1, l2, l3⟩, stp⟩ := X.privateBack hx (y := y) hown (mvT hZ w1) (mvT hZ w2) hsel hpriv (mvT hZ w4) hy (backOf (W := W) hM hZ w4 w3 hf hl) (g := mkF m pc Ls st) rfl hsz (Steps.refl _) (a := a) (by rw [eT]; exact hcell) hobj (argsL := argsL) (rest := rest) hlen hst (by show 2 * 0 + _ ≤ _; omega) hd (fun _ _ => ⟨has, eT, hc, hs⟩)
  dsimp only [Pt.U, Pt.locs, Pt.cells, Pt.slots] at X' l1 l2 l3 stp hQ
  subst l1 l2 l3
  exact ⟨v, T', L, X', hQ, fun t k => stp.trans k⟩
theorem own_interface (X : Stand p l e R s m args below meth c T locs cells slots) (hx : p.tables.exec = Jvm.exec) (hZ : Z.Warmed39 s.vm) {own C : String} {index count : Nat} {xi y : MethodName} {bytes : ByteArray} {maxL : Nat} {ret : Option FieldType} {rm : Room} {as' : Array Value} {P : OwnP}
    (hown : s.vm.findClass own = some m.cls) (w1 : (Cond.methodLink own index xi).before a0 Z = true) (w2 : (Cond.declares xi).before a0 Z = true) (w7 : (Cond.interfaceMethod xi.cls xi.cls xi.name xi.desc).before args s = true) (w5 : (Cond.selects C xi y).before a0 Z = true) (w6 : (Cond.instanceMethod y).before a0 Z = true) (w8 : (Cond.publicMethod y).before a0 Z = true) (w9 : (Cond.unhidden C xi.name xi.desc).before a0 Z = true) (w10 : (Cond.castable C xi.cls).before a0 Z = true) (w3 : (Cond.initialized y.cls).before a0 Z = true) (w4 : (Cond.code y bytes maxL ret).before a0 Z = true) (hy : xi.cls ≠ "java/lang/invoke/MethodHandle" ∧ xi.cls ≠ "java/lang/invoke/VarHandle")
    (hM : OwnC l Z y bytes maxL ret [] rm as' h P) (eT : T.heap = h) {a : Addr} (E : Exa Z h a C) {pc : Nat} {Ls : Array Slot} {argsL rest : List Value} (W : Nat) {st : List Value} (hsz : Ls.size = c.maxLocals) (hlen : ∀ sig, parseMethodDescriptor xi.desc = some sig → argsL.length = sig.parameters.length) (has : (.ref a :: argsL).toArray = as') (hst : st = argsL.reverse ++ .ref a :: rest) (hW : (rest.map fun v => v.category).sum ≤ W)
    (hd : decode c.code pc = .ok (.invokeinterface index count, 5)) (hf : rm.frames + 1 ≤ R.frames) (hl : W + (maxL + 11) + rm.locals ≤ R.locals) (hc : cells + rm.cells ≤ R.cells) (hs : slots + rm.slots ≤ R.slots) :
    ∃ v T' L, Stand p l e R s m args below meth c T' (locs ++ L) (cells + rm.cells) (slots + rm.slots) ∧ P v T'.heap L ∧ ∀ t, Steps p.tables e below (T'.setTop (mkF m (pc + 5) Ls (v.toList ++ rest))) t → Steps p.tables e below (T.setTop (mkF m pc Ls st)) t := by
  obtain ⟨cq, kq, qa, qb, qc⟩ := isOf hZ eT E
  obtain ⟨v, vm₁, ⟨T', L', k', n'⟩, -, X', ⟨L, hQ, l1, l2, l3⟩, stp⟩ := X.interfaceBack hx (xi := xi) (y := y) hown (mvT hZ w1) (mvT hZ w2) w7 (mvT hZ w5) (mvT hZ w6) (mvT hZ w8) (mvT hZ w9) (mvT hZ w10) hy (backOf (W := W) hM hZ w4 w3 hf hl) qa qb qc (g := mkF m pc Ls st) rfl hsz (Steps.refl _) (argsL := argsL) (rest := rest) hlen hst (by show 2 * 0 + _ ≤ _; omega) hd (fun _ _ => ⟨has, eT, hc, hs⟩)
  dsimp only [Pt.U, Pt.locs, Pt.cells, Pt.slots] at X' l1 l2 l3 stp hQ
  subst l1 l2 l3
  exact ⟨v, T', L, X', hQ, fun t k => stp.trans k⟩
theorem own_staticUp (X : Stand p l e R s m args below meth c T locs cells slots) (hx : p.tables.exec = Jvm.exec) (hZ : Z.Warmed39 s.vm) {own owner : String} {index : Nat} {x : MethodName} {bytes : ByteArray} {maxL : Nat} {ret : Option FieldType} {rm : Room} {as' : Array Value} {P : OwnP}
    (hown : s.vm.findClass own = some m.cls) (w1 : (Cond.methodLink own index x).before a0 Z = true) (w2 : (Cond.sameMethod x.cls owner x.name x.desc).before a0 Z = true) (hy : owner ≠ "java/lang/invoke/MethodHandle" ∧ owner ≠ "java/lang/invoke/VarHandle") (w5 : (Cond.static ⟨owner, x.name, x.desc⟩).before a0 Z = true) (w3 : (Cond.initialized owner).before a0 Z = true) (w4 : (Cond.code ⟨owner, x.name, x.desc⟩ bytes maxL ret).before a0 Z = true)
    (hM : OwnC l Z ⟨owner, x.name, x.desc⟩ bytes maxL ret [] rm as' h P) (eT : T.heap = h) {pc : Nat} {Ls : Array Slot} {argsL rest : List Value} (W : Nat) {st : List Value} (hsz : Ls.size = c.maxLocals) (hlen : ∀ sig, parseMethodDescriptor x.desc = some sig → argsL.length = sig.parameters.length) (has : argsL.toArray = as') (hst : st = argsL.reverse ++ rest) (hW : (rest.map fun v => v.category).sum ≤ W)
    (hd : decode c.code pc = .ok (.invokestatic index, 3)) (hf : rm.frames + 1 ≤ R.frames) (hl : W + (maxL + 11) + rm.locals ≤ R.locals) (hc : cells + rm.cells ≤ R.cells) (hs : slots + rm.slots ≤ R.slots) :
    ∃ v T' L, Stand p l e R s m args below meth c T' (locs ++ L) (cells + rm.cells) (slots + rm.slots) ∧ P v T'.heap L ∧ ∀ t, Steps p.tables e below (T'.setTop (mkF m (pc + 3) Ls (v.toList ++ rest))) t → Steps p.tables e below (T.setTop (mkF m pc Ls st)) t := by
  have c4 : (Cond.code ⟨owner, x.name, x.desc⟩ bytes maxL ret).before args s = true := mvT hZ w4
  obtain ⟨mk, hnamed⟩ := Cond.code_named c4
  obtain ⟨methM, cM, hmethM, -, -, -, -, -, -, hsigM⟩ := Cond.code_spec hnamed c4
  have hstatic : methM.isStatic = true := Cond.static_spec hnamed hmethM (mvT (args := args) hZ w5)
  obtain ⟨kP, hkP, -⟩ := className_of_methodNamed hnamed
  have hinitP : kP.init = .initialized := Cond.initialized_spec (findClass_of_methodNamed hnamed) hkP (mvT (args := args) hZ w3)
  obtain ⟨vm₁, X₁, hstep₁⟩ := X.invokestaticUp hx hown (mvT hZ w1) (mvT hZ w2) hy hnamed hmethM hstatic hkP hinitP (g := mkF m pc Ls st) rfl (argsL := argsL) (rest := rest) (hlen _ hsigM) hst hd
  obtain ⟨v, ⟨T', L', k', n'⟩, X', ⟨L, hQ, l1, l2, l3⟩, hsteps⟩ := (backOf (len := 3) (W := W) hM hZ w4 w3 hf hl) m meth c ⟨T.setVm vm₁, locs, cells, slots⟩ { mkF m pc Ls st with stack := rest } (.invokestatic index) mk argsL.toArray X₁ rfl hsz hd (by show 2 * 0 + (rest.map fun v => v.category).sum ≤ W; rw [Nat.mul_zero, Nat.zero_add]; exact hW) (X₁.named hnamed) ⟨has, eT, hc, hs⟩
  dsimp only [Pt.U, Pt.locs, Pt.cells, Pt.slots] at X' l1 l2 l3 hsteps hQ
  subst l1 l2 l3
  exact ⟨v, T', L, X', hQ, fun t k => ((hstep₁ _ fun acts => by rw [doInvoke_state]; exact Steps.refl _).trans hsteps).trans k⟩
theorem own_getfRef (X : Stand p l e R s m args below meth c T locs cells slots) (hx : p.tables.exec = Jvm.exec) (hZ : Z.Warmed39 s.vm) {own O n d : String} {index : Nat} (hown : s.vm.findClass own = some m.cls) (w : (Cond.fieldRef own index O n d).before a0 Z = true) (eT : T.heap = h) {a : Addr} {v : Value} (F : Fld Z h a O n d v)
    {pc : Nat} {Ls : Array Slot} {rest : List Value} (hd : decode c.code pc = .ok (.getfield index, 3)) : ∀ t, Steps p.tables e below (T.setTop (mkF m (pc + 3) Ls (v :: rest))) t → Steps p.tables e below (T.setTop (mkF m pc Ls (.ref a :: rest))) t := by
  obtain ⟨cell, cf, k, i, f, h1, h2, h3, h4, -, -, h7⟩ := F
  have hW : Z.Warmed39 T.vm := wtrans hZ X.warmed
  have hw := Cond.fieldRef_warmed39 hW w
  have hcur : (Z.setVm T.vm).vm.findClass own = some m.cls := by
    show T.vm.findClass own = _
    rw [X.warmed.alike.findClass]
    exact hown
  obtain ⟨c', k', i', f', q1, q2⟩ := Cond.fieldRef_spec hcur hw
  obtain ⟨k2, hi, -⟩ := State.fieldFound?_setVm (s := Z) hW.alike h2
  rw [hi] at q1
  cases q1
  exact fun t kk => (X.getfieldR hx (g := mkF m pc Ls (.ref a :: rest)) rfl q2 h3 rfl (by rw [eT]; exact h1) h4 h7 hd (Steps.refl _)).trans kk
theorem own_sneE {a b : Addr} {cell : Cell} {C : String} (h1 : h[a]? = some cell) (h2 : cell.vm.isStatics = true) (E : Exa Z h b C) : a ≠ b := fun q => by
  obtain ⟨cell', k', e1, -, -, e4, -⟩ := E
  subst q
  cases h1.symm.trans e1
  rw [h2] at e4
  cases e4
theorem own_sneA {a b : Addr} {cell : Cell} {k : ClassId} {ty : FieldType} {n : Int32} {vs : List Value} {dv : Value} (h1 : h[a]? = some cell) (h2 : cell.vm.isStatics = true) (V : Arv Z h b k ty n vs dv) : a ≠ b := fun q => by
  obtain ⟨cl, A, -⟩ := V
  subst q
  cases h1.symm.trans A.1
  have := A.plain
  rw [h2] at this
  cases this
theorem own_sta_keepL {C n d : String} {v : Value} {h' : Heap} {ws : List Addr} (F : Sta Z h C n d v) (K : Keep h h' ws) (q : ∀ (a : Addr) (cell : Cell), h[a]? = some cell → cell.vm.isStatics = true → a ∉ ws) : Sta Z h' C n d v := by
  obtain ⟨cf, i, k, f, st, cell, h1, h2, h3, h4, h5, h6, h7⟩ := F
  exact ⟨cf, i, k, f, st, cell, h1, h2, h3, h4, K.2.1 _ _ h5 (q _ _ h5 h6), h6, h7⟩
theorem own_nf {args : Array Value} {s : State} {C : String} {x y z : MethodName} (hsel : (Cond.selects C x z).before args s = true) (hc : y.cls = z.cls) : NotFace s y := fun r0 h0 => by
  obtain ⟨c2, r2, m2, q1, q2, q3, q4, kP, hkP, hkPi⟩ := Cond.selects_spec hsel
  have e1 := findClass_of_methodNamed h0
  have e2 := findClass_of_methodNamed q3
  rw [hc] at e1
  have e3 : r0.cls = m2.cls := Option.some.inj (e1.symm.trans e2)
  exact ⟨kP, by rw [e3]; exact hkP, hkPi⟩
end OwnKit
end Jvm.RoadKit
namespace Jvm.Pilot.@@N@@
open Jvm Jvm.ClassFile Sem Op Lib Jvm.Free Jvm.Stand Jvm.LawKit Jvm.RoadKit Bundle Jvm.Pilot.@@N@@.Jvm.D
theorem own_w {Z : State} {a0 : Array Value} (hw : ∀ d ∈ tables_1, d.before a0 Z = true) (i : Nat) {d : Jvm.Cond} (h : tables_1[i]? = some d) : d.before a0 Z = true := hw _ (List.mem_of_getElem? h)
theorem own_i {a : Addr} {L : List Addr} {Q : Prop} (i : Nat) (h : L[i]? = some a) : a ∈ L ∨ Q := Or.inl (List.mem_of_getElem? h)
theorem pd___I_V : parseMethodDescriptor "([I)V" = some ⟨[(.array .int)], none⟩ := by decide +kernel
theorem pd___V : parseMethodDescriptor "()V" = some ⟨[], none⟩ := by decide +kernel
theorem pd__I_V : parseMethodDescriptor "(I)V" = some ⟨[.int], none⟩ := by decide +kernel
theorem pd___I__I : parseMethodDescriptor "([I)[I" = some ⟨[(.array .int)], some (.array .int)⟩ := by decide +kernel
theorem pd___I_I_V : parseMethodDescriptor "([I[I)V" = some ⟨[(.array .int), (.array .int)], none⟩ := by decide +kernel
theorem pd__I_J : parseMethodDescriptor "(I)J" = some ⟨[.int], some .long⟩ := by decide +kernel
theorem pd___I_I__I : parseMethodDescriptor "([I[I)[I" = some ⟨[(.array .int), (.array .int)], some (.array .int)⟩ := by decide +kernel
theorem pd___II__I : parseMethodDescriptor "([II)[I" = some ⟨[(.array .int), .int], some (.array .int)⟩ := by decide +kernel
theorem pd__II_I : parseMethodDescriptor "(II)I" = some ⟨[.int, .int], some .int⟩ := by decide +kernel
theorem pd__Ljava_lang_Object_ILjava_lang_Object_II_V : parseMethodDescriptor "(Ljava/lang/Object;ILjava/lang/Object;II)V" = some ⟨[(.object "java/lang/Object"), .int, (.object "java/lang/Object"), .int, .int], none⟩ := by decide +kernel
theorem pd__Lcom_example_substring_search_substringsearch_UnitSearch__V : parseMethodDescriptor "(Lcom/example/substring_search/substringsearch/UnitSearch;)V" = some ⟨[(.object "com/example/substring_search/substringsearch/UnitSearch")], none⟩ := by decide +kernel
theorem pd___I : parseMethodDescriptor "()I" = some ⟨[], some .int⟩ := by decide +kernel
theorem pd__Lcom_example_substring_search_substringsearch_UnitSearch_Occurrences__I : parseMethodDescriptor "(Lcom/example/substring_search/substringsearch/UnitSearch$Occurrences;)I" = some ⟨[(.object "com/example/substring_search/substringsearch/UnitSearch$Occurrences")], some .int⟩ := by decide +kernel
theorem pd___J : parseMethodDescriptor "()J" = some ⟨[], some .long⟩ := by decide +kernel
theorem pd__II_V : parseMethodDescriptor "(II)V" = some ⟨[.int, .int], none⟩ := by decide +kernel
theorem d7_0 : decode prog_5_method_20_code 0 = .ok (.iload_n 0, 1) := by decide +kernel
theorem d7_1 : decode prog_5_method_20_code 1 = .ok (.sipush 255, 3) := by decide +kernel
theorem d7_4 : decode prog_5_method_20_code 4 = .ok (.iand, 1) := by decide +kernel
theorem d7_5 : decode prog_5_method_20_code 5 = .ok (.i2l, 1) := by decide +kernel
theorem d7_6 : decode prog_5_method_20_code 6 = .ok (.ldc2_w 194, 3) := by decide +kernel
theorem d7_9 : decode prog_5_method_20_code 9 = .ok (.lmul, 1) := by decide +kernel
theorem d7_10 : decode prog_5_method_20_code 10 = .ok (.lreturn, 1) := by decide +kernel
theorem pf_com_example_substring_search_substringsearch_StartScan_lowByteInEveryByte__I_J : plainFor (⟨"com/example/substring_search/substringsearch/StartScan", "lowByteInEveryByte", "(I)J"⟩ : MethodName) = true := by first | exact plainFor_of_name (by first | (simp [plainName, overriddenIn]; done) | decide +kernel) | exact Jvm.Free.JP.mathPlain rfl (by decide +kernel) | decide +kernel
theorem ef_rm7 (m : MethodId) (q0 : Int32) : entryFrame m #[(.int q0)] 1 = mkF m 0 #[iv q0] [] := by first | (simp [entryFrame, mkF, argsToLocals, Value.category]; done) | rfl
set_option maxRecDepth 65536 in
set_option maxHeartbeats 40000000 in
theorem rm7 (l : Launch) (Z : State) (a0 : Array Value) (hw : ∀ d ∈ tables_1, d.before a0 Z = true) (ws : List Jvm.Cond) (x0 : Int32) (h0 : Heap) :
    OwnC l Z (⟨"com/example/substring_search/substringsearch/StartScan", "lowByteInEveryByte", "(I)J"⟩ : MethodName) prog_5_method_20_code 1 (some .long) ws ({ frames := 0, cells := 0, slots := 0, locals := 0 } : Room) #[(.int x0)] h0 (fun v h L => (∃ z : Int64, v = some (.long z)) ∧ h = h0 ∧ L = []) := by
  refine own_entry pf_com_example_substring_search_substringsearch_StartScan_lowByteInEveryByte__I_J (fun m => ef_rm7 m x0) ?_
  intro p e s m below meth c T0 X0 hC e0
  obtain ⟨hx, hby, hml, hown, hnm, hret, hlk, hZ⟩ := hC
  refine own_go T0 m 1 #[iv x0] [(.int x0)] (fun t k => XS.iloadN X0.here hx rfl (hb hby d7_0) rfl k) ?_
  refine own_go T0 m 4 #[iv x0] [(.int 255), (.int x0)] (fun t k => XS.sipush X0.here hx rfl (hb hby d7_1) k) ?_
  refine own_go T0 m 5 #[iv x0] [(.int (x0 &&& (255 : Int32)))] (fun t k => XS.iand X0.here hx rfl (hb hby d7_4) rfl k) ?_
  refine own_go T0 m 6 #[iv x0] [(.long (x0 &&& (255 : Int32)).toInt64)] (fun t k => XS.i2l X0.here hx rfl (hb hby d7_5) rfl k) ?_
  refine own_go T0 m 9 #[iv x0] [(.long 72340172838076673), (.long (x0 &&& (255 : Int32)).toInt64)] (X0.ldc2Long hx hown (mvT hZ (own_w hw 55 rfl)) (g := (mkF m 6 #[iv x0] [(.long (x0 &&& (255 : Int32)).toInt64)])) rfl (hb hby d7_6)) ?_
  refine own_go T0 m 10 #[iv x0] [(.long ((x0 &&& (255 : Int32)).toInt64 * (72340172838076673 : Int64)))] (fun t k => XS.lmul X0.here hx rfl (hb hby d7_9) rfl k) ?_
  refine own_retJ X0 hx hlk hret (hb hby d7_10) (by decide) (by decide) ?_
  exact ⟨⟨_, rfl⟩, e0, rfl⟩
theorem d10_0 : decode jdk_29_method_69_code 0 = .ok (.iload_n 0, 1) := by decide +kernel
theorem d10_1 : decode jdk_29_method_69_code 1 = .ok (.iload_n 1, 1) := by decide +kernel
theorem d10_2 : decode jdk_29_method_69_code 2 = .ok (.if_icmp .gt 7, 3) := by decide +kernel
theorem d10_5 : decode jdk_29_method_69_code 5 = .ok (.iload_n 0, 1) := by decide +kernel
theorem d10_6 : decode jdk_29_method_69_code 6 = .ok (.goto 4, 3) := by decide +kernel
theorem d10_9 : decode jdk_29_method_69_code 9 = .ok (.iload_n 1, 1) := by decide +kernel
theorem d10_10 : decode jdk_29_method_69_code 10 = .ok (.ireturn, 1) := by decide +kernel
theorem pf_java_lang_Math_min__II_I : plainFor (⟨"java/lang/Math", "min", "(II)I"⟩ : MethodName) = true := by first | exact plainFor_of_name (by first | (simp [plainName, overriddenIn]; done) | decide +kernel) | exact Jvm.Free.JP.mathPlain rfl (by decide +kernel) | decide +kernel
theorem ef_rm10 (m : MethodId) (q0 : Int32) (q1 : Int32) : entryFrame m #[(.int q0), (.int q1)] 2 = mkF m 0 #[iv q0, iv q1] [] := by first | (simp [entryFrame, mkF, argsToLocals, Value.category]; done) | rfl
set_option maxRecDepth 65536 in
set_option maxHeartbeats 40000000 in
theorem rm10 (l : Launch) (Z : State) (a0 : Array Value) (hw : ∀ d ∈ tables_1, d.before a0 Z = true) (ws : List Jvm.Cond) (h0 : Heap) :
    OwnC l Z (⟨"java/lang/Math", "min", "(II)I"⟩ : MethodName) jdk_29_method_69_code 2 (some .int) ws ({ frames := 0, cells := 0, slots := 0, locals := 0 } : Room) #[(.int 8), (.int 0)] h0 (OwnPure (.int 0) h0) := by
  refine own_entry pf_java_lang_Math_min__II_I (fun m => ef_rm10 m (8 : Int32) (0 : Int32)) ?_
  intro p e s m below meth c T0 X0 hC e0
  obtain ⟨hx, hby, hml, hown, hnm, hret, hlk, hZ⟩ := hC
  refine own_go T0 m 1 #[iv 8, iv 0] [(.int 8)] (fun t k => XS.iloadN X0.here hx rfl (hb hby d10_0) rfl k) ?_
  refine own_go T0 m 2 #[iv 8, iv 0] [(.int 0), (.int 8)] (fun t k => XS.iloadN X0.here hx rfl (hb hby d10_1) rfl k) ?_
  refine own_go T0 m 9 #[iv 8, iv 0] [] (fun t k => XS.icmpYes X0.here hx rfl (pc0 := 2) (pc' := 9) rfl (hb hby d10_2) rfl (tlt (by decide)).2.2.1 (by decide) (by decide) k) ?_
  refine own_go T0 m 10 #[iv 8, iv 0] [(.int 0)] (fun t k => XS.iloadN X0.here hx rfl (hb hby d10_9) rfl k) ?_
  refine own_retI X0 hx hlk hret (hb hby d10_10) (by decide) (by decide) ?_
  exact ⟨rfl, e0, rfl⟩
theorem d14_0 : decode jdk_37_method_2_code 0 = .ok (.aload_n 0, 1) := by decide +kernel
theorem d14_1 : decode jdk_37_method_2_code 1 = .ok (.getfield 7, 3) := by decide +kernel
theorem d14_4 : decode jdk_37_method_2_code 4 = .ok (.ireturn, 1) := by decide +kernel
theorem pf_java_lang_Enum_ordinal___I : plainFor (⟨"java/lang/Enum", "ordinal", "()I"⟩ : MethodName) = true := by first | exact plainFor_of_name (by first | (simp [plainName, overriddenIn]; done) | decide +kernel) | exact Jvm.Free.JP.mathPlain rfl (by decide +kernel) | decide +kernel
theorem ef_rm14 (m : MethodId) (q0 : Addr) : entryFrame m #[(.ref q0)] 1 = mkF m 0 #[rv q0] [] := by first | (simp [entryFrame, mkF, argsToLocals, Value.category]; done) | rfl
set_option maxRecDepth 65536 in
set_option maxHeartbeats 40000000 in
theorem rm14 (l : Launch) (Z : State) (a0 : Array Value) (hw : ∀ d ∈ tables_1, d.before a0 Z = true) (ws : List Jvm.Cond) (x0 : Addr) (h0 : Heap) (Fo : Fld Z h0 x0 "java/lang/Enum" "ordinal" "I" (.int 0)) :
    OwnC l Z (⟨"java/lang/Enum", "ordinal", "()I"⟩ : MethodName) jdk_37_method_2_code 1 (some .int) ws ({ frames := 0, cells := 0, slots := 0, locals := 0 } : Room) #[(.ref x0)] h0 (OwnPure (.int 0) h0) := by
  refine own_entry pf_java_lang_Enum_ordinal___I (fun m => ef_rm14 m x0) ?_
  intro p e s m below meth c T0 X0 hC e0
  obtain ⟨hx, hby, hml, hown, hnm, hret, hlk, hZ⟩ := hC
  refine own_go T0 m 1 #[rv x0] [(.ref x0)] (fun t k => XS.aloadN X0.here hx rfl (hb hby d14_0) rfl rfl k) ?_
  obtain ⟨T1, X1, e1, st1⟩ := getF X0 hx hZ hown (host := "") (Or.inl (own_w hw 114 rfl)) Via.refl e0 Fo (g := (mkF m 1 #[rv x0] [(.ref x0)])) rfl rfl (hb hby d14_1)
  refine own_go T1 m 4 #[rv x0] [(.int 0)] (st1) ?_
  refine own_retI X1 hx hlk hret (hb hby d14_4) (by decide) (by decide) ?_
  exact ⟨rfl, e1, rfl⟩
theorem d15_0 : decode prog_11_method_2_code 0 = .ok (.aload_n 0, 1) := by decide +kernel
theorem d15_1 : decode prog_11_method_2_code 1 = .ok (.getfield 42, 3) := by decide +kernel
theorem d15_4 : decode prog_11_method_2_code 4 = .ok (.lreturn, 1) := by decide +kernel
theorem pf_com_example_substring_search_substringsearch_UnitScanner_position___J : plainFor (⟨"com/example/substring_search/substringsearch/UnitScanner", "position", "()J"⟩ : MethodName) = true := by first | exact plainFor_of_name (by first | (simp [plainName, overriddenIn]; done) | decide +kernel) | exact Jvm.Free.JP.mathPlain rfl (by decide +kernel) | decide +kernel
theorem ef_rm15 (m : MethodId) (q0 : Addr) : entryFrame m #[(.ref q0)] 1 = mkF m 0 #[rv q0] [] := by first | (simp [entryFrame, mkF, argsToLocals, Value.category]; done) | rfl
set_option maxRecDepth 65536 in
set_option maxHeartbeats 40000000 in
theorem rm15 (l : Launch) (Z : State) (a0 : Array Value) (hw : ∀ d ∈ tables_1, d.before a0 Z = true) (ws : List Jvm.Cond) (x0 : Addr) (u : Int64) (h0 : Heap) (F_position_x0 : Fld Z h0 x0 "com/example/substring_search/substringsearch/UnitScanner" "position" "J" (.long u)) :
    OwnC l Z (⟨"com/example/substring_search/substringsearch/UnitScanner", "position", "()J"⟩ : MethodName) prog_11_method_2_code 1 (some .long) ws ({ frames := 0, cells := 0, slots := 0, locals := 0 } : Room) #[(.ref x0)] h0 (OwnPure (.long u) h0) := by
  refine own_entry pf_com_example_substring_search_substringsearch_UnitScanner_position___J (fun m => ef_rm15 m x0) ?_
  intro p e s m below meth c T0 X0 hC e0
  obtain ⟨hx, hby, hml, hown, hnm, hret, hlk, hZ⟩ := hC
  refine own_go T0 m 1 #[rv x0] [(.ref x0)] (fun t k => XS.aloadN X0.here hx rfl (hb hby d15_0) rfl rfl k) ?_
  obtain ⟨T1, X1, e1, st1⟩ := getF X0 hx hZ hown (host := "") (Or.inl (own_w hw 123 rfl)) Via.refl e0 F_position_x0 (g := (mkF m 1 #[rv x0] [(.ref x0)])) rfl rfl (hb hby d15_1)
  refine own_go T1 m 4 #[rv x0] [(.long u)] (st1) ?_
  refine own_retJ X1 hx hlk hret (hb hby d15_4) (by decide) (by decide) ?_
  exact ⟨rfl, e1, rfl⟩
theorem d16_0 : decode prog_11_method_3_code 0 = .ok (.aload_n 0, 1) := by decide +kernel
theorem d16_1 : decode prog_11_method_3_code 1 = .ok (.getfield 46, 3) := by decide +kernel
theorem d16_4 : decode prog_11_method_3_code 4 = .ok (.ireturn, 1) := by decide +kernel
theorem pf_com_example_substring_search_substringsearch_UnitScanner_matched___I : plainFor (⟨"com/example/substring_search/substringsearch/UnitScanner", "matched", "()I"⟩ : MethodName) = true := by first | exact plainFor_of_name (by first | (simp [plainName, overriddenIn]; done) | decide +kernel) | exact Jvm.Free.JP.mathPlain rfl (by decide +kernel) | decide +kernel
theorem ef_rm16 (m : MethodId) (q0 : Addr) : entryFrame m #[(.ref q0)] 1 = mkF m 0 #[rv q0] [] := by first | (simp [entryFrame, mkF, argsToLocals, Value.category]; done) | rfl
set_option maxRecDepth 65536 in
set_option maxHeartbeats 40000000 in
theorem rm16 (l : Launch) (Z : State) (a0 : Array Value) (hw : ∀ d ∈ tables_1, d.before a0 Z = true) (ws : List Jvm.Cond) (x0 : Addr) (u : Int32) (h0 : Heap) (F_matched_x0 : Fld Z h0 x0 "com/example/substring_search/substringsearch/UnitScanner" "matched" "I" (.int u)) :
    OwnC l Z (⟨"com/example/substring_search/substringsearch/UnitScanner", "matched", "()I"⟩ : MethodName) prog_11_method_3_code 1 (some .int) ws ({ frames := 0, cells := 0, slots := 0, locals := 0 } : Room) #[(.ref x0)] h0 (OwnPure (.int u) h0) := by
  refine own_entry pf_com_example_substring_search_substringsearch_UnitScanner_matched___I (fun m => ef_rm16 m x0) ?_
  intro p e s m below meth c T0 X0 hC e0
  obtain ⟨hx, hby, hml, hown, hnm, hret, hlk, hZ⟩ := hC
  refine own_go T0 m 1 #[rv x0] [(.ref x0)] (fun t k => XS.aloadN X0.here hx rfl (hb hby d16_0) rfl rfl k) ?_
  obtain ⟨T1, X1, e1, st1⟩ := getF X0 hx hZ hown (host := "") (Or.inl (own_w hw 130 rfl)) Via.refl e0 F_matched_x0 (g := (mkF m 1 #[rv x0] [(.ref x0)])) rfl rfl (hb hby d16_1)
  refine own_go T1 m 4 #[rv x0] [(.int u)] (st1) ?_
  refine own_retI X1 hx hlk hret (hb hby d16_4) (by decide) (by decide) ?_
  exact ⟨rfl, e1, rfl⟩
theorem d12_0 : decode prog_13_method_3_code 0 = .ok (.aload_n 0, 1) := by decide +kernel
theorem d12_1 : decode prog_13_method_3_code 1 = .ok (.getfield 7, 3) := by decide +kernel
theorem d12_4 : decode prog_13_method_3_code 4 = .ok (.arraylength, 1) := by decide +kernel
theorem d12_5 : decode prog_13_method_3_code 5 = .ok (.ireturn, 1) := by decide +kernel
theorem pf_com_example_substring_search_substringsearch_UnitSearch_patternLength___I : plainFor (⟨"com/example/substring_search/substringsearch/UnitSearch", "patternLength", "()I"⟩ : MethodName) = true := by first | exact plainFor_of_name (by first | (simp [plainName, overriddenIn]; done) | decide +kernel) | exact Jvm.Free.JP.mathPlain rfl (by decide +kernel) | decide +kernel
theorem ef_rm12 (m : MethodId) (q0 : Addr) : entryFrame m #[(.ref q0)] 1 = mkF m 0 #[rv q0] [] := by first | (simp [entryFrame, mkF, argsToLocals, Value.category]; done) | rfl
set_option maxRecDepth 65536 in
set_option maxHeartbeats 40000000 in
theorem rm12 (l : Launch) (Z : State) (a0 : Array Value) (hw : ∀ d ∈ tables_1, d.before a0 Z = true) (ws : List Jvm.Cond) (x0 : Addr) (pa : Addr) (kp : ClassId) (p0 : Int32) (h0 : Heap) (F_pattern_x0 : Fld Z h0 x0 "com/example/substring_search/substringsearch/UnitSearch" "pattern" "[I" (.ref pa)) (Vp : Arv Z h0 pa kp .int (1 : Int32) [(.int p0)] (.int 0)) :
    OwnC l Z (⟨"com/example/substring_search/substringsearch/UnitSearch", "patternLength", "()I"⟩ : MethodName) prog_13_method_3_code 1 (some .int) ws ({ frames := 0, cells := 0, slots := 0, locals := 0 } : Room) #[(.ref x0)] h0 (OwnPure (.int 1) h0) := by
  refine own_entry pf_com_example_substring_search_substringsearch_UnitSearch_patternLength___I (fun m => ef_rm12 m x0) ?_
  intro p e s m below meth c T0 X0 hC e0
  obtain ⟨hx, hby, hml, hown, hnm, hret, hlk, hZ⟩ := hC
  refine own_go T0 m 1 #[rv x0] [(.ref x0)] (fun t k => XS.aloadN X0.here hx rfl (hb hby d12_0) rfl rfl k) ?_
  obtain ⟨T1, X1, e1, st1⟩ := getF X0 hx hZ hown (host := "") (Or.inl (own_w hw 11 rfl)) Via.refl e0 F_pattern_x0 (g := (mkF m 1 #[rv x0] [(.ref x0)])) rfl rfl (hb hby d12_1)
  refine own_go T1 m 4 #[rv x0] [(.ref pa)] (st1) ?_
  refine own_go T1 m 5 #[rv x0] [(.int 1)] (own_alen X1 hx hZ e1 Vp (hb hby d12_4)) ?_
  refine own_retI X1 hx hlk hret (hb hby d12_5) (by decide) (by decide) ?_
  exact ⟨rfl, e1, rfl⟩
theorem d13_0 : decode prog_13_method_10_code 0 = .ok (.aload_n 1, 1) := by decide +kernel
theorem d13_1 : decode prog_13_method_10_code 1 = .ok (.invokevirtual 93, 3) := by decide +kernel
theorem d13_4 : decode prog_13_method_10_code 4 = .ok (.lookupswitch 28 #[(0, 38), (1, 53)], 28) := by decide +kernel
theorem d13_32 : decode prog_13_method_10_code 32 = .ok (.new 99, 3) := by decide +kernel
theorem d13_35 : decode prog_13_method_10_code 35 = .ok (.dup, 1) := by decide +kernel
theorem d13_36 : decode prog_13_method_10_code 36 = .ok (.aconst_null, 1) := by decide +kernel
theorem d13_37 : decode prog_13_method_10_code 37 = .ok (.aconst_null, 1) := by decide +kernel
theorem d13_38 : decode prog_13_method_10_code 38 = .ok (.invokespecial 101, 3) := by decide +kernel
theorem d13_41 : decode prog_13_method_10_code 41 = .ok (.athrow, 1) := by decide +kernel
theorem d13_42 : decode prog_13_method_10_code 42 = .ok (.aload_n 0, 1) := by decide +kernel
theorem d13_43 : decode prog_13_method_10_code 43 = .ok (.getfield 28, 3) := by decide +kernel
theorem d13_46 : decode prog_13_method_10_code 46 = .ok (.aload_n 0, 1) := by decide +kernel
theorem d13_47 : decode prog_13_method_10_code 47 = .ok (.getfield 7, 3) := by decide +kernel
theorem d13_50 : decode prog_13_method_10_code 50 = .ok (.arraylength, 1) := by decide +kernel
theorem d13_51 : decode prog_13_method_10_code 51 = .ok (.iconst 1, 1) := by decide +kernel
theorem d13_52 : decode prog_13_method_10_code 52 = .ok (.isub, 1) := by decide +kernel
theorem d13_53 : decode prog_13_method_10_code 53 = .ok (.iaload, 1) := by decide +kernel
theorem d13_54 : decode prog_13_method_10_code 54 = .ok (.goto 4, 3) := by decide +kernel
theorem d13_57 : decode prog_13_method_10_code 57 = .ok (.iconst 0, 1) := by decide +kernel
theorem d13_58 : decode prog_13_method_10_code 58 = .ok (.ireturn, 1) := by decide +kernel
theorem pf_com_example_substring_search_substringsearch_UnitSearch_matchedAfterAnOccurrence__Lcom_example_substring_search_substringsearch_UnitSearch_Occurrences__I : plainFor (⟨"com/example/substring_search/substringsearch/UnitSearch", "matchedAfterAnOccurrence", "(Lcom/example/substring_search/substringsearch/UnitSearch$Occurrences;)I"⟩ : MethodName) = true := by first | exact plainFor_of_name (by first | (simp [plainName, overriddenIn]; done) | decide +kernel) | exact Jvm.Free.JP.mathPlain rfl (by decide +kernel) | decide +kernel
theorem ef_rm13 (m : MethodId) (q0 : Addr) (q1 : Addr) : entryFrame m #[(.ref q0), (.ref q1)] 2 = mkF m 0 #[rv q0, rv q1] [] := by first | (simp [entryFrame, mkF, argsToLocals, Value.category]; done) | rfl
set_option maxRecDepth 65536 in
set_option maxHeartbeats 40000000 in
theorem rm13 (l : Launch) (Z : State) (a0 : Array Value) (hw : ∀ d ∈ tables_1, d.before a0 Z = true) (ws : List Jvm.Cond) (x0 : Addr) (x1 : Addr) (pa ta : Addr) (kp kt : ClassId) (p0 : Int32) (h0 : Heap) (F_pattern_x0 : Fld Z h0 x0 "com/example/substring_search/substringsearch/UnitSearch" "pattern" "[I" (.ref pa)) (F_table_x0 : Fld Z h0 x0 "com/example/substring_search/substringsearch/UnitSearch" "table" "[I" (.ref ta)) (Vp : Arv Z h0 pa kp .int (1 : Int32) [(.int p0)] (.int 0)) (Vt : Arv Z h0 ta kt .int (1 : Int32) [(.int 0)] (.int 0)) (E1 : Exa Z h0 x1 "com/example/substring_search/substringsearch/UnitSearch$Occurrences") (Fo : Fld Z h0 x1 "java/lang/Enum" "ordinal" "I" (.int 0)) :
    OwnC l Z (⟨"com/example/substring_search/substringsearch/UnitSearch", "matchedAfterAnOccurrence", "(Lcom/example/substring_search/substringsearch/UnitSearch$Occurrences;)I"⟩ : MethodName) prog_13_method_10_code 2 (some .int) ws ({ frames := 1, cells := 0, slots := 0, locals := 12 } : Room) #[(.ref x0), (.ref x1)] h0 (OwnPure (.int 0) h0) := by
  refine own_entry pf_com_example_substring_search_substringsearch_UnitSearch_matchedAfterAnOccurrence__Lcom_example_substring_search_substringsearch_UnitSearch_Occurrences__I (fun m => ef_rm13 m x0 x1) ?_
  intro p e s m below meth c T0 X0 hC e0
  obtain ⟨hx, hby, hml, hown, hnm, hret, hlk, hZ⟩ := hC
  refine own_go T0 m 1 #[rv x0, rv x1] [(.ref x1)] (fun t k => XS.aloadN X0.here hx rfl (hb hby d13_0) rfl rfl k) ?_
  obtain ⟨_, T1, L1, X1, ⟨rfl, e1, rfl⟩, st1⟩ := own_virtualUp X0 hx hZ (x := (⟨"com/example/substring_search/substringsearch/UnitSearch$Occurrences", "ordinal", "()I"⟩ : MethodName)) (y := (⟨"java/lang/Enum", "ordinal", "()I"⟩ : MethodName)) hown (own_w hw 107 rfl) (own_w hw 108 rfl) (own_w hw 109 rfl) (by decide) (own_w hw 111 rfl) (own_w hw 110 rfl) (own_w hw 112 rfl) (own_w hw 113 rfl) (rm14 l Z a0 hw [] x1 h0 Fo) e0 E1 0 (argsL := []) (rest := []) (Ls := #[rv x0, rv x1]) (by rw [hml]; rfl) (lenOf pd___I rfl) rfl rfl (Nat.le_of_eq rfl) (hb hby d13_1) (by decide) (by decide) (by decide) (by decide)
  replace X1 := own_nil X1
  refine own_go T1 m 4 #[rv x0, rv x1] [(.int 0)] (st1) ?_
  refine own_go T1 m 42 #[rv x0, rv x1] [] (X1.lookupswitchHit hx (g := (mkF m 4 #[rv x0, rv x1] [(.int 0)])) rfl rfl (hb hby d13_4) (by decide) (a := 0) (off := 38) (by rw [((by decide) : (0 : Int32) = (0 : Int32))]; rfl) (show (0 : Int) ≤ 4 + 38 from by decide)) ?_
  refine own_go T1 m 43 #[rv x0, rv x1] [(.ref x0)] (fun t k => XS.aloadN X1.here hx rfl (hb hby d13_42) rfl rfl k) ?_
  obtain ⟨T2, X2, e2, st2⟩ := getF X1 hx hZ hown (host := "") (Or.inl (own_w hw 39 rfl)) Via.refl e1 F_table_x0 (g := (mkF m 43 #[rv x0, rv x1] [(.ref x0)])) rfl rfl (hb hby d13_43)
  refine own_go T2 m 46 #[rv x0, rv x1] [(.ref ta)] (st2) ?_
  refine own_go T2 m 47 #[rv x0, rv x1] [(.ref x0), (.ref ta)] (fun t k => XS.aloadN X2.here hx rfl (hb hby d13_46) rfl rfl k) ?_
  obtain ⟨T3, X3, e3, st3⟩ := getF X2 hx hZ hown (host := "") (Or.inl (own_w hw 11 rfl)) Via.refl e2 F_pattern_x0 (g := (mkF m 47 #[rv x0, rv x1] [(.ref x0), (.ref ta)])) rfl rfl (hb hby d13_47)
  refine own_go T3 m 50 #[rv x0, rv x1] [(.ref pa), (.ref ta)] (st3) ?_
  refine own_go T3 m 51 #[rv x0, rv x1] [(.int 1), (.ref ta)] (own_alen X3 hx hZ e3 Vp (hb hby d13_50)) ?_
  refine own_go T3 m 52 #[rv x0, rv x1] [(.int 1), (.int 1), (.ref ta)] (fun t k => XS.iconst X3.here hx rfl (hb hby d13_51) k) ?_
  refine own_go T3 m 53 #[rv x0, rv x1] [(.int ((1 : Int32) - (1 : Int32))), (.ref ta)] (fun t k => XS.isub X3.here hx rfl (hb hby d13_52) rfl k) ?_
  rw [show ((1 : Int32) - (1 : Int32)) = (0 : Int32) from by decide]
  refine own_go T3 m 54 #[rv x0, rv x1] [(.int 0)] (own_iaload X3 hx hZ e3 Vt (j := (0 : Int32)) ⟨by decide, by decide⟩ rfl (hb hby d13_53)) ?_
  refine own_go T3 m 58 #[rv x0, rv x1] [(.int 0)] (fun t k => XS.goto X3.here hx rfl (pc0 := 54) (pc' := 58) rfl (hb hby d13_54) (by decide) (by decide) k) ?_
  refine own_retI X3 hx hlk hret (hb hby d13_58) (by decide) (by decide) ?_
  exact ⟨rfl, e3, rfl⟩
theorem d9_0 : decode jdk_65_method_123_code 0 = .ok (.iload_n 1, 1) := by decide +kernel
theorem d9_1 : decode jdk_65_method_123_code 1 = .ok (.aload_n 0, 1) := by decide +kernel
theorem d9_2 : decode jdk_65_method_123_code 2 = .ok (.arraylength, 1) := by decide +kernel
theorem d9_3 : decode jdk_65_method_123_code 3 = .ok (.if_icmp .ne 11, 3) := by decide +kernel
theorem d9_6 : decode jdk_65_method_123_code 6 = .ok (.aload_n 0, 1) := by decide +kernel
theorem d9_7 : decode jdk_65_method_123_code 7 = .ok (.invokevirtual 316, 3) := by decide +kernel
theorem d9_10 : decode jdk_65_method_123_code 10 = .ok (.checkcast 317, 3) := by decide +kernel
theorem d9_13 : decode jdk_65_method_123_code 13 = .ok (.areturn, 1) := by decide +kernel
theorem d9_14 : decode jdk_65_method_123_code 14 = .ok (.iload_n 1, 1) := by decide +kernel
theorem d9_15 : decode jdk_65_method_123_code 15 = .ok (.newarray .int, 2) := by decide +kernel
theorem d9_17 : decode jdk_65_method_123_code 17 = .ok (.astore_n 2, 1) := by decide +kernel
theorem d9_18 : decode jdk_65_method_123_code 18 = .ok (.aload_n 0, 1) := by decide +kernel
theorem d9_19 : decode jdk_65_method_123_code 19 = .ok (.iconst 0, 1) := by decide +kernel
theorem d9_20 : decode jdk_65_method_123_code 20 = .ok (.aload_n 2, 1) := by decide +kernel
theorem d9_21 : decode jdk_65_method_123_code 21 = .ok (.iconst 0, 1) := by decide +kernel
theorem d9_22 : decode jdk_65_method_123_code 22 = .ok (.aload_n 0, 1) := by decide +kernel
theorem d9_23 : decode jdk_65_method_123_code 23 = .ok (.arraylength, 1) := by decide +kernel
theorem d9_24 : decode jdk_65_method_123_code 24 = .ok (.iload_n 1, 1) := by decide +kernel
theorem d9_25 : decode jdk_65_method_123_code 25 = .ok (.invokestatic 304, 3) := by decide +kernel
theorem d9_28 : decode jdk_65_method_123_code 28 = .ok (.invokestatic 150, 3) := by decide +kernel
theorem d9_31 : decode jdk_65_method_123_code 31 = .ok (.aload_n 2, 1) := by decide +kernel
theorem d9_32 : decode jdk_65_method_123_code 32 = .ok (.areturn, 1) := by decide +kernel
theorem pf_java_util_Arrays_copyOf___II__I : plainFor (⟨"java/util/Arrays", "copyOf", "([II)[I"⟩ : MethodName) = true := by first | exact plainFor_of_name (by first | (simp [plainName, overriddenIn]; done) | decide +kernel) | exact Jvm.Free.JP.mathPlain rfl (by decide +kernel) | decide +kernel
theorem ef_rm9 (m : MethodId) (q0 : Addr) (q1 : Int32) : entryFrame m #[(.ref q0), (.int q1)] 3 = mkF m 0 #[rv q0, iv q1, .unset] [] := by first | (simp [entryFrame, mkF, argsToLocals, Value.category]; done) | rfl
set_option maxRecDepth 65536 in
set_option maxHeartbeats 40000000 in
theorem rm9 (l : Launch) (Z : State) (a0 : Array Value) (hw : ∀ d ∈ tables_1, d.before a0 Z = true) (ws : List Jvm.Cond) (x0 : Addr) (kx : ClassId) (h0 : Heap) (n0 : Nat) (Z0 : n0 ≤ h0.size) (Vx : Arv Z h0 x0 kx .int (8 : Int32) [(.int 0), (.int 0), (.int 0), (.int 0), (.int 0), (.int 0), (.int 0), (.int 0)] (.int 0)) :
    OwnC l Z (⟨"java/util/Arrays", "copyOf", "([II)[I"⟩ : MethodName) jdk_65_method_123_code 3 (some (.array .int)) ws ({ frames := 1, cells := 1, slots := 0, locals := 18 } : Room) #[(.ref x0), (.int 0)] h0 (fun v h L => ∃ r, v = some (.ref r) ∧ Keep h0 h [] ∧ Fr n0 L) := by
  refine own_entry pf_java_util_Arrays_copyOf___II__I (fun m => ef_rm9 m x0 (0 : Int32)) ?_
  intro p e s m below meth c T0 X0 hC e0
  obtain ⟨hx, hby, hml, hown, hnm, hret, hlk, hZ⟩ := hC
  have N0 := Fr.nil n0
  have K0 := Keep.refl h0 []
  refine own_go T0 m 1 #[rv x0, iv 0, .unset] [(.int 0)] (fun t k => XS.iloadN X0.here hx rfl (hb hby d9_0) rfl k) ?_
  refine own_go T0 m 2 #[rv x0, iv 0, .unset] [(.ref x0), (.int 0)] (fun t k => XS.aloadN X0.here hx rfl (hb hby d9_1) rfl rfl k) ?_
  refine own_go T0 m 3 #[rv x0, iv 0, .unset] [(.int 8), (.int 0)] (own_alen X0 hx hZ e0 Vx (hb hby d9_2)) ?_
  refine own_go T0 m 14 #[rv x0, iv 0, .unset] [] (fun t k => XS.icmpYes X0.here hx rfl (pc0 := 3) (pc' := 14) rfl (hb hby d9_3) rfl (feq (by decide)).2 (by decide) (by decide) k) ?_
  refine own_go T0 m 15 #[rv x0, iv 0, .unset] [(.int 0)] (fun t k => XS.iloadN X0.here hx rfl (hb hby d9_14) rfl k) ?_
  obtain ⟨T2, h2, k2, X2, e2, E2, A2, st2⟩ := newP X0 hx hZ (own_w hw 0 rfl) e0 (g := (mkF m 15 #[rv x0, iv 0, .unset] [(.int 0)])) rfl (hb hby d9_15) rfl (by decide) (cap := 0) (by decide) (by decide) (by decide) (by decide)
  obtain ⟨b2, g2⟩ : ∃ z, z = h0.size := ⟨_, rfl⟩
  rw [← g2] at A2 st2
  have ne_x0_b2 : x0 ≠ b2 := Nat.ne_of_lt (Nat.lt_of_lt_of_eq Vx.lt g2.symm)
  have g_b2 : n0 ≤ b2 := Nat.le_trans Z0 (Nat.le_of_eq g2.symm)
  have sz_b2 : h0.size ≤ b2 := Nat.le_trans K0.1 (Nat.le_of_eq g2.symm)
  have cf3 := Vx.ext E2
  have Z_2 : n0 ≤ h2.size := Nat.le_trans Z0 E2.1
  have K_2 : Keep h0 h2 [] := K0.ext E2
  have V_b2 : Arv Z h2 b2 k2 .int (0 : Int32) [] (.int 0) := (Arv.new A2 (by decide)).pad (pad_rep [] (.int 0) 0)
  refine own_go T2 m 17 #[rv x0, iv 0, .unset] [(.ref b2)] (st2) ?_
  refine own_go T2 m 18 #[rv x0, iv 0, rv b2] [] (fun t k => XS.astoreN X2.here hx rfl (hb hby d9_17) rfl rfl rfl k) ?_
  refine own_go T2 m 19 #[rv x0, iv 0, rv b2] [(.ref x0)] (fun t k => XS.aloadN X2.here hx rfl (hb hby d9_18) rfl rfl k) ?_
  refine own_go T2 m 20 #[rv x0, iv 0, rv b2] [(.int 0), (.ref x0)] (fun t k => XS.iconst X2.here hx rfl (hb hby d9_19) k) ?_
  refine own_go T2 m 21 #[rv x0, iv 0, rv b2] [(.ref b2), (.int 0), (.ref x0)] (fun t k => XS.aloadN X2.here hx rfl (hb hby d9_20) rfl rfl k) ?_
  refine own_go T2 m 22 #[rv x0, iv 0, rv b2] [(.int 0), (.ref b2), (.int 0), (.ref x0)] (fun t k => XS.iconst X2.here hx rfl (hb hby d9_21) k) ?_
  refine own_go T2 m 23 #[rv x0, iv 0, rv b2] [(.ref x0), (.int 0), (.ref b2), (.int 0), (.ref x0)] (fun t k => XS.aloadN X2.here hx rfl (hb hby d9_22) rfl rfl k) ?_
  refine own_go T2 m 24 #[rv x0, iv 0, rv b2] [(.int 8), (.int 0), (.ref b2), (.int 0), (.ref x0)] (own_alen X2 hx hZ e2 cf3 (hb hby d9_23)) ?_
  refine own_go T2 m 25 #[rv x0, iv 0, rv b2] [(.int 0), (.int 8), (.int 0), (.ref b2), (.int 0), (.ref x0)] (fun t k => XS.iloadN X2.here hx rfl (hb hby d9_24) rfl k) ?_
  obtain ⟨_, T5, L5, X5, ⟨rfl, e5, rfl⟩, st5⟩ := own_static X2 hx hZ (y := (⟨"java/lang/Math", "min", "(II)I"⟩ : MethodName)) hown (own_w hw 71 rfl) (own_w hw 72 rfl) (own_w hw 73 rfl) (own_w hw 74 rfl) (by decide) (rm10 l Z a0 hw [] h2) e2 4 (argsL := [(.int 8), (.int 0)]) (rest := [(.int 0), (.ref b2), (.int 0), (.ref x0)]) (Ls := #[rv x0, iv 0, rv b2]) (by rw [hml]; rfl) (lenOf pd__II_I rfl) rfl rfl (Nat.le_of_eq rfl) (hb hby d9_25) (by decide) (by decide) (by decide) (by decide)
  replace X5 := own_nil X5
  refine own_go T5 m 28 #[rv x0, iv 0, rv b2] [(.int 0), (.int 0), (.ref b2), (.int 0), (.ref x0)] (st5) ?_
  obtain ⟨T6, h6, L6, X6, e6, Nq6, Kq6, V6, st6⟩ := cpA X5 hx hZ hown (own_w hw 75 rfl) (own_w hw 78 rfl) (own_w hw 76 rfl) (own_w hw 77 rfl) e5 cf3 V_b2 (Or.inl ⟨rfl, rfl⟩) (sp := 0) (dp := 0) (nn := 0) (us := []) (by decide) (by decide) (by decide) (by decide) (by decide) rfl (by decide) N0 g_b2 (g := (mkF m 28 #[rv x0, iv 0, rv b2] [(.int 0), (.int 0), (.ref b2), (.int 0), (.ref x0)])) rfl (by rw [hml]; rfl) rfl (hb hby d9_28) (by decide) (W := 0) (by show 2 * 0 + _ ≤ _; exact Nat.le_of_eq rfl) (by decide)
  have cf7 := cf3.keep Kq6 (ninS ne_x0_b2 nin0)
  have Z_6 : n0 ≤ h6.size := Nat.le_trans Z_2 Kq6.1
  have K_6 : Keep h0 h6 [] := K_2.trans Kq6 (allS (Or.inr sz_b2) all0)
  refine own_go T6 m 31 #[rv x0, iv 0, rv b2] [] (st6) ?_
  refine own_go T6 m 32 #[rv x0, iv 0, rv b2] [(.ref b2)] (fun t k => XS.aloadN X6.here hx rfl (hb hby d9_31) rfl rfl k) ?_
  refine own_retA X6 hx hlk hret rfl rfl rfl (hb hby d9_32) (by decide) (by decide) ?_
  rw [e6]
  exact ⟨_, rfl, K_6, Nq6⟩
theorem d8_0 : decode prog_5_method_2_code 0 = .ok (.bipush 8, 2) := by decide +kernel
theorem d8_2 : decode prog_5_method_2_code 2 = .ok (.newarray .int, 2) := by decide +kernel
theorem d8_4 : decode prog_5_method_2_code 4 = .ok (.astore_n 2, 1) := by decide +kernel
theorem d8_5 : decode prog_5_method_2_code 5 = .ok (.iconst 0, 1) := by decide +kernel
theorem d8_6 : decode prog_5_method_2_code 6 = .ok (.istore_n 3, 1) := by decide +kernel
theorem d8_7 : decode prog_5_method_2_code 7 = .ok (.aload_n 0, 1) := by decide +kernel
theorem d8_8 : decode prog_5_method_2_code 8 = .ok (.arraylength, 1) := by decide +kernel
theorem d8_9 : decode prog_5_method_2_code 9 = .ok (.iconst 1, 1) := by decide +kernel
theorem d8_10 : decode prog_5_method_2_code 10 = .ok (.isub, 1) := by decide +kernel
theorem d8_11 : decode prog_5_method_2_code 11 = .ok (.istore 4, 2) := by decide +kernel
theorem d8_13 : decode prog_5_method_2_code 13 = .ok (.iload 4, 2) := by decide +kernel
theorem d8_15 : decode prog_5_method_2_code 15 = .ok (.iconst 3, 1) := by decide +kernel
theorem d8_16 : decode prog_5_method_2_code 16 = .ok (.if_icmp .lt 63, 3) := by decide +kernel
theorem d8_19 : decode prog_5_method_2_code 19 = .ok (.iload_n 3, 1) := by decide +kernel
theorem d8_20 : decode prog_5_method_2_code 20 = .ok (.bipush 8, 2) := by decide +kernel
theorem d8_22 : decode prog_5_method_2_code 22 = .ok (.if_icmp .ge 57, 3) := by decide +kernel
theorem d8_25 : decode prog_5_method_2_code 25 = .ok (.aload_n 1, 1) := by decide +kernel
theorem d8_26 : decode prog_5_method_2_code 26 = .ok (.iload 4, 2) := by decide +kernel
theorem d8_28 : decode prog_5_method_2_code 28 = .ok (.iconst 1, 1) := by decide +kernel
theorem d8_29 : decode prog_5_method_2_code 29 = .ok (.isub, 1) := by decide +kernel
theorem d8_30 : decode prog_5_method_2_code 30 = .ok (.iaload, 1) := by decide +kernel
theorem d8_31 : decode prog_5_method_2_code 31 = .ok (.istore 5, 2) := by decide +kernel
theorem d8_33 : decode prog_5_method_2_code 33 = .ok (.iload 5, 2) := by decide +kernel
theorem d8_35 : decode prog_5_method_2_code 35 = .ok (.iconst 2, 1) := by decide +kernel
theorem d8_36 : decode prog_5_method_2_code 36 = .ok (.if_icmp .lt 37, 3) := by decide +kernel
theorem d8_39 : decode prog_5_method_2_code 39 = .ok (.aload_n 0, 1) := by decide +kernel
theorem d8_40 : decode prog_5_method_2_code 40 = .ok (.iload 4, 2) := by decide +kernel
theorem d8_42 : decode prog_5_method_2_code 42 = .ok (.iaload, 1) := by decide +kernel
theorem d8_43 : decode prog_5_method_2_code 43 = .ok (.aload_n 0, 1) := by decide +kernel
theorem d8_44 : decode prog_5_method_2_code 44 = .ok (.iload 5, 2) := by decide +kernel
theorem d8_46 : decode prog_5_method_2_code 46 = .ok (.iaload, 1) := by decide +kernel
theorem d8_47 : decode prog_5_method_2_code 47 = .ok (.if_icmp .eq 26, 3) := by decide +kernel
theorem d8_50 : decode prog_5_method_2_code 50 = .ok (.aload_n 2, 1) := by decide +kernel
theorem d8_51 : decode prog_5_method_2_code 51 = .ok (.iload_n 3, 1) := by decide +kernel
theorem d8_52 : decode prog_5_method_2_code 52 = .ok (.aload_n 0, 1) := by decide +kernel
theorem d8_53 : decode prog_5_method_2_code 53 = .ok (.iload 4, 2) := by decide +kernel
theorem d8_55 : decode prog_5_method_2_code 55 = .ok (.iconst 2, 1) := by decide +kernel
theorem d8_56 : decode prog_5_method_2_code 56 = .ok (.isub, 1) := by decide +kernel
theorem d8_57 : decode prog_5_method_2_code 57 = .ok (.invokestatic 41, 3) := by decide +kernel
theorem d8_60 : decode prog_5_method_2_code 60 = .ok (.ifCond .ne 13, 3) := by decide +kernel
theorem d8_63 : decode prog_5_method_2_code 63 = .ok (.aload_n 2, 1) := by decide +kernel
theorem d8_64 : decode prog_5_method_2_code 64 = .ok (.iload_n 3, 1) := by decide +kernel
theorem d8_65 : decode prog_5_method_2_code 65 = .ok (.iinc 3 1, 3) := by decide +kernel
theorem d8_68 : decode prog_5_method_2_code 68 = .ok (.iload 4, 2) := by decide +kernel
theorem d8_70 : decode prog_5_method_2_code 70 = .ok (.iconst 2, 1) := by decide +kernel
theorem d8_71 : decode prog_5_method_2_code 71 = .ok (.isub, 1) := by decide +kernel
theorem d8_72 : decode prog_5_method_2_code 72 = .ok (.iastore, 1) := by decide +kernel
theorem d8_73 : decode prog_5_method_2_code 73 = .ok (.iinc 4 (-1), 3) := by decide +kernel
theorem d8_76 : decode prog_5_method_2_code 76 = .ok (.goto (-63), 3) := by decide +kernel
theorem d8_79 : decode prog_5_method_2_code 79 = .ok (.aload_n 2, 1) := by decide +kernel
theorem d8_80 : decode prog_5_method_2_code 80 = .ok (.iload_n 3, 1) := by decide +kernel
theorem d8_81 : decode prog_5_method_2_code 81 = .ok (.invokestatic 45, 3) := by decide +kernel
theorem d8_84 : decode prog_5_method_2_code 84 = .ok (.areturn, 1) := by decide +kernel
theorem pf_com_example_substring_search_substringsearch_StartScan_laterStarts___I_I__I : plainFor (⟨"com/example/substring_search/substringsearch/StartScan", "laterStarts", "([I[I)[I"⟩ : MethodName) = true := by first | exact plainFor_of_name (by first | (simp [plainName, overriddenIn]; done) | decide +kernel) | exact Jvm.Free.JP.mathPlain rfl (by decide +kernel) | decide +kernel
theorem ef_rm8 (m : MethodId) (q0 : Addr) (q1 : Addr) : entryFrame m #[(.ref q0), (.ref q1)] 6 = mkF m 0 #[rv q0, rv q1, .unset, .unset, .unset, .unset] [] := by first | (simp [entryFrame, mkF, argsToLocals, Value.category]; done) | rfl
set_option maxRecDepth 65536 in
set_option maxHeartbeats 40000000 in
theorem rm8 (l : Launch) (Z : State) (a0 : Array Value) (hw : ∀ d ∈ tables_1, d.before a0 Z = true) (ws : List Jvm.Cond) (x0 : Addr) (x1 : Addr) (kp : ClassId) (p0 : Int32) (h0 : Heap) (n0 : Nat) (Z0 : n0 ≤ h0.size) (Vp : Arv Z h0 x0 kp .int (1 : Int32) [(.int p0)] (.int 0)) :
    OwnC l Z (⟨"com/example/substring_search/substringsearch/StartScan", "laterStarts", "([I[I)[I"⟩ : MethodName) prog_5_method_2_code 6 (some (.array .int)) ws ({ frames := 2, cells := 2, slots := 8, locals := 32 } : Room) #[(.ref x0), (.ref x1)] h0 (fun v h L => ∃ r, v = some (.ref r) ∧ Keep h0 h [] ∧ Fr n0 L) := by
  refine own_entry pf_com_example_substring_search_substringsearch_StartScan_laterStarts___I_I__I (fun m => ef_rm8 m x0 x1) ?_
  intro p e s m below meth c T0 X0 hC e0
  obtain ⟨hx, hby, hml, hown, hnm, hret, hlk, hZ⟩ := hC
  have N0 := Fr.nil n0
  have K0 := Keep.refl h0 []
  refine own_go T0 m 2 #[rv x0, rv x1, .unset, .unset, .unset, .unset] [(.int 8)] (fun t k => XS.bipush X0.here hx rfl (hb hby d8_0) k) ?_
  obtain ⟨T1, h1, k1, X1, e1, E1, A1, st1⟩ := newP X0 hx hZ (own_w hw 0 rfl) e0 (g := (mkF m 2 #[rv x0, rv x1, .unset, .unset, .unset, .unset] [(.int 8)])) rfl (hb hby d8_2) rfl (by decide) (cap := 8) (by decide) (by decide) (by decide) (by decide)
  obtain ⟨b1, g1⟩ : ∃ z, z = h0.size := ⟨_, rfl⟩
  rw [← g1] at A1 st1
  have ne_x0_b1 : x0 ≠ b1 := Nat.ne_of_lt (Nat.lt_of_lt_of_eq Vp.lt g1.symm)
  have g_b1 : n0 ≤ b1 := Nat.le_trans Z0 (Nat.le_of_eq g1.symm)
  have sz_b1 : h0.size ≤ b1 := Nat.le_trans K0.1 (Nat.le_of_eq g1.symm)
  have cf2 := Vp.ext E1
  have Z_1 : n0 ≤ h1.size := Nat.le_trans Z0 E1.1
  have K_1 : Keep h0 h1 [] := K0.ext E1
  have V_b1 : Arv Z h1 b1 k1 .int (8 : Int32) [(.int 0), (.int 0), (.int 0), (.int 0), (.int 0), (.int 0), (.int 0), (.int 0)] (.int 0) := (Arv.new A1 (by decide)).pad (pad_rep [] (.int 0) 8)
  refine own_go T1 m 4 #[rv x0, rv x1, .unset, .unset, .unset, .unset] [(.ref b1)] (st1) ?_
  refine own_go T1 m 5 #[rv x0, rv x1, rv b1, .unset, .unset, .unset] [] (fun t k => XS.astoreN X1.here hx rfl (hb hby d8_4) rfl rfl rfl k) ?_
  refine own_go T1 m 6 #[rv x0, rv x1, rv b1, .unset, .unset, .unset] [(.int 0)] (fun t k => XS.iconst X1.here hx rfl (hb hby d8_5) k) ?_
  refine own_go T1 m 7 #[rv x0, rv x1, rv b1, iv 0, .unset, .unset] [] (fun t k => XS.istoreN X1.here hx rfl (hb hby d8_6) rfl rfl k) ?_
  refine own_go T1 m 8 #[rv x0, rv x1, rv b1, iv 0, .unset, .unset] [(.ref x0)] (fun t k => XS.aloadN X1.here hx rfl (hb hby d8_7) rfl rfl k) ?_
  refine own_go T1 m 9 #[rv x0, rv x1, rv b1, iv 0, .unset, .unset] [(.int 1)] (own_alen X1 hx hZ e1 cf2 (hb hby d8_8)) ?_
  refine own_go T1 m 10 #[rv x0, rv x1, rv b1, iv 0, .unset, .unset] [(.int 1), (.int 1)] (fun t k => XS.iconst X1.here hx rfl (hb hby d8_9) k) ?_
  refine own_go T1 m 11 #[rv x0, rv x1, rv b1, iv 0, .unset, .unset] [(.int ((1 : Int32) - (1 : Int32)))] (fun t k => XS.isub X1.here hx rfl (hb hby d8_10) rfl k) ?_
  rw [show ((1 : Int32) - (1 : Int32)) = (0 : Int32) from by decide]
  refine own_go T1 m 13 #[rv x0, rv x1, rv b1, iv 0, iv 0, .unset] [] (fun t k => XS.istore X1.here hx rfl (hb hby d8_11) rfl rfl k) ?_
  refine own_go T1 m 15 #[rv x0, rv x1, rv b1, iv 0, iv 0, .unset] [(.int 0)] (fun t k => XS.iload X1.here hx rfl (hb hby d8_13) rfl k) ?_
  refine own_go T1 m 16 #[rv x0, rv x1, rv b1, iv 0, iv 0, .unset] [(.int 3), (.int 0)] (fun t k => XS.iconst X1.here hx rfl (hb hby d8_15) k) ?_
  refine own_go T1 m 79 #[rv x0, rv x1, rv b1, iv 0, iv 0, .unset] [] (fun t k => XS.icmpYes X1.here hx rfl (pc0 := 16) (pc' := 79) rfl (hb hby d8_16) rfl (tlt (by decide)).1 (by decide) (by decide) k) ?_
  refine own_go T1 m 80 #[rv x0, rv x1, rv b1, iv 0, iv 0, .unset] [(.ref b1)] (fun t k => XS.aloadN X1.here hx rfl (hb hby d8_79) rfl rfl k) ?_
  refine own_go T1 m 81 #[rv x0, rv x1, rv b1, iv 0, iv 0, .unset] [(.int 0), (.ref b1)] (fun t k => XS.iloadN X1.here hx rfl (hb hby d8_80) rfl k) ?_
  obtain ⟨_, T4, L4, X4, ⟨r4, rfl, Kq4, Nq4⟩, st4⟩ := own_static X1 hx hZ (y := (⟨"java/util/Arrays", "copyOf", "([II)[I"⟩ : MethodName)) hown (own_w hw 67 rfl) (own_w hw 68 rfl) (own_w hw 69 rfl) (own_w hw 70 rfl) (by decide) (rm9 l Z a0 hw [] b1 k1 h1 n0 Z_1 V_b1) e1 0 (argsL := [(.ref b1), (.int 0)]) (rest := []) (Ls := #[rv x0, rv x1, rv b1, iv 0, iv 0, .unset]) (by rw [hml]; rfl) (lenOf pd___II__I rfl) rfl rfl (Nat.le_of_eq rfl) (hb hby d8_81) (by decide) (by decide) (by decide) (by decide)
  have N4 := Fr.app N0 Nq4
  have cf5 := cf2.keep Kq4 nin0
  have cf6 := V_b1.keep Kq4 nin0
  have Z_4 : n0 ≤ T4.heap.size := Nat.le_trans Z_1 Kq4.1
  have K_4 : Keep h0 T4.heap [] := K_1.trans Kq4 all0
  refine own_go T4 m 84 #[rv x0, rv x1, rv b1, iv 0, iv 0, .unset] [(.ref r4)] (st4) ?_
  refine own_retA X4 hx hlk hret rfl rfl rfl (hb hby d8_84) (by decide) (by decide) ?_
  exact ⟨_, rfl, K_4, N4⟩
theorem d5_0 : decode prog_4_method_2_code 0 = .ok (.aload_n 0, 1) := by decide +kernel
theorem d5_1 : decode prog_4_method_2_code 1 = .ok (.arraylength, 1) := by decide +kernel
theorem d5_2 : decode prog_4_method_2_code 2 = .ok (.newarray .int, 2) := by decide +kernel
theorem d5_4 : decode prog_4_method_2_code 4 = .ok (.astore_n 1, 1) := by decide +kernel
theorem d5_5 : decode prog_4_method_2_code 5 = .ok (.iconst 0, 1) := by decide +kernel
theorem d5_6 : decode prog_4_method_2_code 6 = .ok (.istore_n 2, 1) := by decide +kernel
theorem d5_7 : decode prog_4_method_2_code 7 = .ok (.iconst 1, 1) := by decide +kernel
theorem d5_8 : decode prog_4_method_2_code 8 = .ok (.istore_n 3, 1) := by decide +kernel
theorem d5_9 : decode prog_4_method_2_code 9 = .ok (.iload_n 3, 1) := by decide +kernel
theorem d5_10 : decode prog_4_method_2_code 10 = .ok (.aload_n 0, 1) := by decide +kernel
theorem d5_11 : decode prog_4_method_2_code 11 = .ok (.arraylength, 1) := by decide +kernel
theorem d5_12 : decode prog_4_method_2_code 12 = .ok (.if_icmp .ge 23, 3) := by decide +kernel
theorem d5_15 : decode prog_4_method_2_code 15 = .ok (.aload_n 1, 1) := by decide +kernel
theorem d5_16 : decode prog_4_method_2_code 16 = .ok (.aload_n 0, 1) := by decide +kernel
theorem d5_17 : decode prog_4_method_2_code 17 = .ok (.iload_n 2, 1) := by decide +kernel
theorem d5_18 : decode prog_4_method_2_code 18 = .ok (.aload_n 0, 1) := by decide +kernel
theorem d5_19 : decode prog_4_method_2_code 19 = .ok (.iload_n 3, 1) := by decide +kernel
theorem d5_20 : decode prog_4_method_2_code 20 = .ok (.iaload, 1) := by decide +kernel
theorem d5_21 : decode prog_4_method_2_code 21 = .ok (.invokestatic 7, 3) := by decide +kernel
theorem d5_24 : decode prog_4_method_2_code 24 = .ok (.istore_n 2, 1) := by decide +kernel
theorem d5_25 : decode prog_4_method_2_code 25 = .ok (.aload_n 1, 1) := by decide +kernel
theorem d5_26 : decode prog_4_method_2_code 26 = .ok (.iload_n 3, 1) := by decide +kernel
theorem d5_27 : decode prog_4_method_2_code 27 = .ok (.iload_n 2, 1) := by decide +kernel
theorem d5_28 : decode prog_4_method_2_code 28 = .ok (.iastore, 1) := by decide +kernel
theorem d5_29 : decode prog_4_method_2_code 29 = .ok (.iinc 3 1, 3) := by decide +kernel
theorem d5_32 : decode prog_4_method_2_code 32 = .ok (.goto (-23), 3) := by decide +kernel
theorem d5_35 : decode prog_4_method_2_code 35 = .ok (.aload_n 1, 1) := by decide +kernel
theorem d5_36 : decode prog_4_method_2_code 36 = .ok (.areturn, 1) := by decide +kernel
theorem pf_com_example_substring_search_substringsearch_PrefixTable_compute___I__I : plainFor (⟨"com/example/substring_search/substringsearch/PrefixTable", "compute", "([I)[I"⟩ : MethodName) = true := by first | exact plainFor_of_name (by first | (simp [plainName, overriddenIn]; done) | decide +kernel) | exact Jvm.Free.JP.mathPlain rfl (by decide +kernel) | decide +kernel
theorem ef_rm5 (m : MethodId) (q0 : Addr) : entryFrame m #[(.ref q0)] 4 = mkF m 0 #[rv q0, .unset, .unset, .unset] [] := by first | (simp [entryFrame, mkF, argsToLocals, Value.category]; done) | rfl
set_option maxRecDepth 65536 in
set_option maxHeartbeats 40000000 in
theorem rm5 (l : Launch) (Z : State) (a0 : Array Value) (hw : ∀ d ∈ tables_1, d.before a0 Z = true) (ws : List Jvm.Cond) (x0 : Addr) (kp : ClassId) (p0 : Int32) (h0 : Heap) (n0 : Nat) (Z0 : n0 ≤ h0.size) (Vp : Arv Z h0 x0 kp .int (1 : Int32) [(.int p0)] (.int 0)) :
    OwnC l Z (⟨"com/example/substring_search/substringsearch/PrefixTable", "compute", "([I)[I"⟩ : MethodName) prog_4_method_2_code 4 (some (.array .int)) ws ({ frames := 0, cells := 1, slots := 1, locals := 0 } : Room) #[(.ref x0)] h0 (fun v h L => ∃ t k, v = some (.ref t) ∧ h0.size ≤ t ∧ n0 ≤ t ∧ Arv Z h t k .int (1 : Int32) [(.int 0)] (.int 0) ∧ Keep h0 h [] ∧ Fr n0 L) := by
  refine own_entry pf_com_example_substring_search_substringsearch_PrefixTable_compute___I__I (fun m => ef_rm5 m x0) ?_
  intro p e s m below meth c T0 X0 hC e0
  obtain ⟨hx, hby, hml, hown, hnm, hret, hlk, hZ⟩ := hC
  have N0 := Fr.nil n0
  have K0 := Keep.refl h0 []
  refine own_go T0 m 1 #[rv x0, .unset, .unset, .unset] [(.ref x0)] (fun t k => XS.aloadN X0.here hx rfl (hb hby d5_0) rfl rfl k) ?_
  refine own_go T0 m 2 #[rv x0, .unset, .unset, .unset] [(.int 1)] (own_alen X0 hx hZ e0 Vp (hb hby d5_1)) ?_
  obtain ⟨T2, h2, k2, X2, e2, E2, A2, st2⟩ := newP X0 hx hZ (own_w hw 0 rfl) e0 (g := (mkF m 2 #[rv x0, .unset, .unset, .unset] [(.int 1)])) rfl (hb hby d5_2) rfl (by decide) (cap := 1) (by decide) (by decide) (by decide) (by decide)
  obtain ⟨b2, g2⟩ : ∃ z, z = h0.size := ⟨_, rfl⟩
  rw [← g2] at A2 st2
  have ne_x0_b2 : x0 ≠ b2 := Nat.ne_of_lt (Nat.lt_of_lt_of_eq Vp.lt g2.symm)
  have g_b2 : n0 ≤ b2 := Nat.le_trans Z0 (Nat.le_of_eq g2.symm)
  have sz_b2 : h0.size ≤ b2 := Nat.le_trans K0.1 (Nat.le_of_eq g2.symm)
  have cf3 := Vp.ext E2
  have Z_2 : n0 ≤ h2.size := Nat.le_trans Z0 E2.1
  have K_2 : Keep h0 h2 [] := K0.ext E2
  have V_b2 : Arv Z h2 b2 k2 .int (1 : Int32) [(.int 0)] (.int 0) := (Arv.new A2 (by decide)).pad (pad_rep [] (.int 0) 1)
  refine own_go T2 m 4 #[rv x0, .unset, .unset, .unset] [(.ref b2)] (st2) ?_
  refine own_go T2 m 5 #[rv x0, rv b2, .unset, .unset] [] (fun t k => XS.astoreN X2.here hx rfl (hb hby d5_4) rfl rfl rfl k) ?_
  refine own_go T2 m 6 #[rv x0, rv b2, .unset, .unset] [(.int 0)] (fun t k => XS.iconst X2.here hx rfl (hb hby d5_5) k) ?_
  refine own_go T2 m 7 #[rv x0, rv b2, iv 0, .unset] [] (fun t k => XS.istoreN X2.here hx rfl (hb hby d5_6) rfl rfl k) ?_
  refine own_go T2 m 8 #[rv x0, rv b2, iv 0, .unset] [(.int 1)] (fun t k => XS.iconst X2.here hx rfl (hb hby d5_7) k) ?_
  refine own_go T2 m 9 #[rv x0, rv b2, iv 0, iv 1] [] (fun t k => XS.istoreN X2.here hx rfl (hb hby d5_8) rfl rfl k) ?_
  refine own_go T2 m 10 #[rv x0, rv b2, iv 0, iv 1] [(.int 1)] (fun t k => XS.iloadN X2.here hx rfl (hb hby d5_9) rfl k) ?_
  refine own_go T2 m 11 #[rv x0, rv b2, iv 0, iv 1] [(.ref x0), (.int 1)] (fun t k => XS.aloadN X2.here hx rfl (hb hby d5_10) rfl rfl k) ?_
  refine own_go T2 m 12 #[rv x0, rv b2, iv 0, iv 1] [(.int 1), (.int 1)] (own_alen X2 hx hZ e2 cf3 (hb hby d5_11)) ?_
  refine own_go T2 m 35 #[rv x0, rv b2, iv 0, iv 1] [] (fun t k => XS.icmpYes X2.here hx rfl (pc0 := 12) (pc' := 35) rfl (hb hby d5_12) rfl (flt (by decide)).2.1 (by decide) (by decide) k) ?_
  refine own_go T2 m 36 #[rv x0, rv b2, iv 0, iv 1] [(.ref b2)] (fun t k => XS.aloadN X2.here hx rfl (hb hby d5_35) rfl rfl k) ?_
  refine own_retA X2 hx hlk hret rfl rfl rfl (hb hby d5_36) (by decide) (by decide) ?_
  rw [e2]
  exact ⟨b2, k2, rfl, sz_b2, g_b2, V_b2, K_2, N0⟩
theorem d4_0 : decode prog_26_method_1_code 0 = .ok (.aload_n 0, 1) := by decide +kernel
theorem d4_1 : decode prog_26_method_1_code 1 = .ok (.invokespecial 1, 3) := by decide +kernel
theorem d4_4 : decode prog_26_method_1_code 4 = .ok (.aload_n 0, 1) := by decide +kernel
theorem d4_5 : decode prog_26_method_1_code 5 = .ok (.iload_n 1, 1) := by decide +kernel
theorem d4_6 : decode prog_26_method_1_code 6 = .ok (.newarray .char, 2) := by decide +kernel
theorem d4_8 : decode prog_26_method_1_code 8 = .ok (.putfield 7, 3) := by decide +kernel
theorem d4_11 : decode prog_26_method_1_code 11 = .ok (.aload_n 0, 1) := by decide +kernel
theorem d4_12 : decode prog_26_method_1_code 12 = .ok (.iload_n 1, 1) := by decide +kernel
theorem d4_13 : decode prog_26_method_1_code 13 = .ok (.newarray .byte, 2) := by decide +kernel
theorem d4_15 : decode prog_26_method_1_code 15 = .ok (.putfield 13, 3) := by decide +kernel
theorem d4_18 : decode prog_26_method_1_code 18 = .ok (.return_, 1) := by decide +kernel
theorem pf_com_example_substring_search_substringsearch_Units__init___I_V : plainFor (⟨"com/example/substring_search/substringsearch/Units", "<init>", "(I)V"⟩ : MethodName) = true := by first | exact plainFor_of_name (by first | (simp [plainName, overriddenIn]; done) | decide +kernel) | exact Jvm.Free.JP.mathPlain rfl (by decide +kernel) | decide +kernel
theorem ef_rm4 (m : MethodId) (q0 : Addr) (q1 : Int32) : entryFrame m #[(.ref q0), (.int q1)] 2 = mkF m 0 #[rv q0, iv q1] [] := by first | (simp [entryFrame, mkF, argsToLocals, Value.category]; done) | rfl
set_option maxRecDepth 65536 in
set_option maxHeartbeats 40000000 in
theorem rm4 (l : Launch) (Z : State) (a0 : Array Value) (hw : ∀ d ∈ tables_1, d.before a0 Z = true) (ws : List Jvm.Cond) (x0 : Addr) (h0 : Heap) (n0 : Nat) (Z0 : n0 ≤ h0.size) (E_x0 : Exa Z h0 x0 "com/example/substring_search/substringsearch/Units") (g_x0 : n0 ≤ x0) (F_chars_x0 : Fld Z h0 x0 "com/example/substring_search/substringsearch/Units" "chars" "[C" .null) (F_bytes_x0 : Fld Z h0 x0 "com/example/substring_search/substringsearch/Units" "bytes" "[B" .null) (F_length_x0 : Fld Z h0 x0 "com/example/substring_search/substringsearch/Units" "length" "I" (.int 0)) (F_narrow_x0 : Fld Z h0 x0 "com/example/substring_search/substringsearch/Units" "narrow" "Z" (.int 0)) :
    OwnC l Z (⟨"com/example/substring_search/substringsearch/Units", "<init>", "(I)V"⟩ : MethodName) prog_26_method_1_code 2 none ws ({ frames := 1, cells := 2, slots := 2, locals := 12 } : Room) #[(.ref x0), (.int 1)] h0 (fun v h L => v = none ∧ Fr n0 L ∧ Keep h0 h [x0] ∧ Exa Z h x0 "com/example/substring_search/substringsearch/Units" ∧ Fld Z h x0 "com/example/substring_search/substringsearch/Units" "length" "I" (.int 0) ∧ Fld Z h x0 "com/example/substring_search/substringsearch/Units" "narrow" "Z" (.int 0) ∧ ∃ ca kc ba kb, (h0.size ≤ ca ∧ n0 ≤ ca) ∧ (h0.size ≤ ba ∧ n0 ≤ ba) ∧ ca ≠ ba ∧ Fld Z h x0 "com/example/substring_search/substringsearch/Units" "chars" "[C" (.ref ca) ∧ Arv Z h ca kc .char (1 : Int32) [(.int 0)] (.int 0) ∧ Fld Z h x0 "com/example/substring_search/substringsearch/Units" "bytes" "[B" (.ref ba) ∧ Arv Z h ba kb .byte (1 : Int32) [(.int 0)] (.int 0)) := by
  refine own_entry pf_com_example_substring_search_substringsearch_Units__init___I_V (fun m => ef_rm4 m x0 (1 : Int32)) ?_
  intro p e s m below meth c T0 X0 hC e0
  obtain ⟨hx, hby, hml, hown, hnm, hret, hlk, hZ⟩ := hC
  have N0 := Fr.nil n0
  have K0 := Keep.refl h0 [x0]
  refine own_go T0 m 1 #[rv x0, iv 1] [(.ref x0)] (fun t k => XS.aloadN X0.here hx rfl (hb hby d4_0) rfl rfl k) ?_
  obtain ⟨T1, X1, e1, st1⟩ := initO X0 hx hZ hown (own_w hw 22 rfl) (own_w hw 9 rfl) (own_w hw 10 rfl) e0 (g := (mkF m 1 #[rv x0, iv 1] [(.ref x0)])) rfl (by rw [hml]; rfl) rfl (hb hby d4_1) (by decide) (W := 0) (by show 2 * 0 + _ ≤ _; exact Nat.le_of_eq rfl) (by decide)
  refine own_go T1 m 4 #[rv x0, iv 1] [] (st1) ?_
  refine own_go T1 m 5 #[rv x0, iv 1] [(.ref x0)] (fun t k => XS.aloadN X1.here hx rfl (hb hby d4_4) rfl rfl k) ?_
  refine own_go T1 m 6 #[rv x0, iv 1] [(.int 1), (.ref x0)] (fun t k => XS.iloadN X1.here hx rfl (hb hby d4_5) rfl k) ?_
  obtain ⟨T2, h2, k2, X2, e2, E2, A2, st2⟩ := newP X1 hx hZ (own_w hw 23 rfl) e1 (g := (mkF m 6 #[rv x0, iv 1] [(.int 1), (.ref x0)])) rfl (hb hby d4_6) rfl (by decide) (cap := 1) (by decide) (by decide) (by decide) (by decide)
  obtain ⟨b2, g2⟩ : ∃ z, z = h0.size := ⟨_, rfl⟩
  rw [← g2] at A2 st2
  have ne_x0_b2 : x0 ≠ b2 := Nat.ne_of_lt (Nat.lt_of_lt_of_eq E_x0.lt g2.symm)
  have g_b2 : n0 ≤ b2 := Nat.le_trans Z0 (Nat.le_of_eq g2.symm)
  have sz_b2 : h0.size ≤ b2 := Nat.le_trans K0.1 (Nat.le_of_eq g2.symm)
  have cf3 := E_x0.ext E2
  have cf4 := F_chars_x0.ext E2
  have cf5 := F_bytes_x0.ext E2
  have cf6 := F_length_x0.ext E2
  have cf7 := F_narrow_x0.ext E2
  have Z_2 : n0 ≤ h2.size := Nat.le_trans Z0 E2.1
  have K_2 : Keep h0 h2 [x0] := K0.ext E2
  have V_b2 : Arv Z h2 b2 k2 .char (1 : Int32) [(.int 0)] (.int 0) := (Arv.new A2 (by decide)).pad (pad_rep [] (.int 0) 1)
  refine own_go T2 m 8 #[rv x0, iv 1] [(.ref b2), (.ref x0)] (st2) ?_
  obtain ⟨T8, h8, X8, e8, W8, st8⟩ := putF X2 hx hZ hown (host := "") (Or.inl (own_w hw 24 rfl)) Via.refl e2 cf4 cf3 (Or.inr ⟨(own_w hw 25 rfl), rfl, hnm⟩) (own_w hw 14 rfl) (ty := (.array .char)) (by decide) rfl rfl (g := (mkF m 8 #[rv x0, iv 1] [(.ref b2), (.ref x0)])) rfl rfl (hb hby d4_8)
  have F8 := cf4.same W8
  have cf9 := cf3.wr W8
  have cf10 := cf5.other W8 (Or.inr (slot_ne (Or.inr (own_w hw 28 rfl)) (Or.inr (own_w hw 25 rfl)) (by decide) (t := (.array .byte)) (t' := (.array .char)) (by decide) (by decide)))
  have cf11 := cf6.other W8 (Or.inr (slot_ne (Or.inl (own_w hw 30 rfl)) (Or.inr (own_w hw 25 rfl)) (by decide) (t := .int) (t' := (.array .char)) (by decide) (by decide)))
  have cf12 := cf7.other W8 (Or.inr (slot_ne (Or.inl (own_w hw 32 rfl)) (Or.inr (own_w hw 25 rfl)) (by decide) (t := .boolean) (t' := (.array .char)) (by decide) (by decide)))
  have cf13 := V_b2.other W8 (Ne.symm ne_x0_b2)
  have Z_8 : n0 ≤ h8.size := Nat.le_trans Z_2 (Keep.of_wr W8).1
  have K_8 : Keep h0 h8 [x0] := K_2.wr W8 (own_i 0 rfl)
  have N8 := Fr.snoc X8 N0 g_x0
  refine own_go T8 m 11 #[rv x0, iv 1] [] (st8) ?_
  refine own_go T8 m 12 #[rv x0, iv 1] [(.ref x0)] (fun t k => XS.aloadN X8.here hx rfl (hb hby d4_11) rfl rfl k) ?_
  refine own_go T8 m 13 #[rv x0, iv 1] [(.int 1), (.ref x0)] (fun t k => XS.iloadN X8.here hx rfl (hb hby d4_12) rfl k) ?_
  obtain ⟨T14, h14, k14, X14, e14, E14, A14, st14⟩ := newP X8 hx hZ (own_w hw 26 rfl) e8 (g := (mkF m 13 #[rv x0, iv 1] [(.int 1), (.ref x0)])) rfl (hb hby d4_13) rfl (by decide) (cap := 1) (by decide) (by decide) (by decide) (by decide)
  obtain ⟨b14, g14⟩ : ∃ z, z = h8.size := ⟨_, rfl⟩
  rw [← g14] at A14 st14
  have ne_x0_b14 : x0 ≠ b14 := Nat.ne_of_lt (Nat.lt_of_lt_of_eq cf9.lt g14.symm)
  have ne_b2_b14 : b2 ≠ b14 := Nat.ne_of_lt (Nat.lt_of_lt_of_eq cf13.lt g14.symm)
  have g_b14 : n0 ≤ b14 := Nat.le_trans Z_8 (Nat.le_of_eq g14.symm)
  have sz_b14 : h0.size ≤ b14 := Nat.le_trans K_8.1 (Nat.le_of_eq g14.symm)
  have cf15 := cf9.ext E14
  have cf16 := cf10.ext E14
  have cf17 := cf11.ext E14
  have cf18 := cf12.ext E14
  have cf19 := cf13.ext E14
  have cf20 := F8.ext E14
  have Z_14 : n0 ≤ h14.size := Nat.le_trans Z_8 E14.1
  have K_14 : Keep h0 h14 [x0] := K_8.ext E14
  have V_b14 : Arv Z h14 b14 k14 .byte (1 : Int32) [(.int 0)] (.int 0) := (Arv.new A14 (by decide)).pad (pad_rep [] (.int 0) 1)
  refine own_go T14 m 15 #[rv x0, iv 1] [(.ref b14), (.ref x0)] (st14) ?_
  obtain ⟨T21, h21, X21, e21, W21, st21⟩ := putF X14 hx hZ hown (host := "") (Or.inl (own_w hw 27 rfl)) Via.refl e14 cf16 cf15 (Or.inr ⟨(own_w hw 28 rfl), rfl, hnm⟩) (own_w hw 14 rfl) (ty := (.array .byte)) (by decide) rfl rfl (g := (mkF m 15 #[rv x0, iv 1] [(.ref b14), (.ref x0)])) rfl rfl (hb hby d4_15)
  have F21 := cf16.same W21
  have cf22 := cf15.wr W21
  have cf23 := cf17.other W21 (Or.inr (slot_ne (Or.inl (own_w hw 30 rfl)) (Or.inr (own_w hw 28 rfl)) (by decide) (t := .int) (t' := (.array .byte)) (by decide) (by decide)))
  have cf24 := cf18.other W21 (Or.inr (slot_ne (Or.inl (own_w hw 32 rfl)) (Or.inr (own_w hw 28 rfl)) (by decide) (t := .boolean) (t' := (.array .byte)) (by decide) (by decide)))
  have cf25 := cf19.other W21 (Ne.symm ne_x0_b2)
  have cf26 := cf20.other W21 (Or.inr (slot_ne (Or.inr (own_w hw 25 rfl)) (Or.inr (own_w hw 28 rfl)) (by decide) (t := (.array .char)) (t' := (.array .byte)) (by decide) (by decide)))
  have cf27 := V_b14.other W21 (Ne.symm ne_x0_b14)
  have Z_21 : n0 ≤ h21.size := Nat.le_trans Z_14 (Keep.of_wr W21).1
  have K_21 : Keep h0 h21 [x0] := K_14.wr W21 (own_i 0 rfl)
  have N21 := Fr.snoc X21 N8 g_x0
  refine own_go T21 m 18 #[rv x0, iv 1] [] (st21) ?_
  refine own_retV X21 hx hlk hret (hb hby d4_18) (by decide) (by decide) ?_
  rw [e21]
  exact ⟨rfl, N21, K_21, cf22, cf23, cf24, b2, k2, b14, k14, ⟨sz_b2, g_b2⟩, ⟨sz_b14, g_b14⟩, ne_b2_b14, cf26, cf25, F21, cf27⟩
theorem d3_0 : decode prog_26_method_2_code 0 = .ok (.aload_n 0, 1) := by decide +kernel
theorem d3_1 : decode prog_26_method_2_code 1 = .ok (.aload_n 1, 1) := by decide +kernel
theorem d3_2 : decode prog_26_method_2_code 2 = .ok (.arraylength, 1) := by decide +kernel
theorem d3_3 : decode prog_26_method_2_code 3 = .ok (.invokespecial 17, 3) := by decide +kernel
theorem d3_6 : decode prog_26_method_2_code 6 = .ok (.iconst 1, 1) := by decide +kernel
theorem d3_7 : decode prog_26_method_2_code 7 = .ok (.istore_n 2, 1) := by decide +kernel
theorem d3_8 : decode prog_26_method_2_code 8 = .ok (.iconst 0, 1) := by decide +kernel
theorem d3_9 : decode prog_26_method_2_code 9 = .ok (.istore_n 3, 1) := by decide +kernel
theorem d3_10 : decode prog_26_method_2_code 10 = .ok (.iload_n 3, 1) := by decide +kernel
theorem d3_11 : decode prog_26_method_2_code 11 = .ok (.aload_n 1, 1) := by decide +kernel
theorem d3_12 : decode prog_26_method_2_code 12 = .ok (.arraylength, 1) := by decide +kernel
theorem d3_13 : decode prog_26_method_2_code 13 = .ok (.if_icmp .ge 46, 3) := by decide +kernel
theorem d3_16 : decode prog_26_method_2_code 16 = .ok (.aload_n 0, 1) := by decide +kernel
theorem d3_17 : decode prog_26_method_2_code 17 = .ok (.getfield 7, 3) := by decide +kernel
theorem d3_20 : decode prog_26_method_2_code 20 = .ok (.iload_n 3, 1) := by decide +kernel
theorem d3_21 : decode prog_26_method_2_code 21 = .ok (.aload_n 1, 1) := by decide +kernel
theorem d3_22 : decode prog_26_method_2_code 22 = .ok (.iload_n 3, 1) := by decide +kernel
theorem d3_23 : decode prog_26_method_2_code 23 = .ok (.iaload, 1) := by decide +kernel
theorem d3_24 : decode prog_26_method_2_code 24 = .ok (.i2c, 1) := by decide +kernel
theorem d3_25 : decode prog_26_method_2_code 25 = .ok (.castore, 1) := by decide +kernel
theorem d3_26 : decode prog_26_method_2_code 26 = .ok (.aload_n 0, 1) := by decide +kernel
theorem d3_27 : decode prog_26_method_2_code 27 = .ok (.getfield 13, 3) := by decide +kernel
theorem d3_30 : decode prog_26_method_2_code 30 = .ok (.iload_n 3, 1) := by decide +kernel
theorem d3_31 : decode prog_26_method_2_code 31 = .ok (.aload_n 1, 1) := by decide +kernel
theorem d3_32 : decode prog_26_method_2_code 32 = .ok (.iload_n 3, 1) := by decide +kernel
theorem d3_33 : decode prog_26_method_2_code 33 = .ok (.iaload, 1) := by decide +kernel
theorem d3_34 : decode prog_26_method_2_code 34 = .ok (.i2b, 1) := by decide +kernel
theorem d3_35 : decode prog_26_method_2_code 35 = .ok (.bastore, 1) := by decide +kernel
theorem d3_36 : decode prog_26_method_2_code 36 = .ok (.iload_n 2, 1) := by decide +kernel
theorem d3_37 : decode prog_26_method_2_code 37 = .ok (.aload_n 1, 1) := by decide +kernel
theorem d3_38 : decode prog_26_method_2_code 38 = .ok (.iload_n 3, 1) := by decide +kernel
theorem d3_39 : decode prog_26_method_2_code 39 = .ok (.iaload, 1) := by decide +kernel
theorem d3_40 : decode prog_26_method_2_code 40 = .ok (.sipush 255, 3) := by decide +kernel
theorem d3_43 : decode prog_26_method_2_code 43 = .ok (.if_icmp .gt 7, 3) := by decide +kernel
theorem d3_46 : decode prog_26_method_2_code 46 = .ok (.iconst 1, 1) := by decide +kernel
theorem d3_47 : decode prog_26_method_2_code 47 = .ok (.goto 4, 3) := by decide +kernel
theorem d3_50 : decode prog_26_method_2_code 50 = .ok (.iconst 0, 1) := by decide +kernel
theorem d3_51 : decode prog_26_method_2_code 51 = .ok (.iand, 1) := by decide +kernel
theorem d3_52 : decode prog_26_method_2_code 52 = .ok (.istore_n 2, 1) := by decide +kernel
theorem d3_53 : decode prog_26_method_2_code 53 = .ok (.iinc 3 1, 3) := by decide +kernel
theorem d3_56 : decode prog_26_method_2_code 56 = .ok (.goto (-46), 3) := by decide +kernel
theorem d3_59 : decode prog_26_method_2_code 59 = .ok (.aload_n 0, 1) := by decide +kernel
theorem d3_60 : decode prog_26_method_2_code 60 = .ok (.aload_n 1, 1) := by decide +kernel
theorem d3_61 : decode prog_26_method_2_code 61 = .ok (.arraylength, 1) := by decide +kernel
theorem d3_62 : decode prog_26_method_2_code 62 = .ok (.putfield 20, 3) := by decide +kernel
theorem d3_65 : decode prog_26_method_2_code 65 = .ok (.aload_n 0, 1) := by decide +kernel
theorem d3_66 : decode prog_26_method_2_code 66 = .ok (.iload_n 2, 1) := by decide +kernel
theorem d3_67 : decode prog_26_method_2_code 67 = .ok (.putfield 24, 3) := by decide +kernel
theorem d3_70 : decode prog_26_method_2_code 70 = .ok (.return_, 1) := by decide +kernel
theorem pf_com_example_substring_search_substringsearch_Units__init____I_V : plainFor (⟨"com/example/substring_search/substringsearch/Units", "<init>", "([I)V"⟩ : MethodName) = true := by first | exact plainFor_of_name (by first | (simp [plainName, overriddenIn]; done) | decide +kernel) | exact Jvm.Free.JP.mathPlain rfl (by decide +kernel) | decide +kernel
theorem ef_rm3 (m : MethodId) (q0 : Addr) (q1 : Addr) : entryFrame m #[(.ref q0), (.ref q1)] 4 = mkF m 0 #[rv q0, rv q1, .unset, .unset] [] := by first | (simp [entryFrame, mkF, argsToLocals, Value.category]; done) | rfl
set_option maxRecDepth 65536 in
set_option maxHeartbeats 40000000 in
theorem rm3 (l : Launch) (Z : State) (a0 : Array Value) (hw : ∀ d ∈ tables_1, d.before a0 Z = true) (ws : List Jvm.Cond) (x0 : Addr) (x1 : Addr) (kp : ClassId) (p0 : Int32) (h0 : Heap) (n0 : Nat) (Z0 : n0 ≤ h0.size) (E_x0 : Exa Z h0 x0 "com/example/substring_search/substringsearch/Units") (g_x0 : n0 ≤ x0) (F_chars_x0 : Fld Z h0 x0 "com/example/substring_search/substringsearch/Units" "chars" "[C" .null) (F_bytes_x0 : Fld Z h0 x0 "com/example/substring_search/substringsearch/Units" "bytes" "[B" .null) (F_length_x0 : Fld Z h0 x0 "com/example/substring_search/substringsearch/Units" "length" "I" (.int 0)) (F_narrow_x0 : Fld Z h0 x0 "com/example/substring_search/substringsearch/Units" "narrow" "Z" (.int 0)) (ne01 : x0 ≠ x1) (Vp : Arv Z h0 x1 kp .int (1 : Int32) [(.int p0)] (.int 0)) :
    OwnC l Z (⟨"com/example/substring_search/substringsearch/Units", "<init>", "([I)V"⟩ : MethodName) prog_26_method_2_code 4 none ws ({ frames := 2, cells := 2, slots := 2, locals := 25 } : Room) #[(.ref x0), (.ref x1)] h0 (fun v h L => v = none ∧ Fr n0 L ∧ Keep h0 h [x0]) := by
  refine own_entry pf_com_example_substring_search_substringsearch_Units__init____I_V (fun m => ef_rm3 m x0 x1) ?_
  intro p e s m below meth c T0 X0 hC e0
  obtain ⟨hx, hby, hml, hown, hnm, hret, hlk, hZ⟩ := hC
  have N0 := Fr.nil n0
  have K0 := Keep.refl h0 [x0]
  refine own_go T0 m 1 #[rv x0, rv x1, .unset, .unset] [(.ref x0)] (fun t k => XS.aloadN X0.here hx rfl (hb hby d3_0) rfl rfl k) ?_
  refine own_go T0 m 2 #[rv x0, rv x1, .unset, .unset] [(.ref x1), (.ref x0)] (fun t k => XS.aloadN X0.here hx rfl (hb hby d3_1) rfl rfl k) ?_
  refine own_go T0 m 3 #[rv x0, rv x1, .unset, .unset] [(.int 1), (.ref x0)] (own_alen X0 hx hZ e0 Vp (hb hby d3_2)) ?_
  obtain ⟨_, T2, L2, X2, ⟨rfl, Nq2, Kq2, Aq2, Fl2, Fn2, ca2, kc2, ba2, kb2, sc2, sb2, nb2, Fc2, Vc2, Fb2, Vb2⟩, st2⟩ := own_init X0 hx hZ (y := (⟨"com/example/substring_search/substringsearch/Units", "<init>", "(I)V"⟩ : MethodName)) rfl hown (own_w hw 19 rfl) (own_w hw 20 rfl) (own_w hw 15 rfl) (own_w hw 21 rfl) (by decide) (rm4 l Z a0 hw [] x0 h0 n0 Z0 E_x0 g_x0 F_chars_x0 F_bytes_x0 F_length_x0 F_narrow_x0) e0 (a := x0) 0 (argsL := [(.int 1)]) (rest := []) (Ls := #[rv x0, rv x1, .unset, .unset]) (by rw [hml]; rfl) (lenOf pd__I_V rfl) rfl rfl (Nat.le_of_eq rfl) (hb hby d3_3) (by decide) (by decide) (by decide) (by decide)
  have g_ca2 : n0 ≤ ca2 := sc2.2
  have sz_ca2 : h0.size ≤ ca2 := Nat.le_trans K0.1 sc2.1
  have ne_x0_ca2 : x0 ≠ ca2 := Nat.ne_of_lt (Nat.lt_of_lt_of_le E_x0.lt sc2.1)
  have ne_x1_ca2 : x1 ≠ ca2 := Nat.ne_of_lt (Nat.lt_of_lt_of_le Vp.lt sc2.1)
  have g_ba2 : n0 ≤ ba2 := sb2.2
  have sz_ba2 : h0.size ≤ ba2 := Nat.le_trans K0.1 sb2.1
  have ne_x0_ba2 : x0 ≠ ba2 := Nat.ne_of_lt (Nat.lt_of_lt_of_le E_x0.lt sb2.1)
  have ne_x1_ba2 : x1 ≠ ba2 := Nat.ne_of_lt (Nat.lt_of_lt_of_le Vp.lt sb2.1)
  have N2 := Fr.app N0 Nq2
  have cf3 := E_x0.keep Kq2
  have cf4 := Vp.keep Kq2 (ninS (Ne.symm ne01) nin0)
  have Z_2 : n0 ≤ T2.heap.size := Nat.le_trans Z0 Kq2.1
  have K_2 : Keep h0 T2.heap [x0] := K0.trans Kq2 (allS (own_i 0 rfl) all0)
  refine own_go T2 m 6 #[rv x0, rv x1, .unset, .unset] [] (st2) ?_
  refine own_go T2 m 7 #[rv x0, rv x1, .unset, .unset] [(.int 1)] (fun t k => XS.iconst X2.here hx rfl (hb hby d3_6) k) ?_
  refine own_go T2 m 8 #[rv x0, rv x1, iv 1, .unset] [] (fun t k => XS.istoreN X2.here hx rfl (hb hby d3_7) rfl rfl k) ?_
  refine own_go T2 m 9 #[rv x0, rv x1, iv 1, .unset] [(.int 0)] (fun t k => XS.iconst X2.here hx rfl (hb hby d3_8) k) ?_
  refine own_go T2 m 10 #[rv x0, rv x1, iv 1, iv 0] [] (fun t k => XS.istoreN X2.here hx rfl (hb hby d3_9) rfl rfl k) ?_
  refine own_go T2 m 11 #[rv x0, rv x1, iv 1, iv 0] [(.int 0)] (fun t k => XS.iloadN X2.here hx rfl (hb hby d3_10) rfl k) ?_
  refine own_go T2 m 12 #[rv x0, rv x1, iv 1, iv 0] [(.ref x1), (.int 0)] (fun t k => XS.aloadN X2.here hx rfl (hb hby d3_11) rfl rfl k) ?_
  refine own_go T2 m 13 #[rv x0, rv x1, iv 1, iv 0] [(.int 1), (.int 0)] (own_alen X2 hx hZ rfl cf4 (hb hby d3_12)) ?_
  refine own_go T2 m 16 #[rv x0, rv x1, iv 1, iv 0] [] (fun t k => XS.icmpNo X2.here hx rfl (hb hby d3_13) rfl (tlt (by decide)).2.1 k) ?_
  refine own_go T2 m 17 #[rv x0, rv x1, iv 1, iv 0] [(.ref x0)] (fun t k => XS.aloadN X2.here hx rfl (hb hby d3_16) rfl rfl k) ?_
  obtain ⟨T6, X6, e6, st6⟩ := getF X2 hx hZ hown (host := "") (Or.inl (own_w hw 24 rfl)) Via.refl rfl Fc2 (g := (mkF m 17 #[rv x0, rv x1, iv 1, iv 0] [(.ref x0)])) rfl rfl (hb hby d3_17)
  refine own_go T6 m 20 #[rv x0, rv x1, iv 1, iv 0] [(.ref ca2)] (st6) ?_
  refine own_go T6 m 21 #[rv x0, rv x1, iv 1, iv 0] [(.int 0), (.ref ca2)] (fun t k => XS.iloadN X6.here hx rfl (hb hby d3_20) rfl k) ?_
  refine own_go T6 m 22 #[rv x0, rv x1, iv 1, iv 0] [(.ref x1), (.int 0), (.ref ca2)] (fun t k => XS.aloadN X6.here hx rfl (hb hby d3_21) rfl rfl k) ?_
  refine own_go T6 m 23 #[rv x0, rv x1, iv 1, iv 0] [(.int 0), (.ref x1), (.int 0), (.ref ca2)] (fun t k => XS.iloadN X6.here hx rfl (hb hby d3_22) rfl k) ?_
  refine own_go T6 m 24 #[rv x0, rv x1, iv 1, iv 0] [(.int p0), (.int 0), (.ref ca2)] (own_iaload X6 hx hZ e6 cf4 (j := (0 : Int32)) ⟨by decide, by decide⟩ rfl (hb hby d3_23)) ?_
  refine own_go T6 m 25 #[rv x0, rv x1, iv 1, iv 0] [(.int p0.toUInt32.toUInt16.toUInt32.toInt32), (.int 0), (.ref ca2)] (fun t k => XS.i2c X6.here hx rfl (hb hby d3_24) rfl k) ?_
  obtain ⟨T8, h8, X8, e8, W8, V8, st8⟩ := own_castore X6 hx hZ e6 Vc2 (j := (0 : Int32)) ⟨by decide, by decide⟩ 0 rfl (Nat.le_of_ble_eq_true rfl) (Ls := #[rv x0, rv x1, iv 1, iv 0]) (rest := []) (x := p0.toUInt32.toUInt16.toUInt32.toInt32) (hb hby d3_25)
  replace V8 : Arv Z h8 ca2 kc2 .char (1 : Int32) [(.int p0.toUInt32.toUInt16.toUInt32.toInt32.toUInt32.toUInt16.toUInt32.toInt32)] (.int 0) := V8
  have cf9 := Aq2.wr W8
  have cf10 := cf4.other W8 ne_x1_ca2
  have cf11 := Fl2.other W8 (Or.inl ne_x0_ca2)
  have cf12 := Fn2.other W8 (Or.inl ne_x0_ca2)
  have cf13 := Fc2.other W8 (Or.inl ne_x0_ca2)
  have cf14 := Fb2.other W8 (Or.inl ne_x0_ca2)
  have cf15 := Vb2.other W8 (Ne.symm nb2)
  have Z_8 : n0 ≤ h8.size := Nat.le_trans Z_2 (Keep.of_wr W8).1
  have K_8 : Keep h0 h8 [x0] := K_2.wr W8 (Or.inr sz_ca2)
  have N8 := Fr.snoc X8 N2 g_ca2
  refine own_go T8 m 26 #[rv x0, rv x1, iv 1, iv 0] [] (st8) ?_
  refine own_go T8 m 27 #[rv x0, rv x1, iv 1, iv 0] [(.ref x0)] (fun t k => XS.aloadN X8.here hx rfl (hb hby d3_26) rfl rfl k) ?_
  obtain ⟨T16, X16, e16, st16⟩ := getF X8 hx hZ hown (host := "") (Or.inl (own_w hw 27 rfl)) Via.refl e8 cf14 (g := (mkF m 27 #[rv x0, rv x1, iv 1, iv 0] [(.ref x0)])) rfl rfl (hb hby d3_27)
  refine own_go T16 m 30 #[rv x0, rv x1, iv 1, iv 0] [(.ref ba2)] (st16) ?_
  refine own_go T16 m 31 #[rv x0, rv x1, iv 1, iv 0] [(.int 0), (.ref ba2)] (fun t k => XS.iloadN X16.here hx rfl (hb hby d3_30) rfl k) ?_
  refine own_go T16 m 32 #[rv x0, rv x1, iv 1, iv 0] [(.ref x1), (.int 0), (.ref ba2)] (fun t k => XS.aloadN X16.here hx rfl (hb hby d3_31) rfl rfl k) ?_
  refine own_go T16 m 33 #[rv x0, rv x1, iv 1, iv 0] [(.int 0), (.ref x1), (.int 0), (.ref ba2)] (fun t k => XS.iloadN X16.here hx rfl (hb hby d3_32) rfl k) ?_
  refine own_go T16 m 34 #[rv x0, rv x1, iv 1, iv 0] [(.int p0), (.int 0), (.ref ba2)] (own_iaload X16 hx hZ e16 cf10 (j := (0 : Int32)) ⟨by decide, by decide⟩ rfl (hb hby d3_33)) ?_
  refine own_go T16 m 35 #[rv x0, rv x1, iv 1, iv 0] [(.int p0.toInt8.toInt32), (.int 0), (.ref ba2)] (fun t k => XS.i2b X16.here hx rfl (hb hby d3_34) rfl k) ?_
  obtain ⟨T18, h18, X18, e18, W18, V18, st18⟩ := own_bastore X16 hx hZ e16 cf15 (j := (0 : Int32)) ⟨by decide, by decide⟩ 0 rfl (Nat.le_of_ble_eq_true rfl) (Ls := #[rv x0, rv x1, iv 1, iv 0]) (rest := []) (x := p0.toInt8.toInt32) (hb hby d3_35)
  replace V18 : Arv Z h18 ba2 kb2 .byte (1 : Int32) [(.int p0.toInt8.toInt32.toInt8.toInt32)] (.int 0) := V18
  have cf19 := cf9.wr W18
  have cf20 := cf10.other W18 ne_x1_ba2
  have cf21 := cf11.other W18 (Or.inl ne_x0_ba2)
  have cf22 := cf12.other W18 (Or.inl ne_x0_ba2)
  have cf23 := cf13.other W18 (Or.inl ne_x0_ba2)
  have cf24 := cf14.other W18 (Or.inl ne_x0_ba2)
  have cf25 := V8.other W18 nb2
  have Z_18 : n0 ≤ h18.size := Nat.le_trans Z_8 (Keep.of_wr W18).1
  have K_18 : Keep h0 h18 [x0] := K_8.wr W18 (Or.inr sz_ba2)
  have N18 := Fr.snoc X18 N8 g_ba2
  refine own_go T18 m 36 #[rv x0, rv x1, iv 1, iv 0] [] (st18) ?_
  refine own_go T18 m 37 #[rv x0, rv x1, iv 1, iv 0] [(.int 1)] (fun t k => XS.iloadN X18.here hx rfl (hb hby d3_36) rfl k) ?_
  refine own_go T18 m 38 #[rv x0, rv x1, iv 1, iv 0] [(.ref x1), (.int 1)] (fun t k => XS.aloadN X18.here hx rfl (hb hby d3_37) rfl rfl k) ?_
  refine own_go T18 m 39 #[rv x0, rv x1, iv 1, iv 0] [(.int 0), (.ref x1), (.int 1)] (fun t k => XS.iloadN X18.here hx rfl (hb hby d3_38) rfl k) ?_
  refine own_go T18 m 40 #[rv x0, rv x1, iv 1, iv 0] [(.int p0), (.int 1)] (own_iaload X18 hx hZ e18 cf20 (j := (0 : Int32)) ⟨by decide, by decide⟩ rfl (hb hby d3_39)) ?_
  refine own_go T18 m 43 #[rv x0, rv x1, iv 1, iv 0] [(.int 255), (.int p0), (.int 1)] (fun t k => XS.sipush X18.here hx rfl (hb hby d3_40) k) ?_
  by_cases hc43_27 : (255 : Int32) < p0
  · refine own_go T18 m 50 #[rv x0, rv x1, iv 1, iv 0] [(.int 1)] (fun t k => XS.icmpYes X18.here hx rfl (pc0 := 43) (pc' := 50) rfl (hb hby d3_43) rfl (tlt hc43_27).2.2.1 (by decide) (by decide) k) ?_
    refine own_go T18 m 51 #[rv x0, rv x1, iv 1, iv 0] [(.int 0), (.int 1)] (fun t k => XS.iconst X18.here hx rfl (hb hby d3_50) k) ?_
    refine own_go T18 m 52 #[rv x0, rv x1, iv 1, iv 0] [(.int ((1 : Int32) &&& (0 : Int32)))] (fun t k => XS.iand X18.here hx rfl (hb hby d3_51) rfl k) ?_
    rw [show ((1 : Int32) &&& (0 : Int32)) = (0 : Int32) from by decide]
    refine own_go T18 m 53 #[rv x0, rv x1, iv 0, iv 0] [] (fun t k => XS.istoreN X18.here hx rfl (hb hby d3_52) rfl rfl k) ?_
    refine own_go T18 m 56 #[rv x0, rv x1, iv 0, iv ((0 : Int32) + (1 : Int32))] [] (fun t k => XS.iinc X18.here hx rfl (hb hby d3_53) rfl rfl k) ?_
    rw [show ((0 : Int32) + (1 : Int32)) = (1 : Int32) from by decide]
    refine own_go T18 m 10 #[rv x0, rv x1, iv 0, iv 1] [] (fun t k => XS.goto X18.here hx rfl (pc0 := 56) (pc' := 10) rfl (hb hby d3_56) (by decide) (by decide) k) ?_
    refine own_go T18 m 11 #[rv x0, rv x1, iv 0, iv 1] [(.int 1)] (fun t k => XS.iloadN X18.here hx rfl (hb hby d3_10) rfl k) ?_
    refine own_go T18 m 12 #[rv x0, rv x1, iv 0, iv 1] [(.ref x1), (.int 1)] (fun t k => XS.aloadN X18.here hx rfl (hb hby d3_11) rfl rfl k) ?_
    refine own_go T18 m 13 #[rv x0, rv x1, iv 0, iv 1] [(.int 1), (.int 1)] (own_alen X18 hx hZ e18 cf20 (hb hby d3_12)) ?_
    refine own_go T18 m 59 #[rv x0, rv x1, iv 0, iv 1] [] (fun t k => XS.icmpYes X18.here hx rfl (pc0 := 13) (pc' := 59) rfl (hb hby d3_13) rfl (flt (by decide)).2.1 (by decide) (by decide) k) ?_
    refine own_go T18 m 60 #[rv x0, rv x1, iv 0, iv 1] [(.ref x0)] (fun t k => XS.aloadN X18.here hx rfl (hb hby d3_59) rfl rfl k) ?_
    refine own_go T18 m 61 #[rv x0, rv x1, iv 0, iv 1] [(.ref x1), (.ref x0)] (fun t k => XS.aloadN X18.here hx rfl (hb hby d3_60) rfl rfl k) ?_
    refine own_go T18 m 62 #[rv x0, rv x1, iv 0, iv 1] [(.int 1), (.ref x0)] (own_alen X18 hx hZ e18 cf20 (hb hby d3_61)) ?_
    obtain ⟨T30, h30, X30, e30, W30, st30⟩ := putF X18 hx hZ hown (host := "") (Or.inl (own_w hw 29 rfl)) Via.refl e18 cf21 cf19 (Or.inl (own_w hw 30 rfl)) (own_w hw 14 rfl) (ty := .int) (by decide) rfl rfl (g := (mkF m 62 #[rv x0, rv x1, iv 0, iv 1] [(.int 1), (.ref x0)])) rfl rfl (hb hby d3_62)
    have F30 := cf21.same W30
    have cf31 := cf19.wr W30
    have cf32 := cf20.other W30 (Ne.symm ne01)
    have cf33 := cf22.other W30 (Or.inr (slot_ne (Or.inl (own_w hw 32 rfl)) (Or.inl (own_w hw 30 rfl)) (by decide) (t := .boolean) (t' := .int) (by decide) (by decide)))
    have cf34 := cf23.other W30 (Or.inr (slot_ne (Or.inr (own_w hw 25 rfl)) (Or.inl (own_w hw 30 rfl)) (by decide) (t := (.array .char)) (t' := .int) (by decide) (by decide)))
    have cf35 := cf24.other W30 (Or.inr (slot_ne (Or.inr (own_w hw 28 rfl)) (Or.inl (own_w hw 30 rfl)) (by decide) (t := (.array .byte)) (t' := .int) (by decide) (by decide)))
    have cf36 := cf25.other W30 (Ne.symm ne_x0_ca2)
    have cf37 := V18.other W30 (Ne.symm ne_x0_ba2)
    have Z_30 : n0 ≤ h30.size := Nat.le_trans Z_18 (Keep.of_wr W30).1
    have K_30 : Keep h0 h30 [x0] := K_18.wr W30 (own_i 0 rfl)
    have N30 := Fr.snoc X30 N18 g_x0
    refine own_go T30 m 65 #[rv x0, rv x1, iv 0, iv 1] [] (st30) ?_
    refine own_go T30 m 66 #[rv x0, rv x1, iv 0, iv 1] [(.ref x0)] (fun t k => XS.aloadN X30.here hx rfl (hb hby d3_65) rfl rfl k) ?_
    refine own_go T30 m 67 #[rv x0, rv x1, iv 0, iv 1] [(.int 0), (.ref x0)] (fun t k => XS.iloadN X30.here hx rfl (hb hby d3_66) rfl k) ?_
    obtain ⟨T38, h38, X38, e38, W38, st38⟩ := putF X30 hx hZ hown (host := "") (Or.inl (own_w hw 31 rfl)) Via.refl e30 cf33 cf31 (Or.inl (own_w hw 32 rfl)) (own_w hw 14 rfl) (ty := .boolean) (by decide) rfl rfl (g := (mkF m 67 #[rv x0, rv x1, iv 0, iv 1] [(.int 0), (.ref x0)])) rfl rfl (hb hby d3_67)
    have F38 := cf33.same W38
    have cf39 := cf31.wr W38
    have cf40 := cf32.other W38 (Ne.symm ne01)
    have cf41 := cf34.other W38 (Or.inr (slot_ne (Or.inr (own_w hw 25 rfl)) (Or.inl (own_w hw 32 rfl)) (by decide) (t := (.array .char)) (t' := .boolean) (by decide) (by decide)))
    have cf42 := cf35.other W38 (Or.inr (slot_ne (Or.inr (own_w hw 28 rfl)) (Or.inl (own_w hw 32 rfl)) (by decide) (t := (.array .byte)) (t' := .boolean) (by decide) (by decide)))
    have cf43 := cf36.other W38 (Ne.symm ne_x0_ca2)
    have cf44 := cf37.other W38 (Ne.symm ne_x0_ba2)
    have cf45 := F30.other W38 (Or.inr (slot_ne (Or.inl (own_w hw 30 rfl)) (Or.inl (own_w hw 32 rfl)) (by decide) (t := .int) (t' := .boolean) (by decide) (by decide)))
    have Z_38 : n0 ≤ h38.size := Nat.le_trans Z_30 (Keep.of_wr W38).1
    have K_38 : Keep h0 h38 [x0] := K_30.wr W38 (own_i 0 rfl)
    have N38 := Fr.snoc X38 N30 g_x0
    refine own_go T38 m 70 #[rv x0, rv x1, iv 0, iv 1] [] (st38) ?_
    refine own_retV X38 hx hlk hret (hb hby d3_70) (by decide) (by decide) ?_
    rw [e38]
    exact ⟨rfl, N38, K_38⟩
  · refine own_go T18 m 46 #[rv x0, rv x1, iv 1, iv 0] [(.int 1)] (fun t k => XS.icmpNo X18.here hx rfl (hb hby d3_43) rfl (flt hc43_27).2.2.1 k) ?_
    refine own_go T18 m 47 #[rv x0, rv x1, iv 1, iv 0] [(.int 1), (.int 1)] (fun t k => XS.iconst X18.here hx rfl (hb hby d3_46) k) ?_
    refine own_go T18 m 51 #[rv x0, rv x1, iv 1, iv 0] [(.int 1), (.int 1)] (fun t k => XS.goto X18.here hx rfl (pc0 := 47) (pc' := 51) rfl (hb hby d3_47) (by decide) (by decide) k) ?_
    refine own_go T18 m 52 #[rv x0, rv x1, iv 1, iv 0] [(.int ((1 : Int32) &&& (1 : Int32)))] (fun t k => XS.iand X18.here hx rfl (hb hby d3_51) rfl k) ?_
    rw [show ((1 : Int32) &&& (1 : Int32)) = (1 : Int32) from by decide]
    refine own_go T18 m 53 #[rv x0, rv x1, iv 1, iv 0] [] (fun t k => XS.istoreN X18.here hx rfl (hb hby d3_52) rfl rfl k) ?_
    refine own_go T18 m 56 #[rv x0, rv x1, iv 1, iv ((0 : Int32) + (1 : Int32))] [] (fun t k => XS.iinc X18.here hx rfl (hb hby d3_53) rfl rfl k) ?_
    rw [show ((0 : Int32) + (1 : Int32)) = (1 : Int32) from by decide]
    refine own_go T18 m 10 #[rv x0, rv x1, iv 1, iv 1] [] (fun t k => XS.goto X18.here hx rfl (pc0 := 56) (pc' := 10) rfl (hb hby d3_56) (by decide) (by decide) k) ?_
    refine own_go T18 m 11 #[rv x0, rv x1, iv 1, iv 1] [(.int 1)] (fun t k => XS.iloadN X18.here hx rfl (hb hby d3_10) rfl k) ?_
    refine own_go T18 m 12 #[rv x0, rv x1, iv 1, iv 1] [(.ref x1), (.int 1)] (fun t k => XS.aloadN X18.here hx rfl (hb hby d3_11) rfl rfl k) ?_
    refine own_go T18 m 13 #[rv x0, rv x1, iv 1, iv 1] [(.int 1), (.int 1)] (own_alen X18 hx hZ e18 cf20 (hb hby d3_12)) ?_
    refine own_go T18 m 59 #[rv x0, rv x1, iv 1, iv 1] [] (fun t k => XS.icmpYes X18.here hx rfl (pc0 := 13) (pc' := 59) rfl (hb hby d3_13) rfl (flt (by decide)).2.1 (by decide) (by decide) k) ?_
    refine own_go T18 m 60 #[rv x0, rv x1, iv 1, iv 1] [(.ref x0)] (fun t k => XS.aloadN X18.here hx rfl (hb hby d3_59) rfl rfl k) ?_
    refine own_go T18 m 61 #[rv x0, rv x1, iv 1, iv 1] [(.ref x1), (.ref x0)] (fun t k => XS.aloadN X18.here hx rfl (hb hby d3_60) rfl rfl k) ?_
    refine own_go T18 m 62 #[rv x0, rv x1, iv 1, iv 1] [(.int 1), (.ref x0)] (own_alen X18 hx hZ e18 cf20 (hb hby d3_61)) ?_
    obtain ⟨T48, h48, X48, e48, W48, st48⟩ := putF X18 hx hZ hown (host := "") (Or.inl (own_w hw 29 rfl)) Via.refl e18 cf21 cf19 (Or.inl (own_w hw 30 rfl)) (own_w hw 14 rfl) (ty := .int) (by decide) rfl rfl (g := (mkF m 62 #[rv x0, rv x1, iv 1, iv 1] [(.int 1), (.ref x0)])) rfl rfl (hb hby d3_62)
    have F48 := cf21.same W48
    have cf49 := cf19.wr W48
    have cf50 := cf20.other W48 (Ne.symm ne01)
    have cf51 := cf22.other W48 (Or.inr (slot_ne (Or.inl (own_w hw 32 rfl)) (Or.inl (own_w hw 30 rfl)) (by decide) (t := .boolean) (t' := .int) (by decide) (by decide)))
    have cf52 := cf23.other W48 (Or.inr (slot_ne (Or.inr (own_w hw 25 rfl)) (Or.inl (own_w hw 30 rfl)) (by decide) (t := (.array .char)) (t' := .int) (by decide) (by decide)))
    have cf53 := cf24.other W48 (Or.inr (slot_ne (Or.inr (own_w hw 28 rfl)) (Or.inl (own_w hw 30 rfl)) (by decide) (t := (.array .byte)) (t' := .int) (by decide) (by decide)))
    have cf54 := cf25.other W48 (Ne.symm ne_x0_ca2)
    have cf55 := V18.other W48 (Ne.symm ne_x0_ba2)
    have Z_48 : n0 ≤ h48.size := Nat.le_trans Z_18 (Keep.of_wr W48).1
    have K_48 : Keep h0 h48 [x0] := K_18.wr W48 (own_i 0 rfl)
    have N48 := Fr.snoc X48 N18 g_x0
    refine own_go T48 m 65 #[rv x0, rv x1, iv 1, iv 1] [] (st48) ?_
    refine own_go T48 m 66 #[rv x0, rv x1, iv 1, iv 1] [(.ref x0)] (fun t k => XS.aloadN X48.here hx rfl (hb hby d3_65) rfl rfl k) ?_
    refine own_go T48 m 67 #[rv x0, rv x1, iv 1, iv 1] [(.int 1), (.ref x0)] (fun t k => XS.iloadN X48.here hx rfl (hb hby d3_66) rfl k) ?_
    obtain ⟨T56, h56, X56, e56, W56, st56⟩ := putF X48 hx hZ hown (host := "") (Or.inl (own_w hw 31 rfl)) Via.refl e48 cf51 cf49 (Or.inl (own_w hw 32 rfl)) (own_w hw 14 rfl) (ty := .boolean) (by decide) rfl rfl (g := (mkF m 67 #[rv x0, rv x1, iv 1, iv 1] [(.int 1), (.ref x0)])) rfl rfl (hb hby d3_67)
    have F56 := cf51.same W56
    have cf57 := cf49.wr W56
    have cf58 := cf50.other W56 (Ne.symm ne01)
    have cf59 := cf52.other W56 (Or.inr (slot_ne (Or.inr (own_w hw 25 rfl)) (Or.inl (own_w hw 32 rfl)) (by decide) (t := (.array .char)) (t' := .boolean) (by decide) (by decide)))
    have cf60 := cf53.other W56 (Or.inr (slot_ne (Or.inr (own_w hw 28 rfl)) (Or.inl (own_w hw 32 rfl)) (by decide) (t := (.array .byte)) (t' := .boolean) (by decide) (by decide)))
    have cf61 := cf54.other W56 (Ne.symm ne_x0_ca2)
    have cf62 := cf55.other W56 (Ne.symm ne_x0_ba2)
    have cf63 := F48.other W56 (Or.inr (slot_ne (Or.inl (own_w hw 30 rfl)) (Or.inl (own_w hw 32 rfl)) (by decide) (t := .int) (t' := .boolean) (by decide) (by decide)))
    have Z_56 : n0 ≤ h56.size := Nat.le_trans Z_48 (Keep.of_wr W56).1
    have K_56 : Keep h0 h56 [x0] := K_48.wr W56 (own_i 0 rfl)
    have N56 := Fr.snoc X56 N48 g_x0
    refine own_go T56 m 70 #[rv x0, rv x1, iv 1, iv 1] [] (st56) ?_
    refine own_retV X56 hx hlk hret (hb hby d3_70) (by decide) (by decide) ?_
    rw [e56]
    exact ⟨rfl, N56, K_56⟩
theorem d6_0 : decode prog_5_method_1_code 0 = .ok (.aload_n 0, 1) := by decide +kernel
theorem d6_1 : decode prog_5_method_1_code 1 = .ok (.invokespecial 1, 3) := by decide +kernel
theorem d6_4 : decode prog_5_method_1_code 4 = .ok (.aload_n 0, 1) := by decide +kernel
theorem d6_5 : decode prog_5_method_1_code 5 = .ok (.aload_n 1, 1) := by decide +kernel
theorem d6_6 : decode prog_5_method_1_code 6 = .ok (.iconst 0, 1) := by decide +kernel
theorem d6_7 : decode prog_5_method_1_code 7 = .ok (.iaload, 1) := by decide +kernel
theorem d6_8 : decode prog_5_method_1_code 8 = .ok (.putfield 7, 3) := by decide +kernel
theorem d6_11 : decode prog_5_method_1_code 11 = .ok (.aload_n 0, 1) := by decide +kernel
theorem d6_12 : decode prog_5_method_1_code 12 = .ok (.aload_n 1, 1) := by decide +kernel
theorem d6_13 : decode prog_5_method_1_code 13 = .ok (.arraylength, 1) := by decide +kernel
theorem d6_14 : decode prog_5_method_1_code 14 = .ok (.iconst 3, 1) := by decide +kernel
theorem d6_15 : decode prog_5_method_1_code 15 = .ok (.if_icmp .lt 7, 3) := by decide +kernel
theorem d6_18 : decode prog_5_method_1_code 18 = .ok (.iconst 1, 1) := by decide +kernel
theorem d6_19 : decode prog_5_method_1_code 19 = .ok (.goto 4, 3) := by decide +kernel
theorem d6_22 : decode prog_5_method_1_code 22 = .ok (.iconst 0, 1) := by decide +kernel
theorem d6_23 : decode prog_5_method_1_code 23 = .ok (.putfield 13, 3) := by decide +kernel
theorem d6_26 : decode prog_5_method_1_code 26 = .ok (.aload_n 0, 1) := by decide +kernel
theorem d6_27 : decode prog_5_method_1_code 27 = .ok (.aload_n 1, 1) := by decide +kernel
theorem d6_28 : decode prog_5_method_1_code 28 = .ok (.iconst 0, 1) := by decide +kernel
theorem d6_29 : decode prog_5_method_1_code 29 = .ok (.iaload, 1) := by decide +kernel
theorem d6_30 : decode prog_5_method_1_code 30 = .ok (.invokestatic 17, 3) := by decide +kernel
theorem d6_33 : decode prog_5_method_1_code 33 = .ok (.putfield 21, 3) := by decide +kernel
theorem d6_36 : decode prog_5_method_1_code 36 = .ok (.aload_n 0, 1) := by decide +kernel
theorem d6_37 : decode prog_5_method_1_code 37 = .ok (.aload_n 0, 1) := by decide +kernel
theorem d6_38 : decode prog_5_method_1_code 38 = .ok (.getfield 13, 3) := by decide +kernel
theorem d6_41 : decode prog_5_method_1_code 41 = .ok (.ifCond .eq 12, 3) := by decide +kernel
theorem d6_44 : decode prog_5_method_1_code 44 = .ok (.aload_n 1, 1) := by decide +kernel
theorem d6_45 : decode prog_5_method_1_code 45 = .ok (.iconst 1, 1) := by decide +kernel
theorem d6_46 : decode prog_5_method_1_code 46 = .ok (.iaload, 1) := by decide +kernel
theorem d6_47 : decode prog_5_method_1_code 47 = .ok (.invokestatic 17, 3) := by decide +kernel
theorem d6_50 : decode prog_5_method_1_code 50 = .ok (.goto 7, 3) := by decide +kernel
theorem d6_53 : decode prog_5_method_1_code 53 = .ok (.aload_n 0, 1) := by decide +kernel
theorem d6_54 : decode prog_5_method_1_code 54 = .ok (.getfield 21, 3) := by decide +kernel
theorem d6_57 : decode prog_5_method_1_code 57 = .ok (.putfield 25, 3) := by decide +kernel
theorem d6_60 : decode prog_5_method_1_code 60 = .ok (.aload_n 0, 1) := by decide +kernel
theorem d6_61 : decode prog_5_method_1_code 61 = .ok (.aload_n 0, 1) := by decide +kernel
theorem d6_62 : decode prog_5_method_1_code 62 = .ok (.getfield 13, 3) := by decide +kernel
theorem d6_65 : decode prog_5_method_1_code 65 = .ok (.ifCond .eq 12, 3) := by decide +kernel
theorem d6_68 : decode prog_5_method_1_code 68 = .ok (.aload_n 1, 1) := by decide +kernel
theorem d6_69 : decode prog_5_method_1_code 69 = .ok (.iconst 2, 1) := by decide +kernel
theorem d6_70 : decode prog_5_method_1_code 70 = .ok (.iaload, 1) := by decide +kernel
theorem d6_71 : decode prog_5_method_1_code 71 = .ok (.invokestatic 17, 3) := by decide +kernel
theorem d6_74 : decode prog_5_method_1_code 74 = .ok (.goto 7, 3) := by decide +kernel
theorem d6_77 : decode prog_5_method_1_code 77 = .ok (.aload_n 0, 1) := by decide +kernel
theorem d6_78 : decode prog_5_method_1_code 78 = .ok (.getfield 21, 3) := by decide +kernel
theorem d6_81 : decode prog_5_method_1_code 81 = .ok (.putfield 28, 3) := by decide +kernel
theorem d6_84 : decode prog_5_method_1_code 84 = .ok (.aload_n 0, 1) := by decide +kernel
theorem d6_85 : decode prog_5_method_1_code 85 = .ok (.aload_n 1, 1) := by decide +kernel
theorem d6_86 : decode prog_5_method_1_code 86 = .ok (.putfield 31, 3) := by decide +kernel
theorem d6_89 : decode prog_5_method_1_code 89 = .ok (.aload_n 0, 1) := by decide +kernel
theorem d6_90 : decode prog_5_method_1_code 90 = .ok (.aload_n 1, 1) := by decide +kernel
theorem d6_91 : decode prog_5_method_1_code 91 = .ok (.aload_n 2, 1) := by decide +kernel
theorem d6_92 : decode prog_5_method_1_code 92 = .ok (.invokestatic 35, 3) := by decide +kernel
theorem d6_95 : decode prog_5_method_1_code 95 = .ok (.putfield 39, 3) := by decide +kernel
theorem d6_98 : decode prog_5_method_1_code 98 = .ok (.return_, 1) := by decide +kernel
theorem pf_com_example_substring_search_substringsearch_StartScan__init____I_I_V : plainFor (⟨"com/example/substring_search/substringsearch/StartScan", "<init>", "([I[I)V"⟩ : MethodName) = true := by first | exact plainFor_of_name (by first | (simp [plainName, overriddenIn]; done) | decide +kernel) | exact Jvm.Free.JP.mathPlain rfl (by decide +kernel) | decide +kernel
theorem ef_rm6 (m : MethodId) (q0 : Addr) (q1 : Addr) (q2 : Addr) : entryFrame m #[(.ref q0), (.ref q1), (.ref q2)] 3 = mkF m 0 #[rv q0, rv q1, rv q2] [] := by first | (simp [entryFrame, mkF, argsToLocals, Value.category]; done) | rfl
set_option maxRecDepth 65536 in
set_option maxHeartbeats 40000000 in
theorem rm6 (l : Launch) (Z : State) (a0 : Array Value) (hw : ∀ d ∈ tables_1, d.before a0 Z = true) (ws : List Jvm.Cond) (x0 : Addr) (x1 : Addr) (x2 : Addr) (kp : ClassId) (p0 : Int32) (h0 : Heap) (n0 : Nat) (Z0 : n0 ≤ h0.size) (E_x0 : Exa Z h0 x0 "com/example/substring_search/substringsearch/StartScan") (g_x0 : n0 ≤ x0) (F_first_x0 : Fld Z h0 x0 "com/example/substring_search/substringsearch/StartScan" "first" "I" (.int 0)) (F_threeUnits_x0 : Fld Z h0 x0 "com/example/substring_search/substringsearch/StartScan" "threeUnits" "Z" (.int 0)) (F_low0_x0 : Fld Z h0 x0 "com/example/substring_search/substringsearch/StartScan" "low0" "J" (.long 0)) (F_low1_x0 : Fld Z h0 x0 "com/example/substring_search/substringsearch/StartScan" "low1" "J" (.long 0)) (F_low2_x0 : Fld Z h0 x0 "com/example/substring_search/substringsearch/StartScan" "low2" "J" (.long 0)) (F_pattern_x0 : Fld Z h0 x0 "com/example/substring_search/substringsearch/StartScan" "pattern" "[I" .null) (F_laterStarts_x0 : Fld Z h0 x0 "com/example/substring_search/substringsearch/StartScan" "laterStarts" "[I" .null) (ne01 : x0 ≠ x1) (Vp : Arv Z h0 x1 kp .int (1 : Int32) [(.int p0)] (.int 0)) :
    OwnC l Z (⟨"com/example/substring_search/substringsearch/StartScan", "<init>", "([I[I)V"⟩ : MethodName) prog_5_method_1_code 3 none ws ({ frames := 3, cells := 2, slots := 8, locals := 50 } : Room) #[(.ref x0), (.ref x1), (.ref x2)] h0 (fun v h L => v = none ∧ Fr n0 L ∧ Keep h0 h [x0]) := by
  refine own_entry pf_com_example_substring_search_substringsearch_StartScan__init____I_I_V (fun m => ef_rm6 m x0 x1 x2) ?_
  intro p e s m below meth c T0 X0 hC e0
  obtain ⟨hx, hby, hml, hown, hnm, hret, hlk, hZ⟩ := hC
  have N0 := Fr.nil n0
  have K0 := Keep.refl h0 [x0]
  refine own_go T0 m 1 #[rv x0, rv x1, rv x2] [(.ref x0)] (fun t k => XS.aloadN X0.here hx rfl (hb hby d6_0) rfl rfl k) ?_
  obtain ⟨T1, X1, e1, st1⟩ := initO X0 hx hZ hown (own_w hw 47 rfl) (own_w hw 9 rfl) (own_w hw 10 rfl) e0 (g := (mkF m 1 #[rv x0, rv x1, rv x2] [(.ref x0)])) rfl (by rw [hml]; rfl) rfl (hb hby d6_1) (by decide) (W := 0) (by show 2 * 0 + _ ≤ _; exact Nat.le_of_eq rfl) (by decide)
  refine own_go T1 m 4 #[rv x0, rv x1, rv x2] [] (st1) ?_
  refine own_go T1 m 5 #[rv x0, rv x1, rv x2] [(.ref x0)] (fun t k => XS.aloadN X1.here hx rfl (hb hby d6_4) rfl rfl k) ?_
  refine own_go T1 m 6 #[rv x0, rv x1, rv x2] [(.ref x1), (.ref x0)] (fun t k => XS.aloadN X1.here hx rfl (hb hby d6_5) rfl rfl k) ?_
  refine own_go T1 m 7 #[rv x0, rv x1, rv x2] [(.int 0), (.ref x1), (.ref x0)] (fun t k => XS.iconst X1.here hx rfl (hb hby d6_6) k) ?_
  refine own_go T1 m 8 #[rv x0, rv x1, rv x2] [(.int p0), (.ref x0)] (own_iaload X1 hx hZ e1 Vp (j := (0 : Int32)) ⟨by decide, by decide⟩ rfl (hb hby d6_7)) ?_
  obtain ⟨T3, h3, X3, e3, W3, st3⟩ := putF X1 hx hZ hown (host := "") (Or.inl (own_w hw 48 rfl)) Via.refl e1 F_first_x0 E_x0 (Or.inr ⟨(own_w hw 49 rfl), rfl, hnm⟩) (own_w hw 42 rfl) (ty := .int) (by decide) rfl rfl (g := (mkF m 8 #[rv x0, rv x1, rv x2] [(.int p0), (.ref x0)])) rfl rfl (hb hby d6_8)
  have F3 := F_first_x0.same W3
  have cf4 := E_x0.wr W3
  have cf5 := F_threeUnits_x0.other W3 (Or.inr (slot_ne (Or.inr (own_w hw 51 rfl)) (Or.inr (own_w hw 49 rfl)) (by decide) (t := .boolean) (t' := .int) (by decide) (by decide)))
  have cf6 := F_low0_x0.other W3 (Or.inr (slot_ne (Or.inr (own_w hw 57 rfl)) (Or.inr (own_w hw 49 rfl)) (by decide) (t := .long) (t' := .int) (by decide) (by decide)))
  have cf7 := F_low1_x0.other W3 (Or.inr (slot_ne (Or.inr (own_w hw 59 rfl)) (Or.inr (own_w hw 49 rfl)) (by decide) (t := .long) (t' := .int) (by decide) (by decide)))
  have cf8 := F_low2_x0.other W3 (Or.inr (slot_ne (Or.inr (own_w hw 61 rfl)) (Or.inr (own_w hw 49 rfl)) (by decide) (t := .long) (t' := .int) (by decide) (by decide)))
  have cf9 := F_pattern_x0.other W3 (Or.inr (slot_ne (Or.inr (own_w hw 63 rfl)) (Or.inr (own_w hw 49 rfl)) (by decide) (t := (.array .int)) (t' := .int) (by decide) (by decide)))
  have cf10 := F_laterStarts_x0.other W3 (Or.inr (slot_ne (Or.inr (own_w hw 80 rfl)) (Or.inr (own_w hw 49 rfl)) (by decide) (t := (.array .int)) (t' := .int) (by decide) (by decide)))
  have cf11 := Vp.other W3 (Ne.symm ne01)
  have Z_3 : n0 ≤ h3.size := Nat.le_trans Z0 (Keep.of_wr W3).1
  have K_3 : Keep h0 h3 [x0] := K0.wr W3 (own_i 0 rfl)
  have N3 := Fr.snoc X3 N0 g_x0
  refine own_go T3 m 11 #[rv x0, rv x1, rv x2] [] (st3) ?_
  refine own_go T3 m 12 #[rv x0, rv x1, rv x2] [(.ref x0)] (fun t k => XS.aloadN X3.here hx rfl (hb hby d6_11) rfl rfl k) ?_
  refine own_go T3 m 13 #[rv x0, rv x1, rv x2] [(.ref x1), (.ref x0)] (fun t k => XS.aloadN X3.here hx rfl (hb hby d6_12) rfl rfl k) ?_
  refine own_go T3 m 14 #[rv x0, rv x1, rv x2] [(.int 1), (.ref x0)] (own_alen X3 hx hZ e3 cf11 (hb hby d6_13)) ?_
  refine own_go T3 m 15 #[rv x0, rv x1, rv x2] [(.int 3), (.int 1), (.ref x0)] (fun t k => XS.iconst X3.here hx rfl (hb hby d6_14) k) ?_
  refine own_go T3 m 22 #[rv x0, rv x1, rv x2] [(.ref x0)] (fun t k => XS.icmpYes X3.here hx rfl (pc0 := 15) (pc' := 22) rfl (hb hby d6_15) rfl (tlt (by decide)).1 (by decide) (by decide) k) ?_
  refine own_go T3 m 23 #[rv x0, rv x1, rv x2] [(.int 0), (.ref x0)] (fun t k => XS.iconst X3.here hx rfl (hb hby d6_22) k) ?_
  obtain ⟨T13, h13, X13, e13, W13, st13⟩ := putF X3 hx hZ hown (host := "") (Or.inl (own_w hw 50 rfl)) Via.refl e3 cf5 cf4 (Or.inr ⟨(own_w hw 51 rfl), rfl, hnm⟩) (own_w hw 42 rfl) (ty := .boolean) (by decide) rfl rfl (g := (mkF m 23 #[rv x0, rv x1, rv x2] [(.int 0), (.ref x0)])) rfl rfl (hb hby d6_23)
  have F13 := cf5.same W13
  have cf14 := cf4.wr W13
  have cf15 := cf6.other W13 (Or.inr (slot_ne (Or.inr (own_w hw 57 rfl)) (Or.inr (own_w hw 51 rfl)) (by decide) (t := .long) (t' := .boolean) (by decide) (by decide)))
  have cf16 := cf7.other W13 (Or.inr (slot_ne (Or.inr (own_w hw 59 rfl)) (Or.inr (own_w hw 51 rfl)) (by decide) (t := .long) (t' := .boolean) (by decide) (by decide)))
  have cf17 := cf8.other W13 (Or.inr (slot_ne (Or.inr (own_w hw 61 rfl)) (Or.inr (own_w hw 51 rfl)) (by decide) (t := .long) (t' := .boolean) (by decide) (by decide)))
  have cf18 := cf9.other W13 (Or.inr (slot_ne (Or.inr (own_w hw 63 rfl)) (Or.inr (own_w hw 51 rfl)) (by decide) (t := (.array .int)) (t' := .boolean) (by decide) (by decide)))
  have cf19 := cf10.other W13 (Or.inr (slot_ne (Or.inr (own_w hw 80 rfl)) (Or.inr (own_w hw 51 rfl)) (by decide) (t := (.array .int)) (t' := .boolean) (by decide) (by decide)))
  have cf20 := cf11.other W13 (Ne.symm ne01)
  have cf21 := F3.other W13 (Or.inr (slot_ne (Or.inr (own_w hw 49 rfl)) (Or.inr (own_w hw 51 rfl)) (by decide) (t := .int) (t' := .boolean) (by decide) (by decide)))
  have Z_13 : n0 ≤ h13.size := Nat.le_trans Z_3 (Keep.of_wr W13).1
  have K_13 : Keep h0 h13 [x0] := K_3.wr W13 (own_i 0 rfl)
  have N13 := Fr.snoc X13 N3 g_x0
  refine own_go T13 m 26 #[rv x0, rv x1, rv x2] [] (st13) ?_
  refine own_go T13 m 27 #[rv x0, rv x1, rv x2] [(.ref x0)] (fun t k => XS.aloadN X13.here hx rfl (hb hby d6_26) rfl rfl k) ?_
  refine own_go T13 m 28 #[rv x0, rv x1, rv x2] [(.ref x1), (.ref x0)] (fun t k => XS.aloadN X13.here hx rfl (hb hby d6_27) rfl rfl k) ?_
  refine own_go T13 m 29 #[rv x0, rv x1, rv x2] [(.int 0), (.ref x1), (.ref x0)] (fun t k => XS.iconst X13.here hx rfl (hb hby d6_28) k) ?_
  refine own_go T13 m 30 #[rv x0, rv x1, rv x2] [(.int p0), (.ref x0)] (own_iaload X13 hx hZ e13 cf20 (j := (0 : Int32)) ⟨by decide, by decide⟩ rfl (hb hby d6_29)) ?_
  obtain ⟨_, T23, L23, X23, ⟨⟨z23, rfl⟩, e23, rfl⟩, st23⟩ := own_static X13 hx hZ (y := (⟨"com/example/substring_search/substringsearch/StartScan", "lowByteInEveryByte", "(I)J"⟩ : MethodName)) hown (own_w hw 52 rfl) (own_w hw 53 rfl) (own_w hw 43 rfl) (own_w hw 54 rfl) (by decide) (rm7 l Z a0 hw [] p0 h13) e13 1 (argsL := [(.int p0)]) (rest := [(.ref x0)]) (Ls := #[rv x0, rv x1, rv x2]) (by rw [hml]; rfl) (lenOf pd__I_J rfl) rfl rfl (Nat.le_of_eq rfl) (hb hby d6_30) (by decide) (by decide) (by decide) (by decide)
  replace X23 := own_nil X23
  refine own_go T23 m 33 #[rv x0, rv x1, rv x2] [(.long z23), (.ref x0)] (st23) ?_
  obtain ⟨T24, h24, X24, e24, W24, st24⟩ := putF X23 hx hZ hown (host := "") (Or.inl (own_w hw 56 rfl)) Via.refl e23 cf15 cf14 (Or.inr ⟨(own_w hw 57 rfl), rfl, hnm⟩) (own_w hw 42 rfl) (ty := .long) (by decide) rfl rfl (g := (mkF m 33 #[rv x0, rv x1, rv x2] [(.long z23), (.ref x0)])) rfl rfl (hb hby d6_33)
  have F24 := cf15.same W24
  have cf25 := cf14.wr W24
  have cf26 := cf16.other W24 (Or.inr (slot_ne (Or.inr (own_w hw 59 rfl)) (Or.inr (own_w hw 57 rfl)) (by decide) (t := .long) (t' := .long) (by decide) (by decide)))
  have cf27 := cf17.other W24 (Or.inr (slot_ne (Or.inr (own_w hw 61 rfl)) (Or.inr (own_w hw 57 rfl)) (by decide) (t := .long) (t' := .long) (by decide) (by decide)))
  have cf28 := cf18.other W24 (Or.inr (slot_ne (Or.inr (own_w hw 63 rfl)) (Or.inr (own_w hw 57 rfl)) (by decide) (t := (.array .int)) (t' := .long) (by decide) (by decide)))
  have cf29 := cf19.other W24 (Or.inr (slot_ne (Or.inr (own_w hw 80 rfl)) (Or.inr (own_w hw 57 rfl)) (by decide) (t := (.array .int)) (t' := .long) (by decide) (by decide)))
  have cf30 := cf20.other W24 (Ne.symm ne01)
  have cf31 := cf21.other W24 (Or.inr (slot_ne (Or.inr (own_w hw 49 rfl)) (Or.inr (own_w hw 57 rfl)) (by decide) (t := .int) (t' := .long) (by decide) (by decide)))
  have cf32 := F13.other W24 (Or.inr (slot_ne (Or.inr (own_w hw 51 rfl)) (Or.inr (own_w hw 57 rfl)) (by decide) (t := .boolean) (t' := .long) (by decide) (by decide)))
  have Z_24 : n0 ≤ h24.size := Nat.le_trans Z_13 (Keep.of_wr W24).1
  have K_24 : Keep h0 h24 [x0] := K_13.wr W24 (own_i 0 rfl)
  have N24 := Fr.snoc X24 N13 g_x0
  refine own_go T24 m 36 #[rv x0, rv x1, rv x2] [] (st24) ?_
  refine own_go T24 m 37 #[rv x0, rv x1, rv x2] [(.ref x0)] (fun t k => XS.aloadN X24.here hx rfl (hb hby d6_36) rfl rfl k) ?_
  refine own_go T24 m 38 #[rv x0, rv x1, rv x2] [(.ref x0), (.ref x0)] (fun t k => XS.aloadN X24.here hx rfl (hb hby d6_37) rfl rfl k) ?_
  obtain ⟨T33, X33, e33, st33⟩ := getF X24 hx hZ hown (host := "") (Or.inl (own_w hw 50 rfl)) Via.refl e24 cf32 (g := (mkF m 38 #[rv x0, rv x1, rv x2] [(.ref x0), (.ref x0)])) rfl rfl (hb hby d6_38)
  refine own_go T33 m 41 #[rv x0, rv x1, rv x2] [(.int 0), (.ref x0)] (st33) ?_
  refine own_go T33 m 53 #[rv x0, rv x1, rv x2] [(.ref x0)] (fun t k => XS.ifYes X33.here hx rfl (pc0 := 41) (pc' := 53) rfl (hb hby d6_41) rfl ((if0 _ _).trans (teq (by decide)).1) (by decide) (by decide) k) ?_
  refine own_go T33 m 54 #[rv x0, rv x1, rv x2] [(.ref x0), (.ref x0)] (fun t k => XS.aloadN X33.here hx rfl (hb hby d6_53) rfl rfl k) ?_
  obtain ⟨T34, X34, e34, st34⟩ := getF X33 hx hZ hown (host := "") (Or.inl (own_w hw 56 rfl)) Via.refl e33 F24 (g := (mkF m 54 #[rv x0, rv x1, rv x2] [(.ref x0), (.ref x0)])) rfl rfl (hb hby d6_54)
  refine own_go T34 m 57 #[rv x0, rv x1, rv x2] [(.long z23), (.ref x0)] (st34) ?_
  obtain ⟨T35, h35, X35, e35, W35, st35⟩ := putF X34 hx hZ hown (host := "") (Or.inl (own_w hw 58 rfl)) Via.refl e34 cf26 cf25 (Or.inr ⟨(own_w hw 59 rfl), rfl, hnm⟩) (own_w hw 42 rfl) (ty := .long) (by decide) rfl rfl (g := (mkF m 57 #[rv x0, rv x1, rv x2] [(.long z23), (.ref x0)])) rfl rfl (hb hby d6_57)
  have F35 := cf26.same W35
  have cf36 := cf25.wr W35
  have cf37 := cf27.other W35 (Or.inr (slot_ne (Or.inr (own_w hw 61 rfl)) (Or.inr (own_w hw 59 rfl)) (by decide) (t := .long) (t' := .long) (by decide) (by decide)))
  have cf38 := cf28.other W35 (Or.inr (slot_ne (Or.inr (own_w hw 63 rfl)) (Or.inr (own_w hw 59 rfl)) (by decide) (t := (.array .int)) (t' := .long) (by decide) (by decide)))
  have cf39 := cf29.other W35 (Or.inr (slot_ne (Or.inr (own_w hw 80 rfl)) (Or.inr (own_w hw 59 rfl)) (by decide) (t := (.array .int)) (t' := .long) (by decide) (by decide)))
  have cf40 := cf30.other W35 (Ne.symm ne01)
  have cf41 := cf31.other W35 (Or.inr (slot_ne (Or.inr (own_w hw 49 rfl)) (Or.inr (own_w hw 59 rfl)) (by decide) (t := .int) (t' := .long) (by decide) (by decide)))
  have cf42 := cf32.other W35 (Or.inr (slot_ne (Or.inr (own_w hw 51 rfl)) (Or.inr (own_w hw 59 rfl)) (by decide) (t := .boolean) (t' := .long) (by decide) (by decide)))
  have cf43 := F24.other W35 (Or.inr (slot_ne (Or.inr (own_w hw 57 rfl)) (Or.inr (own_w hw 59 rfl)) (by decide) (t := .long) (t' := .long) (by decide) (by decide)))
  have Z_35 : n0 ≤ h35.size := Nat.le_trans Z_24 (Keep.of_wr W35).1
  have K_35 : Keep h0 h35 [x0] := K_24.wr W35 (own_i 0 rfl)
  have N35 := Fr.snoc X35 N24 g_x0
  refine own_go T35 m 60 #[rv x0, rv x1, rv x2] [] (st35) ?_
  refine own_go T35 m 61 #[rv x0, rv x1, rv x2] [(.ref x0)] (fun t k => XS.aloadN X35.here hx rfl (hb hby d6_60) rfl rfl k) ?_
  refine own_go T35 m 62 #[rv x0, rv x1, rv x2] [(.ref x0), (.ref x0)] (fun t k => XS.aloadN X35.here hx rfl (hb hby d6_61) rfl rfl k) ?_
  obtain ⟨T44, X44, e44, st44⟩ := getF X35 hx hZ hown (host := "") (Or.inl (own_w hw 50 rfl)) Via.refl e35 cf42 (g := (mkF m 62 #[rv x0, rv x1, rv x2] [(.ref x0), (.ref x0)])) rfl rfl (hb hby d6_62)
  refine own_go T44 m 65 #[rv x0, rv x1, rv x2] [(.int 0), (.ref x0)] (st44) ?_
  refine own_go T44 m 77 #[rv x0, rv x1, rv x2] [(.ref x0)] (fun t k => XS.ifYes X44.here hx rfl (pc0 := 65) (pc' := 77) rfl (hb hby d6_65) rfl ((if0 _ _).trans (teq (by decide)).1) (by decide) (by decide) k) ?_
  refine own_go T44 m 78 #[rv x0, rv x1, rv x2] [(.ref x0), (.ref x0)] (fun t k => XS.aloadN X44.here hx rfl (hb hby d6_77) rfl rfl k) ?_
  obtain ⟨T45, X45, e45, st45⟩ := getF X44 hx hZ hown (host := "") (Or.inl (own_w hw 56 rfl)) Via.refl e44 cf43 (g := (mkF m 78 #[rv x0, rv x1, rv x2] [(.ref x0), (.ref x0)])) rfl rfl (hb hby d6_78)
  refine own_go T45 m 81 #[rv x0, rv x1, rv x2] [(.long z23), (.ref x0)] (st45) ?_
  obtain ⟨T46, h46, X46, e46, W46, st46⟩ := putF X45 hx hZ hown (host := "") (Or.inl (own_w hw 60 rfl)) Via.refl e45 cf37 cf36 (Or.inr ⟨(own_w hw 61 rfl), rfl, hnm⟩) (own_w hw 42 rfl) (ty := .long) (by decide) rfl rfl (g := (mkF m 81 #[rv x0, rv x1, rv x2] [(.long z23), (.ref x0)])) rfl rfl (hb hby d6_81)
  have F46 := cf37.same W46
  have cf47 := cf36.wr W46
  have cf48 := cf38.other W46 (Or.inr (slot_ne (Or.inr (own_w hw 63 rfl)) (Or.inr (own_w hw 61 rfl)) (by decide) (t := (.array .int)) (t' := .long) (by decide) (by decide)))
  have cf49 := cf39.other W46 (Or.inr (slot_ne (Or.inr (own_w hw 80 rfl)) (Or.inr (own_w hw 61 rfl)) (by decide) (t := (.array .int)) (t' := .long) (by decide) (by decide)))
  have cf50 := cf40.other W46 (Ne.symm ne01)
  have cf51 := cf41.other W46 (Or.inr (slot_ne (Or.inr (own_w hw 49 rfl)) (Or.inr (own_w hw 61 rfl)) (by decide) (t := .int) (t' := .long) (by decide) (by decide)))
  have cf52 := cf42.other W46 (Or.inr (slot_ne (Or.inr (own_w hw 51 rfl)) (Or.inr (own_w hw 61 rfl)) (by decide) (t := .boolean) (t' := .long) (by decide) (by decide)))
  have cf53 := cf43.other W46 (Or.inr (slot_ne (Or.inr (own_w hw 57 rfl)) (Or.inr (own_w hw 61 rfl)) (by decide) (t := .long) (t' := .long) (by decide) (by decide)))
  have cf54 := F35.other W46 (Or.inr (slot_ne (Or.inr (own_w hw 59 rfl)) (Or.inr (own_w hw 61 rfl)) (by decide) (t := .long) (t' := .long) (by decide) (by decide)))
  have Z_46 : n0 ≤ h46.size := Nat.le_trans Z_35 (Keep.of_wr W46).1
  have K_46 : Keep h0 h46 [x0] := K_35.wr W46 (own_i 0 rfl)
  have N46 := Fr.snoc X46 N35 g_x0
  refine own_go T46 m 84 #[rv x0, rv x1, rv x2] [] (st46) ?_
  refine own_go T46 m 85 #[rv x0, rv x1, rv x2] [(.ref x0)] (fun t k => XS.aloadN X46.here hx rfl (hb hby d6_84) rfl rfl k) ?_
  refine own_go T46 m 86 #[rv x0, rv x1, rv x2] [(.ref x1), (.ref x0)] (fun t k => XS.aloadN X46.here hx rfl (hb hby d6_85) rfl rfl k) ?_
  obtain ⟨T55, h55, X55, e55, W55, st55⟩ := putF X46 hx hZ hown (host := "") (Or.inl (own_w hw 62 rfl)) Via.refl e46 cf48 cf47 (Or.inr ⟨(own_w hw 63 rfl), rfl, hnm⟩) (own_w hw 42 rfl) (ty := (.array .int)) (by decide) rfl rfl (g := (mkF m 86 #[rv x0, rv x1, rv x2] [(.ref x1), (.ref x0)])) rfl rfl (hb hby d6_86)
  have F55 := cf48.same W55
  have cf56 := cf47.wr W55
  have cf57 := cf49.other W55 (Or.inr (slot_ne (Or.inr (own_w hw 80 rfl)) (Or.inr (own_w hw 63 rfl)) (by decide) (t := (.array .int)) (t' := (.array .int)) (by decide) (by decide)))
  have cf58 := cf50.other W55 (Ne.symm ne01)
  have cf59 := cf51.other W55 (Or.inr (slot_ne (Or.inr (own_w hw 49 rfl)) (Or.inr (own_w hw 63 rfl)) (by decide) (t := .int) (t' := (.array .int)) (by decide) (by decide)))
  have cf60 := cf52.other W55 (Or.inr (slot_ne (Or.inr (own_w hw 51 rfl)) (Or.inr (own_w hw 63 rfl)) (by decide) (t := .boolean) (t' := (.array .int)) (by decide) (by decide)))
  have cf61 := cf53.other W55 (Or.inr (slot_ne (Or.inr (own_w hw 57 rfl)) (Or.inr (own_w hw 63 rfl)) (by decide) (t := .long) (t' := (.array .int)) (by decide) (by decide)))
  have cf62 := cf54.other W55 (Or.inr (slot_ne (Or.inr (own_w hw 59 rfl)) (Or.inr (own_w hw 63 rfl)) (by decide) (t := .long) (t' := (.array .int)) (by decide) (by decide)))
  have cf63 := F46.other W55 (Or.inr (slot_ne (Or.inr (own_w hw 61 rfl)) (Or.inr (own_w hw 63 rfl)) (by decide) (t := .long) (t' := (.array .int)) (by decide) (by decide)))
  have Z_55 : n0 ≤ h55.size := Nat.le_trans Z_46 (Keep.of_wr W55).1
  have K_55 : Keep h0 h55 [x0] := K_46.wr W55 (own_i 0 rfl)
  have N55 := Fr.snoc X55 N46 g_x0
  refine own_go T55 m 89 #[rv x0, rv x1, rv x2] [] (st55) ?_
  refine own_go T55 m 90 #[rv x0, rv x1, rv x2] [(.ref x0)] (fun t k => XS.aloadN X55.here hx rfl (hb hby d6_89) rfl rfl k) ?_
  refine own_go T55 m 91 #[rv x0, rv x1, rv x2] [(.ref x1), (.ref x0)] (fun t k => XS.aloadN X55.here hx rfl (hb hby d6_90) rfl rfl k) ?_
  refine own_go T55 m 92 #[rv x0, rv x1, rv x2] [(.ref x2), (.ref x1), (.ref x0)] (fun t k => XS.aloadN X55.here hx rfl (hb hby d6_91) rfl rfl k) ?_
  obtain ⟨_, T64, L64, X64, ⟨r64, rfl, Kq64, Nq64⟩, st64⟩ := own_static X55 hx hZ (y := (⟨"com/example/substring_search/substringsearch/StartScan", "laterStarts", "([I[I)[I"⟩ : MethodName)) hown (own_w hw 64 rfl) (own_w hw 65 rfl) (own_w hw 43 rfl) (own_w hw 66 rfl) (by decide) (rm8 l Z a0 hw [] x1 x2 kp p0 h55 n0 Z_55 cf58) e55 1 (argsL := [(.ref x1), (.ref x2)]) (rest := [(.ref x0)]) (Ls := #[rv x0, rv x1, rv x2]) (by rw [hml]; rfl) (lenOf pd___I_I__I rfl) rfl rfl (Nat.le_of_eq rfl) (hb hby d6_92) (by decide) (by decide) (by decide) (by decide)
  have N64 := Fr.app N55 Nq64
  have cf65 := cf56.keep Kq64
  have cf66 := cf57.keep Kq64 nin0
  have cf67 := cf58.keep Kq64 nin0
  have cf68 := cf59.keep Kq64 nin0
  have cf69 := cf60.keep Kq64 nin0
  have cf70 := cf61.keep Kq64 nin0
  have cf71 := cf62.keep Kq64 nin0
  have cf72 := cf63.keep Kq64 nin0
  have cf73 := F55.keep Kq64 nin0
  have Z_64 : n0 ≤ T64.heap.size := Nat.le_trans Z_55 Kq64.1
  have K_64 : Keep h0 T64.heap [x0] := K_55.trans Kq64 all0
  refine own_go T64 m 95 #[rv x0, rv x1, rv x2] [(.ref r64), (.ref x0)] (st64) ?_
  obtain ⟨T74, h74, X74, e74, W74, st74⟩ := putF X64 hx hZ hown (host := "") (Or.inl (own_w hw 79 rfl)) Via.refl rfl cf66 cf65 (Or.inr ⟨(own_w hw 80 rfl), rfl, hnm⟩) (own_w hw 42 rfl) (ty := (.array .int)) (by decide) rfl rfl (g := (mkF m 95 #[rv x0, rv x1, rv x2] [(.ref r64), (.ref x0)])) rfl rfl (hb hby d6_95)
  have F74 := cf66.same W74
  have cf75 := cf65.wr W74
  have cf76 := cf67.other W74 (Ne.symm ne01)
  have cf77 := cf68.other W74 (Or.inr (slot_ne (Or.inr (own_w hw 49 rfl)) (Or.inr (own_w hw 80 rfl)) (by decide) (t := .int) (t' := (.array .int)) (by decide) (by decide)))
  have cf78 := cf69.other W74 (Or.inr (slot_ne (Or.inr (own_w hw 51 rfl)) (Or.inr (own_w hw 80 rfl)) (by decide) (t := .boolean) (t' := (.array .int)) (by decide) (by decide)))
  have cf79 := cf70.other W74 (Or.inr (slot_ne (Or.inr (own_w hw 57 rfl)) (Or.inr (own_w hw 80 rfl)) (by decide) (t := .long) (t' := (.array .int)) (by decide) (by decide)))
  have cf80 := cf71.other W74 (Or.inr (slot_ne (Or.inr (own_w hw 59 rfl)) (Or.inr (own_w hw 80 rfl)) (by decide) (t := .long) (t' := (.array .int)) (by decide) (by decide)))
  have cf81 := cf72.other W74 (Or.inr (slot_ne (Or.inr (own_w hw 61 rfl)) (Or.inr (own_w hw 80 rfl)) (by decide) (t := .long) (t' := (.array .int)) (by decide) (by decide)))
  have cf82 := cf73.other W74 (Or.inr (slot_ne (Or.inr (own_w hw 63 rfl)) (Or.inr (own_w hw 80 rfl)) (by decide) (t := (.array .int)) (t' := (.array .int)) (by decide) (by decide)))
  have Z_74 : n0 ≤ h74.size := Nat.le_trans Z_64 (Keep.of_wr W74).1
  have K_74 : Keep h0 h74 [x0] := K_64.wr W74 (own_i 0 rfl)
  have N74 := Fr.snoc X74 N64 g_x0
  refine own_go T74 m 98 #[rv x0, rv x1, rv x2] [] (st74) ?_
  refine own_retV X74 hx hlk hret (hb hby d6_98) (by decide) (by decide) ?_
  rw [e74]
  exact ⟨rfl, N74, K_74⟩
theorem d1_0 : decode prog_13_method_1_code 0 = .ok (.aload_n 0, 1) := by decide +kernel
theorem d1_1 : decode prog_13_method_1_code 1 = .ok (.invokespecial 1, 3) := by decide +kernel
theorem d1_4 : decode prog_13_method_1_code 4 = .ok (.aload_n 0, 1) := by decide +kernel
theorem d1_5 : decode prog_13_method_1_code 5 = .ok (.aload_n 1, 1) := by decide +kernel
theorem d1_6 : decode prog_13_method_1_code 6 = .ok (.putfield 7, 3) := by decide +kernel
theorem d1_9 : decode prog_13_method_1_code 9 = .ok (.aload_n 0, 1) := by decide +kernel
theorem d1_10 : decode prog_13_method_1_code 10 = .ok (.new 13, 3) := by decide +kernel
theorem d1_13 : decode prog_13_method_1_code 13 = .ok (.dup, 1) := by decide +kernel
theorem d1_14 : decode prog_13_method_1_code 14 = .ok (.aload_n 1, 1) := by decide +kernel
theorem d1_15 : decode prog_13_method_1_code 15 = .ok (.invokespecial 15, 3) := by decide +kernel
theorem d1_18 : decode prog_13_method_1_code 18 = .ok (.putfield 18, 3) := by decide +kernel
theorem d1_21 : decode prog_13_method_1_code 21 = .ok (.aload_n 0, 1) := by decide +kernel
theorem d1_22 : decode prog_13_method_1_code 22 = .ok (.aload_n 1, 1) := by decide +kernel
theorem d1_23 : decode prog_13_method_1_code 23 = .ok (.invokestatic 22, 3) := by decide +kernel
theorem d1_26 : decode prog_13_method_1_code 26 = .ok (.putfield 28, 3) := by decide +kernel
theorem d1_29 : decode prog_13_method_1_code 29 = .ok (.aload_n 0, 1) := by decide +kernel
theorem d1_30 : decode prog_13_method_1_code 30 = .ok (.aload_n 1, 1) := by decide +kernel
theorem d1_31 : decode prog_13_method_1_code 31 = .ok (.arraylength, 1) := by decide +kernel
theorem d1_32 : decode prog_13_method_1_code 32 = .ok (.ifCond .ne 7, 3) := by decide +kernel
theorem d1_35 : decode prog_13_method_1_code 35 = .ok (.aconst_null, 1) := by decide +kernel
theorem d1_36 : decode prog_13_method_1_code 36 = .ok (.goto 15, 3) := by decide +kernel
theorem d1_39 : decode prog_13_method_1_code 39 = .ok (.new 31, 3) := by decide +kernel
theorem d1_42 : decode prog_13_method_1_code 42 = .ok (.dup, 1) := by decide +kernel
theorem d1_43 : decode prog_13_method_1_code 43 = .ok (.aload_n 1, 1) := by decide +kernel
theorem d1_44 : decode prog_13_method_1_code 44 = .ok (.aload_n 0, 1) := by decide +kernel
theorem d1_45 : decode prog_13_method_1_code 45 = .ok (.getfield 28, 3) := by decide +kernel
theorem d1_48 : decode prog_13_method_1_code 48 = .ok (.invokespecial 33, 3) := by decide +kernel
theorem d1_51 : decode prog_13_method_1_code 51 = .ok (.putfield 36, 3) := by decide +kernel
theorem d1_54 : decode prog_13_method_1_code 54 = .ok (.return_, 1) := by decide +kernel
theorem pf_com_example_substring_search_substringsearch_UnitSearch__init____I_V : plainFor (⟨"com/example/substring_search/substringsearch/UnitSearch", "<init>", "([I)V"⟩ : MethodName) = true := by first | exact plainFor_of_name (by first | (simp [plainName, overriddenIn]; done) | decide +kernel) | exact Jvm.Free.JP.mathPlain rfl (by decide +kernel) | decide +kernel
theorem ef_rm1 (m : MethodId) (q0 : Addr) (q1 : Addr) : entryFrame m #[(.ref q0), (.ref q1)] 2 = mkF m 0 #[rv q0, rv q1] [] := by first | (simp [entryFrame, mkF, argsToLocals, Value.category]; done) | rfl
set_option maxRecDepth 65536 in
set_option maxHeartbeats 40000000 in
theorem rm1 (l : Launch) (Z : State) (a0 : Array Value) (hw : ∀ d ∈ tables_1, d.before a0 Z = true) (ws : List Jvm.Cond) (x0 : Addr) (x1 : Addr) (kp : ClassId) (p0 : Int32) (h0 : Heap) (n0 : Nat) (Z0 : n0 ≤ h0.size) (E_x0 : Exa Z h0 x0 "com/example/substring_search/substringsearch/UnitSearch") (g_x0 : n0 ≤ x0) (F_pattern_x0 : Fld Z h0 x0 "com/example/substring_search/substringsearch/UnitSearch" "pattern" "[I" .null) (F_units_x0 : Fld Z h0 x0 "com/example/substring_search/substringsearch/UnitSearch" "units" "Lcom/example/substring_search/substringsearch/Units;" .null) (F_table_x0 : Fld Z h0 x0 "com/example/substring_search/substringsearch/UnitSearch" "table" "[I" .null) (F_starts_x0 : Fld Z h0 x0 "com/example/substring_search/substringsearch/UnitSearch" "starts" "Lcom/example/substring_search/substringsearch/StartScan;" .null) (ne01 : x0 ≠ x1) (Vp : Arv Z h0 x1 kp .int (1 : Int32) [(.int p0)] (.int 0)) :
    OwnC l Z (⟨"com/example/substring_search/substringsearch/UnitSearch", "<init>", "([I)V"⟩ : MethodName) prog_13_method_1_code 2 none ws ({ frames := 4, cells := 7, slots := 22, locals := 66 } : Room) #[(.ref x0), (.ref x1)] h0 (fun v h L => v = none ∧ Fr n0 L ∧ Keep h0 h [x0] ∧ Exa Z h x0 "com/example/substring_search/substringsearch/UnitSearch" ∧ Fld Z h x0 "com/example/substring_search/substringsearch/UnitSearch" "pattern" "[I" (.ref x1) ∧ ∃ t k, Fld Z h x0 "com/example/substring_search/substringsearch/UnitSearch" "table" "[I" (.ref t) ∧ Arv Z h t k .int (1 : Int32) [(.int 0)] (.int 0)) := by
  refine own_entry pf_com_example_substring_search_substringsearch_UnitSearch__init____I_V (fun m => ef_rm1 m x0 x1) ?_
  intro p e s m below meth c T0 X0 hC e0
  obtain ⟨hx, hby, hml, hown, hnm, hret, hlk, hZ⟩ := hC
  have N0 := Fr.nil n0
  have K0 := Keep.refl h0 [x0]
  refine own_go T0 m 1 #[rv x0, rv x1] [(.ref x0)] (fun t k => XS.aloadN X0.here hx rfl (hb hby d1_0) rfl rfl k) ?_
  obtain ⟨T1, X1, e1, st1⟩ := initO X0 hx hZ hown (own_w hw 8 rfl) (own_w hw 9 rfl) (own_w hw 10 rfl) e0 (g := (mkF m 1 #[rv x0, rv x1] [(.ref x0)])) rfl (by rw [hml]; rfl) rfl (hb hby d1_1) (by decide) (W := 0) (by show 2 * 0 + _ ≤ _; exact Nat.le_of_eq rfl) (by decide)
  refine own_go T1 m 4 #[rv x0, rv x1] [] (st1) ?_
  refine own_go T1 m 5 #[rv x0, rv x1] [(.ref x0)] (fun t k => XS.aloadN X1.here hx rfl (hb hby d1_4) rfl rfl k) ?_
  refine own_go T1 m 6 #[rv x0, rv x1] [(.ref x1), (.ref x0)] (fun t k => XS.aloadN X1.here hx rfl (hb hby d1_5) rfl rfl k) ?_
  obtain ⟨T2, h2, X2, e2, W2, st2⟩ := putF X1 hx hZ hown (host := "") (Or.inl (own_w hw 11 rfl)) Via.refl e1 F_pattern_x0 E_x0 (Or.inr ⟨(own_w hw 12 rfl), rfl, hnm⟩) (own_w hw 3 rfl) (ty := (.array .int)) (by decide) rfl rfl (g := (mkF m 6 #[rv x0, rv x1] [(.ref x1), (.ref x0)])) rfl rfl (hb hby d1_6)
  have F2 := F_pattern_x0.same W2
  have cf3 := E_x0.wr W2
  have cf4 := F_units_x0.other W2 (Or.inr (slot_ne (Or.inr (own_w hw 34 rfl)) (Or.inr (own_w hw 12 rfl)) (by decide) (t := (.object "com/example/substring_search/substringsearch/Units")) (t' := (.array .int)) (by decide) (by decide)))
  have cf5 := F_table_x0.other W2 (Or.inr (slot_ne (Or.inr (own_w hw 40 rfl)) (Or.inr (own_w hw 12 rfl)) (by decide) (t := (.array .int)) (t' := (.array .int)) (by decide) (by decide)))
  have cf6 := F_starts_x0.other W2 (Or.inr (slot_ne (Or.inr (own_w hw 82 rfl)) (Or.inr (own_w hw 12 rfl)) (by decide) (t := (.object "com/example/substring_search/substringsearch/StartScan")) (t' := (.array .int)) (by decide) (by decide)))
  have cf7 := Vp.other W2 (Ne.symm ne01)
  have Z_2 : n0 ≤ h2.size := Nat.le_trans Z0 (Keep.of_wr W2).1
  have K_2 : Keep h0 h2 [x0] := K0.wr W2 (own_i 0 rfl)
  have N2 := Fr.snoc X2 N0 g_x0
  refine own_go T2 m 9 #[rv x0, rv x1] [] (st2) ?_
  refine own_go T2 m 10 #[rv x0, rv x1] [(.ref x0)] (fun t k => XS.aloadN X2.here hx rfl (hb hby d1_9) rfl rfl k) ?_
  obtain ⟨T8, h8, X8, e8, E8, A8, D8, -, st8⟩ := newO X2 hx hZ hown (own_w hw 13 rfl) (own_w hw 14 rfl) (own_w hw 15 rfl) e2 (g := (mkF m 10 #[rv x0, rv x1] [(.ref x0)])) rfl (hb hby d1_10) (by decide) (by decide)
  obtain ⟨b8, g8⟩ : ∃ z, z = h2.size := ⟨_, rfl⟩
  rw [← g8] at A8 D8 st8
  have ne_x0_b8 : x0 ≠ b8 := Nat.ne_of_lt (Nat.lt_of_lt_of_eq cf3.lt g8.symm)
  have ne_x1_b8 : x1 ≠ b8 := Nat.ne_of_lt (Nat.lt_of_lt_of_eq cf7.lt g8.symm)
  have g_b8 : n0 ≤ b8 := Nat.le_trans Z_2 (Nat.le_of_eq g8.symm)
  have sz_b8 : h0.size ≤ b8 := Nat.le_trans K_2.1 (Nat.le_of_eq g8.symm)
  have cf9 := cf3.ext E8
  have cf10 := cf4.ext E8
  have cf11 := cf5.ext E8
  have cf12 := cf6.ext E8
  have cf13 := cf7.ext E8
  have cf14 := F2.ext E8
  have Z_8 : n0 ≤ h8.size := Nat.le_trans Z_2 E8.1
  have K_8 : Keep h0 h8 [x0] := K_2.ext E8
  have F_chars_8 : Fld Z h8 b8 "com/example/substring_search/substringsearch/Units" "chars" "[C" .null := D8 (Or.inr (own_w hw 25 rfl)) (ty := (.array .char)) (by decide)
  have F_bytes_8 : Fld Z h8 b8 "com/example/substring_search/substringsearch/Units" "bytes" "[B" .null := D8 (Or.inr (own_w hw 28 rfl)) (ty := (.array .byte)) (by decide)
  have F_length_8 : Fld Z h8 b8 "com/example/substring_search/substringsearch/Units" "length" "I" (.int 0) := D8 (Or.inl (own_w hw 30 rfl)) (ty := .int) (by decide)
  have F_narrow_8 : Fld Z h8 b8 "com/example/substring_search/substringsearch/Units" "narrow" "Z" (.int 0) := D8 (Or.inl (own_w hw 32 rfl)) (ty := .boolean) (by decide)
  refine own_go T8 m 13 #[rv x0, rv x1] [(.ref b8), (.ref x0)] (st8) ?_
  refine own_go T8 m 14 #[rv x0, rv x1] [(.ref b8), (.ref b8), (.ref x0)] (fun t k => XS.dup X8.here hx rfl (hb hby d1_13) rfl rfl k) ?_
  refine own_go T8 m 15 #[rv x0, rv x1] [(.ref x1), (.ref b8), (.ref b8), (.ref x0)] (fun t k => XS.aloadN X8.here hx rfl (hb hby d1_14) rfl rfl k) ?_
  obtain ⟨_, T15, L15, X15, ⟨rfl, Nq15, Kq15⟩, st15⟩ := own_init X8 hx hZ (y := (⟨"com/example/substring_search/substringsearch/Units", "<init>", "([I)V"⟩ : MethodName)) rfl hown (own_w hw 16 rfl) (own_w hw 17 rfl) (own_w hw 15 rfl) (own_w hw 18 rfl) (by decide) (rm3 l Z a0 hw [] b8 x1 kp p0 h8 n0 Z_8 A8 g_b8 F_chars_8 F_bytes_8 F_length_8 F_narrow_8 (Ne.symm ne_x1_b8) cf13) e8 (a := b8) 2 (argsL := [(.ref x1)]) (rest := [(.ref b8), (.ref x0)]) (Ls := #[rv x0, rv x1]) (by rw [hml]; rfl) (lenOf pd___I_V rfl) rfl rfl (Nat.le_of_eq rfl) (hb hby d1_15) (by decide) (by decide) (by decide) (by decide)
  have N15 := Fr.app N2 Nq15
  have cf16 := cf9.keep Kq15
  have cf17 := cf10.keep Kq15 (ninS ne_x0_b8 nin0)
  have cf18 := cf11.keep Kq15 (ninS ne_x0_b8 nin0)
  have cf19 := cf12.keep Kq15 (ninS ne_x0_b8 nin0)
  have cf20 := cf13.keep Kq15 (ninS ne_x1_b8 nin0)
  have cf21 := cf14.keep Kq15 (ninS ne_x0_b8 nin0)
  have cf22 := A8.keep Kq15
  have Z_15 : n0 ≤ T15.heap.size := Nat.le_trans Z_8 Kq15.1
  have K_15 : Keep h0 T15.heap [x0] := K_8.trans Kq15 (allS (Or.inr sz_b8) all0)
  refine own_go T15 m 18 #[rv x0, rv x1] [(.ref b8), (.ref x0)] (st15) ?_
  obtain ⟨T23, h23, X23, e23, W23, st23⟩ := putF X15 hx hZ hown (host := "") (Or.inl (own_w hw 33 rfl)) Via.refl rfl cf17 cf16 (Or.inr ⟨(own_w hw 34 rfl), rfl, hnm⟩) (own_w hw 3 rfl) (ty := (.object "com/example/substring_search/substringsearch/Units")) (by decide) rfl rfl (g := (mkF m 18 #[rv x0, rv x1] [(.ref b8), (.ref x0)])) rfl rfl (hb hby d1_18)
  have F23 := cf17.same W23
  have cf24 := cf16.wr W23
  have cf25 := cf18.other W23 (Or.inr (slot_ne (Or.inr (own_w hw 40 rfl)) (Or.inr (own_w hw 34 rfl)) (by decide) (t := (.array .int)) (t' := (.object "com/example/substring_search/substringsearch/Units")) (by decide) (by decide)))
  have cf26 := cf19.other W23 (Or.inr (slot_ne (Or.inr (own_w hw 82 rfl)) (Or.inr (own_w hw 34 rfl)) (by decide) (t := (.object "com/example/substring_search/substringsearch/StartScan")) (t' := (.object "com/example/substring_search/substringsearch/Units")) (by decide) (by decide)))
  have cf27 := cf20.other W23 (Ne.symm ne01)
  have cf28 := cf21.other W23 (Or.inr (slot_ne (Or.inr (own_w hw 12 rfl)) (Or.inr (own_w hw 34 rfl)) (by decide) (t := (.array .int)) (t' := (.object "com/example/substring_search/substringsearch/Units")) (by decide) (by decide)))
  have cf29 := cf22.wr W23
  have Z_23 : n0 ≤ h23.size := Nat.le_trans Z_15 (Keep.of_wr W23).1
  have K_23 : Keep h0 h23 [x0] := K_15.wr W23 (own_i 0 rfl)
  have N23 := Fr.snoc X23 N15 g_x0
  refine own_go T23 m 21 #[rv x0, rv x1] [] (st23) ?_
  refine own_go T23 m 22 #[rv x0, rv x1] [(.ref x0)] (fun t k => XS.aloadN X23.here hx rfl (hb hby d1_21) rfl rfl k) ?_
  refine own_go T23 m 23 #[rv x0, rv x1] [(.ref x1), (.ref x0)] (fun t k => XS.aloadN X23.here hx rfl (hb hby d1_22) rfl rfl k) ?_
  obtain ⟨_, T30, L30, X30, ⟨t30, k30, rfl, st_30, gt30, Vt30, Kq30, Nq30⟩, st30⟩ := own_static X23 hx hZ (y := (⟨"com/example/substring_search/substringsearch/PrefixTable", "compute", "([I)[I"⟩ : MethodName)) hown (own_w hw 35 rfl) (own_w hw 36 rfl) (own_w hw 37 rfl) (own_w hw 38 rfl) (by decide) (rm5 l Z a0 hw [] x1 kp p0 h23 n0 Z_23 cf27) e23 1 (argsL := [(.ref x1)]) (rest := [(.ref x0)]) (Ls := #[rv x0, rv x1]) (by rw [hml]; rfl) (lenOf pd___I__I rfl) rfl rfl (Nat.le_of_eq rfl) (hb hby d1_23) (by decide) (by decide) (by decide) (by decide)
  have g_t30 : n0 ≤ t30 := gt30
  have sz_t30 : h0.size ≤ t30 := Nat.le_trans K_23.1 st_30
  have ne_x0_t30 : x0 ≠ t30 := Nat.ne_of_lt (Nat.lt_of_lt_of_le cf24.lt st_30)
  have ne_x1_t30 : x1 ≠ t30 := Nat.ne_of_lt (Nat.lt_of_lt_of_le cf27.lt st_30)
  have ne_b8_t30 : b8 ≠ t30 := Nat.ne_of_lt (Nat.lt_of_lt_of_le cf29.lt st_30)
  have N30 := Fr.app N23 Nq30
  have cf31 := cf24.keep Kq30
  have cf32 := cf25.keep Kq30 nin0
  have cf33 := cf26.keep Kq30 nin0
  have cf34 := cf27.keep Kq30 nin0
  have cf35 := cf28.keep Kq30 nin0
  have cf36 := cf29.keep Kq30
  have cf37 := F23.keep Kq30 nin0
  have Z_30 : n0 ≤ T30.heap.size := Nat.le_trans Z_23 Kq30.1
  have K_30 : Keep h0 T30.heap [x0] := K_23.trans Kq30 all0
  refine own_go T30 m 26 #[rv x0, rv x1] [(.ref t30), (.ref x0)] (st30) ?_
  obtain ⟨T38, h38, X38, e38, W38, st38⟩ := putF X30 hx hZ hown (host := "") (Or.inl (own_w hw 39 rfl)) Via.refl rfl cf32 cf31 (Or.inr ⟨(own_w hw 40 rfl), rfl, hnm⟩) (own_w hw 3 rfl) (ty := (.array .int)) (by decide) rfl rfl (g := (mkF m 26 #[rv x0, rv x1] [(.ref t30), (.ref x0)])) rfl rfl (hb hby d1_26)
  have F38 := cf32.same W38
  have cf39 := cf31.wr W38
  have cf40 := cf33.other W38 (Or.inr (slot_ne (Or.inr (own_w hw 82 rfl)) (Or.inr (own_w hw 40 rfl)) (by decide) (t := (.object "com/example/substring_search/substringsearch/StartScan")) (t' := (.array .int)) (by decide) (by decide)))
  have cf41 := cf34.other W38 (Ne.symm ne01)
  have cf42 := cf35.other W38 (Or.inr (slot_ne (Or.inr (own_w hw 12 rfl)) (Or.inr (own_w hw 40 rfl)) (by decide) (t := (.array .int)) (t' := (.array .int)) (by decide) (by decide)))
  have cf43 := cf36.wr W38
  have cf44 := cf37.other W38 (Or.inr (slot_ne (Or.inr (own_w hw 34 rfl)) (Or.inr (own_w hw 40 rfl)) (by decide) (t := (.object "com/example/substring_search/substringsearch/Units")) (t' := (.array .int)) (by decide) (by decide)))
  have cf45 := Vt30.other W38 (Ne.symm ne_x0_t30)
  have Z_38 : n0 ≤ h38.size := Nat.le_trans Z_30 (Keep.of_wr W38).1
  have K_38 : Keep h0 h38 [x0] := K_30.wr W38 (own_i 0 rfl)
  have N38 := Fr.snoc X38 N30 g_x0
  refine own_go T38 m 29 #[rv x0, rv x1] [] (st38) ?_
  refine own_go T38 m 30 #[rv x0, rv x1] [(.ref x0)] (fun t k => XS.aloadN X38.here hx rfl (hb hby d1_29) rfl rfl k) ?_
  refine own_go T38 m 31 #[rv x0, rv x1] [(.ref x1), (.ref x0)] (fun t k => XS.aloadN X38.here hx rfl (hb hby d1_30) rfl rfl k) ?_
  refine own_go T38 m 32 #[rv x0, rv x1] [(.int 1), (.ref x0)] (own_alen X38 hx hZ e38 cf41 (hb hby d1_31)) ?_
  refine own_go T38 m 39 #[rv x0, rv x1] [(.ref x0)] (fun t k => XS.ifYes X38.here hx rfl (pc0 := 32) (pc' := 39) rfl (hb hby d1_32) rfl ((if0 _ _).trans (feq (by decide)).2) (by decide) (by decide) k) ?_
  obtain ⟨T47, h47, X47, e47, E47, A47, D47, -, st47⟩ := newO X38 hx hZ hown (own_w hw 41 rfl) (own_w hw 42 rfl) (own_w hw 43 rfl) e38 (g := (mkF m 39 #[rv x0, rv x1] [(.ref x0)])) rfl (hb hby d1_39) (by decide) (by decide)
  obtain ⟨b47, g47⟩ : ∃ z, z = h38.size := ⟨_, rfl⟩
  rw [← g47] at A47 D47 st47
  have ne_x0_b47 : x0 ≠ b47 := Nat.ne_of_lt (Nat.lt_of_lt_of_eq cf39.lt g47.symm)
  have ne_x1_b47 : x1 ≠ b47 := Nat.ne_of_lt (Nat.lt_of_lt_of_eq cf41.lt g47.symm)
  have ne_b8_b47 : b8 ≠ b47 := Nat.ne_of_lt (Nat.lt_of_lt_of_eq cf43.lt g47.symm)
  have ne_t30_b47 : t30 ≠ b47 := Nat.ne_of_lt (Nat.lt_of_lt_of_eq cf45.lt g47.symm)
  have g_b47 : n0 ≤ b47 := Nat.le_trans Z_38 (Nat.le_of_eq g47.symm)
  have sz_b47 : h0.size ≤ b47 := Nat.le_trans K_38.1 (Nat.le_of_eq g47.symm)
  have cf48 := cf39.ext E47
  have cf49 := cf40.ext E47
  have cf50 := cf41.ext E47
  have cf51 := cf42.ext E47
  have cf52 := cf43.ext E47
  have cf53 := cf44.ext E47
  have cf54 := cf45.ext E47
  have cf55 := F38.ext E47
  have Z_47 : n0 ≤ h47.size := Nat.le_trans Z_38 E47.1
  have K_47 : Keep h0 h47 [x0] := K_38.ext E47
  have F_first_47 : Fld Z h47 b47 "com/example/substring_search/substringsearch/StartScan" "first" "I" (.int 0) := D47 (Or.inr (own_w hw 49 rfl)) (ty := .int) (by decide)
  have F_threeUnits_47 : Fld Z h47 b47 "com/example/substring_search/substringsearch/StartScan" "threeUnits" "Z" (.int 0) := D47 (Or.inr (own_w hw 51 rfl)) (ty := .boolean) (by decide)
  have F_low0_47 : Fld Z h47 b47 "com/example/substring_search/substringsearch/StartScan" "low0" "J" (.long 0) := D47 (Or.inr (own_w hw 57 rfl)) (ty := .long) (by decide)
  have F_low1_47 : Fld Z h47 b47 "com/example/substring_search/substringsearch/StartScan" "low1" "J" (.long 0) := D47 (Or.inr (own_w hw 59 rfl)) (ty := .long) (by decide)
  have F_low2_47 : Fld Z h47 b47 "com/example/substring_search/substringsearch/StartScan" "low2" "J" (.long 0) := D47 (Or.inr (own_w hw 61 rfl)) (ty := .long) (by decide)
  have F_pattern_47 : Fld Z h47 b47 "com/example/substring_search/substringsearch/StartScan" "pattern" "[I" .null := D47 (Or.inr (own_w hw 63 rfl)) (ty := (.array .int)) (by decide)
  have F_laterStarts_47 : Fld Z h47 b47 "com/example/substring_search/substringsearch/StartScan" "laterStarts" "[I" .null := D47 (Or.inr (own_w hw 80 rfl)) (ty := (.array .int)) (by decide)
  refine own_go T47 m 42 #[rv x0, rv x1] [(.ref b47), (.ref x0)] (st47) ?_
  refine own_go T47 m 43 #[rv x0, rv x1] [(.ref b47), (.ref b47), (.ref x0)] (fun t k => XS.dup X47.here hx rfl (hb hby d1_42) rfl rfl k) ?_
  refine own_go T47 m 44 #[rv x0, rv x1] [(.ref x1), (.ref b47), (.ref b47), (.ref x0)] (fun t k => XS.aloadN X47.here hx rfl (hb hby d1_43) rfl rfl k) ?_
  refine own_go T47 m 45 #[rv x0, rv x1] [(.ref x0), (.ref x1), (.ref b47), (.ref b47), (.ref x0)] (fun t k => XS.aloadN X47.here hx rfl (hb hby d1_44) rfl rfl k) ?_
  obtain ⟨T56, X56, e56, st56⟩ := getF X47 hx hZ hown (host := "") (Or.inl (own_w hw 39 rfl)) Via.refl e47 cf55 (g := (mkF m 45 #[rv x0, rv x1] [(.ref x0), (.ref x1), (.ref b47), (.ref b47), (.ref x0)])) rfl rfl (hb hby d1_45)
  refine own_go T56 m 48 #[rv x0, rv x1] [(.ref t30), (.ref x1), (.ref b47), (.ref b47), (.ref x0)] (st56) ?_
  obtain ⟨_, T57, L57, X57, ⟨rfl, Nq57, Kq57⟩, st57⟩ := own_init X56 hx hZ (y := (⟨"com/example/substring_search/substringsearch/StartScan", "<init>", "([I[I)V"⟩ : MethodName)) rfl hown (own_w hw 44 rfl) (own_w hw 45 rfl) (own_w hw 43 rfl) (own_w hw 46 rfl) (by decide) (rm6 l Z a0 hw [] b47 x1 t30 kp p0 h47 n0 Z_47 A47 g_b47 F_first_47 F_threeUnits_47 F_low0_47 F_low1_47 F_low2_47 F_pattern_47 F_laterStarts_47 (Ne.symm ne_x1_b47) cf50) e56 (a := b47) 2 (argsL := [(.ref x1), (.ref t30)]) (rest := [(.ref b47), (.ref x0)]) (Ls := #[rv x0, rv x1]) (by rw [hml]; rfl) (lenOf pd___I_I_V rfl) rfl rfl (Nat.le_of_eq rfl) (hb hby d1_48) (by decide) (by decide) (by decide) (by decide)
  have N57 := Fr.app N38 Nq57
  have cf58 := cf48.keep Kq57
  have cf59 := cf49.keep Kq57 (ninS ne_x0_b47 nin0)
  have cf60 := cf50.keep Kq57 (ninS ne_x1_b47 nin0)
  have cf61 := cf51.keep Kq57 (ninS ne_x0_b47 nin0)
  have cf62 := cf52.keep Kq57
  have cf63 := cf53.keep Kq57 (ninS ne_x0_b47 nin0)
  have cf64 := cf54.keep Kq57 (ninS ne_t30_b47 nin0)
  have cf65 := cf55.keep Kq57 (ninS ne_x0_b47 nin0)
  have cf66 := A47.keep Kq57
  have Z_57 : n0 ≤ T57.heap.size := Nat.le_trans Z_47 Kq57.1
  have K_57 : Keep h0 T57.heap [x0] := K_47.trans Kq57 (allS (Or.inr sz_b47) all0)
  refine own_go T57 m 51 #[rv x0, rv x1] [(.ref b47), (.ref x0)] (st57) ?_
  obtain ⟨T67, h67, X67, e67, W67, st67⟩ := putF X57 hx hZ hown (host := "") (Or.inl (own_w hw 81 rfl)) Via.refl rfl cf59 cf58 (Or.inr ⟨(own_w hw 82 rfl), rfl, hnm⟩) (own_w hw 3 rfl) (ty := (.object "com/example/substring_search/substringsearch/StartScan")) (by decide) rfl rfl (g := (mkF m 51 #[rv x0, rv x1] [(.ref b47), (.ref x0)])) rfl rfl (hb hby d1_51)
  have F67 := cf59.same W67
  have cf68 := cf58.wr W67
  have cf69 := cf60.other W67 (Ne.symm ne01)
  have cf70 := cf61.other W67 (Or.inr (slot_ne (Or.inr (own_w hw 12 rfl)) (Or.inr (own_w hw 82 rfl)) (by decide) (t := (.array .int)) (t' := (.object "com/example/substring_search/substringsearch/StartScan")) (by decide) (by decide)))
  have cf71 := cf62.wr W67
  have cf72 := cf63.other W67 (Or.inr (slot_ne (Or.inr (own_w hw 34 rfl)) (Or.inr (own_w hw 82 rfl)) (by decide) (t := (.object "com/example/substring_search/substringsearch/Units")) (t' := (.object "com/example/substring_search/substringsearch/StartScan")) (by decide) (by decide)))
  have cf73 := cf64.other W67 (Ne.symm ne_x0_t30)
  have cf74 := cf65.other W67 (Or.inr (slot_ne (Or.inr (own_w hw 40 rfl)) (Or.inr (own_w hw 82 rfl)) (by decide) (t := (.array .int)) (t' := (.object "com/example/substring_search/substringsearch/StartScan")) (by decide) (by decide)))
  have cf75 := cf66.wr W67
  have Z_67 : n0 ≤ h67.size := Nat.le_trans Z_57 (Keep.of_wr W67).1
  have K_67 : Keep h0 h67 [x0] := K_57.wr W67 (own_i 0 rfl)
  have N67 := Fr.snoc X67 N57 g_x0
  refine own_go T67 m 54 #[rv x0, rv x1] [] (st67) ?_
  refine own_retV X67 hx hlk hret (hb hby d1_54) (by decide) (by decide) ?_
  rw [e67]
  exact ⟨rfl, N67, K_67, cf68, cf70, t30, k30, cf74, cf73⟩
theorem d11_0 : decode prog_11_method_1_code 0 = .ok (.aload_n 0, 1) := by decide +kernel
theorem d11_1 : decode prog_11_method_1_code 1 = .ok (.invokespecial 1, 3) := by decide +kernel
theorem d11_4 : decode prog_11_method_1_code 4 = .ok (.aload_n 1, 1) := by decide +kernel
theorem d11_5 : decode prog_11_method_1_code 5 = .ok (.invokevirtual 7, 3) := by decide +kernel
theorem d11_8 : decode prog_11_method_1_code 8 = .ok (.ifCond .ne 13, 3) := by decide +kernel
theorem d11_11 : decode prog_11_method_1_code 11 = .ok (.new 13, 3) := by decide +kernel
theorem d11_14 : decode prog_11_method_1_code 14 = .ok (.dup, 1) := by decide +kernel
theorem d11_15 : decode prog_11_method_1_code 15 = .ok (.ldc 15, 2) := by decide +kernel
theorem d11_17 : decode prog_11_method_1_code 17 = .ok (.invokespecial 17, 3) := by decide +kernel
theorem d11_20 : decode prog_11_method_1_code 20 = .ok (.athrow, 1) := by decide +kernel
theorem d11_21 : decode prog_11_method_1_code 21 = .ok (.aload_n 0, 1) := by decide +kernel
theorem d11_22 : decode prog_11_method_1_code 22 = .ok (.aload_n 1, 1) := by decide +kernel
theorem d11_23 : decode prog_11_method_1_code 23 = .ok (.putfield 20, 3) := by decide +kernel
theorem d11_26 : decode prog_11_method_1_code 26 = .ok (.aload_n 0, 1) := by decide +kernel
theorem d11_27 : decode prog_11_method_1_code 27 = .ok (.aload_n 1, 1) := by decide +kernel
theorem d11_28 : decode prog_11_method_1_code 28 = .ok (.invokevirtual 7, 3) := by decide +kernel
theorem d11_31 : decode prog_11_method_1_code 31 = .ok (.putfield 26, 3) := by decide +kernel
theorem d11_34 : decode prog_11_method_1_code 34 = .ok (.aload_n 0, 1) := by decide +kernel
theorem d11_35 : decode prog_11_method_1_code 35 = .ok (.aload_n 1, 1) := by decide +kernel
theorem d11_36 : decode prog_11_method_1_code 36 = .ok (.getstatic 29, 3) := by decide +kernel
theorem d11_39 : decode prog_11_method_1_code 39 = .ok (.invokevirtual 35, 3) := by decide +kernel
theorem d11_42 : decode prog_11_method_1_code 42 = .ok (.putfield 39, 3) := by decide +kernel
theorem d11_45 : decode prog_11_method_1_code 45 = .ok (.return_, 1) := by decide +kernel
theorem pf_com_example_substring_search_substringsearch_UnitScanner__init___Lcom_example_substring_search_substringsearch_UnitSearch__V : plainFor (⟨"com/example/substring_search/substringsearch/UnitScanner", "<init>", "(Lcom/example/substring_search/substringsearch/UnitSearch;)V"⟩ : MethodName) = true := by first | exact plainFor_of_name (by first | (simp [plainName, overriddenIn]; done) | decide +kernel) | exact Jvm.Free.JP.mathPlain rfl (by decide +kernel) | decide +kernel
theorem ef_rm11 (m : MethodId) (q0 : Addr) (q1 : Addr) : entryFrame m #[(.ref q0), (.ref q1)] 2 = mkF m 0 #[rv q0, rv q1] [] := by first | (simp [entryFrame, mkF, argsToLocals, Value.category]; done) | rfl
set_option maxRecDepth 65536 in
set_option maxHeartbeats 40000000 in
theorem rm11 (l : Launch) (Z : State) (a0 : Array Value) (hw : ∀ d ∈ tables_1, d.before a0 Z = true) (ws : List Jvm.Cond) (x0 : Addr) (x1 : Addr) (pa ta aA : Addr) (kp kt : ClassId) (p0 : Int32) (h0 : Heap) (n0 : Nat) (Z0 : n0 ≤ h0.size) (E_x0 : Exa Z h0 x0 "com/example/substring_search/substringsearch/UnitScanner") (g_x0 : n0 ≤ x0) (F_search_x0 : Fld Z h0 x0 "com/example/substring_search/substringsearch/UnitScanner" "search" "Lcom/example/substring_search/substringsearch/UnitSearch;" .null) (F_patternLength_x0 : Fld Z h0 x0 "com/example/substring_search/substringsearch/UnitScanner" "patternLength" "I" (.int 0)) (F_afterAnOccurrence_x0 : Fld Z h0 x0 "com/example/substring_search/substringsearch/UnitScanner" "afterAnOccurrence" "I" (.int 0)) (F_position_x0 : Fld Z h0 x0 "com/example/substring_search/substringsearch/UnitScanner" "position" "J" (.long 0)) (F_matched_x0 : Fld Z h0 x0 "com/example/substring_search/substringsearch/UnitScanner" "matched" "I" (.int 0)) (E_x1 : Exa Z h0 x1 "com/example/substring_search/substringsearch/UnitSearch") (F_pattern_x1 : Fld Z h0 x1 "com/example/substring_search/substringsearch/UnitSearch" "pattern" "[I" (.ref pa)) (F_table_x1 : Fld Z h0 x1 "com/example/substring_search/substringsearch/UnitSearch" "table" "[I" (.ref ta)) (Vp : Arv Z h0 pa kp .int (1 : Int32) [(.int p0)] (.int 0)) (Vt : Arv Z h0 ta kt .int (1 : Int32) [(.int 0)] (.int 0)) (S_ALL : Sta Z h0 "com/example/substring_search/substringsearch/UnitSearch$Occurrences" "ALL" "Lcom/example/substring_search/substringsearch/UnitSearch$Occurrences;" (.ref aA)) (E_aA : Exa Z h0 aA "com/example/substring_search/substringsearch/UnitSearch$Occurrences") (F_oA : Fld Z h0 aA "java/lang/Enum" "ordinal" "I" (.int 0)) (nx1 : x0 ≠ x1) (nxp : x0 ≠ pa) (nxt : x0 ≠ ta) (nxA : x0 ≠ aA) :
    OwnC l Z (⟨"com/example/substring_search/substringsearch/UnitScanner", "<init>", "(Lcom/example/substring_search/substringsearch/UnitSearch;)V"⟩ : MethodName) prog_11_method_1_code 2 none ws ({ frames := 2, cells := 0, slots := 0, locals := 26 } : Room) #[(.ref x0), (.ref x1)] h0 (fun v h L => v = none ∧ Fr n0 L ∧ Keep h0 h [x0] ∧ Exa Z h x0 "com/example/substring_search/substringsearch/UnitScanner" ∧ Fld Z h x0 "com/example/substring_search/substringsearch/UnitScanner" "position" "J" (.long 0) ∧ Fld Z h x0 "com/example/substring_search/substringsearch/UnitScanner" "matched" "I" (.int 0)) := by
  refine own_entry pf_com_example_substring_search_substringsearch_UnitScanner__init___Lcom_example_substring_search_substringsearch_UnitSearch__V (fun m => ef_rm11 m x0 x1) ?_
  intro p e s m below meth c T0 X0 hC e0
  obtain ⟨hx, hby, hml, hown, hnm, hret, hlk, hZ⟩ := hC
  have N0 := Fr.nil n0
  have K0 := Keep.refl h0 [x0]
  refine own_go T0 m 1 #[rv x0, rv x1] [(.ref x0)] (fun t k => XS.aloadN X0.here hx rfl (hb hby d11_0) rfl rfl k) ?_
  obtain ⟨T1, X1, e1, st1⟩ := initO X0 hx hZ hown (own_w hw 89 rfl) (own_w hw 9 rfl) (own_w hw 10 rfl) e0 (g := (mkF m 1 #[rv x0, rv x1] [(.ref x0)])) rfl (by rw [hml]; rfl) rfl (hb hby d11_1) (by decide) (W := 0) (by show 2 * 0 + _ ≤ _; exact Nat.le_of_eq rfl) (by decide)
  refine own_go T1 m 4 #[rv x0, rv x1] [] (st1) ?_
  refine own_go T1 m 5 #[rv x0, rv x1] [(.ref x1)] (fun t k => XS.aloadN X1.here hx rfl (hb hby d11_4) rfl rfl k) ?_
  obtain ⟨_, T2, L2, X2, ⟨rfl, e2, rfl⟩, st2⟩ := own_virtual X1 hx hZ (y := (⟨"com/example/substring_search/substringsearch/UnitSearch", "patternLength", "()I"⟩ : MethodName)) (z := (⟨"com/example/substring_search/substringsearch/UnitSearch", "patternLength", "()I"⟩ : MethodName)) hown (own_w hw 90 rfl) (own_w hw 91 rfl) (notFace_of_selects (args := #[]) (mvT hZ (own_w hw 93 rfl))) (own_w hw 93 rfl) (own_w hw 92 rfl) (own_w hw 4 rfl) (own_w hw 94 rfl) (by decide) (rm12 l Z a0 hw [] x1 pa kp p0 h0 F_pattern_x1 Vp) e1 E_x1 0 (argsL := []) (rest := []) (Ls := #[rv x0, rv x1]) (by rw [hml]; rfl) (lenOf pd___I rfl) rfl rfl (Nat.le_of_eq rfl) (hb hby d11_5) (by decide) (by decide) (by decide) (by decide)
  replace X2 := own_nil X2
  refine own_go T2 m 8 #[rv x0, rv x1] [(.int 1)] (st2) ?_
  refine own_go T2 m 21 #[rv x0, rv x1] [] (fun t k => XS.ifYes X2.here hx rfl (pc0 := 8) (pc' := 21) rfl (hb hby d11_8) rfl ((if0 _ _).trans (feq (by decide)).2) (by decide) (by decide) k) ?_
  refine own_go T2 m 22 #[rv x0, rv x1] [(.ref x0)] (fun t k => XS.aloadN X2.here hx rfl (hb hby d11_21) rfl rfl k) ?_
  refine own_go T2 m 23 #[rv x0, rv x1] [(.ref x1), (.ref x0)] (fun t k => XS.aloadN X2.here hx rfl (hb hby d11_22) rfl rfl k) ?_
  obtain ⟨T3, h3, X3, e3, W3, st3⟩ := putF X2 hx hZ hown (host := "") (Or.inl (own_w hw 95 rfl)) Via.refl e2 F_search_x0 E_x0 (Or.inr ⟨(own_w hw 96 rfl), rfl, hnm⟩) (own_w hw 84 rfl) (ty := (.object "com/example/substring_search/substringsearch/UnitSearch")) (by decide) rfl rfl (g := (mkF m 23 #[rv x0, rv x1] [(.ref x1), (.ref x0)])) rfl rfl (hb hby d11_23)
  have F3 := F_search_x0.same W3
  have cf4 := E_x0.wr W3
  have cf5 := F_patternLength_x0.other W3 (Or.inr (slot_ne (Or.inr (own_w hw 98 rfl)) (Or.inr (own_w hw 96 rfl)) (by decide) (t := .int) (t' := (.object "com/example/substring_search/substringsearch/UnitSearch")) (by decide) (by decide)))
  have cf6 := F_afterAnOccurrence_x0.other W3 (Or.inr (slot_ne (Or.inr (own_w hw 117 rfl)) (Or.inr (own_w hw 96 rfl)) (by decide) (t := .int) (t' := (.object "com/example/substring_search/substringsearch/UnitSearch")) (by decide) (by decide)))
  have cf7 := F_position_x0.other W3 (Or.inr (slot_ne (Or.inl (own_w hw 124 rfl)) (Or.inr (own_w hw 96 rfl)) (by decide) (t := .long) (t' := (.object "com/example/substring_search/substringsearch/UnitSearch")) (by decide) (by decide)))
  have cf8 := F_matched_x0.other W3 (Or.inr (slot_ne (Or.inl (own_w hw 131 rfl)) (Or.inr (own_w hw 96 rfl)) (by decide) (t := .int) (t' := (.object "com/example/substring_search/substringsearch/UnitSearch")) (by decide) (by decide)))
  have cf9 := E_x1.wr W3
  have cf10 := F_pattern_x1.other W3 (Or.inl (Ne.symm nx1))
  have cf11 := F_table_x1.other W3 (Or.inl (Ne.symm nx1))
  have cf12 := Vp.other W3 (Ne.symm nxp)
  have cf13 := Vt.other W3 (Ne.symm nxt)
  have cf14 := S_ALL.wr W3
  have cf15 := E_aA.wr W3
  have cf16 := F_oA.other W3 (Or.inl (Ne.symm nxA))
  have Z_3 : n0 ≤ h3.size := Nat.le_trans Z0 (Keep.of_wr W3).1
  have K_3 : Keep h0 h3 [x0] := K0.wr W3 (own_i 0 rfl)
  have N3 := Fr.snoc X3 N0 g_x0
  refine own_go T3 m 26 #[rv x0, rv x1] [] (st3) ?_
  refine own_go T3 m 27 #[rv x0, rv x1] [(.ref x0)] (fun t k => XS.aloadN X3.here hx rfl (hb hby d11_26) rfl rfl k) ?_
  refine own_go T3 m 28 #[rv x0, rv x1] [(.ref x1), (.ref x0)] (fun t k => XS.aloadN X3.here hx rfl (hb hby d11_27) rfl rfl k) ?_
  obtain ⟨_, T17, L17, X17, ⟨rfl, e17, rfl⟩, st17⟩ := own_virtual X3 hx hZ (y := (⟨"com/example/substring_search/substringsearch/UnitSearch", "patternLength", "()I"⟩ : MethodName)) (z := (⟨"com/example/substring_search/substringsearch/UnitSearch", "patternLength", "()I"⟩ : MethodName)) hown (own_w hw 90 rfl) (own_w hw 91 rfl) (notFace_of_selects (args := #[]) (mvT hZ (own_w hw 93 rfl))) (own_w hw 93 rfl) (own_w hw 92 rfl) (own_w hw 4 rfl) (own_w hw 94 rfl) (by decide) (rm12 l Z a0 hw [] x1 pa kp p0 h3 cf10 cf12) e3 cf9 1 (argsL := []) (rest := [(.ref x0)]) (Ls := #[rv x0, rv x1]) (by rw [hml]; rfl) (lenOf pd___I rfl) rfl rfl (Nat.le_of_eq rfl) (hb hby d11_28) (by decide) (by decide) (by decide) (by decide)
  replace X17 := own_nil X17
  refine own_go T17 m 31 #[rv x0, rv x1] [(.int 1), (.ref x0)] (st17) ?_
  obtain ⟨T18, h18, X18, e18, W18, st18⟩ := putF X17 hx hZ hown (host := "") (Or.inl (own_w hw 97 rfl)) Via.refl e17 cf5 cf4 (Or.inr ⟨(own_w hw 98 rfl), rfl, hnm⟩) (own_w hw 84 rfl) (ty := .int) (by decide) rfl rfl (g := (mkF m 31 #[rv x0, rv x1] [(.int 1), (.ref x0)])) rfl rfl (hb hby d11_31)
  have F18 := cf5.same W18
  have cf19 := cf4.wr W18
  have cf20 := cf6.other W18 (Or.inr (slot_ne (Or.inr (own_w hw 117 rfl)) (Or.inr (own_w hw 98 rfl)) (by decide) (t := .int) (t' := .int) (by decide) (by decide)))
  have cf21 := cf7.other W18 (Or.inr (slot_ne (Or.inl (own_w hw 124 rfl)) (Or.inr (own_w hw 98 rfl)) (by decide) (t := .long) (t' := .int) (by decide) (by decide)))
  have cf22 := cf8.other W18 (Or.inr (slot_ne (Or.inl (own_w hw 131 rfl)) (Or.inr (own_w hw 98 rfl)) (by decide) (t := .int) (t' := .int) (by decide) (by decide)))
  have cf23 := cf9.wr W18
  have cf24 := cf10.other W18 (Or.inl (Ne.symm nx1))
  have cf25 := cf11.other W18 (Or.inl (Ne.symm nx1))
  have cf26 := cf12.other W18 (Ne.symm nxp)
  have cf27 := cf13.other W18 (Ne.symm nxt)
  have cf28 := cf14.wr W18
  have cf29 := cf15.wr W18
  have cf30 := cf16.other W18 (Or.inl (Ne.symm nxA))
  have cf31 := F3.other W18 (Or.inr (slot_ne (Or.inr (own_w hw 96 rfl)) (Or.inr (own_w hw 98 rfl)) (by decide) (t := (.object "com/example/substring_search/substringsearch/UnitSearch")) (t' := .int) (by decide) (by decide)))
  have Z_18 : n0 ≤ h18.size := Nat.le_trans Z_3 (Keep.of_wr W18).1
  have K_18 : Keep h0 h18 [x0] := K_3.wr W18 (own_i 0 rfl)
  have N18 := Fr.snoc X18 N3 g_x0
  refine own_go T18 m 34 #[rv x0, rv x1] [] (st18) ?_
  refine own_go T18 m 35 #[rv x0, rv x1] [(.ref x0)] (fun t k => XS.aloadN X18.here hx rfl (hb hby d11_34) rfl rfl k) ?_
  refine own_go T18 m 36 #[rv x0, rv x1] [(.ref x1), (.ref x0)] (fun t k => XS.aloadN X18.here hx rfl (hb hby d11_35) rfl rfl k) ?_
  obtain ⟨T32, X32, e32, st32⟩ := getS2 X18 hx hZ hown (host := "") (Or.inl (own_w hw 99 rfl)) Via.refl e18 cf28 (g := (mkF m 36 #[rv x0, rv x1] [(.ref x1), (.ref x0)])) rfl (hb hby d11_36)
  refine own_go T32 m 39 #[rv x0, rv x1] [(.ref aA), (.ref x1), (.ref x0)] (st32) ?_
  obtain ⟨_, T33, L33, X33, ⟨rfl, e33, rfl⟩, st33⟩ := own_virtual X32 hx hZ (y := (⟨"com/example/substring_search/substringsearch/UnitSearch", "matchedAfterAnOccurrence", "(Lcom/example/substring_search/substringsearch/UnitSearch$Occurrences;)I"⟩ : MethodName)) (z := (⟨"com/example/substring_search/substringsearch/UnitSearch", "matchedAfterAnOccurrence", "(Lcom/example/substring_search/substringsearch/UnitSearch$Occurrences;)I"⟩ : MethodName)) hown (own_w hw 102 rfl) (own_w hw 103 rfl) (notFace_of_selects (args := #[]) (mvT hZ (own_w hw 105 rfl))) (own_w hw 105 rfl) (own_w hw 104 rfl) (own_w hw 4 rfl) (own_w hw 106 rfl) (by decide) (rm13 l Z a0 hw [] x1 aA pa ta kp kt p0 h18 cf24 cf25 cf26 cf27 cf29 cf30) e32 cf23 1 (argsL := [(.ref aA)]) (rest := [(.ref x0)]) (Ls := #[rv x0, rv x1]) (by rw [hml]; rfl) (lenOf pd__Lcom_example_substring_search_substringsearch_UnitSearch_Occurrences__I rfl) rfl rfl (Nat.le_of_eq rfl) (hb hby d11_39) (by decide) (by decide) (by decide) (by decide)
  replace X33 := own_nil X33
  refine own_go T33 m 42 #[rv x0, rv x1] [(.int 0), (.ref x0)] (st33) ?_
  obtain ⟨T34, h34, X34, e34, W34, st34⟩ := putF X33 hx hZ hown (host := "") (Or.inl (own_w hw 116 rfl)) Via.refl e33 cf20 cf19 (Or.inr ⟨(own_w hw 117 rfl), rfl, hnm⟩) (own_w hw 84 rfl) (ty := .int) (by decide) rfl rfl (g := (mkF m 42 #[rv x0, rv x1] [(.int 0), (.ref x0)])) rfl rfl (hb hby d11_42)
  have F34 := cf20.same W34
  have cf35 := cf19.wr W34
  have cf36 := cf21.other W34 (Or.inr (slot_ne (Or.inl (own_w hw 124 rfl)) (Or.inr (own_w hw 117 rfl)) (by decide) (t := .long) (t' := .int) (by decide) (by decide)))
  have cf37 := cf22.other W34 (Or.inr (slot_ne (Or.inl (own_w hw 131 rfl)) (Or.inr (own_w hw 117 rfl)) (by decide) (t := .int) (t' := .int) (by decide) (by decide)))
  have cf38 := cf23.wr W34
  have cf39 := cf24.other W34 (Or.inl (Ne.symm nx1))
  have cf40 := cf25.other W34 (Or.inl (Ne.symm nx1))
  have cf41 := cf26.other W34 (Ne.symm nxp)
  have cf42 := cf27.other W34 (Ne.symm nxt)
  have cf43 := cf28.wr W34
  have cf44 := cf29.wr W34
  have cf45 := cf30.other W34 (Or.inl (Ne.symm nxA))
  have cf46 := cf31.other W34 (Or.inr (slot_ne (Or.inr (own_w hw 96 rfl)) (Or.inr (own_w hw 117 rfl)) (by decide) (t := (.object "com/example/substring_search/substringsearch/UnitSearch")) (t' := .int) (by decide) (by decide)))
  have cf47 := F18.other W34 (Or.inr (slot_ne (Or.inr (own_w hw 98 rfl)) (Or.inr (own_w hw 117 rfl)) (by decide) (t := .int) (t' := .int) (by decide) (by decide)))
  have Z_34 : n0 ≤ h34.size := Nat.le_trans Z_18 (Keep.of_wr W34).1
  have K_34 : Keep h0 h34 [x0] := K_18.wr W34 (own_i 0 rfl)
  have N34 := Fr.snoc X34 N18 g_x0
  refine own_go T34 m 45 #[rv x0, rv x1] [] (st34) ?_
  refine own_retV X34 hx hlk hret (hb hby d11_45) (by decide) (by decide) ?_
  rw [e34]
  exact ⟨rfl, N34, K_34, cf35, cf36, cf37⟩
theorem d17_0 : decode prog_11_method_4_code 0 = .ok (.aload_n 0, 1) := by decide +kernel
theorem d17_1 : decode prog_11_method_4_code 1 = .ok (.iload_n 2, 1) := by decide +kernel
theorem d17_2 : decode prog_11_method_4_code 2 = .ok (.putfield 46, 3) := by decide +kernel
theorem d17_5 : decode prog_11_method_4_code 5 = .ok (.aload_n 0, 1) := by decide +kernel
theorem d17_6 : decode prog_11_method_4_code 6 = .ok (.dup, 1) := by decide +kernel
theorem d17_7 : decode prog_11_method_4_code 7 = .ok (.getfield 42, 3) := by decide +kernel
theorem d17_10 : decode prog_11_method_4_code 10 = .ok (.iload_n 1, 1) := by decide +kernel
theorem d17_11 : decode prog_11_method_4_code 11 = .ok (.i2l, 1) := by decide +kernel
theorem d17_12 : decode prog_11_method_4_code 12 = .ok (.ladd, 1) := by decide +kernel
theorem d17_13 : decode prog_11_method_4_code 13 = .ok (.putfield 42, 3) := by decide +kernel
theorem d17_16 : decode prog_11_method_4_code 16 = .ok (.return_, 1) := by decide +kernel
theorem pf_com_example_substring_search_substringsearch_UnitScanner_passOver__II_V : plainFor (⟨"com/example/substring_search/substringsearch/UnitScanner", "passOver", "(II)V"⟩ : MethodName) = true := by first | exact plainFor_of_name (by first | (simp [plainName, overriddenIn]; done) | decide +kernel) | exact Jvm.Free.JP.mathPlain rfl (by decide +kernel) | decide +kernel
theorem ef_rm17 (m : MethodId) (q0 : Addr) (q1 : Int32) (q2 : Int32) : entryFrame m #[(.ref q0), (.int q1), (.int q2)] 3 = mkF m 0 #[rv q0, iv q1, iv q2] [] := by first | (simp [entryFrame, mkF, argsToLocals, Value.category]; done) | rfl
set_option maxRecDepth 65536 in
set_option maxHeartbeats 40000000 in
theorem rm17 (l : Launch) (Z : State) (a0 : Array Value) (hw : ∀ d ∈ tables_1, d.before a0 Z = true) (ws : List Jvm.Cond) (x0 : Addr) (x1 : Int32) (x2 : Int32) (u1 : Int64) (u2 : Int32) (h0 : Heap) (n0 : Nat) (Z0 : n0 ≤ h0.size) (E_x0 : Exa Z h0 x0 "com/example/substring_search/substringsearch/UnitScanner") (g_x0 : n0 ≤ x0) (F_position_x0 : Fld Z h0 x0 "com/example/substring_search/substringsearch/UnitScanner" "position" "J" (.long u1)) (F_matched_x0 : Fld Z h0 x0 "com/example/substring_search/substringsearch/UnitScanner" "matched" "I" (.int u2)) :
    OwnC l Z (⟨"com/example/substring_search/substringsearch/UnitScanner", "passOver", "(II)V"⟩ : MethodName) prog_11_method_4_code 3 none ws ({ frames := 0, cells := 0, slots := 0, locals := 0 } : Room) #[(.ref x0), (.int x1), (.int x2)] h0 (fun v h L => v = none ∧ Fr n0 L ∧ Keep h0 h [x0] ∧ Exa Z h x0 "com/example/substring_search/substringsearch/UnitScanner" ∧ Fld Z h x0 "com/example/substring_search/substringsearch/UnitScanner" "position" "J" (.long (u1 + x1.toInt64)) ∧ Fld Z h x0 "com/example/substring_search/substringsearch/UnitScanner" "matched" "I" (.int x2)) := by
  refine own_entry pf_com_example_substring_search_substringsearch_UnitScanner_passOver__II_V (fun m => ef_rm17 m x0 x1 x2) ?_
  intro p e s m below meth c T0 X0 hC e0
  obtain ⟨hx, hby, hml, hown, hnm, hret, hlk, hZ⟩ := hC
  have N0 := Fr.nil n0
  have K0 := Keep.refl h0 [x0]
  refine own_go T0 m 1 #[rv x0, iv x1, iv x2] [(.ref x0)] (fun t k => XS.aloadN X0.here hx rfl (hb hby d17_0) rfl rfl k) ?_
  refine own_go T0 m 2 #[rv x0, iv x1, iv x2] [(.int x2), (.ref x0)] (fun t k => XS.iloadN X0.here hx rfl (hb hby d17_1) rfl k) ?_
  obtain ⟨T1, h1, X1, e1, W1, st1⟩ := putF X0 hx hZ hown (host := "") (Or.inl (own_w hw 130 rfl)) Via.refl e0 F_matched_x0 E_x0 (Or.inl (own_w hw 131 rfl)) (own_w hw 84 rfl) (ty := .int) (by decide) rfl rfl (g := (mkF m 2 #[rv x0, iv x1, iv x2] [(.int x2), (.ref x0)])) rfl rfl (hb hby d17_2)
  have F1 := F_matched_x0.same W1
  have cf2 := E_x0.wr W1
  have cf3 := F_position_x0.other W1 (Or.inr (slot_ne (Or.inl (own_w hw 124 rfl)) (Or.inl (own_w hw 131 rfl)) (by decide) (t := .long) (t' := .int) (by decide) (by decide)))
  have Z_1 : n0 ≤ h1.size := Nat.le_trans Z0 (Keep.of_wr W1).1
  have K_1 : Keep h0 h1 [x0] := K0.wr W1 (own_i 0 rfl)
  have N1 := Fr.snoc X1 N0 g_x0
  refine own_go T1 m 5 #[rv x0, iv x1, iv x2] [] (st1) ?_
  refine own_go T1 m 6 #[rv x0, iv x1, iv x2] [(.ref x0)] (fun t k => XS.aloadN X1.here hx rfl (hb hby d17_5) rfl rfl k) ?_
  refine own_go T1 m 7 #[rv x0, iv x1, iv x2] [(.ref x0), (.ref x0)] (fun t k => XS.dup X1.here hx rfl (hb hby d17_6) rfl rfl k) ?_
  obtain ⟨T4, X4, e4, st4⟩ := getF X1 hx hZ hown (host := "") (Or.inl (own_w hw 123 rfl)) Via.refl e1 cf3 (g := (mkF m 7 #[rv x0, iv x1, iv x2] [(.ref x0), (.ref x0)])) rfl rfl (hb hby d17_7)
  refine own_go T4 m 10 #[rv x0, iv x1, iv x2] [(.long u1), (.ref x0)] (st4) ?_
  refine own_go T4 m 11 #[rv x0, iv x1, iv x2] [(.int x1), (.long u1), (.ref x0)] (fun t k => XS.iloadN X4.here hx rfl (hb hby d17_10) rfl k) ?_
  refine own_go T4 m 12 #[rv x0, iv x1, iv x2] [(.long x1.toInt64), (.long u1), (.ref x0)] (fun t k => XS.i2l X4.here hx rfl (hb hby d17_11) rfl k) ?_
  refine own_go T4 m 13 #[rv x0, iv x1, iv x2] [(.long (u1 + x1.toInt64)), (.ref x0)] (fun t k => XS.ladd X4.here hx rfl (hb hby d17_12) rfl k) ?_
  obtain ⟨T5, h5, X5, e5, W5, st5⟩ := putF X4 hx hZ hown (host := "") (Or.inl (own_w hw 123 rfl)) Via.refl e4 cf3 cf2 (Or.inl (own_w hw 124 rfl)) (own_w hw 84 rfl) (ty := .long) (by decide) rfl rfl (g := (mkF m 13 #[rv x0, iv x1, iv x2] [(.long (u1 + x1.toInt64)), (.ref x0)])) rfl rfl (hb hby d17_13)
  have F5 := cf3.same W5
  have cf6 := cf2.wr W5
  have cf7 := F1.other W5 (Or.inr (slot_ne (Or.inl (own_w hw 131 rfl)) (Or.inl (own_w hw 124 rfl)) (by decide) (t := .int) (t' := .long) (by decide) (by decide)))
  have Z_5 : n0 ≤ h5.size := Nat.le_trans Z_1 (Keep.of_wr W5).1
  have K_5 : Keep h0 h5 [x0] := K_1.wr W5 (own_i 0 rfl)
  have N5 := Fr.snoc X5 N1 g_x0
  refine own_go T5 m 16 #[rv x0, iv x1, iv x2] [] (st5) ?_
  refine own_retV X5 hx hlk hret (hb hby d17_16) (by decide) (by decide) ?_
  rw [e5]
  exact ⟨rfl, N5, K_5, cf6, F5, cf7⟩
theorem pf_com_example_substring_search_substringsearch_UnitScannerPassOverPinLaw_law__IIIII_Z : plainFor (⟨"com/example/substring_search/substringsearch/UnitScannerPassOverPinLaw", "law", "(IIIII)Z"⟩ : MethodName) = true := by first | exact plainFor_of_name (by first | (simp [plainName, overriddenIn]; done) | decide +kernel) | exact Jvm.Free.JP.mathPlain rfl (by decide +kernel) | decide +kernel
theorem ef_rm0 (m : MethodId) (q0 : Int32) (q1 : Int32) (q2 : Int32) (q3 : Int32) (q4 : Int32) : entryFrame m #[(.int q0), (.int q1), (.int q2), (.int q3), (.int q4)] maxLocals = mkF m 0 #[iv q0, iv q1, iv q2, iv q3, iv q4, .unset, .unset, .unset, .unset] [] := by first | (simp [entryFrame, mkF, argsToLocals, Value.category, maxLocals]; done) | rfl
set_option maxRecDepth 65536 in
set_option maxHeartbeats 40000000 in
theorem rm0 (l : Launch) (Z : State) (a0 : Array Value) (hw : ∀ d ∈ tables_1, d.before a0 Z = true) (ws : List Jvm.Cond) (x0 : Int32) (x1 : Int32) (x2 : Int32) (x3 : Int32) (x4 : Int32) (aA : Addr) (h0 : Heap) (n0 : Nat) (Z0 : n0 ≤ h0.size) (S_ALL : Sta Z h0 "com/example/substring_search/substringsearch/UnitSearch$Occurrences" "ALL" "Lcom/example/substring_search/substringsearch/UnitSearch$Occurrences;" (.ref aA)) (E_aA : Exa Z h0 aA "com/example/substring_search/substringsearch/UnitSearch$Occurrences") (F_oA : Fld Z h0 aA "java/lang/Enum" "ordinal" "I" (.int 0)) :
    OwnC l Z x code maxLocals ret ws room_1 #[(.int x0), (.int x1), (.int x2), (.int x3), (.int x4)] h0 (fun v h L => v = some (.int 1) ∧ Fr n0 L) := by
  refine own_entry pf_com_example_substring_search_substringsearch_UnitScannerPassOverPinLaw_law__IIIII_Z (fun m => ef_rm0 m x0 x1 x2 x3 x4) ?_
  intro p e s m below meth c T0 X0 hC e0
  obtain ⟨hx, hby, hml, hown, hnm, hret, hlk, hZ⟩ := hC
  have hml : c.maxLocals = 9 := hml
  have N0 := Fr.nil n0
  refine own_go T0 m 1 #[iv x0, iv x1, iv x2, iv x3, iv x4, .unset, .unset, .unset, .unset] [(.int 1)] (fun t k => XS.iconst X0.here hx rfl (hb hby at_0) k) ?_
  obtain ⟨T1, h1, k1, X1, e1, E1, A1, st1⟩ := newP X0 hx hZ (own_w hw 0 rfl) e0 (g := (mkF m 1 #[iv x0, iv x1, iv x2, iv x3, iv x4, .unset, .unset, .unset, .unset] [(.int 1)])) rfl (hb hby at_1) rfl (by decide) (cap := 1) (by decide) (by decide) (by decide) (by decide)
  obtain ⟨b1, g1⟩ : ∃ z, z = h0.size := ⟨_, rfl⟩
  rw [← g1] at A1 st1
  have ne_aA_b1 : aA ≠ b1 := Nat.ne_of_lt (Nat.lt_of_lt_of_eq E_aA.lt g1.symm)
  have g_b1 : n0 ≤ b1 := Nat.le_trans Z0 (Nat.le_of_eq g1.symm)
  have cf2 := S_ALL.ext E1
  have cf3 := E_aA.ext E1
  have cf4 := F_oA.ext E1
  have Z_1 : n0 ≤ h1.size := Nat.le_trans Z0 E1.1
  have V_b1 : Arv Z h1 b1 k1 .int (1 : Int32) [(.int 0)] (.int 0) := (Arv.new A1 (by decide)).pad (pad_rep [] (.int 0) 1)
  refine own_go T1 m 3 #[iv x0, iv x1, iv x2, iv x3, iv x4, .unset, .unset, .unset, .unset] [(.ref b1)] (st1) ?_
  refine own_go T1 m 4 #[iv x0, iv x1, iv x2, iv x3, iv x4, .unset, .unset, .unset, .unset] [(.ref b1), (.ref b1)] (fun t k => XS.dup X1.here hx rfl (hb hby at_3) rfl rfl k) ?_
  refine own_go T1 m 5 #[iv x0, iv x1, iv x2, iv x3, iv x4, .unset, .unset, .unset, .unset] [(.int 0), (.ref b1), (.ref b1)] (fun t k => XS.iconst X1.here hx rfl (hb hby at_4) k) ?_
  refine own_go T1 m 6 #[iv x0, iv x1, iv x2, iv x3, iv x4, .unset, .unset, .unset, .unset] [(.int x0), (.int 0), (.ref b1), (.ref b1)] (fun t k => XS.iloadN X1.here hx rfl (hb hby at_5) rfl k) ?_
  refine own_go T1 m 8 #[iv x0, iv x1, iv x2, iv x3, iv x4, .unset, .unset, .unset, .unset] [(.int 65535), (.int x0), (.int 0), (.ref b1), (.ref b1)] (X1.ldcInt hx hown (mvT hZ (own_w hw 1 rfl)) (g := (mkF m 6 #[iv x0, iv x1, iv x2, iv x3, iv x4, .unset, .unset, .unset, .unset] [(.int x0), (.int 0), (.ref b1), (.ref b1)])) rfl (hb hby at_6)) ?_
  refine own_go T1 m 9 #[iv x0, iv x1, iv x2, iv x3, iv x4, .unset, .unset, .unset, .unset] [(.int (x0 &&& (65535 : Int32))), (.int 0), (.ref b1), (.ref b1)] (fun t k => XS.iand X1.here hx rfl (hb hby at_8) rfl k) ?_
  obtain ⟨p0, hd_p0⟩ : ∃ z, z = (x0 &&& (65535 : Int32)) := ⟨_, rfl⟩
  rw [← hd_p0]
  obtain ⟨T5, h5, X5, e5, W5, V5, st5⟩ := own_iastore X1 hx hZ e1 V_b1 (j := (0 : Int32)) ⟨by decide, by decide⟩ 0 rfl (Nat.le_of_ble_eq_true rfl) (Ls := #[iv x0, iv x1, iv x2, iv x3, iv x4, .unset, .unset, .unset, .unset]) (rest := [(.ref b1)]) (x := p0) (hb hby at_9)
  replace V5 : Arv Z h5 b1 k1 .int (1 : Int32) [(.int p0)] (.int 0) := V5
  have cf6 := cf2.wr W5
  have cf7 := cf3.wr W5
  have cf8 := cf4.other W5 (Or.inl ne_aA_b1)
  have Z_5 : n0 ≤ h5.size := Nat.le_trans Z_1 (Keep.of_wr W5).1
  have N5 := Fr.snoc X5 N0 g_b1
  refine own_go T5 m 10 #[iv x0, iv x1, iv x2, iv x3, iv x4, .unset, .unset, .unset, .unset] [(.ref b1)] (st5) ?_
  refine own_go T5 m 12 #[iv x0, iv x1, iv x2, iv x3, iv x4, rv b1, .unset, .unset, .unset] [] (fun t k => XS.astore X5.here hx rfl (hb hby at_10) rfl rfl rfl k) ?_
  obtain ⟨T9, h9, X9, e9, E9, A9, D9, -, st9⟩ := newO X5 hx hZ hown (own_w hw 2 rfl) (own_w hw 3 rfl) (own_w hw 4 rfl) e5 (g := (mkF m 12 #[iv x0, iv x1, iv x2, iv x3, iv x4, rv b1, .unset, .unset, .unset] [])) rfl (hb hby at_12) (by decide) (by decide)
  obtain ⟨b9, g9⟩ : ∃ z, z = h5.size := ⟨_, rfl⟩
  rw [← g9] at A9 D9 st9
  have ne_aA_b9 : aA ≠ b9 := Nat.ne_of_lt (Nat.lt_of_lt_of_eq cf7.lt g9.symm)
  have ne_b1_b9 : b1 ≠ b9 := Nat.ne_of_lt (Nat.lt_of_lt_of_eq V5.lt g9.symm)
  have g_b9 : n0 ≤ b9 := Nat.le_trans Z_5 (Nat.le_of_eq g9.symm)
  have cf10 := cf6.ext E9
  have cf11 := cf7.ext E9
  have cf12 := cf8.ext E9
  have cf13 := V5.ext E9
  have Z_9 : n0 ≤ h9.size := Nat.le_trans Z_5 E9.1
  have F_pattern_9 : Fld Z h9 b9 "com/example/substring_search/substringsearch/UnitSearch" "pattern" "[I" .null := D9 (Or.inr (own_w hw 12 rfl)) (ty := (.array .int)) (by decide)
  have F_units_9 : Fld Z h9 b9 "com/example/substring_search/substringsearch/UnitSearch" "units" "Lcom/example/substring_search/substringsearch/Units;" .null := D9 (Or.inr (own_w hw 34 rfl)) (ty := (.object "com/example/substring_search/substringsearch/Units")) (by decide)
  have F_table_9 : Fld Z h9 b9 "com/example/substring_search/substringsearch/UnitSearch" "table" "[I" .null := D9 (Or.inr (own_w hw 40 rfl)) (ty := (.array .int)) (by decide)
  have F_starts_9 : Fld Z h9 b9 "com/example/substring_search/substringsearch/UnitSearch" "starts" "Lcom/example/substring_search/substringsearch/StartScan;" .null := D9 (Or.inr (own_w hw 82 rfl)) (ty := (.object "com/example/substring_search/substringsearch/StartScan")) (by decide)
  refine own_go T9 m 15 #[iv x0, iv x1, iv x2, iv x3, iv x4, rv b1, .unset, .unset, .unset] [(.ref b9)] (st9) ?_
  refine own_go T9 m 16 #[iv x0, iv x1, iv x2, iv x3, iv x4, rv b1, .unset, .unset, .unset] [(.ref b9), (.ref b9)] (fun t k => XS.dup X9.here hx rfl (hb hby at_15) rfl rfl k) ?_
  refine own_go T9 m 18 #[iv x0, iv x1, iv x2, iv x3, iv x4, rv b1, .unset, .unset, .unset] [(.ref b1), (.ref b9), (.ref b9)] (fun t k => XS.aload X9.here hx rfl (hb hby at_16) rfl rfl k) ?_
  obtain ⟨_, T14, L14, X14, ⟨rfl, Nq14, Kq14, Aq14, Fp14, t14, k14, Ft14, Vt14⟩, st14⟩ := own_init X9 hx hZ (y := (⟨"com/example/substring_search/substringsearch/UnitSearch", "<init>", "([I)V"⟩ : MethodName)) rfl hown (own_w hw 5 rfl) (own_w hw 6 rfl) (own_w hw 4 rfl) (own_w hw 7 rfl) (by decide) (rm1 l Z a0 hw [] b9 b1 k1 p0 h9 n0 Z_9 A9 g_b9 F_pattern_9 F_units_9 F_table_9 F_starts_9 (Ne.symm ne_b1_b9) cf13) e9 (a := b9) 1 (argsL := [(.ref b1)]) (rest := [(.ref b9)]) (Ls := #[iv x0, iv x1, iv x2, iv x3, iv x4, rv b1, .unset, .unset, .unset]) (by rw [hml]; rfl) (lenOf pd___I_V rfl) rfl rfl (Nat.le_of_eq rfl) (hb hby at_18) (by decide) (by decide) (by decide) (by decide)
  have N14 := Fr.app N5 Nq14
  have cf15 := own_sta_keep1 cf10 Kq14 A9
  have cf16 := cf11.keep Kq14
  have cf17 := cf12.keep Kq14 (ninS ne_aA_b9 nin0)
  have cf18 := cf13.keep Kq14 (ninS ne_b1_b9 nin0)
  have cf19 := A9.keep Kq14
  have Z_14 : n0 ≤ T14.heap.size := Nat.le_trans Z_9 Kq14.1
  refine own_go T14 m 21 #[iv x0, iv x1, iv x2, iv x3, iv x4, rv b1, .unset, .unset, .unset] [(.ref b9)] (st14) ?_
  refine own_go T14 m 23 #[iv x0, iv x1, iv x2, iv x3, iv x4, rv b1, rv b9, .unset, .unset] [] (fun t k => XS.astore X14.here hx rfl (hb hby at_21) rfl rfl rfl k) ?_
  obtain ⟨T20, h20, X20, e20, E20, A20, D20, -, st20⟩ := newO X14 hx hZ hown (own_w hw 83 rfl) (own_w hw 84 rfl) (own_w hw 85 rfl) rfl (g := (mkF m 23 #[iv x0, iv x1, iv x2, iv x3, iv x4, rv b1, rv b9, .unset, .unset] [])) rfl (hb hby at_23) (by decide) (by decide)
  obtain ⟨b20, g20⟩ : ∃ z, z = T14.heap.size := ⟨_, rfl⟩
  rw [← g20] at A20 D20 st20
  have ne_aA_b20 : aA ≠ b20 := Nat.ne_of_lt (Nat.lt_of_lt_of_eq cf16.lt g20.symm)
  have ne_b1_b20 : b1 ≠ b20 := Nat.ne_of_lt (Nat.lt_of_lt_of_eq cf18.lt g20.symm)
  have ne_b9_b20 : b9 ≠ b20 := Nat.ne_of_lt (Nat.lt_of_lt_of_eq Aq14.lt g20.symm)
  have ne_t14_b20 : t14 ≠ b20 := Nat.ne_of_lt (Nat.lt_of_lt_of_eq Vt14.lt g20.symm)
  have g_b20 : n0 ≤ b20 := Nat.le_trans Z_14 (Nat.le_of_eq g20.symm)
  have cf21 := cf15.ext E20
  have cf22 := cf16.ext E20
  have cf23 := cf17.ext E20
  have cf24 := cf18.ext E20
  have cf25 := Aq14.ext E20
  have cf26 := Fp14.ext E20
  have cf27 := Ft14.ext E20
  have cf28 := Vt14.ext E20
  have Z_20 : n0 ≤ h20.size := Nat.le_trans Z_14 E20.1
  have F_search_20 : Fld Z h20 b20 "com/example/substring_search/substringsearch/UnitScanner" "search" "Lcom/example/substring_search/substringsearch/UnitSearch;" .null := D20 (Or.inr (own_w hw 96 rfl)) (ty := (.object "com/example/substring_search/substringsearch/UnitSearch")) (by decide)
  have F_patternLength_20 : Fld Z h20 b20 "com/example/substring_search/substringsearch/UnitScanner" "patternLength" "I" (.int 0) := D20 (Or.inr (own_w hw 98 rfl)) (ty := .int) (by decide)
  have F_afterAnOccurrence_20 : Fld Z h20 b20 "com/example/substring_search/substringsearch/UnitScanner" "afterAnOccurrence" "I" (.int 0) := D20 (Or.inr (own_w hw 117 rfl)) (ty := .int) (by decide)
  have F_position_20 : Fld Z h20 b20 "com/example/substring_search/substringsearch/UnitScanner" "position" "J" (.long 0) := D20 (Or.inl (own_w hw 124 rfl)) (ty := .long) (by decide)
  have F_matched_20 : Fld Z h20 b20 "com/example/substring_search/substringsearch/UnitScanner" "matched" "I" (.int 0) := D20 (Or.inl (own_w hw 131 rfl)) (ty := .int) (by decide)
  refine own_go T20 m 26 #[iv x0, iv x1, iv x2, iv x3, iv x4, rv b1, rv b9, .unset, .unset] [(.ref b20)] (st20) ?_
  refine own_go T20 m 27 #[iv x0, iv x1, iv x2, iv x3, iv x4, rv b1, rv b9, .unset, .unset] [(.ref b20), (.ref b20)] (fun t k => XS.dup X20.here hx rfl (hb hby at_26) rfl rfl k) ?_
  refine own_go T20 m 29 #[iv x0, iv x1, iv x2, iv x3, iv x4, rv b1, rv b9, .unset, .unset] [(.ref b9), (.ref b20), (.ref b20)] (fun t k => XS.aload X20.here hx rfl (hb hby at_27) rfl rfl k) ?_
  obtain ⟨_, T29, L29, X29, ⟨rfl, Nq29, Kq29, Aq29, Fo29, Fm29⟩, st29⟩ := own_init X20 hx hZ (y := (⟨"com/example/substring_search/substringsearch/UnitScanner", "<init>", "(Lcom/example/substring_search/substringsearch/UnitSearch;)V"⟩ : MethodName)) rfl hown (own_w hw 86 rfl) (own_w hw 87 rfl) (own_w hw 85 rfl) (own_w hw 88 rfl) (by decide) (rm11 l Z a0 hw [] b20 b9 b1 t14 aA k1 k14 p0 h20 n0 Z_20 A20 g_b20 F_search_20 F_patternLength_20 F_afterAnOccurrence_20 F_position_20 F_matched_20 cf25 cf26 cf27 cf24 cf28 cf21 cf22 cf23 (Ne.symm ne_b9_b20) (Ne.symm ne_b1_b20) (Ne.symm ne_t14_b20) (Ne.symm ne_aA_b20)) e20 (a := b20) 1 (argsL := [(.ref b9)]) (rest := [(.ref b20)]) (Ls := #[iv x0, iv x1, iv x2, iv x3, iv x4, rv b1, rv b9, .unset, .unset]) (by rw [hml]; rfl) (lenOf pd__Lcom_example_substring_search_substringsearch_UnitSearch__V rfl) rfl rfl (Nat.le_of_eq rfl) (hb hby at_29) (by decide) (by decide) (by decide) (by decide)
  have N29 := Fr.app N14 Nq29
  have cf30 := own_sta_keep1 cf21 Kq29 A20
  have cf31 := cf22.keep Kq29
  have cf32 := cf23.keep Kq29 (ninS ne_aA_b20 nin0)
  have cf33 := cf24.keep Kq29 (ninS ne_b1_b20 nin0)
  have cf34 := cf25.keep Kq29
  have cf35 := cf26.keep Kq29 (ninS ne_b9_b20 nin0)
  have cf36 := cf27.keep Kq29 (ninS ne_b9_b20 nin0)
  have cf37 := cf28.keep Kq29 (ninS ne_t14_b20 nin0)
  have cf38 := A20.keep Kq29
  have Z_29 : n0 ≤ T29.heap.size := Nat.le_trans Z_20 Kq29.1
  refine own_go T29 m 32 #[iv x0, iv x1, iv x2, iv x3, iv x4, rv b1, rv b9, .unset, .unset] [(.ref b20)] (st29) ?_
  refine own_go T29 m 34 #[iv x0, iv x1, iv x2, iv x3, iv x4, rv b1, rv b9, rv b20, .unset] [] (fun t k => XS.astore X29.here hx rfl (hb hby at_32) rfl rfl rfl k) ?_
  refine own_go T29 m 36 #[iv x0, iv x1, iv x2, iv x3, iv x4, rv b1, rv b9, rv b20, .unset] [(.ref b20)] (fun t k => XS.aload X29.here hx rfl (hb hby at_34) rfl rfl k) ?_
  obtain ⟨_, T39, L39, X39, ⟨rfl, e39, rfl⟩, st39⟩ := own_virtual X29 hx hZ (y := (⟨"com/example/substring_search/substringsearch/UnitScanner", "position", "()J"⟩ : MethodName)) (z := (⟨"com/example/substring_search/substringsearch/UnitScanner", "position", "()J"⟩ : MethodName)) hown (own_w hw 118 rfl) (own_w hw 119 rfl) (notFace_of_selects (args := #[]) (mvT hZ (own_w hw 121 rfl))) (own_w hw 121 rfl) (own_w hw 120 rfl) (own_w hw 85 rfl) (own_w hw 122 rfl) (by decide) (rm15 l Z a0 hw [] b20 (0 : Int64) T29.heap Fo29) rfl Aq29 0 (argsL := []) (rest := []) (Ls := #[iv x0, iv x1, iv x2, iv x3, iv x4, rv b1, rv b9, rv b20, .unset]) (by rw [hml]; rfl) (lenOf pd___J rfl) rfl rfl (Nat.le_of_eq rfl) (hb hby at_36) (by decide) (by decide) (by decide) (by decide)
  replace X39 := own_nil X39
  refine own_go T39 m 39 #[iv x0, iv x1, iv x2, iv x3, iv x4, rv b1, rv b9, rv b20, .unset] [(.long 0)] (st39) ?_
  refine own_go T39 m 40 #[iv x0, iv x1, iv x2, iv x3, iv x4, rv b1, rv b9, rv b20, .unset] [(.long 0), (.long 0)] (fun t k => XS.lconst X39.here hx rfl (hb hby at_39) k) ?_
  refine own_go T39 m 41 #[iv x0, iv x1, iv x2, iv x3, iv x4, rv b1, rv b9, rv b20, .unset] [(.int (lcmpW (0 : Int64) (0 : Int64)))] (fun t k => XS.lcmp X39.here hx rfl (hb hby at_40) rfl k) ?_
  refine own_go T39 m 44 #[iv x0, iv x1, iv x2, iv x3, iv x4, rv b1, rv b9, rv b20, .unset] [] (fun t k => XS.ifNo X39.here hx rfl (hb hby at_41) rfl ((if0 _ _).trans (teq ((lw_eq (0 : Int64) (0 : Int64)).mpr (by decide))).2) k) ?_
  refine own_go T39 m 46 #[iv x0, iv x1, iv x2, iv x3, iv x4, rv b1, rv b9, rv b20, .unset] [(.ref b20)] (fun t k => XS.aload X39.here hx rfl (hb hby at_44) rfl rfl k) ?_
  obtain ⟨_, T40, L40, X40, ⟨rfl, e40, rfl⟩, st40⟩ := own_virtual X39 hx hZ (y := (⟨"com/example/substring_search/substringsearch/UnitScanner", "matched", "()I"⟩ : MethodName)) (z := (⟨"com/example/substring_search/substringsearch/UnitScanner", "matched", "()I"⟩ : MethodName)) hown (own_w hw 125 rfl) (own_w hw 126 rfl) (notFace_of_selects (args := #[]) (mvT hZ (own_w hw 128 rfl))) (own_w hw 128 rfl) (own_w hw 127 rfl) (own_w hw 85 rfl) (own_w hw 129 rfl) (by decide) (rm16 l Z a0 hw [] b20 (0 : Int32) T29.heap Fm29) e39 Aq29 0 (argsL := []) (rest := []) (Ls := #[iv x0, iv x1, iv x2, iv x3, iv x4, rv b1, rv b9, rv b20, .unset]) (by rw [hml]; rfl) (lenOf pd___I rfl) rfl rfl (Nat.le_of_eq rfl) (hb hby at_46) (by decide) (by decide) (by decide) (by decide)
  replace X40 := own_nil X40
  refine own_go T40 m 49 #[iv x0, iv x1, iv x2, iv x3, iv x4, rv b1, rv b9, rv b20, .unset] [(.int 0)] (st40) ?_
  refine own_go T40 m 52 #[iv x0, iv x1, iv x2, iv x3, iv x4, rv b1, rv b9, rv b20, .unset] [] (fun t k => XS.ifNo X40.here hx rfl (hb hby at_49) rfl ((if0 _ _).trans (teq (by decide)).2) k) ?_
  refine own_go T40 m 53 #[iv x0, iv x1, iv x2, iv x3, iv x4, rv b1, rv b9, rv b20, .unset] [(.int 1)] (fun t k => XS.iconst X40.here hx rfl (hb hby at_52) k) ?_
  refine own_go T40 m 57 #[iv x0, iv x1, iv x2, iv x3, iv x4, rv b1, rv b9, rv b20, .unset] [(.int 1)] (fun t k => XS.goto X40.here hx rfl (pc0 := 53) (pc' := 57) rfl (hb hby at_53) (by decide) (by decide) k) ?_
  refine own_go T40 m 59 #[iv x0, iv x1, iv x2, iv x3, iv x4, rv b1, rv b9, rv b20, iv 1] [] (fun t k => XS.istore X40.here hx rfl (hb hby at_57) rfl rfl k) ?_
  refine own_go T40 m 61 #[iv x0, iv x1, iv x2, iv x3, iv x4, rv b1, rv b9, rv b20, iv 1] [(.ref b20)] (fun t k => XS.aload X40.here hx rfl (hb hby at_59) rfl rfl k) ?_
  refine own_go T40 m 62 #[iv x0, iv x1, iv x2, iv x3, iv x4, rv b1, rv b9, rv b20, iv 1] [(.int x1), (.ref b20)] (fun t k => XS.iloadN X40.here hx rfl (hb hby at_61) rfl k) ?_
  refine own_go T40 m 63 #[iv x0, iv x1, iv x2, iv x3, iv x4, rv b1, rv b9, rv b20, iv 1] [(.int x2), (.int x1), (.ref b20)] (fun t k => XS.iloadN X40.here hx rfl (hb hby at_62) rfl k) ?_
  obtain ⟨_, T41, L41, X41, ⟨rfl, Nq41, Kq41, Aq41, Fo41, Fm41⟩, st41⟩ := own_virtual X40 hx hZ (y := (⟨"com/example/substring_search/substringsearch/UnitScanner", "passOver", "(II)V"⟩ : MethodName)) (z := (⟨"com/example/substring_search/substringsearch/UnitScanner", "passOver", "(II)V"⟩ : MethodName)) hown (own_w hw 132 rfl) (own_w hw 133 rfl) (notFace_of_selects (args := #[]) (mvT hZ (own_w hw 135 rfl))) (own_w hw 135 rfl) (own_w hw 134 rfl) (own_w hw 85 rfl) (own_w hw 136 rfl) (by decide) (rm17 l Z a0 hw [] b20 x1 x2 (0 : Int64) (0 : Int32) T29.heap n0 Z_29 Aq29 g_b20 Fo29 Fm29) e40 Aq29 0 (argsL := [(.int x1), (.int x2)]) (rest := []) (Ls := #[iv x0, iv x1, iv x2, iv x3, iv x4, rv b1, rv b9, rv b20, iv 1]) (by rw [hml]; rfl) (lenOf pd__II_V rfl) rfl rfl (Nat.le_of_eq rfl) (hb hby at_63) (by decide) (by decide) (by decide) (by decide)
  have N41 := Fr.app N29 Nq41
  have cf42 := own_sta_keep1 cf30 Kq41 Aq29
  have cf43 := cf31.keep Kq41
  have cf44 := cf32.keep Kq41 (ninS ne_aA_b20 nin0)
  have cf45 := cf33.keep Kq41 (ninS ne_b1_b20 nin0)
  have cf46 := cf34.keep Kq41
  have cf47 := cf35.keep Kq41 (ninS ne_b9_b20 nin0)
  have cf48 := cf36.keep Kq41 (ninS ne_b9_b20 nin0)
  have cf49 := cf37.keep Kq41 (ninS ne_t14_b20 nin0)
  have cf50 := Aq29.keep Kq41
  have Z_41 : n0 ≤ T41.heap.size := Nat.le_trans Z_29 Kq41.1
  rw [Int64.zero_add] at Fo41
  refine own_go T41 m 66 #[iv x0, iv x1, iv x2, iv x3, iv x4, rv b1, rv b9, rv b20, iv 1] [] (st41) ?_
  refine own_go T41 m 68 #[iv x0, iv x1, iv x2, iv x3, iv x4, rv b1, rv b9, rv b20, iv 1] [(.int 1)] (fun t k => XS.iload X41.here hx rfl (hb hby at_66) rfl k) ?_
  refine own_go T41 m 71 #[iv x0, iv x1, iv x2, iv x3, iv x4, rv b1, rv b9, rv b20, iv 1] [] (fun t k => XS.ifNo X41.here hx rfl (hb hby at_68) rfl ((if0 _ _).trans (feq (by decide)).1) k) ?_
  refine own_go T41 m 73 #[iv x0, iv x1, iv x2, iv x3, iv x4, rv b1, rv b9, rv b20, iv 1] [(.ref b20)] (fun t k => XS.aload X41.here hx rfl (hb hby at_71) rfl rfl k) ?_
  obtain ⟨_, T51, L51, X51, ⟨rfl, e51, rfl⟩, st51⟩ := own_virtual X41 hx hZ (y := (⟨"com/example/substring_search/substringsearch/UnitScanner", "position", "()J"⟩ : MethodName)) (z := (⟨"com/example/substring_search/substringsearch/UnitScanner", "position", "()J"⟩ : MethodName)) hown (own_w hw 118 rfl) (own_w hw 119 rfl) (notFace_of_selects (args := #[]) (mvT hZ (own_w hw 121 rfl))) (own_w hw 121 rfl) (own_w hw 120 rfl) (own_w hw 85 rfl) (own_w hw 122 rfl) (by decide) (rm15 l Z a0 hw [] b20 x1.toInt64 T41.heap Fo41) rfl Aq41 0 (argsL := []) (rest := []) (Ls := #[iv x0, iv x1, iv x2, iv x3, iv x4, rv b1, rv b9, rv b20, iv 1]) (by rw [hml]; rfl) (lenOf pd___J rfl) rfl rfl (Nat.le_of_eq rfl) (hb hby at_73) (by decide) (by decide) (by decide) (by decide)
  replace X51 := own_nil X51
  refine own_go T51 m 76 #[iv x0, iv x1, iv x2, iv x3, iv x4, rv b1, rv b9, rv b20, iv 1] [(.long x1.toInt64)] (st51) ?_
  refine own_go T51 m 77 #[iv x0, iv x1, iv x2, iv x3, iv x4, rv b1, rv b9, rv b20, iv 1] [(.int x1), (.long x1.toInt64)] (fun t k => XS.iloadN X51.here hx rfl (hb hby at_76) rfl k) ?_
  refine own_go T51 m 78 #[iv x0, iv x1, iv x2, iv x3, iv x4, rv b1, rv b9, rv b20, iv 1] [(.long x1.toInt64), (.long x1.toInt64)] (fun t k => XS.i2l X51.here hx rfl (hb hby at_77) rfl k) ?_
  refine own_go T51 m 79 #[iv x0, iv x1, iv x2, iv x3, iv x4, rv b1, rv b9, rv b20, iv 1] [(.int (lcmpW x1.toInt64 x1.toInt64))] (fun t k => XS.lcmp X51.here hx rfl (hb hby at_78) rfl k) ?_
  refine own_go T51 m 82 #[iv x0, iv x1, iv x2, iv x3, iv x4, rv b1, rv b9, rv b20, iv 1] [] (fun t k => XS.ifNo X51.here hx rfl (hb hby at_79) rfl ((if0 _ _).trans (teq ((lw_eq x1.toInt64 x1.toInt64).mpr rfl)).2) k) ?_
  refine own_go T51 m 84 #[iv x0, iv x1, iv x2, iv x3, iv x4, rv b1, rv b9, rv b20, iv 1] [(.ref b20)] (fun t k => XS.aload X51.here hx rfl (hb hby at_82) rfl rfl k) ?_
  obtain ⟨_, T52, L52, X52, ⟨rfl, e52, rfl⟩, st52⟩ := own_virtual X51 hx hZ (y := (⟨"com/example/substring_search/substringsearch/UnitScanner", "matched", "()I"⟩ : MethodName)) (z := (⟨"com/example/substring_search/substringsearch/UnitScanner", "matched", "()I"⟩ : MethodName)) hown (own_w hw 125 rfl) (own_w hw 126 rfl) (notFace_of_selects (args := #[]) (mvT hZ (own_w hw 128 rfl))) (own_w hw 128 rfl) (own_w hw 127 rfl) (own_w hw 85 rfl) (own_w hw 129 rfl) (by decide) (rm16 l Z a0 hw [] b20 x2 T41.heap Fm41) e51 Aq41 0 (argsL := []) (rest := []) (Ls := #[iv x0, iv x1, iv x2, iv x3, iv x4, rv b1, rv b9, rv b20, iv 1]) (by rw [hml]; rfl) (lenOf pd___I rfl) rfl rfl (Nat.le_of_eq rfl) (hb hby at_84) (by decide) (by decide) (by decide) (by decide)
  replace X52 := own_nil X52
  refine own_go T52 m 87 #[iv x0, iv x1, iv x2, iv x3, iv x4, rv b1, rv b9, rv b20, iv 1] [(.int x2)] (st52) ?_
  refine own_go T52 m 88 #[iv x0, iv x1, iv x2, iv x3, iv x4, rv b1, rv b9, rv b20, iv 1] [(.int x2), (.int x2)] (fun t k => XS.iloadN X52.here hx rfl (hb hby at_87) rfl k) ?_
  refine own_go T52 m 91 #[iv x0, iv x1, iv x2, iv x3, iv x4, rv b1, rv b9, rv b20, iv 1] [] (fun t k => XS.icmpNo X52.here hx rfl (hb hby at_88) rfl (teq rfl).2 k) ?_
  refine own_go T52 m 92 #[iv x0, iv x1, iv x2, iv x3, iv x4, rv b1, rv b9, rv b20, iv 1] [(.int 1)] (fun t k => XS.iconst X52.here hx rfl (hb hby at_91) k) ?_
  refine own_go T52 m 96 #[iv x0, iv x1, iv x2, iv x3, iv x4, rv b1, rv b9, rv b20, iv 1] [(.int 1)] (fun t k => XS.goto X52.here hx rfl (pc0 := 92) (pc' := 96) rfl (hb hby at_92) (by decide) (by decide) k) ?_
  refine own_go T52 m 98 #[iv x0, iv x1, iv x2, iv x3, iv x4, rv b1, rv b9, rv b20, iv 1] [] (fun t k => XS.istore X52.here hx rfl (hb hby at_96) rfl rfl k) ?_
  refine own_go T52 m 100 #[iv x0, iv x1, iv x2, iv x3, iv x4, rv b1, rv b9, rv b20, iv 1] [(.ref b20)] (fun t k => XS.aload X52.here hx rfl (hb hby at_98) rfl rfl k) ?_
  refine own_go T52 m 101 #[iv x0, iv x1, iv x2, iv x3, iv x4, rv b1, rv b9, rv b20, iv 1] [(.int x3), (.ref b20)] (fun t k => XS.iloadN X52.here hx rfl (hb hby at_100) rfl k) ?_
  refine own_go T52 m 103 #[iv x0, iv x1, iv x2, iv x3, iv x4, rv b1, rv b9, rv b20, iv 1] [(.int x4), (.int x3), (.ref b20)] (fun t k => XS.iload X52.here hx rfl (hb hby at_101) rfl k) ?_
  obtain ⟨_, T53, L53, X53, ⟨rfl, Nq53, Kq53, Aq53, Fo53, Fm53⟩, st53⟩ := own_virtual X52 hx hZ (y := (⟨"com/example/substring_search/substringsearch/UnitScanner", "passOver", "(II)V"⟩ : MethodName)) (z := (⟨"com/example/substring_search/substringsearch/UnitScanner", "passOver", "(II)V"⟩ : MethodName)) hown (own_w hw 132 rfl) (own_w hw 133 rfl) (notFace_of_selects (args := #[]) (mvT hZ (own_w hw 135 rfl))) (own_w hw 135 rfl) (own_w hw 134 rfl) (own_w hw 85 rfl) (own_w hw 136 rfl) (by decide) (rm17 l Z a0 hw [] b20 x3 x4 x1.toInt64 x2 T41.heap n0 Z_41 Aq41 g_b20 Fo41 Fm41) e52 Aq41 0 (argsL := [(.int x3), (.int x4)]) (rest := []) (Ls := #[iv x0, iv x1, iv x2, iv x3, iv x4, rv b1, rv b9, rv b20, iv 1]) (by rw [hml]; rfl) (lenOf pd__II_V rfl) rfl rfl (Nat.le_of_eq rfl) (hb hby at_103) (by decide) (by decide) (by decide) (by decide)
  have N53 := Fr.app N41 Nq53
  have cf54 := own_sta_keep1 cf42 Kq53 Aq41
  have cf55 := cf43.keep Kq53
  have cf56 := cf44.keep Kq53 (ninS ne_aA_b20 nin0)
  have cf57 := cf45.keep Kq53 (ninS ne_b1_b20 nin0)
  have cf58 := cf46.keep Kq53
  have cf59 := cf47.keep Kq53 (ninS ne_b9_b20 nin0)
  have cf60 := cf48.keep Kq53 (ninS ne_b9_b20 nin0)
  have cf61 := cf49.keep Kq53 (ninS ne_t14_b20 nin0)
  have cf62 := Aq41.keep Kq53
  have Z_53 : n0 ≤ T53.heap.size := Nat.le_trans Z_41 Kq53.1
  refine own_go T53 m 106 #[iv x0, iv x1, iv x2, iv x3, iv x4, rv b1, rv b9, rv b20, iv 1] [] (st53) ?_
  refine own_go T53 m 108 #[iv x0, iv x1, iv x2, iv x3, iv x4, rv b1, rv b9, rv b20, iv 1] [(.int 1)] (fun t k => XS.iload X53.here hx rfl (hb hby at_106) rfl k) ?_
  refine own_go T53 m 111 #[iv x0, iv x1, iv x2, iv x3, iv x4, rv b1, rv b9, rv b20, iv 1] [] (fun t k => XS.ifNo X53.here hx rfl (hb hby at_108) rfl ((if0 _ _).trans (feq (by decide)).1) k) ?_
  refine own_go T53 m 113 #[iv x0, iv x1, iv x2, iv x3, iv x4, rv b1, rv b9, rv b20, iv 1] [(.ref b20)] (fun t k => XS.aload X53.here hx rfl (hb hby at_111) rfl rfl k) ?_
  obtain ⟨_, T63, L63, X63, ⟨rfl, e63, rfl⟩, st63⟩ := own_virtual X53 hx hZ (y := (⟨"com/example/substring_search/substringsearch/UnitScanner", "position", "()J"⟩ : MethodName)) (z := (⟨"com/example/substring_search/substringsearch/UnitScanner", "position", "()J"⟩ : MethodName)) hown (own_w hw 118 rfl) (own_w hw 119 rfl) (notFace_of_selects (args := #[]) (mvT hZ (own_w hw 121 rfl))) (own_w hw 121 rfl) (own_w hw 120 rfl) (own_w hw 85 rfl) (own_w hw 122 rfl) (by decide) (rm15 l Z a0 hw [] b20 (x1.toInt64 + x3.toInt64) T53.heap Fo53) rfl Aq53 0 (argsL := []) (rest := []) (Ls := #[iv x0, iv x1, iv x2, iv x3, iv x4, rv b1, rv b9, rv b20, iv 1]) (by rw [hml]; rfl) (lenOf pd___J rfl) rfl rfl (Nat.le_of_eq rfl) (hb hby at_113) (by decide) (by decide) (by decide) (by decide)
  replace X63 := own_nil X63
  refine own_go T63 m 116 #[iv x0, iv x1, iv x2, iv x3, iv x4, rv b1, rv b9, rv b20, iv 1] [(.long (x1.toInt64 + x3.toInt64))] (st63) ?_
  refine own_go T63 m 117 #[iv x0, iv x1, iv x2, iv x3, iv x4, rv b1, rv b9, rv b20, iv 1] [(.int x1), (.long (x1.toInt64 + x3.toInt64))] (fun t k => XS.iloadN X63.here hx rfl (hb hby at_116) rfl k) ?_
  refine own_go T63 m 118 #[iv x0, iv x1, iv x2, iv x3, iv x4, rv b1, rv b9, rv b20, iv 1] [(.long x1.toInt64), (.long (x1.toInt64 + x3.toInt64))] (fun t k => XS.i2l X63.here hx rfl (hb hby at_117) rfl k) ?_
  refine own_go T63 m 119 #[iv x0, iv x1, iv x2, iv x3, iv x4, rv b1, rv b9, rv b20, iv 1] [(.int x3), (.long x1.toInt64), (.long (x1.toInt64 + x3.toInt64))] (fun t k => XS.iloadN X63.here hx rfl (hb hby at_118) rfl k) ?_
  refine own_go T63 m 120 #[iv x0, iv x1, iv x2, iv x3, iv x4, rv b1, rv b9, rv b20, iv 1] [(.long x3.toInt64), (.long x1.toInt64), (.long (x1.toInt64 + x3.toInt64))] (fun t k => XS.i2l X63.here hx rfl (hb hby at_119) rfl k) ?_
  refine own_go T63 m 121 #[iv x0, iv x1, iv x2, iv x3, iv x4, rv b1, rv b9, rv b20, iv 1] [(.long (x1.toInt64 + x3.toInt64)), (.long (x1.toInt64 + x3.toInt64))] (fun t k => XS.ladd X63.here hx rfl (hb hby at_120) rfl k) ?_
  refine own_go T63 m 122 #[iv x0, iv x1, iv x2, iv x3, iv x4, rv b1, rv b9, rv b20, iv 1] [(.int (lcmpW (x1.toInt64 + x3.toInt64) (x1.toInt64 + x3.toInt64)))] (fun t k => XS.lcmp X63.here hx rfl (hb hby at_121) rfl k) ?_
  refine own_go T63 m 125 #[iv x0, iv x1, iv x2, iv x3, iv x4, rv b1, rv b9, rv b20, iv 1] [] (fun t k => XS.ifNo X63.here hx rfl (hb hby at_122) rfl ((if0 _ _).trans (teq ((lw_eq (x1.toInt64 + x3.toInt64) (x1.toInt64 + x3.toInt64)).mpr rfl)).2) k) ?_
  refine own_go T63 m 127 #[iv x0, iv x1, iv x2, iv x3, iv x4, rv b1, rv b9, rv b20, iv 1] [(.ref b20)] (fun t k => XS.aload X63.here hx rfl (hb hby at_125) rfl rfl k) ?_
  obtain ⟨_, T64, L64, X64, ⟨rfl, e64, rfl⟩, st64⟩ := own_virtual X63 hx hZ (y := (⟨"com/example/substring_search/substringsearch/UnitScanner", "matched", "()I"⟩ : MethodName)) (z := (⟨"com/example/substring_search/substringsearch/UnitScanner", "matched", "()I"⟩ : MethodName)) hown (own_w hw 125 rfl) (own_w hw 126 rfl) (notFace_of_selects (args := #[]) (mvT hZ (own_w hw 128 rfl))) (own_w hw 128 rfl) (own_w hw 127 rfl) (own_w hw 85 rfl) (own_w hw 129 rfl) (by decide) (rm16 l Z a0 hw [] b20 x4 T53.heap Fm53) e63 Aq53 0 (argsL := []) (rest := []) (Ls := #[iv x0, iv x1, iv x2, iv x3, iv x4, rv b1, rv b9, rv b20, iv 1]) (by rw [hml]; rfl) (lenOf pd___I rfl) rfl rfl (Nat.le_of_eq rfl) (hb hby at_127) (by decide) (by decide) (by decide) (by decide)
  replace X64 := own_nil X64
  refine own_go T64 m 130 #[iv x0, iv x1, iv x2, iv x3, iv x4, rv b1, rv b9, rv b20, iv 1] [(.int x4)] (st64) ?_
  refine own_go T64 m 132 #[iv x0, iv x1, iv x2, iv x3, iv x4, rv b1, rv b9, rv b20, iv 1] [(.int x4), (.int x4)] (fun t k => XS.iload X64.here hx rfl (hb hby at_130) rfl k) ?_
  refine own_go T64 m 135 #[iv x0, iv x1, iv x2, iv x3, iv x4, rv b1, rv b9, rv b20, iv 1] [] (fun t k => XS.icmpNo X64.here hx rfl (hb hby at_132) rfl (teq rfl).2 k) ?_
  refine own_go T64 m 136 #[iv x0, iv x1, iv x2, iv x3, iv x4, rv b1, rv b9, rv b20, iv 1] [(.int 1)] (fun t k => XS.iconst X64.here hx rfl (hb hby at_135) k) ?_
  refine own_go T64 m 140 #[iv x0, iv x1, iv x2, iv x3, iv x4, rv b1, rv b9, rv b20, iv 1] [(.int 1)] (fun t k => XS.goto X64.here hx rfl (pc0 := 136) (pc' := 140) rfl (hb hby at_136) (by decide) (by decide) k) ?_
  refine own_go T64 m 142 #[iv x0, iv x1, iv x2, iv x3, iv x4, rv b1, rv b9, rv b20, iv 1] [] (fun t k => XS.istore X64.here hx rfl (hb hby at_140) rfl rfl k) ?_
  refine own_go T64 m 144 #[iv x0, iv x1, iv x2, iv x3, iv x4, rv b1, rv b9, rv b20, iv 1] [(.int 1)] (fun t k => XS.iload X64.here hx rfl (hb hby at_142) rfl k) ?_
  refine own_retZ X64 hx hlk hret (by decide) (hb hby at_144) (by decide) (by decide) ?_
  exact ⟨rfl, N53⟩
set_option maxRecDepth 65536 in
set_option maxHeartbeats 40000000 in
theorem comes_1 {Post : Tables → Env → Array Value → State → Outcome → State → Prop} (hpost : ∀ tb e args s v u, (limb_1_1.after args s (.returned v) u = true ∧ limb_1_2.after args s (.returned v) u = true ∧ True) → FrameEnd s (.returned v) u (Jvm.fieldLocs frame_1_writes args s ++ Jvm.arrayLocs frame_1_arrays args s ++ Jvm.staticLocs frame_1_statics s) 32 192 → Post tb e args s (.returned v) u) :
    ArmFor flags0 classFile x code maxLocals ret World_1 tables_1 room_1 Calls_1 rest_1 Pre_1 Post := by
  intro l hfl _ _ p e ha hc hk s m args below hf hA hF happ hP
  obtain ⟨hcalls, hrest, hpre⟩ := hP
  obtain ⟨-, -, -, hnamed, -, -, -, hat⟩ := (Spec.applies_iff hf).mp happ
  obtain ⟨hg, hn⟩ := and_e (Cond.before_iff.mp (show (Jvm.Cond.and given_1 narrow_1).before args s = true from hpre))
  obtain ⟨gg1, gg2⟩ := and_e hg
  obtain ⟨gg3, gg4⟩ := and_e gg2
  obtain ⟨gg5, gg6⟩ := and_e gg4
  obtain ⟨gg7, gg8⟩ := and_e gg6
  obtain ⟨gg9, gg10⟩ := and_e gg8
  obtain ⟨w0, w1, w2, w3, w4, rfl⟩ : ∃ w0 w1 w2 w3 w4 : Value, args = #[w0, w1, w2, w3, w4] := by
    have hs : args.size = 5 := by simpa [Cond.value, given_1] using gg1
    obtain ⟨L⟩ := args
    match L, hs with
    | [w0, w1, w2, w3, w4], _ => exact ⟨w0, w1, w2, w3, w4, rfl⟩
  have hw := fun d (hd : d ∈ tables_1) => atoms_spec (ws := Jvm.Cond.code x code maxLocals ret :: tables_1) hat d (List.mem_cons_of_mem _ hd)
  have hfit : Fit s := fun {y c} hc i hi => by
    obtain ⟨ha, rfl⟩ := Array.getElem?_eq_some_iff.mp hc
    have q := List.all_eq_true.mp ((Array.all_eq_true_iff_forall_mem.mp hF) _ (Array.getElem_mem ha)) i (List.mem_range.mpr hi)
    simpa [Array.getElem?_eq_getElem hi] using q
  obtain ⟨i0, ei0⟩ := is_v gg3
  obtain rfl : w0 = (.int i0) := Option.some.inj ei0
  obtain ⟨i1, ei1⟩ := is_v gg5
  obtain rfl : w1 = (.int i1) := Option.some.inj ei1
  obtain ⟨i2, ei2⟩ := is_v gg7
  obtain rfl : w2 = (.int i2) := Option.some.inj ei2
  obtain ⟨i3, ei3⟩ := is_v gg9
  obtain rfl : w3 = (.int i3) := Option.some.inj ei3
  obtain ⟨i4, ei4⟩ := is_v gg10
  obtain rfl : w4 = (.int i4) := Option.some.inj ei4
  obtain ⟨hn0, hn1⟩ := and_e hn
  obtain ⟨aA, ev_A⟩ := exa_v hn0
  have S_ALL := Sta.start ev_A (Or.inr ⟨(own_w hw 100 rfl), (own_w hw 101 rfl)⟩)
  have E_aA := Exa.start ev_A hn0
  have F_oA := own_fld_int ev_A hn1
  obtain ⟨n, o, h1, h2, h3, _, L, rfl, ⟨rfl, N⟩, hq⟩ := rm0 l s _ hw tables_1 i0 i1 i2 i3 i4 aA s.heap s.heap.size (Nat.le_refl _) S_ALL E_aA F_oA p e ha hc hk s m _ below hf ((Spec.applies_iff_loose hf).mp happ).1 ⟨rfl, State.Warmed39.refl s, rfl⟩ trivial
  refine ⟨n, _, h1, h2, h3, hpost _ _ _ _ _ _ ⟨Cond.after_iff.mpr rfl, Cond.after_iff.mpr (eq_i res_at (Term.int_eval (1)) rfl), trivial⟩ ⟨hq.1, hq.2.1, (hq.2.2.sift fun y hy => Or.inr (N y hy)).mono (by decide) (by decide)⟩⟩
theorem main_1_1 : Claimed_1_1 := comes_1 fun _ _ _ _ _ _ h hF => ⟨h.1, hF⟩
theorem main_1_2 : Claimed_1_2 := comes_1 fun _ _ _ _ _ _ h hF => ⟨h.2.1, hF⟩
end Jvm.Pilot.@@N@@
namespace Jvm.Pilot.@@N@@
open Jvm Jvm.ClassFile Sem Op Lib Jvm.Free Jvm.Stand Jvm.Pilot.@@N@@.Jvm.D
/-! MADE BY PROGRAM (witnessworld.py) out of the Statement's table words and the real class files: 22 classes; the members and pool entries that the words name. The judged class is class 1, her method 1. -/
namespace start1
open Jvm.ClassFile
def u (s : String) : CpInfo := .utf8 (stringToUtf16 s)
/-- a pool by its gaps: so many unusable entries, then the entry; so many at the end -/
def gap : Nat → List CpInfo → List CpInfo
  | 0, r => r
  | n + 1, r => .unusable :: gap n r
def poolList (es : List (Nat × CpInfo)) (last : Nat) : List CpInfo := es.foldr (fun e r => gap e.1 (e.2 :: r)) (gap last [])
def pool (es : List (Nat × CpInfo)) (last : Nat) : Array CpInfo := ⟨poolList es last⟩
def fileOf (pool : Array CpInfo) (this : Nat) (attrs : Array Attribute := #[]) (ms : Array MethodInfo := #[]) (fl : Nat := 33) (sup : Nat := 0) (ifs : Array Nat := #[]) (fds : Array FieldInfo := #[]) : ClassFile where
  minorVersion := 0
  majorVersion := 65
  constantPool := pool
  accessFlags := fl
  thisClass := this
  superClass := sup
  interfaces := ifs
  fields := fds
  methods := ms
  attributes := attrs
def plain (name : String) (sup : Option ClassId) : Class where
  name := name
  kind := .ordinary
  loader := none
  accessFlags := 33
  super := sup
  interfaces := #[]
  cf := none
  fields := #[]
  methods := #[]
  instanceTypes := #[]
  staticTypes := #[]
  resolved := #[]
  callSites := []
  init := .initialized
  statics := none
  mirror := none

def pool0 : Array CpInfo := pool [(5, u "<init>"), (0, u "()V"), (1, .class_ 10), (1, u "java/lang/Object")] 113

def k0c0 : Code := { maxStack := 0, maxLocals := 1, code := object_method_1_code, exceptionTable := #[], attributes := #[] }
def k0m0 : Method := { name := "<init>", desc := "()V", sig := { parameters := [], returnType := none }, accessFlags := 1, code := some k0c0 }
/-- java/lang/Object -/
def k0 : Class := { plain "java/lang/Object" none with
  accessFlags := 33
  interfaces := #[]
  cf := some (fileOf pool0 8 #[] #[{ accessFlags := 1, nameIndex := 5, descriptorIndex := 6, attributes := #[] }] 33 0 #[] #[])
  fields := #[]
  methods := #[k0m0]
  instanceTypes := #[]
  staticTypes := #[]
  resolved := Array.replicate 124 none
  statics := none }

def pool1 : Array CpInfo := pool [(2, .class_ 4), (1, u "java/lang/Object"), (0, u "<init>"), (0, u "()V"), (0, .integer 65535), (0, .class_ 9), (0, u "com/example/substring_search/substringsearch/UnitSearch"), (0, .methodref 8 11), (0, .nameAndType 5 12), (0, u "([I)V"), (0, .class_ 14), (0, u "com/example/substring_search/substringsearch/UnitScanner"), (0, .methodref 13 16), (0, .nameAndType 5 17), (0, u "(Lcom/example/substring_search/substringsearch/UnitSearch;)V"), (0, .methodref 13 19), (0, .nameAndType 20 21), (0, u "position"), (0, u "()J"), (0, .methodref 13 23), (0, .nameAndType 24 25), (0, u "matched"), (0, u "()I"), (0, .methodref 13 27), (0, .nameAndType 28 29), (0, u "passOver"), (0, u "(II)V"), (0, .class_ 31), (0, u "com/example/substring_search/substringsearch/UnitScannerPassOverPinLaw"), (2, u "law"), (0, u "(IIIII)Z")] 5

def k1m0 : Method := { name := "<init>", desc := "()V", sig := { parameters := [], returnType := none }, accessFlags := 2, code := none }
def k1c1 : Code := { maxStack := 6, maxLocals := 9, code := code, exceptionTable := #[], attributes := #[] }
def k1m1 : Method := { name := "law", desc := "(IIIII)Z", sig := { parameters := [.int, .int, .int, .int, .int], returnType := some .boolean }, accessFlags := 9, code := some k1c1 }
/-- com/example/substring_search/substringsearch/UnitScannerPassOverPinLaw -/
def k1 : Class := { plain "com/example/substring_search/substringsearch/UnitScannerPassOverPinLaw" (some 0) with
  accessFlags := 49
  interfaces := #[]
  cf := some (fileOf pool1 30 #[] #[{ accessFlags := 2, nameIndex := 5, descriptorIndex := 6, attributes := #[] }, { accessFlags := 9, nameIndex := 34, descriptorIndex := 35, attributes := #[] }] 49 2 #[] #[])
  fields := #[]
  methods := #[k1m0, k1m1]
  instanceTypes := #[]
  staticTypes := #[]
  resolved := Array.replicate 41 none
  statics := none }

def pool2 : Array CpInfo := pool [(1, .methodref 2 3), (0, .class_ 4), (0, .nameAndType 5 6), (0, u "java/lang/Object"), (0, u "<init>"), (0, u "()V"), (0, .fieldref 8 9), (0, .class_ 10), (0, .nameAndType 11 12), (0, u "com/example/substring_search/substringsearch/UnitSearch"), (0, u "pattern"), (0, u "[I"), (0, .class_ 14), (0, u "com/example/substring_search/substringsearch/Units"), (0, .methodref 13 16), (0, .nameAndType 5 17), (0, u "([I)V"), (0, .fieldref 8 19), (0, .nameAndType 20 21), (0, u "units"), (0, u "Lcom/example/substring_search/substringsearch/Units;"), (0, .methodref 23 24), (0, .class_ 25), (0, .nameAndType 26 27), (0, u "com/example/substring_search/substringsearch/PrefixTable"), (0, u "compute"), (0, u "([I)[I"), (0, .fieldref 8 29), (0, .nameAndType 30 12), (0, u "table"), (0, .class_ 32), (0, u "com/example/substring_search/substringsearch/StartScan"), (0, .methodref 31 34), (0, .nameAndType 5 35), (0, u "([I[I)V"), (0, .fieldref 8 37), (0, .nameAndType 38 39), (0, u "starts"), (0, u "Lcom/example/substring_search/substringsearch/StartScan;"), (20, u "reversed"), (16, u "Lcom/example/substring_search/substringsearch/UnitSearch;"), (3, u "matchedAfterAnOccurrence"), (0, u "(Lcom/example/substring_search/substringsearch/UnitSearch$Occurrences;)I"), (9, u "I"), (0, .methodref 94 95), (0, .class_ 96), (0, .nameAndType 97 98), (0, u "com/example/substring_search/substringsearch/UnitSearch$Occurrences"), (0, u "ordinal"), (0, u "()I"), (68, u "WALK_PIECE_UNITS"), (2, u "STEPS_BEFORE_BULK"), (1, u "REPEATED_AFTER"), (1, u "UNITS_PER_FALL_BACK"), (6, u "patternLength")] 15

def k2c0 : Code := { maxStack := 5, maxLocals := 2, code := prog_13_method_1_code, exceptionTable := #[], attributes := #[] }
def k2m0 : Method := { name := "<init>", desc := "([I)V", sig := { parameters := [(.array .int)], returnType := none }, accessFlags := 0, code := some k2c0 }
def k2c1 : Code := { maxStack := 1, maxLocals := 1, code := prog_13_method_3_code, exceptionTable := #[], attributes := #[] }
def k2m1 : Method := { name := "patternLength", desc := "()I", sig := { parameters := [], returnType := some .int }, accessFlags := 0, code := some k2c1 }
def k2c2 : Code := { maxStack := 4, maxLocals := 2, code := prog_13_method_10_code, exceptionTable := #[], attributes := #[] }
def k2m2 : Method := { name := "matchedAfterAnOccurrence", desc := "(Lcom/example/substring_search/substringsearch/UnitSearch$Occurrences;)I", sig := { parameters := [(.object "com/example/substring_search/substringsearch/UnitSearch$Occurrences")], returnType := some .int }, accessFlags := 0, code := some k2c2 }
/-- com/example/substring_search/substringsearch/UnitSearch -/
def k2 : Class := { plain "com/example/substring_search/substringsearch/UnitSearch" (some 0) with
  accessFlags := 32
  interfaces := #[]
  cf := some (fileOf pool2 8 #[.nestMembers #[94]] #[{ accessFlags := 0, nameIndex := 5, descriptorIndex := 17, attributes := #[] }, { accessFlags := 0, nameIndex := 181, descriptorIndex := 98, attributes := #[] }, { accessFlags := 0, nameIndex := 81, descriptorIndex := 82, attributes := #[] }] 32 2 #[] #[{ accessFlags := 26, nameIndex := 167, descriptorIndex := 92, attributes := #[] }, { accessFlags := 26, nameIndex := 170, descriptorIndex := 92, attributes := #[] }, { accessFlags := 26, nameIndex := 172, descriptorIndex := 92, attributes := #[] }, { accessFlags := 26, nameIndex := 174, descriptorIndex := 92, attributes := #[] }, { accessFlags := 18, nameIndex := 11, descriptorIndex := 12, attributes := #[] }, { accessFlags := 18, nameIndex := 20, descriptorIndex := 21, attributes := #[] }, { accessFlags := 18, nameIndex := 30, descriptorIndex := 12, attributes := #[] }, { accessFlags := 18, nameIndex := 38, descriptorIndex := 39, attributes := #[] }, { accessFlags := 66, nameIndex := 60, descriptorIndex := 77, attributes := #[] }])
  fields := #[{ name := "WALK_PIECE_UNITS", type := .int, accessFlags := 26, slot := 0, constantValue := 0 }, { name := "STEPS_BEFORE_BULK", type := .int, accessFlags := 26, slot := 1, constantValue := 0 }, { name := "REPEATED_AFTER", type := .int, accessFlags := 26, slot := 2, constantValue := 0 }, { name := "UNITS_PER_FALL_BACK", type := .int, accessFlags := 26, slot := 3, constantValue := 0 }, { name := "pattern", type := (.array .int), accessFlags := 18, slot := 0, constantValue := 0 }, { name := "units", type := (.object "com/example/substring_search/substringsearch/Units"), accessFlags := 18, slot := 1, constantValue := 0 }, { name := "table", type := (.array .int), accessFlags := 18, slot := 2, constantValue := 0 }, { name := "starts", type := (.object "com/example/substring_search/substringsearch/StartScan"), accessFlags := 18, slot := 3, constantValue := 0 }, { name := "reversed", type := (.object "com/example/substring_search/substringsearch/UnitSearch"), accessFlags := 66, slot := 4, constantValue := 0 }]
  methods := #[k2m0, k2m1, k2m2]
  instanceTypes := #[(.array .int), (.object "com/example/substring_search/substringsearch/Units"), (.array .int), (.object "com/example/substring_search/substringsearch/StartScan"), (.object "com/example/substring_search/substringsearch/UnitSearch")]
  staticTypes := #[.int, .int, .int, .int]
  resolved := Array.replicate 197 none
  statics := none }

def pool3 : Array CpInfo := pool [(1, .methodref 2 3), (0, .class_ 4), (0, .nameAndType 5 6), (0, u "java/lang/Object"), (0, u "<init>"), (0, u "()V"), (0, .fieldref 8 9), (0, .class_ 10), (0, .nameAndType 11 12), (0, u "com/example/substring_search/substringsearch/Units"), (0, u "chars"), (0, u "[C"), (0, .fieldref 8 14), (0, .nameAndType 15 16), (0, u "bytes"), (0, u "[B"), (0, .methodref 8 18), (0, .nameAndType 5 19), (0, u "(I)V"), (0, .fieldref 8 21), (0, .nameAndType 22 23), (0, u "length"), (0, u "I"), (0, .fieldref 8 25), (0, .nameAndType 26 27), (0, u "narrow"), (0, u "Z"), (14, u "([I)V")] 7

def k3c0 : Code := { maxStack := 2, maxLocals := 2, code := prog_26_method_1_code, exceptionTable := #[], attributes := #[] }
def k3m0 : Method := { name := "<init>", desc := "(I)V", sig := { parameters := [.int], returnType := none }, accessFlags := 0, code := some k3c0 }
def k3c1 : Code := { maxStack := 4, maxLocals := 4, code := prog_26_method_2_code, exceptionTable := #[], attributes := #[] }
def k3m1 : Method := { name := "<init>", desc := "([I)V", sig := { parameters := [(.array .int)], returnType := none }, accessFlags := 0, code := some k3c1 }
/-- com/example/substring_search/substringsearch/Units -/
def k3 : Class := { plain "com/example/substring_search/substringsearch/Units" (some 0) with
  accessFlags := 32
  interfaces := #[]
  cf := some (fileOf pool3 8 #[] #[{ accessFlags := 0, nameIndex := 5, descriptorIndex := 19, attributes := #[] }, { accessFlags := 0, nameIndex := 5, descriptorIndex := 42, attributes := #[] }] 32 2 #[] #[{ accessFlags := 16, nameIndex := 11, descriptorIndex := 12, attributes := #[] }, { accessFlags := 16, nameIndex := 15, descriptorIndex := 16, attributes := #[] }, { accessFlags := 0, nameIndex := 22, descriptorIndex := 23, attributes := #[] }, { accessFlags := 0, nameIndex := 26, descriptorIndex := 27, attributes := #[] }])
  fields := #[{ name := "chars", type := (.array .char), accessFlags := 16, slot := 0, constantValue := 0 }, { name := "bytes", type := (.array .byte), accessFlags := 16, slot := 1, constantValue := 0 }, { name := "length", type := .int, accessFlags := 0, slot := 2, constantValue := 0 }, { name := "narrow", type := .boolean, accessFlags := 0, slot := 3, constantValue := 0 }]
  methods := #[k3m0, k3m1]
  instanceTypes := #[(.array .char), (.array .byte), .int, .boolean]
  staticTypes := #[]
  resolved := Array.replicate 50 none
  statics := none }

def pool4 : Array CpInfo := pool [(2, .class_ 4), (1, u "java/lang/Object"), (0, u "<init>"), (0, u "()V"), (1, .class_ 10), (1, u "com/example/substring_search/substringsearch/PrefixTable"), (7, u "compute"), (0, u "([I)[I")] 5

def k4m0 : Method := { name := "<init>", desc := "()V", sig := { parameters := [], returnType := none }, accessFlags := 2, code := none }
def k4c1 : Code := { maxStack := 5, maxLocals := 4, code := prog_4_method_2_code, exceptionTable := #[], attributes := #[] }
def k4m1 : Method := { name := "compute", desc := "([I)[I", sig := { parameters := [(.array .int)], returnType := some (.array .int) }, accessFlags := 8, code := some k4c1 }
/-- com/example/substring_search/substringsearch/PrefixTable -/
def k4 : Class := { plain "com/example/substring_search/substringsearch/PrefixTable" (some 0) with
  accessFlags := 32
  interfaces := #[]
  cf := some (fileOf pool4 8 #[] #[{ accessFlags := 2, nameIndex := 5, descriptorIndex := 6, attributes := #[] }, { accessFlags := 8, nameIndex := 18, descriptorIndex := 19, attributes := #[] }] 32 2 #[] #[])
  fields := #[]
  methods := #[k4m0, k4m1]
  instanceTypes := #[]
  staticTypes := #[]
  resolved := Array.replicate 25 none
  statics := none }

def pool5 : Array CpInfo := pool [(1, .methodref 2 3), (0, .class_ 4), (0, .nameAndType 5 6), (0, u "java/lang/Object"), (0, u "<init>"), (0, u "()V"), (0, .fieldref 8 9), (0, .class_ 10), (0, .nameAndType 11 12), (0, u "com/example/substring_search/substringsearch/StartScan"), (0, u "first"), (0, u "I"), (0, .fieldref 8 14), (0, .nameAndType 15 16), (0, u "threeUnits"), (0, u "Z"), (0, .methodref 8 18), (0, .nameAndType 19 20), (0, u "lowByteInEveryByte"), (0, u "(I)J"), (0, .fieldref 8 22), (0, .nameAndType 23 24), (0, u "low0"), (0, u "J"), (0, .fieldref 8 26), (0, .nameAndType 27 24), (0, u "low1"), (0, .fieldref 8 29), (0, .nameAndType 30 24), (0, u "low2"), (0, .fieldref 8 32), (0, .nameAndType 33 34), (0, u "pattern"), (0, u "[I"), (0, .methodref 8 36), (0, .nameAndType 37 38), (0, u "laterStarts"), (0, u "([I[I)[I"), (0, .fieldref 8 40), (0, .nameAndType 37 34), (4, .methodref 46 47), (0, .class_ 48), (0, .nameAndType 49 50), (0, u "java/util/Arrays"), (0, u "copyOf"), (0, u "([II)[I"), (143, .long 72340172838076673), (45, u "NOTHING_MARKED"), (8, u "FEWEST_MARKED"), (2, u "FEWEST_BORROWED"), (1, u "EVERY_BYTE"), (0, u "TOP_BITS"), (0, u "LATER_CANDIDATES"), (1, u "SAMPLED_UNITS"), (1, u "RARE"), (1, u "([I[I)V")] 31

def k5c0 : Code := { maxStack := 3, maxLocals := 3, code := prog_5_method_1_code, exceptionTable := #[], attributes := #[] }
def k5m0 : Method := { name := "<init>", desc := "([I[I)V", sig := { parameters := [(.array .int), (.array .int)], returnType := none }, accessFlags := 0, code := some k5c0 }
def k5c1 : Code := { maxStack := 5, maxLocals := 6, code := prog_5_method_2_code, exceptionTable := #[], attributes := #[] }
def k5m1 : Method := { name := "laterStarts", desc := "([I[I)[I", sig := { parameters := [(.array .int), (.array .int)], returnType := some (.array .int) }, accessFlags := 10, code := some k5c1 }
def k5c2 : Code := { maxStack := 4, maxLocals := 1, code := prog_5_method_20_code, exceptionTable := #[], attributes := #[] }
def k5m2 : Method := { name := "lowByteInEveryByte", desc := "(I)J", sig := { parameters := [.int], returnType := some .long }, accessFlags := 10, code := some k5c2 }
/-- com/example/substring_search/substringsearch/StartScan -/
def k5 : Class := { plain "com/example/substring_search/substringsearch/StartScan" (some 0) with
  accessFlags := 32
  interfaces := #[]
  cf := some (fileOf pool5 8 #[] #[{ accessFlags := 0, nameIndex := 5, descriptorIndex := 262, attributes := #[] }, { accessFlags := 10, nameIndex := 37, descriptorIndex := 38, attributes := #[] }, { accessFlags := 10, nameIndex := 19, descriptorIndex := 20, attributes := #[] }] 32 2 #[] #[{ accessFlags := 26, nameIndex := 249, descriptorIndex := 12, attributes := #[] }, { accessFlags := 26, nameIndex := 252, descriptorIndex := 12, attributes := #[] }, { accessFlags := 26, nameIndex := 254, descriptorIndex := 24, attributes := #[] }, { accessFlags := 26, nameIndex := 255, descriptorIndex := 24, attributes := #[] }, { accessFlags := 26, nameIndex := 240, descriptorIndex := 34, attributes := #[] }, { accessFlags := 26, nameIndex := 256, descriptorIndex := 12, attributes := #[] }, { accessFlags := 26, nameIndex := 258, descriptorIndex := 12, attributes := #[] }, { accessFlags := 26, nameIndex := 260, descriptorIndex := 12, attributes := #[] }, { accessFlags := 18, nameIndex := 11, descriptorIndex := 12, attributes := #[] }, { accessFlags := 18, nameIndex := 15, descriptorIndex := 16, attributes := #[] }, { accessFlags := 18, nameIndex := 23, descriptorIndex := 24, attributes := #[] }, { accessFlags := 18, nameIndex := 27, descriptorIndex := 24, attributes := #[] }, { accessFlags := 18, nameIndex := 30, descriptorIndex := 24, attributes := #[] }, { accessFlags := 18, nameIndex := 33, descriptorIndex := 34, attributes := #[] }, { accessFlags := 18, nameIndex := 37, descriptorIndex := 34, attributes := #[] }])
  fields := #[{ name := "FEWEST_MARKED", type := .int, accessFlags := 26, slot := 0, constantValue := 0 }, { name := "FEWEST_BORROWED", type := .int, accessFlags := 26, slot := 1, constantValue := 0 }, { name := "EVERY_BYTE", type := .long, accessFlags := 26, slot := 2, constantValue := 0 }, { name := "TOP_BITS", type := .long, accessFlags := 26, slot := 3, constantValue := 0 }, { name := "NOTHING_MARKED", type := (.array .int), accessFlags := 26, slot := 4, constantValue := 0 }, { name := "LATER_CANDIDATES", type := .int, accessFlags := 26, slot := 5, constantValue := 0 }, { name := "SAMPLED_UNITS", type := .int, accessFlags := 26, slot := 6, constantValue := 0 }, { name := "RARE", type := .int, accessFlags := 26, slot := 7, constantValue := 0 }, { name := "first", type := .int, accessFlags := 18, slot := 0, constantValue := 0 }, { name := "threeUnits", type := .boolean, accessFlags := 18, slot := 1, constantValue := 0 }, { name := "low0", type := .long, accessFlags := 18, slot := 2, constantValue := 0 }, { name := "low1", type := .long, accessFlags := 18, slot := 3, constantValue := 0 }, { name := "low2", type := .long, accessFlags := 18, slot := 4, constantValue := 0 }, { name := "pattern", type := (.array .int), accessFlags := 18, slot := 5, constantValue := 0 }, { name := "laterStarts", type := (.array .int), accessFlags := 18, slot := 6, constantValue := 0 }]
  methods := #[k5m0, k5m1, k5m2]
  instanceTypes := #[.int, .boolean, .long, .long, .long, (.array .int), (.array .int)]
  staticTypes := #[.int, .int, .long, .long, (.array .int), .int, .int, .int]
  resolved := Array.replicate 294 none
  statics := none }

def pool6 : Array CpInfo := pool [(2, .class_ 4), (1, u "java/lang/Object"), (0, u "<init>"), (0, u "()V"), (7, .class_ 16), (1, u "java/util/Arrays"), (57, .class_ 76), (1, u "java/util/Arrays$NaturalOrder"), (36, .class_ 115), (1, u "java/util/Arrays$LegacyMergeSort"), (1, u "Z"), (32, .methodref 151 152), (0, .class_ 153), (0, .nameAndType 154 155), (0, u "java/lang/System"), (0, u "arraycopy"), (0, u "(Ljava/lang/Object;ILjava/lang/Object;II)V"), (146, u "copyOf"), (1, .methodref 305 306), (0, .class_ 307), (0, .nameAndType 308 309), (0, u "java/lang/Math"), (0, u "min"), (0, u "(II)I"), (65, .class_ 376), (0, u "java/util/Arrays$ArrayList"), (68, u "$assertionsDisabled"), (269, u "MIN_ARRAY_SORT_GRAN"), (0, u "I"), (2, u "INSERTIONSORT_THRESHOLD"), (151, u "([II)[I"), (103, .class_ 976), (0, u "java/util/Arrays$ArrayItr")] 52

def k6m0 : Method := { name := "<init>", desc := "()V", sig := { parameters := [], returnType := none }, accessFlags := 2, code := none }
def k6c1 : Code := { maxStack := 6, maxLocals := 3, code := jdk_65_method_123_code, exceptionTable := #[], attributes := #[] }
def k6m1 : Method := { name := "copyOf", desc := "([II)[I", sig := { parameters := [(.array .int), .int], returnType := some (.array .int) }, accessFlags := 9, code := some k6c1 }
/-- java/util/Arrays -/
def k6 : Class := { plain "java/util/Arrays" (some 0) with
  accessFlags := 49
  interfaces := #[]
  cf := some (fileOf pool6 14 #[.nestMembers #[975, 375, 113, 74]] #[{ accessFlags := 2, nameIndex := 5, descriptorIndex := 6, attributes := #[] }, { accessFlags := 9, nameIndex := 302, descriptorIndex := 871, attributes := #[] }] 49 2 #[] #[{ accessFlags := 26, nameIndex := 715, descriptorIndex := 716, attributes := #[] }, { accessFlags := 26, nameIndex := 719, descriptorIndex := 716, attributes := #[] }, { accessFlags := 4120, nameIndex := 445, descriptorIndex := 117, attributes := #[] }])
  fields := #[{ name := "MIN_ARRAY_SORT_GRAN", type := .int, accessFlags := 26, slot := 0, constantValue := 0 }, { name := "INSERTIONSORT_THRESHOLD", type := .int, accessFlags := 26, slot := 1, constantValue := 0 }, { name := "$assertionsDisabled", type := .boolean, accessFlags := 4120, slot := 2, constantValue := 0 }]
  methods := #[k6m0, k6m1]
  instanceTypes := #[]
  staticTypes := #[.int, .int, .boolean]
  resolved := Array.replicate 1029 none
  statics := none }

def pool7 : Array CpInfo := pool [(1, .class_ 2), (0, u "java/lang/Math"), (1, .class_ 6), (1, u "java/lang/Object"), (0, u "<init>"), (0, u "()V"), (89, .class_ 100), (1, u "java/lang/Math$RandomNumberGeneratorHolder"), (71, u "negativeZeroFloatBits"), (0, u "J"), (2, u "negativeZeroDoubleBits"), (24, u "min"), (43, u "$assertionsDisabled"), (0, u "Z"), (88, u "(II)I"), (2, u "twoToTheDoubleScaleDown"), (0, u "D"), (4, u "twoToTheDoubleScaleUp"), (9, u "E"), (3, u "PI"), (2, u "TAU"), (2, u "DEGREES_TO_RADIANS"), (0, u "RADIANS_TO_DEGREES")] 94

def k7m0 : Method := { name := "<init>", desc := "()V", sig := { parameters := [], returnType := none }, accessFlags := 2, code := none }
def k7c1 : Code := { maxStack := 2, maxLocals := 2, code := jdk_29_method_69_code, exceptionTable := #[], attributes := #[] }
def k7m1 : Method := { name := "min", desc := "(II)I", sig := { parameters := [.int, .int], returnType := some .int }, accessFlags := 9, code := some k7c1 }
/-- java/lang/Math -/
def k7 : Class := { plain "java/lang/Math" (some 0) with
  accessFlags := 49
  interfaces := #[]
  cf := some (fileOf pool7 1 #[.nestMembers #[98]] #[{ accessFlags := 2, nameIndex := 7, descriptorIndex := 8, attributes := #[] }, { accessFlags := 9, nameIndex := 201, descriptorIndex := 335, attributes := #[] }] 49 4 #[] #[{ accessFlags := 25, nameIndex := 354, descriptorIndex := 339, attributes := #[] }, { accessFlags := 25, nameIndex := 358, descriptorIndex := 339, attributes := #[] }, { accessFlags := 25, nameIndex := 361, descriptorIndex := 339, attributes := #[] }, { accessFlags := 26, nameIndex := 364, descriptorIndex := 339, attributes := #[] }, { accessFlags := 26, nameIndex := 365, descriptorIndex := 339, attributes := #[] }, { accessFlags := 26, nameIndex := 172, descriptorIndex := 173, attributes := #[] }, { accessFlags := 26, nameIndex := 176, descriptorIndex := 173, attributes := #[] }, { accessFlags := 8, nameIndex := 344, descriptorIndex := 339, attributes := #[] }, { accessFlags := 8, nameIndex := 338, descriptorIndex := 339, attributes := #[] }, { accessFlags := 4120, nameIndex := 245, descriptorIndex := 246, attributes := #[] }])
  fields := #[{ name := "E", type := .double, accessFlags := 25, slot := 0, constantValue := 0 }, { name := "PI", type := .double, accessFlags := 25, slot := 1, constantValue := 0 }, { name := "TAU", type := .double, accessFlags := 25, slot := 2, constantValue := 0 }, { name := "DEGREES_TO_RADIANS", type := .double, accessFlags := 26, slot := 3, constantValue := 0 }, { name := "RADIANS_TO_DEGREES", type := .double, accessFlags := 26, slot := 4, constantValue := 0 }, { name := "negativeZeroFloatBits", type := .long, accessFlags := 26, slot := 5, constantValue := 0 }, { name := "negativeZeroDoubleBits", type := .long, accessFlags := 26, slot := 6, constantValue := 0 }, { name := "twoToTheDoubleScaleUp", type := .double, accessFlags := 8, slot := 7, constantValue := 0 }, { name := "twoToTheDoubleScaleDown", type := .double, accessFlags := 8, slot := 8, constantValue := 0 }, { name := "$assertionsDisabled", type := .boolean, accessFlags := 4120, slot := 9, constantValue := 0 }]
  methods := #[k7m0, k7m1]
  instanceTypes := #[]
  staticTypes := #[.double, .double, .double, .double, .double, .long, .long, .double, .double, .boolean]
  resolved := Array.replicate 460 none
  statics := none }

def pool8 : Array CpInfo := pool [(2, .class_ 4), (1, u "java/lang/Object"), (0, u "<init>"), (0, u "()V"), (1, .class_ 10), (1, u "java/lang/System"), (0, u "allowSecurityManager"), (0, u "I"), (16, u "cons"), (0, u "Ljava/io/Console;"), (77, .class_ 110), (1, u "java/lang/System$CallersHolder"), (43, u "initialErrStream"), (0, u "Ljava/io/PrintStream;"), (19, u "security"), (0, u "Ljava/lang/SecurityManager;"), (31, .class_ 209), (0, u "java/lang/System$1"), (7, u "props"), (0, u "Ljava/util/Properties;"), (2, u "lineSeparator"), (0, u "Ljava/lang/String;"), (96, .class_ 321), (1, u "java/lang/System$LoggerFinder"), (5, .class_ 328), (0, u "java/lang/System$Logger"), (67, u "err"), (2, u "out"), (91, u "notSupportedJnuEncoding"), (15, u "in"), (17, u "initialIn"), (0, u "Ljava/io/InputStream;"), (35, u "bootLayer"), (0, u "Ljava/lang/ModuleLayer;"), (99, .class_ 664), (0, u "java/lang/System$2"), (9, u "NEVER"), (2, u "MAYBE"), (49, u "arraycopy"), (0, u "(Ljava/lang/Object;ILjava/lang/Object;II)V"), (72, .class_ 802), (0, u "java/lang/System$Logger$Level")] 31

def k8m0 : Method := { name := "<init>", desc := "()V", sig := { parameters := [], returnType := none }, accessFlags := 2, code := none }
def k8m1 : Method := { name := "arraycopy", desc := "(Ljava/lang/Object;ILjava/lang/Object;II)V", sig := { parameters := [(.object "java/lang/Object"), .int, (.object "java/lang/Object"), .int, .int], returnType := none }, accessFlags := 265, code := none }
/-- java/lang/System -/
def k8 : Class := { plain "java/lang/System" (some 0) with
  accessFlags := 49
  interfaces := #[]
  cf := some (fileOf pool8 8 #[.nestMembers #[319, 327, 801, 108, 663, 208]] #[{ accessFlags := 2, nameIndex := 5, descriptorIndex := 6, attributes := #[] }, { accessFlags := 265, nameIndex := 727, descriptorIndex := 728, attributes := #[] }] 49 2 #[] #[{ accessFlags := 25, nameIndex := 507, descriptorIndex := 526, attributes := #[] }, { accessFlags := 25, nameIndex := 399, descriptorIndex := 155, attributes := #[] }, { accessFlags := 25, nameIndex := 396, descriptorIndex := 155, attributes := #[] }, { accessFlags := 10, nameIndex := 525, descriptorIndex := 526, attributes := #[] }, { accessFlags := 26, nameIndex := 674, descriptorIndex := 12, attributes := #[] }, { accessFlags := 26, nameIndex := 677, descriptorIndex := 12, attributes := #[] }, { accessFlags := 10, nameIndex := 11, descriptorIndex := 12, attributes := #[] }, { accessFlags := 74, nameIndex := 175, descriptorIndex := 176, attributes := #[] }, { accessFlags := 10, nameIndex := 491, descriptorIndex := 222, attributes := #[] }, { accessFlags := 74, nameIndex := 29, descriptorIndex := 30, attributes := #[] }, { accessFlags := 74, nameIndex := 154, descriptorIndex := 155, attributes := #[] }, { accessFlags := 10, nameIndex := 217, descriptorIndex := 218, attributes := #[] }, { accessFlags := 10, nameIndex := 221, descriptorIndex := 222, attributes := #[] }, { accessFlags := 8, nameIndex := 562, descriptorIndex := 563, attributes := #[] }])
  fields := #[{ name := "in", type := (.object "java/io/InputStream"), accessFlags := 25, slot := 0, constantValue := 0 }, { name := "out", type := (.object "java/io/PrintStream"), accessFlags := 25, slot := 1, constantValue := 0 }, { name := "err", type := (.object "java/io/PrintStream"), accessFlags := 25, slot := 2, constantValue := 0 }, { name := "initialIn", type := (.object "java/io/InputStream"), accessFlags := 10, slot := 3, constantValue := 0 }, { name := "NEVER", type := .int, accessFlags := 26, slot := 4, constantValue := 0 }, { name := "MAYBE", type := .int, accessFlags := 26, slot := 5, constantValue := 0 }, { name := "allowSecurityManager", type := .int, accessFlags := 10, slot := 6, constantValue := 0 }, { name := "security", type := (.object "java/lang/SecurityManager"), accessFlags := 74, slot := 7, constantValue := 0 }, { name := "notSupportedJnuEncoding", type := (.object "java/lang/String"), accessFlags := 10, slot := 8, constantValue := 0 }, { name := "cons", type := (.object "java/io/Console"), accessFlags := 74, slot := 9, constantValue := 0 }, { name := "initialErrStream", type := (.object "java/io/PrintStream"), accessFlags := 74, slot := 10, constantValue := 0 }, { name := "props", type := (.object "java/util/Properties"), accessFlags := 10, slot := 11, constantValue := 0 }, { name := "lineSeparator", type := (.object "java/lang/String"), accessFlags := 10, slot := 12, constantValue := 0 }, { name := "bootLayer", type := (.object "java/lang/ModuleLayer"), accessFlags := 8, slot := 13, constantValue := 0 }]
  methods := #[k8m0, k8m1]
  instanceTypes := #[]
  staticTypes := #[(.object "java/io/InputStream"), (.object "java/io/PrintStream"), (.object "java/io/PrintStream"), (.object "java/io/InputStream"), .int, .int, .int, (.object "java/lang/SecurityManager"), (.object "java/lang/String"), (.object "java/io/Console"), (.object "java/io/PrintStream"), (.object "java/util/Properties"), (.object "java/lang/String"), (.object "java/lang/ModuleLayer")]
  resolved := Array.replicate 834 none
  statics := none }

def pool9 : Array CpInfo := pool [(1, .methodref 2 3), (0, .class_ 4), (0, .nameAndType 5 6), (0, u "java/lang/Object"), (0, u "<init>"), (0, u "()V"), (0, .methodref 8 9), (0, .class_ 10), (0, .nameAndType 11 12), (0, u "com/example/substring_search/substringsearch/UnitSearch"), (0, u "patternLength"), (0, u "()I"), (7, .fieldref 21 22), (0, .class_ 23), (0, .nameAndType 24 25), (0, u "com/example/substring_search/substringsearch/UnitScanner"), (0, u "search"), (0, u "Lcom/example/substring_search/substringsearch/UnitSearch;"), (0, .fieldref 21 27), (0, .nameAndType 11 28), (0, u "I"), (0, .fieldref 30 31), (0, .class_ 32), (0, .nameAndType 33 34), (0, u "com/example/substring_search/substringsearch/UnitSearch$Occurrences"), (0, u "ALL"), (0, u "Lcom/example/substring_search/substringsearch/UnitSearch$Occurrences;"), (0, .methodref 8 36), (0, .nameAndType 37 38), (0, u "matchedAfterAnOccurrence"), (0, u "(Lcom/example/substring_search/substringsearch/UnitSearch$Occurrences;)I"), (0, .fieldref 21 40), (0, .nameAndType 41 28), (0, u "afterAnOccurrence"), (0, .fieldref 21 43), (0, .nameAndType 44 45), (0, u "position"), (0, u "J"), (0, .fieldref 21 47), (0, .nameAndType 48 28), (0, u "matched"), (15, u "(Lcom/example/substring_search/substringsearch/UnitSearch;)V"), (3, u "()J"), (0, u "passOver"), (0, u "(II)V")] 8

def k9c0 : Code := { maxStack := 3, maxLocals := 2, code := prog_11_method_1_code, exceptionTable := #[], attributes := #[] }
def k9m0 : Method := { name := "<init>", desc := "(Lcom/example/substring_search/substringsearch/UnitSearch;)V", sig := { parameters := [(.object "com/example/substring_search/substringsearch/UnitSearch")], returnType := none }, accessFlags := 0, code := some k9c0 }
def k9c1 : Code := { maxStack := 2, maxLocals := 1, code := prog_11_method_2_code, exceptionTable := #[], attributes := #[] }
def k9m1 : Method := { name := "position", desc := "()J", sig := { parameters := [], returnType := some .long }, accessFlags := 0, code := some k9c1 }
def k9c2 : Code := { maxStack := 1, maxLocals := 1, code := prog_11_method_3_code, exceptionTable := #[], attributes := #[] }
def k9m2 : Method := { name := "matched", desc := "()I", sig := { parameters := [], returnType := some .int }, accessFlags := 0, code := some k9c2 }
def k9c3 : Code := { maxStack := 5, maxLocals := 3, code := prog_11_method_4_code, exceptionTable := #[], attributes := #[] }
def k9m3 : Method := { name := "passOver", desc := "(II)V", sig := { parameters := [.int, .int], returnType := none }, accessFlags := 0, code := some k9c3 }
/-- com/example/substring_search/substringsearch/UnitScanner -/
def k9 : Class := { plain "com/example/substring_search/substringsearch/UnitScanner" (some 0) with
  accessFlags := 32
  interfaces := #[]
  cf := some (fileOf pool9 21 #[] #[{ accessFlags := 0, nameIndex := 5, descriptorIndex := 64, attributes := #[] }, { accessFlags := 0, nameIndex := 44, descriptorIndex := 68, attributes := #[] }, { accessFlags := 0, nameIndex := 48, descriptorIndex := 12, attributes := #[] }, { accessFlags := 0, nameIndex := 69, descriptorIndex := 70, attributes := #[] }] 32 2 #[] #[{ accessFlags := 18, nameIndex := 24, descriptorIndex := 25, attributes := #[] }, { accessFlags := 18, nameIndex := 11, descriptorIndex := 28, attributes := #[] }, { accessFlags := 18, nameIndex := 41, descriptorIndex := 28, attributes := #[] }, { accessFlags := 2, nameIndex := 48, descriptorIndex := 28, attributes := #[] }, { accessFlags := 2, nameIndex := 44, descriptorIndex := 45, attributes := #[] }])
  fields := #[{ name := "search", type := (.object "com/example/substring_search/substringsearch/UnitSearch"), accessFlags := 18, slot := 0, constantValue := 0 }, { name := "patternLength", type := .int, accessFlags := 18, slot := 1, constantValue := 0 }, { name := "afterAnOccurrence", type := .int, accessFlags := 18, slot := 2, constantValue := 0 }, { name := "matched", type := .int, accessFlags := 2, slot := 3, constantValue := 0 }, { name := "position", type := .long, accessFlags := 2, slot := 4, constantValue := 0 }]
  methods := #[k9m0, k9m1, k9m2, k9m3]
  instanceTypes := #[(.object "com/example/substring_search/substringsearch/UnitSearch"), .int, .int, .int, .long]
  staticTypes := #[]
  resolved := Array.replicate 79 none
  statics := none }

def pool10 : Array CpInfo := pool [(1, .class_ 2), (0, u "java/lang/constant/Constable"), (0, .class_ 4), (0, u "java/lang/Object")] 6

/-- java/lang/constant/Constable -/
def k10 : Class := { plain "java/lang/constant/Constable" (some 0) with
  accessFlags := 1537
  interfaces := #[]
  cf := some (fileOf pool10 1 #[] #[] 1537 3 #[] #[])
  fields := #[]
  methods := #[]
  instanceTypes := #[]
  staticTypes := #[]
  resolved := Array.replicate 11 none
  statics := none }

def pool11 : Array CpInfo := pool [(1, .class_ 2), (0, u "java/lang/Comparable"), (0, .class_ 4), (0, u "java/lang/Object")] 7

/-- java/lang/Comparable -/
def k11 : Class := { plain "java/lang/Comparable" (some 0) with
  accessFlags := 1537
  interfaces := #[]
  cf := some (fileOf pool11 1 #[] #[] 1537 3 #[] #[])
  fields := #[]
  methods := #[]
  instanceTypes := #[]
  staticTypes := #[]
  resolved := Array.replicate 12 none
  statics := none }

def pool12 : Array CpInfo := pool [(1, .class_ 2), (0, u "java/io/Serializable"), (0, .class_ 4), (0, u "java/lang/Object")] 2

/-- java/io/Serializable -/
def k12 : Class := { plain "java/io/Serializable" (some 0) with
  accessFlags := 1537
  interfaces := #[]
  cf := some (fileOf pool12 1 #[] #[] 1537 3 #[] #[])
  fields := #[]
  methods := #[]
  instanceTypes := #[]
  staticTypes := #[]
  resolved := Array.replicate 7 none
  statics := none }

def pool13 : Array CpInfo := pool [(2, .class_ 4), (1, u "java/lang/Enum"), (0, u "name"), (0, u "Ljava/lang/String;"), (0, .fieldref 2 8), (0, .nameAndType 9 10), (0, u "ordinal"), (0, u "I"), (1, .class_ 14), (1, u "java/lang/Object"), (4, u "hash"), (86, .class_ 108), (1, u "java/lang/Enum$EnumDesc"), (2, .class_ 112), (0, u "java/lang/constant/Constable"), (0, .class_ 114), (0, u "java/lang/Comparable"), (0, .class_ 116), (0, u "java/io/Serializable"), (9, u "()I")] 77

def k13c0 : Code := { maxStack := 1, maxLocals := 1, code := jdk_37_method_2_code, exceptionTable := #[], attributes := #[] }
def k13m0 : Method := { name := "ordinal", desc := "()I", sig := { parameters := [], returnType := some .int }, accessFlags := 17, code := some k13c0 }
/-- java/lang/Enum -/
def k13 : Class := { plain "java/lang/Enum" (some 0) with
  accessFlags := 1057
  interfaces := #[10, 11, 12]
  cf := some (fileOf pool13 2 #[.nestMembers #[106]] #[{ accessFlags := 17, nameIndex := 9, descriptorIndex := 126, attributes := #[] }] 1057 12 #[111, 113, 115] #[{ accessFlags := 18, nameIndex := 5, descriptorIndex := 6, attributes := #[] }, { accessFlags := 18, nameIndex := 9, descriptorIndex := 10, attributes := #[] }, { accessFlags := 2, nameIndex := 19, descriptorIndex := 10, attributes := #[] }])
  fields := #[{ name := "name", type := (.object "java/lang/String"), accessFlags := 18, slot := 0, constantValue := 0 }, { name := "ordinal", type := .int, accessFlags := 18, slot := 1, constantValue := 0 }, { name := "hash", type := .int, accessFlags := 2, slot := 2, constantValue := 0 }]
  methods := #[k13m0]
  instanceTypes := #[(.object "java/lang/String"), .int, .int]
  staticTypes := #[]
  resolved := Array.replicate 204 none
  statics := none }

def pool14 : Array CpInfo := pool [(1, .class_ 2), (0, u "com/example/substring_search/substringsearch/UnitSearch$Occurrences"), (2, u "ALL"), (0, u "Lcom/example/substring_search/substringsearch/UnitSearch$Occurrences;"), (2, u "NON_OVERLAPPING"), (2, u "$VALUES"), (0, u "[Lcom/example/substring_search/substringsearch/UnitSearch$Occurrences;"), (6, .class_ 22), (1, u "java/lang/Enum"), (25, .class_ 49), (0, u "com/example/substring_search/substringsearch/UnitSearch")] 2

/-- com/example/substring_search/substringsearch/UnitSearch$Occurrences -/
def k14 : Class := { plain "com/example/substring_search/substringsearch/UnitSearch$Occurrences" (some 13) with
  accessFlags := 16432
  interfaces := #[]
  cf := some (fileOf pool14 1 #[.nestHost 48] #[] 16432 20 #[] #[{ accessFlags := 16409, nameIndex := 5, descriptorIndex := 6, attributes := #[] }, { accessFlags := 16409, nameIndex := 9, descriptorIndex := 6, attributes := #[] }, { accessFlags := 4122, nameIndex := 12, descriptorIndex := 13, attributes := #[] }])
  fields := #[{ name := "ALL", type := (.object "com/example/substring_search/substringsearch/UnitSearch$Occurrences"), accessFlags := 16409, slot := 0, constantValue := 0 }, { name := "NON_OVERLAPPING", type := (.object "com/example/substring_search/substringsearch/UnitSearch$Occurrences"), accessFlags := 16409, slot := 1, constantValue := 0 }, { name := "$VALUES", type := (.array (.object "com/example/substring_search/substringsearch/UnitSearch$Occurrences")), accessFlags := 4122, slot := 2, constantValue := 0 }]
  methods := #[]
  instanceTypes := #[(.object "java/lang/String"), .int, .int]
  staticTypes := #[(.object "com/example/substring_search/substringsearch/UnitSearch$Occurrences"), (.object "com/example/substring_search/substringsearch/UnitSearch$Occurrences"), (.array (.object "com/example/substring_search/substringsearch/UnitSearch$Occurrences"))]
  resolved := Array.replicate 52 none
  statics := some 0 }

def pool15 : Array CpInfo := pool [(1, u "java/lang/Cloneable"), (0, .class_ 1), (0, u "java/lang/Object"), (0, .class_ 3)] 3

/-- java/lang/Cloneable -/
def k15 : Class := { plain "java/lang/Cloneable" (some 0) with
  accessFlags := 1537
  interfaces := #[]
  cf := some (fileOf pool15 2 #[] #[] 1537 4 #[] #[])
  fields := #[]
  methods := #[]
  instanceTypes := #[]
  staticTypes := #[]
  resolved := Array.replicate 8 none
  statics := none }

/-- the primitive byte -/
def k16 : Class := { plain "byte" none with kind := .primitive 'B', accessFlags := 0x411 }
/-- [B -/
def k17 : Class := { plain "[B" (some 0) with kind := .array 16 .byte, interfaces := #[15, 12], accessFlags := 1041 }

/-- the primitive char -/
def k18 : Class := { plain "char" none with kind := .primitive 'C', accessFlags := 0x411 }
/-- [C -/
def k19 : Class := { plain "[C" (some 0) with kind := .array 18 .char, interfaces := #[15, 12], accessFlags := 1041 }

/-- the primitive int -/
def k20 : Class := { plain "int" none with kind := .primitive 'I', accessFlags := 0x411 }
/-- [I -/
def k21 : Class := { plain "[I" (some 0) with kind := .array 20 .int, interfaces := #[15, 12], accessFlags := 1041 }

def heap : Heap := #[{ cls := 14, slots := #[.ref 1, .null, .null], vm := .statics 14 },
  { cls := 14, slots := #[.null, .int 0, .int 0], vm := .none }]
def classes : Array Class := #[k0, k1, k2, k3, k4, k5, k6, k7, k8, k9, k10, k11, k12, k13, k14, k15, k16, k17, k18, k19, k20, k21]
def interned : List (Array UInt16 × Addr) := []
def slotsUsed : Nat := 6
def theMethod : MethodId := ⟨1, 1⟩
def args0 : Array Value := #[.int 0, .int 0, .int 0, .int 0, .int 0]
def aboutOver (below : List Frame) : State where
  vm := { classes := classes, interned := interned.toArray }
  heap := heap
  slotsUsed := slotsUsed
  threads := #[{ frames := .invoking theMethod args0 :: below }]
def below0 : List Frame := [.native { method := ⟨0, 0⟩, args := #[] }]
def about1 : State := aboutOver below0
def p0 : Program := .bare "" "" ""
def e0 : Env := launch0.env 0 0 0
theorem w_frames : about1.frames = Frame.invoking theMethod args0 :: below0 := rfl
set_option maxRecDepth 65536 in
theorem w_args : argsFit about1.vm theMethod args0 = true := by decide +kernel
set_option maxRecDepth 65536 in
theorem w_heap : heapFits about1 = true := by decide +kernel
set_option maxRecDepth 65536 in
theorem w_runnable : about1.curStatus? = some .runnable := by decide +kernel
set_option maxRecDepth 65536 in
theorem w_alone : about1.alone = true := by decide +kernel
set_option maxRecDepth 65536 in
theorem w_named : about1.methodNamed? x = some theMethod := by decide +kernel
set_option maxRecDepth 65536 in
theorem w_hears : about1.hears theMethod below0 = true := by decide +kernel
set_option maxRecDepth 65536 in
theorem w_ripe : about1.ripe theMethod args0 below0 = true := by decide +kernel
theorem w_running : about1.status = .running := rfl
set_option maxRecDepth 65536 in
theorem w_room : about1.hasRoom e0.platform room_1 = true :=
  launch0.hasRoom_least _ room_1 (by decide +kernel) (by decide +kernel) (by decide +kernel) (by decide +kernel) (by decide +kernel) (by decide +kernel)
theorem allAtoms_all (ts : List Jvm.Cond) (a : Array Jvm.Value) (st : Jvm.State) : (allAtoms ts).before a st = ts.all (fun c => c.before a st) := by
  induction ts with
  | nil => rfl
  | cons c t ih =>
    show (Jvm.Cond.and c (allAtoms t)).before a st = _
    rw [Jvm.Cond.before_and, ih, List.all_cons]
def words1 : List Jvm.Cond := Jvm.Cond.code x code maxLocals ret :: tables_1
/-- a 'code' word, met by the world's own term for the bytes: nothing is compared byte by byte -/
theorem code_word {y : MethodName} {bytes : ByteArray} {mx : Nat} {rt : Option FieldType} {a : Array Value} {s : State} {m : MethodId} {meth : Method} {c : Code} (h1 : s.methodNamed? y = some m) (h2 : s.vm.method? m = some meth) (h3 : meth.code = some c) (h4 : c.code = bytes)
    (h5 : (c.maxLocals == mx && c.exceptionTable.isEmpty && decide (c.maxStack ≤ mostOperands) && decide (meth.sig.returnType = rt) && !meth.locks && decide (parseMethodDescriptor y.desc = some meth.sig)) = true) : (Jvm.Cond.code y bytes mx rt).before a s = true := by
  simp only [Bool.and_eq_true, beq_iff_eq, Bool.not_eq_true', decide_eq_true_eq] at h5
  obtain ⟨⟨⟨⟨⟨g1, g2⟩, g3⟩, g4⟩, g5⟩, g6⟩ := h5
  simp [Cond.before, Cond.holds, Cond.value, h1, h2, h3, h4, g1, g2, g3, g4, g5, g6]
def isCode : Jvm.Cond → Bool
  | .code _ _ _ _ => true
  | _ => false
theorem all_split {L : List Jvm.Cond} {P : Jvm.Cond → Bool} (h1 : L.all (fun c => isCode c || P c) = true) (h2 : ∀ c ∈ L.filter isCode, P c = true) : L.all P = true := by
  refine List.all_eq_true.mpr fun c hc => ?_
  have h := List.all_eq_true.mp h1 c hc
  rcases Bool.eq_false_or_eq_true (isCode c) with hi | hi
  · exact h2 c (List.mem_filter.mpr ⟨hc, hi⟩)
  · simpa [hi] using h
set_option maxRecDepth 65536 in
theorem w_c0 : (Jvm.Cond.code x code maxLocals ret).before args0 about1 = true := code_word (m := ⟨1, 1⟩) (meth := k1m1) (c := k1c1) (by decide +kernel) rfl rfl rfl (by decide +kernel)
set_option maxRecDepth 65536 in
theorem w_c1 : (Jvm.Cond.code ({ cls := "com/example/substring_search/substringsearch/UnitSearch", name := "<init>", desc := "([I)V" } : Jvm.MethodName) prog_13_method_1_code (2 : Nat) (Option.none : Option Jvm.ClassFile.FieldType)).before args0 about1 = true := code_word (m := ⟨2, 0⟩) (meth := k2m0) (c := k2c0) (by decide +kernel) rfl rfl rfl (by decide +kernel)
set_option maxRecDepth 65536 in
theorem w_c2 : (Jvm.Cond.code ({ cls := "java/lang/Object", name := "<init>", desc := "()V" } : Jvm.MethodName) object_method_1_code (1 : Nat) (Option.none : Option Jvm.ClassFile.FieldType)).before args0 about1 = true := code_word (m := ⟨0, 0⟩) (meth := k0m0) (c := k0c0) (by decide +kernel) rfl rfl rfl (by decide +kernel)
set_option maxRecDepth 65536 in
theorem w_c3 : (Jvm.Cond.code ({ cls := "com/example/substring_search/substringsearch/Units", name := "<init>", desc := "([I)V" } : Jvm.MethodName) prog_26_method_2_code (4 : Nat) (Option.none : Option Jvm.ClassFile.FieldType)).before args0 about1 = true := code_word (m := ⟨3, 1⟩) (meth := k3m1) (c := k3c1) (by decide +kernel) rfl rfl rfl (by decide +kernel)
set_option maxRecDepth 65536 in
theorem w_c4 : (Jvm.Cond.code ({ cls := "com/example/substring_search/substringsearch/Units", name := "<init>", desc := "(I)V" } : Jvm.MethodName) prog_26_method_1_code (2 : Nat) (Option.none : Option Jvm.ClassFile.FieldType)).before args0 about1 = true := code_word (m := ⟨3, 0⟩) (meth := k3m0) (c := k3c0) (by decide +kernel) rfl rfl rfl (by decide +kernel)
set_option maxRecDepth 65536 in
theorem w_c5 : (Jvm.Cond.code ({ cls := "com/example/substring_search/substringsearch/PrefixTable", name := "compute", desc := "([I)[I" } : Jvm.MethodName) prog_4_method_2_code (4 : Nat) (Option.some (Jvm.ClassFile.FieldType.array Jvm.ClassFile.FieldType.int))).before args0 about1 = true := code_word (m := ⟨4, 1⟩) (meth := k4m1) (c := k4c1) (by decide +kernel) rfl rfl rfl (by decide +kernel)
set_option maxRecDepth 65536 in
theorem w_c6 : (Jvm.Cond.code ({ cls := "com/example/substring_search/substringsearch/StartScan", name := "<init>", desc := "([I[I)V" } : Jvm.MethodName) prog_5_method_1_code (3 : Nat) (Option.none : Option Jvm.ClassFile.FieldType)).before args0 about1 = true := code_word (m := ⟨5, 0⟩) (meth := k5m0) (c := k5c0) (by decide +kernel) rfl rfl rfl (by decide +kernel)
set_option maxRecDepth 65536 in
theorem w_c7 : (Jvm.Cond.code ({ cls := "com/example/substring_search/substringsearch/StartScan", name := "lowByteInEveryByte", desc := "(I)J" } : Jvm.MethodName) prog_5_method_20_code (1 : Nat) (Option.some Jvm.ClassFile.FieldType.long)).before args0 about1 = true := code_word (m := ⟨5, 2⟩) (meth := k5m2) (c := k5c2) (by decide +kernel) rfl rfl rfl (by decide +kernel)
set_option maxRecDepth 65536 in
theorem w_c8 : (Jvm.Cond.code ({ cls := "com/example/substring_search/substringsearch/StartScan", name := "laterStarts", desc := "([I[I)[I" } : Jvm.MethodName) prog_5_method_2_code (6 : Nat) (Option.some (Jvm.ClassFile.FieldType.array Jvm.ClassFile.FieldType.int))).before args0 about1 = true := code_word (m := ⟨5, 1⟩) (meth := k5m1) (c := k5c1) (by decide +kernel) rfl rfl rfl (by decide +kernel)
set_option maxRecDepth 65536 in
theorem w_c9 : (Jvm.Cond.code ({ cls := "java/util/Arrays", name := "copyOf", desc := "([II)[I" } : Jvm.MethodName) jdk_65_method_123_code (3 : Nat) (Option.some (Jvm.ClassFile.FieldType.array Jvm.ClassFile.FieldType.int))).before args0 about1 = true := code_word (m := ⟨6, 1⟩) (meth := k6m1) (c := k6c1) (by decide +kernel) rfl rfl rfl (by decide +kernel)
set_option maxRecDepth 65536 in
theorem w_c10 : (Jvm.Cond.code ({ cls := "java/lang/Math", name := "min", desc := "(II)I" } : Jvm.MethodName) jdk_29_method_69_code (2 : Nat) (Option.some Jvm.ClassFile.FieldType.int)).before args0 about1 = true := code_word (m := ⟨7, 1⟩) (meth := k7m1) (c := k7c1) (by decide +kernel) rfl rfl rfl (by decide +kernel)
set_option maxRecDepth 65536 in
theorem w_c11 : (Jvm.Cond.code ({ cls := "com/example/substring_search/substringsearch/UnitScanner", name := "<init>", desc := "(Lcom/example/substring_search/substringsearch/UnitSearch;)V" } : Jvm.MethodName) prog_11_method_1_code (2 : Nat) (Option.none : Option Jvm.ClassFile.FieldType)).before args0 about1 = true := code_word (m := ⟨9, 0⟩) (meth := k9m0) (c := k9c0) (by decide +kernel) rfl rfl rfl (by decide +kernel)
set_option maxRecDepth 65536 in
theorem w_c12 : (Jvm.Cond.code ({ cls := "com/example/substring_search/substringsearch/UnitSearch", name := "patternLength", desc := "()I" } : Jvm.MethodName) prog_13_method_3_code (1 : Nat) (Option.some Jvm.ClassFile.FieldType.int)).before args0 about1 = true := code_word (m := ⟨2, 1⟩) (meth := k2m1) (c := k2c1) (by decide +kernel) rfl rfl rfl (by decide +kernel)
set_option maxRecDepth 65536 in
theorem w_c13 : (Jvm.Cond.code ({ cls := "com/example/substring_search/substringsearch/UnitSearch", name := "matchedAfterAnOccurrence", desc := "(Lcom/example/substring_search/substringsearch/UnitSearch$Occurrences;)I" } : Jvm.MethodName) prog_13_method_10_code (2 : Nat) (Option.some Jvm.ClassFile.FieldType.int)).before args0 about1 = true := code_word (m := ⟨2, 2⟩) (meth := k2m2) (c := k2c2) (by decide +kernel) rfl rfl rfl (by decide +kernel)
set_option maxRecDepth 65536 in
theorem w_c14 : (Jvm.Cond.code ({ cls := "java/lang/Enum", name := "ordinal", desc := "()I" } : Jvm.MethodName) jdk_37_method_2_code (1 : Nat) (Option.some Jvm.ClassFile.FieldType.int)).before args0 about1 = true := code_word (m := ⟨13, 0⟩) (meth := k13m0) (c := k13c0) (by decide +kernel) rfl rfl rfl (by decide +kernel)
set_option maxRecDepth 65536 in
theorem w_c15 : (Jvm.Cond.code ({ cls := "com/example/substring_search/substringsearch/UnitScanner", name := "position", desc := "()J" } : Jvm.MethodName) prog_11_method_2_code (1 : Nat) (Option.some Jvm.ClassFile.FieldType.long)).before args0 about1 = true := code_word (m := ⟨9, 1⟩) (meth := k9m1) (c := k9c1) (by decide +kernel) rfl rfl rfl (by decide +kernel)
set_option maxRecDepth 65536 in
theorem w_c16 : (Jvm.Cond.code ({ cls := "com/example/substring_search/substringsearch/UnitScanner", name := "matched", desc := "()I" } : Jvm.MethodName) prog_11_method_3_code (1 : Nat) (Option.some Jvm.ClassFile.FieldType.int)).before args0 about1 = true := code_word (m := ⟨9, 2⟩) (meth := k9m2) (c := k9c2) (by decide +kernel) rfl rfl rfl (by decide +kernel)
set_option maxRecDepth 65536 in
theorem w_c17 : (Jvm.Cond.code ({ cls := "com/example/substring_search/substringsearch/UnitScanner", name := "passOver", desc := "(II)V" } : Jvm.MethodName) prog_11_method_4_code (3 : Nat) (Option.none : Option Jvm.ClassFile.FieldType)).before args0 about1 = true := code_word (m := ⟨9, 3⟩) (meth := k9m3) (c := k9c3) (by decide +kernel) rfl rfl rfl (by decide +kernel)
def codes1 : List Jvm.Cond := [Jvm.Cond.code x code maxLocals ret, Jvm.Cond.code ({ cls := "com/example/substring_search/substringsearch/UnitSearch", name := "<init>", desc := "([I)V" } : Jvm.MethodName) prog_13_method_1_code (2 : Nat) (Option.none : Option Jvm.ClassFile.FieldType), Jvm.Cond.code ({ cls := "java/lang/Object", name := "<init>", desc := "()V" } : Jvm.MethodName) object_method_1_code (1 : Nat) (Option.none : Option Jvm.ClassFile.FieldType), Jvm.Cond.code ({ cls := "com/example/substring_search/substringsearch/Units", name := "<init>", desc := "([I)V" } : Jvm.MethodName) prog_26_method_2_code (4 : Nat) (Option.none : Option Jvm.ClassFile.FieldType), Jvm.Cond.code ({ cls := "com/example/substring_search/substringsearch/Units", name := "<init>", desc := "(I)V" } : Jvm.MethodName) prog_26_method_1_code (2 : Nat) (Option.none : Option Jvm.ClassFile.FieldType), Jvm.Cond.code ({ cls := "com/example/substring_search/substringsearch/PrefixTable", name := "compute", desc := "([I)[I" } : Jvm.MethodName) prog_4_method_2_code (4 : Nat) (Option.some (Jvm.ClassFile.FieldType.array Jvm.ClassFile.FieldType.int)), Jvm.Cond.code ({ cls := "com/example/substring_search/substringsearch/StartScan", name := "<init>", desc := "([I[I)V" } : Jvm.MethodName) prog_5_method_1_code (3 : Nat) (Option.none : Option Jvm.ClassFile.FieldType), Jvm.Cond.code ({ cls := "com/example/substring_search/substringsearch/StartScan", name := "lowByteInEveryByte", desc := "(I)J" } : Jvm.MethodName) prog_5_method_20_code (1 : Nat) (Option.some Jvm.ClassFile.FieldType.long), Jvm.Cond.code ({ cls := "com/example/substring_search/substringsearch/StartScan", name := "laterStarts", desc := "([I[I)[I" } : Jvm.MethodName) prog_5_method_2_code (6 : Nat) (Option.some (Jvm.ClassFile.FieldType.array Jvm.ClassFile.FieldType.int)), Jvm.Cond.code ({ cls := "java/util/Arrays", name := "copyOf", desc := "([II)[I" } : Jvm.MethodName) jdk_65_method_123_code (3 : Nat) (Option.some (Jvm.ClassFile.FieldType.array Jvm.ClassFile.FieldType.int)), Jvm.Cond.code ({ cls := "java/lang/Math", name := "min", desc := "(II)I" } : Jvm.MethodName) jdk_29_method_69_code (2 : Nat) (Option.some Jvm.ClassFile.FieldType.int), Jvm.Cond.code ({ cls := "com/example/substring_search/substringsearch/UnitScanner", name := "<init>", desc := "(Lcom/example/substring_search/substringsearch/UnitSearch;)V" } : Jvm.MethodName) prog_11_method_1_code (2 : Nat) (Option.none : Option Jvm.ClassFile.FieldType), Jvm.Cond.code ({ cls := "com/example/substring_search/substringsearch/UnitSearch", name := "patternLength", desc := "()I" } : Jvm.MethodName) prog_13_method_3_code (1 : Nat) (Option.some Jvm.ClassFile.FieldType.int), Jvm.Cond.code ({ cls := "com/example/substring_search/substringsearch/UnitSearch", name := "matchedAfterAnOccurrence", desc := "(Lcom/example/substring_search/substringsearch/UnitSearch$Occurrences;)I" } : Jvm.MethodName) prog_13_method_10_code (2 : Nat) (Option.some Jvm.ClassFile.FieldType.int), Jvm.Cond.code ({ cls := "java/lang/Enum", name := "ordinal", desc := "()I" } : Jvm.MethodName) jdk_37_method_2_code (1 : Nat) (Option.some Jvm.ClassFile.FieldType.int), Jvm.Cond.code ({ cls := "com/example/substring_search/substringsearch/UnitScanner", name := "position", desc := "()J" } : Jvm.MethodName) prog_11_method_2_code (1 : Nat) (Option.some Jvm.ClassFile.FieldType.long), Jvm.Cond.code ({ cls := "com/example/substring_search/substringsearch/UnitScanner", name := "matched", desc := "()I" } : Jvm.MethodName) prog_11_method_3_code (1 : Nat) (Option.some Jvm.ClassFile.FieldType.int), Jvm.Cond.code ({ cls := "com/example/substring_search/substringsearch/UnitScanner", name := "passOver", desc := "(II)V" } : Jvm.MethodName) prog_11_method_4_code (3 : Nat) (Option.none : Option Jvm.ClassFile.FieldType)]
set_option maxRecDepth 65536 in
theorem codes_eq : words1.filter isCode = codes1 := rfl
theorem w_codes : ∀ c ∈ words1.filter isCode, c.before args0 about1 = true := by
  rw [codes_eq]
  intro c hc
  simp only [codes1, List.mem_cons, List.not_mem_nil, or_false] at hc
  rcases hc with rfl | rfl | rfl | rfl | rfl | rfl | rfl | rfl | rfl | rfl | rfl | rfl | rfl | rfl | rfl | rfl | rfl | rfl
  · exact w_c0
  · exact w_c1
  · exact w_c2
  · exact w_c3
  · exact w_c4
  · exact w_c5
  · exact w_c6
  · exact w_c7
  · exact w_c8
  · exact w_c9
  · exact w_c10
  · exact w_c11
  · exact w_c12
  · exact w_c13
  · exact w_c14
  · exact w_c15
  · exact w_c16
  · exact w_c17
set_option maxRecDepth 65536 in
theorem w_t1 : (words1.take 24).all (fun c => isCode c || c.before args0 about1) = true := by decide +kernel
set_option maxRecDepth 65536 in
theorem w_t2 : ((words1.drop 24).take 24).all (fun c => isCode c || c.before args0 about1) = true := by decide +kernel
set_option maxRecDepth 65536 in
theorem w_t3 : (((words1.drop 24).drop 24).take 24).all (fun c => isCode c || c.before args0 about1) = true := by decide +kernel
set_option maxRecDepth 65536 in
theorem w_t4 : ((((words1.drop 24).drop 24).drop 24).take 24).all (fun c => isCode c || c.before args0 about1) = true := by decide +kernel
set_option maxRecDepth 65536 in
theorem w_t5 : (((((words1.drop 24).drop 24).drop 24).drop 24).take 24).all (fun c => isCode c || c.before args0 about1) = true := by decide +kernel
set_option maxRecDepth 65536 in
theorem w_t6 : (((((words1.drop 24).drop 24).drop 24).drop 24).drop 24).all (fun c => isCode c || c.before args0 about1) = true := by decide +kernel
theorem w_tables : (allAtoms (Jvm.Cond.code x code maxLocals ret :: tables_1)).before args0 about1 = true := by
  rw [allAtoms_all]
  show words1.all (fun c => c.before args0 about1) = true
  refine all_split ?_ w_codes
  rw [← List.take_append_drop 24 words1, List.all_append, w_t1, ← List.take_append_drop 24 (words1.drop 24), List.all_append, w_t2, ← List.take_append_drop 24 ((words1.drop 24).drop 24), List.all_append, w_t3, ← List.take_append_drop 24 (((words1.drop 24).drop 24).drop 24), List.all_append, w_t4, ← List.take_append_drop 24 ((((words1.drop 24).drop 24).drop 24).drop 24), List.all_append, w_t5, w_t6]
  rfl
set_option maxRecDepth 65536 in
theorem w_case : (Jvm.Cond.and given_1 narrow_1).before args0 about1 = true := by decide +kernel
theorem w_applies : (headSpec (Jvm.Cond.code x code maxLocals ret :: tables_1) room_1).applies x e0.platform about1 = true :=
  (Spec.applies_iff w_frames).mpr ⟨w_running, w_runnable, w_alone, w_named, w_hears, w_ripe, w_room, w_tables⟩
theorem atStart : AtStart classFile x code maxLocals ret World_1 tables_1 room_1 Calls_1 rest_1 Pre_1 launch0 p0 e0 about1 theMethod args0 below0 :=
  ⟨lists_1, trivial, launch0.admits_env _ _ _, launch0.least_env, fairChoices_fair.cas, fairChoices_fair.clock, w_frames, w_args, w_heap, w_applies, trivial, trivial, w_case⟩
end start1
theorem witness_1 : WitnessClaimed_1 := ⟨start1.p0, start1.e0, start1.about1, start1.theMethod, start1.args0, start1.below0, start1.atStart⟩
end Jvm.Pilot.@@N@@
