import JvmDerived
import JvmDerived.Pilot.@@N@@Statement
import JvmDerived.Pilot.@@N@@Code
set_option linter.unusedVariables false
set_option linter.unusedSimpArgs false
namespace Jvm.RoadKit
open Sem ClassFile Op Lib Jvm.Stand Jvm.Free Jvm.LawKit
section OwnKit
variable {p : Program} {l : Launch} {e : Env} {R : Room} {s : State} {m : MethodId} {args : Array Value} {below : List Frame} {meth : Method} {c : Code} {T : State} {locs : List Loc} {cells slots : Nat} {Z : State} {a0 : Array Value} {h : Heap}
abbrev OwnP : Type := Option Value → Heap → List Loc → Prop
/-- from the state A the run comes back with what P says -/
def OwnG (tb : Tables) (e : Env) (below : List Frame) (s : State) (P : OwnP) (rc rs : Nat) (A : State) : Prop :=
  ∃ s₂ o, Steps tb e below A s₂ ∧ s₂.status = .running ∧ Ended s₂ below o ∧ ∃ v L, o = .returned v ∧ P v s₂.heap L ∧ FrameEnd s o s₂ L rc rs
theorem own_go {tb : Tables} {P : OwnP} {rc rs : Nat} {A : State} (T' : State) (m' : MethodId) (pc : Nat) (Ls : Array Slot) (st : List Value) (f : ∀ t, Steps tb e below (T'.setTop (mkF m' pc Ls st)) t → Steps tb e below A t) (k : OwnG tb e below s P rc rs (T'.setTop (mkF m' pc Ls st))) : OwnG tb e below s P rc rs A := by
  obtain ⟨s₂, o, h1, h2⟩ := k
  exact ⟨s₂, o, f _ h1, h2⟩
theorem own_mono {tb : Tables} {P P' : OwnP} {rc rs : Nat} {A : State} (f : ∀ v h L, P v h L → P' v h L) (k : OwnG tb e below s P rc rs A) : OwnG tb e below s P' rc rs A := by
  obtain ⟨s₂, o, h1, h2, h3, v, L, h4, h5, h6⟩ := k
  exact ⟨s₂, o, h1, h2, h3, v, L, h4, f _ _ _ h5, h6⟩
/-- what a walk knows of the body -/
def OwnX (Z : State) (p : Program) (s : State) (m : MethodId) (meth : Method) (c : Code) (bytes : ByteArray) (maxL : Nat) (ret : Option FieldType) (own nm : String) : Prop :=
  p.tables.exec = Jvm.exec ∧ c.code = bytes ∧ c.maxLocals = maxL ∧ s.vm.findClass own = some m.cls ∧ meth.name = nm ∧ meth.sig.returnType = ret ∧ meth.locks = false ∧ Z.Warmed39 s.vm
/-- a body's contract -/
abbrev OwnC (l : Launch) (Z : State) (y : MethodName) (bytes : ByteArray) (maxL : Nat) (ret : Option FieldType) (ws : List Cond) (rm : Room) (as' : Array Value) (h0 : Heap) (P : OwnP) : Prop :=
  MetFree l y (head1 (Cond.code y bytes maxL ret :: ws) rm) (fun a U => a = as' ∧ Z.Warmed39 U.vm ∧ U.heap = h0) (fun _ _ _ _ _ => True) (fun _ U o U' => ∃ v L, o = .returned v ∧ P v U'.heap L ∧ FrameEnd U o U' L rm.cells rm.slots)
theorem own_entry {y : MethodName} {bytes : ByteArray} {maxL : Nat} {ret : Option FieldType} {ws : List Cond} {rm : Room} {as' : Array Value} {h0 : Heap} {P : OwnP} {Ls : Array Slot} (hpl : plainFor y = true) (ef : ∀ m, entryFrame m as' maxL = mkF m 0 Ls [])
    (body : ∀ (p : Program) (e : Env) (s : State) (m : MethodId) (below : List Frame) (meth : Method) (c : Code) (T : State), Stand p l e rm s m as' below meth c T [] 0 0 → OwnX Z p s m meth c bytes maxL ret y.cls y.name → T.heap = h0 → OwnG p.tables e below s P rm.cells rm.slots (T.setTop (mkF m 0 Ls []))) :
    OwnC l Z y bytes maxL ret ws rm as' h0 P := by
  refine MetFree.of_bodySF hpl hisR ?_
  intro p e s m args below meth c s₁ Bd hml0 hP hK
  obtain ⟨rfl, hZ, hh⟩ := hP
  have e0 : s₁.heap = h0 := by rw [← hh, Bd.state]; rfl
  obtain ⟨s₂, o, h1, h2⟩ := body p e s m below meth c s₁ (Stand.of_body Bd) ⟨Bd.exec, Bd.bytes, hml0, findClass_of_methodNamed Bd.named, (name_of_methodNamed Bd.named Bd.method).1, Bd.returns, Bd.notSynchronized, hZ⟩ e0
  exact ⟨s₂, o, castTop (ef m) h1, h2⟩
theorem own_ret {P : OwnP} {rc rs : Nat} (X : Stand p l e R s m args below meth c T locs cells slots) (hx : p.tables.exec = Jvm.exec) (hlk : meth.locks = false) {pc : Nat} {Ls : Array Slot} {w : Value} {t : FieldType} {i : Instr} {rest : List Value} (hret : meth.sig.returnType = some t) (hn : narrow t w = w)
    (hi : (i = .ireturn ∧ (t = .int ∨ t = .boolean ∨ t = .byte ∨ t = .char ∨ t = .short) ∧ ∃ z, w = .int z) ∨ (i = .lreturn ∧ t = .long ∧ ∃ z, w = .long z) ∨ (i = .dreturn ∧ t = .double ∧ ∃ z, w = .double z) ∨ (i = .freturn ∧ t = .float ∧ ∃ z, w = .float z) ∨ (i = .areturn ∧ t.isReference = true ∧ w.isRef = true))
    (hd : decode c.code pc = .ok (i, 1)) (hc : cells ≤ rc) (hs : slots ≤ rs) (hP : P (some w) T.heap locs) : OwnG p.tables e below s P rc rs (T.setTop (mkF m pc Ls (w :: rest))) := by
  obtain ⟨fs, hr, hrun, hended, hW, hsame⟩ := X.leave (v := some w) (fun h => by rw [hret] at h; cases h) hlk
  exact ⟨_, _, retOut X hx hret hn hi hd hr, hrun, hended, _, _, rfl, hP, ⟨_, rfl⟩, hW, hsame.mono hc hs⟩
theorem own_retI {P : OwnP} {rc rs : Nat} (X : Stand p l e R s m args below meth c T locs cells slots) (hx : p.tables.exec = Jvm.exec) (hlk : meth.locks = false) {pc : Nat} {Ls : Array Slot} {z : Int32} {rest : List Value} (hret : meth.sig.returnType = some .int)
    (hd : decode c.code pc = .ok (.ireturn, 1)) (hc : cells ≤ rc) (hs : slots ≤ rs) (hP : P (some (.int z)) T.heap locs) : OwnG p.tables e below s P rc rs (T.setTop (mkF m pc Ls (.int z :: rest))) :=
  own_ret X hx hlk hret rfl (Or.inl ⟨rfl, Or.inl rfl, z, rfl⟩) hd hc hs hP
theorem own_retZ {P : OwnP} {rc rs : Nat} (X : Stand p l e R s m args below meth c T locs cells slots) (hx : p.tables.exec = Jvm.exec) (hlk : meth.locks = false) {pc : Nat} {Ls : Array Slot} {z : Int32} {rest : List Value} (hret : meth.sig.returnType = some .boolean) (hz : z = 0 ∨ z = 1)
    (hd : decode c.code pc = .ok (.ireturn, 1)) (hc : cells ≤ rc) (hs : slots ≤ rs) (hP : P (some (.int z)) T.heap locs) : OwnG p.tables e below s P rc rs (T.setTop (mkF m pc Ls (.int z :: rest))) :=
  own_ret X hx hlk hret (by rcases hz with rfl | rfl <;> rfl) (Or.inl ⟨rfl, Or.inr (Or.inl rfl), z, rfl⟩) hd hc hs hP
theorem own_retB {P : OwnP} {rc rs : Nat} (X : Stand p l e R s m args below meth c T locs cells slots) (hx : p.tables.exec = Jvm.exec) (hlk : meth.locks = false) {pc : Nat} {Ls : Array Slot} {z : Int32} {rest : List Value} (hret : meth.sig.returnType = some .byte) (hz : narrow .byte (.int z) = .int z)
    (hd : decode c.code pc = .ok (.ireturn, 1)) (hc : cells ≤ rc) (hs : slots ≤ rs) (hP : P (some (.int z)) T.heap locs) : OwnG p.tables e below s P rc rs (T.setTop (mkF m pc Ls (.int z :: rest))) :=
  own_ret X hx hlk hret hz (Or.inl ⟨rfl, Or.inr (Or.inr (Or.inl rfl)), z, rfl⟩) hd hc hs hP
theorem own_retJ {P : OwnP} {rc rs : Nat} (X : Stand p l e R s m args below meth c T locs cells slots) (hx : p.tables.exec = Jvm.exec) (hlk : meth.locks = false) {pc : Nat} {Ls : Array Slot} {z : Int64} {rest : List Value} (hret : meth.sig.returnType = some .long)
    (hd : decode c.code pc = .ok (.lreturn, 1)) (hc : cells ≤ rc) (hs : slots ≤ rs) (hP : P (some (.long z)) T.heap locs) : OwnG p.tables e below s P rc rs (T.setTop (mkF m pc Ls (.long z :: rest))) :=
  own_ret X hx hlk hret rfl (Or.inr (Or.inl ⟨rfl, rfl, z, rfl⟩)) hd hc hs hP
theorem own_retA {P : OwnP} {rc rs : Nat} (X : Stand p l e R s m args below meth c T locs cells slots) (hx : p.tables.exec = Jvm.exec) (hlk : meth.locks = false) {pc : Nat} {Ls : Array Slot} {w : Value} {t : FieldType} {rest : List Value} (hret : meth.sig.returnType = some t) (hn : narrow t w = w) (ht : t.isReference = true) (hw : w.isRef = true)
    (hd : decode c.code pc = .ok (.areturn, 1)) (hc : cells ≤ rc) (hs : slots ≤ rs) (hP : P (some w) T.heap locs) : OwnG p.tables e below s P rc rs (T.setTop (mkF m pc Ls (w :: rest))) :=
  own_ret X hx hlk hret hn (Or.inr (Or.inr (Or.inr (Or.inr ⟨rfl, ht, hw⟩)))) hd hc hs hP
theorem own_retV {P : OwnP} {rc rs : Nat} (X : Stand p l e R s m args below meth c T locs cells slots) (hx : p.tables.exec = Jvm.exec) (hlk : meth.locks = false) {pc : Nat} {Ls : Array Slot} (hret : meth.sig.returnType = none)
    (hd : decode c.code pc = .ok (.return_, 1)) (hc : cells ≤ rc) (hs : slots ≤ rs) (hP : P none T.heap locs) : OwnG p.tables e below s P rc rs (T.setTop (mkF m pc Ls [])) := by
  obtain ⟨fs, hr, hrun, hended, hW, hsame⟩ := X.leave (v := none) (fun _ => rfl) hlk
  exact ⟨_, _, X.returnOut hx hret hd hr, hrun, hended, _, _, rfl, hP, ⟨_, rfl⟩, hW, hsame.mono hc hs⟩
theorem own_static (X : Stand p l e R s m args below meth c T locs cells slots) (hx : p.tables.exec = Jvm.exec) (hZ : Z.Warmed39 s.vm) {own : String} {index : Nat} {y : MethodName} {bytes : ByteArray} {maxL : Nat} {ret : Option FieldType} {rm : Room} {as' : Array Value} {P : OwnP}
    (hown : s.vm.findClass own = some m.cls) (w1 : (Cond.methodLink own index y).before a0 Z = true) (w2 : (Cond.static y).before a0 Z = true) (w3 : (Cond.initialized y.cls).before a0 Z = true) (w4 : (Cond.code y bytes maxL ret).before a0 Z = true) (hy : y.cls ≠ "java/lang/invoke/MethodHandle" ∧ y.cls ≠ "java/lang/invoke/VarHandle")
    (hM : OwnC l Z y bytes maxL ret [] rm as' h P) (eT : T.heap = h) {pc : Nat} {Ls : Array Slot} {argsL rest : List Value} (W : Nat) {st : List Value} (hsz : Ls.size = c.maxLocals) (hlen : ∀ sig, parseMethodDescriptor y.desc = some sig → argsL.length = sig.parameters.length) (has : argsL.toArray = as') (hst : st = argsL.reverse ++ rest) (hW : (rest.map fun v => v.category).sum ≤ W)
    (hd : decode c.code pc = .ok (.invokestatic index, 3)) (hf : rm.frames + 1 ≤ R.frames) (hl : W + (maxL + 11) + rm.locals ≤ R.locals) (hc : cells + rm.cells ≤ R.cells) (hs : slots + rm.slots ≤ R.slots) :
    ∃ v T' L, Stand p l e R s m args below meth c T' (locs ++ L) (cells + rm.cells) (slots + rm.slots) ∧ P v T'.heap L ∧ ∀ t, Steps p.tables e below (T'.setTop (mkF m (pc + 3) Ls (v.toList ++ rest))) t → Steps p.tables e below (T.setTop (mkF m pc Ls st)) t := by
  obtain ⟨v, vm₁, ⟨T', L', k', n'⟩, -, X', ⟨L, hQ, l1, l2, l3⟩, stp⟩ := Jvm.LawKit.callS X hx hown (mvT hZ w1) (mvT hZ w2) (mvT hZ w3) (mvT hZ w4) hy (backOf (W := W) hM hZ w4 w3 hf hl) (g := mkF m pc Ls st) rfl hsz (argsL := argsL) (rest := rest) hlen hst (by show 2 * 0 + _ ≤ _; omega) hd (fun _ _ => ⟨has, eT, hc, hs⟩)
  dsimp only [Pt.U, Pt.locs, Pt.cells, Pt.slots] at X' l1 l2 l3 stp hQ
  subst l1 l2 l3
  exact ⟨v, T', L, X', hQ, stp⟩
theorem own_init (X : Stand p l e R s m args below meth c T locs cells slots) (hx : p.tables.exec = Jvm.exec) (hZ : Z.Warmed39 s.vm) {own : String} {index : Nat} {y : MethodName} {bytes : ByteArray} {maxL : Nat} {rm : Room} {as' : Array Value} {P : OwnP} (hy1 : y.name = "<init>")
    (hown : s.vm.findClass own = some m.cls) (w1 : (Cond.methodLink own index y).before a0 Z = true) (w2 : (Cond.instanceMethod y).before a0 Z = true) (w3 : (Cond.initialized y.cls).before a0 Z = true) (w4 : (Cond.code y bytes maxL none).before a0 Z = true) (hy : y.cls ≠ "java/lang/invoke/MethodHandle" ∧ y.cls ≠ "java/lang/invoke/VarHandle")
    (hM : OwnC l Z y bytes maxL none [] rm as' h P) (eT : T.heap = h) {pc : Nat} {Ls : Array Slot} {a : Addr} {argsL rest : List Value} (W : Nat) {st : List Value} (hsz : Ls.size = c.maxLocals) (hlen : ∀ sig, parseMethodDescriptor y.desc = some sig → argsL.length = sig.parameters.length) (has : (.ref a :: argsL).toArray = as') (hst : st = argsL.reverse ++ .ref a :: rest) (hW : (rest.map fun v => v.category).sum ≤ W)
    (hd : decode c.code pc = .ok (.invokespecial index, 3)) (hf : rm.frames + 1 ≤ R.frames) (hl : W + (maxL + 11) + rm.locals ≤ R.locals) (hc : cells + rm.cells ≤ R.cells) (hs : slots + rm.slots ≤ R.slots) :
    ∃ v T' L, Stand p l e R s m args below meth c T' (locs ++ L) (cells + rm.cells) (slots + rm.slots) ∧ P v T'.heap L ∧ ∀ t, Steps p.tables e below (T'.setTop (mkF m (pc + 3) Ls (v.toList ++ rest))) t → Steps p.tables e below (T.setTop (mkF m pc Ls st)) t := by
  obtain ⟨v, vm₁, ⟨T', L', k', n'⟩, -, X', ⟨L, hQ, l1, l2, l3⟩, stp⟩ := X.specialBack hx hy1 hown (mvT hZ w1) (mvT hZ w2) (mvT hZ w4) hy (backOf (W := W) hM hZ w4 w3 hf hl) (g := mkF m pc Ls st) rfl hsz (Steps.refl _) (a := a) (argsL := argsL) (rest := rest) hlen hst (by show 2 * 0 + _ ≤ _; omega) hd (fun _ _ => ⟨has, eT, hc, hs⟩)
  dsimp only [Pt.U, Pt.locs, Pt.cells, Pt.slots] at X' l1 l2 l3 stp hQ
  subst l1 l2 l3
  exact ⟨v, T', L, X', hQ, fun t k => stp.trans k⟩
theorem own_virtual (X : Stand p l e R s m args below meth c T locs cells slots) (hx : p.tables.exec = Jvm.exec) (hZ : Z.Warmed39 s.vm) {own C : String} {index : Nat} {y z : MethodName} {bytes : ByteArray} {maxL : Nat} {ret : Option FieldType} {rm : Room} {as' : Array Value} {P : OwnP}
    (hown : s.vm.findClass own = some m.cls) (w1 : (Cond.methodLink own index y).before a0 Z = true) (w2 : (Cond.declares y).before a0 Z = true) (hnf : NotFace s y) (w5 : (Cond.selects C y z).before a0 Z = true) (w6 : (Cond.instanceMethod z).before a0 Z = true) (w3 : (Cond.initialized z.cls).before a0 Z = true) (w4 : (Cond.code z bytes maxL ret).before a0 Z = true) (hy : y.cls ≠ "java/lang/invoke/MethodHandle" ∧ y.cls ≠ "java/lang/invoke/VarHandle")
    (hM : OwnC l Z z bytes maxL ret [] rm as' h P) (eT : T.heap = h) {a : Addr} (E : Exa Z h a C) {pc : Nat} {Ls : Array Slot} {argsL rest : List Value} (W : Nat) {st : List Value} (hsz : Ls.size = c.maxLocals) (hlen : ∀ sig, parseMethodDescriptor y.desc = some sig → argsL.length = sig.parameters.length) (has : (.ref a :: argsL).toArray = as') (hst : st = argsL.reverse ++ .ref a :: rest) (hW : (rest.map fun v => v.category).sum ≤ W)
    (hd : decode c.code pc = .ok (.invokevirtual index, 3)) (hf : rm.frames + 1 ≤ R.frames) (hl : W + (maxL + 11) + rm.locals ≤ R.locals) (hc : cells + rm.cells ≤ R.cells) (hs : slots + rm.slots ≤ R.slots) :
    ∃ v T' L, Stand p l e R s m args below meth c T' (locs ++ L) (cells + rm.cells) (slots + rm.slots) ∧ P v T'.heap L ∧ ∀ t, Steps p.tables e below (T'.setTop (mkF m (pc + 3) Ls (v.toList ++ rest))) t → Steps p.tables e below (T.setTop (mkF m pc Ls st)) t := by
  obtain ⟨cq, kq, qa, qb, qc⟩ := isOf hZ eT E
  obtain ⟨v, vm₁, ⟨T', L', k', n'⟩, -, X', ⟨L, hQ, l1, l2, l3⟩, stp⟩ := X.virtualBack hx (y := y) (z := z) hown (mvT hZ w1) (mvT hZ w2) hnf (mvT hZ w5) (mvT hZ w6) hy (backOf (W := W) hM hZ w4 w3 hf hl) qa qc (g := mkF m pc Ls st) rfl hsz (Steps.refl _) (argsL := argsL) (rest := rest) hlen hst (by show 2 * 0 + _ ≤ _; omega) hd (fun _ _ => ⟨has, eT, hc, hs⟩)
  dsimp only [Pt.U, Pt.locs, Pt.cells, Pt.slots] at X' l1 l2 l3 stp hQ
  subst l1 l2 l3
  exact ⟨v, T', L, X', hQ, fun t k => stp.trans k⟩
/-- a body that writes nothing and makes nothing -/
def OwnPure (w : Value) (h0 : Heap) : OwnP := fun v h L => v = some w ∧ h = h0 ∧ L = []
theorem own_nil (X : Stand p l e R s m args below meth c T (locs ++ []) cells slots) : Stand p l e R s m args below meth c T locs cells slots := by rwa [List.append_nil] at X
theorem own_iaload (X : Stand p l e R s m args below meth c T locs cells slots) (hx : p.tables.exec = Jvm.exec) (hZ : Z.Warmed39 s.vm) (eT : T.heap = h) {a : Addr} {k : ClassId} {n : Int32} {vs : List Value} {dv : Value} (V : Arv Z h a k .int n vs dv) {j x : Int32} (hj : ¬ j < 0 ∧ j < n) (hv : vs.getD j.toNatClampNeg dv = .int x)
    {pc : Nat} {Ls : Array Slot} {rest : List Value} (hd : decode c.code pc = .ok (.iaload, 1)) : ∀ t, Steps p.tables e below (T.setTop (mkF m (pc + 1) Ls (.int x :: rest))) t → Steps p.tables e below (T.setTop (mkF m pc Ls (.int j :: .ref a :: rest))) t := by
  obtain ⟨cl, A, -, S, -, H, -⟩ := V
  exact fun t k => X.iaload hx (by rw [eT]; exact A.1) (State.isArrayOf_alike hZ.alike A.2.1) A.2.2 (inb_of S hj) (H.at (inb_of S hj) hv) (g := mkF m pc Ls (.int j :: .ref a :: rest)) rfl rfl hd t k
theorem own_baload (X : Stand p l e R s m args below meth c T locs cells slots) (hx : p.tables.exec = Jvm.exec) (hZ : Z.Warmed39 s.vm) (eT : T.heap = h) {a : Addr} {k : ClassId} {n : Int32} {vs : List Value} {dv : Value} (V : Arv Z h a k .byte n vs dv) {j x : Int32} (hj : ¬ j < 0 ∧ j < n) (hv : vs.getD j.toNatClampNeg dv = .int x)
    {pc : Nat} {Ls : Array Slot} {rest : List Value} (hd : decode c.code pc = .ok (.baload, 1)) : ∀ t, Steps p.tables e below (T.setTop (mkF m (pc + 1) Ls (.int x :: rest))) t → Steps p.tables e below (T.setTop (mkF m pc Ls (.int j :: .ref a :: rest))) t := by
  obtain ⟨cl, A, -, S, -, H, -⟩ := V
  exact fun t k => X.baloadBytes hx (by rw [eT]; exact A.1) (State.isArrayOf_alike hZ.alike A.2.1) A.2.2 (inb_of S hj) (H.at (inb_of S hj) hv) (g := mkF m pc Ls (.int j :: .ref a :: rest)) rfl rfl hd t k
theorem own_aaload (X : Stand p l e R s m args below meth c T locs cells slots) (hx : p.tables.exec = Jvm.exec) (hZ : Z.Warmed39 s.vm) (eT : T.heap = h) {a : Addr} {k : ClassId} {ty : FieldType} {n : Int32} {vs : List Value} {dv : Value} (V : Arv Z h a k ty n vs dv) (hty : ty.isReference = true) {j : Int32} {w : Value} (hj : ¬ j < 0 ∧ j < n) (hv : vs.getD j.toNatClampNeg dv = w)
    {pc : Nat} {Ls : Array Slot} {rest : List Value} (hd : decode c.code pc = .ok (.aaload, 1)) : ∀ t, Steps p.tables e below (T.setTop (mkF m (pc + 1) Ls (w :: rest))) t → Steps p.tables e below (T.setTop (mkF m pc Ls (.int j :: .ref a :: rest))) t := by
  obtain ⟨cl, A, -, S, -, H, -⟩ := V
  exact fun t k => X.aaload hx (by rw [eT]; exact A.1) (State.isArrayOf_alike hZ.alike A.2.1) hty A.2.2 (inb_of S hj) (H.at (inb_of S hj) hv) (g := mkF m pc Ls (.int j :: .ref a :: rest)) rfl rfl hd t k
theorem own_alen (X : Stand p l e R s m args below meth c T locs cells slots) (hx : p.tables.exec = Jvm.exec) (hZ : Z.Warmed39 s.vm) (eT : T.heap = h) {a : Addr} {k : ClassId} {ty : FieldType} {n : Int32} {vs : List Value} {dv : Value} (V : Arv Z h a k ty n vs dv)
    {pc : Nat} {Ls : Array Slot} {rest : List Value} (hd : decode c.code pc = .ok (.arraylength, 1)) : ∀ t, Steps p.tables e below (T.setTop (mkF m (pc + 1) Ls (.int n :: rest))) t → Steps p.tables e below (T.setTop (mkF m pc Ls (.ref a :: rest))) t := by
  obtain ⟨cl, A, -, S, N, H, -⟩ := V
  intro t q
  refine X.arraylength hx (by rw [eT]; exact A.1) (State.isArrayOf_alike hZ.alike A.2.1) (g := mkF m pc Ls (.ref a :: rest)) rfl rfl hd t ?_
  rw [len_of S N]
  exact q
theorem own_iastore (X : Stand p l e R s m args below meth c T locs cells slots) (hx : p.tables.exec = Jvm.exec) (hZ : Z.Warmed39 s.vm) (eT : T.heap = h) {a : Addr} {k : ClassId} {n : Int32} {vs : List Value} {dv : Value} (V : Arv Z h a k .int n vs dv) {j x : Int32} (hj : ¬ j < 0 ∧ j < n) (i : Nat) (hi : j.toNatClampNeg = i) (hl : i < vs.length)
    {pc : Nat} {Ls : Array Slot} {rest : List Value} (hd : decode c.code pc = .ok (.iastore, 1)) : ∃ T' h', Stand p l e R s m args below meth c T' (locs ++ [⟨a, i⟩]) cells slots ∧ T'.heap = h' ∧ Wr h h' a i (.int x) ∧ Arv Z h' a k .int n (vs.set i (.int x)) dv ∧ ∀ t, Steps p.tables e below (T'.setTop (mkF m (pc + 1) Ls rest)) t → Steps p.tables e below (T.setTop (mkF m pc Ls (.int x :: .int j :: .ref a :: rest))) t := by
  obtain ⟨cl, A, q1, S, N, H, G⟩ := V
  obtain ⟨T', h', X', e', W', st⟩ := stI X hx hZ eT A (j := j) (x := x) (inb_of S hj) (g := mkF m pc Ls (.int x :: .int j :: .ref a :: rest)) rfl rfl hd
  have V' := Arv.set A q1 S N H G (v := .int x) rfl W' i hi hl
  rw [hi] at X' W'
  exact ⟨T', h', X', e', W', V', st⟩
theorem own_bastore (X : Stand p l e R s m args below meth c T locs cells slots) (hx : p.tables.exec = Jvm.exec) (hZ : Z.Warmed39 s.vm) (eT : T.heap = h) {a : Addr} {k : ClassId} {n : Int32} {vs : List Value} {dv : Value} (V : Arv Z h a k .byte n vs dv) {j x : Int32} (hj : ¬ j < 0 ∧ j < n) (i : Nat) (hi : j.toNatClampNeg = i) (hl : i < vs.length)
    {pc : Nat} {Ls : Array Slot} {rest : List Value} (hd : decode c.code pc = .ok (.bastore, 1)) : ∃ T' h', Stand p l e R s m args below meth c T' (locs ++ [⟨a, i⟩]) cells slots ∧ T'.heap = h' ∧ Wr h h' a i (.int x.toInt8.toInt32) ∧ Arv Z h' a k .byte n (vs.set i (.int x.toInt8.toInt32)) dv ∧ ∀ t, Steps p.tables e below (T'.setTop (mkF m (pc + 1) Ls rest)) t → Steps p.tables e below (T.setTop (mkF m pc Ls (.int x :: .int j :: .ref a :: rest))) t := by
  obtain ⟨cl, A, q1, S, N, H, G⟩ := V
  obtain ⟨T', h', X', e', W', st⟩ := stB X hx hZ eT A (j := j) (x := x) (inb_of S hj) (g := mkF m pc Ls (.int x :: .int j :: .ref a :: rest)) rfl rfl hd
  have V' := Arv.set A q1 S N H G (v := .int x.toInt8.toInt32) (fits_nar_byte x) W' i hi hl
  rw [hi] at X' W'
  exact ⟨T', h', X', e', W', V', st⟩
theorem own_aastore (X : Stand p l e R s m args below meth c T locs cells slots) (hx : p.tables.exec = Jvm.exec) (hZ : Z.Warmed39 s.vm) (eT : T.heap = h) {a : Addr} {k : ClassId} {ty : FieldType} {n : Int32} {vs : List Value} {dv : Value} (V : Arv Z h a k ty n vs dv) (hty : ty.isReference = true) {C : String} (O : Ovr Z k C) {y : Addr} (I : Ins Z h y C true) {j : Int32} (hj : ¬ j < 0 ∧ j < n) (i : Nat) (hi : j.toNatClampNeg = i) (hl : i < vs.length)
    {pc : Nat} {Ls : Array Slot} {rest : List Value} (hd : decode c.code pc = .ok (.aastore, 1)) : ∃ T' h', Stand p l e R s m args below meth c T' (locs ++ [⟨a, i⟩]) cells slots ∧ T'.heap = h' ∧ Wr h h' a i (.ref y) ∧ Arv Z h' a k ty n (vs.set i (.ref y)) dv ∧ ∀ t, Steps p.tables e below (T'.setTop (mkF m (pc + 1) Ls rest)) t → Steps p.tables e below (T.setTop (mkF m pc Ls (.ref y :: .int j :: .ref a :: rest))) t := by
  obtain ⟨cl, A, q1, S, N, H, G⟩ := V
  obtain ⟨T', h', X', e', W', st⟩ := stR X hx hZ eT A (j := j) (v := .ref y) (inb_of S hj) hty (Sto.ofV A q1 O I) (g := mkF m pc Ls (.ref y :: .int j :: .ref a :: rest)) rfl rfl hd
  have V' := Arv.set A q1 S N H G (v := .ref y) (by cases ty <;> first | rfl | (simp [FieldType.isReference] at hty)) W' i hi hl
  rw [hi] at X' W'
  exact ⟨T', h', X', e', W', V', st⟩
theorem own_lt_eq {x y : Int64} (h : x = y) : lcmpW x y = 0 := (lw_eq x y).mpr h
theorem own_rem_ne {x y : Int32} {target : State} {g : JFrame} (X : Stand p l e R s m args below meth c T locs cells slots) (hx : p.tables.exec = Jvm.exec) (hg : g.method = m) {rest : List Value} (hd : decode c.code g.pc = .ok (.irem, 1)) (hs : g.stack = .int y :: .int x :: rest) (hy : y ≠ 0)
    (hr : Steps p.tables e below (T.setTop { g with pc := g.pc + 1, stack := .int (x % y) :: rest }) target) : Steps p.tables e below (T.setTop g) target := iremM X hx hg hd hs hy hr
theorem own_lrem {x y : Int64} {target : State} {g : JFrame} (X : Stand p l e R s m args below meth c T locs cells slots) (hx : p.tables.exec = Jvm.exec) (hg : g.method = m) {rest : List Value} (hd : decode c.code g.pc = .ok (.lrem, 1)) (hs : g.stack = .long y :: .long x :: rest) (hy : y ≠ 0)
    (hr : Steps p.tables e below (T.setTop { g with pc := g.pc + 1, stack := .long (x % y) :: rest }) target) : Steps p.tables e below (T.setTop g) target := by
  refine XS.lrem X.here hx hg hd hs hy ?_
  rw [lrem_mod]
  exact hr
theorem own_fld_int {args : Array Value} {t : Term} {C n d : String} {k : Int32} {a : Addr} (ev : t.eval args Z none [] Z = some (.ref a)) (h : (Cond.eq (Term.field t C n d) (Term.int k)).value args Z none Z [] = some true) : Fld Z Z.heap a C n d (.int k) := by
  obtain ⟨x, y, h1, h2, h3, h4⟩ := cmp_v (Or.inl h)
  have hy : y = .int k := by rw [Term.int_eval] at h2; exact (Option.some.inj h2).symm
  subst hy
  obtain ⟨z, rfl⟩ : ∃ z, x = .int z := h4
  have hz : z = k := by simpa [Cond.value, h1, h2] using h
  subst hz
  rw [fld_at ev] at h1
  exact Fld.start h1
theorem own_sta_keep {C n d : String} {v : Value} {h' : Heap} (F : Sta Z h C n d v) (K : Keep h h' []) : Sta Z h' C n d v := by
  obtain ⟨cf, i, k, f, st, cell, h1, h2, h3, h4, h5, h6⟩ := F
  exact ⟨cf, i, k, f, st, cell, h1, h2, h3, h4, K.2.1 _ _ h5 nin0, h6⟩
/-- the objects of C are no K: C's superclasses are named, K is a class that has objects -/
theorem own_nsroot {O K : String} {n : Nat} (w : (Cond.noSuperclass O).before a0 Z = true) (wk : (Cond.instantiable K n).before a0 Z = true) (hn : O ≠ K) : NS Z O K := by
  obtain ⟨c, k, h1, h2, h3, -, -⟩ := Cond.noSuperclass_spec w
  obtain ⟨t, kt, g1, -⟩ := Cond.instantiable_spec wk
  have ne := ids_ne h1 g1 hn
  refine ⟨c, t, h1, g1, fun fuel => ?_⟩
  cases fuel with
  | zero => rfl
  | succ f => simp [Vm.isSubclassAux, ne, h2, h3]
theorem own_nsno {C S K : String} {n : Nat} (w : (Cond.superclass C S).before a0 Z = true) (wk : (Cond.instantiable K n).before a0 Z = true) (q : NS Z C K) (hn : C ≠ K) : ∃ c t, Z.vm.findClass C = some c ∧ Z.vm.findClass K = some t ∧ Z.vm.assignable c t = false := by
  obtain ⟨c, t, h0, g0, n3⟩ := q
  obtain ⟨p, k, kp, h1, h2, h3, h4, h5, -, h7⟩ := Cond.superclass_spec h0 w
  obtain ⟨t', kt, g1, g2, g3, g4, -⟩ := Cond.instantiable_spec wk
  cases g0.symm.trans g1
  have g5 : kt.isInterface = false := by
    cases hq : kt.isInterface with
    | false => rfl
    | true => rw [hq] at g4; simp at g4
  have ne := ids_ne h0 g0 hn
  refine ⟨c, t, h0, g0, ?_⟩
  show Z.vm.assignableAux (255 + 1) c t = false
  simp [Vm.assignableAux, ne, h2, g2, h5, g3, g5, Vm.isSubclass, n3]
theorem own_s16 (x : Int32) : x.toInt16.toInt32.toInt16.toInt32 = x.toInt16.toInt32 := by simp
theorem own_virtualUp (X : Stand p l e R s m args below meth c T locs cells slots) (hx : p.tables.exec = Jvm.exec) (hZ : Z.Warmed39 s.vm) {own C owner : String} {index : Nat} {x y : MethodName} {bytes : ByteArray} {maxL : Nat} {ret : Option FieldType} {rm : Room} {as' : Array Value} {P : OwnP}
    (hown : s.vm.findClass own = some m.cls) (w1 : (Cond.methodLink own index x).before a0 Z = true) (w2 : (Cond.sameMethod x.cls owner x.name x.desc).before a0 Z = true) (w7 : (Cond.declares ⟨owner, x.name, x.desc⟩).before a0 Z = true) (hy : owner ≠ "java/lang/invoke/MethodHandle" ∧ owner ≠ "java/lang/invoke/VarHandle") (w5 : (Cond.selects C x y).before a0 Z = true) (w6 : (Cond.instanceMethod y).before a0 Z = true) (w3 : (Cond.initialized y.cls).before a0 Z = true) (w4 : (Cond.code y bytes maxL ret).before a0 Z = true)
    (hM : OwnC l Z y bytes maxL ret [] rm as' h P) (eT : T.heap = h) {a : Addr} (E : Exa Z h a C) {pc : Nat} {Ls : Array Slot} {argsL rest : List Value} (W : Nat) {st : List Value} (hsz : Ls.size = c.maxLocals) (hlen : ∀ sig, parseMethodDescriptor x.desc = some sig → argsL.length = sig.parameters.length) (has : (.ref a :: argsL).toArray = as') (hst : st = argsL.reverse ++ .ref a :: rest) (hW : (rest.map fun v => v.category).sum ≤ W)
    (hd : decode c.code pc = .ok (.invokevirtual index, 3)) (hf : rm.frames + 1 ≤ R.frames) (hl : W + (maxL + 11) + rm.locals ≤ R.locals) (hc : cells + rm.cells ≤ R.cells) (hs : slots + rm.slots ≤ R.slots) :
    ∃ v T' L, Stand p l e R s m args below meth c T' (locs ++ L) (cells + rm.cells) (slots + rm.slots) ∧ P v T'.heap L ∧ ∀ t, Steps p.tables e below (T'.setTop (mkF m (pc + 3) Ls (v.toList ++ rest))) t → Steps p.tables e below (T.setTop (mkF m pc Ls st)) t := by
  obtain ⟨cq, kq, qa, qb, qc⟩ := isOf hZ eT E
  obtain ⟨v, vm₁, ⟨T', L', k', n'⟩, -, X', ⟨L, hQ, l1, l2, l3⟩, stp⟩ := X.virtualBackUp hx (x := x) (y := y) hown (mvT hZ w1) (mvT hZ w2) (mvT hZ w7) hy (mvT hZ w5) (mvT hZ w6) (backOf (W := W) hM hZ w4 w3 hf hl) qa qc (g := mkF m pc Ls st) rfl hsz (Steps.refl _) (argsL := argsL) (rest := rest) hlen hst (by show 2 * 0 + _ ≤ _; omega) hd (fun _ _ => ⟨has, eT, hc, hs⟩)
  dsimp only [Pt.U, Pt.locs, Pt.cells, Pt.slots] at X' l1 l2 l3 stp hQ
  subst l1 l2 l3
  exact ⟨v, T', L, X', hQ, fun t k => stp.trans k⟩
theorem own_castore (X : Stand p l e R s m args below meth c T locs cells slots) (hx : p.tables.exec = Jvm.exec) (hZ : Z.Warmed39 s.vm) (eT : T.heap = h) {a : Addr} {k : ClassId} {n : Int32} {vs : List Value} {dv : Value} (V : Arv Z h a k .char n vs dv) {j x : Int32} (hj : ¬ j < 0 ∧ j < n) (i : Nat) (hi : j.toNatClampNeg = i) (hl : i < vs.length)
    {pc : Nat} {Ls : Array Slot} {rest : List Value} (hd : decode c.code pc = .ok (.castore, 1)) : ∃ T' h', Stand p l e R s m args below meth c T' (locs ++ [⟨a, i⟩]) cells slots ∧ T'.heap = h' ∧ Wr h h' a i (.int x.toUInt32.toUInt16.toUInt32.toInt32) ∧ Arv Z h' a k .char n (vs.set i (.int x.toUInt32.toUInt16.toUInt32.toInt32)) dv ∧ ∀ t, Steps p.tables e below (T'.setTop (mkF m (pc + 1) Ls rest)) t → Steps p.tables e below (T.setTop (mkF m pc Ls (.int x :: .int j :: .ref a :: rest))) t := by
  obtain ⟨cl, A, q1, S, N, H, G⟩ := V
  obtain ⟨T', h', X', e', W', st⟩ := stC X hx hZ eT A (j := j) (x := x) (inb_of S hj) (g := mkF m pc Ls (.int x :: .int j :: .ref a :: rest)) rfl rfl hd
  have V' := Arv.set A q1 S N H G (v := .int x.toUInt32.toUInt16.toUInt32.toInt32) (fits_nar_char x) W' i hi hl
  rw [hi] at X' W'
  exact ⟨T', h', X', e', W', V', st⟩
theorem own_sta_keep1 {C n d C' : String} {v : Value} {h' : Heap} {a : Addr} (F : Sta Z h C n d v) (K : Keep h h' [a]) (E : Exa Z h a C') : Sta Z h' C n d v := by
  obtain ⟨cf, i, k, f, st, cell, h1, h2, h3, h4, h5, h6, h7⟩ := F
  obtain ⟨cell', k', e1, -, -, e4, -⟩ := E
  have hne : st ≠ a := fun q => by
    subst q
    cases h5.symm.trans e1
    rw [h6] at e4
    cases e4
  exact ⟨cf, i, k, f, st, cell, h1, h2, h3, h4, K.2.1 _ _ h5 (ninS hne nin0), h6, h7⟩
theorem own_private (X : Stand p l e R s m args below meth c T locs cells slots) (hx : p.tables.exec = Jvm.exec) (hZ : Z.Warmed39 s.vm) {own C : String} {index n : Nat} {y : MethodName} {bytes : ByteArray} {maxL : Nat} {ret : Option FieldType} {rm : Room} {as' : Array Value} {P : OwnP}
    (hown : s.vm.findClass own = some m.cls) (w1 : (Cond.methodLink own index y).before a0 Z = true) (w2 : (Cond.instanceMethod y).before a0 Z = true) (wp : (Cond.privateMethod y).before a0 Z = true) (wi : (Cond.instantiable y.cls n).before a0 Z = true) (w3 : (Cond.initialized y.cls).before a0 Z = true) (w4 : (Cond.code y bytes maxL ret).before a0 Z = true) (hy : y.cls ≠ "java/lang/invoke/MethodHandle" ∧ y.cls ≠ "java/lang/invoke/VarHandle")
    (hM : OwnC l Z y bytes maxL ret [] rm as' h P) (eT : T.heap = h) {a : Addr} (E : Exa Z h a C) {pc : Nat} {Ls : Array Slot} {argsL rest : List Value} (W : Nat) {st : List Value} (hsz : Ls.size = c.maxLocals) (hlen : ∀ sig, parseMethodDescriptor y.desc = some sig → argsL.length = sig.parameters.length) (has : (.ref a :: argsL).toArray = as') (hst : st = argsL.reverse ++ .ref a :: rest) (hW : (rest.map fun v => v.category).sum ≤ W)
    (hd : decode c.code pc = .ok (.invokevirtual index, 3)) (hf : rm.frames + 1 ≤ R.frames) (hl : W + (maxL + 11) + rm.locals ≤ R.locals) (hc : cells + rm.cells ≤ R.cells) (hs : slots + rm.slots ≤ R.slots) :
    ∃ v T' L, Stand p l e R s m args below meth c T' (locs ++ L) (cells + rm.cells) (slots + rm.slots) ∧ P v T'.heap L ∧ ∀ t, Steps p.tables e below (T'.setTop (mkF m (pc + 3) Ls (v.toList ++ rest))) t → Steps p.tables e below (T.setTop (mkF m pc Ls st)) t := by
  obtain ⟨cell, hcell, hobj⟩ := E.cell
  have hpriv := Cond.privateMethod_at (mvP hZ wp (args := args))
  obtain ⟨ci, ki, i1, i2, i3, i4, -⟩ := Cond.instantiable_spec (show (Cond.instantiable y.cls n).before args s = true from mvT hZ wi)
  have hni : ki.isInterface = false := by
    cases hq : ki.isInterface with
    | false => rfl
    | true => rw [hq] at i4; simp at i4
  have hsel := selects_self_of_private (args := args) i1 i2 hni hpriv (mvT hZ w2) hy
  obtain ⟨v, vm₁, ⟨T', L', k', n'⟩, -, X', ⟨L, hQ, l1, l2, l3⟩, stp⟩ := X.privateBack hx (y := y) hown (mvT hZ w1) (mvT hZ w2) hsel hpriv (mvT hZ w4) hy (backOf (W := W) hM hZ w4 w3 hf hl) (g := mkF m pc Ls st) rfl hsz (Steps.refl _) (a := a) (by rw [eT]; exact hcell) hobj (argsL := argsL) (rest := rest) hlen hst (by show 2 * 0 + _ ≤ _; omega) hd (fun _ _ => ⟨has, eT, hc, hs⟩)
  dsimp only [Pt.U, Pt.locs, Pt.cells, Pt.slots] at X' l1 l2 l3 stp hQ
  subst l1 l2 l3
  exact ⟨v, T', L, X', hQ, fun t k => stp.trans k⟩
theorem own_interface (X : Stand p l e R s m args below meth c T locs cells slots) (hx : p.tables.exec = Jvm.exec) (hZ : Z.Warmed39 s.vm) {own C : String} {index count : Nat} {xi y : MethodName} {bytes : ByteArray} {maxL : Nat} {ret : Option FieldType} {rm : Room} {as' : Array Value} {P : OwnP}
    (hown : s.vm.findClass own = some m.cls) (w1 : (Cond.methodLink own index xi).before a0 Z = true) (w2 : (Cond.declares xi).before a0 Z = true) (w7 : (Cond.interfaceMethod xi.cls xi.cls xi.name xi.desc).before args s = true) (w5 : (Cond.selects C xi y).before a0 Z = true) (w6 : (Cond.instanceMethod y).before a0 Z = true) (w8 : (Cond.publicMethod y).before a0 Z = true) (w9 : (Cond.unhidden C xi.name xi.desc).before a0 Z = true) (w10 : (Cond.castable C xi.cls).before a0 Z = true) (w3 : (Cond.initialized y.cls).before a0 Z = true) (w4 : (Cond.code y bytes maxL ret).before a0 Z = true) (hy : xi.cls ≠ "java/lang/invoke/MethodHandle" ∧ xi.cls ≠ "java/lang/invoke/VarHandle")
    (hM : OwnC l Z y bytes maxL ret [] rm as' h P) (eT : T.heap = h) {a : Addr} (E : Exa Z h a C) {pc : Nat} {Ls : Array Slot} {argsL rest : List Value} (W : Nat) {st : List Value} (hsz : Ls.size = c.maxLocals) (hlen : ∀ sig, parseMethodDescriptor xi.desc = some sig → argsL.length = sig.parameters.length) (has : (.ref a :: argsL).toArray = as') (hst : st = argsL.reverse ++ .ref a :: rest) (hW : (rest.map fun v => v.category).sum ≤ W)
    (hd : decode c.code pc = .ok (.invokeinterface index count, 5)) (hf : rm.frames + 1 ≤ R.frames) (hl : W + (maxL + 11) + rm.locals ≤ R.locals) (hc : cells + rm.cells ≤ R.cells) (hs : slots + rm.slots ≤ R.slots) :
    ∃ v T' L, Stand p l e R s m args below meth c T' (locs ++ L) (cells + rm.cells) (slots + rm.slots) ∧ P v T'.heap L ∧ ∀ t, Steps p.tables e below (T'.setTop (mkF m (pc + 5) Ls (v.toList ++ rest))) t → Steps p.tables e below (T.setTop (mkF m pc Ls st)) t := by
  obtain ⟨cq, kq, qa, qb, qc⟩ := isOf hZ eT E
  obtain ⟨v, vm₁, ⟨T', L', k', n'⟩, -, X', ⟨L, hQ, l1, l2, l3⟩, stp⟩ := X.interfaceBack hx (xi := xi) (y := y) hown (mvT hZ w1) (mvT hZ w2) w7 (mvT hZ w5) (mvT hZ w6) (mvT hZ w8) (mvT hZ w9) (mvT hZ w10) hy (backOf (W := W) hM hZ w4 w3 hf hl) qa qb qc (g := mkF m pc Ls st) rfl hsz (Steps.refl _) (argsL := argsL) (rest := rest) hlen hst (by show 2 * 0 + _ ≤ _; omega) hd (fun _ _ => ⟨has, eT, hc, hs⟩)
  dsimp only [Pt.U, Pt.locs, Pt.cells, Pt.slots] at X' l1 l2 l3 stp hQ
  subst l1 l2 l3
  exact ⟨v, T', L, X', hQ, fun t k => stp.trans k⟩
theorem own_staticUp (X : Stand p l e R s m args below meth c T locs cells slots) (hx : p.tables.exec = Jvm.exec) (hZ : Z.Warmed39 s.vm) {own owner : String} {index : Nat} {x : MethodName} {bytes : ByteArray} {maxL : Nat} {ret : Option FieldType} {rm : Room} {as' : Array Value} {P : OwnP}
    (hown : s.vm.findClass own = some m.cls) (w1 : (Cond.methodLink own index x).before a0 Z = true) (w2 : (Cond.sameMethod x.cls owner x.name x.desc).before a0 Z = true) (hy : owner ≠ "java/lang/invoke/MethodHandle" ∧ owner ≠ "java/lang/invoke/VarHandle") (w5 : (Cond.static ⟨owner, x.name, x.desc⟩).before a0 Z = true) (w3 : (Cond.initialized owner).before a0 Z = true) (w4 : (Cond.code ⟨owner, x.name, x.desc⟩ bytes maxL ret).before a0 Z = true)
    (hM : OwnC l Z ⟨owner, x.name, x.desc⟩ bytes maxL ret [] rm as' h P) (eT : T.heap = h) {pc : Nat} {Ls : Array Slot} {argsL rest : List Value} (W : Nat) {st : List Value} (hsz : Ls.size = c.maxLocals) (hlen : ∀ sig, parseMethodDescriptor x.desc = some sig → argsL.length = sig.parameters.length) (has : argsL.toArray = as') (hst : st = argsL.reverse ++ rest) (hW : (rest.map fun v => v.category).sum ≤ W)
    (hd : decode c.code pc = .ok (.invokestatic index, 3)) (hf : rm.frames + 1 ≤ R.frames) (hl : W + (maxL + 11) + rm.locals ≤ R.locals) (hc : cells + rm.cells ≤ R.cells) (hs : slots + rm.slots ≤ R.slots) :
    ∃ v T' L, Stand p l e R s m args below meth c T' (locs ++ L) (cells + rm.cells) (slots + rm.slots) ∧ P v T'.heap L ∧ ∀ t, Steps p.tables e below (T'.setTop (mkF m (pc + 3) Ls (v.toList ++ rest))) t → Steps p.tables e below (T.setTop (mkF m pc Ls st)) t := by
  have c4 : (Cond.code ⟨owner, x.name, x.desc⟩ bytes maxL ret).before args s = true := mvT hZ w4
  obtain ⟨mk, hnamed⟩ := Cond.code_named c4
  obtain ⟨methM, cM, hmethM, -, -, -, -, -, -, hsigM⟩ := Cond.code_spec hnamed c4
  have hstatic : methM.isStatic = true := Cond.static_spec hnamed hmethM (mvT (args := args) hZ w5)
  obtain ⟨kP, hkP, -⟩ := className_of_methodNamed hnamed
  have hinitP : kP.init = .initialized := Cond.initialized_spec (findClass_of_methodNamed hnamed) hkP (mvT (args := args) hZ w3)
  obtain ⟨vm₁, X₁, hstep₁⟩ := X.invokestaticUp hx hown (mvT hZ w1) (mvT hZ w2) hy hnamed hmethM hstatic hkP hinitP (g := mkF m pc Ls st) rfl (argsL := argsL) (rest := rest) (hlen _ hsigM) hst hd
  obtain ⟨v, ⟨T', L', k', n'⟩, X', ⟨L, hQ, l1, l2, l3⟩, hsteps⟩ := (backOf (len := 3) (W := W) hM hZ w4 w3 hf hl) m meth c ⟨T.setVm vm₁, locs, cells, slots⟩ { mkF m pc Ls st with stack := rest } (.invokestatic index) mk argsL.toArray X₁ rfl hsz hd (by show 2 * 0 + (rest.map fun v => v.category).sum ≤ W; rw [Nat.mul_zero, Nat.zero_add]; exact hW) (X₁.named hnamed) ⟨has, eT, hc, hs⟩
  dsimp only [Pt.U, Pt.locs, Pt.cells, Pt.slots] at X' l1 l2 l3 hsteps hQ
  subst l1 l2 l3
  exact ⟨v, T', L, X', hQ, fun t k => ((hstep₁ _ fun acts => by rw [doInvoke_state]; exact Steps.refl _).trans hsteps).trans k⟩
theorem own_getfRef (X : Stand p l e R s m args below meth c T locs cells slots) (hx : p.tables.exec = Jvm.exec) (hZ : Z.Warmed39 s.vm) {own O n d : String} {index : Nat} (hown : s.vm.findClass own = some m.cls) (w : (Cond.fieldRef own index O n d).before a0 Z = true) (eT : T.heap = h) {a : Addr} {v : Value} (F : Fld Z h a O n d v)
    {pc : Nat} {Ls : Array Slot} {rest : List Value} (hd : decode c.code pc = .ok (.getfield index, 3)) : ∀ t, Steps p.tables e below (T.setTop (mkF m (pc + 3) Ls (v :: rest))) t → Steps p.tables e below (T.setTop (mkF m pc Ls (.ref a :: rest))) t := by
  obtain ⟨cell, cf, k, i, f, h1, h2, h3, h4, -, -, h7⟩ := F
  have hW : Z.Warmed39 T.vm := wtrans hZ X.warmed
  have hw := Cond.fieldRef_warmed39 hW w
  have hcur : (Z.setVm T.vm).vm.findClass own = some m.cls := by
    show T.vm.findClass own = _
    rw [X.warmed.alike.findClass]
    exact hown
  obtain ⟨c', k', i', f', q1, q2⟩ := Cond.fieldRef_spec hcur hw
  obtain ⟨k2, hi, -⟩ := State.fieldFound?_setVm (s := Z) hW.alike h2
  rw [hi] at q1
  cases q1
  exact fun t kk => (X.getfieldR hx (g := mkF m pc Ls (.ref a :: rest)) rfl q2 h3 rfl (by rw [eT]; exact h1) h4 h7 hd (Steps.refl _)).trans kk
theorem own_sneE {a b : Addr} {cell : Cell} {C : String} (h1 : h[a]? = some cell) (h2 : cell.vm.isStatics = true) (E : Exa Z h b C) : a ≠ b := fun q => by
  obtain ⟨cell', k', e1, -, -, e4, -⟩ := E
  subst q
  cases h1.symm.trans e1
  rw [h2] at e4
  cases e4
theorem own_sneA {a b : Addr} {cell : Cell} {k : ClassId} {ty : FieldType} {n : Int32} {vs : List Value} {dv : Value} (h1 : h[a]? = some cell) (h2 : cell.vm.isStatics = true) (V : Arv Z h b k ty n vs dv) : a ≠ b := fun q => by
  obtain ⟨cl, A, -⟩ := V
  subst q
  cases h1.symm.trans A.1
  have := A.plain
  rw [h2] at this
  cases this
theorem own_sta_keepL {C n d : String} {v : Value} {h' : Heap} {ws : List Addr} (F : Sta Z h C n d v) (K : Keep h h' ws) (q : ∀ (a : Addr) (cell : Cell), h[a]? = some cell → cell.vm.isStatics = true → a ∉ ws) : Sta Z h' C n d v := by
  obtain ⟨cf, i, k, f, st, cell, h1, h2, h3, h4, h5, h6, h7⟩ := F
  exact ⟨cf, i, k, f, st, cell, h1, h2, h3, h4, K.2.1 _ _ h5 (q _ _ h5 h6), h6, h7⟩
theorem own_nf {args : Array Value} {s : State} {C : String} {x y z : MethodName} (hsel : (Cond.selects C x z).before args s = true) (hc : y.cls = z.cls) : NotFace s y := fun r0 h0 => by
  obtain ⟨c2, r2, m2, q1, q2, q3, q4, kP, hkP, hkPi⟩ := Cond.selects_spec hsel
  have e1 := findClass_of_methodNamed h0
  have e2 := findClass_of_methodNamed q3
  rw [hc] at e1
  have e3 : r0.cls = m2.cls := Option.some.inj (e1.symm.trans e2)
  exact ⟨kP, by rw [e3]; exact hkP, hkPi⟩
end OwnKit
end Jvm.RoadKit
namespace Jvm.Pilot.@@N@@
open Jvm Jvm.ClassFile Sem Op Lib Jvm.Free Jvm.Stand Jvm.LawKit Jvm.RoadKit Bundle Jvm.Pilot.@@N@@.Jvm.D
abbrev OwnK0 : String := "com/example/substring_search/substringsearch/benchmark/Measurement"
theorem own_w {Z : State} {a0 : Array Value} (hw : ∀ d ∈ tables_1, d.before a0 Z = true) (i : Nat) {d : Jvm.Cond} (h : tables_1[i]? = some d) : d.before a0 Z = true := hw _ (List.mem_of_getElem? h)
theorem own_i {a : Addr} {L : List Addr} {Q : Prop} (i : Nat) (h : L[i]? = some a) : a ∈ L ∨ Q := Or.inl (List.mem_of_getElem? h)
theorem pd__JJ_V : parseMethodDescriptor "(JJ)V" = some ⟨[.long, .long], none⟩ := by decide +kernel
theorem pd___V : parseMethodDescriptor "()V" = some ⟨[], none⟩ := by decide +kernel
theorem pd__J_D : parseMethodDescriptor "(J)D" = some ⟨[.long], some .double⟩ := by decide +kernel
theorem pd__JJ_J : parseMethodDescriptor "(JJ)J" = some ⟨[.long, .long], some .long⟩ := by decide +kernel
section OwnFP
open Jvm.FP Jvm.FP.Core
theorem own_iu (c : Nat) (q e : Int) : inUnits c q e = c * 2 ^ (q - e).toNat := rfl
theorem own_un {c M : Nat} {q k m e0 : Int} (h1 : m ≤ q) (h2 : e0 ≤ m + k) : inUnits (c * M) (q + k) e0 = inUnits c q m * (M * 2 ^ (m + k - e0).toNat) := by
  rw [own_iu, own_iu, show (q + k - e0).toNat = (q - m).toNat + (m + k - e0).toNat by omega, Nat.pow_add]
  ac_rfl
theorem own_mag {f : Fmt} (hf : Good f) {s : Bool} {A A' B : Nat} {e e' e0 : Int} (hB : 0 < B) (h0 : e0 < f.qmin) (h1 : e0 ≤ e) (h2 : e0 ≤ e')
    (h : inUnits A e e0 ≤ inUnits A' e' e0) : zmag f (roundRatio f s A B e) ≤ zmag f (roundRatio f s A' B e') := by
  have F1 := roundRatio_fits hf s A hB e
  have F2 := roundRatio_fits hf s A' hB e'
  have h0' : e0 ≤ f.qmin := by omega
  rcases roundRatio_cases f s A' B e' with ⟨c', q', hR'⟩ | hR'
  · rcases roundRatio_cases f s A B e with ⟨c, q, hR⟩ | hR
    · refine Nat.le_of_not_lt fun hlt => ?_
      have c1 : ¬ inUnits A e e0 ≤ zmag f (roundRatio f s A' B e') * 2 ^ (f.qmin - e0).toNat * B := fun c1 => absurd (zmag_roundRatio_le hf (s := s) hB F2 (roundRatio_ne_nan _ _ _ _ _) h0' h1 c1) (by omega)
      have c2 : ¬ zmag f (roundRatio f s A B e) * 2 ^ (f.qmin - e0).toNat * B ≤ inUnits A' e' e0 := fun c2 => absurd (zmag_roundRatio_ge hf (s := s) hB F1 h0' h2 c2) (by omega)
      have F1' : Core.fits f (.fin s c q) := hR ▸ F1
      have F2' : Core.fits f (.fin s c' q') := hR' ▸ F2
      have d1 : ((inUnits A e e0 : Int) - (inUnits c q e0 : Int) * (B : Int)).natAbs ≤ ((inUnits A e e0 : Int) - (inUnits c' q' e0 : Int) * (B : Int)).natAbs := roundRatio_nearest hf hB hR F2'.1 F2'.2.1 h0' h1
      have d2 : ((inUnits A' e' e0 : Int) - (inUnits c' q' e0 : Int) * (B : Int)).natAbs ≤ ((inUnits A' e' e0 : Int) - (inUnits c q e0 : Int) * (B : Int)).natAbs := roundRatio_nearest hf hB hR' F1'.1 F1'.2.1 h0' h2
      have u1 : inUnits c q e0 = zmag f (roundRatio f s A B e) * 2 ^ (f.qmin - e0).toNat := by rw [hR]; exact units_fin F1' h0'
      have u2 : inUnits c' q' e0 = zmag f (roundRatio f s A' B e') * 2 ^ (f.qmin - e0).toNat := by rw [hR']; exact units_fin F2' h0'
      rw [u1, u2, ← Int.natCast_mul, ← Int.natCast_mul] at d1
      rw [u1, u2, ← Int.natCast_mul, ← Int.natCast_mul] at d2
      have hXY : inUnits A e e0 = inUnits A' e' e0 := by
        generalize zmag f (roundRatio f s A B e) * 2 ^ (f.qmin - e0).toNat * B = r at *
        generalize zmag f (roundRatio f s A' B e') * 2 ^ (f.qmin - e0).toNat * B = r' at *
        generalize inUnits A e e0 = X at *
        generalize inUnits A' e' e0 = Y at *
        omega
      have hc : roundRatio f s A B e = roundRatio f s A' B e' := by
        refine roundRatio_congr hB hB ?_
        rw [own_iu, own_iu] at hXY
        rcases Int.le_total e e' with g | g
        · rw [show (e - e').toNat = 0 by omega, Nat.pow_zero, Nat.mul_one]
          rw [show (e' - e0).toNat = (e' - e).toNat + (e - e0).toNat by omega, Nat.pow_add, ← Nat.mul_assoc] at hXY
          rw [Nat.eq_of_mul_eq_mul_right (Nat.two_pow_pos _) hXY]
          ac_rfl
        · rw [show (e' - e).toNat = 0 by omega, Nat.pow_zero, Nat.mul_one]
          rw [show (e - e0).toNat = (e - e').toNat + (e' - e0).toNat by omega, Nat.pow_add, ← Nat.mul_assoc] at hXY
          rw [← Nat.eq_of_mul_eq_mul_right (Nat.two_pow_pos _) hXY]
          ac_rfl
      rw [hc] at hlt
      exact Nat.lt_irrefl _ hlt
    · exfalso
      have i1 := (roundRatio_inf hf hB h0 h1).mp hR
      have i2 := (roundRatio_inf hf (s := s) hB h0 h2).mpr (Nat.le_trans i1 h)
      rw [i2] at hR'
      cases hR'
  · rw [hR']
    exact zmag_le_top hf F1
theorem own_rr0 (f : Fmt) (u : Bool) (B : Nat) (d : Int) : zmag f (roundRatio f u 0 B d) = 0 := by
  show inUnits 0 f.qmin f.qmin = 0
  rw [own_iu, Nat.zero_mul]
theorem own_mono {f : Fmt} (hf : Good f) {s t : Bool} {A A' B : Nat} {e e' e0 : Int} (hB : 0 < B) (h0 : e0 < f.qmin) (h1 : e0 ≤ e) (h2 : e0 ≤ e')
    (h : signed s (inUnits A e e0) ≤ signed t (inUnits A' e' e0)) : zval f (roundRatio f s A B e) ≤ zval f (roundRatio f t A' B e') := by
  show signed (sgn (roundRatio f s A B e)) (zmag f (roundRatio f s A B e)) ≤ signed (sgn (roundRatio f t A' B e')) (zmag f (roundRatio f t A' B e'))
  rw [sgn_roundRatio, sgn_roundRatio]
  have z : ∀ (u : Bool) (D : Nat) (d : Int), inUnits D d e0 = 0 → zmag f (roundRatio f u D B d) = 0 := by
    intro u D d hz
    have : D = 0 := by
      rw [own_iu] at hz
      rcases Nat.mul_eq_zero.mp hz with h | h
      · exact h
      · have := Nat.two_pow_pos (d - e0).toNat; omega
    subst this
    exact own_rr0 f u B d
  cases s <;> cases t
  · have h' : ((inUnits A e e0 : Nat) : Int) ≤ (inUnits A' e' e0 : Nat) := h
    have := own_mag hf (s := false) (A := A) (A' := A') (e := e) (e' := e') hB h0 h1 h2 (by omega)
    show ((zmag f (roundRatio f false A B e) : Nat) : Int) ≤ (zmag f (roundRatio f false A' B e') : Nat)
    omega
  · have h' : ((inUnits A e e0 : Nat) : Int) ≤ -((inUnits A' e' e0 : Nat) : Int) := h
    have a := z false A e (by omega)
    have b := z true A' e' (by omega)
    show ((zmag f (roundRatio f false A B e) : Nat) : Int) ≤ -((zmag f (roundRatio f true A' B e') : Nat) : Int)
    omega
  · show -((zmag f (roundRatio f true A B e) : Nat) : Int) ≤ ((zmag f (roundRatio f false A' B e') : Nat) : Int)
    omega
  · have h' : -((inUnits A e e0 : Nat) : Int) ≤ -((inUnits A' e' e0 : Nat) : Int) := h
    have := own_mag hf (s := true) (A := A') (A' := A) (e := e') (e' := e) hB h0 h2 h1 (by omega)
    show -((zmag f (roundRatio f true A B e) : Nat) : Int) ≤ -((zmag f (roundRatio f true A' B e') : Nat) : Int)
    omega
theorem own_l2d (b : Int64) : val64 (FP.l2d b) = roundRatio b64 (decide (b.toInt < 0)) b.toInt.natAbs 1 0 := val64_l2d b
theorem own_sgk (i : Int) : signed (decide (i < 0)) i.natAbs = i := by
  by_cases q : i < 0
  · rw [decide_eq_true q]
    show -((i.natAbs : Nat) : Int) = i
    omega
  · rw [decide_eq_false q]
    show ((i.natAbs : Nat) : Int) = i
    omega
theorem own_l2d_le {a b : Int64} (h : a.toInt ≤ b.toInt) : zval b64 (val64 (FP.l2d a)) ≤ zval b64 (val64 (FP.l2d b)) := by
  rw [own_l2d, own_l2d]
  refine own_mono good_b64 (e0 := b64.qmin - 1) (by decide) (by omega) (by decide) (by decide) ?_
  rw [own_iu, own_iu, signed_mul, signed_mul, own_sgk, own_sgk]
  exact Int.mul_le_mul_of_nonneg_right h (Int.natCast_nonneg _)
theorem own_mul_le {x y k : UInt64} {M : Nat} {r0 : Int} (hk : val64 k = .fin false M r0) (hr : r0 < 0) (hx : DFin x) (hy : DFin y) (h : zval b64 (val64 x) ≤ zval b64 (val64 y)) : zval b64 (val64 (FP.dmul x k)) ≤ zval b64 (val64 (FP.dmul y k)) := by
  obtain ⟨s, c, q, ex⟩ := hx
  obtain ⟨t, d, r, ey⟩ := hy
  have fx := val64_fits x
  have fy := val64_fits y
  rw [ex] at fx h
  rw [ey] at fy h
  have h' : signed s (inUnits c q b64.qmin) ≤ signed t (inUnits d r b64.qmin) := h
  have e1 : val64 (FP.dmul x k) = roundRatio b64 (s != false) (c * M) 1 (q + r0) := by
    refine (val64_dmul x k).trans ?_
    rw [ex, hk]
    rfl
  have e2 : val64 (FP.dmul y k) = roundRatio b64 (t != false) (d * M) 1 (r + r0) := by
    refine (val64_dmul y k).trans ?_
    rw [ey, hk]
    rfl
  have b1 : ∀ u : Bool, (u != false) = u := by intro u; cases u <;> rfl
  rw [e1, e2, b1, b1]
  refine own_mono good_b64 (e0 := b64.qmin + r0) (by decide) (by omega) (by have := fx.2.1; omega) (by have := fy.2.1; omega) ?_
  have u1 := own_un (c := c) (M := M) (q := q) (k := r0) (m := b64.qmin) (e0 := b64.qmin + r0) fx.2.1 (by omega)
  have u2 := own_un (c := d) (M := M) (q := r) (k := r0) (m := b64.qmin) (e0 := b64.qmin + r0) fy.2.1 (by omega)
  rw [u1, u2, signed_mul, signed_mul]
  exact Int.mul_le_mul_of_nonneg_right h' (Int.natCast_nonneg _)
theorem own_div_le {x y k : UInt64} {D : Nat} {r0 : Int} (hk : val64 k = .fin false D r0) (hD : D ≠ 0) (hx : DFin x) (hy : DFin y) (h : zval b64 (val64 x) ≤ zval b64 (val64 y)) : zval b64 (val64 (FP.ddiv x k)) ≤ zval b64 (val64 (FP.ddiv y k)) := by
  obtain ⟨s, c, q, ex⟩ := hx
  obtain ⟨t, d, r, ey⟩ := hy
  have fx := val64_fits x
  have fy := val64_fits y
  rw [ex] at fx h
  rw [ey] at fy h
  have h' : signed s (inUnits c q b64.qmin) ≤ signed t (inUnits d r b64.qmin) := h
  have e1 : val64 (FP.ddiv x k) = roundRatio b64 (s != false) c D (q - r0) := by
    refine (val64_ddiv x k).trans ?_
    rw [ex, hk]
    exact if_neg hD
  have e2 : val64 (FP.ddiv y k) = roundRatio b64 (t != false) d D (r - r0) := by
    refine (val64_ddiv y k).trans ?_
    rw [ey, hk]
    exact if_neg hD
  have b1 : ∀ u : Bool, (u != false) = u := by intro u; cases u <;> rfl
  rw [e1, e2, b1, b1]
  have g1 := fx.2.1
  have g2 := fy.2.1
  refine own_mono good_b64 (e0 := b64.qmin - 1 - (r0.natAbs : Int)) (Nat.pos_of_ne_zero hD) (by omega) (by omega) (by omega) ?_
  have u1 := own_un (c := c) (M := 1) (q := q) (k := -r0) (m := b64.qmin) (e0 := b64.qmin - 1 - (r0.natAbs : Int)) g1 (by omega)
  have u2 := own_un (c := d) (M := 1) (q := r) (k := -r0) (m := b64.qmin) (e0 := b64.qmin - 1 - (r0.natAbs : Int)) g2 (by omega)
  rw [Nat.mul_one] at u1 u2
  rw [show q - r0 = q + -r0 from rfl, show r - r0 = r + -r0 from rfl, u1, u2, signed_mul, signed_mul]
  exact Int.mul_le_mul_of_nonneg_right h' (Int.natCast_nonneg _)
/-- a positive whole number as a double -/
theorem own_pos {n : Int64} (h : 1 ≤ n.toInt) : ∃ D r, val64 (FP.l2d n) = .fin false D r ∧ D ≠ 0 := by
  obtain ⟨s, c, q, e⟩ := Core.l2d_fin n
  have hs : s = false := by
    have := sgn_roundRatio b64 (decide (n.toInt < 0)) n.toInt.natAbs 1 0
    rw [← own_l2d] at this
    rw [e] at this
    have g : s = decide (n.toInt < 0) := this
    rw [g]
    exact decide_eq_false (by omega)
  subst hs
  refine ⟨c, q, e, fun hc => ?_⟩
  subst hc
  have o1 : (1 : Int64).toInt = 1 := by decide
  have h1 := own_l2d_le (a := 1) (b := n) (by omega)
  have h2 := whole_zval good_b64 (val64_fits (FP.l2d 1)) (l2d_whole (a := 1) ⟨by decide, by decide⟩)
  rw [show val64 (FP.l2d n) = .fin false 0 q from e] at h1
  have h3 : zval b64 (.fin false 0 q) = 0 := by
    show ((inUnits 0 q b64.qmin : Nat) : Int) = 0
    rw [own_iu, Nat.zero_mul]
    rfl
  rw [h3, h2, o1] at h1
  have := Nat.two_pow_pos (-b64.qmin).toNat
  omega
/-- a quotient that is a whole number -/
theorem own_quo {a b c : Int64} (ha : B53 a) (hb : B53 b) (hc : B53 c) (hb0 : 1 ≤ b.toInt) (h : a.toInt = c.toInt * b.toInt) : zval b64 (val64 (FP.ddiv (FP.l2d a) (FP.l2d b))) = zval b64 (val64 (FP.l2d c)) := by
  obtain ⟨D, r, eb, hD⟩ := own_pos hb0
  obtain ⟨s, m, q, ea⟩ := Core.l2d_fin a
  have fa := val64_fits (FP.l2d a)
  have fb := val64_fits (FP.l2d b)
  rw [show val64 (FP.l2d a) = .fin s m q from ea] at fa
  rw [eb] at fb
  have za := whole_zval good_b64 (val64_fits (FP.l2d a)) (l2d_whole (sm ha))
  have zb := whole_zval good_b64 (val64_fits (FP.l2d b)) (l2d_whole (sm hb))
  have zc := whole_zval good_b64 (val64_fits (FP.l2d c)) (l2d_whole (sm hc))
  have sa : s = decide (a.toInt < 0) := by
    have := sgn_roundRatio b64 (decide (a.toInt < 0)) a.toInt.natAbs 1 0
    rw [← own_l2d] at this
    rw [show val64 (FP.l2d a) = .fin s m q from ea] at this
    exact this
  have sc : sgn (val64 (FP.l2d c)) = decide (c.toInt < 0) := by
    rw [own_l2d]; exact sgn_roundRatio ..
  have eq : val64 (FP.ddiv (FP.l2d a) (FP.l2d b)) = roundRatio b64 (s != false) m D (q - r) := by
    refine (val64_ddiv _ _).trans ?_
    rw [show val64 (FP.l2d a) = .fin s m q from ea, eb]
    exact if_neg hD
  have b1 : ∀ u : Bool, (u != false) = u := by intro u; cases u <;> rfl
  rw [b1] at eq
  have hU : 0 < 2 ^ (-b64.qmin).toNat := Nat.two_pow_pos _
  -- the magnitudes
  have ma : inUnits m q b64.qmin = a.toInt.natAbs * 2 ^ (-b64.qmin).toNat := by
    have := congrArg Int.natAbs za
    rw [show val64 (FP.l2d a) = .fin s m q from ea] at this
    rw [Int.natAbs_mul, Int.natAbs_natCast] at this
    rw [← this]
    exact (natAbs_signed s _).symm
  have mb : inUnits D r b64.qmin = b.toInt.natAbs * 2 ^ (-b64.qmin).toNat := by
    have := congrArg Int.natAbs zb
    rw [eb] at this
    rw [Int.natAbs_mul, Int.natAbs_natCast] at this
    rw [← this]
    exact (natAbs_signed false _).symm
  have mc : zmag b64 (val64 (FP.l2d c)) = c.toInt.natAbs * 2 ^ (-b64.qmin).toNat := by
    have := congrArg Int.natAbs zc
    rw [Int.natAbs_mul, Int.natAbs_natCast] at this
    rw [← this]
    exact (natAbs_signed _ _).symm
  have key : inUnits m (q - r) (b64.qmin - 1 - (r.natAbs : Int)) = zmag b64 (val64 (FP.l2d c)) * 2 ^ (b64.qmin - (b64.qmin - 1 - (r.natAbs : Int))).toNat * D := by
    have g1 := fa.2.1
    have g2 := fb.2.1
    have hq : b64.qmin = -1074 := qmin_b64
    refine Nat.eq_of_mul_eq_mul_right (Nat.two_pow_pos (r - b64.qmin).toNat) ?_
    rw [own_iu, mc]
    have x1 : m * 2 ^ (q - r - (b64.qmin - 1 - (r.natAbs : Int))).toNat * 2 ^ (r - b64.qmin).toNat = (m * 2 ^ (q - b64.qmin).toNat) * 2 ^ (-(b64.qmin - 1 - (r.natAbs : Int))).toNat := by
      rw [Nat.mul_assoc, Nat.mul_assoc, ← Nat.pow_add, ← Nat.pow_add]
      congr 2
      omega
    have x2 : 2 ^ (-(b64.qmin - 1 - (r.natAbs : Int))).toNat = 2 ^ (b64.qmin - (b64.qmin - 1 - (r.natAbs : Int))).toNat * 2 ^ (-b64.qmin).toNat := by
      rw [← Nat.pow_add]
      congr 1
      omega
    rw [x1, show m * 2 ^ (q - b64.qmin).toNat = inUnits m q b64.qmin from rfl, ma, x2]
    have x3 : D * 2 ^ (r - b64.qmin).toNat = b.toInt.natAbs * 2 ^ (-b64.qmin).toNat := mb
    have x4 : a.toInt.natAbs = c.toInt.natAbs * b.toInt.natAbs := by rw [h, Int.natAbs_mul]
    rw [x4]
    generalize 2 ^ (-b64.qmin).toNat = U at *
    generalize 2 ^ (b64.qmin - (b64.qmin - 1 - (r.natAbs : Int))).toNat = Q at *
    calc c.toInt.natAbs * b.toInt.natAbs * U * (Q * U) = c.toInt.natAbs * U * Q * (b.toInt.natAbs * U) := by ac_rfl
      _ = c.toInt.natAbs * U * Q * (D * 2 ^ (r - b64.qmin).toNat) := by rw [x3]
      _ = c.toInt.natAbs * U * Q * D * 2 ^ (r - b64.qmin).toNat := by ac_rfl
  have g1 := fa.2.1
  have hz : zmag b64 (roundRatio b64 s m D (q - r)) = zmag b64 (val64 (FP.l2d c)) :=
    Nat.le_antisymm (zmag_roundRatio_le good_b64 (s := s) (e0 := b64.qmin - 1 - (r.natAbs : Int)) (Nat.pos_of_ne_zero hD) (val64_fits _) (Whole.ne_nan (l2d_whole (sm hc))) (by omega) (by omega) (Nat.le_of_eq key))
      (zmag_roundRatio_ge good_b64 (s := s) (e0 := b64.qmin - 1 - (r.natAbs : Int)) (Nat.pos_of_ne_zero hD) (val64_fits _) (by omega) (by omega) (Nat.le_of_eq key.symm))
  rw [eq]
  show signed (sgn (roundRatio b64 s m D (q - r))) (zmag b64 (roundRatio b64 s m D (q - r))) = signed (sgn (val64 (FP.l2d c))) (zmag b64 (val64 (FP.l2d c)))
  rw [sgn_roundRatio, hz, sc, sa]
  by_cases c0 : c.toInt = 0
  · rw [mc, c0, show (0 : Int).natAbs = 0 from rfl, Nat.zero_mul]
    cases (decide (a.toInt < 0)) <;> cases (decide ((0 : Int) < 0)) <;> rfl
  · congr 1
    rw [decide_eq_decide, h]
    constructor
    · intro g
      refine Int.lt_of_not_ge fun g2 => ?_
      have := Int.mul_nonneg g2 (show (0 : Int) ≤ b.toInt by omega)
      omega
    · intro g
      exact Int.mul_neg_of_neg_of_pos g (by omega)
end OwnFP
section OwnLaw
open Jvm.FP Jvm.FP.Core Jvm.Free.Fl
abbrev OwnRate (b n : Int64) : UInt64 := (FP.ddiv (FP.dmul (FP.l2d b) (4652007308841189376 : UInt64)) (FP.l2d n))
theorem own_K : val64 (4652007308841189376 : UInt64) = .fin false 8796093022208000 (-43) := by decide +kernel
theorem own_K2 : (4652007308841189376 : UInt64) = FP.l2d 1000 := by decide +kernel
theorem own_Kf : Fin64 (4652007308841189376 : UInt64) := fin64_core.mpr ⟨_, _, _, own_K⟩
theorem own_pdf (b : Int64) : DFin (FP.dmul (FP.l2d b) (4652007308841189376 : UInt64)) := fin_of_lt (Core.dmul_mag (Core.l2d_mag b) (Kb := 1033) (by decide +kernel) (by decide) (by decide)) (by decide)
theorem own_pn (b : Int64) : NoNaN64 (FP.dmul (FP.l2d b) (4652007308841189376 : UInt64)) := Jvm.Free.Fl.dmul_out (Jvm.Free.Fl.l2d_fin b) own_Kf
theorem own_rn (b : Int64) {n : Int64} (hn : ¬ n = 0) : NoNaN64 (OwnRate b n) := Jvm.Free.Fl.ddiv_out (own_pn b) (Jvm.Free.Fl.l2d_fin n) (Jvm.Free.Fl.l2d_nz hn)
theorem own_nn {x : UInt64} (h : NoNaN64 x) : val64 x ≠ .nan := (notNaN_iff _).mp (noNaN64_no.mp h)
theorem own_nz {n : Int64} (h : 1 ≤ n.toInt) : ¬ n = 0 := fun q => by
  rw [q] at h
  exact absurd h (by decide)
theorem own_cmpg {x y : UInt64} (hx : val64 x ≠ .nan) (hy : val64 y ≠ .nan) (h : zval b64 (val64 x) ≤ zval b64 (val64 y)) : ¬ ((0 : Int32) < (cmpValue (FP.dcmp x y) .g)) := by
  rw [show FP.dcmp x y = _ from dcmp_zval hx hy, cmpV_g]
  intro g
  rcases (cmpInt_g_gt _).mp g with g | g
  · have := (compare_gt_iff _ _).mp (Option.some.inj g)
    omega
  · cases g
theorem own_cmpl {x y : UInt64} (hx : val64 x ≠ .nan) (hy : val64 y ≠ .nan) (h : zval b64 (val64 x) = zval b64 (val64 y)) : (cmpValue (FP.dcmp x y) .l) = (0 : Int32) := by
  rw [show FP.dcmp x y = _ from dcmp_zval hx hy, cmpV_l]
  exact (cmpInt_l_eq _).mpr (congrArg some ((compare_eq_iff _ _).mpr h))
theorem own_rate_le {lo hi n : Int64} (h : lo.toInt ≤ hi.toInt) (hn : 1 ≤ n.toInt) : zval b64 (val64 (OwnRate lo n)) ≤ zval b64 (val64 (OwnRate hi n)) := by
  obtain ⟨D, r, e, hD⟩ := own_pos hn
  exact own_div_le e hD (own_pdf lo) (own_pdf hi) (own_mul_le own_K (by decide) (Core.l2d_fin lo) (Core.l2d_fin hi) (own_l2d_le h))
theorem own_rate0 {n : Int64} (hn : 1 ≤ n.toInt) : zval b64 (val64 (OwnRate 0 n)) = 0 := by
  obtain ⟨D, r, e, hD⟩ := own_pos hn
  have e0 : FP.dmul (FP.l2d 0) (4652007308841189376 : UInt64) = 0 := by decide +kernel
  have e1 : val64 (OwnRate 0 n) = roundRatio b64 (false != false) 0 D (b64.qmin - r) := by
    show val64 (FP.ddiv (FP.dmul (FP.l2d 0) (4652007308841189376 : UInt64)) (FP.l2d n)) = _
    rw [e0]
    refine (val64_ddiv _ _).trans ?_
    rw [val64_zero, e]
    exact if_neg hD
  rw [e1]
  show signed (sgn (roundRatio b64 (false != false) 0 D (b64.qmin - r))) (zmag b64 (roundRatio b64 (false != false) 0 D (b64.qmin - r))) = 0
  rw [own_rr0]
  generalize sgn (roundRatio b64 (false != false) 0 D (b64.qmin - r)) = u
  cases u <;> rfl
theorem own_mn {lo hi n : Int64} (h : lo.toInt ≤ hi.toInt) (hn : 1 ≤ n.toInt) : ¬ ((0 : Int32) < (cmpValue (FP.dcmp (FP.ddiv (FP.dmul (FP.l2d lo) (4652007308841189376 : UInt64)) (FP.l2d n)) (FP.ddiv (FP.dmul (FP.l2d hi) (4652007308841189376 : UInt64)) (FP.l2d n))) .g)) :=
  own_cmpg (own_nn (own_rn lo (own_nz hn))) (own_nn (own_rn hi (own_nz hn))) (own_rate_le h hn)
theorem own_sn {lo n : Int64} (h : ¬ (lo < (0 : Int64))) (hn : 1 ≤ n.toInt) : ¬ ((0 : Int32) < (cmpValue (FP.dcmp (0 : UInt64) (FP.ddiv (FP.dmul (FP.l2d lo) (4652007308841189376 : UInt64)) (FP.l2d n))) .g)) := by
  have h' : (0 : Int64).toInt ≤ lo.toInt := by
    rw [Int64.lt_iff_toInt_lt] at h
    omega
  refine own_cmpg (by rw [val64_zero]; exact Datum.noConfusion) (own_nn (own_rn lo (own_nz hn))) ?_
  have := own_rate_le h' hn
  rw [own_rate0 hn] at this
  rw [zval64_zero]
  exact this
theorem own_prod {x y : Int64} {A B : Nat} (h1 : x.toInt.natAbs ≤ A) (h2 : y.toInt.natAbs ≤ B) (h : A * B < 9223372036854775808) : (x * y).toInt = x.toInt * y.toInt ∧ (x.toInt * y.toInt).natAbs ≤ A * B := by
  have m : (x.toInt * y.toInt).natAbs ≤ A * B := by
    rw [Int.natAbs_mul]
    exact Nat.mul_le_mul h1 h2
  have c := c_lmul x y
  have r := rng64 (x * y)
  refine ⟨?_, m⟩
  generalize x.toInt * y.toInt = z at *
  generalize A * B = w at *
  omega
theorem own_rng (x0 x1 : Int32) (qq kk : Int64) (hq : qq = (x0 >>> ((11 : Int32) &&& 31)).toInt64) (hk : kk = ((x1 &&& (4095 : Int32)) + (1 : Int32)).toInt64) : qq.toInt.natAbs ≤ 1048576 ∧ kk.toInt.natAbs ≤ 4096 ∧ 1 ≤ kk.toInt := by
  have a1 := c_ishr x0 (11 : Int32) 11 (by decide)
  have a2 := c_i2l (x0 >>> ((11 : Int32) &&& 31))
  have a3 := rng32 x0
  have b1 := c_mask x1 (4095 : Int32) 12 (by decide) (by decide)
  have b2 := c_iadd (x1 &&& (4095 : Int32)) (1 : Int32)
  have b3 := c_i2l ((x1 &&& (4095 : Int32)) + (1 : Int32))
  have b4 := rng32 ((x1 &&& (4095 : Int32)) + (1 : Int32))
  have e1 : (1 : Int32).toInt = 1 := by decide
  rw [← hq] at a2
  rw [← hk] at b3
  omega
theorem own_nan {kk : Int64} (k1 : kk.toInt.natAbs ≤ 4096) (k2 : 1 ≤ kk.toInt) : (((1000 : Int64) * kk).toInt = 1000 * kk.toInt) ∧ ¬ ((1000 : Int64) * kk) = 0 := by
  have e : (1000 : Int64).toInt = 1000 := by decide
  obtain ⟨p1, p2⟩ := own_prod (x := (1000 : Int64)) (y := kk) (A := 1000) (B := 4096) (by decide) k1 (by decide)
  rw [e] at p1
  exact ⟨p1, own_nz (by omega)⟩
theorem own_ok {qq kk : Int64} (q1 : qq.toInt.natAbs ≤ 1048576) (k1 : kk.toInt.natAbs ≤ 4096) (k2 : 1 ≤ kk.toInt) : (cmpValue (FP.dcmp (FP.ddiv (FP.dmul (FP.l2d (qq * kk)) (4652007308841189376 : UInt64)) (FP.l2d ((1000 : Int64) * kk))) (FP.l2d qq)) .l) = (0 : Int32) := by
  obtain ⟨n1, n2⟩ := own_nan k1 k2
  obtain ⟨p1, p2⟩ := own_prod q1 k1 (by decide)
  have e : (1000 : Int64).toInt = 1000 := by decide
  obtain ⟨r1, r2⟩ := own_prod (x := qq * kk) (y := (1000 : Int64)) (A := 1048576 * 4096) (B := 1000) (by rw [p1]; exact p2) (by decide) (by decide)
  have hm : FP.dmul (FP.l2d (qq * kk)) (4652007308841189376 : UInt64) = FP.l2d (qq * kk * 1000) := by
    rw [own_K2]
    refine dmul_k (A := 4294967296) (B := 1000) ?_ ?_ (by decide) (by decide) (by decide) (by decide) (by decide) (fun q => absurd q.2 (by decide)) (fun q => absurd q.1 (by decide))
    · rw [p1]; omega
    · rw [p1]; omega
  refine own_cmpl (own_nn (own_rn _ n2)) (own_nn (Jvm.Free.Fl.l2d_fin qq).noNaN) ?_
  show zval b64 (val64 (FP.ddiv (FP.dmul (FP.l2d (qq * kk)) (4652007308841189376 : UInt64)) (FP.l2d ((1000 : Int64) * kk)))) = _
  rw [hm]
  rw [p1] at r1 r2
  rw [e] at r1 r2
  refine own_quo ⟨?_, ?_⟩ ⟨?_, ?_⟩ ⟨?_, ?_⟩ ?_ ?_
  · rw [r1]; omega
  · rw [r1]; omega
  · rw [n1]; omega
  · rw [n1]; omega
  · omega
  · omega
  · rw [n1]; omega
  · rw [r1, n1, Int.mul_assoc, Int.mul_comm kk.toInt 1000]
end OwnLaw
theorem own_retD {p : Program} {l : Launch} {e : Env} {R : Room} {s : State} {m : MethodId} {args : Array Value} {below : List Frame} {meth : Method} {c : Code} {T : State} {locs : List Loc} {cells slots : Nat} {P : OwnP} {rc rs : Nat} (X : Stand p l e R s m args below meth c T locs cells slots) (hx : p.tables.exec = Jvm.exec) (hlk : meth.locks = false) {pc : Nat} {Ls : Array Slot} {z : UInt64} {rest : List Value} (hret : meth.sig.returnType = some .double)
    (hd : decode c.code pc = .ok (.dreturn, 1)) (hc : cells ≤ rc) (hs : slots ≤ rs) (hP : P (some (.double z)) T.heap locs) : OwnG p.tables e below s P rc rs (T.setTop (mkF m pc Ls (.double z :: rest))) :=
  own_ret X hx hlk hret rfl (Or.inr (Or.inr (Or.inl ⟨rfl, rfl, z, rfl⟩))) hd hc hs hP
theorem d2_0 : decode jdk_30_method_1_code 0 = .ok (.aload_n 0, 1) := by decide +kernel
theorem d2_1 : decode jdk_30_method_1_code 1 = .ok (.invokespecial 1, 3) := by decide +kernel
theorem d2_4 : decode jdk_30_method_1_code 4 = .ok (.return_, 1) := by decide +kernel
theorem pf_java_lang_Record__init____V : plainFor (⟨"java/lang/Record", "<init>", "()V"⟩ : MethodName) = true := by first | exact plainFor_of_name (by first | (simp [plainName, overriddenIn]; done) | decide +kernel) | exact Jvm.Free.JP.mathPlain rfl (by decide +kernel) | decide +kernel
theorem ef_rm2 (m : MethodId) (q0 : Addr) : entryFrame m #[(.ref q0)] 1 = mkF m 0 #[rv q0] [] := by first | (simp [entryFrame, mkF, argsToLocals, Value.category]; done) | rfl
set_option maxRecDepth 65536 in
set_option maxHeartbeats 40000000 in
theorem rm2 (l : Launch) (Z : State) (a0 : Array Value) (hw : ∀ d ∈ tables_1, d.before a0 Z = true) (ws : List Jvm.Cond) (x0 : Addr) (h0 : Heap) :
    OwnC l Z (⟨"java/lang/Record", "<init>", "()V"⟩ : MethodName) jdk_30_method_1_code 1 none ws ({ frames := 1, cells := 0, slots := 0, locals := 12 } : Room) #[(.ref x0)] h0 (fun v h L => v = none ∧ h = h0 ∧ L = []) := by
  refine own_entry pf_java_lang_Record__init____V (fun m => ef_rm2 m x0) ?_
  intro p e s m below meth c T0 X0 hC e0
  obtain ⟨hx, hby, hml, hown, hnm, hret, hlk, hZ⟩ := hC
  refine own_go T0 m 1 #[rv x0] [(.ref x0)] (fun t k => XS.aloadN X0.here hx rfl (hb hby d2_0) rfl rfl k) ?_
  obtain ⟨T1, X1, e1, st1⟩ := initO X0 hx hZ hown (own_w hw 12 rfl) (own_w hw 13 rfl) (own_w hw 14 rfl) e0 (g := (mkF m 1 #[rv x0] [(.ref x0)])) rfl (by rw [hml]; rfl) rfl (hb hby d2_1) (by decide) (W := 0) (by show 2 * 0 + _ ≤ _; exact Nat.le_of_eq rfl) (by decide)
  refine own_go T1 m 4 #[rv x0] [] (st1) ?_
  refine own_retV X1 hx hlk hret (hb hby d2_4) (by decide) (by decide) ?_
  exact ⟨rfl, e1, rfl⟩
theorem d1_0 : decode prog_27_method_1_code 0 = .ok (.aload_n 0, 1) := by decide +kernel
theorem d1_1 : decode prog_27_method_1_code 1 = .ok (.invokespecial 1, 3) := by decide +kernel
theorem d1_4 : decode prog_27_method_1_code 4 = .ok (.aload_n 0, 1) := by decide +kernel
theorem d1_5 : decode prog_27_method_1_code 5 = .ok (.lload_n 1, 1) := by decide +kernel
theorem d1_6 : decode prog_27_method_1_code 6 = .ok (.putfield 7, 3) := by decide +kernel
theorem d1_9 : decode prog_27_method_1_code 9 = .ok (.aload_n 0, 1) := by decide +kernel
theorem d1_10 : decode prog_27_method_1_code 10 = .ok (.lload_n 3, 1) := by decide +kernel
theorem d1_11 : decode prog_27_method_1_code 11 = .ok (.putfield 13, 3) := by decide +kernel
theorem d1_14 : decode prog_27_method_1_code 14 = .ok (.return_, 1) := by decide +kernel
theorem pf_com_example_substring_search_substringsearch_benchmark_Measurement__init___JJ_V : plainFor (⟨OwnK0, "<init>", "(JJ)V"⟩ : MethodName) = true := by first | exact plainFor_of_name (by first | (simp [plainName, overriddenIn]; done) | decide +kernel) | exact Jvm.Free.JP.mathPlain rfl (by decide +kernel) | decide +kernel
theorem ef_rm1 (m : MethodId) (q0 : Addr) (q1 : Int64) (q2 : Int64) : entryFrame m #[(.ref q0), (.long q1), (.long q2)] 5 = mkF m 0 #[rv q0, .val (.long q1), .second, .val (.long q2), .second] [] := by first | (simp [entryFrame, mkF, argsToLocals, Value.category]; done) | rfl
set_option maxRecDepth 65536 in
set_option maxHeartbeats 40000000 in
theorem rm1 (l : Launch) (Z : State) (a0 : Array Value) (hw : ∀ d ∈ tables_1, d.before a0 Z = true) (ws : List Jvm.Cond) (x0 : Addr) (x1 : Int64) (x2 : Int64) (h0 : Heap) (n0 : Nat) (Z0 : n0 ≤ h0.size) (E_x0 : Exa Z h0 x0 OwnK0) (g_x0 : n0 ≤ x0) (F_count : Fld Z h0 x0 OwnK0 "count" "J" (.long 0)) (F_medianNanos : Fld Z h0 x0 OwnK0 "medianNanos" "J" (.long 0)) :
    OwnC l Z (⟨OwnK0, "<init>", "(JJ)V"⟩ : MethodName) prog_27_method_1_code 5 none ws ({ frames := 2, cells := 0, slots := 0, locals := 24 } : Room) #[(.ref x0), (.long x1), (.long x2)] h0 (fun v h L => v = none ∧ Fr n0 L ∧ Keep h0 h [x0] ∧ Exa Z h x0 OwnK0 ∧ Fld Z h x0 OwnK0 "count" "J" (.long x1) ∧ Fld Z h x0 OwnK0 "medianNanos" "J" (.long x2)) := by
  refine own_entry pf_com_example_substring_search_substringsearch_benchmark_Measurement__init___JJ_V (fun m => ef_rm1 m x0 x1 x2) ?_
  intro p e s m below meth c T0 X0 hC e0
  obtain ⟨hx, hby, hml, hown, hnm, hret, hlk, hZ⟩ := hC
  have N0 := Fr.nil n0
  have K0 := Keep.refl h0 [x0]
  refine own_go T0 m 1 #[rv x0, .val (.long x1), .second, .val (.long x2), .second] [(.ref x0)] (fun t k => XS.aloadN X0.here hx rfl (hb hby d1_0) rfl rfl k) ?_
  obtain ⟨_, T1, L1, X1, ⟨rfl, e1, rfl⟩, st1⟩ := own_init X0 hx hZ (y := (⟨"java/lang/Record", "<init>", "()V"⟩ : MethodName)) rfl hown (own_w hw 7 rfl) (own_w hw 8 rfl) (own_w hw 10 rfl) (own_w hw 11 rfl) (by decide) (rm2 l Z a0 hw [] x0 h0) e0 (a := x0) 0 (argsL := []) (rest := []) (Ls := #[rv x0, .val (.long x1), .second, .val (.long x2), .second]) (by rw [hml]; rfl) (lenOf pd___V rfl) rfl rfl (Nat.le_of_eq rfl) (hb hby d1_1) (by decide) (by decide) (by decide) (by decide)
  replace X1 := own_nil X1
  refine own_go T1 m 4 #[rv x0, .val (.long x1), .second, .val (.long x2), .second] [] (st1) ?_
  refine own_go T1 m 5 #[rv x0, .val (.long x1), .second, .val (.long x2), .second] [(.ref x0)] (fun t k => XS.aloadN X1.here hx rfl (hb hby d1_4) rfl rfl k) ?_
  refine own_go T1 m 6 #[rv x0, .val (.long x1), .second, .val (.long x2), .second] [(.long x1), (.ref x0)] (fun t k => XS.lloadN X1.here hx rfl (hb hby d1_5) rfl k) ?_
  obtain ⟨T2, h2, X2, e2, W2, st2⟩ := putF X1 hx hZ hown (host := "") (Or.inl (own_w hw 15 rfl)) Via.refl e1 F_count E_x0 (Or.inr ⟨(own_w hw 16 rfl), rfl, hnm⟩) (own_w hw 2 rfl) (ty := .long) (by decide) rfl rfl (g := (mkF m 6 #[rv x0, .val (.long x1), .second, .val (.long x2), .second] [(.long x1), (.ref x0)])) rfl rfl (hb hby d1_6)
  have F2 := F_count.same W2
  have cf3 := E_x0.wr W2
  have cf4 := F_medianNanos.other W2 (Or.inr (slot_ne (Or.inr (own_w hw 18 rfl)) (Or.inr (own_w hw 16 rfl)) (by decide) (t := .long) (t' := .long) (by decide) (by decide)))
  have Z_2 : n0 ≤ h2.size := Nat.le_trans Z0 (Keep.of_wr W2).1
  have K_2 : Keep h0 h2 [x0] := K0.wr W2 (own_i 0 rfl)
  have N2 := Fr.snoc X2 N0 g_x0
  refine own_go T2 m 9 #[rv x0, .val (.long x1), .second, .val (.long x2), .second] [] (st2) ?_
  refine own_go T2 m 10 #[rv x0, .val (.long x1), .second, .val (.long x2), .second] [(.ref x0)] (fun t k => XS.aloadN X2.here hx rfl (hb hby d1_9) rfl rfl k) ?_
  refine own_go T2 m 11 #[rv x0, .val (.long x1), .second, .val (.long x2), .second] [(.long x2), (.ref x0)] (fun t k => XS.lloadN X2.here hx rfl (hb hby d1_10) rfl k) ?_
  obtain ⟨T5, h5, X5, e5, W5, st5⟩ := putF X2 hx hZ hown (host := "") (Or.inl (own_w hw 17 rfl)) Via.refl e2 cf4 cf3 (Or.inr ⟨(own_w hw 18 rfl), rfl, hnm⟩) (own_w hw 2 rfl) (ty := .long) (by decide) rfl rfl (g := (mkF m 11 #[rv x0, .val (.long x1), .second, .val (.long x2), .second] [(.long x2), (.ref x0)])) rfl rfl (hb hby d1_11)
  have F5 := cf4.same W5
  have cf6 := cf3.wr W5
  have cf7 := F2.other W5 (Or.inr (slot_ne (Or.inr (own_w hw 16 rfl)) (Or.inr (own_w hw 18 rfl)) (by decide) (t := .long) (t' := .long) (by decide) (by decide)))
  have Z_5 : n0 ≤ h5.size := Nat.le_trans Z_2 (Keep.of_wr W5).1
  have K_5 : Keep h0 h5 [x0] := K_2.wr W5 (own_i 0 rfl)
  have N5 := Fr.snoc X5 N2 g_x0
  refine own_go T5 m 14 #[rv x0, .val (.long x1), .second, .val (.long x2), .second] [] (st5) ?_
  refine own_retV X5 hx hlk hret (hb hby d1_14) (by decide) (by decide) ?_
  rw [e5]
  exact ⟨rfl, N5, K_5, cf6, cf7, F5⟩
theorem d4_0 : decode prog_27_method_4_code 0 = .ok (.lload_n 1, 1) := by decide +kernel
theorem d4_1 : decode prog_27_method_4_code 1 = .ok (.l2d, 1) := by decide +kernel
theorem d4_2 : decode prog_27_method_4_code 2 = .ok (.ldc2_w 45, 3) := by decide +kernel
theorem d4_5 : decode prog_27_method_4_code 5 = .ok (.dmul, 1) := by decide +kernel
theorem d4_6 : decode prog_27_method_4_code 6 = .ok (.aload_n 0, 1) := by decide +kernel
theorem d4_7 : decode prog_27_method_4_code 7 = .ok (.getfield 13, 3) := by decide +kernel
theorem d4_10 : decode prog_27_method_4_code 10 = .ok (.l2d, 1) := by decide +kernel
theorem d4_11 : decode prog_27_method_4_code 11 = .ok (.ddiv, 1) := by decide +kernel
theorem d4_12 : decode prog_27_method_4_code 12 = .ok (.dreturn, 1) := by decide +kernel
theorem pf_com_example_substring_search_substringsearch_benchmark_Measurement_mbPerSecond__J_D : plainFor (⟨OwnK0, "mbPerSecond", "(J)D"⟩ : MethodName) = true := by first | exact plainFor_of_name (by first | (simp [plainName, overriddenIn]; done) | decide +kernel) | exact Jvm.Free.JP.mathPlain rfl (by decide +kernel) | decide +kernel
theorem ef_rm4 (m : MethodId) (q0 : Addr) (q1 : Int64) : entryFrame m #[(.ref q0), (.long q1)] 3 = mkF m 0 #[rv q0, .val (.long q1), .second] [] := by first | (simp [entryFrame, mkF, argsToLocals, Value.category]; done) | rfl
set_option maxRecDepth 65536 in
set_option maxHeartbeats 40000000 in
theorem rm4 (l : Launch) (Z : State) (a0 : Array Value) (hw : ∀ d ∈ tables_1, d.before a0 Z = true) (ws : List Jvm.Cond) (x0 : Addr) (x1 : Int64) (u : Int64) (h0 : Heap) (F0 : Fld Z h0 x0 OwnK0 "medianNanos" "J" (.long u)) (hu : ¬ u = 0) :
    OwnC l Z (⟨OwnK0, "mbPerSecond", "(J)D"⟩ : MethodName) prog_27_method_4_code 3 (some .double) ws ({ frames := 0, cells := 0, slots := 0, locals := 0 } : Room) #[(.ref x0), (.long x1)] h0 (OwnPure (.double (FP.ddiv (FP.dmul (FP.l2d x1) (4652007308841189376 : UInt64)) (FP.l2d u))) h0) := by
  refine own_entry pf_com_example_substring_search_substringsearch_benchmark_Measurement_mbPerSecond__J_D (fun m => ef_rm4 m x0 x1) ?_
  intro p e s m below meth c T0 X0 hC e0
  obtain ⟨hx, hby, hml, hown, hnm, hret, hlk, hZ⟩ := hC
  refine own_go T0 m 1 #[rv x0, .val (.long x1), .second] [(.long x1)] (fun t k => XS.lloadN X0.here hx rfl (hb hby d4_0) rfl k) ?_
  refine own_go T0 m 2 #[rv x0, .val (.long x1), .second] [(.double (FP.l2d x1))] (fun t k => XS.l2dS X0.here hx rfl (hb hby d4_1) rfl rfl k) ?_
  refine own_go T0 m 5 #[rv x0, .val (.long x1), .second] [(.double (4652007308841189376 : UInt64)), (.double (FP.l2d x1))] (X0.ldc2DoubleC hx hown (mvT hZ (own_w hw 24 rfl)) (g := (mkF m 2 #[rv x0, .val (.long x1), .second] [(.double (FP.l2d x1))])) rfl (hb hby d4_2)) ?_
  refine own_go T0 m 6 #[rv x0, .val (.long x1), .second] [(.double (FP.dmul (FP.l2d x1) (4652007308841189376 : UInt64)))] (fun t k => XS.dmulS X0.here hx rfl (hb hby d4_5) rfl (own_pn x1) rfl k) ?_
  refine own_go T0 m 7 #[rv x0, .val (.long x1), .second] [(.ref x0), (.double (FP.dmul (FP.l2d x1) (4652007308841189376 : UInt64)))] (fun t k => XS.aloadN X0.here hx rfl (hb hby d4_6) rfl rfl k) ?_
  obtain ⟨T1, X1, e1, st1⟩ := getF X0 hx hZ hown (host := "") (Or.inl (own_w hw 17 rfl)) Via.refl e0 F0 (g := (mkF m 7 #[rv x0, .val (.long x1), .second] [(.ref x0), (.double (FP.dmul (FP.l2d x1) (4652007308841189376 : UInt64)))])) rfl rfl (hb hby d4_7)
  refine own_go T1 m 10 #[rv x0, .val (.long x1), .second] [(.long u), (.double (FP.dmul (FP.l2d x1) (4652007308841189376 : UInt64)))] (st1) ?_
  refine own_go T1 m 11 #[rv x0, .val (.long x1), .second] [(.double (FP.l2d u)), (.double (FP.dmul (FP.l2d x1) (4652007308841189376 : UInt64)))] (fun t k => XS.l2dS X1.here hx rfl (hb hby d4_10) rfl rfl k) ?_
  refine own_go T1 m 12 #[rv x0, .val (.long x1), .second] [(.double (FP.ddiv (FP.dmul (FP.l2d x1) (4652007308841189376 : UInt64)) (FP.l2d u)))] (fun t k => XS.ddivS X1.here hx rfl (hb hby d4_11) rfl (own_rn x1 hu) rfl k) ?_
  refine own_retD X1 hx hlk hret (hb hby d4_12) (by decide) (by decide) ?_
  exact ⟨rfl, e1, rfl⟩
theorem d5_0 : decode jdk_29_method_66_code 0 = .ok (.lload_n 0, 1) := by decide +kernel
theorem d5_1 : decode jdk_29_method_66_code 1 = .ok (.lload_n 2, 1) := by decide +kernel
theorem d5_2 : decode jdk_29_method_66_code 2 = .ok (.lcmp, 1) := by decide +kernel
theorem d5_3 : decode jdk_29_method_66_code 3 = .ok (.ifCond .lt 7, 3) := by decide +kernel
theorem d5_6 : decode jdk_29_method_66_code 6 = .ok (.lload_n 0, 1) := by decide +kernel
theorem d5_7 : decode jdk_29_method_66_code 7 = .ok (.goto 4, 3) := by decide +kernel
theorem d5_10 : decode jdk_29_method_66_code 10 = .ok (.lload_n 2, 1) := by decide +kernel
theorem d5_11 : decode jdk_29_method_66_code 11 = .ok (.lreturn, 1) := by decide +kernel
theorem pf_java_lang_Math_max__JJ_J : plainFor (⟨"java/lang/Math", "max", "(JJ)J"⟩ : MethodName) = true := by first | exact plainFor_of_name (by first | (simp [plainName, overriddenIn]; done) | decide +kernel) | exact Jvm.Free.JP.mathPlain rfl (by decide +kernel) | decide +kernel
theorem ef_rm5 (m : MethodId) (q0 : Int64) (q1 : Int64) : entryFrame m #[(.long q0), (.long q1)] 4 = mkF m 0 #[.val (.long q0), .second, .val (.long q1), .second] [] := by first | (simp [entryFrame, mkF, argsToLocals, Value.category]; done) | rfl
set_option maxRecDepth 65536 in
set_option maxHeartbeats 40000000 in
theorem rm5 (l : Launch) (Z : State) (a0 : Array Value) (hw : ∀ d ∈ tables_1, d.before a0 Z = true) (ws : List Jvm.Cond) (x0 : Int64) (x1 : Int64) (h0 : Heap) :
    OwnC l Z (⟨"java/lang/Math", "max", "(JJ)J"⟩ : MethodName) jdk_29_method_66_code 4 (some .long) ws ({ frames := 0, cells := 0, slots := 0, locals := 0 } : Room) #[(.long x0), (.long x1)] h0 (fun v h L => ∃ z : Int64, v = some (.long z) ∧ x0.toInt ≤ z.toInt ∧ x1.toInt ≤ z.toInt ∧ h = h0 ∧ L = []) := by
  refine own_entry pf_java_lang_Math_max__JJ_J (fun m => ef_rm5 m x0 x1) ?_
  intro p e s m below meth c T0 X0 hC e0
  obtain ⟨hx, hby, hml, hown, hnm, hret, hlk, hZ⟩ := hC
  refine own_go T0 m 1 #[.val (.long x0), .second, .val (.long x1), .second] [(.long x0)] (fun t k => XS.lloadN X0.here hx rfl (hb hby d5_0) rfl k) ?_
  refine own_go T0 m 2 #[.val (.long x0), .second, .val (.long x1), .second] [(.long x1), (.long x0)] (fun t k => XS.lloadN X0.here hx rfl (hb hby d5_1) rfl k) ?_
  refine own_go T0 m 3 #[.val (.long x0), .second, .val (.long x1), .second] [(.int (lcmpW x0 x1))] (fun t k => XS.lcmp X0.here hx rfl (hb hby d5_2) rfl k) ?_
  by_cases hc3_1 : x0 < x1
  · refine own_go T0 m 10 #[.val (.long x0), .second, .val (.long x1), .second] [] (fun t k => XS.ifYes X0.here hx rfl (pc0 := 3) (pc' := 10) rfl (hb hby d5_3) rfl ((if0 _ _).trans (tlt ((lw_lt x0 x1).mpr hc3_1)).1) (by decide) (by decide) k) ?_
    refine own_go T0 m 11 #[.val (.long x0), .second, .val (.long x1), .second] [(.long x1)] (fun t k => XS.lloadN X0.here hx rfl (hb hby d5_10) rfl k) ?_
    refine own_retJ X0 hx hlk hret (hb hby d5_11) (by decide) (by decide) ?_
    refine ⟨x1, rfl, ?_, ?_, e0, rfl⟩ <;> (have hq : x0 < x1 := hc3_1; rw [Int64.lt_iff_toInt_lt] at hq; omega)
  · refine own_go T0 m 6 #[.val (.long x0), .second, .val (.long x1), .second] [] (fun t k => XS.ifNo X0.here hx rfl (hb hby d5_3) rfl ((if0 _ _).trans (flt (mt (lw_lt x0 x1).mp hc3_1)).1) k) ?_
    refine own_go T0 m 7 #[.val (.long x0), .second, .val (.long x1), .second] [(.long x0)] (fun t k => XS.lloadN X0.here hx rfl (hb hby d5_6) rfl k) ?_
    refine own_go T0 m 11 #[.val (.long x0), .second, .val (.long x1), .second] [(.long x0)] (fun t k => XS.goto X0.here hx rfl (pc0 := 7) (pc' := 11) rfl (hb hby d5_7) (by decide) (by decide) k) ?_
    refine own_retJ X0 hx hlk hret (hb hby d5_11) (by decide) (by decide) ?_
    refine ⟨x0, rfl, ?_, ?_, e0, rfl⟩ <;> (have hq : ¬ (x0 < x1) := hc3_1; rw [Int64.lt_iff_toInt_lt] at hq; omega)
theorem d6_0 : decode jdk_29_method_70_code 0 = .ok (.lload_n 0, 1) := by decide +kernel
theorem d6_1 : decode jdk_29_method_70_code 1 = .ok (.lload_n 2, 1) := by decide +kernel
theorem d6_2 : decode jdk_29_method_70_code 2 = .ok (.lcmp, 1) := by decide +kernel
theorem d6_3 : decode jdk_29_method_70_code 3 = .ok (.ifCond .gt 7, 3) := by decide +kernel
theorem d6_6 : decode jdk_29_method_70_code 6 = .ok (.lload_n 0, 1) := by decide +kernel
theorem d6_7 : decode jdk_29_method_70_code 7 = .ok (.goto 4, 3) := by decide +kernel
theorem d6_10 : decode jdk_29_method_70_code 10 = .ok (.lload_n 2, 1) := by decide +kernel
theorem d6_11 : decode jdk_29_method_70_code 11 = .ok (.lreturn, 1) := by decide +kernel
theorem pf_java_lang_Math_min__JJ_J : plainFor (⟨"java/lang/Math", "min", "(JJ)J"⟩ : MethodName) = true := by first | exact plainFor_of_name (by first | (simp [plainName, overriddenIn]; done) | decide +kernel) | exact Jvm.Free.JP.mathPlain rfl (by decide +kernel) | decide +kernel
theorem ef_rm6 (m : MethodId) (q0 : Int64) (q1 : Int64) : entryFrame m #[(.long q0), (.long q1)] 4 = mkF m 0 #[.val (.long q0), .second, .val (.long q1), .second] [] := by first | (simp [entryFrame, mkF, argsToLocals, Value.category]; done) | rfl
set_option maxRecDepth 65536 in
set_option maxHeartbeats 40000000 in
theorem rm6 (l : Launch) (Z : State) (a0 : Array Value) (hw : ∀ d ∈ tables_1, d.before a0 Z = true) (ws : List Jvm.Cond) (x0 : Int64) (x1 : Int64) (h0 : Heap) :
    OwnC l Z (⟨"java/lang/Math", "min", "(JJ)J"⟩ : MethodName) jdk_29_method_70_code 4 (some .long) ws ({ frames := 0, cells := 0, slots := 0, locals := 0 } : Room) #[(.long x0), (.long x1)] h0 (fun v h L => ∃ z : Int64, v = some (.long z) ∧ z.toInt ≤ x0.toInt ∧ z.toInt ≤ x1.toInt ∧ h = h0 ∧ L = []) := by
  refine own_entry pf_java_lang_Math_min__JJ_J (fun m => ef_rm6 m x0 x1) ?_
  intro p e s m below meth c T0 X0 hC e0
  obtain ⟨hx, hby, hml, hown, hnm, hret, hlk, hZ⟩ := hC
  refine own_go T0 m 1 #[.val (.long x0), .second, .val (.long x1), .second] [(.long x0)] (fun t k => XS.lloadN X0.here hx rfl (hb hby d6_0) rfl k) ?_
  refine own_go T0 m 2 #[.val (.long x0), .second, .val (.long x1), .second] [(.long x1), (.long x0)] (fun t k => XS.lloadN X0.here hx rfl (hb hby d6_1) rfl k) ?_
  refine own_go T0 m 3 #[.val (.long x0), .second, .val (.long x1), .second] [(.int (lcmpW x0 x1))] (fun t k => XS.lcmp X0.here hx rfl (hb hby d6_2) rfl k) ?_
  by_cases hc3_1 : x1 < x0
  · refine own_go T0 m 10 #[.val (.long x0), .second, .val (.long x1), .second] [] (fun t k => XS.ifYes X0.here hx rfl (pc0 := 3) (pc' := 10) rfl (hb hby d6_3) rfl ((if0 _ _).trans (tlt ((lw_gt x0 x1).mpr hc3_1)).2.2.1) (by decide) (by decide) k) ?_
    refine own_go T0 m 11 #[.val (.long x0), .second, .val (.long x1), .second] [(.long x1)] (fun t k => XS.lloadN X0.here hx rfl (hb hby d6_10) rfl k) ?_
    refine own_retJ X0 hx hlk hret (hb hby d6_11) (by decide) (by decide) ?_
    refine ⟨x1, rfl, ?_, ?_, e0, rfl⟩ <;> (have hq : x1 < x0 := hc3_1; rw [Int64.lt_iff_toInt_lt] at hq; omega)
  · refine own_go T0 m 6 #[.val (.long x0), .second, .val (.long x1), .second] [] (fun t k => XS.ifNo X0.here hx rfl (hb hby d6_3) rfl ((if0 _ _).trans (flt (mt (lw_gt x0 x1).mp hc3_1)).2.2.1) k) ?_
    refine own_go T0 m 7 #[.val (.long x0), .second, .val (.long x1), .second] [(.long x0)] (fun t k => XS.lloadN X0.here hx rfl (hb hby d6_6) rfl k) ?_
    refine own_go T0 m 11 #[.val (.long x0), .second, .val (.long x1), .second] [(.long x0)] (fun t k => XS.goto X0.here hx rfl (pc0 := 7) (pc' := 11) rfl (hb hby d6_7) (by decide) (by decide) k) ?_
    refine own_retJ X0 hx hlk hret (hb hby d6_11) (by decide) (by decide) ?_
    refine ⟨x0, rfl, ?_, ?_, e0, rfl⟩ <;> (have hq : ¬ (x1 < x0) := hc3_1; rw [Int64.lt_iff_toInt_lt] at hq; omega)
theorem pf_com_example_substring_search_substringsearch_benchmark_MeasurementMbPerSecondPinLaw_law__IIJJJ_Z : plainFor (⟨"com/example/substring_search/substringsearch/benchmark/MeasurementMbPerSecondPinLaw", "law", "(IIJJJ)Z"⟩ : MethodName) = true := by first | exact plainFor_of_name (by first | (simp [plainName, overriddenIn]; done) | decide +kernel) | exact Jvm.Free.JP.mathPlain rfl (by decide +kernel) | decide +kernel
theorem ef_rm0 (m : MethodId) (q0 : Int32) (q1 : Int32) (q2 : Int64) (q3 : Int64) (q4 : Int64) : entryFrame m #[(.int q0), (.int q1), (.long q2), (.long q3), (.long q4)] maxLocals = mkF m 0 #[iv q0, iv q1, .val (.long q2), .second, .val (.long q3), .second, .val (.long q4), .second, .unset, .unset, .unset, .unset, .unset, .unset, .unset, .unset, .unset, .unset, .unset, .unset, .unset, .unset, .unset, .unset, .unset, .unset, .unset, .unset, .unset, .unset, .unset] [] := by first | (simp [entryFrame, mkF, argsToLocals, Value.category, maxLocals]; done) | rfl
set_option maxRecDepth 65536 in
set_option maxHeartbeats 40000000 in
theorem rm0 (l : Launch) (Z : State) (a0 : Array Value) (hw : ∀ d ∈ tables_1, d.before a0 Z = true) (ws : List Jvm.Cond) (x0 : Int32) (x1 : Int32) (x2 : Int64) (x3 : Int64) (x4 : Int64) (h0 : Heap) (n0 : Nat) (Z0 : n0 ≤ h0.size) :
    OwnC l Z x code maxLocals ret ws room_1 #[(.int x0), (.int x1), (.long x2), (.long x3), (.long x4)] h0 (fun v h L => v = some (.int 1) ∧ Fr n0 L) := by
  refine own_entry pf_com_example_substring_search_substringsearch_benchmark_MeasurementMbPerSecondPinLaw_law__IIJJJ_Z (fun m => ef_rm0 m x0 x1 x2 x3 x4) ?_
  intro p e s m below meth c T0 X0 hC e0
  obtain ⟨hx, hby, hml, hown, hnm, hret, hlk, hZ⟩ := hC
  have hml : c.maxLocals = 31 := hml
  have N0 := Fr.nil n0
  refine own_go T0 m 1 #[iv x0, iv x1, .val (.long x2), .second, .val (.long x3), .second, .val (.long x4), .second, .unset, .unset, .unset, .unset, .unset, .unset, .unset, .unset, .unset, .unset, .unset, .unset, .unset, .unset, .unset, .unset, .unset, .unset, .unset, .unset, .unset, .unset, .unset] [(.int x0)] (fun t k => XS.iloadN X0.here hx rfl (hb hby at_0) rfl k) ?_
  refine own_go T0 m 3 #[iv x0, iv x1, .val (.long x2), .second, .val (.long x3), .second, .val (.long x4), .second, .unset, .unset, .unset, .unset, .unset, .unset, .unset, .unset, .unset, .unset, .unset, .unset, .unset, .unset, .unset, .unset, .unset, .unset, .unset, .unset, .unset, .unset, .unset] [(.int 11), (.int x0)] (fun t k => XS.bipush X0.here hx rfl (hb hby at_1) k) ?_
  refine own_go T0 m 4 #[iv x0, iv x1, .val (.long x2), .second, .val (.long x3), .second, .val (.long x4), .second, .unset, .unset, .unset, .unset, .unset, .unset, .unset, .unset, .unset, .unset, .unset, .unset, .unset, .unset, .unset, .unset, .unset, .unset, .unset, .unset, .unset, .unset, .unset] [(.int (x0 >>> ((11 : Int32) &&& 31)))] (fun t k => XS.ishr X0.here hx rfl (hb hby at_3) rfl k) ?_
  refine own_go T0 m 5 #[iv x0, iv x1, .val (.long x2), .second, .val (.long x3), .second, .val (.long x4), .second, .unset, .unset, .unset, .unset, .unset, .unset, .unset, .unset, .unset, .unset, .unset, .unset, .unset, .unset, .unset, .unset, .unset, .unset, .unset, .unset, .unset, .unset, .unset] [(.long (x0 >>> ((11 : Int32) &&& 31)).toInt64)] (fun t k => XS.i2l X0.here hx rfl (hb hby at_4) rfl k) ?_
  refine own_go T0 m 7 #[iv x0, iv x1, .val (.long x2), .second, .val (.long x3), .second, .val (.long x4), .second, .val (.long (x0 >>> ((11 : Int32) &&& 31)).toInt64), .second, .unset, .unset, .unset, .unset, .unset, .unset, .unset, .unset, .unset, .unset, .unset, .unset, .unset, .unset, .unset, .unset, .unset, .unset, .unset, .unset, .unset] [] (fun t k => XS.lstore X0.here hx rfl (hb hby at_5) rfl rfl k) ?_
  obtain ⟨qq, hd_qq⟩ : ∃ z, z = (x0 >>> ((11 : Int32) &&& 31)).toInt64 := ⟨_, rfl⟩
  rw [← hd_qq]
  refine own_go T0 m 8 #[iv x0, iv x1, .val (.long x2), .second, .val (.long x3), .second, .val (.long x4), .second, .val (.long qq), .second, .unset, .unset, .unset, .unset, .unset, .unset, .unset, .unset, .unset, .unset, .unset, .unset, .unset, .unset, .unset, .unset, .unset, .unset, .unset, .unset, .unset] [(.int x1)] (fun t k => XS.iloadN X0.here hx rfl (hb hby at_7) rfl k) ?_
  refine own_go T0 m 11 #[iv x0, iv x1, .val (.long x2), .second, .val (.long x3), .second, .val (.long x4), .second, .val (.long qq), .second, .unset, .unset, .unset, .unset, .unset, .unset, .unset, .unset, .unset, .unset, .unset, .unset, .unset, .unset, .unset, .unset, .unset, .unset, .unset, .unset, .unset] [(.int 4095), (.int x1)] (fun t k => XS.sipush X0.here hx rfl (hb hby at_8) k) ?_
  refine own_go T0 m 12 #[iv x0, iv x1, .val (.long x2), .second, .val (.long x3), .second, .val (.long x4), .second, .val (.long qq), .second, .unset, .unset, .unset, .unset, .unset, .unset, .unset, .unset, .unset, .unset, .unset, .unset, .unset, .unset, .unset, .unset, .unset, .unset, .unset, .unset, .unset] [(.int (x1 &&& (4095 : Int32)))] (fun t k => XS.iand X0.here hx rfl (hb hby at_11) rfl k) ?_
  refine own_go T0 m 13 #[iv x0, iv x1, .val (.long x2), .second, .val (.long x3), .second, .val (.long x4), .second, .val (.long qq), .second, .unset, .unset, .unset, .unset, .unset, .unset, .unset, .unset, .unset, .unset, .unset, .unset, .unset, .unset, .unset, .unset, .unset, .unset, .unset, .unset, .unset] [(.int 1), (.int (x1 &&& (4095 : Int32)))] (fun t k => XS.iconst X0.here hx rfl (hb hby at_12) k) ?_
  refine own_go T0 m 14 #[iv x0, iv x1, .val (.long x2), .second, .val (.long x3), .second, .val (.long x4), .second, .val (.long qq), .second, .unset, .unset, .unset, .unset, .unset, .unset, .unset, .unset, .unset, .unset, .unset, .unset, .unset, .unset, .unset, .unset, .unset, .unset, .unset, .unset, .unset] [(.int ((x1 &&& (4095 : Int32)) + (1 : Int32)))] (fun t k => XS.iadd X0.here hx rfl (hb hby at_13) rfl k) ?_
  refine own_go T0 m 15 #[iv x0, iv x1, .val (.long x2), .second, .val (.long x3), .second, .val (.long x4), .second, .val (.long qq), .second, .unset, .unset, .unset, .unset, .unset, .unset, .unset, .unset, .unset, .unset, .unset, .unset, .unset, .unset, .unset, .unset, .unset, .unset, .unset, .unset, .unset] [(.long ((x1 &&& (4095 : Int32)) + (1 : Int32)).toInt64)] (fun t k => XS.i2l X0.here hx rfl (hb hby at_14) rfl k) ?_
  refine own_go T0 m 17 #[iv x0, iv x1, .val (.long x2), .second, .val (.long x3), .second, .val (.long x4), .second, .val (.long qq), .second, .val (.long ((x1 &&& (4095 : Int32)) + (1 : Int32)).toInt64), .second, .unset, .unset, .unset, .unset, .unset, .unset, .unset, .unset, .unset, .unset, .unset, .unset, .unset, .unset, .unset, .unset, .unset, .unset, .unset] [] (fun t k => XS.lstore X0.here hx rfl (hb hby at_15) rfl rfl k) ?_
  obtain ⟨kk, hd_kk⟩ : ∃ z, z = ((x1 &&& (4095 : Int32)) + (1 : Int32)).toInt64 := ⟨_, rfl⟩
  rw [← hd_kk]
  obtain ⟨q1, k1, k2⟩ := own_rng x0 x1 qq kk hd_qq hd_kk
  obtain ⟨n1, n2⟩ := own_nan k1 k2
  refine own_go T0 m 19 #[iv x0, iv x1, .val (.long x2), .second, .val (.long x3), .second, .val (.long x4), .second, .val (.long qq), .second, .val (.long kk), .second, .unset, .unset, .unset, .unset, .unset, .unset, .unset, .unset, .unset, .unset, .unset, .unset, .unset, .unset, .unset, .unset, .unset, .unset, .unset] [(.long qq)] (fun t k => XS.lload X0.here hx rfl (hb hby at_17) rfl k) ?_
  refine own_go T0 m 21 #[iv x0, iv x1, .val (.long x2), .second, .val (.long x3), .second, .val (.long x4), .second, .val (.long qq), .second, .val (.long kk), .second, .unset, .unset, .unset, .unset, .unset, .unset, .unset, .unset, .unset, .unset, .unset, .unset, .unset, .unset, .unset, .unset, .unset, .unset, .unset] [(.long kk), (.long qq)] (fun t k => XS.lload X0.here hx rfl (hb hby at_19) rfl k) ?_
  refine own_go T0 m 22 #[iv x0, iv x1, .val (.long x2), .second, .val (.long x3), .second, .val (.long x4), .second, .val (.long qq), .second, .val (.long kk), .second, .unset, .unset, .unset, .unset, .unset, .unset, .unset, .unset, .unset, .unset, .unset, .unset, .unset, .unset, .unset, .unset, .unset, .unset, .unset] [(.long (qq * kk))] (fun t k => XS.lmul X0.here hx rfl (hb hby at_21) rfl k) ?_
  refine own_go T0 m 24 #[iv x0, iv x1, .val (.long x2), .second, .val (.long x3), .second, .val (.long x4), .second, .val (.long qq), .second, .val (.long kk), .second, .val (.long (qq * kk)), .second, .unset, .unset, .unset, .unset, .unset, .unset, .unset, .unset, .unset, .unset, .unset, .unset, .unset, .unset, .unset, .unset, .unset] [] (fun t k => XS.lstore X0.here hx rfl (hb hby at_22) rfl rfl k) ?_
  refine own_go T0 m 27 #[iv x0, iv x1, .val (.long x2), .second, .val (.long x3), .second, .val (.long x4), .second, .val (.long qq), .second, .val (.long kk), .second, .val (.long (qq * kk)), .second, .unset, .unset, .unset, .unset, .unset, .unset, .unset, .unset, .unset, .unset, .unset, .unset, .unset, .unset, .unset, .unset, .unset] [(.long 1000)] (X0.ldc2Long hx hown (mvT hZ (own_w hw 0 rfl)) (g := (mkF m 24 #[iv x0, iv x1, .val (.long x2), .second, .val (.long x3), .second, .val (.long x4), .second, .val (.long qq), .second, .val (.long kk), .second, .val (.long (qq * kk)), .second, .unset, .unset, .unset, .unset, .unset, .unset, .unset, .unset, .unset, .unset, .unset, .unset, .unset, .unset, .unset, .unset, .unset] [])) rfl (hb hby at_24)) ?_
  refine own_go T0 m 29 #[iv x0, iv x1, .val (.long x2), .second, .val (.long x3), .second, .val (.long x4), .second, .val (.long qq), .second, .val (.long kk), .second, .val (.long (qq * kk)), .second, .unset, .unset, .unset, .unset, .unset, .unset, .unset, .unset, .unset, .unset, .unset, .unset, .unset, .unset, .unset, .unset, .unset] [(.long kk), (.long 1000)] (fun t k => XS.lload X0.here hx rfl (hb hby at_27) rfl k) ?_
  refine own_go T0 m 30 #[iv x0, iv x1, .val (.long x2), .second, .val (.long x3), .second, .val (.long x4), .second, .val (.long qq), .second, .val (.long kk), .second, .val (.long (qq * kk)), .second, .unset, .unset, .unset, .unset, .unset, .unset, .unset, .unset, .unset, .unset, .unset, .unset, .unset, .unset, .unset, .unset, .unset] [(.long ((1000 : Int64) * kk))] (fun t k => XS.lmul X0.here hx rfl (hb hby at_29) rfl k) ?_
  refine own_go T0 m 32 #[iv x0, iv x1, .val (.long x2), .second, .val (.long x3), .second, .val (.long x4), .second, .val (.long qq), .second, .val (.long kk), .second, .val (.long (qq * kk)), .second, .val (.long ((1000 : Int64) * kk)), .second, .unset, .unset, .unset, .unset, .unset, .unset, .unset, .unset, .unset, .unset, .unset, .unset, .unset, .unset, .unset] [] (fun t k => XS.lstore X0.here hx rfl (hb hby at_30) rfl rfl k) ?_
  obtain ⟨T1, h1, X1, e1, E1, A1, D1, -, st1⟩ := newO X0 hx hZ hown (own_w hw 1 rfl) (own_w hw 2 rfl) (own_w hw 3 rfl) e0 (g := (mkF m 32 #[iv x0, iv x1, .val (.long x2), .second, .val (.long x3), .second, .val (.long x4), .second, .val (.long qq), .second, .val (.long kk), .second, .val (.long (qq * kk)), .second, .val (.long ((1000 : Int64) * kk)), .second, .unset, .unset, .unset, .unset, .unset, .unset, .unset, .unset, .unset, .unset, .unset, .unset, .unset, .unset, .unset] [])) rfl (hb hby at_32) (by decide) (by decide)
  obtain ⟨b1, g1⟩ : ∃ z, z = h0.size := ⟨_, rfl⟩
  rw [← g1] at A1 D1 st1
  have g_b1 : n0 ≤ b1 := Nat.le_trans Z0 (Nat.le_of_eq g1.symm)
  have Z_1 : n0 ≤ h1.size := Nat.le_trans Z0 E1.1
  have F_count_1 : Fld Z h1 b1 OwnK0 "count" "J" (.long 0) := D1 (Or.inr (own_w hw 16 rfl)) (ty := .long) (by decide)
  have F_medianNanos_1 : Fld Z h1 b1 OwnK0 "medianNanos" "J" (.long 0) := D1 (Or.inr (own_w hw 18 rfl)) (ty := .long) (by decide)
  refine own_go T1 m 35 #[iv x0, iv x1, .val (.long x2), .second, .val (.long x3), .second, .val (.long x4), .second, .val (.long qq), .second, .val (.long kk), .second, .val (.long (qq * kk)), .second, .val (.long ((1000 : Int64) * kk)), .second, .unset, .unset, .unset, .unset, .unset, .unset, .unset, .unset, .unset, .unset, .unset, .unset, .unset, .unset, .unset] [(.ref b1)] (st1) ?_
  refine own_go T1 m 36 #[iv x0, iv x1, .val (.long x2), .second, .val (.long x3), .second, .val (.long x4), .second, .val (.long qq), .second, .val (.long kk), .second, .val (.long (qq * kk)), .second, .val (.long ((1000 : Int64) * kk)), .second, .unset, .unset, .unset, .unset, .unset, .unset, .unset, .unset, .unset, .unset, .unset, .unset, .unset, .unset, .unset] [(.ref b1), (.ref b1)] (fun t k => XS.dup X1.here hx rfl (hb hby at_35) rfl rfl k) ?_
  refine own_go T1 m 37 #[iv x0, iv x1, .val (.long x2), .second, .val (.long x3), .second, .val (.long x4), .second, .val (.long qq), .second, .val (.long kk), .second, .val (.long (qq * kk)), .second, .val (.long ((1000 : Int64) * kk)), .second, .unset, .unset, .unset, .unset, .unset, .unset, .unset, .unset, .unset, .unset, .unset, .unset, .unset, .unset, .unset] [(.long 0), (.ref b1), (.ref b1)] (fun t k => XS.lconst X1.here hx rfl (hb hby at_36) k) ?_
  refine own_go T1 m 39 #[iv x0, iv x1, .val (.long x2), .second, .val (.long x3), .second, .val (.long x4), .second, .val (.long qq), .second, .val (.long kk), .second, .val (.long (qq * kk)), .second, .val (.long ((1000 : Int64) * kk)), .second, .unset, .unset, .unset, .unset, .unset, .unset, .unset, .unset, .unset, .unset, .unset, .unset, .unset, .unset, .unset] [(.long ((1000 : Int64) * kk)), (.long 0), (.ref b1), (.ref b1)] (fun t k => XS.lload X1.here hx rfl (hb hby at_37) rfl k) ?_
  obtain ⟨_, T2, L2, X2, ⟨rfl, Nq2, Kq2, Aq2, Fq2_0, Fq2_1⟩, st2⟩ := own_init X1 hx hZ (y := (⟨OwnK0, "<init>", "(JJ)V"⟩ : MethodName)) rfl hown (own_w hw 4 rfl) (own_w hw 5 rfl) (own_w hw 3 rfl) (own_w hw 6 rfl) (by decide) (rm1 l Z a0 hw [] b1 (0 : Int64) ((1000 : Int64) * kk) h1 n0 Z_1 A1 g_b1 F_count_1 F_medianNanos_1 ) e1 (a := b1) 1 (argsL := [(.long 0), (.long ((1000 : Int64) * kk))]) (rest := [(.ref b1)]) (Ls := #[iv x0, iv x1, .val (.long x2), .second, .val (.long x3), .second, .val (.long x4), .second, .val (.long qq), .second, .val (.long kk), .second, .val (.long (qq * kk)), .second, .val (.long ((1000 : Int64) * kk)), .second, .unset, .unset, .unset, .unset, .unset, .unset, .unset, .unset, .unset, .unset, .unset, .unset, .unset, .unset, .unset]) (by rw [hml]; rfl) (lenOf pd__JJ_V rfl) rfl rfl (Nat.le_of_eq rfl) (hb hby at_39) (by decide) (by decide) (by decide) (by decide)
  have N2 := Fr.app N0 Nq2
  have cf3 := A1.keep Kq2
  have Z_2 : n0 ≤ T2.heap.size := Nat.le_trans Z_1 Kq2.1
  refine own_go T2 m 42 #[iv x0, iv x1, .val (.long x2), .second, .val (.long x3), .second, .val (.long x4), .second, .val (.long qq), .second, .val (.long kk), .second, .val (.long (qq * kk)), .second, .val (.long ((1000 : Int64) * kk)), .second, .unset, .unset, .unset, .unset, .unset, .unset, .unset, .unset, .unset, .unset, .unset, .unset, .unset, .unset, .unset] [(.ref b1)] (st2) ?_
  refine own_go T2 m 44 #[iv x0, iv x1, .val (.long x2), .second, .val (.long x3), .second, .val (.long x4), .second, .val (.long qq), .second, .val (.long kk), .second, .val (.long (qq * kk)), .second, .val (.long ((1000 : Int64) * kk)), .second, rv b1, .unset, .unset, .unset, .unset, .unset, .unset, .unset, .unset, .unset, .unset, .unset, .unset, .unset, .unset] [] (fun t k => XS.astore X2.here hx rfl (hb hby at_42) rfl rfl rfl k) ?_
  refine own_go T2 m 46 #[iv x0, iv x1, .val (.long x2), .second, .val (.long x3), .second, .val (.long x4), .second, .val (.long qq), .second, .val (.long kk), .second, .val (.long (qq * kk)), .second, .val (.long ((1000 : Int64) * kk)), .second, rv b1, .unset, .unset, .unset, .unset, .unset, .unset, .unset, .unset, .unset, .unset, .unset, .unset, .unset, .unset] [(.ref b1)] (fun t k => XS.aload X2.here hx rfl (hb hby at_44) rfl rfl k) ?_
  refine own_go T2 m 48 #[iv x0, iv x1, .val (.long x2), .second, .val (.long x3), .second, .val (.long x4), .second, .val (.long qq), .second, .val (.long kk), .second, .val (.long (qq * kk)), .second, .val (.long ((1000 : Int64) * kk)), .second, rv b1, .unset, .unset, .unset, .unset, .unset, .unset, .unset, .unset, .unset, .unset, .unset, .unset, .unset, .unset] [(.long (qq * kk)), (.ref b1)] (fun t k => XS.lload X2.here hx rfl (hb hby at_46) rfl k) ?_
  obtain ⟨_, T4, L4, X4, ⟨rfl, e4, rfl⟩, st4⟩ := own_virtual X2 hx hZ (y := (⟨OwnK0, "mbPerSecond", "(J)D"⟩ : MethodName)) (z := (⟨OwnK0, "mbPerSecond", "(J)D"⟩ : MethodName)) hown (own_w hw 19 rfl) (own_w hw 20 rfl) (notFace_of_selects (args := #[]) (mvT hZ (own_w hw 22 rfl))) (own_w hw 22 rfl) (own_w hw 21 rfl) (own_w hw 3 rfl) (own_w hw 23 rfl) (by decide) (rm4 l Z a0 hw [] b1 (qq * kk) ((1000 : Int64) * kk) T2.heap Fq2_1 n2) rfl Aq2 0 (argsL := [(.long (qq * kk))]) (rest := []) (Ls := #[iv x0, iv x1, .val (.long x2), .second, .val (.long x3), .second, .val (.long x4), .second, .val (.long qq), .second, .val (.long kk), .second, .val (.long (qq * kk)), .second, .val (.long ((1000 : Int64) * kk)), .second, rv b1, .unset, .unset, .unset, .unset, .unset, .unset, .unset, .unset, .unset, .unset, .unset, .unset, .unset, .unset]) (by rw [hml]; rfl) (lenOf pd__J_D rfl) rfl rfl (Nat.le_of_eq rfl) (hb hby at_48) (by decide) (by decide) (by decide) (by decide)
  replace X4 := own_nil X4
  refine own_go T4 m 51 #[iv x0, iv x1, .val (.long x2), .second, .val (.long x3), .second, .val (.long x4), .second, .val (.long qq), .second, .val (.long kk), .second, .val (.long (qq * kk)), .second, .val (.long ((1000 : Int64) * kk)), .second, rv b1, .unset, .unset, .unset, .unset, .unset, .unset, .unset, .unset, .unset, .unset, .unset, .unset, .unset, .unset] [(.double (FP.ddiv (FP.dmul (FP.l2d (qq * kk)) (4652007308841189376 : UInt64)) (FP.l2d ((1000 : Int64) * kk))))] (st4) ?_
  refine own_go T4 m 53 #[iv x0, iv x1, .val (.long x2), .second, .val (.long x3), .second, .val (.long x4), .second, .val (.long qq), .second, .val (.long kk), .second, .val (.long (qq * kk)), .second, .val (.long ((1000 : Int64) * kk)), .second, rv b1, .unset, .unset, .unset, .unset, .unset, .unset, .unset, .unset, .unset, .unset, .unset, .unset, .unset, .unset] [(.long qq), (.double (FP.ddiv (FP.dmul (FP.l2d (qq * kk)) (4652007308841189376 : UInt64)) (FP.l2d ((1000 : Int64) * kk))))] (fun t k => XS.lload X4.here hx rfl (hb hby at_51) rfl k) ?_
  refine own_go T4 m 54 #[iv x0, iv x1, .val (.long x2), .second, .val (.long x3), .second, .val (.long x4), .second, .val (.long qq), .second, .val (.long kk), .second, .val (.long (qq * kk)), .second, .val (.long ((1000 : Int64) * kk)), .second, rv b1, .unset, .unset, .unset, .unset, .unset, .unset, .unset, .unset, .unset, .unset, .unset, .unset, .unset, .unset] [(.double (FP.l2d qq)), (.double (FP.ddiv (FP.dmul (FP.l2d (qq * kk)) (4652007308841189376 : UInt64)) (FP.l2d ((1000 : Int64) * kk))))] (fun t k => XS.l2dS X4.here hx rfl (hb hby at_53) rfl rfl k) ?_
  refine own_go T4 m 55 #[iv x0, iv x1, .val (.long x2), .second, .val (.long x3), .second, .val (.long x4), .second, .val (.long qq), .second, .val (.long kk), .second, .val (.long (qq * kk)), .second, .val (.long ((1000 : Int64) * kk)), .second, rv b1, .unset, .unset, .unset, .unset, .unset, .unset, .unset, .unset, .unset, .unset, .unset, .unset, .unset, .unset] [(.int (cmpValue (FP.dcmp (FP.ddiv (FP.dmul (FP.l2d (qq * kk)) (4652007308841189376 : UInt64)) (FP.l2d ((1000 : Int64) * kk))) (FP.l2d qq)) .l))] (fun t k => XS.dcmpS X4.here hx rfl (hb hby at_54) rfl rfl k) ?_
  refine own_go T4 m 58 #[iv x0, iv x1, .val (.long x2), .second, .val (.long x3), .second, .val (.long x4), .second, .val (.long qq), .second, .val (.long kk), .second, .val (.long (qq * kk)), .second, .val (.long ((1000 : Int64) * kk)), .second, rv b1, .unset, .unset, .unset, .unset, .unset, .unset, .unset, .unset, .unset, .unset, .unset, .unset, .unset, .unset] [] (fun t k => XS.ifNo X4.here hx rfl (hb hby at_55) rfl ((if0 _ _).trans (teq (own_ok q1 k1 k2)).2) k) ?_
  refine own_go T4 m 59 #[iv x0, iv x1, .val (.long x2), .second, .val (.long x3), .second, .val (.long x4), .second, .val (.long qq), .second, .val (.long kk), .second, .val (.long (qq * kk)), .second, .val (.long ((1000 : Int64) * kk)), .second, rv b1, .unset, .unset, .unset, .unset, .unset, .unset, .unset, .unset, .unset, .unset, .unset, .unset, .unset, .unset] [(.int 1)] (fun t k => XS.iconst X4.here hx rfl (hb hby at_58) k) ?_
  refine own_go T4 m 63 #[iv x0, iv x1, .val (.long x2), .second, .val (.long x3), .second, .val (.long x4), .second, .val (.long qq), .second, .val (.long kk), .second, .val (.long (qq * kk)), .second, .val (.long ((1000 : Int64) * kk)), .second, rv b1, .unset, .unset, .unset, .unset, .unset, .unset, .unset, .unset, .unset, .unset, .unset, .unset, .unset, .unset] [(.int 1)] (fun t k => XS.goto X4.here hx rfl (pc0 := 59) (pc' := 63) rfl (hb hby at_59) (by decide) (by decide) k) ?_
  refine own_go T4 m 65 #[iv x0, iv x1, .val (.long x2), .second, .val (.long x3), .second, .val (.long x4), .second, .val (.long qq), .second, .val (.long kk), .second, .val (.long (qq * kk)), .second, .val (.long ((1000 : Int64) * kk)), .second, rv b1, iv 1, .unset, .unset, .unset, .unset, .unset, .unset, .unset, .unset, .unset, .unset, .unset, .unset, .unset] [] (fun t k => XS.istore X4.here hx rfl (hb hby at_63) rfl rfl k) ?_
  refine own_go T4 m 66 #[iv x0, iv x1, .val (.long x2), .second, .val (.long x3), .second, .val (.long x4), .second, .val (.long qq), .second, .val (.long kk), .second, .val (.long (qq * kk)), .second, .val (.long ((1000 : Int64) * kk)), .second, rv b1, iv 1, .unset, .unset, .unset, .unset, .unset, .unset, .unset, .unset, .unset, .unset, .unset, .unset, .unset] [(.long 1)] (fun t k => XS.lconst X4.here hx rfl (hb hby at_65) k) ?_
  refine own_go T4 m 68 #[iv x0, iv x1, .val (.long x2), .second, .val (.long x3), .second, .val (.long x4), .second, .val (.long qq), .second, .val (.long kk), .second, .val (.long (qq * kk)), .second, .val (.long ((1000 : Int64) * kk)), .second, rv b1, iv 1, .unset, .unset, .unset, .unset, .unset, .unset, .unset, .unset, .unset, .unset, .unset, .unset, .unset] [(.long x4), (.long 1)] (fun t k => XS.lload X4.here hx rfl (hb hby at_66) rfl k) ?_
  refine own_go T4 m 71 #[iv x0, iv x1, .val (.long x2), .second, .val (.long x3), .second, .val (.long x4), .second, .val (.long qq), .second, .val (.long kk), .second, .val (.long (qq * kk)), .second, .val (.long ((1000 : Int64) * kk)), .second, rv b1, iv 1, .unset, .unset, .unset, .unset, .unset, .unset, .unset, .unset, .unset, .unset, .unset, .unset, .unset] [(.long 9223372036854775807), (.long x4), (.long 1)] (X4.ldc2Long hx hown (mvT hZ (own_w hw 25 rfl)) (g := (mkF m 68 #[iv x0, iv x1, .val (.long x2), .second, .val (.long x3), .second, .val (.long x4), .second, .val (.long qq), .second, .val (.long kk), .second, .val (.long (qq * kk)), .second, .val (.long ((1000 : Int64) * kk)), .second, rv b1, iv 1, .unset, .unset, .unset, .unset, .unset, .unset, .unset, .unset, .unset, .unset, .unset, .unset, .unset] [(.long x4), (.long 1)])) rfl (hb hby at_68)) ?_
  refine own_go T4 m 72 #[iv x0, iv x1, .val (.long x2), .second, .val (.long x3), .second, .val (.long x4), .second, .val (.long qq), .second, .val (.long kk), .second, .val (.long (qq * kk)), .second, .val (.long ((1000 : Int64) * kk)), .second, rv b1, iv 1, .unset, .unset, .unset, .unset, .unset, .unset, .unset, .unset, .unset, .unset, .unset, .unset, .unset] [(.long (x4 &&& (9223372036854775807 : Int64))), (.long 1)] (fun t k => XS.land X4.here hx rfl (hb hby at_71) rfl k) ?_
  obtain ⟨_, T5, L5, X5, ⟨z5, rfl, za5, zb5, e5, rfl⟩, st5⟩ := own_static X4 hx hZ (y := (⟨"java/lang/Math", "max", "(JJ)J"⟩ : MethodName)) hown (own_w hw 26 rfl) (own_w hw 27 rfl) (own_w hw 28 rfl) (own_w hw 29 rfl) (by decide) (rm5 l Z a0 hw [] (1 : Int64) (x4 &&& (9223372036854775807 : Int64)) T2.heap) e4 0 (argsL := [(.long 1), (.long (x4 &&& (9223372036854775807 : Int64)))]) (rest := []) (Ls := #[iv x0, iv x1, .val (.long x2), .second, .val (.long x3), .second, .val (.long x4), .second, .val (.long qq), .second, .val (.long kk), .second, .val (.long (qq * kk)), .second, .val (.long ((1000 : Int64) * kk)), .second, rv b1, iv 1, .unset, .unset, .unset, .unset, .unset, .unset, .unset, .unset, .unset, .unset, .unset, .unset, .unset]) (by rw [hml]; rfl) (lenOf pd__JJ_J rfl) rfl rfl (Nat.le_of_eq rfl) (hb hby at_72) (by decide) (by decide) (by decide) (by decide)
  replace X5 := own_nil X5
  refine own_go T5 m 75 #[iv x0, iv x1, .val (.long x2), .second, .val (.long x3), .second, .val (.long x4), .second, .val (.long qq), .second, .val (.long kk), .second, .val (.long (qq * kk)), .second, .val (.long ((1000 : Int64) * kk)), .second, rv b1, iv 1, .unset, .unset, .unset, .unset, .unset, .unset, .unset, .unset, .unset, .unset, .unset, .unset, .unset] [(.long z5)] (st5) ?_
  have hn2 : 1 ≤ z5.toInt := by
    have : (1 : Int64).toInt = 1 := by decide
    omega
  refine own_go T5 m 77 #[iv x0, iv x1, .val (.long x2), .second, .val (.long x3), .second, .val (.long x4), .second, .val (.long qq), .second, .val (.long kk), .second, .val (.long (qq * kk)), .second, .val (.long ((1000 : Int64) * kk)), .second, rv b1, iv 1, .val (.long z5), .second, .unset, .unset, .unset, .unset, .unset, .unset, .unset, .unset, .unset, .unset, .unset] [] (fun t k => XS.lstore X5.here hx rfl (hb hby at_75) rfl rfl k) ?_
  obtain ⟨T6, h6, X6, e6, E6, A6, D6, -, st6⟩ := newO X5 hx hZ hown (own_w hw 1 rfl) (own_w hw 2 rfl) (own_w hw 3 rfl) e5 (g := (mkF m 77 #[iv x0, iv x1, .val (.long x2), .second, .val (.long x3), .second, .val (.long x4), .second, .val (.long qq), .second, .val (.long kk), .second, .val (.long (qq * kk)), .second, .val (.long ((1000 : Int64) * kk)), .second, rv b1, iv 1, .val (.long z5), .second, .unset, .unset, .unset, .unset, .unset, .unset, .unset, .unset, .unset, .unset, .unset] [])) rfl (hb hby at_77) (by decide) (by decide)
  obtain ⟨b6, g6⟩ : ∃ z, z = T2.heap.size := ⟨_, rfl⟩
  rw [← g6] at A6 D6 st6
  have ne_b1_b6 : b1 ≠ b6 := Nat.ne_of_lt (Nat.lt_of_lt_of_eq Aq2.lt g6.symm)
  have g_b6 : n0 ≤ b6 := Nat.le_trans Z_2 (Nat.le_of_eq g6.symm)
  have cf7 := Aq2.ext E6
  have cf8 := Fq2_0.ext E6
  have cf9 := Fq2_1.ext E6
  have Z_6 : n0 ≤ h6.size := Nat.le_trans Z_2 E6.1
  have F_count_6 : Fld Z h6 b6 OwnK0 "count" "J" (.long 0) := D6 (Or.inr (own_w hw 16 rfl)) (ty := .long) (by decide)
  have F_medianNanos_6 : Fld Z h6 b6 OwnK0 "medianNanos" "J" (.long 0) := D6 (Or.inr (own_w hw 18 rfl)) (ty := .long) (by decide)
  refine own_go T6 m 80 #[iv x0, iv x1, .val (.long x2), .second, .val (.long x3), .second, .val (.long x4), .second, .val (.long qq), .second, .val (.long kk), .second, .val (.long (qq * kk)), .second, .val (.long ((1000 : Int64) * kk)), .second, rv b1, iv 1, .val (.long z5), .second, .unset, .unset, .unset, .unset, .unset, .unset, .unset, .unset, .unset, .unset, .unset] [(.ref b6)] (st6) ?_
  refine own_go T6 m 81 #[iv x0, iv x1, .val (.long x2), .second, .val (.long x3), .second, .val (.long x4), .second, .val (.long qq), .second, .val (.long kk), .second, .val (.long (qq * kk)), .second, .val (.long ((1000 : Int64) * kk)), .second, rv b1, iv 1, .val (.long z5), .second, .unset, .unset, .unset, .unset, .unset, .unset, .unset, .unset, .unset, .unset, .unset] [(.ref b6), (.ref b6)] (fun t k => XS.dup X6.here hx rfl (hb hby at_80) rfl rfl k) ?_
  refine own_go T6 m 82 #[iv x0, iv x1, .val (.long x2), .second, .val (.long x3), .second, .val (.long x4), .second, .val (.long qq), .second, .val (.long kk), .second, .val (.long (qq * kk)), .second, .val (.long ((1000 : Int64) * kk)), .second, rv b1, iv 1, .val (.long z5), .second, .unset, .unset, .unset, .unset, .unset, .unset, .unset, .unset, .unset, .unset, .unset] [(.long 1), (.ref b6), (.ref b6)] (fun t k => XS.lconst X6.here hx rfl (hb hby at_81) k) ?_
  refine own_go T6 m 84 #[iv x0, iv x1, .val (.long x2), .second, .val (.long x3), .second, .val (.long x4), .second, .val (.long qq), .second, .val (.long kk), .second, .val (.long (qq * kk)), .second, .val (.long ((1000 : Int64) * kk)), .second, rv b1, iv 1, .val (.long z5), .second, .unset, .unset, .unset, .unset, .unset, .unset, .unset, .unset, .unset, .unset, .unset] [(.long z5), (.long 1), (.ref b6), (.ref b6)] (fun t k => XS.lload X6.here hx rfl (hb hby at_82) rfl k) ?_
  obtain ⟨_, T10, L10, X10, ⟨rfl, Nq10, Kq10, Aq10, Fq10_0, Fq10_1⟩, st10⟩ := own_init X6 hx hZ (y := (⟨OwnK0, "<init>", "(JJ)V"⟩ : MethodName)) rfl hown (own_w hw 4 rfl) (own_w hw 5 rfl) (own_w hw 3 rfl) (own_w hw 6 rfl) (by decide) (rm1 l Z a0 hw [] b6 (1 : Int64) z5 h6 n0 Z_6 A6 g_b6 F_count_6 F_medianNanos_6 ) e6 (a := b6) 1 (argsL := [(.long 1), (.long z5)]) (rest := [(.ref b6)]) (Ls := #[iv x0, iv x1, .val (.long x2), .second, .val (.long x3), .second, .val (.long x4), .second, .val (.long qq), .second, .val (.long kk), .second, .val (.long (qq * kk)), .second, .val (.long ((1000 : Int64) * kk)), .second, rv b1, iv 1, .val (.long z5), .second, .unset, .unset, .unset, .unset, .unset, .unset, .unset, .unset, .unset, .unset, .unset]) (by rw [hml]; rfl) (lenOf pd__JJ_V rfl) rfl rfl (Nat.le_of_eq rfl) (hb hby at_84) (by decide) (by decide) (by decide) (by decide)
  have N10 := Fr.app N2 Nq10
  have cf11 := cf7.keep Kq10
  have cf12 := cf8.keep Kq10 (ninS ne_b1_b6 nin0)
  have cf13 := cf9.keep Kq10 (ninS ne_b1_b6 nin0)
  have cf14 := A6.keep Kq10
  have Z_10 : n0 ≤ T10.heap.size := Nat.le_trans Z_6 Kq10.1
  refine own_go T10 m 87 #[iv x0, iv x1, .val (.long x2), .second, .val (.long x3), .second, .val (.long x4), .second, .val (.long qq), .second, .val (.long kk), .second, .val (.long (qq * kk)), .second, .val (.long ((1000 : Int64) * kk)), .second, rv b1, iv 1, .val (.long z5), .second, .unset, .unset, .unset, .unset, .unset, .unset, .unset, .unset, .unset, .unset, .unset] [(.ref b6)] (st10) ?_
  refine own_go T10 m 89 #[iv x0, iv x1, .val (.long x2), .second, .val (.long x3), .second, .val (.long x4), .second, .val (.long qq), .second, .val (.long kk), .second, .val (.long (qq * kk)), .second, .val (.long ((1000 : Int64) * kk)), .second, rv b1, iv 1, .val (.long z5), .second, rv b6, .unset, .unset, .unset, .unset, .unset, .unset, .unset, .unset, .unset, .unset] [] (fun t k => XS.astore X10.here hx rfl (hb hby at_87) rfl rfl rfl k) ?_
  refine own_go T10 m 90 #[iv x0, iv x1, .val (.long x2), .second, .val (.long x3), .second, .val (.long x4), .second, .val (.long qq), .second, .val (.long kk), .second, .val (.long (qq * kk)), .second, .val (.long ((1000 : Int64) * kk)), .second, rv b1, iv 1, .val (.long z5), .second, rv b6, .unset, .unset, .unset, .unset, .unset, .unset, .unset, .unset, .unset, .unset] [(.long x2)] (fun t k => XS.lloadN X10.here hx rfl (hb hby at_89) rfl k) ?_
  refine own_go T10 m 92 #[iv x0, iv x1, .val (.long x2), .second, .val (.long x3), .second, .val (.long x4), .second, .val (.long qq), .second, .val (.long kk), .second, .val (.long (qq * kk)), .second, .val (.long ((1000 : Int64) * kk)), .second, rv b1, iv 1, .val (.long z5), .second, rv b6, .unset, .unset, .unset, .unset, .unset, .unset, .unset, .unset, .unset, .unset] [(.long x3), (.long x2)] (fun t k => XS.lload X10.here hx rfl (hb hby at_90) rfl k) ?_
  obtain ⟨_, T15, L15, X15, ⟨z15, rfl, za15, zb15, e15, rfl⟩, st15⟩ := own_static X10 hx hZ (y := (⟨"java/lang/Math", "min", "(JJ)J"⟩ : MethodName)) hown (own_w hw 30 rfl) (own_w hw 31 rfl) (own_w hw 28 rfl) (own_w hw 32 rfl) (by decide) (rm6 l Z a0 hw [] x2 x3 T10.heap) rfl 0 (argsL := [(.long x2), (.long x3)]) (rest := []) (Ls := #[iv x0, iv x1, .val (.long x2), .second, .val (.long x3), .second, .val (.long x4), .second, .val (.long qq), .second, .val (.long kk), .second, .val (.long (qq * kk)), .second, .val (.long ((1000 : Int64) * kk)), .second, rv b1, iv 1, .val (.long z5), .second, rv b6, .unset, .unset, .unset, .unset, .unset, .unset, .unset, .unset, .unset, .unset]) (by rw [hml]; rfl) (lenOf pd__JJ_J rfl) rfl rfl (Nat.le_of_eq rfl) (hb hby at_92) (by decide) (by decide) (by decide) (by decide)
  replace X15 := own_nil X15
  refine own_go T15 m 95 #[iv x0, iv x1, .val (.long x2), .second, .val (.long x3), .second, .val (.long x4), .second, .val (.long qq), .second, .val (.long kk), .second, .val (.long (qq * kk)), .second, .val (.long ((1000 : Int64) * kk)), .second, rv b1, iv 1, .val (.long z5), .second, rv b6, .unset, .unset, .unset, .unset, .unset, .unset, .unset, .unset, .unset, .unset] [(.long z15)] (st15) ?_
  refine own_go T15 m 97 #[iv x0, iv x1, .val (.long x2), .second, .val (.long x3), .second, .val (.long x4), .second, .val (.long qq), .second, .val (.long kk), .second, .val (.long (qq * kk)), .second, .val (.long ((1000 : Int64) * kk)), .second, rv b1, iv 1, .val (.long z5), .second, rv b6, .val (.long z15), .second, .unset, .unset, .unset, .unset, .unset, .unset, .unset, .unset] [] (fun t k => XS.lstore X15.here hx rfl (hb hby at_95) rfl rfl k) ?_
  refine own_go T15 m 98 #[iv x0, iv x1, .val (.long x2), .second, .val (.long x3), .second, .val (.long x4), .second, .val (.long qq), .second, .val (.long kk), .second, .val (.long (qq * kk)), .second, .val (.long ((1000 : Int64) * kk)), .second, rv b1, iv 1, .val (.long z5), .second, rv b6, .val (.long z15), .second, .unset, .unset, .unset, .unset, .unset, .unset, .unset, .unset] [(.long x2)] (fun t k => XS.lloadN X15.here hx rfl (hb hby at_97) rfl k) ?_
  refine own_go T15 m 100 #[iv x0, iv x1, .val (.long x2), .second, .val (.long x3), .second, .val (.long x4), .second, .val (.long qq), .second, .val (.long kk), .second, .val (.long (qq * kk)), .second, .val (.long ((1000 : Int64) * kk)), .second, rv b1, iv 1, .val (.long z5), .second, rv b6, .val (.long z15), .second, .unset, .unset, .unset, .unset, .unset, .unset, .unset, .unset] [(.long x3), (.long x2)] (fun t k => XS.lload X15.here hx rfl (hb hby at_98) rfl k) ?_
  obtain ⟨_, T16, L16, X16, ⟨z16, rfl, za16, zb16, e16, rfl⟩, st16⟩ := own_static X15 hx hZ (y := (⟨"java/lang/Math", "max", "(JJ)J"⟩ : MethodName)) hown (own_w hw 26 rfl) (own_w hw 27 rfl) (own_w hw 28 rfl) (own_w hw 29 rfl) (by decide) (rm5 l Z a0 hw [] x2 x3 T10.heap) e15 0 (argsL := [(.long x2), (.long x3)]) (rest := []) (Ls := #[iv x0, iv x1, .val (.long x2), .second, .val (.long x3), .second, .val (.long x4), .second, .val (.long qq), .second, .val (.long kk), .second, .val (.long (qq * kk)), .second, .val (.long ((1000 : Int64) * kk)), .second, rv b1, iv 1, .val (.long z5), .second, rv b6, .val (.long z15), .second, .unset, .unset, .unset, .unset, .unset, .unset, .unset, .unset]) (by rw [hml]; rfl) (lenOf pd__JJ_J rfl) rfl rfl (Nat.le_of_eq rfl) (hb hby at_100) (by decide) (by decide) (by decide) (by decide)
  replace X16 := own_nil X16
  refine own_go T16 m 103 #[iv x0, iv x1, .val (.long x2), .second, .val (.long x3), .second, .val (.long x4), .second, .val (.long qq), .second, .val (.long kk), .second, .val (.long (qq * kk)), .second, .val (.long ((1000 : Int64) * kk)), .second, rv b1, iv 1, .val (.long z5), .second, rv b6, .val (.long z15), .second, .unset, .unset, .unset, .unset, .unset, .unset, .unset, .unset] [(.long z16)] (st16) ?_
  have hlh : z15.toInt ≤ z16.toInt := by omega
  refine own_go T16 m 105 #[iv x0, iv x1, .val (.long x2), .second, .val (.long x3), .second, .val (.long x4), .second, .val (.long qq), .second, .val (.long kk), .second, .val (.long (qq * kk)), .second, .val (.long ((1000 : Int64) * kk)), .second, rv b1, iv 1, .val (.long z5), .second, rv b6, .val (.long z15), .second, .val (.long z16), .second, .unset, .unset, .unset, .unset, .unset, .unset] [] (fun t k => XS.lstore X16.here hx rfl (hb hby at_103) rfl rfl k) ?_
  refine own_go T16 m 107 #[iv x0, iv x1, .val (.long x2), .second, .val (.long x3), .second, .val (.long x4), .second, .val (.long qq), .second, .val (.long kk), .second, .val (.long (qq * kk)), .second, .val (.long ((1000 : Int64) * kk)), .second, rv b1, iv 1, .val (.long z5), .second, rv b6, .val (.long z15), .second, .val (.long z16), .second, .unset, .unset, .unset, .unset, .unset, .unset] [(.ref b6)] (fun t k => XS.aload X16.here hx rfl (hb hby at_105) rfl rfl k) ?_
  refine own_go T16 m 109 #[iv x0, iv x1, .val (.long x2), .second, .val (.long x3), .second, .val (.long x4), .second, .val (.long qq), .second, .val (.long kk), .second, .val (.long (qq * kk)), .second, .val (.long ((1000 : Int64) * kk)), .second, rv b1, iv 1, .val (.long z5), .second, rv b6, .val (.long z15), .second, .val (.long z16), .second, .unset, .unset, .unset, .unset, .unset, .unset] [(.long z15), (.ref b6)] (fun t k => XS.lload X16.here hx rfl (hb hby at_107) rfl k) ?_
  obtain ⟨_, T17, L17, X17, ⟨rfl, e17, rfl⟩, st17⟩ := own_virtual X16 hx hZ (y := (⟨OwnK0, "mbPerSecond", "(J)D"⟩ : MethodName)) (z := (⟨OwnK0, "mbPerSecond", "(J)D"⟩ : MethodName)) hown (own_w hw 19 rfl) (own_w hw 20 rfl) (notFace_of_selects (args := #[]) (mvT hZ (own_w hw 22 rfl))) (own_w hw 22 rfl) (own_w hw 21 rfl) (own_w hw 3 rfl) (own_w hw 23 rfl) (by decide) (rm4 l Z a0 hw [] b6 z15 z5 T10.heap Fq10_1 (own_nz hn2)) e16 Aq10 0 (argsL := [(.long z15)]) (rest := []) (Ls := #[iv x0, iv x1, .val (.long x2), .second, .val (.long x3), .second, .val (.long x4), .second, .val (.long qq), .second, .val (.long kk), .second, .val (.long (qq * kk)), .second, .val (.long ((1000 : Int64) * kk)), .second, rv b1, iv 1, .val (.long z5), .second, rv b6, .val (.long z15), .second, .val (.long z16), .second, .unset, .unset, .unset, .unset, .unset, .unset]) (by rw [hml]; rfl) (lenOf pd__J_D rfl) rfl rfl (Nat.le_of_eq rfl) (hb hby at_109) (by decide) (by decide) (by decide) (by decide)
  replace X17 := own_nil X17
  refine own_go T17 m 112 #[iv x0, iv x1, .val (.long x2), .second, .val (.long x3), .second, .val (.long x4), .second, .val (.long qq), .second, .val (.long kk), .second, .val (.long (qq * kk)), .second, .val (.long ((1000 : Int64) * kk)), .second, rv b1, iv 1, .val (.long z5), .second, rv b6, .val (.long z15), .second, .val (.long z16), .second, .unset, .unset, .unset, .unset, .unset, .unset] [(.double (FP.ddiv (FP.dmul (FP.l2d z15) (4652007308841189376 : UInt64)) (FP.l2d z5)))] (st17) ?_
  refine own_go T17 m 114 #[iv x0, iv x1, .val (.long x2), .second, .val (.long x3), .second, .val (.long x4), .second, .val (.long qq), .second, .val (.long kk), .second, .val (.long (qq * kk)), .second, .val (.long ((1000 : Int64) * kk)), .second, rv b1, iv 1, .val (.long z5), .second, rv b6, .val (.long z15), .second, .val (.long z16), .second, .val (.double (FP.ddiv (FP.dmul (FP.l2d z15) (4652007308841189376 : UInt64)) (FP.l2d z5))), .second, .unset, .unset, .unset, .unset] [] (fun t k => XS.dstore X17.here hx rfl (hb hby at_112) rfl rfl k) ?_
  refine own_go T17 m 116 #[iv x0, iv x1, .val (.long x2), .second, .val (.long x3), .second, .val (.long x4), .second, .val (.long qq), .second, .val (.long kk), .second, .val (.long (qq * kk)), .second, .val (.long ((1000 : Int64) * kk)), .second, rv b1, iv 1, .val (.long z5), .second, rv b6, .val (.long z15), .second, .val (.long z16), .second, .val (.double (FP.ddiv (FP.dmul (FP.l2d z15) (4652007308841189376 : UInt64)) (FP.l2d z5))), .second, .unset, .unset, .unset, .unset] [(.ref b6)] (fun t k => XS.aload X17.here hx rfl (hb hby at_114) rfl rfl k) ?_
  refine own_go T17 m 118 #[iv x0, iv x1, .val (.long x2), .second, .val (.long x3), .second, .val (.long x4), .second, .val (.long qq), .second, .val (.long kk), .second, .val (.long (qq * kk)), .second, .val (.long ((1000 : Int64) * kk)), .second, rv b1, iv 1, .val (.long z5), .second, rv b6, .val (.long z15), .second, .val (.long z16), .second, .val (.double (FP.ddiv (FP.dmul (FP.l2d z15) (4652007308841189376 : UInt64)) (FP.l2d z5))), .second, .unset, .unset, .unset, .unset] [(.long z16), (.ref b6)] (fun t k => XS.lload X17.here hx rfl (hb hby at_116) rfl k) ?_
  obtain ⟨_, T18, L18, X18, ⟨rfl, e18, rfl⟩, st18⟩ := own_virtual X17 hx hZ (y := (⟨OwnK0, "mbPerSecond", "(J)D"⟩ : MethodName)) (z := (⟨OwnK0, "mbPerSecond", "(J)D"⟩ : MethodName)) hown (own_w hw 19 rfl) (own_w hw 20 rfl) (notFace_of_selects (args := #[]) (mvT hZ (own_w hw 22 rfl))) (own_w hw 22 rfl) (own_w hw 21 rfl) (own_w hw 3 rfl) (own_w hw 23 rfl) (by decide) (rm4 l Z a0 hw [] b6 z16 z5 T10.heap Fq10_1 (own_nz hn2)) e17 Aq10 0 (argsL := [(.long z16)]) (rest := []) (Ls := #[iv x0, iv x1, .val (.long x2), .second, .val (.long x3), .second, .val (.long x4), .second, .val (.long qq), .second, .val (.long kk), .second, .val (.long (qq * kk)), .second, .val (.long ((1000 : Int64) * kk)), .second, rv b1, iv 1, .val (.long z5), .second, rv b6, .val (.long z15), .second, .val (.long z16), .second, .val (.double (FP.ddiv (FP.dmul (FP.l2d z15) (4652007308841189376 : UInt64)) (FP.l2d z5))), .second, .unset, .unset, .unset, .unset]) (by rw [hml]; rfl) (lenOf pd__J_D rfl) rfl rfl (Nat.le_of_eq rfl) (hb hby at_118) (by decide) (by decide) (by decide) (by decide)
  replace X18 := own_nil X18
  refine own_go T18 m 121 #[iv x0, iv x1, .val (.long x2), .second, .val (.long x3), .second, .val (.long x4), .second, .val (.long qq), .second, .val (.long kk), .second, .val (.long (qq * kk)), .second, .val (.long ((1000 : Int64) * kk)), .second, rv b1, iv 1, .val (.long z5), .second, rv b6, .val (.long z15), .second, .val (.long z16), .second, .val (.double (FP.ddiv (FP.dmul (FP.l2d z15) (4652007308841189376 : UInt64)) (FP.l2d z5))), .second, .unset, .unset, .unset, .unset] [(.double (FP.ddiv (FP.dmul (FP.l2d z16) (4652007308841189376 : UInt64)) (FP.l2d z5)))] (st18) ?_
  refine own_go T18 m 123 #[iv x0, iv x1, .val (.long x2), .second, .val (.long x3), .second, .val (.long x4), .second, .val (.long qq), .second, .val (.long kk), .second, .val (.long (qq * kk)), .second, .val (.long ((1000 : Int64) * kk)), .second, rv b1, iv 1, .val (.long z5), .second, rv b6, .val (.long z15), .second, .val (.long z16), .second, .val (.double (FP.ddiv (FP.dmul (FP.l2d z15) (4652007308841189376 : UInt64)) (FP.l2d z5))), .second, .val (.double (FP.ddiv (FP.dmul (FP.l2d z16) (4652007308841189376 : UInt64)) (FP.l2d z5))), .second, .unset, .unset] [] (fun t k => XS.dstore X18.here hx rfl (hb hby at_121) rfl rfl k) ?_
  refine own_go T18 m 125 #[iv x0, iv x1, .val (.long x2), .second, .val (.long x3), .second, .val (.long x4), .second, .val (.long qq), .second, .val (.long kk), .second, .val (.long (qq * kk)), .second, .val (.long ((1000 : Int64) * kk)), .second, rv b1, iv 1, .val (.long z5), .second, rv b6, .val (.long z15), .second, .val (.long z16), .second, .val (.double (FP.ddiv (FP.dmul (FP.l2d z15) (4652007308841189376 : UInt64)) (FP.l2d z5))), .second, .val (.double (FP.ddiv (FP.dmul (FP.l2d z16) (4652007308841189376 : UInt64)) (FP.l2d z5))), .second, .unset, .unset] [(.double (FP.ddiv (FP.dmul (FP.l2d z15) (4652007308841189376 : UInt64)) (FP.l2d z5)))] (fun t k => XS.dload X18.here hx rfl (hb hby at_123) rfl k) ?_
  refine own_go T18 m 127 #[iv x0, iv x1, .val (.long x2), .second, .val (.long x3), .second, .val (.long x4), .second, .val (.long qq), .second, .val (.long kk), .second, .val (.long (qq * kk)), .second, .val (.long ((1000 : Int64) * kk)), .second, rv b1, iv 1, .val (.long z5), .second, rv b6, .val (.long z15), .second, .val (.long z16), .second, .val (.double (FP.ddiv (FP.dmul (FP.l2d z15) (4652007308841189376 : UInt64)) (FP.l2d z5))), .second, .val (.double (FP.ddiv (FP.dmul (FP.l2d z16) (4652007308841189376 : UInt64)) (FP.l2d z5))), .second, .unset, .unset] [(.double (FP.ddiv (FP.dmul (FP.l2d z16) (4652007308841189376 : UInt64)) (FP.l2d z5))), (.double (FP.ddiv (FP.dmul (FP.l2d z15) (4652007308841189376 : UInt64)) (FP.l2d z5)))] (fun t k => XS.dload X18.here hx rfl (hb hby at_125) rfl k) ?_
  refine own_go T18 m 128 #[iv x0, iv x1, .val (.long x2), .second, .val (.long x3), .second, .val (.long x4), .second, .val (.long qq), .second, .val (.long kk), .second, .val (.long (qq * kk)), .second, .val (.long ((1000 : Int64) * kk)), .second, rv b1, iv 1, .val (.long z5), .second, rv b6, .val (.long z15), .second, .val (.long z16), .second, .val (.double (FP.ddiv (FP.dmul (FP.l2d z15) (4652007308841189376 : UInt64)) (FP.l2d z5))), .second, .val (.double (FP.ddiv (FP.dmul (FP.l2d z16) (4652007308841189376 : UInt64)) (FP.l2d z5))), .second, .unset, .unset] [(.int (cmpValue (FP.dcmp (FP.ddiv (FP.dmul (FP.l2d z15) (4652007308841189376 : UInt64)) (FP.l2d z5)) (FP.ddiv (FP.dmul (FP.l2d z16) (4652007308841189376 : UInt64)) (FP.l2d z5))) .g))] (fun t k => XS.dcmpS X18.here hx rfl (hb hby at_127) rfl rfl k) ?_
  refine own_go T18 m 131 #[iv x0, iv x1, .val (.long x2), .second, .val (.long x3), .second, .val (.long x4), .second, .val (.long qq), .second, .val (.long kk), .second, .val (.long (qq * kk)), .second, .val (.long ((1000 : Int64) * kk)), .second, rv b1, iv 1, .val (.long z5), .second, rv b6, .val (.long z15), .second, .val (.long z16), .second, .val (.double (FP.ddiv (FP.dmul (FP.l2d z15) (4652007308841189376 : UInt64)) (FP.l2d z5))), .second, .val (.double (FP.ddiv (FP.dmul (FP.l2d z16) (4652007308841189376 : UInt64)) (FP.l2d z5))), .second, .unset, .unset] [] (fun t k => XS.ifNo X18.here hx rfl (hb hby at_128) rfl ((if0 _ _).trans (flt (own_mn hlh hn2)).2.2.1) k) ?_
  refine own_go T18 m 132 #[iv x0, iv x1, .val (.long x2), .second, .val (.long x3), .second, .val (.long x4), .second, .val (.long qq), .second, .val (.long kk), .second, .val (.long (qq * kk)), .second, .val (.long ((1000 : Int64) * kk)), .second, rv b1, iv 1, .val (.long z5), .second, rv b6, .val (.long z15), .second, .val (.long z16), .second, .val (.double (FP.ddiv (FP.dmul (FP.l2d z15) (4652007308841189376 : UInt64)) (FP.l2d z5))), .second, .val (.double (FP.ddiv (FP.dmul (FP.l2d z16) (4652007308841189376 : UInt64)) (FP.l2d z5))), .second, .unset, .unset] [(.int 1)] (fun t k => XS.iconst X18.here hx rfl (hb hby at_131) k) ?_
  refine own_go T18 m 136 #[iv x0, iv x1, .val (.long x2), .second, .val (.long x3), .second, .val (.long x4), .second, .val (.long qq), .second, .val (.long kk), .second, .val (.long (qq * kk)), .second, .val (.long ((1000 : Int64) * kk)), .second, rv b1, iv 1, .val (.long z5), .second, rv b6, .val (.long z15), .second, .val (.long z16), .second, .val (.double (FP.ddiv (FP.dmul (FP.l2d z15) (4652007308841189376 : UInt64)) (FP.l2d z5))), .second, .val (.double (FP.ddiv (FP.dmul (FP.l2d z16) (4652007308841189376 : UInt64)) (FP.l2d z5))), .second, .unset, .unset] [(.int 1)] (fun t k => XS.goto X18.here hx rfl (pc0 := 132) (pc' := 136) rfl (hb hby at_132) (by decide) (by decide) k) ?_
  refine own_go T18 m 138 #[iv x0, iv x1, .val (.long x2), .second, .val (.long x3), .second, .val (.long x4), .second, .val (.long qq), .second, .val (.long kk), .second, .val (.long (qq * kk)), .second, .val (.long ((1000 : Int64) * kk)), .second, rv b1, iv 1, .val (.long z5), .second, rv b6, .val (.long z15), .second, .val (.long z16), .second, .val (.double (FP.ddiv (FP.dmul (FP.l2d z15) (4652007308841189376 : UInt64)) (FP.l2d z5))), .second, .val (.double (FP.ddiv (FP.dmul (FP.l2d z16) (4652007308841189376 : UInt64)) (FP.l2d z5))), .second, iv 1, .unset] [] (fun t k => XS.istore X18.here hx rfl (hb hby at_136) rfl rfl k) ?_
  refine own_go T18 m 140 #[iv x0, iv x1, .val (.long x2), .second, .val (.long x3), .second, .val (.long x4), .second, .val (.long qq), .second, .val (.long kk), .second, .val (.long (qq * kk)), .second, .val (.long ((1000 : Int64) * kk)), .second, rv b1, iv 1, .val (.long z5), .second, rv b6, .val (.long z15), .second, .val (.long z16), .second, .val (.double (FP.ddiv (FP.dmul (FP.l2d z15) (4652007308841189376 : UInt64)) (FP.l2d z5))), .second, .val (.double (FP.ddiv (FP.dmul (FP.l2d z16) (4652007308841189376 : UInt64)) (FP.l2d z5))), .second, iv 1, .unset] [(.long z15)] (fun t k => XS.lload X18.here hx rfl (hb hby at_138) rfl k) ?_
  refine own_go T18 m 141 #[iv x0, iv x1, .val (.long x2), .second, .val (.long x3), .second, .val (.long x4), .second, .val (.long qq), .second, .val (.long kk), .second, .val (.long (qq * kk)), .second, .val (.long ((1000 : Int64) * kk)), .second, rv b1, iv 1, .val (.long z5), .second, rv b6, .val (.long z15), .second, .val (.long z16), .second, .val (.double (FP.ddiv (FP.dmul (FP.l2d z15) (4652007308841189376 : UInt64)) (FP.l2d z5))), .second, .val (.double (FP.ddiv (FP.dmul (FP.l2d z16) (4652007308841189376 : UInt64)) (FP.l2d z5))), .second, iv 1, .unset] [(.long 0), (.long z15)] (fun t k => XS.lconst X18.here hx rfl (hb hby at_140) k) ?_
  refine own_go T18 m 142 #[iv x0, iv x1, .val (.long x2), .second, .val (.long x3), .second, .val (.long x4), .second, .val (.long qq), .second, .val (.long kk), .second, .val (.long (qq * kk)), .second, .val (.long ((1000 : Int64) * kk)), .second, rv b1, iv 1, .val (.long z5), .second, rv b6, .val (.long z15), .second, .val (.long z16), .second, .val (.double (FP.ddiv (FP.dmul (FP.l2d z15) (4652007308841189376 : UInt64)) (FP.l2d z5))), .second, .val (.double (FP.ddiv (FP.dmul (FP.l2d z16) (4652007308841189376 : UInt64)) (FP.l2d z5))), .second, iv 1, .unset] [(.int (lcmpW z15 (0 : Int64)))] (fun t k => XS.lcmp X18.here hx rfl (hb hby at_141) rfl k) ?_
  by_cases hc142_19 : z15 < (0 : Int64)
  · refine own_go T18 m 152 #[iv x0, iv x1, .val (.long x2), .second, .val (.long x3), .second, .val (.long x4), .second, .val (.long qq), .second, .val (.long kk), .second, .val (.long (qq * kk)), .second, .val (.long ((1000 : Int64) * kk)), .second, rv b1, iv 1, .val (.long z5), .second, rv b6, .val (.long z15), .second, .val (.long z16), .second, .val (.double (FP.ddiv (FP.dmul (FP.l2d z15) (4652007308841189376 : UInt64)) (FP.l2d z5))), .second, .val (.double (FP.ddiv (FP.dmul (FP.l2d z16) (4652007308841189376 : UInt64)) (FP.l2d z5))), .second, iv 1, .unset] [] (fun t k => XS.ifYes X18.here hx rfl (pc0 := 142) (pc' := 152) rfl (hb hby at_142) rfl ((if0 _ _).trans (tlt ((lw_lt z15 (0 : Int64)).mpr hc142_19)).1) (by decide) (by decide) k) ?_
    refine own_go T18 m 153 #[iv x0, iv x1, .val (.long x2), .second, .val (.long x3), .second, .val (.long x4), .second, .val (.long qq), .second, .val (.long kk), .second, .val (.long (qq * kk)), .second, .val (.long ((1000 : Int64) * kk)), .second, rv b1, iv 1, .val (.long z5), .second, rv b6, .val (.long z15), .second, .val (.long z16), .second, .val (.double (FP.ddiv (FP.dmul (FP.l2d z15) (4652007308841189376 : UInt64)) (FP.l2d z5))), .second, .val (.double (FP.ddiv (FP.dmul (FP.l2d z16) (4652007308841189376 : UInt64)) (FP.l2d z5))), .second, iv 1, .unset] [(.int 1)] (fun t k => XS.iconst X18.here hx rfl (hb hby at_152) k) ?_
    refine own_go T18 m 157 #[iv x0, iv x1, .val (.long x2), .second, .val (.long x3), .second, .val (.long x4), .second, .val (.long qq), .second, .val (.long kk), .second, .val (.long (qq * kk)), .second, .val (.long ((1000 : Int64) * kk)), .second, rv b1, iv 1, .val (.long z5), .second, rv b6, .val (.long z15), .second, .val (.long z16), .second, .val (.double (FP.ddiv (FP.dmul (FP.l2d z15) (4652007308841189376 : UInt64)) (FP.l2d z5))), .second, .val (.double (FP.ddiv (FP.dmul (FP.l2d z16) (4652007308841189376 : UInt64)) (FP.l2d z5))), .second, iv 1, .unset] [(.int 1)] (fun t k => XS.goto X18.here hx rfl (pc0 := 153) (pc' := 157) rfl (hb hby at_153) (by decide) (by decide) k) ?_
    refine own_go T18 m 159 #[iv x0, iv x1, .val (.long x2), .second, .val (.long x3), .second, .val (.long x4), .second, .val (.long qq), .second, .val (.long kk), .second, .val (.long (qq * kk)), .second, .val (.long ((1000 : Int64) * kk)), .second, rv b1, iv 1, .val (.long z5), .second, rv b6, .val (.long z15), .second, .val (.long z16), .second, .val (.double (FP.ddiv (FP.dmul (FP.l2d z15) (4652007308841189376 : UInt64)) (FP.l2d z5))), .second, .val (.double (FP.ddiv (FP.dmul (FP.l2d z16) (4652007308841189376 : UInt64)) (FP.l2d z5))), .second, iv 1, iv 1] [] (fun t k => XS.istore X18.here hx rfl (hb hby at_157) rfl rfl k) ?_
    refine own_go T18 m 161 #[iv x0, iv x1, .val (.long x2), .second, .val (.long x3), .second, .val (.long x4), .second, .val (.long qq), .second, .val (.long kk), .second, .val (.long (qq * kk)), .second, .val (.long ((1000 : Int64) * kk)), .second, rv b1, iv 1, .val (.long z5), .second, rv b6, .val (.long z15), .second, .val (.long z16), .second, .val (.double (FP.ddiv (FP.dmul (FP.l2d z15) (4652007308841189376 : UInt64)) (FP.l2d z5))), .second, .val (.double (FP.ddiv (FP.dmul (FP.l2d z16) (4652007308841189376 : UInt64)) (FP.l2d z5))), .second, iv 1, iv 1] [(.int 1)] (fun t k => XS.iload X18.here hx rfl (hb hby at_159) rfl k) ?_
    refine own_go T18 m 164 #[iv x0, iv x1, .val (.long x2), .second, .val (.long x3), .second, .val (.long x4), .second, .val (.long qq), .second, .val (.long kk), .second, .val (.long (qq * kk)), .second, .val (.long ((1000 : Int64) * kk)), .second, rv b1, iv 1, .val (.long z5), .second, rv b6, .val (.long z15), .second, .val (.long z16), .second, .val (.double (FP.ddiv (FP.dmul (FP.l2d z15) (4652007308841189376 : UInt64)) (FP.l2d z5))), .second, .val (.double (FP.ddiv (FP.dmul (FP.l2d z16) (4652007308841189376 : UInt64)) (FP.l2d z5))), .second, iv 1, iv 1] [] (fun t k => XS.ifNo X18.here hx rfl (hb hby at_161) rfl ((if0 _ _).trans (feq (by decide)).1) k) ?_
    refine own_go T18 m 166 #[iv x0, iv x1, .val (.long x2), .second, .val (.long x3), .second, .val (.long x4), .second, .val (.long qq), .second, .val (.long kk), .second, .val (.long (qq * kk)), .second, .val (.long ((1000 : Int64) * kk)), .second, rv b1, iv 1, .val (.long z5), .second, rv b6, .val (.long z15), .second, .val (.long z16), .second, .val (.double (FP.ddiv (FP.dmul (FP.l2d z15) (4652007308841189376 : UInt64)) (FP.l2d z5))), .second, .val (.double (FP.ddiv (FP.dmul (FP.l2d z16) (4652007308841189376 : UInt64)) (FP.l2d z5))), .second, iv 1, iv 1] [(.int 1)] (fun t k => XS.iload X18.here hx rfl (hb hby at_164) rfl k) ?_
    refine own_go T18 m 169 #[iv x0, iv x1, .val (.long x2), .second, .val (.long x3), .second, .val (.long x4), .second, .val (.long qq), .second, .val (.long kk), .second, .val (.long (qq * kk)), .second, .val (.long ((1000 : Int64) * kk)), .second, rv b1, iv 1, .val (.long z5), .second, rv b6, .val (.long z15), .second, .val (.long z16), .second, .val (.double (FP.ddiv (FP.dmul (FP.l2d z15) (4652007308841189376 : UInt64)) (FP.l2d z5))), .second, .val (.double (FP.ddiv (FP.dmul (FP.l2d z16) (4652007308841189376 : UInt64)) (FP.l2d z5))), .second, iv 1, iv 1] [] (fun t k => XS.ifNo X18.here hx rfl (hb hby at_166) rfl ((if0 _ _).trans (feq (by decide)).1) k) ?_
    refine own_go T18 m 171 #[iv x0, iv x1, .val (.long x2), .second, .val (.long x3), .second, .val (.long x4), .second, .val (.long qq), .second, .val (.long kk), .second, .val (.long (qq * kk)), .second, .val (.long ((1000 : Int64) * kk)), .second, rv b1, iv 1, .val (.long z5), .second, rv b6, .val (.long z15), .second, .val (.long z16), .second, .val (.double (FP.ddiv (FP.dmul (FP.l2d z15) (4652007308841189376 : UInt64)) (FP.l2d z5))), .second, .val (.double (FP.ddiv (FP.dmul (FP.l2d z16) (4652007308841189376 : UInt64)) (FP.l2d z5))), .second, iv 1, iv 1] [(.int 1)] (fun t k => XS.iload X18.here hx rfl (hb hby at_169) rfl k) ?_
    refine own_go T18 m 174 #[iv x0, iv x1, .val (.long x2), .second, .val (.long x3), .second, .val (.long x4), .second, .val (.long qq), .second, .val (.long kk), .second, .val (.long (qq * kk)), .second, .val (.long ((1000 : Int64) * kk)), .second, rv b1, iv 1, .val (.long z5), .second, rv b6, .val (.long z15), .second, .val (.long z16), .second, .val (.double (FP.ddiv (FP.dmul (FP.l2d z15) (4652007308841189376 : UInt64)) (FP.l2d z5))), .second, .val (.double (FP.ddiv (FP.dmul (FP.l2d z16) (4652007308841189376 : UInt64)) (FP.l2d z5))), .second, iv 1, iv 1] [] (fun t k => XS.ifNo X18.here hx rfl (hb hby at_171) rfl ((if0 _ _).trans (feq (by decide)).1) k) ?_
    refine own_go T18 m 175 #[iv x0, iv x1, .val (.long x2), .second, .val (.long x3), .second, .val (.long x4), .second, .val (.long qq), .second, .val (.long kk), .second, .val (.long (qq * kk)), .second, .val (.long ((1000 : Int64) * kk)), .second, rv b1, iv 1, .val (.long z5), .second, rv b6, .val (.long z15), .second, .val (.long z16), .second, .val (.double (FP.ddiv (FP.dmul (FP.l2d z15) (4652007308841189376 : UInt64)) (FP.l2d z5))), .second, .val (.double (FP.ddiv (FP.dmul (FP.l2d z16) (4652007308841189376 : UInt64)) (FP.l2d z5))), .second, iv 1, iv 1] [(.int 1)] (fun t k => XS.iconst X18.here hx rfl (hb hby at_174) k) ?_
    refine own_go T18 m 179 #[iv x0, iv x1, .val (.long x2), .second, .val (.long x3), .second, .val (.long x4), .second, .val (.long qq), .second, .val (.long kk), .second, .val (.long (qq * kk)), .second, .val (.long ((1000 : Int64) * kk)), .second, rv b1, iv 1, .val (.long z5), .second, rv b6, .val (.long z15), .second, .val (.long z16), .second, .val (.double (FP.ddiv (FP.dmul (FP.l2d z15) (4652007308841189376 : UInt64)) (FP.l2d z5))), .second, .val (.double (FP.ddiv (FP.dmul (FP.l2d z16) (4652007308841189376 : UInt64)) (FP.l2d z5))), .second, iv 1, iv 1] [(.int 1)] (fun t k => XS.goto X18.here hx rfl (pc0 := 175) (pc' := 179) rfl (hb hby at_175) (by decide) (by decide) k) ?_
    refine own_retZ X18 hx hlk hret (by decide) (hb hby at_179) (by decide) (by decide) ?_
    exact ⟨rfl, N10⟩
  · refine own_go T18 m 145 #[iv x0, iv x1, .val (.long x2), .second, .val (.long x3), .second, .val (.long x4), .second, .val (.long qq), .second, .val (.long kk), .second, .val (.long (qq * kk)), .second, .val (.long ((1000 : Int64) * kk)), .second, rv b1, iv 1, .val (.long z5), .second, rv b6, .val (.long z15), .second, .val (.long z16), .second, .val (.double (FP.ddiv (FP.dmul (FP.l2d z15) (4652007308841189376 : UInt64)) (FP.l2d z5))), .second, .val (.double (FP.ddiv (FP.dmul (FP.l2d z16) (4652007308841189376 : UInt64)) (FP.l2d z5))), .second, iv 1, .unset] [] (fun t k => XS.ifNo X18.here hx rfl (hb hby at_142) rfl ((if0 _ _).trans (flt (mt (lw_lt z15 (0 : Int64)).mp hc142_19)).1) k) ?_
    refine own_go T18 m 146 #[iv x0, iv x1, .val (.long x2), .second, .val (.long x3), .second, .val (.long x4), .second, .val (.long qq), .second, .val (.long kk), .second, .val (.long (qq * kk)), .second, .val (.long ((1000 : Int64) * kk)), .second, rv b1, iv 1, .val (.long z5), .second, rv b6, .val (.long z15), .second, .val (.long z16), .second, .val (.double (FP.ddiv (FP.dmul (FP.l2d z15) (4652007308841189376 : UInt64)) (FP.l2d z5))), .second, .val (.double (FP.ddiv (FP.dmul (FP.l2d z16) (4652007308841189376 : UInt64)) (FP.l2d z5))), .second, iv 1, .unset] [(.double (0 : UInt64))] (fun t k => XS.dconst0 X18.here hx rfl (hb hby at_145) rfl k) ?_
    refine own_go T18 m 148 #[iv x0, iv x1, .val (.long x2), .second, .val (.long x3), .second, .val (.long x4), .second, .val (.long qq), .second, .val (.long kk), .second, .val (.long (qq * kk)), .second, .val (.long ((1000 : Int64) * kk)), .second, rv b1, iv 1, .val (.long z5), .second, rv b6, .val (.long z15), .second, .val (.long z16), .second, .val (.double (FP.ddiv (FP.dmul (FP.l2d z15) (4652007308841189376 : UInt64)) (FP.l2d z5))), .second, .val (.double (FP.ddiv (FP.dmul (FP.l2d z16) (4652007308841189376 : UInt64)) (FP.l2d z5))), .second, iv 1, .unset] [(.double (FP.ddiv (FP.dmul (FP.l2d z15) (4652007308841189376 : UInt64)) (FP.l2d z5))), (.double (0 : UInt64))] (fun t k => XS.dload X18.here hx rfl (hb hby at_146) rfl k) ?_
    refine own_go T18 m 149 #[iv x0, iv x1, .val (.long x2), .second, .val (.long x3), .second, .val (.long x4), .second, .val (.long qq), .second, .val (.long kk), .second, .val (.long (qq * kk)), .second, .val (.long ((1000 : Int64) * kk)), .second, rv b1, iv 1, .val (.long z5), .second, rv b6, .val (.long z15), .second, .val (.long z16), .second, .val (.double (FP.ddiv (FP.dmul (FP.l2d z15) (4652007308841189376 : UInt64)) (FP.l2d z5))), .second, .val (.double (FP.ddiv (FP.dmul (FP.l2d z16) (4652007308841189376 : UInt64)) (FP.l2d z5))), .second, iv 1, .unset] [(.int (cmpValue (FP.dcmp (0 : UInt64) (FP.ddiv (FP.dmul (FP.l2d z15) (4652007308841189376 : UInt64)) (FP.l2d z5))) .g))] (fun t k => XS.dcmpS X18.here hx rfl (hb hby at_148) rfl rfl k) ?_
    refine own_go T18 m 152 #[iv x0, iv x1, .val (.long x2), .second, .val (.long x3), .second, .val (.long x4), .second, .val (.long qq), .second, .val (.long kk), .second, .val (.long (qq * kk)), .second, .val (.long ((1000 : Int64) * kk)), .second, rv b1, iv 1, .val (.long z5), .second, rv b6, .val (.long z15), .second, .val (.long z16), .second, .val (.double (FP.ddiv (FP.dmul (FP.l2d z15) (4652007308841189376 : UInt64)) (FP.l2d z5))), .second, .val (.double (FP.ddiv (FP.dmul (FP.l2d z16) (4652007308841189376 : UInt64)) (FP.l2d z5))), .second, iv 1, .unset] [] (fun t k => XS.ifNo X18.here hx rfl (hb hby at_149) rfl ((if0 _ _).trans (flt (own_sn hc142_19 hn2)).2.2.1) k) ?_
    refine own_go T18 m 153 #[iv x0, iv x1, .val (.long x2), .second, .val (.long x3), .second, .val (.long x4), .second, .val (.long qq), .second, .val (.long kk), .second, .val (.long (qq * kk)), .second, .val (.long ((1000 : Int64) * kk)), .second, rv b1, iv 1, .val (.long z5), .second, rv b6, .val (.long z15), .second, .val (.long z16), .second, .val (.double (FP.ddiv (FP.dmul (FP.l2d z15) (4652007308841189376 : UInt64)) (FP.l2d z5))), .second, .val (.double (FP.ddiv (FP.dmul (FP.l2d z16) (4652007308841189376 : UInt64)) (FP.l2d z5))), .second, iv 1, .unset] [(.int 1)] (fun t k => XS.iconst X18.here hx rfl (hb hby at_152) k) ?_
    refine own_go T18 m 157 #[iv x0, iv x1, .val (.long x2), .second, .val (.long x3), .second, .val (.long x4), .second, .val (.long qq), .second, .val (.long kk), .second, .val (.long (qq * kk)), .second, .val (.long ((1000 : Int64) * kk)), .second, rv b1, iv 1, .val (.long z5), .second, rv b6, .val (.long z15), .second, .val (.long z16), .second, .val (.double (FP.ddiv (FP.dmul (FP.l2d z15) (4652007308841189376 : UInt64)) (FP.l2d z5))), .second, .val (.double (FP.ddiv (FP.dmul (FP.l2d z16) (4652007308841189376 : UInt64)) (FP.l2d z5))), .second, iv 1, .unset] [(.int 1)] (fun t k => XS.goto X18.here hx rfl (pc0 := 153) (pc' := 157) rfl (hb hby at_153) (by decide) (by decide) k) ?_
    refine own_go T18 m 159 #[iv x0, iv x1, .val (.long x2), .second, .val (.long x3), .second, .val (.long x4), .second, .val (.long qq), .second, .val (.long kk), .second, .val (.long (qq * kk)), .second, .val (.long ((1000 : Int64) * kk)), .second, rv b1, iv 1, .val (.long z5), .second, rv b6, .val (.long z15), .second, .val (.long z16), .second, .val (.double (FP.ddiv (FP.dmul (FP.l2d z15) (4652007308841189376 : UInt64)) (FP.l2d z5))), .second, .val (.double (FP.ddiv (FP.dmul (FP.l2d z16) (4652007308841189376 : UInt64)) (FP.l2d z5))), .second, iv 1, iv 1] [] (fun t k => XS.istore X18.here hx rfl (hb hby at_157) rfl rfl k) ?_
    refine own_go T18 m 161 #[iv x0, iv x1, .val (.long x2), .second, .val (.long x3), .second, .val (.long x4), .second, .val (.long qq), .second, .val (.long kk), .second, .val (.long (qq * kk)), .second, .val (.long ((1000 : Int64) * kk)), .second, rv b1, iv 1, .val (.long z5), .second, rv b6, .val (.long z15), .second, .val (.long z16), .second, .val (.double (FP.ddiv (FP.dmul (FP.l2d z15) (4652007308841189376 : UInt64)) (FP.l2d z5))), .second, .val (.double (FP.ddiv (FP.dmul (FP.l2d z16) (4652007308841189376 : UInt64)) (FP.l2d z5))), .second, iv 1, iv 1] [(.int 1)] (fun t k => XS.iload X18.here hx rfl (hb hby at_159) rfl k) ?_
    refine own_go T18 m 164 #[iv x0, iv x1, .val (.long x2), .second, .val (.long x3), .second, .val (.long x4), .second, .val (.long qq), .second, .val (.long kk), .second, .val (.long (qq * kk)), .second, .val (.long ((1000 : Int64) * kk)), .second, rv b1, iv 1, .val (.long z5), .second, rv b6, .val (.long z15), .second, .val (.long z16), .second, .val (.double (FP.ddiv (FP.dmul (FP.l2d z15) (4652007308841189376 : UInt64)) (FP.l2d z5))), .second, .val (.double (FP.ddiv (FP.dmul (FP.l2d z16) (4652007308841189376 : UInt64)) (FP.l2d z5))), .second, iv 1, iv 1] [] (fun t k => XS.ifNo X18.here hx rfl (hb hby at_161) rfl ((if0 _ _).trans (feq (by decide)).1) k) ?_
    refine own_go T18 m 166 #[iv x0, iv x1, .val (.long x2), .second, .val (.long x3), .second, .val (.long x4), .second, .val (.long qq), .second, .val (.long kk), .second, .val (.long (qq * kk)), .second, .val (.long ((1000 : Int64) * kk)), .second, rv b1, iv 1, .val (.long z5), .second, rv b6, .val (.long z15), .second, .val (.long z16), .second, .val (.double (FP.ddiv (FP.dmul (FP.l2d z15) (4652007308841189376 : UInt64)) (FP.l2d z5))), .second, .val (.double (FP.ddiv (FP.dmul (FP.l2d z16) (4652007308841189376 : UInt64)) (FP.l2d z5))), .second, iv 1, iv 1] [(.int 1)] (fun t k => XS.iload X18.here hx rfl (hb hby at_164) rfl k) ?_
    refine own_go T18 m 169 #[iv x0, iv x1, .val (.long x2), .second, .val (.long x3), .second, .val (.long x4), .second, .val (.long qq), .second, .val (.long kk), .second, .val (.long (qq * kk)), .second, .val (.long ((1000 : Int64) * kk)), .second, rv b1, iv 1, .val (.long z5), .second, rv b6, .val (.long z15), .second, .val (.long z16), .second, .val (.double (FP.ddiv (FP.dmul (FP.l2d z15) (4652007308841189376 : UInt64)) (FP.l2d z5))), .second, .val (.double (FP.ddiv (FP.dmul (FP.l2d z16) (4652007308841189376 : UInt64)) (FP.l2d z5))), .second, iv 1, iv 1] [] (fun t k => XS.ifNo X18.here hx rfl (hb hby at_166) rfl ((if0 _ _).trans (feq (by decide)).1) k) ?_
    refine own_go T18 m 171 #[iv x0, iv x1, .val (.long x2), .second, .val (.long x3), .second, .val (.long x4), .second, .val (.long qq), .second, .val (.long kk), .second, .val (.long (qq * kk)), .second, .val (.long ((1000 : Int64) * kk)), .second, rv b1, iv 1, .val (.long z5), .second, rv b6, .val (.long z15), .second, .val (.long z16), .second, .val (.double (FP.ddiv (FP.dmul (FP.l2d z15) (4652007308841189376 : UInt64)) (FP.l2d z5))), .second, .val (.double (FP.ddiv (FP.dmul (FP.l2d z16) (4652007308841189376 : UInt64)) (FP.l2d z5))), .second, iv 1, iv 1] [(.int 1)] (fun t k => XS.iload X18.here hx rfl (hb hby at_169) rfl k) ?_
    refine own_go T18 m 174 #[iv x0, iv x1, .val (.long x2), .second, .val (.long x3), .second, .val (.long x4), .second, .val (.long qq), .second, .val (.long kk), .second, .val (.long (qq * kk)), .second, .val (.long ((1000 : Int64) * kk)), .second, rv b1, iv 1, .val (.long z5), .second, rv b6, .val (.long z15), .second, .val (.long z16), .second, .val (.double (FP.ddiv (FP.dmul (FP.l2d z15) (4652007308841189376 : UInt64)) (FP.l2d z5))), .second, .val (.double (FP.ddiv (FP.dmul (FP.l2d z16) (4652007308841189376 : UInt64)) (FP.l2d z5))), .second, iv 1, iv 1] [] (fun t k => XS.ifNo X18.here hx rfl (hb hby at_171) rfl ((if0 _ _).trans (feq (by decide)).1) k) ?_
    refine own_go T18 m 175 #[iv x0, iv x1, .val (.long x2), .second, .val (.long x3), .second, .val (.long x4), .second, .val (.long qq), .second, .val (.long kk), .second, .val (.long (qq * kk)), .second, .val (.long ((1000 : Int64) * kk)), .second, rv b1, iv 1, .val (.long z5), .second, rv b6, .val (.long z15), .second, .val (.long z16), .second, .val (.double (FP.ddiv (FP.dmul (FP.l2d z15) (4652007308841189376 : UInt64)) (FP.l2d z5))), .second, .val (.double (FP.ddiv (FP.dmul (FP.l2d z16) (4652007308841189376 : UInt64)) (FP.l2d z5))), .second, iv 1, iv 1] [(.int 1)] (fun t k => XS.iconst X18.here hx rfl (hb hby at_174) k) ?_
    refine own_go T18 m 179 #[iv x0, iv x1, .val (.long x2), .second, .val (.long x3), .second, .val (.long x4), .second, .val (.long qq), .second, .val (.long kk), .second, .val (.long (qq * kk)), .second, .val (.long ((1000 : Int64) * kk)), .second, rv b1, iv 1, .val (.long z5), .second, rv b6, .val (.long z15), .second, .val (.long z16), .second, .val (.double (FP.ddiv (FP.dmul (FP.l2d z15) (4652007308841189376 : UInt64)) (FP.l2d z5))), .second, .val (.double (FP.ddiv (FP.dmul (FP.l2d z16) (4652007308841189376 : UInt64)) (FP.l2d z5))), .second, iv 1, iv 1] [(.int 1)] (fun t k => XS.goto X18.here hx rfl (pc0 := 175) (pc' := 179) rfl (hb hby at_175) (by decide) (by decide) k) ?_
    refine own_retZ X18 hx hlk hret (by decide) (hb hby at_179) (by decide) (by decide) ?_
    exact ⟨rfl, N10⟩
set_option maxRecDepth 65536 in
set_option maxHeartbeats 40000000 in
theorem comes_1 {Post : Tables → Env → Array Value → State → Outcome → State → Prop} (hpost : ∀ tb e args s v u, (limb_1_1.after args s (.returned v) u = true ∧ limb_1_2.after args s (.returned v) u = true ∧ True) → FrameEnd s (.returned v) u (Jvm.fieldLocs frame_1_writes args s ++ Jvm.arrayLocs frame_1_arrays args s ++ Jvm.staticLocs frame_1_statics s) 16 128 → Post tb e args s (.returned v) u) :
    ArmFor flags0 classFile x code maxLocals ret World_1 tables_1 room_1 Calls_1 rest_1 Pre_1 Post := by
  intro l hfl _ _ p e ha hc hk s m args below hf hA hF happ hP
  obtain ⟨hcalls, hrest, hpre⟩ := hP
  obtain ⟨-, -, -, hnamed, -, -, -, hat⟩ := (Spec.applies_iff hf).mp happ
  obtain ⟨hg, hn⟩ := and_e (Cond.before_iff.mp (show (Jvm.Cond.and given_1 narrow_1).before args s = true from hpre))
  obtain ⟨gg1, gg2⟩ := and_e hg
  obtain ⟨gg3, gg4⟩ := and_e gg2
  obtain ⟨gg5, gg6⟩ := and_e gg4
  obtain ⟨gg7, gg8⟩ := and_e gg6
  obtain ⟨gg9, gg10⟩ := and_e gg8
  obtain ⟨w0, w1, w2, w3, w4, rfl⟩ : ∃ w0 w1 w2 w3 w4 : Value, args = #[w0, w1, w2, w3, w4] := by
    have hs : args.size = 5 := by simpa [Cond.value, given_1] using gg1
    obtain ⟨L⟩ := args
    match L, hs with
    | [w0, w1, w2, w3, w4], _ => exact ⟨w0, w1, w2, w3, w4, rfl⟩
  have hw := fun d (hd : d ∈ tables_1) => atoms_spec (ws := Jvm.Cond.code x code maxLocals ret :: tables_1) hat d (List.mem_cons_of_mem _ hd)
  have hfit : Fit s := fun {y c} hc i hi => by
    obtain ⟨ha, rfl⟩ := Array.getElem?_eq_some_iff.mp hc
    have q := List.all_eq_true.mp ((Array.all_eq_true_iff_forall_mem.mp hF) _ (Array.getElem_mem ha)) i (List.mem_range.mpr hi)
    simpa [Array.getElem?_eq_getElem hi] using q
  obtain ⟨i0, ei0⟩ := is_v gg3
  obtain rfl : w0 = (.int i0) := Option.some.inj ei0
  obtain ⟨i1, ei1⟩ := is_v gg5
  obtain rfl : w1 = (.int i1) := Option.some.inj ei1
  obtain ⟨i2, ei2⟩ := isL_v gg7
  obtain rfl : w2 = (.long i2) := Option.some.inj ei2
  obtain ⟨i3, ei3⟩ := isL_v gg9
  obtain rfl : w3 = (.long i3) := Option.some.inj ei3
  obtain ⟨i4, ei4⟩ := isL_v gg10
  obtain rfl : w4 = (.long i4) := Option.some.inj ei4
  obtain ⟨n, o, h1, h2, h3, _, L, rfl, ⟨rfl, N⟩, hq⟩ := rm0 l s _ hw tables_1 i0 i1 i2 i3 i4 s.heap s.heap.size (Nat.le_refl _) p e ha hc hk s m _ below hf ((Spec.applies_iff_loose hf).mp happ).1 ⟨rfl, State.Warmed39.refl s, rfl⟩ trivial
  refine ⟨n, _, h1, h2, h3, hpost _ _ _ _ _ _ ⟨Cond.after_iff.mpr rfl, Cond.after_iff.mpr (eq_i res_at (Term.int_eval (1)) rfl), trivial⟩ ⟨hq.1, hq.2.1, (hq.2.2.sift fun y hy => Or.inr (N y hy)).mono (by decide) (by decide)⟩⟩
theorem main_1_1 : Claimed_1_1 := comes_1 fun _ _ _ _ _ _ h hF => ⟨h.1, hF⟩
theorem main_1_2 : Claimed_1_2 := comes_1 fun _ _ _ _ _ _ h hF => ⟨h.2.1, hF⟩
end Jvm.Pilot.@@N@@
namespace Jvm.Pilot.@@N@@
open Jvm Jvm.ClassFile Sem Op Lib Jvm.Free Jvm.Stand Jvm.Pilot.@@N@@.Jvm.D
/-! MADE BY PROGRAM (witnessworld.py) out of the Statement's table words and the real class files: 11 classes; the members and pool entries that the words name. The judged class is class 1, her method 1. -/
namespace start1
open Jvm.ClassFile
def u (s : String) : CpInfo := .utf8 (stringToUtf16 s)
/-- a pool by its gaps: so many unusable entries, then the entry; so many at the end -/
def gap : Nat → List CpInfo → List CpInfo
  | 0, r => r
  | n + 1, r => .unusable :: gap n r
def poolList (es : List (Nat × CpInfo)) (last : Nat) : List CpInfo := es.foldr (fun e r => gap e.1 (e.2 :: r)) (gap last [])
def pool (es : List (Nat × CpInfo)) (last : Nat) : Array CpInfo := ⟨poolList es last⟩
def fileOf (pool : Array CpInfo) (this : Nat) (attrs : Array Attribute := #[]) (ms : Array MethodInfo := #[]) (fl : Nat := 33) (sup : Nat := 0) (ifs : Array Nat := #[]) (fds : Array FieldInfo := #[]) : ClassFile where
  minorVersion := 0
  majorVersion := 65
  constantPool := pool
  accessFlags := fl
  thisClass := this
  superClass := sup
  interfaces := ifs
  fields := fds
  methods := ms
  attributes := attrs
def plain (name : String) (sup : Option ClassId) : Class where
  name := name
  kind := .ordinary
  loader := none
  accessFlags := 33
  super := sup
  interfaces := #[]
  cf := none
  fields := #[]
  methods := #[]
  instanceTypes := #[]
  staticTypes := #[]
  resolved := #[]
  callSites := []
  init := .initialized
  statics := none
  mirror := none

def pool0 : Array CpInfo := pool [(5, u "<init>"), (0, u "()V"), (1, .class_ 10), (1, u "java/lang/Object")] 113

def k0c0 : Code := { maxStack := 0, maxLocals := 1, code := object_method_1_code, exceptionTable := #[], attributes := #[] }
def k0m0 : Method := { name := "<init>", desc := "()V", sig := { parameters := [], returnType := none }, accessFlags := 1, code := some k0c0 }
/-- java/lang/Object -/
def k0 : Class := { plain "java/lang/Object" none with
  accessFlags := 33
  interfaces := #[]
  cf := some (fileOf pool0 8 #[] #[{ accessFlags := 1, nameIndex := 5, descriptorIndex := 6, attributes := #[] }] 33 0 #[] #[])
  fields := #[]
  methods := #[k0m0]
  instanceTypes := #[]
  staticTypes := #[]
  resolved := Array.replicate 124 none
  statics := none }

def pool1 : Array CpInfo := pool [(2, .class_ 4), (1, u "java/lang/Object"), (0, u "<init>"), (0, u "()V"), (0, .long 1000), (1, .class_ 10), (0, u "com/example/substring_search/substringsearch/benchmark/Measurement"), (0, .methodref 9 12), (0, .nameAndType 5 13), (0, u "(JJ)V"), (0, .methodref 9 15), (0, .nameAndType 16 17), (0, u "mbPerSecond"), (0, u "(J)D"), (2, .long 9223372036854775807), (1, .methodref 23 24), (0, .class_ 25), (0, .nameAndType 26 27), (0, u "java/lang/Math"), (0, u "max"), (0, u "(JJ)J"), (0, .methodref 23 29), (0, .nameAndType 30 27), (0, u "min"), (0, .class_ 32), (0, u "com/example/substring_search/substringsearch/benchmark/MeasurementMbPerSecondPinLaw"), (2, u "law"), (0, u "(IIJJJ)Z")] 3

def k1m0 : Method := { name := "<init>", desc := "()V", sig := { parameters := [], returnType := none }, accessFlags := 1, code := none }
def k1c1 : Code := { maxStack := 6, maxLocals := 31, code := code, exceptionTable := #[], attributes := #[] }
def k1m1 : Method := { name := "law", desc := "(IIJJJ)Z", sig := { parameters := [.int, .int, .long, .long, .long], returnType := some .boolean }, accessFlags := 9, code := some k1c1 }
/-- com/example/substring_search/substringsearch/benchmark/MeasurementMbPerSecondPinLaw -/
def k1 : Class := { plain "com/example/substring_search/substringsearch/benchmark/MeasurementMbPerSecondPinLaw" (some 0) with
  accessFlags := 49
  interfaces := #[]
  cf := some (fileOf pool1 31 #[] #[{ accessFlags := 1, nameIndex := 5, descriptorIndex := 6, attributes := #[] }, { accessFlags := 9, nameIndex := 35, descriptorIndex := 36, attributes := #[] }] 49 2 #[] #[])
  fields := #[]
  methods := #[k1m0, k1m1]
  instanceTypes := #[]
  staticTypes := #[]
  resolved := Array.replicate 40 none
  statics := none }

def pool2 : Array CpInfo := pool [(1, .methodref 2 3), (0, .class_ 4), (0, .nameAndType 5 6), (0, u "java/lang/Object"), (0, u "<init>"), (0, u "()V"), (0, .class_ 8), (0, u "java/lang/Record")] 13

def k2c0 : Code := { maxStack := 1, maxLocals := 1, code := jdk_30_method_1_code, exceptionTable := #[], attributes := #[] }
def k2m0 : Method := { name := "<init>", desc := "()V", sig := { parameters := [], returnType := none }, accessFlags := 4, code := some k2c0 }
/-- java/lang/Record -/
def k2 : Class := { plain "java/lang/Record" (some 0) with
  accessFlags := 1057
  interfaces := #[]
  cf := some (fileOf pool2 7 #[] #[{ accessFlags := 4, nameIndex := 5, descriptorIndex := 6, attributes := #[] }] 1057 2 #[] #[])
  fields := #[]
  methods := #[k2m0]
  instanceTypes := #[]
  staticTypes := #[]
  resolved := Array.replicate 22 none
  statics := none }

def pool3 : Array CpInfo := pool [(1, .methodref 2 3), (0, .class_ 4), (0, .nameAndType 5 6), (0, u "java/lang/Record"), (0, u "<init>"), (0, u "()V"), (0, .fieldref 8 9), (0, .class_ 10), (0, .nameAndType 11 12), (0, u "com/example/substring_search/substringsearch/benchmark/Measurement"), (0, u "count"), (0, u "J"), (0, .fieldref 8 14), (0, .nameAndType 15 12), (0, u "medianNanos"), (25, u "(JJ)V"), (3, .double 4652007308841189376), (23, u "mbPerSecond"), (0, u "(J)D")] 34

def k3c0 : Code := { maxStack := 3, maxLocals := 5, code := prog_27_method_1_code, exceptionTable := #[], attributes := #[] }
def k3m0 : Method := { name := "<init>", desc := "(JJ)V", sig := { parameters := [.long, .long], returnType := none }, accessFlags := 0, code := some k3c0 }
def k3c1 : Code := { maxStack := 4, maxLocals := 3, code := prog_27_method_4_code, exceptionTable := #[], attributes := #[] }
def k3m1 : Method := { name := "mbPerSecond", desc := "(J)D", sig := { parameters := [.long], returnType := some .double }, accessFlags := 0, code := some k3c1 }
/-- com/example/substring_search/substringsearch/benchmark/Measurement -/
def k3 : Class := { plain "com/example/substring_search/substringsearch/benchmark/Measurement" (some 2) with
  accessFlags := 48
  interfaces := #[]
  cf := some (fileOf pool3 8 #[] #[{ accessFlags := 0, nameIndex := 5, descriptorIndex := 41, attributes := #[] }, { accessFlags := 0, nameIndex := 69, descriptorIndex := 70, attributes := #[] }] 48 2 #[] #[{ accessFlags := 18, nameIndex := 11, descriptorIndex := 12, attributes := #[] }, { accessFlags := 18, nameIndex := 15, descriptorIndex := 12, attributes := #[] }])
  fields := #[{ name := "count", type := .long, accessFlags := 18, slot := 0, constantValue := 0 }, { name := "medianNanos", type := .long, accessFlags := 18, slot := 1, constantValue := 0 }]
  methods := #[k3m0, k3m1]
  instanceTypes := #[.long, .long]
  staticTypes := #[]
  resolved := Array.replicate 105 none
  statics := none }

def pool4 : Array CpInfo := pool [(1, .class_ 2), (0, u "java/lang/Math"), (1, .class_ 6), (1, u "java/lang/Object"), (0, u "<init>"), (0, u "()V"), (89, .class_ 100), (1, u "java/lang/Math$RandomNumberGeneratorHolder"), (20, u "(JJ)J"), (50, u "negativeZeroFloatBits"), (0, u "J"), (2, u "negativeZeroDoubleBits"), (21, u "max"), (2, u "min"), (43, u "$assertionsDisabled"), (0, u "Z"), (91, u "twoToTheDoubleScaleDown"), (0, u "D"), (4, u "twoToTheDoubleScaleUp"), (9, u "E"), (3, u "PI"), (2, u "TAU"), (2, u "DEGREES_TO_RADIANS"), (0, u "RADIANS_TO_DEGREES")] 94

def k4m0 : Method := { name := "<init>", desc := "()V", sig := { parameters := [], returnType := none }, accessFlags := 2, code := none }
def k4c1 : Code := { maxStack := 4, maxLocals := 4, code := jdk_29_method_66_code, exceptionTable := #[], attributes := #[] }
def k4m1 : Method := { name := "max", desc := "(JJ)J", sig := { parameters := [.long, .long], returnType := some .long }, accessFlags := 9, code := some k4c1 }
def k4c2 : Code := { maxStack := 4, maxLocals := 4, code := jdk_29_method_70_code, exceptionTable := #[], attributes := #[] }
def k4m2 : Method := { name := "min", desc := "(JJ)J", sig := { parameters := [.long, .long], returnType := some .long }, accessFlags := 9, code := some k4c2 }
/-- java/lang/Math -/
def k4 : Class := { plain "java/lang/Math" (some 0) with
  accessFlags := 49
  interfaces := #[]
  cf := some (fileOf pool4 1 #[.nestMembers #[98]] #[{ accessFlags := 2, nameIndex := 7, descriptorIndex := 8, attributes := #[] }, { accessFlags := 9, nameIndex := 198, descriptorIndex := 121, attributes := #[] }, { accessFlags := 9, nameIndex := 201, descriptorIndex := 121, attributes := #[] }] 49 4 #[] #[{ accessFlags := 25, nameIndex := 354, descriptorIndex := 339, attributes := #[] }, { accessFlags := 25, nameIndex := 358, descriptorIndex := 339, attributes := #[] }, { accessFlags := 25, nameIndex := 361, descriptorIndex := 339, attributes := #[] }, { accessFlags := 26, nameIndex := 364, descriptorIndex := 339, attributes := #[] }, { accessFlags := 26, nameIndex := 365, descriptorIndex := 339, attributes := #[] }, { accessFlags := 26, nameIndex := 172, descriptorIndex := 173, attributes := #[] }, { accessFlags := 26, nameIndex := 176, descriptorIndex := 173, attributes := #[] }, { accessFlags := 8, nameIndex := 344, descriptorIndex := 339, attributes := #[] }, { accessFlags := 8, nameIndex := 338, descriptorIndex := 339, attributes := #[] }, { accessFlags := 4120, nameIndex := 245, descriptorIndex := 246, attributes := #[] }])
  fields := #[{ name := "E", type := .double, accessFlags := 25, slot := 0, constantValue := 0 }, { name := "PI", type := .double, accessFlags := 25, slot := 1, constantValue := 0 }, { name := "TAU", type := .double, accessFlags := 25, slot := 2, constantValue := 0 }, { name := "DEGREES_TO_RADIANS", type := .double, accessFlags := 26, slot := 3, constantValue := 0 }, { name := "RADIANS_TO_DEGREES", type := .double, accessFlags := 26, slot := 4, constantValue := 0 }, { name := "negativeZeroFloatBits", type := .long, accessFlags := 26, slot := 5, constantValue := 0 }, { name := "negativeZeroDoubleBits", type := .long, accessFlags := 26, slot := 6, constantValue := 0 }, { name := "twoToTheDoubleScaleUp", type := .double, accessFlags := 8, slot := 7, constantValue := 0 }, { name := "twoToTheDoubleScaleDown", type := .double, accessFlags := 8, slot := 8, constantValue := 0 }, { name := "$assertionsDisabled", type := .boolean, accessFlags := 4120, slot := 9, constantValue := 0 }]
  methods := #[k4m0, k4m1, k4m2]
  instanceTypes := #[]
  staticTypes := #[.double, .double, .double, .double, .double, .long, .long, .double, .double, .boolean]
  resolved := Array.replicate 460 none
  statics := none }

def pool5 : Array CpInfo := pool [(1, u "java/lang/Cloneable"), (0, .class_ 1), (0, u "java/lang/Object"), (0, .class_ 3)] 3

/-- java/lang/Cloneable -/
def k5 : Class := { plain "java/lang/Cloneable" (some 0) with
  accessFlags := 1537
  interfaces := #[]
  cf := some (fileOf pool5 2 #[] #[] 1537 4 #[] #[])
  fields := #[]
  methods := #[]
  instanceTypes := #[]
  staticTypes := #[]
  resolved := Array.replicate 8 none
  statics := none }

def pool6 : Array CpInfo := pool [(1, u "java/io/Serializable"), (0, .class_ 1), (0, u "java/lang/Object"), (0, .class_ 3)] 3

/-- java/io/Serializable -/
def k6 : Class := { plain "java/io/Serializable" (some 0) with
  accessFlags := 1537
  interfaces := #[]
  cf := some (fileOf pool6 2 #[] #[] 1537 4 #[] #[])
  fields := #[]
  methods := #[]
  instanceTypes := #[]
  staticTypes := #[]
  resolved := Array.replicate 8 none
  statics := none }

/-- the primitive byte -/
def k7 : Class := { plain "byte" none with kind := .primitive 'B', accessFlags := 0x411 }
/-- [B -/
def k8 : Class := { plain "[B" (some 0) with kind := .array 7 .byte, interfaces := #[5, 6], accessFlags := 1041 }

/-- the primitive int -/
def k9 : Class := { plain "int" none with kind := .primitive 'I', accessFlags := 0x411 }
/-- [I -/
def k10 : Class := { plain "[I" (some 0) with kind := .array 9 .int, interfaces := #[5, 6], accessFlags := 1041 }

def heap : Heap := #[]
def classes : Array Class := #[k0, k1, k2, k3, k4, k5, k6, k7, k8, k9, k10]
def interned : List (Array UInt16 × Addr) := []
def slotsUsed : Nat := 0
def theMethod : MethodId := ⟨1, 1⟩
def args0 : Array Value := #[.int 0, .int 0, .long 0, .long 0, .long 0]
def aboutOver (below : List Frame) : State where
  vm := { classes := classes, interned := interned.toArray }
  heap := heap
  slotsUsed := slotsUsed
  threads := #[{ frames := .invoking theMethod args0 :: below }]
def below0 : List Frame := [.native { method := ⟨0, 0⟩, args := #[] }]
def about1 : State := aboutOver below0
def p0 : Program := .bare "" "" ""
def e0 : Env := launch0.env 0 0 0
theorem w_frames : about1.frames = Frame.invoking theMethod args0 :: below0 := rfl
set_option maxRecDepth 65536 in
theorem w_args : argsFit about1.vm theMethod args0 = true := by decide +kernel
set_option maxRecDepth 65536 in
theorem w_heap : heapFits about1 = true := by decide +kernel
set_option maxRecDepth 65536 in
theorem w_runnable : about1.curStatus? = some .runnable := by decide +kernel
set_option maxRecDepth 65536 in
theorem w_alone : about1.alone = true := by decide +kernel
set_option maxRecDepth 65536 in
theorem w_named : about1.methodNamed? x = some theMethod := by decide +kernel
set_option maxRecDepth 65536 in
theorem w_hears : about1.hears theMethod below0 = true := by decide +kernel
set_option maxRecDepth 65536 in
theorem w_ripe : about1.ripe theMethod args0 below0 = true := by decide +kernel
theorem w_running : about1.status = .running := rfl
set_option maxRecDepth 65536 in
theorem w_room : about1.hasRoom e0.platform room_1 = true :=
  launch0.hasRoom_least _ room_1 (by decide +kernel) (by decide +kernel) (by decide +kernel) (by decide +kernel) (by decide +kernel) (by decide +kernel)
theorem allAtoms_all (ts : List Jvm.Cond) (a : Array Jvm.Value) (st : Jvm.State) : (allAtoms ts).before a st = ts.all (fun c => c.before a st) := by
  induction ts with
  | nil => rfl
  | cons c t ih =>
    show (Jvm.Cond.and c (allAtoms t)).before a st = _
    rw [Jvm.Cond.before_and, ih, List.all_cons]
def words1 : List Jvm.Cond := Jvm.Cond.code x code maxLocals ret :: tables_1
/-- a 'code' word, met by the world's own term for the bytes: nothing is compared byte by byte -/
theorem code_word {y : MethodName} {bytes : ByteArray} {mx : Nat} {rt : Option FieldType} {a : Array Value} {s : State} {m : MethodId} {meth : Method} {c : Code} (h1 : s.methodNamed? y = some m) (h2 : s.vm.method? m = some meth) (h3 : meth.code = some c) (h4 : c.code = bytes)
    (h5 : (c.maxLocals == mx && c.exceptionTable.isEmpty && decide (c.maxStack ≤ mostOperands) && decide (meth.sig.returnType = rt) && !meth.locks && decide (parseMethodDescriptor y.desc = some meth.sig)) = true) : (Jvm.Cond.code y bytes mx rt).before a s = true := by
  simp only [Bool.and_eq_true, beq_iff_eq, Bool.not_eq_true', decide_eq_true_eq] at h5
  obtain ⟨⟨⟨⟨⟨g1, g2⟩, g3⟩, g4⟩, g5⟩, g6⟩ := h5
  simp [Cond.before, Cond.holds, Cond.value, h1, h2, h3, h4, g1, g2, g3, g4, g5, g6]
def isCode : Jvm.Cond → Bool
  | .code _ _ _ _ => true
  | _ => false
theorem all_split {L : List Jvm.Cond} {P : Jvm.Cond → Bool} (h1 : L.all (fun c => isCode c || P c) = true) (h2 : ∀ c ∈ L.filter isCode, P c = true) : L.all P = true := by
  refine List.all_eq_true.mpr fun c hc => ?_
  have h := List.all_eq_true.mp h1 c hc
  rcases Bool.eq_false_or_eq_true (isCode c) with hi | hi
  · exact h2 c (List.mem_filter.mpr ⟨hc, hi⟩)
  · simpa [hi] using h
set_option maxRecDepth 65536 in
theorem w_c0 : (Jvm.Cond.code x code maxLocals ret).before args0 about1 = true := code_word (m := ⟨1, 1⟩) (meth := k1m1) (c := k1c1) (by decide +kernel) rfl rfl rfl (by decide +kernel)
set_option maxRecDepth 65536 in
theorem w_c1 : (Jvm.Cond.code ({ cls := "com/example/substring_search/substringsearch/benchmark/Measurement", name := "<init>", desc := "(JJ)V" } : Jvm.MethodName) prog_27_method_1_code (5 : Nat) (Option.none : Option Jvm.ClassFile.FieldType)).before args0 about1 = true := code_word (m := ⟨3, 0⟩) (meth := k3m0) (c := k3c0) (by decide +kernel) rfl rfl rfl (by decide +kernel)
set_option maxRecDepth 65536 in
theorem w_c2 : (Jvm.Cond.code ({ cls := "java/lang/Record", name := "<init>", desc := "()V" } : Jvm.MethodName) jdk_30_method_1_code (1 : Nat) (Option.none : Option Jvm.ClassFile.FieldType)).before args0 about1 = true := code_word (m := ⟨2, 0⟩) (meth := k2m0) (c := k2c0) (by decide +kernel) rfl rfl rfl (by decide +kernel)
set_option maxRecDepth 65536 in
theorem w_c3 : (Jvm.Cond.code ({ cls := "java/lang/Object", name := "<init>", desc := "()V" } : Jvm.MethodName) object_method_1_code (1 : Nat) (Option.none : Option Jvm.ClassFile.FieldType)).before args0 about1 = true := code_word (m := ⟨0, 0⟩) (meth := k0m0) (c := k0c0) (by decide +kernel) rfl rfl rfl (by decide +kernel)
set_option maxRecDepth 65536 in
theorem w_c4 : (Jvm.Cond.code ({ cls := "com/example/substring_search/substringsearch/benchmark/Measurement", name := "mbPerSecond", desc := "(J)D" } : Jvm.MethodName) prog_27_method_4_code (3 : Nat) (Option.some Jvm.ClassFile.FieldType.double)).before args0 about1 = true := code_word (m := ⟨3, 1⟩) (meth := k3m1) (c := k3c1) (by decide +kernel) rfl rfl rfl (by decide +kernel)
set_option maxRecDepth 65536 in
theorem w_c5 : (Jvm.Cond.code ({ cls := "java/lang/Math", name := "max", desc := "(JJ)J" } : Jvm.MethodName) jdk_29_method_66_code (4 : Nat) (Option.some Jvm.ClassFile.FieldType.long)).before args0 about1 = true := code_word (m := ⟨4, 1⟩) (meth := k4m1) (c := k4c1) (by decide +kernel) rfl rfl rfl (by decide +kernel)
set_option maxRecDepth 65536 in
theorem w_c6 : (Jvm.Cond.code ({ cls := "java/lang/Math", name := "min", desc := "(JJ)J" } : Jvm.MethodName) jdk_29_method_70_code (4 : Nat) (Option.some Jvm.ClassFile.FieldType.long)).before args0 about1 = true := code_word (m := ⟨4, 2⟩) (meth := k4m2) (c := k4c2) (by decide +kernel) rfl rfl rfl (by decide +kernel)
def codes1 : List Jvm.Cond := [Jvm.Cond.code x code maxLocals ret, Jvm.Cond.code ({ cls := "com/example/substring_search/substringsearch/benchmark/Measurement", name := "<init>", desc := "(JJ)V" } : Jvm.MethodName) prog_27_method_1_code (5 : Nat) (Option.none : Option Jvm.ClassFile.FieldType), Jvm.Cond.code ({ cls := "java/lang/Record", name := "<init>", desc := "()V" } : Jvm.MethodName) jdk_30_method_1_code (1 : Nat) (Option.none : Option Jvm.ClassFile.FieldType), Jvm.Cond.code ({ cls := "java/lang/Object", name := "<init>", desc := "()V" } : Jvm.MethodName) object_method_1_code (1 : Nat) (Option.none : Option Jvm.ClassFile.FieldType), Jvm.Cond.code ({ cls := "com/example/substring_search/substringsearch/benchmark/Measurement", name := "mbPerSecond", desc := "(J)D" } : Jvm.MethodName) prog_27_method_4_code (3 : Nat) (Option.some Jvm.ClassFile.FieldType.double), Jvm.Cond.code ({ cls := "java/lang/Math", name := "max", desc := "(JJ)J" } : Jvm.MethodName) jdk_29_method_66_code (4 : Nat) (Option.some Jvm.ClassFile.FieldType.long), Jvm.Cond.code ({ cls := "java/lang/Math", name := "min", desc := "(JJ)J" } : Jvm.MethodName) jdk_29_method_70_code (4 : Nat) (Option.some Jvm.ClassFile.FieldType.long)]
set_option maxRecDepth 65536 in
theorem codes_eq : words1.filter isCode = codes1 := rfl
theorem w_codes : ∀ c ∈ words1.filter isCode, c.before args0 about1 = true := by
  rw [codes_eq]
  intro c hc
  simp only [codes1, List.mem_cons, List.not_mem_nil, or_false] at hc
  rcases hc with rfl | rfl | rfl | rfl | rfl | rfl | rfl
  · exact w_c0
  · exact w_c1
  · exact w_c2
  · exact w_c3
  · exact w_c4
  · exact w_c5
  · exact w_c6
set_option maxRecDepth 65536 in
theorem w_t1 : (words1.take 24).all (fun c => isCode c || c.before args0 about1) = true := by decide +kernel
set_option maxRecDepth 65536 in
theorem w_t2 : (words1.drop 24).all (fun c => isCode c || c.before args0 about1) = true := by decide +kernel
theorem w_tables : (allAtoms (Jvm.Cond.code x code maxLocals ret :: tables_1)).before args0 about1 = true := by
  rw [allAtoms_all]
  show words1.all (fun c => c.before args0 about1) = true
  refine all_split ?_ w_codes
  rw [← List.take_append_drop 24 words1, List.all_append, w_t1, w_t2]
  rfl
set_option maxRecDepth 65536 in
theorem w_case : (Jvm.Cond.and given_1 narrow_1).before args0 about1 = true := by decide +kernel
theorem w_applies : (headSpec (Jvm.Cond.code x code maxLocals ret :: tables_1) room_1).applies x e0.platform about1 = true :=
  (Spec.applies_iff w_frames).mpr ⟨w_running, w_runnable, w_alone, w_named, w_hears, w_ripe, w_room, w_tables⟩
theorem atStart : AtStart classFile x code maxLocals ret World_1 tables_1 room_1 Calls_1 rest_1 Pre_1 launch0 p0 e0 about1 theMethod args0 below0 :=
  ⟨lists_1, trivial, launch0.admits_env _ _ _, launch0.least_env, fairChoices_fair.cas, fairChoices_fair.clock, w_frames, w_args, w_heap, w_applies, trivial, trivial, w_case⟩
end start1
theorem witness_1 : WitnessClaimed_1 := ⟨start1.p0, start1.e0, start1.about1, start1.theMethod, start1.args0, start1.below0, start1.atStart⟩
end Jvm.Pilot.@@N@@
