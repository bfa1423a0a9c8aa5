import JvmDerived
import JvmDerived.Pilot.@@N@@Statement
import JvmDerived.Pilot.@@N@@Code
set_option linter.unusedVariables false
set_option linter.unusedSimpArgs false
namespace Jvm.RoadKit
open Sem ClassFile Op Lib Jvm.Stand Jvm.Free Jvm.LawKit
section OwnKit
variable {p : Program} {l : Launch} {e : Env} {R : Room} {s : State} {m : MethodId} {args : Array Value} {below : List Frame} {meth : Method} {c : Code} {T : State} {locs : List Loc} {cells slots : Nat} {Z : State} {a0 : Array Value} {h : Heap}
abbrev OwnP : Type := Option Value → Heap → List Loc → Prop
/-- from the state A the run comes back with what P says -/
def OwnG (tb : Tables) (e : Env) (below : List Frame) (s : State) (P : OwnP) (rc rs : Nat) (A : State) : Prop :=
  ∃ s₂ o, Steps tb e below A s₂ ∧ s₂.status = .running ∧ Ended s₂ below o ∧ ∃ v L, o = .returned v ∧ P v s₂.heap L ∧ FrameEnd s o s₂ L rc rs
theorem own_go {tb : Tables} {P : OwnP} {rc rs : Nat} {A : State} (T' : State) (m' : MethodId) (pc : Nat) (Ls : Array Slot) (st : List Value) (f : ∀ t, Steps tb e below (T'.setTop (mkF m' pc Ls st)) t → Steps tb e below A t) (k : OwnG tb e below s P rc rs (T'.setTop (mkF m' pc Ls st))) : OwnG tb e below s P rc rs A := by
  obtain ⟨s₂, o, h1, h2⟩ := k
  exact ⟨s₂, o, f _ h1, h2⟩
theorem own_mono {tb : Tables} {P P' : OwnP} {rc rs : Nat} {A : State} (f : ∀ v h L, P v h L → P' v h L) (k : OwnG tb e below s P rc rs A) : OwnG tb e below s P' rc rs A := by
  obtain ⟨s₂, o, h1, h2, h3, v, L, h4, h5, h6⟩ := k
  exact ⟨s₂, o, h1, h2, h3, v, L, h4, f _ _ _ h5, h6⟩
/-- what a walk knows of the body -/
def OwnX (Z : State) (p : Program) (s : State) (m : MethodId) (meth : Method) (c : Code) (bytes : ByteArray) (maxL : Nat) (ret : Option FieldType) (own nm : String) : Prop :=
  p.tables.exec = Jvm.exec ∧ c.code = bytes ∧ c.maxLocals = maxL ∧ s.vm.findClass own = some m.cls ∧ meth.name = nm ∧ meth.sig.returnType = ret ∧ meth.locks = false ∧ Z.Warmed39 s.vm
/-- a body's contract -/
abbrev OwnC (l : Launch) (Z : State) (y : MethodName) (bytes : ByteArray) (maxL : Nat) (ret : Option FieldType) (ws : List Cond) (rm : Room) (as' : Array Value) (h0 : Heap) (P : OwnP) : Prop :=
  MetFree l y (head1 (Cond.code y bytes maxL ret :: ws) rm) (fun a U => a = as' ∧ Z.Warmed39 U.vm ∧ U.heap = h0) (fun _ _ _ _ _ => True) (fun _ U o U' => ∃ v L, o = .returned v ∧ P v U'.heap L ∧ FrameEnd U o U' L rm.cells rm.slots)
theorem own_entry {y : MethodName} {bytes : ByteArray} {maxL : Nat} {ret : Option FieldType} {ws : List Cond} {rm : Room} {as' : Array Value} {h0 : Heap} {P : OwnP} {Ls : Array Slot} (hpl : plainFor y = true) (ef : ∀ m, entryFrame m as' maxL = mkF m 0 Ls [])
    (body : ∀ (p : Program) (e : Env) (s : State) (m : MethodId) (below : List Frame) (meth : Method) (c : Code) (T : State), Stand p l e rm s m as' below meth c T [] 0 0 → OwnX Z p s m meth c bytes maxL ret y.cls y.name → T.heap = h0 → OwnG p.tables e below s P rm.cells rm.slots (T.setTop (mkF m 0 Ls []))) :
    OwnC l Z y bytes maxL ret ws rm as' h0 P := by
  refine MetFree.of_bodySF hpl hisR ?_
  intro p e s m args below meth c s₁ Bd hml0 hP hK
  obtain ⟨rfl, hZ, hh⟩ := hP
  have e0 : s₁.heap = h0 := by rw [← hh, Bd.state]; rfl
  obtain ⟨s₂, o, h1, h2⟩ := body p e s m below meth c s₁ (Stand.of_body Bd) ⟨Bd.exec, Bd.bytes, hml0, findClass_of_methodNamed Bd.named, (name_of_methodNamed Bd.named Bd.method).1, Bd.returns, Bd.notSynchronized, hZ⟩ e0
  exact ⟨s₂, o, castTop (ef m) h1, h2⟩
theorem own_ret {P : OwnP} {rc rs : Nat} (X : Stand p l e R s m args below meth c T locs cells slots) (hx : p.tables.exec = Jvm.exec) (hlk : meth.locks = false) {pc : Nat} {Ls : Array Slot} {w : Value} {t : FieldType} {i : Instr} {rest : List Value} (hret : meth.sig.returnType = some t) (hn : narrow t w = w)
    (hi : (i = .ireturn ∧ (t = .int ∨ t = .boolean ∨ t = .byte ∨ t = .char ∨ t = .short) ∧ ∃ z, w = .int z) ∨ (i = .lreturn ∧ t = .long ∧ ∃ z, w = .long z) ∨ (i = .dreturn ∧ t = .double ∧ ∃ z, w = .double z) ∨ (i = .freturn ∧ t = .float ∧ ∃ z, w = .float z) ∨ (i = .areturn ∧ t.isReference = true ∧ w.isRef = true))
    (hd : decode c.code pc = .ok (i, 1)) (hc : cells ≤ rc) (hs : slots ≤ rs) (hP : P (some w) T.heap locs) : OwnG p.tables e below s P rc rs (T.setTop (mkF m pc Ls (w :: rest))) := by
  obtain ⟨fs, hr, hrun, hended, hW, hsame⟩ := X.leave (v := some w) (fun h => by rw [hret] at h; cases h) hlk
  exact ⟨_, _, retOut X hx hret hn hi hd hr, hrun, hended, _, _, rfl, hP, ⟨_, rfl⟩, hW, hsame.mono hc hs⟩
theorem own_retI {P : OwnP} {rc rs : Nat} (X : Stand p l e R s m args below meth c T locs cells slots) (hx : p.tables.exec = Jvm.exec) (hlk : meth.locks = false) {pc : Nat} {Ls : Array Slot} {z : Int32} {rest : List Value} (hret : meth.sig.returnType = some .int)
    (hd : decode c.code pc = .ok (.ireturn, 1)) (hc : cells ≤ rc) (hs : slots ≤ rs) (hP : P (some (.int z)) T.heap locs) : OwnG p.tables e below s P rc rs (T.setTop (mkF m pc Ls (.int z :: rest))) :=
  own_ret X hx hlk hret rfl (Or.inl ⟨rfl, Or.inl rfl, z, rfl⟩) hd hc hs hP
theorem own_retZ {P : OwnP} {rc rs : Nat} (X : Stand p l e R s m args below meth c T locs cells slots) (hx : p.tables.exec = Jvm.exec) (hlk : meth.locks = false) {pc : Nat} {Ls : Array Slot} {z : Int32} {rest : List Value} (hret : meth.sig.returnType = some .boolean) (hz : z = 0 ∨ z = 1)
    (hd : decode c.code pc = .ok (.ireturn, 1)) (hc : cells ≤ rc) (hs : slots ≤ rs) (hP : P (some (.int z)) T.heap locs) : OwnG p.tables e below s P rc rs (T.setTop (mkF m pc Ls (.int z :: rest))) :=
  own_ret X hx hlk hret (by rcases hz with rfl | rfl <;> rfl) (Or.inl ⟨rfl, Or.inr (Or.inl rfl), z, rfl⟩) hd hc hs hP
theorem own_retB {P : OwnP} {rc rs : Nat} (X : Stand p l e R s m args below meth c T locs cells slots) (hx : p.tables.exec = Jvm.exec) (hlk : meth.locks = false) {pc : Nat} {Ls : Array Slot} {z : Int32} {rest : List Value} (hret : meth.sig.returnType = some .byte) (hz : narrow .byte (.int z) = .int z)
    (hd : decode c.code pc = .ok (.ireturn, 1)) (hc : cells ≤ rc) (hs : slots ≤ rs) (hP : P (some (.int z)) T.heap locs) : OwnG p.tables e below s P rc rs (T.setTop (mkF m pc Ls (.int z :: rest))) :=
  own_ret X hx hlk hret hz (Or.inl ⟨rfl, Or.inr (Or.inr (Or.inl rfl)), z, rfl⟩) hd hc hs hP
theorem own_retJ {P : OwnP} {rc rs : Nat} (X : Stand p l e R s m args below meth c T locs cells slots) (hx : p.tables.exec = Jvm.exec) (hlk : meth.locks = false) {pc : Nat} {Ls : Array Slot} {z : Int64} {rest : List Value} (hret : meth.sig.returnType = some .long)
    (hd : decode c.code pc = .ok (.lreturn, 1)) (hc : cells ≤ rc) (hs : slots ≤ rs) (hP : P (some (.long z)) T.heap locs) : OwnG p.tables e below s P rc rs (T.setTop (mkF m pc Ls (.long z :: rest))) :=
  own_ret X hx hlk hret rfl (Or.inr (Or.inl ⟨rfl, rfl, z, rfl⟩)) hd hc hs hP
theorem own_retA {P : OwnP} {rc rs : Nat} (X : Stand p l e R s m args below meth c T locs cells slots) (hx : p.tables.exec = Jvm.exec) (hlk : meth.locks = false) {pc : Nat} {Ls : Array Slot} {w : Value} {t : FieldType} {rest : List Value} (hret : meth.sig.returnType = some t) (hn : narrow t w = w) (ht : t.isReference = true) (hw : w.isRef = true)
    (hd : decode c.code pc = .ok (.areturn, 1)) (hc : cells ≤ rc) (hs : slots ≤ rs) (hP : P (some w) T.heap locs) : OwnG p.tables e below s P rc rs (T.setTop (mkF m pc Ls (w :: rest))) :=
  own_ret X hx hlk hret hn (Or.inr (Or.inr (Or.inr (Or.inr ⟨rfl, ht, hw⟩)))) hd hc hs hP
theorem own_retV {P : OwnP} {rc rs : Nat} (X : Stand p l e R s m args below meth c T locs cells slots) (hx : p.tables.exec = Jvm.exec) (hlk : meth.locks = false) {pc : Nat} {Ls : Array Slot} (hret : meth.sig.returnType = none)
    (hd : decode c.code pc = .ok (.return_, 1)) (hc : cells ≤ rc) (hs : slots ≤ rs) (hP : P none T.heap locs) : OwnG p.tables e below s P rc rs (T.setTop (mkF m pc Ls [])) := by
  obtain ⟨fs, hr, hrun, hended, hW, hsame⟩ := X.leave (v := none) (fun _ => rfl) hlk
  exact ⟨_, _, X.returnOut hx hret hd hr, hrun, hended, _, _, rfl, hP, ⟨_, rfl⟩, hW, hsame.mono hc hs⟩
theorem own_static (X : Stand p l e R s m args below meth c T locs cells slots) (hx : p.tables.exec = Jvm.exec) (hZ : Z.Warmed39 s.vm) {own : String} {index : Nat} {y : MethodName} {bytes : ByteArray} {maxL : Nat} {ret : Option FieldType} {rm : Room} {as' : Array Value} {P : OwnP}
    (hown : s.vm.findClass own = some m.cls) (w1 : (Cond.methodLink own index y).before a0 Z = true) (w2 : (Cond.static y).before a0 Z = true) (w3 : (Cond.initialized y.cls).before a0 Z = true) (w4 : (Cond.code y bytes maxL ret).before a0 Z = true) (hy : y.cls ≠ "java/lang/invoke/MethodHandle" ∧ y.cls ≠ "java/lang/invoke/VarHandle")
    (hM : OwnC l Z y bytes maxL ret [] rm as' h P) (eT : T.heap = h) {pc : Nat} {Ls : Array Slot} {argsL rest : List Value} (W : Nat) {st : List Value} (hsz : Ls.size = c.maxLocals) (hlen : ∀ sig, parseMethodDescriptor y.desc = some sig → argsL.length = sig.parameters.length) (has : argsL.toArray = as') (hst : st = argsL.reverse ++ rest) (hW : (rest.map fun v => v.category).sum ≤ W)
    (hd : decode c.code pc = .ok (.invokestatic index, 3)) (hf : rm.frames + 1 ≤ R.frames) (hl : W + (maxL + 11) + rm.locals ≤ R.locals) (hc : cells + rm.cells ≤ R.cells) (hs : slots + rm.slots ≤ R.slots) :
    ∃ v T' L, Stand p l e R s m args below meth c T' (locs ++ L) (cells + rm.cells) (slots + rm.slots) ∧ P v T'.heap L ∧ ∀ t, Steps p.tables e below (T'.setTop (mkF m (pc + 3) Ls (v.toList ++ rest))) t → Steps p.tables e below (T.setTop (mkF m pc Ls st)) t := by
  obtain ⟨v, vm₁, ⟨T', L', k', n'⟩, -, X', ⟨L, hQ, l1, l2, l3⟩, stp⟩ := Jvm.LawKit.callS X hx hown (mvT hZ w1) (mvT hZ w2) (mvT hZ w3) (mvT hZ w4) hy (backOf (W := W) hM hZ w4 w3 hf hl) (g := mkF m pc Ls st) rfl hsz (argsL := argsL) (rest := rest) hlen hst (by show 2 * 0 + _ ≤ _; omega) hd (fun _ _ => ⟨has, eT, hc, hs⟩)
  dsimp only [Pt.U, Pt.locs, Pt.cells, Pt.slots] at X' l1 l2 l3 stp hQ
  subst l1 l2 l3
  exact ⟨v, T', L, X', hQ, stp⟩
theorem own_init (X : Stand p l e R s m args below meth c T locs cells slots) (hx : p.tables.exec = Jvm.exec) (hZ : Z.Warmed39 s.vm) {own : String} {index : Nat} {y : MethodName} {bytes : ByteArray} {maxL : Nat} {rm : Room} {as' : Array Value} {P : OwnP} (hy1 : y.name = "<init>")
    (hown : s.vm.findClass own = some m.cls) (w1 : (Cond.methodLink own index y).before a0 Z = true) (w2 : (Cond.instanceMethod y).before a0 Z = true) (w3 : (Cond.initialized y.cls).before a0 Z = true) (w4 : (Cond.code y bytes maxL none).before a0 Z = true) (hy : y.cls ≠ "java/lang/invoke/MethodHandle" ∧ y.cls ≠ "java/lang/invoke/VarHandle")
    (hM : OwnC l Z y bytes maxL none [] rm as' h P) (eT : T.heap = h) {pc : Nat} {Ls : Array Slot} {a : Addr} {argsL rest : List Value} (W : Nat) {st : List Value} (hsz : Ls.size = c.maxLocals) (hlen : ∀ sig, parseMethodDescriptor y.desc = some sig → argsL.length = sig.parameters.length) (has : (.ref a :: argsL).toArray = as') (hst : st = argsL.reverse ++ .ref a :: rest) (hW : (rest.map fun v => v.category).sum ≤ W)
    (hd : decode c.code pc = .ok (.invokespecial index, 3)) (hf : rm.frames + 1 ≤ R.frames) (hl : W + (maxL + 11) + rm.locals ≤ R.locals) (hc : cells + rm.cells ≤ R.cells) (hs : slots + rm.slots ≤ R.slots) :
    ∃ v T' L, Stand p l e R s m args below meth c T' (locs ++ L) (cells + rm.cells) (slots + rm.slots) ∧ P v T'.heap L ∧ ∀ t, Steps p.tables e below (T'.setTop (mkF m (pc + 3) Ls (v.toList ++ rest))) t → Steps p.tables e below (T.setTop (mkF m pc Ls st)) t := by
  obtain ⟨v, vm₁, ⟨T', L', k', n'⟩, -, X', ⟨L, hQ, l1, l2, l3⟩, stp⟩ := X.specialBack hx hy1 hown (mvT hZ w1) (mvT hZ w2) (mvT hZ w4) hy (backOf (W := W) hM hZ w4 w3 hf hl) (g := mkF m pc Ls st) rfl hsz (Steps.refl _) (a := a) (argsL := argsL) (rest := rest) hlen hst (by show 2 * 0 + _ ≤ _; omega) hd (fun _ _ => ⟨has, eT, hc, hs⟩)
  dsimp only [Pt.U, Pt.locs, Pt.cells, Pt.slots] at X' l1 l2 l3 stp hQ
  subst l1 l2 l3
  exact ⟨v, T', L, X', hQ, fun t k => stp.trans k⟩
theorem own_virtual (X : Stand p l e R s m args below meth c T locs cells slots) (hx : p.tables.exec = Jvm.exec) (hZ : Z.Warmed39 s.vm) {own C : String} {index : Nat} {y z : MethodName} {bytes : ByteArray} {maxL : Nat} {ret : Option FieldType} {rm : Room} {as' : Array Value} {P : OwnP}
    (hown : s.vm.findClass own = some m.cls) (w1 : (Cond.methodLink own index y).before a0 Z = true) (w2 : (Cond.declares y).before a0 Z = true) (hnf : NotFace s y) (w5 : (Cond.selects C y z).before a0 Z = true) (w6 : (Cond.instanceMethod z).before a0 Z = true) (w3 : (Cond.initialized z.cls).before a0 Z = true) (w4 : (Cond.code z bytes maxL ret).before a0 Z = true) (hy : y.cls ≠ "java/lang/invoke/MethodHandle" ∧ y.cls ≠ "java/lang/invoke/VarHandle")
    (hM : OwnC l Z z bytes maxL ret [] rm as' h P) (eT : T.heap = h) {a : Addr} (E : Exa Z h a C) {pc : Nat} {Ls : Array Slot} {argsL rest : List Value} (W : Nat) {st : List Value} (hsz : Ls.size = c.maxLocals) (hlen : ∀ sig, parseMethodDescriptor y.desc = some sig → argsL.length = sig.parameters.length) (has : (.ref a :: argsL).toArray = as') (hst : st = argsL.reverse ++ .ref a :: rest) (hW : (rest.map fun v => v.category).sum ≤ W)
    (hd : decode c.code pc = .ok (.invokevirtual index, 3)) (hf : rm.frames + 1 ≤ R.frames) (hl : W + (maxL + 11) + rm.locals ≤ R.locals) (hc : cells + rm.cells ≤ R.cells) (hs : slots + rm.slots ≤ R.slots) :
    ∃ v T' L, Stand p l e R s m args below meth c T' (locs ++ L) (cells + rm.cells) (slots + rm.slots) ∧ P v T'.heap L ∧ ∀ t, Steps p.tables e below (T'.setTop (mkF m (pc + 3) Ls (v.toList ++ rest))) t → Steps p.tables e below (T.setTop (mkF m pc Ls st)) t := by
  obtain ⟨cq, kq, qa, qb, qc⟩ := isOf hZ eT E
  obtain ⟨v, vm₁, ⟨T', L', k', n'⟩, -, X', ⟨L, hQ, l1, l2, l3⟩, stp⟩ := X.virtualBack hx (y := y) (z := z) hown (mvT hZ w1) (mvT hZ w2) hnf (mvT hZ w5) (mvT hZ w6) hy (backOf (W := W) hM hZ w4 w3 hf hl) qa qc (g := mkF m pc Ls st) rfl hsz (Steps.refl _) (argsL := argsL) (rest := rest) hlen hst (by show 2 * 0 + _ ≤ _; omega) hd (fun _ _ => ⟨has, eT, hc, hs⟩)
  dsimp only [Pt.U, Pt.locs, Pt.cells, Pt.slots] at X' l1 l2 l3 stp hQ
  subst l1 l2 l3
  exact ⟨v, T', L, X', hQ, fun t k => stp.trans k⟩
/-- a body that writes nothing and makes nothing -/
def OwnPure (w : Value) (h0 : Heap) : OwnP := fun v h L => v = some w ∧ h = h0 ∧ L = []
theorem own_nil (X : Stand p l e R s m args below meth c T (locs ++ []) cells slots) : Stand p l e R s m args below meth c T locs cells slots := by rwa [List.append_nil] at X
theorem own_iaload (X : Stand p l e R s m args below meth c T locs cells slots) (hx : p.tables.exec = Jvm.exec) (hZ : Z.Warmed39 s.vm) (eT : T.heap = h) {a : Addr} {k : ClassId} {n : Int32} {vs : List Value} {dv : Value} (V : Arv Z h a k .int n vs dv) {j x : Int32} (hj : ¬ j < 0 ∧ j < n) (hv : vs.getD j.toNatClampNeg dv = .int x)
    {pc : Nat} {Ls : Array Slot} {rest : List Value} (hd : decode c.code pc = .ok (.iaload, 1)) : ∀ t, Steps p.tables e below (T.setTop (mkF m (pc + 1) Ls (.int x :: rest))) t → Steps p.tables e below (T.setTop (mkF m pc Ls (.int j :: .ref a :: rest))) t := by
  obtain ⟨cl, A, -, S, -, H, -⟩ := V
  exact fun t k => X.iaload hx (by rw [eT]; exact A.1) (State.isArrayOf_alike hZ.alike A.2.1) A.2.2 (inb_of S hj) (H.at (inb_of S hj) hv) (g := mkF m pc Ls (.int j :: .ref a :: rest)) rfl rfl hd t k
theorem own_baload (X : Stand p l e R s m args below meth c T locs cells slots) (hx : p.tables.exec = Jvm.exec) (hZ : Z.Warmed39 s.vm) (eT : T.heap = h) {a : Addr} {k : ClassId} {n : Int32} {vs : List Value} {dv : Value} (V : Arv Z h a k .byte n vs dv) {j x : Int32} (hj : ¬ j < 0 ∧ j < n) (hv : vs.getD j.toNatClampNeg dv = .int x)
    {pc : Nat} {Ls : Array Slot} {rest : List Value} (hd : decode c.code pc = .ok (.baload, 1)) : ∀ t, Steps p.tables e below (T.setTop (mkF m (pc + 1) Ls (.int x :: rest))) t → Steps p.tables e below (T.setTop (mkF m pc Ls (.int j :: .ref a :: rest))) t := by
  obtain ⟨cl, A, -, S, -, H, -⟩ := V
  exact fun t k => X.baloadBytes hx (by rw [eT]; exact A.1) (State.isArrayOf_alike hZ.alike A.2.1) A.2.2 (inb_of S hj) (H.at (inb_of S hj) hv) (g := mkF m pc Ls (.int j :: .ref a :: rest)) rfl rfl hd t k
theorem own_aaload (X : Stand p l e R s m args below meth c T locs cells slots) (hx : p.tables.exec = Jvm.exec) (hZ : Z.Warmed39 s.vm) (eT : T.heap = h) {a : Addr} {k : ClassId} {ty : FieldType} {n : Int32} {vs : List Value} {dv : Value} (V : Arv Z h a k ty n vs dv) (hty : ty.isReference = true) {j : Int32} {w : Value} (hj : ¬ j < 0 ∧ j < n) (hv : vs.getD j.toNatClampNeg dv = w)
    {pc : Nat} {Ls : Array Slot} {rest : List Value} (hd : decode c.code pc = .ok (.aaload, 1)) : ∀ t, Steps p.tables e below (T.setTop (mkF m (pc + 1) Ls (w :: rest))) t → Steps p.tables e below (T.setTop (mkF m pc Ls (.int j :: .ref a :: rest))) t := by
  obtain ⟨cl, A, -, S, -, H, -⟩ := V
  exact fun t k => X.aaload hx (by rw [eT]; exact A.1) (State.isArrayOf_alike hZ.alike A.2.1) hty A.2.2 (inb_of S hj) (H.at (inb_of S hj) hv) (g := mkF m pc Ls (.int j :: .ref a :: rest)) rfl rfl hd t k
theorem own_alen (X : Stand p l e R s m args below meth c T locs cells slots) (hx : p.tables.exec = Jvm.exec) (hZ : Z.Warmed39 s.vm) (eT : T.heap = h) {a : Addr} {k : ClassId} {ty : FieldType} {n : Int32} {vs : List Value} {dv : Value} (V : Arv Z h a k ty n vs dv)
    {pc : Nat} {Ls : Array Slot} {rest : List Value} (hd : decode c.code pc = .ok (.arraylength, 1)) : ∀ t, Steps p.tables e below (T.setTop (mkF m (pc + 1) Ls (.int n :: rest))) t → Steps p.tables e below (T.setTop (mkF m pc Ls (.ref a :: rest))) t := by
  obtain ⟨cl, A, -, S, N, H, -⟩ := V
  intro t q
  refine X.arraylength hx (by rw [eT]; exact A.1) (State.isArrayOf_alike hZ.alike A.2.1) (g := mkF m pc Ls (.ref a :: rest)) rfl rfl hd t ?_
  rw [len_of S N]
  exact q
theorem own_iastore (X : Stand p l e R s m args below meth c T locs cells slots) (hx : p.tables.exec = Jvm.exec) (hZ : Z.Warmed39 s.vm) (eT : T.heap = h) {a : Addr} {k : ClassId} {n : Int32} {vs : List Value} {dv : Value} (V : Arv Z h a k .int n vs dv) {j x : Int32} (hj : ¬ j < 0 ∧ j < n) (i : Nat) (hi : j.toNatClampNeg = i) (hl : i < vs.length)
    {pc : Nat} {Ls : Array Slot} {rest : List Value} (hd : decode c.code pc = .ok (.iastore, 1)) : ∃ T' h', Stand p l e R s m args below meth c T' (locs ++ [⟨a, i⟩]) cells slots ∧ T'.heap = h' ∧ Wr h h' a i (.int x) ∧ Arv Z h' a k .int n (vs.set i (.int x)) dv ∧ ∀ t, Steps p.tables e below (T'.setTop (mkF m (pc + 1) Ls rest)) t → Steps p.tables e below (T.setTop (mkF m pc Ls (.int x :: .int j :: .ref a :: rest))) t := by
  obtain ⟨cl, A, q1, S, N, H, G⟩ := V
  obtain ⟨T', h', X', e', W', st⟩ := stI X hx hZ eT A (j := j) (x := x) (inb_of S hj) (g := mkF m pc Ls (.int x :: .int j :: .ref a :: rest)) rfl rfl hd
  have V' := Arv.set A q1 S N H G (v := .int x) rfl W' i hi hl
  rw [hi] at X' W'
  exact ⟨T', h', X', e', W', V', st⟩
theorem own_bastore (X : Stand p l e R s m args below meth c T locs cells slots) (hx : p.tables.exec = Jvm.exec) (hZ : Z.Warmed39 s.vm) (eT : T.heap = h) {a : Addr} {k : ClassId} {n : Int32} {vs : List Value} {dv : Value} (V : Arv Z h a k .byte n vs dv) {j x : Int32} (hj : ¬ j < 0 ∧ j < n) (i : Nat) (hi : j.toNatClampNeg = i) (hl : i < vs.length)
    {pc : Nat} {Ls : Array Slot} {rest : List Value} (hd : decode c.code pc = .ok (.bastore, 1)) : ∃ T' h', Stand p l e R s m args below meth c T' (locs ++ [⟨a, i⟩]) cells slots ∧ T'.heap = h' ∧ Wr h h' a i (.int x.toInt8.toInt32) ∧ Arv Z h' a k .byte n (vs.set i (.int x.toInt8.toInt32)) dv ∧ ∀ t, Steps p.tables e below (T'.setTop (mkF m (pc + 1) Ls rest)) t → Steps p.tables e below (T.setTop (mkF m pc Ls (.int x :: .int j :: .ref a :: rest))) t := by
  obtain ⟨cl, A, q1, S, N, H, G⟩ := V
  obtain ⟨T', h', X', e', W', st⟩ := stB X hx hZ eT A (j := j) (x := x) (inb_of S hj) (g := mkF m pc Ls (.int x :: .int j :: .ref a :: rest)) rfl rfl hd
  have V' := Arv.set A q1 S N H G (v := .int x.toInt8.toInt32) (fits_nar_byte x) W' i hi hl
  rw [hi] at X' W'
  exact ⟨T', h', X', e', W', V', st⟩
theorem own_aastore (X : Stand p l e R s m args below meth c T locs cells slots) (hx : p.tables.exec = Jvm.exec) (hZ : Z.Warmed39 s.vm) (eT : T.heap = h) {a : Addr} {k : ClassId} {ty : FieldType} {n : Int32} {vs : List Value} {dv : Value} (V : Arv Z h a k ty n vs dv) (hty : ty.isReference = true) {C : String} (O : Ovr Z k C) {y : Addr} (I : Ins Z h y C true) {j : Int32} (hj : ¬ j < 0 ∧ j < n) (i : Nat) (hi : j.toNatClampNeg = i) (hl : i < vs.length)
    {pc : Nat} {Ls : Array Slot} {rest : List Value} (hd : decode c.code pc = .ok (.aastore, 1)) : ∃ T' h', Stand p l e R s m args below meth c T' (locs ++ [⟨a, i⟩]) cells slots ∧ T'.heap = h' ∧ Wr h h' a i (.ref y) ∧ Arv Z h' a k ty n (vs.set i (.ref y)) dv ∧ ∀ t, Steps p.tables e below (T'.setTop (mkF m (pc + 1) Ls rest)) t → Steps p.tables e below (T.setTop (mkF m pc Ls (.ref y :: .int j :: .ref a :: rest))) t := by
  obtain ⟨cl, A, q1, S, N, H, G⟩ := V
  obtain ⟨T', h', X', e', W', st⟩ := stR X hx hZ eT A (j := j) (v := .ref y) (inb_of S hj) hty (Sto.ofV A q1 O I) (g := mkF m pc Ls (.ref y :: .int j :: .ref a :: rest)) rfl rfl hd
  have V' := Arv.set A q1 S N H G (v := .ref y) (by cases ty <;> first | rfl | (simp [FieldType.isReference] at hty)) W' i hi hl
  rw [hi] at X' W'
  exact ⟨T', h', X', e', W', V', st⟩
theorem own_lt_eq {x y : Int64} (h : x = y) : lcmpW x y = 0 := (lw_eq x y).mpr h
theorem own_rem_ne {x y : Int32} {target : State} {g : JFrame} (X : Stand p l e R s m args below meth c T locs cells slots) (hx : p.tables.exec = Jvm.exec) (hg : g.method = m) {rest : List Value} (hd : decode c.code g.pc = .ok (.irem, 1)) (hs : g.stack = .int y :: .int x :: rest) (hy : y ≠ 0)
    (hr : Steps p.tables e below (T.setTop { g with pc := g.pc + 1, stack := .int (x % y) :: rest }) target) : Steps p.tables e below (T.setTop g) target := iremM X hx hg hd hs hy hr
theorem own_lrem {x y : Int64} {target : State} {g : JFrame} (X : Stand p l e R s m args below meth c T locs cells slots) (hx : p.tables.exec = Jvm.exec) (hg : g.method = m) {rest : List Value} (hd : decode c.code g.pc = .ok (.lrem, 1)) (hs : g.stack = .long y :: .long x :: rest) (hy : y ≠ 0)
    (hr : Steps p.tables e below (T.setTop { g with pc := g.pc + 1, stack := .long (x % y) :: rest }) target) : Steps p.tables e below (T.setTop g) target := by
  refine XS.lrem X.here hx hg hd hs hy ?_
  rw [lrem_mod]
  exact hr
theorem own_fld_int {args : Array Value} {t : Term} {C n d : String} {k : Int32} {a : Addr} (ev : t.eval args Z none [] Z = some (.ref a)) (h : (Cond.eq (Term.field t C n d) (Term.int k)).value args Z none Z [] = some true) : Fld Z Z.heap a C n d (.int k) := by
  obtain ⟨x, y, h1, h2, h3, h4⟩ := cmp_v (Or.inl h)
  have hy : y = .int k := by rw [Term.int_eval] at h2; exact (Option.some.inj h2).symm
  subst hy
  obtain ⟨z, rfl⟩ : ∃ z, x = .int z := h4
  have hz : z = k := by simpa [Cond.value, h1, h2] using h
  subst hz
  rw [fld_at ev] at h1
  exact Fld.start h1
theorem own_sta_keep {C n d : String} {v : Value} {h' : Heap} (F : Sta Z h C n d v) (K : Keep h h' []) : Sta Z h' C n d v := by
  obtain ⟨cf, i, k, f, st, cell, h1, h2, h3, h4, h5, h6⟩ := F
  exact ⟨cf, i, k, f, st, cell, h1, h2, h3, h4, K.2.1 _ _ h5 nin0, h6⟩
/-- the objects of C are no K: C's superclasses are named, K is a class that has objects -/
theorem own_nsroot {O K : String} {n : Nat} (w : (Cond.noSuperclass O).before a0 Z = true) (wk : (Cond.instantiable K n).before a0 Z = true) (hn : O ≠ K) : NS Z O K := by
  obtain ⟨c, k, h1, h2, h3, -, -⟩ := Cond.noSuperclass_spec w
  obtain ⟨t, kt, g1, -⟩ := Cond.instantiable_spec wk
  have ne := ids_ne h1 g1 hn
  refine ⟨c, t, h1, g1, fun fuel => ?_⟩
  cases fuel with
  | zero => rfl
  | succ f => simp [Vm.isSubclassAux, ne, h2, h3]
theorem own_nsno {C S K : String} {n : Nat} (w : (Cond.superclass C S).before a0 Z = true) (wk : (Cond.instantiable K n).before a0 Z = true) (q : NS Z C K) (hn : C ≠ K) : ∃ c t, Z.vm.findClass C = some c ∧ Z.vm.findClass K = some t ∧ Z.vm.assignable c t = false := by
  obtain ⟨c, t, h0, g0, n3⟩ := q
  obtain ⟨p, k, kp, h1, h2, h3, h4, h5, -, h7⟩ := Cond.superclass_spec h0 w
  obtain ⟨t', kt, g1, g2, g3, g4, -⟩ := Cond.instantiable_spec wk
  cases g0.symm.trans g1
  have g5 : kt.isInterface = false := by
    cases hq : kt.isInterface with
    | false => rfl
    | true => rw [hq] at g4; simp at g4
  have ne := ids_ne h0 g0 hn
  refine ⟨c, t, h0, g0, ?_⟩
  show Z.vm.assignableAux (255 + 1) c t = false
  simp [Vm.assignableAux, ne, h2, g2, h5, g3, g5, Vm.isSubclass, n3]
theorem own_s16 (x : Int32) : x.toInt16.toInt32.toInt16.toInt32 = x.toInt16.toInt32 := by simp
theorem own_virtualUp (X : Stand p l e R s m args below meth c T locs cells slots) (hx : p.tables.exec = Jvm.exec) (hZ : Z.Warmed39 s.vm) {own C owner : String} {index : Nat} {x y : MethodName} {bytes : ByteArray} {maxL : Nat} {ret : Option FieldType} {rm : Room} {as' : Array Value} {P : OwnP}
    (hown : s.vm.findClass own = some m.cls) (w1 : (Cond.methodLink own index x).before a0 Z = true) (w2 : (Cond.sameMethod x.cls owner x.name x.desc).before a0 Z = true) (w7 : (Cond.declares ⟨owner, x.name, x.desc⟩).before a0 Z = true) (hy : owner ≠ "java/lang/invoke/MethodHandle" ∧ owner ≠ "java/lang/invoke/VarHandle") (w5 : (Cond.selects C x y).before a0 Z = true) (w6 : (Cond.instanceMethod y).before a0 Z = true) (w3 : (Cond.initialized y.cls).before a0 Z = true) (w4 : (Cond.code y bytes maxL ret).before a0 Z = true)
    (hM : OwnC l Z y bytes maxL ret [] rm as' h P) (eT : T.heap = h) {a : Addr} (E : Exa Z h a C) {pc : Nat} {Ls : Array Slot} {argsL rest : List Value} (W : Nat) {st : List Value} (hsz : Ls.size = c.maxLocals) (hlen : ∀ sig, parseMethodDescriptor x.desc = some sig → argsL.length = sig.parameters.length) (has : (.ref a :: argsL).toArray = as') (hst : st = argsL.reverse ++ .ref a :: rest) (hW : (rest.map fun v => v.category).sum ≤ W)
    (hd : decode c.code pc = .ok (.invokevirtual index, 3)) (hf : rm.frames + 1 ≤ R.frames) (hl : W + (maxL + 11) + rm.locals ≤ R.locals) (hc : cells + rm.cells ≤ R.cells) (hs : slots + rm.slots ≤ R.slots) :
    ∃ v T' L, Stand p l e R s m args below meth c T' (locs ++ L) (cells + rm.cells) (slots + rm.slots) ∧ P v T'.heap L ∧ ∀ t, Steps p.tables e below (T'.setTop (mkF m (pc + 3) Ls (v.toList ++ rest))) t → Steps p.tables e below (T.setTop (mkF m pc Ls st)) t := by
  obtain ⟨cq, kq, qa, qb, qc⟩ := isOf hZ eT E
  obtain ⟨v, vm₁, ⟨T', L', k', n'⟩, -, X', ⟨L, hQ, l1, l2, l3⟩, stp⟩ := X.virtualBackUp hx (x := x) (y := y) hown (mvT hZ w1) (mvT hZ w2) (mvT hZ w7) hy (mvT hZ w5) (mvT hZ w6) (backOf (W := W) hM hZ w4 w3 hf hl) qa qc (g := mkF m pc Ls st) rfl hsz (Steps.refl _) (argsL := argsL) (rest := rest) hlen hst (by show 2 * 0 + _ ≤ _; omega) hd (fun _ _ => ⟨has, eT, hc, hs⟩)
  dsimp only [Pt.U, Pt.locs, Pt.cells, Pt.slots] at X' l1 l2 l3 stp hQ
  subst l1 l2 l3
  exact ⟨v, T', L, X', hQ, fun t k => stp.trans k⟩
theorem own_castore (X : Stand p l e R s m args below meth c T locs cells slots) (hx : p.tables.exec = Jvm.exec) (hZ : Z.Warmed39 s.vm) (eT : T.heap = h) {a : Addr} {k : ClassId} {n : Int32} {vs : List Value} {dv : Value} (V : Arv Z h a k .char n vs dv) {j x : Int32} (hj : ¬ j < 0 ∧ j < n) (i : Nat) (hi : j.toNatClampNeg = i) (hl : i < vs.length)
    {pc : Nat} {Ls : Array Slot} {rest : List Value} (hd : decode c.code pc = .ok (.castore, 1)) : ∃ T' h', Stand p l e R s m args below meth c T' (locs ++ [⟨a, i⟩]) cells slots ∧ T'.heap = h' ∧ Wr h h' a i (.int x.toUInt32.toUInt16.toUInt32.toInt32) ∧ Arv Z h' a k .char n (vs.set i (.int x.toUInt32.toUInt16.toUInt32.toInt32)) dv ∧ ∀ t, Steps p.tables e below (T'.setTop (mkF m (pc + 1) Ls rest)) t → Steps p.tables e below (T.setTop (mkF m pc Ls (.int x :: .int j :: .ref a :: rest))) t := by
  obtain ⟨cl, A, q1, S, N, H, G⟩ := V
  obtain ⟨T', h', X', e', W', st⟩ := stC X hx hZ eT A (j := j) (x := x) (inb_of S hj) (g := mkF m pc Ls (.int x :: .int j :: .ref a :: rest)) rfl rfl hd
  have V' := Arv.set A q1 S N H G (v := .int x.toUInt32.toUInt16.toUInt32.toInt32) (fits_nar_char x) W' i hi hl
  rw [hi] at X' W'
  exact ⟨T', h', X', e', W', V', st⟩
theorem own_sta_keep1 {C n d C' : String} {v : Value} {h' : Heap} {a : Addr} (F : Sta Z h C n d v) (K : Keep h h' [a]) (E : Exa Z h a C') : Sta Z h' C n d v := by
  obtain ⟨cf, i, k, f, st, cell, h1, h2, h3, h4, h5, h6, h7⟩ := F
  obtain ⟨cell', k', e1, -, -, e4, -⟩ := E
  have hne : st ≠ a := fun q => by
    subst q
    cases h5.symm.trans e1
    rw [h6] at e4
    cases e4
  exact ⟨cf, i, k, f, st, cell, h1, h2, h3, h4, K.2.1 _ _ h5 (ninS hne nin0), h6, h7⟩
theorem own_private (X : Stand p l e R s m args below meth c T locs cells slots) (hx : p.tables.exec = Jvm.exec) (hZ : Z.Warmed39 s.vm) {own C : String} {index n : Nat} {y : MethodName} {bytes : ByteArray} {maxL : Nat} {ret : Option FieldType} {rm : Room} {as' : Array Value} {P : OwnP}
    (hown : s.vm.findClass own = some m.cls) (w1 : (Cond.methodLink own index y).before a0 Z = true) (w2 : (Cond.instanceMethod y).before a0 Z = true) (wp : (Cond.privateMethod y).before a0 Z = true) (wi : (Cond.instantiable y.cls n).before a0 Z = true) (w3 : (Cond.initialized y.cls).before a0 Z = true) (w4 : (Cond.code y bytes maxL ret).before a0 Z = true) (hy : y.cls ≠ "java/lang/invoke/MethodHandle" ∧ y.cls ≠ "java/lang/invoke/VarHandle")
    (hM : OwnC l Z y bytes maxL ret [] rm as' h P) (eT : T.heap = h) {a : Addr} (E : Exa Z h a C) {pc : Nat} {Ls : Array Slot} {argsL rest : List Value} (W : Nat) {st : List Value} (hsz : Ls.size = c.maxLocals) (hlen : ∀ sig, parseMethodDescriptor y.desc = some sig → argsL.length = sig.parameters.length) (has : (.ref a :: argsL).toArray = as') (hst : st = argsL.reverse ++ .ref a :: rest) (hW : (rest.map fun v => v.category).sum ≤ W)
    (hd : decode c.code pc = .ok (.invokevirtual index, 3)) (hf : rm.frames + 1 ≤ R.frames) (hl : W + (maxL + 11) + rm.locals ≤ R.locals) (hc : cells + rm.cells ≤ R.cells) (hs : slots + rm.slots ≤ R.slots) :
    ∃ v T' L, Stand p l e R s m args below meth c T' (locs ++ L) (cells + rm.cells) (slots + rm.slots) ∧ P v T'.heap L ∧ ∀ t, Steps p.tables e below (T'.setTop (mkF m (pc + 3) Ls (v.toList ++ rest))) t → Steps p.tables e below (T.setTop (mkF m pc Ls st)) t := by
  obtain ⟨cell, hcell, hobj⟩ := E.cell
  have hpriv := Cond.privateMethod_at (mvP hZ wp (args := args))
  obtain ⟨ci, ki, i1, i2, i3, i4, -⟩ := Cond.instantiable_spec (show (Cond.instantiable y.cls n).before args s = true from mvT hZ wi)
  have hni : ki.isInterface = false := by
    cases hq : ki.isInterface with
    | false => rfl
    | true => rw [hq] at i4; simp at i4
  have hsel := selects_self_of_private (args := args) i1 i2 hni hpriv (mvT hZ w2) hy
  obtain ⟨v, vm₁, ⟨T', L', k', n'⟩, -, X', ⟨L, hQ, l1, l2, l3⟩, stp⟩ := X.privateBack hx (y := y) hown (mvT hZ w1) (mvT hZ w2) hsel hpriv (mvT hZ w4) hy (backOf (W := W) hM hZ w4 w3 hf hl) (g := mkF m pc Ls st) rfl hsz (Steps.refl _) (a := a) (by rw [eT]; exact hcell) hobj (argsL := argsL) (rest := rest) hlen hst (by show 2 * 0 + _ ≤ _; omega) hd (fun _ _ => ⟨has, eT, hc, hs⟩)
  dsimp only [Pt.U, Pt.locs, Pt.cells, Pt.slots] at X' l1 l2 l3 stp hQ
  subst l1 l2 l3
  exact ⟨v, T', L, X', hQ, fun t k => stp.trans k⟩
theorem own_interface (X : Stand p l e R s m args below meth c T locs cells slots) (hx : p.tables.exec = Jvm.exec) (hZ : Z.Warmed39 s.vm) {own C : String} {index count : Nat} {xi y : MethodName} {bytes : ByteArray} {maxL : Nat} {ret : Option FieldType} {rm : Room} {as' : Array Value} {P : OwnP}
    (hown : s.vm.findClass own = some m.cls) (w1 : (Cond.methodLink own index xi).before a0 Z = true) (w2 : (Cond.declares xi).before a0 Z = true) (w7 : (Cond.interfaceMethod xi.cls xi.cls xi.name xi.desc).before args s = true) (w5 : (Cond.selects C xi y).before a0 Z = true) (w6 : (Cond.instanceMethod y).before a0 Z = true) (w8 : (Cond.publicMethod y).before a0 Z = true) (w9 : (Cond.unhidden C xi.name xi.desc).before a0 Z = true) (w10 : (Cond.castable C xi.cls).before a0 Z = true) (w3 : (Cond.initialized y.cls).before a0 Z = true) (w4 : (Cond.code y bytes maxL ret).before a0 Z = true) (hy : xi.cls ≠ "java/lang/invoke/MethodHandle" ∧ xi.cls ≠ "java/lang/invoke/VarHandle")
    (hM : OwnC l Z y bytes maxL ret [] rm as' h P) (eT : T.heap = h) {a : Addr} (E : Exa Z h a C) {pc : Nat} {Ls : Array Slot} {argsL rest : List Value} (W : Nat) {st : List Value} (hsz : Ls.size = c.maxLocals) (hlen : ∀ sig, parseMethodDescriptor xi.desc = some sig → argsL.length = sig.parameters.length) (has : (.ref a :: argsL).toArray = as') (hst : st = argsL.reverse ++ .ref a :: rest) (hW : (rest.map fun v => v.category).sum ≤ W)
    (hd : decode c.code pc = .ok (.invokeinterface index count, 5)) (hf : rm.frames + 1 ≤ R.frames) (hl : W + (maxL + 11) + rm.locals ≤ R.locals) (hc : cells + rm.cells ≤ R.cells) (hs : slots + rm.slots ≤ R.slots) :
    ∃ v T' L, Stand p l e R s m args below meth c T' (locs ++ L) (cells + rm.cells) (slots + rm.slots) ∧ P v T'.heap L ∧ ∀ t, Steps p.tables e below (T'.setTop (mkF m (pc + 5) Ls (v.toList ++ rest))) t → Steps p.tables e below (T.setTop (mkF m pc Ls st)) t := by
  obtain ⟨cq, kq, qa, qb, qc⟩ := isOf hZ eT E
  obtain ⟨v, vm₁, ⟨T', L', k', n'⟩, -, X', ⟨L, hQ, l1, l2, l3⟩, stp⟩ := X.interfaceBack hx (xi := xi) (y := y) hown (mvT hZ w1) (mvT hZ w2) w7 (mvT hZ w5) (mvT hZ w6) (mvT hZ w8) (mvT hZ w9) (mvT hZ w10) hy (backOf (W := W) hM hZ w4 w3 hf hl) qa qb qc (g := mkF m pc Ls st) rfl hsz (Steps.refl _) (argsL := argsL) (rest := rest) hlen hst (by show 2 * 0 + _ ≤ _; omega) hd (fun _ _ => ⟨has, eT, hc, hs⟩)
  dsimp only [Pt.U, Pt.locs, Pt.cells, Pt.slots] at X' l1 l2 l3 stp hQ
  subst l1 l2 l3
  exact ⟨v, T', L, X', hQ, fun t k => stp.trans k⟩
theorem own_staticUp (X : Stand p l e R s m args below meth c T locs cells slots) (hx : p.tables.exec = Jvm.exec) (hZ : Z.Warmed39 s.vm) {own owner : String} {index : Nat} {x : MethodName} {bytes : ByteArray} {maxL : Nat} {ret : Option FieldType} {rm : Room} {as' : Array Value} {P : OwnP}
    (hown : s.vm.findClass own = some m.cls) (w1 : (Cond.methodLink own index x).before a0 Z = true) (w2 : (Cond.sameMethod x.cls owner x.name x.desc).before a0 Z = true) (hy : owner ≠ "java/lang/invoke/MethodHandle" ∧ owner ≠ "java/lang/invoke/VarHandle") (w5 : (Cond.static ⟨owner, x.name, x.desc⟩).before a0 Z = true) (w3 : (Cond.initialized owner).before a0 Z = true) (w4 : (Cond.code ⟨owner, x.name, x.desc⟩ bytes maxL ret).before a0 Z = true)
    (hM : OwnC l Z ⟨owner, x.name, x.desc⟩ bytes maxL ret [] rm as' h P) (eT : T.heap = h) {pc : Nat} {Ls : Array Slot} {argsL rest : List Value} (W : Nat) {st : List Value} (hsz : Ls.size = c.maxLocals) (hlen : ∀ sig, parseMethodDescriptor x.desc = some sig → argsL.length = sig.parameters.length) (has : argsL.toArray = as') (hst : st = argsL.reverse ++ rest) (hW : (rest.map fun v => v.category).sum ≤ W)
    (hd : decode c.code pc = .ok (.invokestatic index, 3)) (hf : rm.frames + 1 ≤ R.frames) (hl : W + (maxL + 11) + rm.locals ≤ R.locals) (hc : cells + rm.cells ≤ R.cells) (hs : slots + rm.slots ≤ R.slots) :
    ∃ v T' L, Stand p l e R s m args below meth c T' (locs ++ L) (cells + rm.cells) (slots + rm.slots) ∧ P v T'.heap L ∧ ∀ t, Steps p.tables e below (T'.setTop (mkF m (pc + 3) Ls (v.toList ++ rest))) t → Steps p.tables e below (T.setTop (mkF m pc Ls st)) t := by
  have c4 : (Cond.code ⟨owner, x.name, x.desc⟩ bytes maxL ret).before args s = true := mvT hZ w4
  obtain ⟨mk, hnamed⟩ := Cond.code_named c4
  obtain ⟨methM, cM, hmethM, -, -, -, -, -, -, hsigM⟩ := Cond.code_spec hnamed c4
  have hstatic : methM.isStatic = true := Cond.static_spec hnamed hmethM (mvT (args := args) hZ w5)
  obtain ⟨kP, hkP, -⟩ := className_of_methodNamed hnamed
  have hinitP : kP.init = .initialized := Cond.initialized_spec (findClass_of_methodNamed hnamed) hkP (mvT (args := args) hZ w3)
  obtain ⟨vm₁, X₁, hstep₁⟩ := X.invokestaticUp hx hown (mvT hZ w1) (mvT hZ w2) hy hnamed hmethM hstatic hkP hinitP (g := mkF m pc Ls st) rfl (argsL := argsL) (rest := rest) (hlen _ hsigM) hst hd
  obtain ⟨v, ⟨T', L', k', n'⟩, X', ⟨L, hQ, l1, l2, l3⟩, hsteps⟩ := (backOf (len := 3) (W := W) hM hZ w4 w3 hf hl) m meth c ⟨T.setVm vm₁, locs, cells, slots⟩ { mkF m pc Ls st with stack := rest } (.invokestatic index) mk argsL.toArray X₁ rfl hsz hd (by show 2 * 0 + (rest.map fun v => v.category).sum ≤ W; rw [Nat.mul_zero, Nat.zero_add]; exact hW) (X₁.named hnamed) ⟨has, eT, hc, hs⟩
  dsimp only [Pt.U, Pt.locs, Pt.cells, Pt.slots] at X' l1 l2 l3 hsteps hQ
  subst l1 l2 l3
  exact ⟨v, T', L, X', hQ, fun t k => ((hstep₁ _ fun acts => by rw [doInvoke_state]; exact Steps.refl _).trans hsteps).trans k⟩
theorem own_getfRef (X : Stand p l e R s m args below meth c T locs cells slots) (hx : p.tables.exec = Jvm.exec) (hZ : Z.Warmed39 s.vm) {own O n d : String} {index : Nat} (hown : s.vm.findClass own = some m.cls) (w : (Cond.fieldRef own index O n d).before a0 Z = true) (eT : T.heap = h) {a : Addr} {v : Value} (F : Fld Z h a O n d v)
    {pc : Nat} {Ls : Array Slot} {rest : List Value} (hd : decode c.code pc = .ok (.getfield index, 3)) : ∀ t, Steps p.tables e below (T.setTop (mkF m (pc + 3) Ls (v :: rest))) t → Steps p.tables e below (T.setTop (mkF m pc Ls (.ref a :: rest))) t := by
  obtain ⟨cell, cf, k, i, f, h1, h2, h3, h4, -, -, h7⟩ := F
  have hW : Z.Warmed39 T.vm := wtrans hZ X.warmed
  have hw := Cond.fieldRef_warmed39 hW w
  have hcur : (Z.setVm T.vm).vm.findClass own = some m.cls := by
    show T.vm.findClass own = _
    rw [X.warmed.alike.findClass]
    exact hown
  obtain ⟨c', k', i', f', q1, q2⟩ := Cond.fieldRef_spec hcur hw
  obtain ⟨k2, hi, -⟩ := State.fieldFound?_setVm (s := Z) hW.alike h2
  rw [hi] at q1
  cases q1
  exact fun t kk => (X.getfieldR hx (g := mkF m pc Ls (.ref a :: rest)) rfl q2 h3 rfl (by rw [eT]; exact h1) h4 h7 hd (Steps.refl _)).trans kk
theorem own_sneE {a b : Addr} {cell : Cell} {C : String} (h1 : h[a]? = some cell) (h2 : cell.vm.isStatics = true) (E : Exa Z h b C) : a ≠ b := fun q => by
  obtain ⟨cell', k', e1, -, -, e4, -⟩ := E
  subst q
  cases h1.symm.trans e1
  rw [h2] at e4
  cases e4
theorem own_sneA {a b : Addr} {cell : Cell} {k : ClassId} {ty : FieldType} {n : Int32} {vs : List Value} {dv : Value} (h1 : h[a]? = some cell) (h2 : cell.vm.isStatics = true) (V : Arv Z h b k ty n vs dv) : a ≠ b := fun q => by
  obtain ⟨cl, A, -⟩ := V
  subst q
  cases h1.symm.trans A.1
  have := A.plain
  rw [h2] at this
  cases this
theorem own_sta_keepL {C n d : String} {v : Value} {h' : Heap} {ws : List Addr} (F : Sta Z h C n d v) (K : Keep h h' ws) (q : ∀ (a : Addr) (cell : Cell), h[a]? = some cell → cell.vm.isStatics = true → a ∉ ws) : Sta Z h' C n d v := by
  obtain ⟨cf, i, k, f, st, cell, h1, h2, h3, h4, h5, h6, h7⟩ := F
  exact ⟨cf, i, k, f, st, cell, h1, h2, h3, h4, K.2.1 _ _ h5 (q _ _ h5 h6), h6, h7⟩
theorem own_nf {args : Array Value} {s : State} {C : String} {x y z : MethodName} (hsel : (Cond.selects C x z).before args s = true) (hc : y.cls = z.cls) : NotFace s y := fun r0 h0 => by
  obtain ⟨c2, r2, m2, q1, q2, q3, q4, kP, hkP, hkPi⟩ := Cond.selects_spec hsel
  have e1 := findClass_of_methodNamed h0
  have e2 := findClass_of_methodNamed q3
  rw [hc] at e1
  have e3 : r0.cls = m2.cls := Option.some.inj (e1.symm.trans e2)
  exact ⟨kP, by rw [e3]; exact hkP, hkPi⟩
end OwnKit
end Jvm.RoadKit
namespace Jvm.Pilot.@@N@@
open Jvm Jvm.ClassFile Sem Op Lib Jvm.Free Jvm.Stand Jvm.LawKit Jvm.RoadKit Bundle Jvm.Pilot.@@N@@.Jvm.D
abbrev OwnK0 : String := "com/example/wirelens/wirelens/wire/GroupEnds"
theorem own_w {Z : State} {a0 : Array Value} (hw : ∀ d ∈ tables_1, d.before a0 Z = true) (i : Nat) {d : Jvm.Cond} (h : tables_1[i]? = some d) : d.before a0 Z = true := hw _ (List.mem_of_getElem? h)
theorem own_i {a : Addr} {L : List Addr} {Q : Prop} (i : Nat) (h : L[i]? = some a) : a ∈ L ∨ Q := Or.inl (List.mem_of_getElem? h)
theorem pd___V : parseMethodDescriptor "()V" = some ⟨[], none⟩ := by decide +kernel
theorem pd__I_V : parseMethodDescriptor "(I)V" = some ⟨[.int], none⟩ := by decide +kernel
theorem pd__I_I : parseMethodDescriptor "(I)I" = some ⟨[.int], some .int⟩ := by decide +kernel
theorem pd__II_V : parseMethodDescriptor "(II)V" = some ⟨[.int, .int], none⟩ := by decide +kernel
theorem pd__II_I : parseMethodDescriptor "(II)I" = some ⟨[.int, .int], some .int⟩ := by decide +kernel
theorem pd__I_Z : parseMethodDescriptor "(I)Z" = some ⟨[.int], some .boolean⟩ := by decide +kernel
theorem pd___IIII_I : parseMethodDescriptor "([IIII)I" = some ⟨[(.array .int), .int, .int, .int], some .int⟩ := by decide +kernel
theorem pd__III_V : parseMethodDescriptor "(III)V" = some ⟨[.int, .int, .int], none⟩ := by decide +kernel
theorem own_add (x y : Int32) (hx : 0 ≤ x.toInt) (hy : 0 ≤ y.toInt) (h : x.toInt + y.toInt < 2147483648) : (x + y).toInt = x.toInt + y.toInt := by
  have h1 := c_iadd x y
  have h2 := rng32 (x + y)
  omega
theorem own_sub (x y : Int32) (hx : 0 ≤ x.toInt) (hy : 0 ≤ y.toInt) : (x - y).toInt = x.toInt - y.toInt := by
  have h1 := c_isub x y
  have h2 := rng32 (x - y)
  have h3 := rng32 x
  have h4 := rng32 y
  omega
theorem own_msk (a : Int32) : 0 ≤ (a &&& 268435455).toInt ∧ (a &&& 268435455).toInt < 268435456 := by
  have h1 := c_mask a 268435455 28 (by decide) (by decide)
  omega
theorem own_ord (a b c d e s0 s1 s2 g2 g1 en : Int32) (h0 : s0 = a &&& 268435455) (h1 : s1 = (s0 + 1) + (b &&& 268435455)) (h2 : s2 = (s1 + 1) + (c &&& 268435455)) (h3 : g2 = s2 + (d &&& 268435455)) (h4 : g1 = (g2 + 1) + (e &&& 268435455)) (h5 : en = g1 + 1) :
    ¬ s0 < 0 ∧ s0 < s1 ∧ s1 < s2 ∧ ¬ g2 < s2 ∧ g2 < g1 ∧ g1 < en ∧ (g2 - s2) < (g1 - s1) ∧ (s1 - s0) < (s2 - s0) := by
  have e1 : (1 : Int32).toInt = 1 := by decide
  have e0 : (0 : Int32).toInt = 0 := by decide
  obtain ⟨l0, u0⟩ := own_msk a
  rw [← h0] at l0 u0
  obtain ⟨l1, u1⟩ := own_msk b
  obtain ⟨l2, u2⟩ := own_msk c
  obtain ⟨l3, u3⟩ := own_msk d
  obtain ⟨l4, u4⟩ := own_msk e
  have p1 : (s0 + 1).toInt = s0.toInt + 1 := by rw [own_add s0 1 (by omega) (by omega) (by omega), e1]
  have p2 : s1.toInt = s0.toInt + 1 + (b &&& 268435455).toInt := by rw [h1, own_add _ _ (by omega) (by omega) (by omega), p1]
  have p3 : (s1 + 1).toInt = s1.toInt + 1 := by rw [own_add s1 1 (by omega) (by omega) (by omega), e1]
  have p4 : s2.toInt = s1.toInt + 1 + (c &&& 268435455).toInt := by rw [h2, own_add _ _ (by omega) (by omega) (by omega), p3]
  have p5 : g2.toInt = s2.toInt + (d &&& 268435455).toInt := by rw [h3, own_add _ _ (by omega) (by omega) (by omega)]
  have p6 : (g2 + 1).toInt = g2.toInt + 1 := by rw [own_add g2 1 (by omega) (by omega) (by omega), e1]
  have p7 : g1.toInt = g2.toInt + 1 + (e &&& 268435455).toInt := by rw [h4, own_add _ _ (by omega) (by omega) (by omega), p6]
  have p8 : en.toInt = g1.toInt + 1 := by rw [h5, own_add g1 1 (by omega) (by omega) (by omega), e1]
  have q1 := own_sub g2 s2 (by omega) (by omega)
  have q2 := own_sub g1 s1 (by omega) (by omega)
  have q3 := own_sub s1 s0 (by omega) (by omega)
  have q4 := own_sub s2 s0 (by omega) (by omega)
  clear h0 h1 h2 h3 h4 h5
  simp only [Int32.lt_iff_toInt_lt, e0]
  refine ⟨by omega, by omega, by omega, by omega, by omega, by omega, by omega, by omega⟩
theorem pf_com_example_wirelens_wirelens_wire_GroupEndsClosedPinLaw_law__IIIIII_Z : plainFor (⟨"com/example/wirelens/wirelens/wire/GroupEndsClosedPinLaw", "law", "(IIIIII)Z"⟩ : MethodName) = true := by first | exact plainFor_of_name (by first | (simp [plainName, overriddenIn]; done) | decide +kernel) | exact Jvm.Free.JP.mathPlain rfl (by decide +kernel) | decide +kernel
theorem d1_0 : decode prog_48_method_1_code 0 = .ok (.aload_n 0, 1) := by decide +kernel
theorem d1_1 : decode prog_48_method_1_code 1 = .ok (.invokespecial 1, 3) := by decide +kernel
theorem d1_4 : decode prog_48_method_1_code 4 = .ok (.aload_n 0, 1) := by decide +kernel
theorem d1_5 : decode prog_48_method_1_code 5 = .ok (.bipush 8, 2) := by decide +kernel
theorem d1_7 : decode prog_48_method_1_code 7 = .ok (.newarray .int, 2) := by decide +kernel
theorem d1_9 : decode prog_48_method_1_code 9 = .ok (.putfield 9, 3) := by decide +kernel
theorem d1_12 : decode prog_48_method_1_code 12 = .ok (.aload_n 0, 1) := by decide +kernel
theorem d1_13 : decode prog_48_method_1_code 13 = .ok (.bipush 8, 2) := by decide +kernel
theorem d1_15 : decode prog_48_method_1_code 15 = .ok (.newarray .int, 2) := by decide +kernel
theorem d1_17 : decode prog_48_method_1_code 17 = .ok (.putfield 13, 3) := by decide +kernel
theorem d1_20 : decode prog_48_method_1_code 20 = .ok (.aload_n 0, 1) := by decide +kernel
theorem d1_21 : decode prog_48_method_1_code 21 = .ok (.bipush 8, 2) := by decide +kernel
theorem d1_23 : decode prog_48_method_1_code 23 = .ok (.newarray .int, 2) := by decide +kernel
theorem d1_25 : decode prog_48_method_1_code 25 = .ok (.putfield 16, 3) := by decide +kernel
theorem d1_28 : decode prog_48_method_1_code 28 = .ok (.aload_n 0, 1) := by decide +kernel
theorem d1_29 : decode prog_48_method_1_code 29 = .ok (.bipush 8, 2) := by decide +kernel
theorem d1_31 : decode prog_48_method_1_code 31 = .ok (.newarray .int, 2) := by decide +kernel
theorem d1_33 : decode prog_48_method_1_code 33 = .ok (.putfield 19, 3) := by decide +kernel
theorem d1_36 : decode prog_48_method_1_code 36 = .ok (.aload_n 0, 1) := by decide +kernel
theorem d1_37 : decode prog_48_method_1_code 37 = .ok (.bipush 8, 2) := by decide +kernel
theorem d1_39 : decode prog_48_method_1_code 39 = .ok (.newarray .int, 2) := by decide +kernel
theorem d1_41 : decode prog_48_method_1_code 41 = .ok (.putfield 22, 3) := by decide +kernel
theorem d1_44 : decode prog_48_method_1_code 44 = .ok (.aload_n 0, 1) := by decide +kernel
theorem d1_45 : decode prog_48_method_1_code 45 = .ok (.iconst (-1), 1) := by decide +kernel
theorem d1_46 : decode prog_48_method_1_code 46 = .ok (.putfield 25, 3) := by decide +kernel
theorem d1_49 : decode prog_48_method_1_code 49 = .ok (.return_, 1) := by decide +kernel
theorem pf_com_example_wirelens_wirelens_wire_GroupEnds__init____V : plainFor (⟨OwnK0, "<init>", "()V"⟩ : MethodName) = true := by first | exact plainFor_of_name (by first | (simp [plainName, overriddenIn]; done) | decide +kernel) | exact Jvm.Free.JP.mathPlain rfl (by decide +kernel) | decide +kernel
theorem ef_sp1 (m : MethodId) (q0 : Addr) : entryFrame m #[(.ref q0)] 1 = mkF m 0 #[rv q0] [] := by first | (simp [entryFrame, mkF, argsToLocals, Value.category]; done) | rfl
set_option maxRecDepth 65536 in
set_option maxHeartbeats 40000000 in
theorem sp1 (l : Launch) (Z : State) (a0 : Array Value) (hw : ∀ d ∈ tables_1, d.before a0 Z = true) (ws : List Jvm.Cond) (o0 : Addr) (h0 : Heap) (n0 : Nat) (Z0 : n0 ≤ h0.size) (E_o0 : Exa Z h0 o0 OwnK0) (F_count_o0 : Fld Z h0 o0 OwnK0 "count" "I" (.int 0)) (F_cursor_o0 : Fld Z h0 o0 OwnK0 "cursor" "I" (.int 0)) (F_ends_o0 : Fld Z h0 o0 OwnK0 "ends" "[I" .null) (F_lastOpened_o0 : Fld Z h0 o0 OwnK0 "lastOpened" "I" (.int 0)) (F_segmentEnd_o0 : Fld Z h0 o0 OwnK0 "segmentEnd" "[I" .null) (F_segmentFirst_o0 : Fld Z h0 o0 OwnK0 "segmentFirst" "[I" .null) (F_segmentLimit_o0 : Fld Z h0 o0 OwnK0 "segmentLimit" "[I" .null) (F_segments_o0 : Fld Z h0 o0 OwnK0 "segments" "I" (.int 0)) (F_starts_o0 : Fld Z h0 o0 OwnK0 "starts" "[I" .null) (g_o0 : n0 ≤ o0) :
    OwnC l Z (⟨OwnK0, "<init>", "()V"⟩ : MethodName) prog_48_method_1_code 1 none ws ({ frames := 1, cells := 5, slots := 40, locals := 12 } : Room) #[(.ref o0)] h0 (fun v h L => ∃ (w0 : Addr) (w1 : Addr) (w2 : Addr) (w3 : Addr) (w4 : Addr), ∃ (kw0 : ClassId) (kw1 : ClassId) (kw2 : ClassId) (kw3 : ClassId) (kw4 : ClassId), v = none ∧ Fr n0 L ∧ Keep h0 h [o0] ∧ (h0.size ≤ w0 ∧ n0 ≤ w0) ∧ (h0.size ≤ w1 ∧ n0 ≤ w1) ∧ (h0.size ≤ w2 ∧ n0 ≤ w2) ∧ (h0.size ≤ w3 ∧ n0 ≤ w3) ∧ (h0.size ≤ w4 ∧ n0 ≤ w4) ∧ w0 ≠ w1 ∧ w0 ≠ w2 ∧ w0 ≠ w3 ∧ w0 ≠ w4 ∧ w1 ≠ w2 ∧ w1 ≠ w3 ∧ w1 ≠ w4 ∧ w2 ≠ w3 ∧ w2 ≠ w4 ∧ w3 ≠ w4 ∧ Fld Z h o0 OwnK0 "count" "I" (.int 0) ∧ Fld Z h o0 OwnK0 "lastOpened" "I" (.int 0) ∧ Fld Z h o0 OwnK0 "segments" "I" (.int 0) ∧ Arv Z h w0 kw0 .int (8 : Int32) [(.int 0), (.int 0), (.int 0), (.int 0), (.int 0), (.int 0), (.int 0), (.int 0)] (.int 0) ∧ Fld Z h o0 OwnK0 "starts" "[I" (.ref w0) ∧ Arv Z h w1 kw1 .int (8 : Int32) [(.int 0), (.int 0), (.int 0), (.int 0), (.int 0), (.int 0), (.int 0), (.int 0)] (.int 0) ∧ Fld Z h o0 OwnK0 "ends" "[I" (.ref w1) ∧ Arv Z h w2 kw2 .int (8 : Int32) [(.int 0), (.int 0), (.int 0), (.int 0), (.int 0), (.int 0), (.int 0), (.int 0)] (.int 0) ∧ Fld Z h o0 OwnK0 "segmentFirst" "[I" (.ref w2) ∧ Arv Z h w3 kw3 .int (8 : Int32) [(.int 0), (.int 0), (.int 0), (.int 0), (.int 0), (.int 0), (.int 0), (.int 0)] (.int 0) ∧ Fld Z h o0 OwnK0 "segmentEnd" "[I" (.ref w3) ∧ Arv Z h w4 kw4 .int (8 : Int32) [(.int 0), (.int 0), (.int 0), (.int 0), (.int 0), (.int 0), (.int 0), (.int 0)] (.int 0) ∧ Fld Z h o0 OwnK0 "segmentLimit" "[I" (.ref w4) ∧ Fld Z h o0 OwnK0 "cursor" "I" (.int (-1))) := by
  refine own_entry pf_com_example_wirelens_wirelens_wire_GroupEnds__init____V (fun m => ef_sp1 m o0) ?_
  intro p e s m below meth c T0 X0 hC e0
  obtain ⟨hx, hby, hml, hown, hnm, hret, hlk, hZ⟩ := hC
  have N0 := Fr.nil n0
  have K0 := Keep.refl h0 [o0]
  refine own_go T0 m 1 #[rv o0] [(.ref o0)] (fun t k => XS.aloadN X0.here hx rfl (hb hby d1_0) rfl rfl k) ?_
  obtain ⟨T1, X1, e1, st1⟩ := initO X0 hx hZ hown (own_w hw 7 rfl) (own_w hw 8 rfl) (own_w hw 9 rfl) e0 (g := (mkF m 1 #[rv o0] [(.ref o0)])) rfl (by rw [hml]; rfl) rfl (hb hby d1_1) (by decide) (W := 0) (by show 2 * 0 + _ ≤ _; exact Nat.le_of_eq rfl) (by decide)
  refine own_go T1 m 4 #[rv o0] [] (st1) ?_
  refine own_go T1 m 5 #[rv o0] [(.ref o0)] (fun t k => XS.aloadN X1.here hx rfl (hb hby d1_4) rfl rfl k) ?_
  refine own_go T1 m 7 #[rv o0] [(.int 8), (.ref o0)] (fun t k => XS.bipush X1.here hx rfl (hb hby d1_5) k) ?_
  obtain ⟨T2, h2, k2, X2, e2, E2, A2, st2⟩ := newP X1 hx hZ (own_w hw 10 rfl) e1 (g := (mkF m 7 #[rv o0] [(.int 8), (.ref o0)])) rfl (hb hby d1_7) rfl (by decide) (cap := 8) (by decide) (by decide) (by decide) (by decide)
  obtain ⟨b2, g2⟩ : ∃ z, z = h0.size := ⟨_, rfl⟩
  rw [← g2] at A2 st2
  have ne_o0_b2 : o0 ≠ b2 := Nat.ne_of_lt (Nat.lt_of_lt_of_eq E_o0.lt g2.symm)
  have g_b2 : n0 ≤ b2 := Nat.le_trans Z0 (Nat.le_of_eq g2.symm)
  have sz_b2 : h0.size ≤ b2 := Nat.le_trans K0.1 (Nat.le_of_eq g2.symm)
  have cf3 := E_o0.ext E2
  have cf4 := F_count_o0.ext E2
  have cf5 := F_cursor_o0.ext E2
  have cf6 := F_ends_o0.ext E2
  have cf7 := F_lastOpened_o0.ext E2
  have cf8 := F_segmentEnd_o0.ext E2
  have cf9 := F_segmentFirst_o0.ext E2
  have cf10 := F_segmentLimit_o0.ext E2
  have cf11 := F_segments_o0.ext E2
  have cf12 := F_starts_o0.ext E2
  have Z_2 : n0 ≤ h2.size := Nat.le_trans Z0 E2.1
  have K_2 : Keep h0 h2 [o0] := K0.ext E2
  have V_b2 : Arv Z h2 b2 k2 .int (8 : Int32) [(.int 0), (.int 0), (.int 0), (.int 0), (.int 0), (.int 0), (.int 0), (.int 0)] (.int 0) := (Arv.new A2 (by decide)).pad (pad_rep [] (.int 0) 8)
  refine own_go T2 m 9 #[rv o0] [(.ref b2), (.ref o0)] (st2) ?_
  obtain ⟨T13, h13, X13, e13, W13, st13⟩ := putF X2 hx hZ hown (host := "") (Or.inl (own_w hw 11 rfl)) Via.refl e2 cf12 cf3 (Or.inl (own_w hw 12 rfl)) (own_w hw 2 rfl) (ty := (.array .int)) (by decide) rfl rfl (g := (mkF m 9 #[rv o0] [(.ref b2), (.ref o0)])) rfl rfl (hb hby d1_9)
  have F13 := cf12.same W13
  have cf14 := cf3.wr W13
  have cf15 := cf4.other W13 (Or.inr (slot_ne (Or.inl (own_w hw 31 rfl)) (Or.inl (own_w hw 12 rfl)) (by decide) (t := .int) (t' := (.array .int)) (by decide) (by decide)))
  have cf16 := cf5.other W13 (Or.inr (slot_ne (Or.inl (own_w hw 22 rfl)) (Or.inl (own_w hw 12 rfl)) (by decide) (t := .int) (t' := (.array .int)) (by decide) (by decide)))
  have cf17 := cf6.other W13 (Or.inr (slot_ne (Or.inl (own_w hw 14 rfl)) (Or.inl (own_w hw 12 rfl)) (by decide) (t := (.array .int)) (t' := (.array .int)) (by decide) (by decide)))
  have cf18 := cf7.other W13 (Or.inr (slot_ne (Or.inl (own_w hw 38 rfl)) (Or.inl (own_w hw 12 rfl)) (by decide) (t := .int) (t' := (.array .int)) (by decide) (by decide)))
  have cf19 := cf8.other W13 (Or.inr (slot_ne (Or.inl (own_w hw 18 rfl)) (Or.inl (own_w hw 12 rfl)) (by decide) (t := (.array .int)) (t' := (.array .int)) (by decide) (by decide)))
  have cf20 := cf9.other W13 (Or.inr (slot_ne (Or.inl (own_w hw 16 rfl)) (Or.inl (own_w hw 12 rfl)) (by decide) (t := (.array .int)) (t' := (.array .int)) (by decide) (by decide)))
  have cf21 := cf10.other W13 (Or.inr (slot_ne (Or.inl (own_w hw 20 rfl)) (Or.inl (own_w hw 12 rfl)) (by decide) (t := (.array .int)) (t' := (.array .int)) (by decide) (by decide)))
  have cf22 := cf11.other W13 (Or.inr (slot_ne (Or.inl (own_w hw 29 rfl)) (Or.inl (own_w hw 12 rfl)) (by decide) (t := .int) (t' := (.array .int)) (by decide) (by decide)))
  have cf23 := V_b2.other W13 (Ne.symm ne_o0_b2)
  have Z_13 : n0 ≤ h13.size := Nat.le_trans Z_2 (Keep.of_wr W13).1
  have K_13 : Keep h0 h13 [o0] := K_2.wr W13 (own_i 0 rfl)
  have N13 := Fr.snoc X13 N0 g_o0
  refine own_go T13 m 12 #[rv o0] [] (st13) ?_
  refine own_go T13 m 13 #[rv o0] [(.ref o0)] (fun t k => XS.aloadN X13.here hx rfl (hb hby d1_12) rfl rfl k) ?_
  refine own_go T13 m 15 #[rv o0] [(.int 8), (.ref o0)] (fun t k => XS.bipush X13.here hx rfl (hb hby d1_13) k) ?_
  obtain ⟨T24, h24, k24, X24, e24, E24, A24, st24⟩ := newP X13 hx hZ (own_w hw 10 rfl) e13 (g := (mkF m 15 #[rv o0] [(.int 8), (.ref o0)])) rfl (hb hby d1_15) rfl (by decide) (cap := 8) (by decide) (by decide) (by decide) (by decide)
  obtain ⟨b24, g24⟩ : ∃ z, z = h13.size := ⟨_, rfl⟩
  rw [← g24] at A24 st24
  have ne_o0_b24 : o0 ≠ b24 := Nat.ne_of_lt (Nat.lt_of_lt_of_eq cf14.lt g24.symm)
  have ne_b2_b24 : b2 ≠ b24 := Nat.ne_of_lt (Nat.lt_of_lt_of_eq cf23.lt g24.symm)
  have g_b24 : n0 ≤ b24 := Nat.le_trans Z_13 (Nat.le_of_eq g24.symm)
  have sz_b24 : h0.size ≤ b24 := Nat.le_trans K_13.1 (Nat.le_of_eq g24.symm)
  have cf25 := cf14.ext E24
  have cf26 := cf15.ext E24
  have cf27 := cf16.ext E24
  have cf28 := cf17.ext E24
  have cf29 := cf18.ext E24
  have cf30 := cf19.ext E24
  have cf31 := cf20.ext E24
  have cf32 := cf21.ext E24
  have cf33 := cf22.ext E24
  have cf34 := cf23.ext E24
  have cf35 := F13.ext E24
  have Z_24 : n0 ≤ h24.size := Nat.le_trans Z_13 E24.1
  have K_24 : Keep h0 h24 [o0] := K_13.ext E24
  have V_b24 : Arv Z h24 b24 k24 .int (8 : Int32) [(.int 0), (.int 0), (.int 0), (.int 0), (.int 0), (.int 0), (.int 0), (.int 0)] (.int 0) := (Arv.new A24 (by decide)).pad (pad_rep [] (.int 0) 8)
  refine own_go T24 m 17 #[rv o0] [(.ref b24), (.ref o0)] (st24) ?_
  obtain ⟨T36, h36, X36, e36, W36, st36⟩ := putF X24 hx hZ hown (host := "") (Or.inl (own_w hw 13 rfl)) Via.refl e24 cf28 cf25 (Or.inl (own_w hw 14 rfl)) (own_w hw 2 rfl) (ty := (.array .int)) (by decide) rfl rfl (g := (mkF m 17 #[rv o0] [(.ref b24), (.ref o0)])) rfl rfl (hb hby d1_17)
  have F36 := cf28.same W36
  have cf37 := cf25.wr W36
  have cf38 := cf26.other W36 (Or.inr (slot_ne (Or.inl (own_w hw 31 rfl)) (Or.inl (own_w hw 14 rfl)) (by decide) (t := .int) (t' := (.array .int)) (by decide) (by decide)))
  have cf39 := cf27.other W36 (Or.inr (slot_ne (Or.inl (own_w hw 22 rfl)) (Or.inl (own_w hw 14 rfl)) (by decide) (t := .int) (t' := (.array .int)) (by decide) (by decide)))
  have cf40 := cf29.other W36 (Or.inr (slot_ne (Or.inl (own_w hw 38 rfl)) (Or.inl (own_w hw 14 rfl)) (by decide) (t := .int) (t' := (.array .int)) (by decide) (by decide)))
  have cf41 := cf30.other W36 (Or.inr (slot_ne (Or.inl (own_w hw 18 rfl)) (Or.inl (own_w hw 14 rfl)) (by decide) (t := (.array .int)) (t' := (.array .int)) (by decide) (by decide)))
  have cf42 := cf31.other W36 (Or.inr (slot_ne (Or.inl (own_w hw 16 rfl)) (Or.inl (own_w hw 14 rfl)) (by decide) (t := (.array .int)) (t' := (.array .int)) (by decide) (by decide)))
  have cf43 := cf32.other W36 (Or.inr (slot_ne (Or.inl (own_w hw 20 rfl)) (Or.inl (own_w hw 14 rfl)) (by decide) (t := (.array .int)) (t' := (.array .int)) (by decide) (by decide)))
  have cf44 := cf33.other W36 (Or.inr (slot_ne (Or.inl (own_w hw 29 rfl)) (Or.inl (own_w hw 14 rfl)) (by decide) (t := .int) (t' := (.array .int)) (by decide) (by decide)))
  have cf45 := cf34.other W36 (Ne.symm ne_o0_b2)
  have cf46 := cf35.other W36 (Or.inr (slot_ne (Or.inl (own_w hw 12 rfl)) (Or.inl (own_w hw 14 rfl)) (by decide) (t := (.array .int)) (t' := (.array .int)) (by decide) (by decide)))
  have cf47 := V_b24.other W36 (Ne.symm ne_o0_b24)
  have Z_36 : n0 ≤ h36.size := Nat.le_trans Z_24 (Keep.of_wr W36).1
  have K_36 : Keep h0 h36 [o0] := K_24.wr W36 (own_i 0 rfl)
  have N36 := Fr.snoc X36 N13 g_o0
  refine own_go T36 m 20 #[rv o0] [] (st36) ?_
  refine own_go T36 m 21 #[rv o0] [(.ref o0)] (fun t k => XS.aloadN X36.here hx rfl (hb hby d1_20) rfl rfl k) ?_
  refine own_go T36 m 23 #[rv o0] [(.int 8), (.ref o0)] (fun t k => XS.bipush X36.here hx rfl (hb hby d1_21) k) ?_
  obtain ⟨T48, h48, k48, X48, e48, E48, A48, st48⟩ := newP X36 hx hZ (own_w hw 10 rfl) e36 (g := (mkF m 23 #[rv o0] [(.int 8), (.ref o0)])) rfl (hb hby d1_23) rfl (by decide) (cap := 8) (by decide) (by decide) (by decide) (by decide)
  obtain ⟨b48, g48⟩ : ∃ z, z = h36.size := ⟨_, rfl⟩
  rw [← g48] at A48 st48
  have ne_o0_b48 : o0 ≠ b48 := Nat.ne_of_lt (Nat.lt_of_lt_of_eq cf37.lt g48.symm)
  have ne_b2_b48 : b2 ≠ b48 := Nat.ne_of_lt (Nat.lt_of_lt_of_eq cf45.lt g48.symm)
  have ne_b24_b48 : b24 ≠ b48 := Nat.ne_of_lt (Nat.lt_of_lt_of_eq cf47.lt g48.symm)
  have g_b48 : n0 ≤ b48 := Nat.le_trans Z_36 (Nat.le_of_eq g48.symm)
  have sz_b48 : h0.size ≤ b48 := Nat.le_trans K_36.1 (Nat.le_of_eq g48.symm)
  have cf49 := cf37.ext E48
  have cf50 := cf38.ext E48
  have cf51 := cf39.ext E48
  have cf52 := cf40.ext E48
  have cf53 := cf41.ext E48
  have cf54 := cf42.ext E48
  have cf55 := cf43.ext E48
  have cf56 := cf44.ext E48
  have cf57 := cf45.ext E48
  have cf58 := cf46.ext E48
  have cf59 := cf47.ext E48
  have cf60 := F36.ext E48
  have Z_48 : n0 ≤ h48.size := Nat.le_trans Z_36 E48.1
  have K_48 : Keep h0 h48 [o0] := K_36.ext E48
  have V_b48 : Arv Z h48 b48 k48 .int (8 : Int32) [(.int 0), (.int 0), (.int 0), (.int 0), (.int 0), (.int 0), (.int 0), (.int 0)] (.int 0) := (Arv.new A48 (by decide)).pad (pad_rep [] (.int 0) 8)
  refine own_go T48 m 25 #[rv o0] [(.ref b48), (.ref o0)] (st48) ?_
  obtain ⟨T61, h61, X61, e61, W61, st61⟩ := putF X48 hx hZ hown (host := "") (Or.inl (own_w hw 15 rfl)) Via.refl e48 cf54 cf49 (Or.inl (own_w hw 16 rfl)) (own_w hw 2 rfl) (ty := (.array .int)) (by decide) rfl rfl (g := (mkF m 25 #[rv o0] [(.ref b48), (.ref o0)])) rfl rfl (hb hby d1_25)
  have F61 := cf54.same W61
  have cf62 := cf49.wr W61
  have cf63 := cf50.other W61 (Or.inr (slot_ne (Or.inl (own_w hw 31 rfl)) (Or.inl (own_w hw 16 rfl)) (by decide) (t := .int) (t' := (.array .int)) (by decide) (by decide)))
  have cf64 := cf51.other W61 (Or.inr (slot_ne (Or.inl (own_w hw 22 rfl)) (Or.inl (own_w hw 16 rfl)) (by decide) (t := .int) (t' := (.array .int)) (by decide) (by decide)))
  have cf65 := cf52.other W61 (Or.inr (slot_ne (Or.inl (own_w hw 38 rfl)) (Or.inl (own_w hw 16 rfl)) (by decide) (t := .int) (t' := (.array .int)) (by decide) (by decide)))
  have cf66 := cf53.other W61 (Or.inr (slot_ne (Or.inl (own_w hw 18 rfl)) (Or.inl (own_w hw 16 rfl)) (by decide) (t := (.array .int)) (t' := (.array .int)) (by decide) (by decide)))
  have cf67 := cf55.other W61 (Or.inr (slot_ne (Or.inl (own_w hw 20 rfl)) (Or.inl (own_w hw 16 rfl)) (by decide) (t := (.array .int)) (t' := (.array .int)) (by decide) (by decide)))
  have cf68 := cf56.other W61 (Or.inr (slot_ne (Or.inl (own_w hw 29 rfl)) (Or.inl (own_w hw 16 rfl)) (by decide) (t := .int) (t' := (.array .int)) (by decide) (by decide)))
  have cf69 := cf57.other W61 (Ne.symm ne_o0_b2)
  have cf70 := cf58.other W61 (Or.inr (slot_ne (Or.inl (own_w hw 12 rfl)) (Or.inl (own_w hw 16 rfl)) (by decide) (t := (.array .int)) (t' := (.array .int)) (by decide) (by decide)))
  have cf71 := cf59.other W61 (Ne.symm ne_o0_b24)
  have cf72 := cf60.other W61 (Or.inr (slot_ne (Or.inl (own_w hw 14 rfl)) (Or.inl (own_w hw 16 rfl)) (by decide) (t := (.array .int)) (t' := (.array .int)) (by decide) (by decide)))
  have cf73 := V_b48.other W61 (Ne.symm ne_o0_b48)
  have Z_61 : n0 ≤ h61.size := Nat.le_trans Z_48 (Keep.of_wr W61).1
  have K_61 : Keep h0 h61 [o0] := K_48.wr W61 (own_i 0 rfl)
  have N61 := Fr.snoc X61 N36 g_o0
  refine own_go T61 m 28 #[rv o0] [] (st61) ?_
  refine own_go T61 m 29 #[rv o0] [(.ref o0)] (fun t k => XS.aloadN X61.here hx rfl (hb hby d1_28) rfl rfl k) ?_
  refine own_go T61 m 31 #[rv o0] [(.int 8), (.ref o0)] (fun t k => XS.bipush X61.here hx rfl (hb hby d1_29) k) ?_
  obtain ⟨T74, h74, k74, X74, e74, E74, A74, st74⟩ := newP X61 hx hZ (own_w hw 10 rfl) e61 (g := (mkF m 31 #[rv o0] [(.int 8), (.ref o0)])) rfl (hb hby d1_31) rfl (by decide) (cap := 8) (by decide) (by decide) (by decide) (by decide)
  obtain ⟨b74, g74⟩ : ∃ z, z = h61.size := ⟨_, rfl⟩
  rw [← g74] at A74 st74
  have ne_o0_b74 : o0 ≠ b74 := Nat.ne_of_lt (Nat.lt_of_lt_of_eq cf62.lt g74.symm)
  have ne_b2_b74 : b2 ≠ b74 := Nat.ne_of_lt (Nat.lt_of_lt_of_eq cf69.lt g74.symm)
  have ne_b24_b74 : b24 ≠ b74 := Nat.ne_of_lt (Nat.lt_of_lt_of_eq cf71.lt g74.symm)
  have ne_b48_b74 : b48 ≠ b74 := Nat.ne_of_lt (Nat.lt_of_lt_of_eq cf73.lt g74.symm)
  have g_b74 : n0 ≤ b74 := Nat.le_trans Z_61 (Nat.le_of_eq g74.symm)
  have sz_b74 : h0.size ≤ b74 := Nat.le_trans K_61.1 (Nat.le_of_eq g74.symm)
  have cf75 := cf62.ext E74
  have cf76 := cf63.ext E74
  have cf77 := cf64.ext E74
  have cf78 := cf65.ext E74
  have cf79 := cf66.ext E74
  have cf80 := cf67.ext E74
  have cf81 := cf68.ext E74
  have cf82 := cf69.ext E74
  have cf83 := cf70.ext E74
  have cf84 := cf71.ext E74
  have cf85 := cf72.ext E74
  have cf86 := cf73.ext E74
  have cf87 := F61.ext E74
  have Z_74 : n0 ≤ h74.size := Nat.le_trans Z_61 E74.1
  have K_74 : Keep h0 h74 [o0] := K_61.ext E74
  have V_b74 : Arv Z h74 b74 k74 .int (8 : Int32) [(.int 0), (.int 0), (.int 0), (.int 0), (.int 0), (.int 0), (.int 0), (.int 0)] (.int 0) := (Arv.new A74 (by decide)).pad (pad_rep [] (.int 0) 8)
  refine own_go T74 m 33 #[rv o0] [(.ref b74), (.ref o0)] (st74) ?_
  obtain ⟨T88, h88, X88, e88, W88, st88⟩ := putF X74 hx hZ hown (host := "") (Or.inl (own_w hw 17 rfl)) Via.refl e74 cf79 cf75 (Or.inl (own_w hw 18 rfl)) (own_w hw 2 rfl) (ty := (.array .int)) (by decide) rfl rfl (g := (mkF m 33 #[rv o0] [(.ref b74), (.ref o0)])) rfl rfl (hb hby d1_33)
  have F88 := cf79.same W88
  have cf89 := cf75.wr W88
  have cf90 := cf76.other W88 (Or.inr (slot_ne (Or.inl (own_w hw 31 rfl)) (Or.inl (own_w hw 18 rfl)) (by decide) (t := .int) (t' := (.array .int)) (by decide) (by decide)))
  have cf91 := cf77.other W88 (Or.inr (slot_ne (Or.inl (own_w hw 22 rfl)) (Or.inl (own_w hw 18 rfl)) (by decide) (t := .int) (t' := (.array .int)) (by decide) (by decide)))
  have cf92 := cf78.other W88 (Or.inr (slot_ne (Or.inl (own_w hw 38 rfl)) (Or.inl (own_w hw 18 rfl)) (by decide) (t := .int) (t' := (.array .int)) (by decide) (by decide)))
  have cf93 := cf80.other W88 (Or.inr (slot_ne (Or.inl (own_w hw 20 rfl)) (Or.inl (own_w hw 18 rfl)) (by decide) (t := (.array .int)) (t' := (.array .int)) (by decide) (by decide)))
  have cf94 := cf81.other W88 (Or.inr (slot_ne (Or.inl (own_w hw 29 rfl)) (Or.inl (own_w hw 18 rfl)) (by decide) (t := .int) (t' := (.array .int)) (by decide) (by decide)))
  have cf95 := cf82.other W88 (Ne.symm ne_o0_b2)
  have cf96 := cf83.other W88 (Or.inr (slot_ne (Or.inl (own_w hw 12 rfl)) (Or.inl (own_w hw 18 rfl)) (by decide) (t := (.array .int)) (t' := (.array .int)) (by decide) (by decide)))
  have cf97 := cf84.other W88 (Ne.symm ne_o0_b24)
  have cf98 := cf85.other W88 (Or.inr (slot_ne (Or.inl (own_w hw 14 rfl)) (Or.inl (own_w hw 18 rfl)) (by decide) (t := (.array .int)) (t' := (.array .int)) (by decide) (by decide)))
  have cf99 := cf86.other W88 (Ne.symm ne_o0_b48)
  have cf100 := cf87.other W88 (Or.inr (slot_ne (Or.inl (own_w hw 16 rfl)) (Or.inl (own_w hw 18 rfl)) (by decide) (t := (.array .int)) (t' := (.array .int)) (by decide) (by decide)))
  have cf101 := V_b74.other W88 (Ne.symm ne_o0_b74)
  have Z_88 : n0 ≤ h88.size := Nat.le_trans Z_74 (Keep.of_wr W88).1
  have K_88 : Keep h0 h88 [o0] := K_74.wr W88 (own_i 0 rfl)
  have N88 := Fr.snoc X88 N61 g_o0
  refine own_go T88 m 36 #[rv o0] [] (st88) ?_
  refine own_go T88 m 37 #[rv o0] [(.ref o0)] (fun t k => XS.aloadN X88.here hx rfl (hb hby d1_36) rfl rfl k) ?_
  refine own_go T88 m 39 #[rv o0] [(.int 8), (.ref o0)] (fun t k => XS.bipush X88.here hx rfl (hb hby d1_37) k) ?_
  obtain ⟨T102, h102, k102, X102, e102, E102, A102, st102⟩ := newP X88 hx hZ (own_w hw 10 rfl) e88 (g := (mkF m 39 #[rv o0] [(.int 8), (.ref o0)])) rfl (hb hby d1_39) rfl (by decide) (cap := 8) (by decide) (by decide) (by decide) (by decide)
  obtain ⟨b102, g102⟩ : ∃ z, z = h88.size := ⟨_, rfl⟩
  rw [← g102] at A102 st102
  have ne_o0_b102 : o0 ≠ b102 := Nat.ne_of_lt (Nat.lt_of_lt_of_eq cf89.lt g102.symm)
  have ne_b2_b102 : b2 ≠ b102 := Nat.ne_of_lt (Nat.lt_of_lt_of_eq cf95.lt g102.symm)
  have ne_b24_b102 : b24 ≠ b102 := Nat.ne_of_lt (Nat.lt_of_lt_of_eq cf97.lt g102.symm)
  have ne_b48_b102 : b48 ≠ b102 := Nat.ne_of_lt (Nat.lt_of_lt_of_eq cf99.lt g102.symm)
  have ne_b74_b102 : b74 ≠ b102 := Nat.ne_of_lt (Nat.lt_of_lt_of_eq cf101.lt g102.symm)
  have g_b102 : n0 ≤ b102 := Nat.le_trans Z_88 (Nat.le_of_eq g102.symm)
  have sz_b102 : h0.size ≤ b102 := Nat.le_trans K_88.1 (Nat.le_of_eq g102.symm)
  have cf103 := cf89.ext E102
  have cf104 := cf90.ext E102
  have cf105 := cf91.ext E102
  have cf106 := cf92.ext E102
  have cf107 := cf93.ext E102
  have cf108 := cf94.ext E102
  have cf109 := cf95.ext E102
  have cf110 := cf96.ext E102
  have cf111 := cf97.ext E102
  have cf112 := cf98.ext E102
  have cf113 := cf99.ext E102
  have cf114 := cf100.ext E102
  have cf115 := cf101.ext E102
  have cf116 := F88.ext E102
  have Z_102 : n0 ≤ h102.size := Nat.le_trans Z_88 E102.1
  have K_102 : Keep h0 h102 [o0] := K_88.ext E102
  have V_b102 : Arv Z h102 b102 k102 .int (8 : Int32) [(.int 0), (.int 0), (.int 0), (.int 0), (.int 0), (.int 0), (.int 0), (.int 0)] (.int 0) := (Arv.new A102 (by decide)).pad (pad_rep [] (.int 0) 8)
  refine own_go T102 m 41 #[rv o0] [(.ref b102), (.ref o0)] (st102) ?_
  obtain ⟨T117, h117, X117, e117, W117, st117⟩ := putF X102 hx hZ hown (host := "") (Or.inl (own_w hw 19 rfl)) Via.refl e102 cf107 cf103 (Or.inl (own_w hw 20 rfl)) (own_w hw 2 rfl) (ty := (.array .int)) (by decide) rfl rfl (g := (mkF m 41 #[rv o0] [(.ref b102), (.ref o0)])) rfl rfl (hb hby d1_41)
  have F117 := cf107.same W117
  have cf118 := cf103.wr W117
  have cf119 := cf104.other W117 (Or.inr (slot_ne (Or.inl (own_w hw 31 rfl)) (Or.inl (own_w hw 20 rfl)) (by decide) (t := .int) (t' := (.array .int)) (by decide) (by decide)))
  have cf120 := cf105.other W117 (Or.inr (slot_ne (Or.inl (own_w hw 22 rfl)) (Or.inl (own_w hw 20 rfl)) (by decide) (t := .int) (t' := (.array .int)) (by decide) (by decide)))
  have cf121 := cf106.other W117 (Or.inr (slot_ne (Or.inl (own_w hw 38 rfl)) (Or.inl (own_w hw 20 rfl)) (by decide) (t := .int) (t' := (.array .int)) (by decide) (by decide)))
  have cf122 := cf108.other W117 (Or.inr (slot_ne (Or.inl (own_w hw 29 rfl)) (Or.inl (own_w hw 20 rfl)) (by decide) (t := .int) (t' := (.array .int)) (by decide) (by decide)))
  have cf123 := cf109.other W117 (Ne.symm ne_o0_b2)
  have cf124 := cf110.other W117 (Or.inr (slot_ne (Or.inl (own_w hw 12 rfl)) (Or.inl (own_w hw 20 rfl)) (by decide) (t := (.array .int)) (t' := (.array .int)) (by decide) (by decide)))
  have cf125 := cf111.other W117 (Ne.symm ne_o0_b24)
  have cf126 := cf112.other W117 (Or.inr (slot_ne (Or.inl (own_w hw 14 rfl)) (Or.inl (own_w hw 20 rfl)) (by decide) (t := (.array .int)) (t' := (.array .int)) (by decide) (by decide)))
  have cf127 := cf113.other W117 (Ne.symm ne_o0_b48)
  have cf128 := cf114.other W117 (Or.inr (slot_ne (Or.inl (own_w hw 16 rfl)) (Or.inl (own_w hw 20 rfl)) (by decide) (t := (.array .int)) (t' := (.array .int)) (by decide) (by decide)))
  have cf129 := cf115.other W117 (Ne.symm ne_o0_b74)
  have cf130 := cf116.other W117 (Or.inr (slot_ne (Or.inl (own_w hw 18 rfl)) (Or.inl (own_w hw 20 rfl)) (by decide) (t := (.array .int)) (t' := (.array .int)) (by decide) (by decide)))
  have cf131 := V_b102.other W117 (Ne.symm ne_o0_b102)
  have Z_117 : n0 ≤ h117.size := Nat.le_trans Z_102 (Keep.of_wr W117).1
  have K_117 : Keep h0 h117 [o0] := K_102.wr W117 (own_i 0 rfl)
  have N117 := Fr.snoc X117 N88 g_o0
  refine own_go T117 m 44 #[rv o0] [] (st117) ?_
  refine own_go T117 m 45 #[rv o0] [(.ref o0)] (fun t k => XS.aloadN X117.here hx rfl (hb hby d1_44) rfl rfl k) ?_
  refine own_go T117 m 46 #[rv o0] [(.int (-1)), (.ref o0)] (fun t k => XS.iconst X117.here hx rfl (hb hby d1_45) k) ?_
  obtain ⟨T132, h132, X132, e132, W132, st132⟩ := putF X117 hx hZ hown (host := "") (Or.inl (own_w hw 21 rfl)) Via.refl e117 cf120 cf118 (Or.inl (own_w hw 22 rfl)) (own_w hw 2 rfl) (ty := .int) (by decide) rfl rfl (g := (mkF m 46 #[rv o0] [(.int (-1)), (.ref o0)])) rfl rfl (hb hby d1_46)
  have F132 := cf120.same W132
  have cf133 := cf118.wr W132
  have cf134 := cf119.other W132 (Or.inr (slot_ne (Or.inl (own_w hw 31 rfl)) (Or.inl (own_w hw 22 rfl)) (by decide) (t := .int) (t' := .int) (by decide) (by decide)))
  have cf135 := cf121.other W132 (Or.inr (slot_ne (Or.inl (own_w hw 38 rfl)) (Or.inl (own_w hw 22 rfl)) (by decide) (t := .int) (t' := .int) (by decide) (by decide)))
  have cf136 := cf122.other W132 (Or.inr (slot_ne (Or.inl (own_w hw 29 rfl)) (Or.inl (own_w hw 22 rfl)) (by decide) (t := .int) (t' := .int) (by decide) (by decide)))
  have cf137 := cf123.other W132 (Ne.symm ne_o0_b2)
  have cf138 := cf124.other W132 (Or.inr (slot_ne (Or.inl (own_w hw 12 rfl)) (Or.inl (own_w hw 22 rfl)) (by decide) (t := (.array .int)) (t' := .int) (by decide) (by decide)))
  have cf139 := cf125.other W132 (Ne.symm ne_o0_b24)
  have cf140 := cf126.other W132 (Or.inr (slot_ne (Or.inl (own_w hw 14 rfl)) (Or.inl (own_w hw 22 rfl)) (by decide) (t := (.array .int)) (t' := .int) (by decide) (by decide)))
  have cf141 := cf127.other W132 (Ne.symm ne_o0_b48)
  have cf142 := cf128.other W132 (Or.inr (slot_ne (Or.inl (own_w hw 16 rfl)) (Or.inl (own_w hw 22 rfl)) (by decide) (t := (.array .int)) (t' := .int) (by decide) (by decide)))
  have cf143 := cf129.other W132 (Ne.symm ne_o0_b74)
  have cf144 := cf130.other W132 (Or.inr (slot_ne (Or.inl (own_w hw 18 rfl)) (Or.inl (own_w hw 22 rfl)) (by decide) (t := (.array .int)) (t' := .int) (by decide) (by decide)))
  have cf145 := cf131.other W132 (Ne.symm ne_o0_b102)
  have cf146 := F117.other W132 (Or.inr (slot_ne (Or.inl (own_w hw 20 rfl)) (Or.inl (own_w hw 22 rfl)) (by decide) (t := (.array .int)) (t' := .int) (by decide) (by decide)))
  have Z_132 : n0 ≤ h132.size := Nat.le_trans Z_117 (Keep.of_wr W132).1
  have K_132 : Keep h0 h132 [o0] := K_117.wr W132 (own_i 0 rfl)
  have N132 := Fr.snoc X132 N117 g_o0
  refine own_go T132 m 49 #[rv o0] [] (st132) ?_
  refine own_retV X132 hx hlk hret (hb hby d1_49) (by decide) (by decide) ?_
  rw [e132]
  exact ⟨b2, b24, b48, b74, b102, k2, k24, k48, k74, k102, rfl, N132, K_132, ⟨sz_b2, g_b2⟩, ⟨sz_b24, g_b24⟩, ⟨sz_b48, g_b48⟩, ⟨sz_b74, g_b74⟩, ⟨sz_b102, g_b102⟩, ne_b2_b24, ne_b2_b48, ne_b2_b74, ne_b2_b102, ne_b24_b48, ne_b24_b74, ne_b24_b102, ne_b48_b74, ne_b48_b102, ne_b74_b102, cf134, cf135, cf136, cf137, cf138, cf139, cf140, cf141, cf142, cf143, cf144, cf145, cf146, F132⟩
theorem d3_0 : decode prog_48_method_5_code 0 = .ok (.aload_n 0, 1) := by decide +kernel
theorem d3_1 : decode prog_48_method_5_code 1 = .ok (.getfield 29, 3) := by decide +kernel
theorem d3_4 : decode prog_48_method_5_code 4 = .ok (.aload_n 0, 1) := by decide +kernel
theorem d3_5 : decode prog_48_method_5_code 5 = .ok (.getfield 16, 3) := by decide +kernel
theorem d3_8 : decode prog_48_method_5_code 8 = .ok (.arraylength, 1) := by decide +kernel
theorem d3_9 : decode prog_48_method_5_code 9 = .ok (.if_icmp .ne 54, 3) := by decide +kernel
theorem d3_12 : decode prog_48_method_5_code 12 = .ok (.aload_n 0, 1) := by decide +kernel
theorem d3_13 : decode prog_48_method_5_code 13 = .ok (.aload_n 0, 1) := by decide +kernel
theorem d3_14 : decode prog_48_method_5_code 14 = .ok (.getfield 16, 3) := by decide +kernel
theorem d3_17 : decode prog_48_method_5_code 17 = .ok (.iconst 2, 1) := by decide +kernel
theorem d3_18 : decode prog_48_method_5_code 18 = .ok (.aload_n 0, 1) := by decide +kernel
theorem d3_19 : decode prog_48_method_5_code 19 = .ok (.getfield 29, 3) := by decide +kernel
theorem d3_22 : decode prog_48_method_5_code 22 = .ok (.imul, 1) := by decide +kernel
theorem d3_23 : decode prog_48_method_5_code 23 = .ok (.invokestatic 49, 3) := by decide +kernel
theorem d3_26 : decode prog_48_method_5_code 26 = .ok (.putfield 16, 3) := by decide +kernel
theorem d3_29 : decode prog_48_method_5_code 29 = .ok (.aload_n 0, 1) := by decide +kernel
theorem d3_30 : decode prog_48_method_5_code 30 = .ok (.aload_n 0, 1) := by decide +kernel
theorem d3_31 : decode prog_48_method_5_code 31 = .ok (.getfield 19, 3) := by decide +kernel
theorem d3_34 : decode prog_48_method_5_code 34 = .ok (.iconst 2, 1) := by decide +kernel
theorem d3_35 : decode prog_48_method_5_code 35 = .ok (.aload_n 0, 1) := by decide +kernel
theorem d3_36 : decode prog_48_method_5_code 36 = .ok (.getfield 29, 3) := by decide +kernel
theorem d3_39 : decode prog_48_method_5_code 39 = .ok (.imul, 1) := by decide +kernel
theorem d3_40 : decode prog_48_method_5_code 40 = .ok (.invokestatic 49, 3) := by decide +kernel
theorem d3_43 : decode prog_48_method_5_code 43 = .ok (.putfield 19, 3) := by decide +kernel
theorem d3_46 : decode prog_48_method_5_code 46 = .ok (.aload_n 0, 1) := by decide +kernel
theorem d3_47 : decode prog_48_method_5_code 47 = .ok (.aload_n 0, 1) := by decide +kernel
theorem d3_48 : decode prog_48_method_5_code 48 = .ok (.getfield 22, 3) := by decide +kernel
theorem d3_51 : decode prog_48_method_5_code 51 = .ok (.iconst 2, 1) := by decide +kernel
theorem d3_52 : decode prog_48_method_5_code 52 = .ok (.aload_n 0, 1) := by decide +kernel
theorem d3_53 : decode prog_48_method_5_code 53 = .ok (.getfield 29, 3) := by decide +kernel
theorem d3_56 : decode prog_48_method_5_code 56 = .ok (.imul, 1) := by decide +kernel
theorem d3_57 : decode prog_48_method_5_code 57 = .ok (.invokestatic 49, 3) := by decide +kernel
theorem d3_60 : decode prog_48_method_5_code 60 = .ok (.putfield 22, 3) := by decide +kernel
theorem d3_63 : decode prog_48_method_5_code 63 = .ok (.aload_n 0, 1) := by decide +kernel
theorem d3_64 : decode prog_48_method_5_code 64 = .ok (.getfield 16, 3) := by decide +kernel
theorem d3_67 : decode prog_48_method_5_code 67 = .ok (.aload_n 0, 1) := by decide +kernel
theorem d3_68 : decode prog_48_method_5_code 68 = .ok (.getfield 29, 3) := by decide +kernel
theorem d3_71 : decode prog_48_method_5_code 71 = .ok (.aload_n 0, 1) := by decide +kernel
theorem d3_72 : decode prog_48_method_5_code 72 = .ok (.getfield 36, 3) := by decide +kernel
theorem d3_75 : decode prog_48_method_5_code 75 = .ok (.iastore, 1) := by decide +kernel
theorem d3_76 : decode prog_48_method_5_code 76 = .ok (.aload_n 0, 1) := by decide +kernel
theorem d3_77 : decode prog_48_method_5_code 77 = .ok (.getfield 22, 3) := by decide +kernel
theorem d3_80 : decode prog_48_method_5_code 80 = .ok (.aload_n 0, 1) := by decide +kernel
theorem d3_81 : decode prog_48_method_5_code 81 = .ok (.getfield 29, 3) := by decide +kernel
theorem d3_84 : decode prog_48_method_5_code 84 = .ok (.iload_n 1, 1) := by decide +kernel
theorem d3_85 : decode prog_48_method_5_code 85 = .ok (.iastore, 1) := by decide +kernel
theorem d3_86 : decode prog_48_method_5_code 86 = .ok (.aload_n 0, 1) := by decide +kernel
theorem d3_87 : decode prog_48_method_5_code 87 = .ok (.dup, 1) := by decide +kernel
theorem d3_88 : decode prog_48_method_5_code 88 = .ok (.getfield 29, 3) := by decide +kernel
theorem d3_91 : decode prog_48_method_5_code 91 = .ok (.iconst 1, 1) := by decide +kernel
theorem d3_92 : decode prog_48_method_5_code 92 = .ok (.iadd, 1) := by decide +kernel
theorem d3_93 : decode prog_48_method_5_code 93 = .ok (.putfield 29, 3) := by decide +kernel
theorem d3_96 : decode prog_48_method_5_code 96 = .ok (.aload_n 0, 1) := by decide +kernel
theorem d3_97 : decode prog_48_method_5_code 97 = .ok (.iconst (-1), 1) := by decide +kernel
theorem d3_98 : decode prog_48_method_5_code 98 = .ok (.putfield 25, 3) := by decide +kernel
theorem d3_101 : decode prog_48_method_5_code 101 = .ok (.return_, 1) := by decide +kernel
theorem pf_com_example_wirelens_wirelens_wire_GroupEnds_beginRead__I_V : plainFor (⟨OwnK0, "beginRead", "(I)V"⟩ : MethodName) = true := by first | exact plainFor_of_name (by first | (simp [plainName, overriddenIn]; done) | decide +kernel) | exact Jvm.Free.JP.mathPlain rfl (by decide +kernel) | decide +kernel
theorem ef_sp2 (m : MethodId) (q0 : Addr) (q1 : Int32) : entryFrame m #[(.ref q0), (.int q1)] 2 = mkF m 0 #[rv q0, iv q1] [] := by first | (simp [entryFrame, mkF, argsToLocals, Value.category]; done) | rfl
set_option maxRecDepth 65536 in
set_option maxHeartbeats 40000000 in
theorem sp2 (l : Launch) (Z : State) (a0 : Array Value) (hw : ∀ d ∈ tables_1, d.before a0 Z = true) (ws : List Jvm.Cond) (o0 o1 o2 o3 o4 o5 : Addr) (u0 : Int32) (c0 : ClassId) (c1 : ClassId) (h0 : Heap) (n0 : Nat) (Z0 : n0 ≤ h0.size) (E_o0 : Exa Z h0 o0 OwnK0) (F_count_o0 : Fld Z h0 o0 OwnK0 "count" "I" (.int 0)) (F_cursor_o0 : Fld Z h0 o0 OwnK0 "cursor" "I" (.int (-1))) (F_ends_o0 : Fld Z h0 o0 OwnK0 "ends" "[I" (.ref o2)) (F_lastOpened_o0 : Fld Z h0 o0 OwnK0 "lastOpened" "I" (.int 0)) (F_segmentEnd_o0 : Fld Z h0 o0 OwnK0 "segmentEnd" "[I" (.ref o4)) (F_segmentFirst_o0 : Fld Z h0 o0 OwnK0 "segmentFirst" "[I" (.ref o3)) (F_segmentLimit_o0 : Fld Z h0 o0 OwnK0 "segmentLimit" "[I" (.ref o5)) (F_segments_o0 : Fld Z h0 o0 OwnK0 "segments" "I" (.int 0)) (F_starts_o0 : Fld Z h0 o0 OwnK0 "starts" "[I" (.ref o1)) (V_o3 : Arv Z h0 o3 c0 .int (8 : Int32) [(.int 0), (.int 0), (.int 0), (.int 0), (.int 0), (.int 0), (.int 0), (.int 0)] (.int 0)) (V_o5 : Arv Z h0 o5 c1 .int (8 : Int32) [(.int 0), (.int 0), (.int 0), (.int 0), (.int 0), (.int 0), (.int 0), (.int 0)] (.int 0)) (ne_o0_o1 : o0 ≠ o1) (ne_o0_o2 : o0 ≠ o2) (ne_o0_o3 : o0 ≠ o3) (ne_o0_o4 : o0 ≠ o4) (ne_o0_o5 : o0 ≠ o5) (ne_o1_o3 : o1 ≠ o3) (ne_o1_o5 : o1 ≠ o5) (ne_o2_o3 : o2 ≠ o3) (ne_o2_o5 : o2 ≠ o5) (ne_o3_o4 : o3 ≠ o4) (ne_o3_o5 : o3 ≠ o5) (ne_o4_o5 : o4 ≠ o5) (g_o0 : n0 ≤ o0) (g_o3 : n0 ≤ o3) (g_o5 : n0 ≤ o5) :
    OwnC l Z (⟨OwnK0, "beginRead", "(I)V"⟩ : MethodName) prog_48_method_5_code 2 none ws ({ frames := 0, cells := 0, slots := 0, locals := 0 } : Room) #[(.ref o0), (.int u0)] h0 (fun v h L => v = none ∧ Fr n0 L ∧ Keep h0 h [o0, o3, o5] ∧ Fld Z h o0 OwnK0 "count" "I" (.int 0) ∧ Fld Z h o0 OwnK0 "ends" "[I" (.ref o2) ∧ Fld Z h o0 OwnK0 "lastOpened" "I" (.int 0) ∧ Fld Z h o0 OwnK0 "segmentEnd" "[I" (.ref o4) ∧ Fld Z h o0 OwnK0 "segmentFirst" "[I" (.ref o3) ∧ Fld Z h o0 OwnK0 "segmentLimit" "[I" (.ref o5) ∧ Fld Z h o0 OwnK0 "starts" "[I" (.ref o1) ∧ Arv Z h o3 c0 .int (8 : Int32) [(.int 0), (.int 0), (.int 0), (.int 0), (.int 0), (.int 0), (.int 0), (.int 0)] (.int 0) ∧ Arv Z h o5 c1 .int (8 : Int32) [(.int u0), (.int 0), (.int 0), (.int 0), (.int 0), (.int 0), (.int 0), (.int 0)] (.int 0) ∧ Fld Z h o0 OwnK0 "segments" "I" (.int 1) ∧ Fld Z h o0 OwnK0 "cursor" "I" (.int (-1))) := by
  refine own_entry pf_com_example_wirelens_wirelens_wire_GroupEnds_beginRead__I_V (fun m => ef_sp2 m o0 u0) ?_
  intro p e s m below meth c T0 X0 hC e0
  obtain ⟨hx, hby, hml, hown, hnm, hret, hlk, hZ⟩ := hC
  have N0 := Fr.nil n0
  have K0 := Keep.refl h0 [o0, o3, o5]
  refine own_go T0 m 1 #[rv o0, iv u0] [(.ref o0)] (fun t k => XS.aloadN X0.here hx rfl (hb hby d3_0) rfl rfl k) ?_
  obtain ⟨T1, X1, e1, st1⟩ := getF X0 hx hZ hown (host := "") (Or.inl (own_w hw 28 rfl)) Via.refl e0 F_segments_o0 (g := (mkF m 1 #[rv o0, iv u0] [(.ref o0)])) rfl rfl (hb hby d3_1)
  refine own_go T1 m 4 #[rv o0, iv u0] [(.int 0)] (st1) ?_
  refine own_go T1 m 5 #[rv o0, iv u0] [(.ref o0), (.int 0)] (fun t k => XS.aloadN X1.here hx rfl (hb hby d3_4) rfl rfl k) ?_
  obtain ⟨T2, X2, e2, st2⟩ := getF X1 hx hZ hown (host := "") (Or.inl (own_w hw 15 rfl)) Via.refl e1 F_segmentFirst_o0 (g := (mkF m 5 #[rv o0, iv u0] [(.ref o0), (.int 0)])) rfl rfl (hb hby d3_5)
  refine own_go T2 m 8 #[rv o0, iv u0] [(.ref o3), (.int 0)] (st2) ?_
  refine own_go T2 m 9 #[rv o0, iv u0] [(.int 8), (.int 0)] (own_alen X2 hx hZ e2 V_o3 (hb hby d3_8)) ?_
  refine own_go T2 m 63 #[rv o0, iv u0] [] (fun t k => XS.icmpYes X2.here hx rfl (pc0 := 9) (pc' := 63) rfl (hb hby d3_9) rfl (feq (by decide)).2 (by decide) (by decide) k) ?_
  refine own_go T2 m 64 #[rv o0, iv u0] [(.ref o0)] (fun t k => XS.aloadN X2.here hx rfl (hb hby d3_63) rfl rfl k) ?_
  obtain ⟨T4, X4, e4, st4⟩ := getF X2 hx hZ hown (host := "") (Or.inl (own_w hw 15 rfl)) Via.refl e2 F_segmentFirst_o0 (g := (mkF m 64 #[rv o0, iv u0] [(.ref o0)])) rfl rfl (hb hby d3_64)
  refine own_go T4 m 67 #[rv o0, iv u0] [(.ref o3)] (st4) ?_
  refine own_go T4 m 68 #[rv o0, iv u0] [(.ref o0), (.ref o3)] (fun t k => XS.aloadN X4.here hx rfl (hb hby d3_67) rfl rfl k) ?_
  obtain ⟨T5, X5, e5, st5⟩ := getF X4 hx hZ hown (host := "") (Or.inl (own_w hw 28 rfl)) Via.refl e4 F_segments_o0 (g := (mkF m 68 #[rv o0, iv u0] [(.ref o0), (.ref o3)])) rfl rfl (hb hby d3_68)
  refine own_go T5 m 71 #[rv o0, iv u0] [(.int 0), (.ref o3)] (st5) ?_
  refine own_go T5 m 72 #[rv o0, iv u0] [(.ref o0), (.int 0), (.ref o3)] (fun t k => XS.aloadN X5.here hx rfl (hb hby d3_71) rfl rfl k) ?_
  obtain ⟨T6, X6, e6, st6⟩ := getF X5 hx hZ hown (host := "") (Or.inl (own_w hw 30 rfl)) Via.refl e5 F_count_o0 (g := (mkF m 72 #[rv o0, iv u0] [(.ref o0), (.int 0), (.ref o3)])) rfl rfl (hb hby d3_72)
  refine own_go T6 m 75 #[rv o0, iv u0] [(.int 0), (.int 0), (.ref o3)] (st6) ?_
  obtain ⟨T7, h7, X7, e7, W7, V7, st7⟩ := own_iastore X6 hx hZ e6 V_o3 (j := (0 : Int32)) ⟨by decide, by decide⟩ 0 rfl (Nat.le_of_ble_eq_true rfl) (Ls := #[rv o0, iv u0]) (rest := []) (x := (0 : Int32)) (hb hby d3_75)
  replace V7 : Arv Z h7 o3 c0 .int (8 : Int32) [(.int 0), (.int 0), (.int 0), (.int 0), (.int 0), (.int 0), (.int 0), (.int 0)] (.int 0) := V7
  have cf8 := E_o0.wr W7
  have cf9 := F_count_o0.other W7 (Or.inl ne_o0_o3)
  have cf10 := F_cursor_o0.other W7 (Or.inl ne_o0_o3)
  have cf11 := F_ends_o0.other W7 (Or.inl ne_o0_o3)
  have cf12 := F_lastOpened_o0.other W7 (Or.inl ne_o0_o3)
  have cf13 := F_segmentEnd_o0.other W7 (Or.inl ne_o0_o3)
  have cf14 := F_segmentFirst_o0.other W7 (Or.inl ne_o0_o3)
  have cf15 := F_segmentLimit_o0.other W7 (Or.inl ne_o0_o3)
  have cf16 := F_segments_o0.other W7 (Or.inl ne_o0_o3)
  have cf17 := F_starts_o0.other W7 (Or.inl ne_o0_o3)
  have cf18 := V_o5.other W7 (Ne.symm ne_o3_o5)
  have Z_7 : n0 ≤ h7.size := Nat.le_trans Z0 (Keep.of_wr W7).1
  have K_7 : Keep h0 h7 [o0, o3, o5] := K0.wr W7 (own_i 1 rfl)
  have N7 := Fr.snoc X7 N0 g_o3
  refine own_go T7 m 76 #[rv o0, iv u0] [] (st7) ?_
  refine own_go T7 m 77 #[rv o0, iv u0] [(.ref o0)] (fun t k => XS.aloadN X7.here hx rfl (hb hby d3_76) rfl rfl k) ?_
  obtain ⟨T19, X19, e19, st19⟩ := getF X7 hx hZ hown (host := "") (Or.inl (own_w hw 19 rfl)) Via.refl e7 cf15 (g := (mkF m 77 #[rv o0, iv u0] [(.ref o0)])) rfl rfl (hb hby d3_77)
  refine own_go T19 m 80 #[rv o0, iv u0] [(.ref o5)] (st19) ?_
  refine own_go T19 m 81 #[rv o0, iv u0] [(.ref o0), (.ref o5)] (fun t k => XS.aloadN X19.here hx rfl (hb hby d3_80) rfl rfl k) ?_
  obtain ⟨T20, X20, e20, st20⟩ := getF X19 hx hZ hown (host := "") (Or.inl (own_w hw 28 rfl)) Via.refl e19 cf16 (g := (mkF m 81 #[rv o0, iv u0] [(.ref o0), (.ref o5)])) rfl rfl (hb hby d3_81)
  refine own_go T20 m 84 #[rv o0, iv u0] [(.int 0), (.ref o5)] (st20) ?_
  refine own_go T20 m 85 #[rv o0, iv u0] [(.int u0), (.int 0), (.ref o5)] (fun t k => XS.iloadN X20.here hx rfl (hb hby d3_84) rfl k) ?_
  obtain ⟨T21, h21, X21, e21, W21, V21, st21⟩ := own_iastore X20 hx hZ e20 cf18 (j := (0 : Int32)) ⟨by decide, by decide⟩ 0 rfl (Nat.le_of_ble_eq_true rfl) (Ls := #[rv o0, iv u0]) (rest := []) (x := u0) (hb hby d3_85)
  replace V21 : Arv Z h21 o5 c1 .int (8 : Int32) [(.int u0), (.int 0), (.int 0), (.int 0), (.int 0), (.int 0), (.int 0), (.int 0)] (.int 0) := V21
  have cf22 := cf8.wr W21
  have cf23 := cf9.other W21 (Or.inl ne_o0_o5)
  have cf24 := cf10.other W21 (Or.inl ne_o0_o5)
  have cf25 := cf11.other W21 (Or.inl ne_o0_o5)
  have cf26 := cf12.other W21 (Or.inl ne_o0_o5)
  have cf27 := cf13.other W21 (Or.inl ne_o0_o5)
  have cf28 := cf14.other W21 (Or.inl ne_o0_o5)
  have cf29 := cf15.other W21 (Or.inl ne_o0_o5)
  have cf30 := cf16.other W21 (Or.inl ne_o0_o5)
  have cf31 := cf17.other W21 (Or.inl ne_o0_o5)
  have cf32 := V7.other W21 ne_o3_o5
  have Z_21 : n0 ≤ h21.size := Nat.le_trans Z_7 (Keep.of_wr W21).1
  have K_21 : Keep h0 h21 [o0, o3, o5] := K_7.wr W21 (own_i 2 rfl)
  have N21 := Fr.snoc X21 N7 g_o5
  refine own_go T21 m 86 #[rv o0, iv u0] [] (st21) ?_
  refine own_go T21 m 87 #[rv o0, iv u0] [(.ref o0)] (fun t k => XS.aloadN X21.here hx rfl (hb hby d3_86) rfl rfl k) ?_
  refine own_go T21 m 88 #[rv o0, iv u0] [(.ref o0), (.ref o0)] (fun t k => XS.dup X21.here hx rfl (hb hby d3_87) rfl rfl k) ?_
  obtain ⟨T33, X33, e33, st33⟩ := getF X21 hx hZ hown (host := "") (Or.inl (own_w hw 28 rfl)) Via.refl e21 cf30 (g := (mkF m 88 #[rv o0, iv u0] [(.ref o0), (.ref o0)])) rfl rfl (hb hby d3_88)
  refine own_go T33 m 91 #[rv o0, iv u0] [(.int 0), (.ref o0)] (st33) ?_
  refine own_go T33 m 92 #[rv o0, iv u0] [(.int 1), (.int 0), (.ref o0)] (fun t k => XS.iconst X33.here hx rfl (hb hby d3_91) k) ?_
  refine own_go T33 m 93 #[rv o0, iv u0] [(.int ((0 : Int32) + (1 : Int32))), (.ref o0)] (fun t k => XS.iadd X33.here hx rfl (hb hby d3_92) rfl k) ?_
  rw [show ((0 : Int32) + (1 : Int32)) = (1 : Int32) from by decide]
  obtain ⟨T34, h34, X34, e34, W34, st34⟩ := putF X33 hx hZ hown (host := "") (Or.inl (own_w hw 28 rfl)) Via.refl e33 cf30 cf22 (Or.inl (own_w hw 29 rfl)) (own_w hw 2 rfl) (ty := .int) (by decide) rfl rfl (g := (mkF m 93 #[rv o0, iv u0] [(.int 1), (.ref o0)])) rfl rfl (hb hby d3_93)
  have F34 := cf30.same W34
  have cf35 := cf22.wr W34
  have cf36 := cf23.other W34 (Or.inr (slot_ne (Or.inl (own_w hw 31 rfl)) (Or.inl (own_w hw 29 rfl)) (by decide) (t := .int) (t' := .int) (by decide) (by decide)))
  have cf37 := cf24.other W34 (Or.inr (slot_ne (Or.inl (own_w hw 22 rfl)) (Or.inl (own_w hw 29 rfl)) (by decide) (t := .int) (t' := .int) (by decide) (by decide)))
  have cf38 := cf25.other W34 (Or.inr (slot_ne (Or.inl (own_w hw 14 rfl)) (Or.inl (own_w hw 29 rfl)) (by decide) (t := (.array .int)) (t' := .int) (by decide) (by decide)))
  have cf39 := cf26.other W34 (Or.inr (slot_ne (Or.inl (own_w hw 38 rfl)) (Or.inl (own_w hw 29 rfl)) (by decide) (t := .int) (t' := .int) (by decide) (by decide)))
  have cf40 := cf27.other W34 (Or.inr (slot_ne (Or.inl (own_w hw 18 rfl)) (Or.inl (own_w hw 29 rfl)) (by decide) (t := (.array .int)) (t' := .int) (by decide) (by decide)))
  have cf41 := cf28.other W34 (Or.inr (slot_ne (Or.inl (own_w hw 16 rfl)) (Or.inl (own_w hw 29 rfl)) (by decide) (t := (.array .int)) (t' := .int) (by decide) (by decide)))
  have cf42 := cf29.other W34 (Or.inr (slot_ne (Or.inl (own_w hw 20 rfl)) (Or.inl (own_w hw 29 rfl)) (by decide) (t := (.array .int)) (t' := .int) (by decide) (by decide)))
  have cf43 := cf31.other W34 (Or.inr (slot_ne (Or.inl (own_w hw 12 rfl)) (Or.inl (own_w hw 29 rfl)) (by decide) (t := (.array .int)) (t' := .int) (by decide) (by decide)))
  have cf44 := cf32.other W34 (Ne.symm ne_o0_o3)
  have cf45 := V21.other W34 (Ne.symm ne_o0_o5)
  have Z_34 : n0 ≤ h34.size := Nat.le_trans Z_21 (Keep.of_wr W34).1
  have K_34 : Keep h0 h34 [o0, o3, o5] := K_21.wr W34 (own_i 0 rfl)
  have N34 := Fr.snoc X34 N21 g_o0
  refine own_go T34 m 96 #[rv o0, iv u0] [] (st34) ?_
  refine own_go T34 m 97 #[rv o0, iv u0] [(.ref o0)] (fun t k => XS.aloadN X34.here hx rfl (hb hby d3_96) rfl rfl k) ?_
  refine own_go T34 m 98 #[rv o0, iv u0] [(.int (-1)), (.ref o0)] (fun t k => XS.iconst X34.here hx rfl (hb hby d3_97) k) ?_
  obtain ⟨T46, h46, X46, e46, W46, st46⟩ := putF X34 hx hZ hown (host := "") (Or.inl (own_w hw 21 rfl)) Via.refl e34 cf37 cf35 (Or.inl (own_w hw 22 rfl)) (own_w hw 2 rfl) (ty := .int) (by decide) rfl rfl (g := (mkF m 98 #[rv o0, iv u0] [(.int (-1)), (.ref o0)])) rfl rfl (hb hby d3_98)
  have F46 := cf37.same W46
  have cf47 := cf35.wr W46
  have cf48 := cf36.other W46 (Or.inr (slot_ne (Or.inl (own_w hw 31 rfl)) (Or.inl (own_w hw 22 rfl)) (by decide) (t := .int) (t' := .int) (by decide) (by decide)))
  have cf49 := cf38.other W46 (Or.inr (slot_ne (Or.inl (own_w hw 14 rfl)) (Or.inl (own_w hw 22 rfl)) (by decide) (t := (.array .int)) (t' := .int) (by decide) (by decide)))
  have cf50 := cf39.other W46 (Or.inr (slot_ne (Or.inl (own_w hw 38 rfl)) (Or.inl (own_w hw 22 rfl)) (by decide) (t := .int) (t' := .int) (by decide) (by decide)))
  have cf51 := cf40.other W46 (Or.inr (slot_ne (Or.inl (own_w hw 18 rfl)) (Or.inl (own_w hw 22 rfl)) (by decide) (t := (.array .int)) (t' := .int) (by decide) (by decide)))
  have cf52 := cf41.other W46 (Or.inr (slot_ne (Or.inl (own_w hw 16 rfl)) (Or.inl (own_w hw 22 rfl)) (by decide) (t := (.array .int)) (t' := .int) (by decide) (by decide)))
  have cf53 := cf42.other W46 (Or.inr (slot_ne (Or.inl (own_w hw 20 rfl)) (Or.inl (own_w hw 22 rfl)) (by decide) (t := (.array .int)) (t' := .int) (by decide) (by decide)))
  have cf54 := cf43.other W46 (Or.inr (slot_ne (Or.inl (own_w hw 12 rfl)) (Or.inl (own_w hw 22 rfl)) (by decide) (t := (.array .int)) (t' := .int) (by decide) (by decide)))
  have cf55 := cf44.other W46 (Ne.symm ne_o0_o3)
  have cf56 := cf45.other W46 (Ne.symm ne_o0_o5)
  have cf57 := F34.other W46 (Or.inr (slot_ne (Or.inl (own_w hw 29 rfl)) (Or.inl (own_w hw 22 rfl)) (by decide) (t := .int) (t' := .int) (by decide) (by decide)))
  have Z_46 : n0 ≤ h46.size := Nat.le_trans Z_34 (Keep.of_wr W46).1
  have K_46 : Keep h0 h46 [o0, o3, o5] := K_34.wr W46 (own_i 0 rfl)
  have N46 := Fr.snoc X46 N34 g_o0
  refine own_go T46 m 101 #[rv o0, iv u0] [] (st46) ?_
  refine own_retV X46 hx hlk hret (hb hby d3_101) (by decide) (by decide) ?_
  rw [e46]
  exact ⟨rfl, N46, K_46, cf48, cf49, cf50, cf51, cf52, cf53, cf54, cf55, cf56, cf57, F46⟩
theorem d4_0 : decode prog_48_method_6_code 0 = .ok (.aload_n 0, 1) := by decide +kernel
theorem d4_1 : decode prog_48_method_6_code 1 = .ok (.getfield 36, 3) := by decide +kernel
theorem d4_4 : decode prog_48_method_6_code 4 = .ok (.aload_n 0, 1) := by decide +kernel
theorem d4_5 : decode prog_48_method_6_code 5 = .ok (.getfield 9, 3) := by decide +kernel
theorem d4_8 : decode prog_48_method_6_code 8 = .ok (.arraylength, 1) := by decide +kernel
theorem d4_9 : decode prog_48_method_6_code 9 = .ok (.if_icmp .ne 37, 3) := by decide +kernel
theorem d4_12 : decode prog_48_method_6_code 12 = .ok (.aload_n 0, 1) := by decide +kernel
theorem d4_13 : decode prog_48_method_6_code 13 = .ok (.aload_n 0, 1) := by decide +kernel
theorem d4_14 : decode prog_48_method_6_code 14 = .ok (.getfield 9, 3) := by decide +kernel
theorem d4_17 : decode prog_48_method_6_code 17 = .ok (.iconst 2, 1) := by decide +kernel
theorem d4_18 : decode prog_48_method_6_code 18 = .ok (.aload_n 0, 1) := by decide +kernel
theorem d4_19 : decode prog_48_method_6_code 19 = .ok (.getfield 36, 3) := by decide +kernel
theorem d4_22 : decode prog_48_method_6_code 22 = .ok (.imul, 1) := by decide +kernel
theorem d4_23 : decode prog_48_method_6_code 23 = .ok (.invokestatic 49, 3) := by decide +kernel
theorem d4_26 : decode prog_48_method_6_code 26 = .ok (.putfield 9, 3) := by decide +kernel
theorem d4_29 : decode prog_48_method_6_code 29 = .ok (.aload_n 0, 1) := by decide +kernel
theorem d4_30 : decode prog_48_method_6_code 30 = .ok (.aload_n 0, 1) := by decide +kernel
theorem d4_31 : decode prog_48_method_6_code 31 = .ok (.getfield 13, 3) := by decide +kernel
theorem d4_34 : decode prog_48_method_6_code 34 = .ok (.iconst 2, 1) := by decide +kernel
theorem d4_35 : decode prog_48_method_6_code 35 = .ok (.aload_n 0, 1) := by decide +kernel
theorem d4_36 : decode prog_48_method_6_code 36 = .ok (.getfield 36, 3) := by decide +kernel
theorem d4_39 : decode prog_48_method_6_code 39 = .ok (.imul, 1) := by decide +kernel
theorem d4_40 : decode prog_48_method_6_code 40 = .ok (.invokestatic 49, 3) := by decide +kernel
theorem d4_43 : decode prog_48_method_6_code 43 = .ok (.putfield 13, 3) := by decide +kernel
theorem d4_46 : decode prog_48_method_6_code 46 = .ok (.aload_n 0, 1) := by decide +kernel
theorem d4_47 : decode prog_48_method_6_code 47 = .ok (.getfield 9, 3) := by decide +kernel
theorem d4_50 : decode prog_48_method_6_code 50 = .ok (.aload_n 0, 1) := by decide +kernel
theorem d4_51 : decode prog_48_method_6_code 51 = .ok (.getfield 36, 3) := by decide +kernel
theorem d4_54 : decode prog_48_method_6_code 54 = .ok (.iload_n 1, 1) := by decide +kernel
theorem d4_55 : decode prog_48_method_6_code 55 = .ok (.iastore, 1) := by decide +kernel
theorem d4_56 : decode prog_48_method_6_code 56 = .ok (.aload_n 0, 1) := by decide +kernel
theorem d4_57 : decode prog_48_method_6_code 57 = .ok (.getfield 13, 3) := by decide +kernel
theorem d4_60 : decode prog_48_method_6_code 60 = .ok (.aload_n 0, 1) := by decide +kernel
theorem d4_61 : decode prog_48_method_6_code 61 = .ok (.getfield 36, 3) := by decide +kernel
theorem d4_64 : decode prog_48_method_6_code 64 = .ok (.bipush (-2), 2) := by decide +kernel
theorem d4_66 : decode prog_48_method_6_code 66 = .ok (.iastore, 1) := by decide +kernel
theorem d4_67 : decode prog_48_method_6_code 67 = .ok (.aload_n 0, 1) := by decide +kernel
theorem d4_68 : decode prog_48_method_6_code 68 = .ok (.aload_n 0, 1) := by decide +kernel
theorem d4_69 : decode prog_48_method_6_code 69 = .ok (.getfield 36, 3) := by decide +kernel
theorem d4_72 : decode prog_48_method_6_code 72 = .ok (.putfield 53, 3) := by decide +kernel
theorem d4_75 : decode prog_48_method_6_code 75 = .ok (.aload_n 0, 1) := by decide +kernel
theorem d4_76 : decode prog_48_method_6_code 76 = .ok (.dup, 1) := by decide +kernel
theorem d4_77 : decode prog_48_method_6_code 77 = .ok (.getfield 36, 3) := by decide +kernel
theorem d4_80 : decode prog_48_method_6_code 80 = .ok (.iconst 1, 1) := by decide +kernel
theorem d4_81 : decode prog_48_method_6_code 81 = .ok (.iadd, 1) := by decide +kernel
theorem d4_82 : decode prog_48_method_6_code 82 = .ok (.putfield 36, 3) := by decide +kernel
theorem d4_85 : decode prog_48_method_6_code 85 = .ok (.aload_n 0, 1) := by decide +kernel
theorem d4_86 : decode prog_48_method_6_code 86 = .ok (.getfield 53, 3) := by decide +kernel
theorem d4_89 : decode prog_48_method_6_code 89 = .ok (.ireturn, 1) := by decide +kernel
theorem pf_com_example_wirelens_wirelens_wire_GroupEnds_opened__I_I : plainFor (⟨OwnK0, "opened", "(I)I"⟩ : MethodName) = true := by first | exact plainFor_of_name (by first | (simp [plainName, overriddenIn]; done) | decide +kernel) | exact Jvm.Free.JP.mathPlain rfl (by decide +kernel) | decide +kernel
theorem ef_sp3 (m : MethodId) (q0 : Addr) (q1 : Int32) : entryFrame m #[(.ref q0), (.int q1)] 2 = mkF m 0 #[rv q0, iv q1] [] := by first | (simp [entryFrame, mkF, argsToLocals, Value.category]; done) | rfl
set_option maxRecDepth 65536 in
set_option maxHeartbeats 40000000 in
theorem sp3 (l : Launch) (Z : State) (a0 : Array Value) (hw : ∀ d ∈ tables_1, d.before a0 Z = true) (ws : List Jvm.Cond) (o0 o1 o2 o3 o4 o5 : Addr) (u0 : Int32) (c0 : ClassId) (c1 : ClassId) (h0 : Heap) (n0 : Nat) (Z0 : n0 ≤ h0.size) (E_o0 : Exa Z h0 o0 OwnK0) (F_count_o0 : Fld Z h0 o0 OwnK0 "count" "I" (.int 0)) (F_cursor_o0 : Fld Z h0 o0 OwnK0 "cursor" "I" (.int (-1))) (F_ends_o0 : Fld Z h0 o0 OwnK0 "ends" "[I" (.ref o1)) (F_lastOpened_o0 : Fld Z h0 o0 OwnK0 "lastOpened" "I" (.int 0)) (F_segmentEnd_o0 : Fld Z h0 o0 OwnK0 "segmentEnd" "[I" (.ref o2)) (F_segmentFirst_o0 : Fld Z h0 o0 OwnK0 "segmentFirst" "[I" (.ref o3)) (F_segmentLimit_o0 : Fld Z h0 o0 OwnK0 "segmentLimit" "[I" (.ref o4)) (F_segments_o0 : Fld Z h0 o0 OwnK0 "segments" "I" (.int 1)) (F_starts_o0 : Fld Z h0 o0 OwnK0 "starts" "[I" (.ref o5)) (V_o1 : Arv Z h0 o1 c0 .int (8 : Int32) [(.int 0), (.int 0), (.int 0), (.int 0), (.int 0), (.int 0), (.int 0), (.int 0)] (.int 0)) (V_o5 : Arv Z h0 o5 c1 .int (8 : Int32) [(.int 0), (.int 0), (.int 0), (.int 0), (.int 0), (.int 0), (.int 0), (.int 0)] (.int 0)) (ne_o0_o1 : o0 ≠ o1) (ne_o0_o2 : o0 ≠ o2) (ne_o0_o3 : o0 ≠ o3) (ne_o0_o4 : o0 ≠ o4) (ne_o0_o5 : o0 ≠ o5) (ne_o1_o2 : o1 ≠ o2) (ne_o1_o3 : o1 ≠ o3) (ne_o1_o4 : o1 ≠ o4) (ne_o1_o5 : o1 ≠ o5) (ne_o2_o5 : o2 ≠ o5) (ne_o3_o5 : o3 ≠ o5) (ne_o4_o5 : o4 ≠ o5) (g_o0 : n0 ≤ o0) (g_o1 : n0 ≤ o1) (g_o5 : n0 ≤ o5) :
    OwnC l Z (⟨OwnK0, "opened", "(I)I"⟩ : MethodName) prog_48_method_6_code 2 (some .int) ws ({ frames := 0, cells := 0, slots := 0, locals := 0 } : Room) #[(.ref o0), (.int u0)] h0 (fun v h L => v = some (.int 0) ∧ Fr n0 L ∧ Keep h0 h [o0, o1, o5] ∧ Fld Z h o0 OwnK0 "cursor" "I" (.int (-1)) ∧ Fld Z h o0 OwnK0 "ends" "[I" (.ref o1) ∧ Fld Z h o0 OwnK0 "segmentEnd" "[I" (.ref o2) ∧ Fld Z h o0 OwnK0 "segmentFirst" "[I" (.ref o3) ∧ Fld Z h o0 OwnK0 "segmentLimit" "[I" (.ref o4) ∧ Fld Z h o0 OwnK0 "segments" "I" (.int 1) ∧ Fld Z h o0 OwnK0 "starts" "[I" (.ref o5) ∧ Arv Z h o5 c1 .int (8 : Int32) [(.int u0), (.int 0), (.int 0), (.int 0), (.int 0), (.int 0), (.int 0), (.int 0)] (.int 0) ∧ Arv Z h o1 c0 .int (8 : Int32) [(.int (-2)), (.int 0), (.int 0), (.int 0), (.int 0), (.int 0), (.int 0), (.int 0)] (.int 0) ∧ Fld Z h o0 OwnK0 "lastOpened" "I" (.int 0) ∧ Fld Z h o0 OwnK0 "count" "I" (.int 1)) := by
  refine own_entry pf_com_example_wirelens_wirelens_wire_GroupEnds_opened__I_I (fun m => ef_sp3 m o0 u0) ?_
  intro p e s m below meth c T0 X0 hC e0
  obtain ⟨hx, hby, hml, hown, hnm, hret, hlk, hZ⟩ := hC
  have N0 := Fr.nil n0
  have K0 := Keep.refl h0 [o0, o1, o5]
  refine own_go T0 m 1 #[rv o0, iv u0] [(.ref o0)] (fun t k => XS.aloadN X0.here hx rfl (hb hby d4_0) rfl rfl k) ?_
  obtain ⟨T1, X1, e1, st1⟩ := getF X0 hx hZ hown (host := "") (Or.inl (own_w hw 30 rfl)) Via.refl e0 F_count_o0 (g := (mkF m 1 #[rv o0, iv u0] [(.ref o0)])) rfl rfl (hb hby d4_1)
  refine own_go T1 m 4 #[rv o0, iv u0] [(.int 0)] (st1) ?_
  refine own_go T1 m 5 #[rv o0, iv u0] [(.ref o0), (.int 0)] (fun t k => XS.aloadN X1.here hx rfl (hb hby d4_4) rfl rfl k) ?_
  obtain ⟨T2, X2, e2, st2⟩ := getF X1 hx hZ hown (host := "") (Or.inl (own_w hw 11 rfl)) Via.refl e1 F_starts_o0 (g := (mkF m 5 #[rv o0, iv u0] [(.ref o0), (.int 0)])) rfl rfl (hb hby d4_5)
  refine own_go T2 m 8 #[rv o0, iv u0] [(.ref o5), (.int 0)] (st2) ?_
  refine own_go T2 m 9 #[rv o0, iv u0] [(.int 8), (.int 0)] (own_alen X2 hx hZ e2 V_o5 (hb hby d4_8)) ?_
  refine own_go T2 m 46 #[rv o0, iv u0] [] (fun t k => XS.icmpYes X2.here hx rfl (pc0 := 9) (pc' := 46) rfl (hb hby d4_9) rfl (feq (by decide)).2 (by decide) (by decide) k) ?_
  refine own_go T2 m 47 #[rv o0, iv u0] [(.ref o0)] (fun t k => XS.aloadN X2.here hx rfl (hb hby d4_46) rfl rfl k) ?_
  obtain ⟨T4, X4, e4, st4⟩ := getF X2 hx hZ hown (host := "") (Or.inl (own_w hw 11 rfl)) Via.refl e2 F_starts_o0 (g := (mkF m 47 #[rv o0, iv u0] [(.ref o0)])) rfl rfl (hb hby d4_47)
  refine own_go T4 m 50 #[rv o0, iv u0] [(.ref o5)] (st4) ?_
  refine own_go T4 m 51 #[rv o0, iv u0] [(.ref o0), (.ref o5)] (fun t k => XS.aloadN X4.here hx rfl (hb hby d4_50) rfl rfl k) ?_
  obtain ⟨T5, X5, e5, st5⟩ := getF X4 hx hZ hown (host := "") (Or.inl (own_w hw 30 rfl)) Via.refl e4 F_count_o0 (g := (mkF m 51 #[rv o0, iv u0] [(.ref o0), (.ref o5)])) rfl rfl (hb hby d4_51)
  refine own_go T5 m 54 #[rv o0, iv u0] [(.int 0), (.ref o5)] (st5) ?_
  refine own_go T5 m 55 #[rv o0, iv u0] [(.int u0), (.int 0), (.ref o5)] (fun t k => XS.iloadN X5.here hx rfl (hb hby d4_54) rfl k) ?_
  obtain ⟨T6, h6, X6, e6, W6, V6, st6⟩ := own_iastore X5 hx hZ e5 V_o5 (j := (0 : Int32)) ⟨by decide, by decide⟩ 0 rfl (Nat.le_of_ble_eq_true rfl) (Ls := #[rv o0, iv u0]) (rest := []) (x := u0) (hb hby d4_55)
  replace V6 : Arv Z h6 o5 c1 .int (8 : Int32) [(.int u0), (.int 0), (.int 0), (.int 0), (.int 0), (.int 0), (.int 0), (.int 0)] (.int 0) := V6
  have cf7 := E_o0.wr W6
  have cf8 := F_count_o0.other W6 (Or.inl ne_o0_o5)
  have cf9 := F_cursor_o0.other W6 (Or.inl ne_o0_o5)
  have cf10 := F_ends_o0.other W6 (Or.inl ne_o0_o5)
  have cf11 := F_lastOpened_o0.other W6 (Or.inl ne_o0_o5)
  have cf12 := F_segmentEnd_o0.other W6 (Or.inl ne_o0_o5)
  have cf13 := F_segmentFirst_o0.other W6 (Or.inl ne_o0_o5)
  have cf14 := F_segmentLimit_o0.other W6 (Or.inl ne_o0_o5)
  have cf15 := F_segments_o0.other W6 (Or.inl ne_o0_o5)
  have cf16 := F_starts_o0.other W6 (Or.inl ne_o0_o5)
  have cf17 := V_o1.other W6 ne_o1_o5
  have Z_6 : n0 ≤ h6.size := Nat.le_trans Z0 (Keep.of_wr W6).1
  have K_6 : Keep h0 h6 [o0, o1, o5] := K0.wr W6 (own_i 2 rfl)
  have N6 := Fr.snoc X6 N0 g_o5
  refine own_go T6 m 56 #[rv o0, iv u0] [] (st6) ?_
  refine own_go T6 m 57 #[rv o0, iv u0] [(.ref o0)] (fun t k => XS.aloadN X6.here hx rfl (hb hby d4_56) rfl rfl k) ?_
  obtain ⟨T18, X18, e18, st18⟩ := getF X6 hx hZ hown (host := "") (Or.inl (own_w hw 13 rfl)) Via.refl e6 cf10 (g := (mkF m 57 #[rv o0, iv u0] [(.ref o0)])) rfl rfl (hb hby d4_57)
  refine own_go T18 m 60 #[rv o0, iv u0] [(.ref o1)] (st18) ?_
  refine own_go T18 m 61 #[rv o0, iv u0] [(.ref o0), (.ref o1)] (fun t k => XS.aloadN X18.here hx rfl (hb hby d4_60) rfl rfl k) ?_
  obtain ⟨T19, X19, e19, st19⟩ := getF X18 hx hZ hown (host := "") (Or.inl (own_w hw 30 rfl)) Via.refl e18 cf8 (g := (mkF m 61 #[rv o0, iv u0] [(.ref o0), (.ref o1)])) rfl rfl (hb hby d4_61)
  refine own_go T19 m 64 #[rv o0, iv u0] [(.int 0), (.ref o1)] (st19) ?_
  refine own_go T19 m 66 #[rv o0, iv u0] [(.int (-2)), (.int 0), (.ref o1)] (fun t k => XS.bipush X19.here hx rfl (hb hby d4_64) k) ?_
  obtain ⟨T20, h20, X20, e20, W20, V20, st20⟩ := own_iastore X19 hx hZ e19 cf17 (j := (0 : Int32)) ⟨by decide, by decide⟩ 0 rfl (Nat.le_of_ble_eq_true rfl) (Ls := #[rv o0, iv u0]) (rest := []) (x := (-2 : Int32)) (hb hby d4_66)
  replace V20 : Arv Z h20 o1 c0 .int (8 : Int32) [(.int (-2)), (.int 0), (.int 0), (.int 0), (.int 0), (.int 0), (.int 0), (.int 0)] (.int 0) := V20
  have cf21 := cf7.wr W20
  have cf22 := cf8.other W20 (Or.inl ne_o0_o1)
  have cf23 := cf9.other W20 (Or.inl ne_o0_o1)
  have cf24 := cf10.other W20 (Or.inl ne_o0_o1)
  have cf25 := cf11.other W20 (Or.inl ne_o0_o1)
  have cf26 := cf12.other W20 (Or.inl ne_o0_o1)
  have cf27 := cf13.other W20 (Or.inl ne_o0_o1)
  have cf28 := cf14.other W20 (Or.inl ne_o0_o1)
  have cf29 := cf15.other W20 (Or.inl ne_o0_o1)
  have cf30 := cf16.other W20 (Or.inl ne_o0_o1)
  have cf31 := V6.other W20 (Ne.symm ne_o1_o5)
  have Z_20 : n0 ≤ h20.size := Nat.le_trans Z_6 (Keep.of_wr W20).1
  have K_20 : Keep h0 h20 [o0, o1, o5] := K_6.wr W20 (own_i 1 rfl)
  have N20 := Fr.snoc X20 N6 g_o1
  refine own_go T20 m 67 #[rv o0, iv u0] [] (st20) ?_
  refine own_go T20 m 68 #[rv o0, iv u0] [(.ref o0)] (fun t k => XS.aloadN X20.here hx rfl (hb hby d4_67) rfl rfl k) ?_
  refine own_go T20 m 69 #[rv o0, iv u0] [(.ref o0), (.ref o0)] (fun t k => XS.aloadN X20.here hx rfl (hb hby d4_68) rfl rfl k) ?_
  obtain ⟨T32, X32, e32, st32⟩ := getF X20 hx hZ hown (host := "") (Or.inl (own_w hw 30 rfl)) Via.refl e20 cf22 (g := (mkF m 69 #[rv o0, iv u0] [(.ref o0), (.ref o0)])) rfl rfl (hb hby d4_69)
  refine own_go T32 m 72 #[rv o0, iv u0] [(.int 0), (.ref o0)] (st32) ?_
  obtain ⟨T33, h33, X33, e33, W33, st33⟩ := putF X32 hx hZ hown (host := "") (Or.inl (own_w hw 37 rfl)) Via.refl e32 cf25 cf21 (Or.inl (own_w hw 38 rfl)) (own_w hw 2 rfl) (ty := .int) (by decide) rfl rfl (g := (mkF m 72 #[rv o0, iv u0] [(.int 0), (.ref o0)])) rfl rfl (hb hby d4_72)
  have F33 := cf25.same W33
  have cf34 := cf21.wr W33
  have cf35 := cf22.other W33 (Or.inr (slot_ne (Or.inl (own_w hw 31 rfl)) (Or.inl (own_w hw 38 rfl)) (by decide) (t := .int) (t' := .int) (by decide) (by decide)))
  have cf36 := cf23.other W33 (Or.inr (slot_ne (Or.inl (own_w hw 22 rfl)) (Or.inl (own_w hw 38 rfl)) (by decide) (t := .int) (t' := .int) (by decide) (by decide)))
  have cf37 := cf24.other W33 (Or.inr (slot_ne (Or.inl (own_w hw 14 rfl)) (Or.inl (own_w hw 38 rfl)) (by decide) (t := (.array .int)) (t' := .int) (by decide) (by decide)))
  have cf38 := cf26.other W33 (Or.inr (slot_ne (Or.inl (own_w hw 18 rfl)) (Or.inl (own_w hw 38 rfl)) (by decide) (t := (.array .int)) (t' := .int) (by decide) (by decide)))
  have cf39 := cf27.other W33 (Or.inr (slot_ne (Or.inl (own_w hw 16 rfl)) (Or.inl (own_w hw 38 rfl)) (by decide) (t := (.array .int)) (t' := .int) (by decide) (by decide)))
  have cf40 := cf28.other W33 (Or.inr (slot_ne (Or.inl (own_w hw 20 rfl)) (Or.inl (own_w hw 38 rfl)) (by decide) (t := (.array .int)) (t' := .int) (by decide) (by decide)))
  have cf41 := cf29.other W33 (Or.inr (slot_ne (Or.inl (own_w hw 29 rfl)) (Or.inl (own_w hw 38 rfl)) (by decide) (t := .int) (t' := .int) (by decide) (by decide)))
  have cf42 := cf30.other W33 (Or.inr (slot_ne (Or.inl (own_w hw 12 rfl)) (Or.inl (own_w hw 38 rfl)) (by decide) (t := (.array .int)) (t' := .int) (by decide) (by decide)))
  have cf43 := cf31.other W33 (Ne.symm ne_o0_o5)
  have cf44 := V20.other W33 (Ne.symm ne_o0_o1)
  have Z_33 : n0 ≤ h33.size := Nat.le_trans Z_20 (Keep.of_wr W33).1
  have K_33 : Keep h0 h33 [o0, o1, o5] := K_20.wr W33 (own_i 0 rfl)
  have N33 := Fr.snoc X33 N20 g_o0
  refine own_go T33 m 75 #[rv o0, iv u0] [] (st33) ?_
  refine own_go T33 m 76 #[rv o0, iv u0] [(.ref o0)] (fun t k => XS.aloadN X33.here hx rfl (hb hby d4_75) rfl rfl k) ?_
  refine own_go T33 m 77 #[rv o0, iv u0] [(.ref o0), (.ref o0)] (fun t k => XS.dup X33.here hx rfl (hb hby d4_76) rfl rfl k) ?_
  obtain ⟨T45, X45, e45, st45⟩ := getF X33 hx hZ hown (host := "") (Or.inl (own_w hw 30 rfl)) Via.refl e33 cf35 (g := (mkF m 77 #[rv o0, iv u0] [(.ref o0), (.ref o0)])) rfl rfl (hb hby d4_77)
  refine own_go T45 m 80 #[rv o0, iv u0] [(.int 0), (.ref o0)] (st45) ?_
  refine own_go T45 m 81 #[rv o0, iv u0] [(.int 1), (.int 0), (.ref o0)] (fun t k => XS.iconst X45.here hx rfl (hb hby d4_80) k) ?_
  refine own_go T45 m 82 #[rv o0, iv u0] [(.int ((0 : Int32) + (1 : Int32))), (.ref o0)] (fun t k => XS.iadd X45.here hx rfl (hb hby d4_81) rfl k) ?_
  rw [show ((0 : Int32) + (1 : Int32)) = (1 : Int32) from by decide]
  obtain ⟨T46, h46, X46, e46, W46, st46⟩ := putF X45 hx hZ hown (host := "") (Or.inl (own_w hw 30 rfl)) Via.refl e45 cf35 cf34 (Or.inl (own_w hw 31 rfl)) (own_w hw 2 rfl) (ty := .int) (by decide) rfl rfl (g := (mkF m 82 #[rv o0, iv u0] [(.int 1), (.ref o0)])) rfl rfl (hb hby d4_82)
  have F46 := cf35.same W46
  have cf47 := cf34.wr W46
  have cf48 := cf36.other W46 (Or.inr (slot_ne (Or.inl (own_w hw 22 rfl)) (Or.inl (own_w hw 31 rfl)) (by decide) (t := .int) (t' := .int) (by decide) (by decide)))
  have cf49 := cf37.other W46 (Or.inr (slot_ne (Or.inl (own_w hw 14 rfl)) (Or.inl (own_w hw 31 rfl)) (by decide) (t := (.array .int)) (t' := .int) (by decide) (by decide)))
  have cf50 := cf38.other W46 (Or.inr (slot_ne (Or.inl (own_w hw 18 rfl)) (Or.inl (own_w hw 31 rfl)) (by decide) (t := (.array .int)) (t' := .int) (by decide) (by decide)))
  have cf51 := cf39.other W46 (Or.inr (slot_ne (Or.inl (own_w hw 16 rfl)) (Or.inl (own_w hw 31 rfl)) (by decide) (t := (.array .int)) (t' := .int) (by decide) (by decide)))
  have cf52 := cf40.other W46 (Or.inr (slot_ne (Or.inl (own_w hw 20 rfl)) (Or.inl (own_w hw 31 rfl)) (by decide) (t := (.array .int)) (t' := .int) (by decide) (by decide)))
  have cf53 := cf41.other W46 (Or.inr (slot_ne (Or.inl (own_w hw 29 rfl)) (Or.inl (own_w hw 31 rfl)) (by decide) (t := .int) (t' := .int) (by decide) (by decide)))
  have cf54 := cf42.other W46 (Or.inr (slot_ne (Or.inl (own_w hw 12 rfl)) (Or.inl (own_w hw 31 rfl)) (by decide) (t := (.array .int)) (t' := .int) (by decide) (by decide)))
  have cf55 := cf43.other W46 (Ne.symm ne_o0_o5)
  have cf56 := cf44.other W46 (Ne.symm ne_o0_o1)
  have cf57 := F33.other W46 (Or.inr (slot_ne (Or.inl (own_w hw 38 rfl)) (Or.inl (own_w hw 31 rfl)) (by decide) (t := .int) (t' := .int) (by decide) (by decide)))
  have Z_46 : n0 ≤ h46.size := Nat.le_trans Z_33 (Keep.of_wr W46).1
  have K_46 : Keep h0 h46 [o0, o1, o5] := K_33.wr W46 (own_i 0 rfl)
  have N46 := Fr.snoc X46 N33 g_o0
  refine own_go T46 m 85 #[rv o0, iv u0] [] (st46) ?_
  refine own_go T46 m 86 #[rv o0, iv u0] [(.ref o0)] (fun t k => XS.aloadN X46.here hx rfl (hb hby d4_85) rfl rfl k) ?_
  obtain ⟨T58, X58, e58, st58⟩ := getF X46 hx hZ hown (host := "") (Or.inl (own_w hw 37 rfl)) Via.refl e46 cf57 (g := (mkF m 86 #[rv o0, iv u0] [(.ref o0)])) rfl rfl (hb hby d4_86)
  refine own_go T58 m 89 #[rv o0, iv u0] [(.int 0)] (st58) ?_
  refine own_retI X58 hx hlk hret (hb hby d4_89) (by decide) (by decide) ?_
  rw [e58]
  exact ⟨rfl, N46, K_46, cf48, cf49, cf50, cf51, cf52, cf53, cf54, cf55, cf56, cf57, F46⟩
theorem ef_sp4 (m : MethodId) (q0 : Addr) (q1 : Int32) : entryFrame m #[(.ref q0), (.int q1)] 2 = mkF m 0 #[rv q0, iv q1] [] := by first | (simp [entryFrame, mkF, argsToLocals, Value.category]; done) | rfl
set_option maxRecDepth 65536 in
set_option maxHeartbeats 40000000 in
theorem sp4 (l : Launch) (Z : State) (a0 : Array Value) (hw : ∀ d ∈ tables_1, d.before a0 Z = true) (ws : List Jvm.Cond) (o0 o1 o2 o3 o4 o5 : Addr) (u0 : Int32) (u1 : Int32) (c0 : ClassId) (c1 : ClassId) (h0 : Heap) (n0 : Nat) (Z0 : n0 ≤ h0.size) (E_o0 : Exa Z h0 o0 OwnK0) (F_count_o0 : Fld Z h0 o0 OwnK0 "count" "I" (.int 1)) (F_cursor_o0 : Fld Z h0 o0 OwnK0 "cursor" "I" (.int (-1))) (F_ends_o0 : Fld Z h0 o0 OwnK0 "ends" "[I" (.ref o1)) (F_lastOpened_o0 : Fld Z h0 o0 OwnK0 "lastOpened" "I" (.int 0)) (F_segmentEnd_o0 : Fld Z h0 o0 OwnK0 "segmentEnd" "[I" (.ref o2)) (F_segmentFirst_o0 : Fld Z h0 o0 OwnK0 "segmentFirst" "[I" (.ref o3)) (F_segmentLimit_o0 : Fld Z h0 o0 OwnK0 "segmentLimit" "[I" (.ref o4)) (F_segments_o0 : Fld Z h0 o0 OwnK0 "segments" "I" (.int 1)) (F_starts_o0 : Fld Z h0 o0 OwnK0 "starts" "[I" (.ref o5)) (V_o1 : Arv Z h0 o1 c0 .int (8 : Int32) [(.int (-2)), (.int 0), (.int 0), (.int 0), (.int 0), (.int 0), (.int 0), (.int 0)] (.int 0)) (V_o5 : Arv Z h0 o5 c1 .int (8 : Int32) [(.int u1), (.int 0), (.int 0), (.int 0), (.int 0), (.int 0), (.int 0), (.int 0)] (.int 0)) (ne_o0_o1 : o0 ≠ o1) (ne_o0_o2 : o0 ≠ o2) (ne_o0_o3 : o0 ≠ o3) (ne_o0_o4 : o0 ≠ o4) (ne_o0_o5 : o0 ≠ o5) (ne_o1_o2 : o1 ≠ o2) (ne_o1_o3 : o1 ≠ o3) (ne_o1_o4 : o1 ≠ o4) (ne_o1_o5 : o1 ≠ o5) (ne_o2_o5 : o2 ≠ o5) (ne_o3_o5 : o3 ≠ o5) (ne_o4_o5 : o4 ≠ o5) (g_o0 : n0 ≤ o0) (g_o1 : n0 ≤ o1) (g_o5 : n0 ≤ o5) :
    OwnC l Z (⟨OwnK0, "opened", "(I)I"⟩ : MethodName) prog_48_method_6_code 2 (some .int) ws ({ frames := 0, cells := 0, slots := 0, locals := 0 } : Room) #[(.ref o0), (.int u0)] h0 (fun v h L => v = some (.int 1) ∧ Fr n0 L ∧ Keep h0 h [o0, o1, o5] ∧ Fld Z h o0 OwnK0 "cursor" "I" (.int (-1)) ∧ Fld Z h o0 OwnK0 "ends" "[I" (.ref o1) ∧ Fld Z h o0 OwnK0 "segmentEnd" "[I" (.ref o2) ∧ Fld Z h o0 OwnK0 "segmentFirst" "[I" (.ref o3) ∧ Fld Z h o0 OwnK0 "segmentLimit" "[I" (.ref o4) ∧ Fld Z h o0 OwnK0 "segments" "I" (.int 1) ∧ Fld Z h o0 OwnK0 "starts" "[I" (.ref o5) ∧ Arv Z h o5 c1 .int (8 : Int32) [(.int u1), (.int u0), (.int 0), (.int 0), (.int 0), (.int 0), (.int 0), (.int 0)] (.int 0) ∧ Arv Z h o1 c0 .int (8 : Int32) [(.int (-2)), (.int (-2)), (.int 0), (.int 0), (.int 0), (.int 0), (.int 0), (.int 0)] (.int 0) ∧ Fld Z h o0 OwnK0 "lastOpened" "I" (.int 1) ∧ Fld Z h o0 OwnK0 "count" "I" (.int 2)) := by
  refine own_entry pf_com_example_wirelens_wirelens_wire_GroupEnds_opened__I_I (fun m => ef_sp4 m o0 u0) ?_
  intro p e s m below meth c T0 X0 hC e0
  obtain ⟨hx, hby, hml, hown, hnm, hret, hlk, hZ⟩ := hC
  have N0 := Fr.nil n0
  have K0 := Keep.refl h0 [o0, o1, o5]
  refine own_go T0 m 1 #[rv o0, iv u0] [(.ref o0)] (fun t k => XS.aloadN X0.here hx rfl (hb hby d4_0) rfl rfl k) ?_
  obtain ⟨T1, X1, e1, st1⟩ := getF X0 hx hZ hown (host := "") (Or.inl (own_w hw 30 rfl)) Via.refl e0 F_count_o0 (g := (mkF m 1 #[rv o0, iv u0] [(.ref o0)])) rfl rfl (hb hby d4_1)
  refine own_go T1 m 4 #[rv o0, iv u0] [(.int 1)] (st1) ?_
  refine own_go T1 m 5 #[rv o0, iv u0] [(.ref o0), (.int 1)] (fun t k => XS.aloadN X1.here hx rfl (hb hby d4_4) rfl rfl k) ?_
  obtain ⟨T2, X2, e2, st2⟩ := getF X1 hx hZ hown (host := "") (Or.inl (own_w hw 11 rfl)) Via.refl e1 F_starts_o0 (g := (mkF m 5 #[rv o0, iv u0] [(.ref o0), (.int 1)])) rfl rfl (hb hby d4_5)
  refine own_go T2 m 8 #[rv o0, iv u0] [(.ref o5), (.int 1)] (st2) ?_
  refine own_go T2 m 9 #[rv o0, iv u0] [(.int 8), (.int 1)] (own_alen X2 hx hZ e2 V_o5 (hb hby d4_8)) ?_
  refine own_go T2 m 46 #[rv o0, iv u0] [] (fun t k => XS.icmpYes X2.here hx rfl (pc0 := 9) (pc' := 46) rfl (hb hby d4_9) rfl (feq (by decide)).2 (by decide) (by decide) k) ?_
  refine own_go T2 m 47 #[rv o0, iv u0] [(.ref o0)] (fun t k => XS.aloadN X2.here hx rfl (hb hby d4_46) rfl rfl k) ?_
  obtain ⟨T4, X4, e4, st4⟩ := getF X2 hx hZ hown (host := "") (Or.inl (own_w hw 11 rfl)) Via.refl e2 F_starts_o0 (g := (mkF m 47 #[rv o0, iv u0] [(.ref o0)])) rfl rfl (hb hby d4_47)
  refine own_go T4 m 50 #[rv o0, iv u0] [(.ref o5)] (st4) ?_
  refine own_go T4 m 51 #[rv o0, iv u0] [(.ref o0), (.ref o5)] (fun t k => XS.aloadN X4.here hx rfl (hb hby d4_50) rfl rfl k) ?_
  obtain ⟨T5, X5, e5, st5⟩ := getF X4 hx hZ hown (host := "") (Or.inl (own_w hw 30 rfl)) Via.refl e4 F_count_o0 (g := (mkF m 51 #[rv o0, iv u0] [(.ref o0), (.ref o5)])) rfl rfl (hb hby d4_51)
  refine own_go T5 m 54 #[rv o0, iv u0] [(.int 1), (.ref o5)] (st5) ?_
  refine own_go T5 m 55 #[rv o0, iv u0] [(.int u0), (.int 1), (.ref o5)] (fun t k => XS.iloadN X5.here hx rfl (hb hby d4_54) rfl k) ?_
  obtain ⟨T6, h6, X6, e6, W6, V6, st6⟩ := own_iastore X5 hx hZ e5 V_o5 (j := (1 : Int32)) ⟨by decide, by decide⟩ 1 rfl (Nat.le_of_ble_eq_true rfl) (Ls := #[rv o0, iv u0]) (rest := []) (x := u0) (hb hby d4_55)
  replace V6 : Arv Z h6 o5 c1 .int (8 : Int32) [(.int u1), (.int u0), (.int 0), (.int 0), (.int 0), (.int 0), (.int 0), (.int 0)] (.int 0) := V6
  have cf7 := E_o0.wr W6
  have cf8 := F_count_o0.other W6 (Or.inl ne_o0_o5)
  have cf9 := F_cursor_o0.other W6 (Or.inl ne_o0_o5)
  have cf10 := F_ends_o0.other W6 (Or.inl ne_o0_o5)
  have cf11 := F_lastOpened_o0.other W6 (Or.inl ne_o0_o5)
  have cf12 := F_segmentEnd_o0.other W6 (Or.inl ne_o0_o5)
  have cf13 := F_segmentFirst_o0.other W6 (Or.inl ne_o0_o5)
  have cf14 := F_segmentLimit_o0.other W6 (Or.inl ne_o0_o5)
  have cf15 := F_segments_o0.other W6 (Or.inl ne_o0_o5)
  have cf16 := F_starts_o0.other W6 (Or.inl ne_o0_o5)
  have cf17 := V_o1.other W6 ne_o1_o5
  have Z_6 : n0 ≤ h6.size := Nat.le_trans Z0 (Keep.of_wr W6).1
  have K_6 : Keep h0 h6 [o0, o1, o5] := K0.wr W6 (own_i 2 rfl)
  have N6 := Fr.snoc X6 N0 g_o5
  refine own_go T6 m 56 #[rv o0, iv u0] [] (st6) ?_
  refine own_go T6 m 57 #[rv o0, iv u0] [(.ref o0)] (fun t k => XS.aloadN X6.here hx rfl (hb hby d4_56) rfl rfl k) ?_
  obtain ⟨T18, X18, e18, st18⟩ := getF X6 hx hZ hown (host := "") (Or.inl (own_w hw 13 rfl)) Via.refl e6 cf10 (g := (mkF m 57 #[rv o0, iv u0] [(.ref o0)])) rfl rfl (hb hby d4_57)
  refine own_go T18 m 60 #[rv o0, iv u0] [(.ref o1)] (st18) ?_
  refine own_go T18 m 61 #[rv o0, iv u0] [(.ref o0), (.ref o1)] (fun t k => XS.aloadN X18.here hx rfl (hb hby d4_60) rfl rfl k) ?_
  obtain ⟨T19, X19, e19, st19⟩ := getF X18 hx hZ hown (host := "") (Or.inl (own_w hw 30 rfl)) Via.refl e18 cf8 (g := (mkF m 61 #[rv o0, iv u0] [(.ref o0), (.ref o1)])) rfl rfl (hb hby d4_61)
  refine own_go T19 m 64 #[rv o0, iv u0] [(.int 1), (.ref o1)] (st19) ?_
  refine own_go T19 m 66 #[rv o0, iv u0] [(.int (-2)), (.int 1), (.ref o1)] (fun t k => XS.bipush X19.here hx rfl (hb hby d4_64) k) ?_
  obtain ⟨T20, h20, X20, e20, W20, V20, st20⟩ := own_iastore X19 hx hZ e19 cf17 (j := (1 : Int32)) ⟨by decide, by decide⟩ 1 rfl (Nat.le_of_ble_eq_true rfl) (Ls := #[rv o0, iv u0]) (rest := []) (x := (-2 : Int32)) (hb hby d4_66)
  replace V20 : Arv Z h20 o1 c0 .int (8 : Int32) [(.int (-2)), (.int (-2)), (.int 0), (.int 0), (.int 0), (.int 0), (.int 0), (.int 0)] (.int 0) := V20
  have cf21 := cf7.wr W20
  have cf22 := cf8.other W20 (Or.inl ne_o0_o1)
  have cf23 := cf9.other W20 (Or.inl ne_o0_o1)
  have cf24 := cf10.other W20 (Or.inl ne_o0_o1)
  have cf25 := cf11.other W20 (Or.inl ne_o0_o1)
  have cf26 := cf12.other W20 (Or.inl ne_o0_o1)
  have cf27 := cf13.other W20 (Or.inl ne_o0_o1)
  have cf28 := cf14.other W20 (Or.inl ne_o0_o1)
  have cf29 := cf15.other W20 (Or.inl ne_o0_o1)
  have cf30 := cf16.other W20 (Or.inl ne_o0_o1)
  have cf31 := V6.other W20 (Ne.symm ne_o1_o5)
  have Z_20 : n0 ≤ h20.size := Nat.le_trans Z_6 (Keep.of_wr W20).1
  have K_20 : Keep h0 h20 [o0, o1, o5] := K_6.wr W20 (own_i 1 rfl)
  have N20 := Fr.snoc X20 N6 g_o1
  refine own_go T20 m 67 #[rv o0, iv u0] [] (st20) ?_
  refine own_go T20 m 68 #[rv o0, iv u0] [(.ref o0)] (fun t k => XS.aloadN X20.here hx rfl (hb hby d4_67) rfl rfl k) ?_
  refine own_go T20 m 69 #[rv o0, iv u0] [(.ref o0), (.ref o0)] (fun t k => XS.aloadN X20.here hx rfl (hb hby d4_68) rfl rfl k) ?_
  obtain ⟨T32, X32, e32, st32⟩ := getF X20 hx hZ hown (host := "") (Or.inl (own_w hw 30 rfl)) Via.refl e20 cf22 (g := (mkF m 69 #[rv o0, iv u0] [(.ref o0), (.ref o0)])) rfl rfl (hb hby d4_69)
  refine own_go T32 m 72 #[rv o0, iv u0] [(.int 1), (.ref o0)] (st32) ?_
  obtain ⟨T33, h33, X33, e33, W33, st33⟩ := putF X32 hx hZ hown (host := "") (Or.inl (own_w hw 37 rfl)) Via.refl e32 cf25 cf21 (Or.inl (own_w hw 38 rfl)) (own_w hw 2 rfl) (ty := .int) (by decide) rfl rfl (g := (mkF m 72 #[rv o0, iv u0] [(.int 1), (.ref o0)])) rfl rfl (hb hby d4_72)
  have F33 := cf25.same W33
  have cf34 := cf21.wr W33
  have cf35 := cf22.other W33 (Or.inr (slot_ne (Or.inl (own_w hw 31 rfl)) (Or.inl (own_w hw 38 rfl)) (by decide) (t := .int) (t' := .int) (by decide) (by decide)))
  have cf36 := cf23.other W33 (Or.inr (slot_ne (Or.inl (own_w hw 22 rfl)) (Or.inl (own_w hw 38 rfl)) (by decide) (t := .int) (t' := .int) (by decide) (by decide)))
  have cf37 := cf24.other W33 (Or.inr (slot_ne (Or.inl (own_w hw 14 rfl)) (Or.inl (own_w hw 38 rfl)) (by decide) (t := (.array .int)) (t' := .int) (by decide) (by decide)))
  have cf38 := cf26.other W33 (Or.inr (slot_ne (Or.inl (own_w hw 18 rfl)) (Or.inl (own_w hw 38 rfl)) (by decide) (t := (.array .int)) (t' := .int) (by decide) (by decide)))
  have cf39 := cf27.other W33 (Or.inr (slot_ne (Or.inl (own_w hw 16 rfl)) (Or.inl (own_w hw 38 rfl)) (by decide) (t := (.array .int)) (t' := .int) (by decide) (by decide)))
  have cf40 := cf28.other W33 (Or.inr (slot_ne (Or.inl (own_w hw 20 rfl)) (Or.inl (own_w hw 38 rfl)) (by decide) (t := (.array .int)) (t' := .int) (by decide) (by decide)))
  have cf41 := cf29.other W33 (Or.inr (slot_ne (Or.inl (own_w hw 29 rfl)) (Or.inl (own_w hw 38 rfl)) (by decide) (t := .int) (t' := .int) (by decide) (by decide)))
  have cf42 := cf30.other W33 (Or.inr (slot_ne (Or.inl (own_w hw 12 rfl)) (Or.inl (own_w hw 38 rfl)) (by decide) (t := (.array .int)) (t' := .int) (by decide) (by decide)))
  have cf43 := cf31.other W33 (Ne.symm ne_o0_o5)
  have cf44 := V20.other W33 (Ne.symm ne_o0_o1)
  have Z_33 : n0 ≤ h33.size := Nat.le_trans Z_20 (Keep.of_wr W33).1
  have K_33 : Keep h0 h33 [o0, o1, o5] := K_20.wr W33 (own_i 0 rfl)
  have N33 := Fr.snoc X33 N20 g_o0
  refine own_go T33 m 75 #[rv o0, iv u0] [] (st33) ?_
  refine own_go T33 m 76 #[rv o0, iv u0] [(.ref o0)] (fun t k => XS.aloadN X33.here hx rfl (hb hby d4_75) rfl rfl k) ?_
  refine own_go T33 m 77 #[rv o0, iv u0] [(.ref o0), (.ref o0)] (fun t k => XS.dup X33.here hx rfl (hb hby d4_76) rfl rfl k) ?_
  obtain ⟨T45, X45, e45, st45⟩ := getF X33 hx hZ hown (host := "") (Or.inl (own_w hw 30 rfl)) Via.refl e33 cf35 (g := (mkF m 77 #[rv o0, iv u0] [(.ref o0), (.ref o0)])) rfl rfl (hb hby d4_77)
  refine own_go T45 m 80 #[rv o0, iv u0] [(.int 1), (.ref o0)] (st45) ?_
  refine own_go T45 m 81 #[rv o0, iv u0] [(.int 1), (.int 1), (.ref o0)] (fun t k => XS.iconst X45.here hx rfl (hb hby d4_80) k) ?_
  refine own_go T45 m 82 #[rv o0, iv u0] [(.int ((1 : Int32) + (1 : Int32))), (.ref o0)] (fun t k => XS.iadd X45.here hx rfl (hb hby d4_81) rfl k) ?_
  rw [show ((1 : Int32) + (1 : Int32)) = (2 : Int32) from by decide]
  obtain ⟨T46, h46, X46, e46, W46, st46⟩ := putF X45 hx hZ hown (host := "") (Or.inl (own_w hw 30 rfl)) Via.refl e45 cf35 cf34 (Or.inl (own_w hw 31 rfl)) (own_w hw 2 rfl) (ty := .int) (by decide) rfl rfl (g := (mkF m 82 #[rv o0, iv u0] [(.int 2), (.ref o0)])) rfl rfl (hb hby d4_82)
  have F46 := cf35.same W46
  have cf47 := cf34.wr W46
  have cf48 := cf36.other W46 (Or.inr (slot_ne (Or.inl (own_w hw 22 rfl)) (Or.inl (own_w hw 31 rfl)) (by decide) (t := .int) (t' := .int) (by decide) (by decide)))
  have cf49 := cf37.other W46 (Or.inr (slot_ne (Or.inl (own_w hw 14 rfl)) (Or.inl (own_w hw 31 rfl)) (by decide) (t := (.array .int)) (t' := .int) (by decide) (by decide)))
  have cf50 := cf38.other W46 (Or.inr (slot_ne (Or.inl (own_w hw 18 rfl)) (Or.inl (own_w hw 31 rfl)) (by decide) (t := (.array .int)) (t' := .int) (by decide) (by decide)))
  have cf51 := cf39.other W46 (Or.inr (slot_ne (Or.inl (own_w hw 16 rfl)) (Or.inl (own_w hw 31 rfl)) (by decide) (t := (.array .int)) (t' := .int) (by decide) (by decide)))
  have cf52 := cf40.other W46 (Or.inr (slot_ne (Or.inl (own_w hw 20 rfl)) (Or.inl (own_w hw 31 rfl)) (by decide) (t := (.array .int)) (t' := .int) (by decide) (by decide)))
  have cf53 := cf41.other W46 (Or.inr (slot_ne (Or.inl (own_w hw 29 rfl)) (Or.inl (own_w hw 31 rfl)) (by decide) (t := .int) (t' := .int) (by decide) (by decide)))
  have cf54 := cf42.other W46 (Or.inr (slot_ne (Or.inl (own_w hw 12 rfl)) (Or.inl (own_w hw 31 rfl)) (by decide) (t := (.array .int)) (t' := .int) (by decide) (by decide)))
  have cf55 := cf43.other W46 (Ne.symm ne_o0_o5)
  have cf56 := cf44.other W46 (Ne.symm ne_o0_o1)
  have cf57 := F33.other W46 (Or.inr (slot_ne (Or.inl (own_w hw 38 rfl)) (Or.inl (own_w hw 31 rfl)) (by decide) (t := .int) (t' := .int) (by decide) (by decide)))
  have Z_46 : n0 ≤ h46.size := Nat.le_trans Z_33 (Keep.of_wr W46).1
  have K_46 : Keep h0 h46 [o0, o1, o5] := K_33.wr W46 (own_i 0 rfl)
  have N46 := Fr.snoc X46 N33 g_o0
  refine own_go T46 m 85 #[rv o0, iv u0] [] (st46) ?_
  refine own_go T46 m 86 #[rv o0, iv u0] [(.ref o0)] (fun t k => XS.aloadN X46.here hx rfl (hb hby d4_85) rfl rfl k) ?_
  obtain ⟨T58, X58, e58, st58⟩ := getF X46 hx hZ hown (host := "") (Or.inl (own_w hw 37 rfl)) Via.refl e46 cf57 (g := (mkF m 86 #[rv o0, iv u0] [(.ref o0)])) rfl rfl (hb hby d4_86)
  refine own_go T58 m 89 #[rv o0, iv u0] [(.int 1)] (st58) ?_
  refine own_retI X58 hx hlk hret (hb hby d4_89) (by decide) (by decide) ?_
  rw [e58]
  exact ⟨rfl, N46, K_46, cf48, cf49, cf50, cf51, cf52, cf53, cf54, cf55, cf56, cf57, F46⟩
theorem ef_sp5 (m : MethodId) (q0 : Addr) (q1 : Int32) : entryFrame m #[(.ref q0), (.int q1)] 2 = mkF m 0 #[rv q0, iv q1] [] := by first | (simp [entryFrame, mkF, argsToLocals, Value.category]; done) | rfl
set_option maxRecDepth 65536 in
set_option maxHeartbeats 40000000 in
theorem sp5 (l : Launch) (Z : State) (a0 : Array Value) (hw : ∀ d ∈ tables_1, d.before a0 Z = true) (ws : List Jvm.Cond) (o0 o1 o2 o3 o4 o5 : Addr) (u0 : Int32) (u1 : Int32) (u2 : Int32) (c0 : ClassId) (c1 : ClassId) (h0 : Heap) (n0 : Nat) (Z0 : n0 ≤ h0.size) (E_o0 : Exa Z h0 o0 OwnK0) (F_count_o0 : Fld Z h0 o0 OwnK0 "count" "I" (.int 2)) (F_cursor_o0 : Fld Z h0 o0 OwnK0 "cursor" "I" (.int (-1))) (F_ends_o0 : Fld Z h0 o0 OwnK0 "ends" "[I" (.ref o1)) (F_lastOpened_o0 : Fld Z h0 o0 OwnK0 "lastOpened" "I" (.int 1)) (F_segmentEnd_o0 : Fld Z h0 o0 OwnK0 "segmentEnd" "[I" (.ref o2)) (F_segmentFirst_o0 : Fld Z h0 o0 OwnK0 "segmentFirst" "[I" (.ref o3)) (F_segmentLimit_o0 : Fld Z h0 o0 OwnK0 "segmentLimit" "[I" (.ref o4)) (F_segments_o0 : Fld Z h0 o0 OwnK0 "segments" "I" (.int 1)) (F_starts_o0 : Fld Z h0 o0 OwnK0 "starts" "[I" (.ref o5)) (V_o1 : Arv Z h0 o1 c0 .int (8 : Int32) [(.int (-2)), (.int (-2)), (.int 0), (.int 0), (.int 0), (.int 0), (.int 0), (.int 0)] (.int 0)) (V_o5 : Arv Z h0 o5 c1 .int (8 : Int32) [(.int u1), (.int u2), (.int 0), (.int 0), (.int 0), (.int 0), (.int 0), (.int 0)] (.int 0)) (ne_o0_o1 : o0 ≠ o1) (ne_o0_o2 : o0 ≠ o2) (ne_o0_o3 : o0 ≠ o3) (ne_o0_o4 : o0 ≠ o4) (ne_o0_o5 : o0 ≠ o5) (ne_o1_o2 : o1 ≠ o2) (ne_o1_o3 : o1 ≠ o3) (ne_o1_o4 : o1 ≠ o4) (ne_o1_o5 : o1 ≠ o5) (ne_o2_o5 : o2 ≠ o5) (ne_o3_o5 : o3 ≠ o5) (ne_o4_o5 : o4 ≠ o5) (g_o0 : n0 ≤ o0) (g_o1 : n0 ≤ o1) (g_o5 : n0 ≤ o5) :
    OwnC l Z (⟨OwnK0, "opened", "(I)I"⟩ : MethodName) prog_48_method_6_code 2 (some .int) ws ({ frames := 0, cells := 0, slots := 0, locals := 0 } : Room) #[(.ref o0), (.int u0)] h0 (fun v h L => v = some (.int 2) ∧ Fr n0 L ∧ Keep h0 h [o0, o1, o5] ∧ Fld Z h o0 OwnK0 "cursor" "I" (.int (-1)) ∧ Fld Z h o0 OwnK0 "ends" "[I" (.ref o1) ∧ Fld Z h o0 OwnK0 "segmentEnd" "[I" (.ref o2) ∧ Fld Z h o0 OwnK0 "segmentFirst" "[I" (.ref o3) ∧ Fld Z h o0 OwnK0 "segmentLimit" "[I" (.ref o4) ∧ Fld Z h o0 OwnK0 "segments" "I" (.int 1) ∧ Fld Z h o0 OwnK0 "starts" "[I" (.ref o5) ∧ Arv Z h o5 c1 .int (8 : Int32) [(.int u1), (.int u2), (.int u0), (.int 0), (.int 0), (.int 0), (.int 0), (.int 0)] (.int 0) ∧ Arv Z h o1 c0 .int (8 : Int32) [(.int (-2)), (.int (-2)), (.int (-2)), (.int 0), (.int 0), (.int 0), (.int 0), (.int 0)] (.int 0) ∧ Fld Z h o0 OwnK0 "lastOpened" "I" (.int 2) ∧ Fld Z h o0 OwnK0 "count" "I" (.int 3)) := by
  refine own_entry pf_com_example_wirelens_wirelens_wire_GroupEnds_opened__I_I (fun m => ef_sp5 m o0 u0) ?_
  intro p e s m below meth c T0 X0 hC e0
  obtain ⟨hx, hby, hml, hown, hnm, hret, hlk, hZ⟩ := hC
  have N0 := Fr.nil n0
  have K0 := Keep.refl h0 [o0, o1, o5]
  refine own_go T0 m 1 #[rv o0, iv u0] [(.ref o0)] (fun t k => XS.aloadN X0.here hx rfl (hb hby d4_0) rfl rfl k) ?_
  obtain ⟨T1, X1, e1, st1⟩ := getF X0 hx hZ hown (host := "") (Or.inl (own_w hw 30 rfl)) Via.refl e0 F_count_o0 (g := (mkF m 1 #[rv o0, iv u0] [(.ref o0)])) rfl rfl (hb hby d4_1)
  refine own_go T1 m 4 #[rv o0, iv u0] [(.int 2)] (st1) ?_
  refine own_go T1 m 5 #[rv o0, iv u0] [(.ref o0), (.int 2)] (fun t k => XS.aloadN X1.here hx rfl (hb hby d4_4) rfl rfl k) ?_
  obtain ⟨T2, X2, e2, st2⟩ := getF X1 hx hZ hown (host := "") (Or.inl (own_w hw 11 rfl)) Via.refl e1 F_starts_o0 (g := (mkF m 5 #[rv o0, iv u0] [(.ref o0), (.int 2)])) rfl rfl (hb hby d4_5)
  refine own_go T2 m 8 #[rv o0, iv u0] [(.ref o5), (.int 2)] (st2) ?_
  refine own_go T2 m 9 #[rv o0, iv u0] [(.int 8), (.int 2)] (own_alen X2 hx hZ e2 V_o5 (hb hby d4_8)) ?_
  refine own_go T2 m 46 #[rv o0, iv u0] [] (fun t k => XS.icmpYes X2.here hx rfl (pc0 := 9) (pc' := 46) rfl (hb hby d4_9) rfl (feq (by decide)).2 (by decide) (by decide) k) ?_
  refine own_go T2 m 47 #[rv o0, iv u0] [(.ref o0)] (fun t k => XS.aloadN X2.here hx rfl (hb hby d4_46) rfl rfl k) ?_
  obtain ⟨T4, X4, e4, st4⟩ := getF X2 hx hZ hown (host := "") (Or.inl (own_w hw 11 rfl)) Via.refl e2 F_starts_o0 (g := (mkF m 47 #[rv o0, iv u0] [(.ref o0)])) rfl rfl (hb hby d4_47)
  refine own_go T4 m 50 #[rv o0, iv u0] [(.ref o5)] (st4) ?_
  refine own_go T4 m 51 #[rv o0, iv u0] [(.ref o0), (.ref o5)] (fun t k => XS.aloadN X4.here hx rfl (hb hby d4_50) rfl rfl k) ?_
  obtain ⟨T5, X5, e5, st5⟩ := getF X4 hx hZ hown (host := "") (Or.inl (own_w hw 30 rfl)) Via.refl e4 F_count_o0 (g := (mkF m 51 #[rv o0, iv u0] [(.ref o0), (.ref o5)])) rfl rfl (hb hby d4_51)
  refine own_go T5 m 54 #[rv o0, iv u0] [(.int 2), (.ref o5)] (st5) ?_
  refine own_go T5 m 55 #[rv o0, iv u0] [(.int u0), (.int 2), (.ref o5)] (fun t k => XS.iloadN X5.here hx rfl (hb hby d4_54) rfl k) ?_
  obtain ⟨T6, h6, X6, e6, W6, V6, st6⟩ := own_iastore X5 hx hZ e5 V_o5 (j := (2 : Int32)) ⟨by decide, by decide⟩ 2 rfl (Nat.le_of_ble_eq_true rfl) (Ls := #[rv o0, iv u0]) (rest := []) (x := u0) (hb hby d4_55)
  replace V6 : Arv Z h6 o5 c1 .int (8 : Int32) [(.int u1), (.int u2), (.int u0), (.int 0), (.int 0), (.int 0), (.int 0), (.int 0)] (.int 0) := V6
  have cf7 := E_o0.wr W6
  have cf8 := F_count_o0.other W6 (Or.inl ne_o0_o5)
  have cf9 := F_cursor_o0.other W6 (Or.inl ne_o0_o5)
  have cf10 := F_ends_o0.other W6 (Or.inl ne_o0_o5)
  have cf11 := F_lastOpened_o0.other W6 (Or.inl ne_o0_o5)
  have cf12 := F_segmentEnd_o0.other W6 (Or.inl ne_o0_o5)
  have cf13 := F_segmentFirst_o0.other W6 (Or.inl ne_o0_o5)
  have cf14 := F_segmentLimit_o0.other W6 (Or.inl ne_o0_o5)
  have cf15 := F_segments_o0.other W6 (Or.inl ne_o0_o5)
  have cf16 := F_starts_o0.other W6 (Or.inl ne_o0_o5)
  have cf17 := V_o1.other W6 ne_o1_o5
  have Z_6 : n0 ≤ h6.size := Nat.le_trans Z0 (Keep.of_wr W6).1
  have K_6 : Keep h0 h6 [o0, o1, o5] := K0.wr W6 (own_i 2 rfl)
  have N6 := Fr.snoc X6 N0 g_o5
  refine own_go T6 m 56 #[rv o0, iv u0] [] (st6) ?_
  refine own_go T6 m 57 #[rv o0, iv u0] [(.ref o0)] (fun t k => XS.aloadN X6.here hx rfl (hb hby d4_56) rfl rfl k) ?_
  obtain ⟨T18, X18, e18, st18⟩ := getF X6 hx hZ hown (host := "") (Or.inl (own_w hw 13 rfl)) Via.refl e6 cf10 (g := (mkF m 57 #[rv o0, iv u0] [(.ref o0)])) rfl rfl (hb hby d4_57)
  refine own_go T18 m 60 #[rv o0, iv u0] [(.ref o1)] (st18) ?_
  refine own_go T18 m 61 #[rv o0, iv u0] [(.ref o0), (.ref o1)] (fun t k => XS.aloadN X18.here hx rfl (hb hby d4_60) rfl rfl k) ?_
  obtain ⟨T19, X19, e19, st19⟩ := getF X18 hx hZ hown (host := "") (Or.inl (own_w hw 30 rfl)) Via.refl e18 cf8 (g := (mkF m 61 #[rv o0, iv u0] [(.ref o0), (.ref o1)])) rfl rfl (hb hby d4_61)
  refine own_go T19 m 64 #[rv o0, iv u0] [(.int 2), (.ref o1)] (st19) ?_
  refine own_go T19 m 66 #[rv o0, iv u0] [(.int (-2)), (.int 2), (.ref o1)] (fun t k => XS.bipush X19.here hx rfl (hb hby d4_64) k) ?_
  obtain ⟨T20, h20, X20, e20, W20, V20, st20⟩ := own_iastore X19 hx hZ e19 cf17 (j := (2 : Int32)) ⟨by decide, by decide⟩ 2 rfl (Nat.le_of_ble_eq_true rfl) (Ls := #[rv o0, iv u0]) (rest := []) (x := (-2 : Int32)) (hb hby d4_66)
  replace V20 : Arv Z h20 o1 c0 .int (8 : Int32) [(.int (-2)), (.int (-2)), (.int (-2)), (.int 0), (.int 0), (.int 0), (.int 0), (.int 0)] (.int 0) := V20
  have cf21 := cf7.wr W20
  have cf22 := cf8.other W20 (Or.inl ne_o0_o1)
  have cf23 := cf9.other W20 (Or.inl ne_o0_o1)
  have cf24 := cf10.other W20 (Or.inl ne_o0_o1)
  have cf25 := cf11.other W20 (Or.inl ne_o0_o1)
  have cf26 := cf12.other W20 (Or.inl ne_o0_o1)
  have cf27 := cf13.other W20 (Or.inl ne_o0_o1)
  have cf28 := cf14.other W20 (Or.inl ne_o0_o1)
  have cf29 := cf15.other W20 (Or.inl ne_o0_o1)
  have cf30 := cf16.other W20 (Or.inl ne_o0_o1)
  have cf31 := V6.other W20 (Ne.symm ne_o1_o5)
  have Z_20 : n0 ≤ h20.size := Nat.le_trans Z_6 (Keep.of_wr W20).1
  have K_20 : Keep h0 h20 [o0, o1, o5] := K_6.wr W20 (own_i 1 rfl)
  have N20 := Fr.snoc X20 N6 g_o1
  refine own_go T20 m 67 #[rv o0, iv u0] [] (st20) ?_
  refine own_go T20 m 68 #[rv o0, iv u0] [(.ref o0)] (fun t k => XS.aloadN X20.here hx rfl (hb hby d4_67) rfl rfl k) ?_
  refine own_go T20 m 69 #[rv o0, iv u0] [(.ref o0), (.ref o0)] (fun t k => XS.aloadN X20.here hx rfl (hb hby d4_68) rfl rfl k) ?_
  obtain ⟨T32, X32, e32, st32⟩ := getF X20 hx hZ hown (host := "") (Or.inl (own_w hw 30 rfl)) Via.refl e20 cf22 (g := (mkF m 69 #[rv o0, iv u0] [(.ref o0), (.ref o0)])) rfl rfl (hb hby d4_69)
  refine own_go T32 m 72 #[rv o0, iv u0] [(.int 2), (.ref o0)] (st32) ?_
  obtain ⟨T33, h33, X33, e33, W33, st33⟩ := putF X32 hx hZ hown (host := "") (Or.inl (own_w hw 37 rfl)) Via.refl e32 cf25 cf21 (Or.inl (own_w hw 38 rfl)) (own_w hw 2 rfl) (ty := .int) (by decide) rfl rfl (g := (mkF m 72 #[rv o0, iv u0] [(.int 2), (.ref o0)])) rfl rfl (hb hby d4_72)
  have F33 := cf25.same W33
  have cf34 := cf21.wr W33
  have cf35 := cf22.other W33 (Or.inr (slot_ne (Or.inl (own_w hw 31 rfl)) (Or.inl (own_w hw 38 rfl)) (by decide) (t := .int) (t' := .int) (by decide) (by decide)))
  have cf36 := cf23.other W33 (Or.inr (slot_ne (Or.inl (own_w hw 22 rfl)) (Or.inl (own_w hw 38 rfl)) (by decide) (t := .int) (t' := .int) (by decide) (by decide)))
  have cf37 := cf24.other W33 (Or.inr (slot_ne (Or.inl (own_w hw 14 rfl)) (Or.inl (own_w hw 38 rfl)) (by decide) (t := (.array .int)) (t' := .int) (by decide) (by decide)))
  have cf38 := cf26.other W33 (Or.inr (slot_ne (Or.inl (own_w hw 18 rfl)) (Or.inl (own_w hw 38 rfl)) (by decide) (t := (.array .int)) (t' := .int) (by decide) (by decide)))
  have cf39 := cf27.other W33 (Or.inr (slot_ne (Or.inl (own_w hw 16 rfl)) (Or.inl (own_w hw 38 rfl)) (by decide) (t := (.array .int)) (t' := .int) (by decide) (by decide)))
  have cf40 := cf28.other W33 (Or.inr (slot_ne (Or.inl (own_w hw 20 rfl)) (Or.inl (own_w hw 38 rfl)) (by decide) (t := (.array .int)) (t' := .int) (by decide) (by decide)))
  have cf41 := cf29.other W33 (Or.inr (slot_ne (Or.inl (own_w hw 29 rfl)) (Or.inl (own_w hw 38 rfl)) (by decide) (t := .int) (t' := .int) (by decide) (by decide)))
  have cf42 := cf30.other W33 (Or.inr (slot_ne (Or.inl (own_w hw 12 rfl)) (Or.inl (own_w hw 38 rfl)) (by decide) (t := (.array .int)) (t' := .int) (by decide) (by decide)))
  have cf43 := cf31.other W33 (Ne.symm ne_o0_o5)
  have cf44 := V20.other W33 (Ne.symm ne_o0_o1)
  have Z_33 : n0 ≤ h33.size := Nat.le_trans Z_20 (Keep.of_wr W33).1
  have K_33 : Keep h0 h33 [o0, o1, o5] := K_20.wr W33 (own_i 0 rfl)
  have N33 := Fr.snoc X33 N20 g_o0
  refine own_go T33 m 75 #[rv o0, iv u0] [] (st33) ?_
  refine own_go T33 m 76 #[rv o0, iv u0] [(.ref o0)] (fun t k => XS.aloadN X33.here hx rfl (hb hby d4_75) rfl rfl k) ?_
  refine own_go T33 m 77 #[rv o0, iv u0] [(.ref o0), (.ref o0)] (fun t k => XS.dup X33.here hx rfl (hb hby d4_76) rfl rfl k) ?_
  obtain ⟨T45, X45, e45, st45⟩ := getF X33 hx hZ hown (host := "") (Or.inl (own_w hw 30 rfl)) Via.refl e33 cf35 (g := (mkF m 77 #[rv o0, iv u0] [(.ref o0), (.ref o0)])) rfl rfl (hb hby d4_77)
  refine own_go T45 m 80 #[rv o0, iv u0] [(.int 2), (.ref o0)] (st45) ?_
  refine own_go T45 m 81 #[rv o0, iv u0] [(.int 1), (.int 2), (.ref o0)] (fun t k => XS.iconst X45.here hx rfl (hb hby d4_80) k) ?_
  refine own_go T45 m 82 #[rv o0, iv u0] [(.int ((2 : Int32) + (1 : Int32))), (.ref o0)] (fun t k => XS.iadd X45.here hx rfl (hb hby d4_81) rfl k) ?_
  rw [show ((2 : Int32) + (1 : Int32)) = (3 : Int32) from by decide]
  obtain ⟨T46, h46, X46, e46, W46, st46⟩ := putF X45 hx hZ hown (host := "") (Or.inl (own_w hw 30 rfl)) Via.refl e45 cf35 cf34 (Or.inl (own_w hw 31 rfl)) (own_w hw 2 rfl) (ty := .int) (by decide) rfl rfl (g := (mkF m 82 #[rv o0, iv u0] [(.int 3), (.ref o0)])) rfl rfl (hb hby d4_82)
  have F46 := cf35.same W46
  have cf47 := cf34.wr W46
  have cf48 := cf36.other W46 (Or.inr (slot_ne (Or.inl (own_w hw 22 rfl)) (Or.inl (own_w hw 31 rfl)) (by decide) (t := .int) (t' := .int) (by decide) (by decide)))
  have cf49 := cf37.other W46 (Or.inr (slot_ne (Or.inl (own_w hw 14 rfl)) (Or.inl (own_w hw 31 rfl)) (by decide) (t := (.array .int)) (t' := .int) (by decide) (by decide)))
  have cf50 := cf38.other W46 (Or.inr (slot_ne (Or.inl (own_w hw 18 rfl)) (Or.inl (own_w hw 31 rfl)) (by decide) (t := (.array .int)) (t' := .int) (by decide) (by decide)))
  have cf51 := cf39.other W46 (Or.inr (slot_ne (Or.inl (own_w hw 16 rfl)) (Or.inl (own_w hw 31 rfl)) (by decide) (t := (.array .int)) (t' := .int) (by decide) (by decide)))
  have cf52 := cf40.other W46 (Or.inr (slot_ne (Or.inl (own_w hw 20 rfl)) (Or.inl (own_w hw 31 rfl)) (by decide) (t := (.array .int)) (t' := .int) (by decide) (by decide)))
  have cf53 := cf41.other W46 (Or.inr (slot_ne (Or.inl (own_w hw 29 rfl)) (Or.inl (own_w hw 31 rfl)) (by decide) (t := .int) (t' := .int) (by decide) (by decide)))
  have cf54 := cf42.other W46 (Or.inr (slot_ne (Or.inl (own_w hw 12 rfl)) (Or.inl (own_w hw 31 rfl)) (by decide) (t := (.array .int)) (t' := .int) (by decide) (by decide)))
  have cf55 := cf43.other W46 (Ne.symm ne_o0_o5)
  have cf56 := cf44.other W46 (Ne.symm ne_o0_o1)
  have cf57 := F33.other W46 (Or.inr (slot_ne (Or.inl (own_w hw 38 rfl)) (Or.inl (own_w hw 31 rfl)) (by decide) (t := .int) (t' := .int) (by decide) (by decide)))
  have Z_46 : n0 ≤ h46.size := Nat.le_trans Z_33 (Keep.of_wr W46).1
  have K_46 : Keep h0 h46 [o0, o1, o5] := K_33.wr W46 (own_i 0 rfl)
  have N46 := Fr.snoc X46 N33 g_o0
  refine own_go T46 m 85 #[rv o0, iv u0] [] (st46) ?_
  refine own_go T46 m 86 #[rv o0, iv u0] [(.ref o0)] (fun t k => XS.aloadN X46.here hx rfl (hb hby d4_85) rfl rfl k) ?_
  obtain ⟨T58, X58, e58, st58⟩ := getF X46 hx hZ hown (host := "") (Or.inl (own_w hw 37 rfl)) Via.refl e46 cf57 (g := (mkF m 86 #[rv o0, iv u0] [(.ref o0)])) rfl rfl (hb hby d4_86)
  refine own_go T58 m 89 #[rv o0, iv u0] [(.int 2)] (st58) ?_
  refine own_retI X58 hx hlk hret (hb hby d4_89) (by decide) (by decide) ?_
  rw [e58]
  exact ⟨rfl, N46, K_46, cf48, cf49, cf50, cf51, cf52, cf53, cf54, cf55, cf56, cf57, F46⟩
theorem d5_0 : decode prog_48_method_7_code 0 = .ok (.aload_n 0, 1) := by decide +kernel
theorem d5_1 : decode prog_48_method_7_code 1 = .ok (.getfield 9, 3) := by decide +kernel
theorem d5_4 : decode prog_48_method_7_code 4 = .ok (.aload_n 0, 1) := by decide +kernel
theorem d5_5 : decode prog_48_method_7_code 5 = .ok (.getfield 16, 3) := by decide +kernel
theorem d5_8 : decode prog_48_method_7_code 8 = .ok (.aload_n 0, 1) := by decide +kernel
theorem d5_9 : decode prog_48_method_7_code 9 = .ok (.getfield 29, 3) := by decide +kernel
theorem d5_12 : decode prog_48_method_7_code 12 = .ok (.iconst 1, 1) := by decide +kernel
theorem d5_13 : decode prog_48_method_7_code 13 = .ok (.isub, 1) := by decide +kernel
theorem d5_14 : decode prog_48_method_7_code 14 = .ok (.iaload, 1) := by decide +kernel
theorem d5_15 : decode prog_48_method_7_code 15 = .ok (.iaload, 1) := by decide +kernel
theorem d5_16 : decode prog_48_method_7_code 16 = .ok (.istore_n 3, 1) := by decide +kernel
theorem d5_17 : decode prog_48_method_7_code 17 = .ok (.iload_n 2, 1) := by decide +kernel
theorem d5_18 : decode prog_48_method_7_code 18 = .ok (.aload_n 0, 1) := by decide +kernel
theorem d5_19 : decode prog_48_method_7_code 19 = .ok (.getfield 9, 3) := by decide +kernel
theorem d5_22 : decode prog_48_method_7_code 22 = .ok (.iload_n 1, 1) := by decide +kernel
theorem d5_23 : decode prog_48_method_7_code 23 = .ok (.iaload, 1) := by decide +kernel
theorem d5_24 : decode prog_48_method_7_code 24 = .ok (.isub, 1) := by decide +kernel
theorem d5_25 : decode prog_48_method_7_code 25 = .ok (.bipush 64, 2) := by decide +kernel
theorem d5_27 : decode prog_48_method_7_code 27 = .ok (.if_icmp .ge 7, 3) := by decide +kernel
theorem d5_30 : decode prog_48_method_7_code 30 = .ok (.iconst 1, 1) := by decide +kernel
theorem d5_31 : decode prog_48_method_7_code 31 = .ok (.goto 4, 3) := by decide +kernel
theorem d5_34 : decode prog_48_method_7_code 34 = .ok (.iconst 0, 1) := by decide +kernel
theorem d5_35 : decode prog_48_method_7_code 35 = .ok (.istore 4, 2) := by decide +kernel
theorem d5_37 : decode prog_48_method_7_code 37 = .ok (.aload_n 0, 1) := by decide +kernel
theorem d5_38 : decode prog_48_method_7_code 38 = .ok (.getfield 9, 3) := by decide +kernel
theorem d5_41 : decode prog_48_method_7_code 41 = .ok (.iload_n 1, 1) := by decide +kernel
theorem d5_42 : decode prog_48_method_7_code 42 = .ok (.iaload, 1) := by decide +kernel
theorem d5_43 : decode prog_48_method_7_code 43 = .ok (.iload_n 3, 1) := by decide +kernel
theorem d5_44 : decode prog_48_method_7_code 44 = .ok (.isub, 1) := by decide +kernel
theorem d5_45 : decode prog_48_method_7_code 45 = .ok (.bipush 64, 2) := by decide +kernel
theorem d5_47 : decode prog_48_method_7_code 47 = .ok (.if_icmp .lt 7, 3) := by decide +kernel
theorem d5_50 : decode prog_48_method_7_code 50 = .ok (.iconst 1, 1) := by decide +kernel
theorem d5_51 : decode prog_48_method_7_code 51 = .ok (.goto 4, 3) := by decide +kernel
theorem d5_54 : decode prog_48_method_7_code 54 = .ok (.iconst 0, 1) := by decide +kernel
theorem d5_55 : decode prog_48_method_7_code 55 = .ok (.istore 5, 2) := by decide +kernel
theorem d5_57 : decode prog_48_method_7_code 57 = .ok (.iload 4, 2) := by decide +kernel
theorem d5_59 : decode prog_48_method_7_code 59 = .ok (.ifCond .eq 29, 3) := by decide +kernel
theorem d5_62 : decode prog_48_method_7_code 62 = .ok (.iload_n 1, 1) := by decide +kernel
theorem d5_63 : decode prog_48_method_7_code 63 = .ok (.aload_n 0, 1) := by decide +kernel
theorem d5_64 : decode prog_48_method_7_code 64 = .ok (.getfield 53, 3) := by decide +kernel
theorem d5_67 : decode prog_48_method_7_code 67 = .ok (.if_icmp .eq 8, 3) := by decide +kernel
theorem d5_70 : decode prog_48_method_7_code 70 = .ok (.iload 5, 2) := by decide +kernel
theorem d5_72 : decode prog_48_method_7_code 72 = .ok (.ifCond .eq 16, 3) := by decide +kernel
theorem d5_75 : decode prog_48_method_7_code 75 = .ok (.aload_n 0, 1) := by decide +kernel
theorem d5_76 : decode prog_48_method_7_code 76 = .ok (.dup, 1) := by decide +kernel
theorem d5_77 : decode prog_48_method_7_code 77 = .ok (.getfield 36, 3) := by decide +kernel
theorem d5_80 : decode prog_48_method_7_code 80 = .ok (.iconst 1, 1) := by decide +kernel
theorem d5_81 : decode prog_48_method_7_code 81 = .ok (.isub, 1) := by decide +kernel
theorem d5_82 : decode prog_48_method_7_code 82 = .ok (.putfield 36, 3) := by decide +kernel
theorem d5_85 : decode prog_48_method_7_code 85 = .ok (.goto 10, 3) := by decide +kernel
theorem d5_88 : decode prog_48_method_7_code 88 = .ok (.aload_n 0, 1) := by decide +kernel
theorem d5_89 : decode prog_48_method_7_code 89 = .ok (.getfield 13, 3) := by decide +kernel
theorem d5_92 : decode prog_48_method_7_code 92 = .ok (.iload_n 1, 1) := by decide +kernel
theorem d5_93 : decode prog_48_method_7_code 93 = .ok (.iload_n 2, 1) := by decide +kernel
theorem d5_94 : decode prog_48_method_7_code 94 = .ok (.iastore, 1) := by decide +kernel
theorem d5_95 : decode prog_48_method_7_code 95 = .ok (.return_, 1) := by decide +kernel
theorem pf_com_example_wirelens_wirelens_wire_GroupEnds_closed__II_V : plainFor (⟨OwnK0, "closed", "(II)V"⟩ : MethodName) = true := by first | exact plainFor_of_name (by first | (simp [plainName, overriddenIn]; done) | decide +kernel) | exact Jvm.Free.JP.mathPlain rfl (by decide +kernel) | decide +kernel
theorem ef_sp6 (m : MethodId) (q0 : Addr) (q1 : Int32) (q2 : Int32) : entryFrame m #[(.ref q0), (.int q1), (.int q2)] 6 = mkF m 0 #[rv q0, iv q1, iv q2, .unset, .unset, .unset] [] := by first | (simp [entryFrame, mkF, argsToLocals, Value.category]; done) | rfl
set_option maxRecDepth 65536 in
set_option maxHeartbeats 40000000 in
theorem sp6 (l : Launch) (Z : State) (a0 : Array Value) (hw : ∀ d ∈ tables_1, d.before a0 Z = true) (ws : List Jvm.Cond) (o0 o1 o2 o3 o4 o5 : Addr) (u0 : Int32) (u1 : Int32) (u2 : Int32) (u3 : Int32) (c0 : ClassId) (c1 : ClassId) (h0 : Heap) (n0 : Nat) (Z0 : n0 ≤ h0.size) (E_o0 : Exa Z h0 o0 OwnK0) (F_count_o0 : Fld Z h0 o0 OwnK0 "count" "I" (.int 3)) (F_cursor_o0 : Fld Z h0 o0 OwnK0 "cursor" "I" (.int (-1))) (F_ends_o0 : Fld Z h0 o0 OwnK0 "ends" "[I" (.ref o1)) (F_lastOpened_o0 : Fld Z h0 o0 OwnK0 "lastOpened" "I" (.int 2)) (F_segmentEnd_o0 : Fld Z h0 o0 OwnK0 "segmentEnd" "[I" (.ref o2)) (F_segmentFirst_o0 : Fld Z h0 o0 OwnK0 "segmentFirst" "[I" (.ref o3)) (F_segmentLimit_o0 : Fld Z h0 o0 OwnK0 "segmentLimit" "[I" (.ref o4)) (F_segments_o0 : Fld Z h0 o0 OwnK0 "segments" "I" (.int 1)) (F_starts_o0 : Fld Z h0 o0 OwnK0 "starts" "[I" (.ref o5)) (V_o3 : Arv Z h0 o3 c0 .int (8 : Int32) [(.int 0), (.int 0), (.int 0), (.int 0), (.int 0), (.int 0), (.int 0), (.int 0)] (.int 0)) (V_o5 : Arv Z h0 o5 c1 .int (8 : Int32) [(.int u1), (.int u2), (.int u3), (.int 0), (.int 0), (.int 0), (.int 0), (.int 0)] (.int 0)) (ne_o0_o1 : o0 ≠ o1) (ne_o0_o2 : o0 ≠ o2) (ne_o0_o3 : o0 ≠ o3) (ne_o0_o4 : o0 ≠ o4) (ne_o0_o5 : o0 ≠ o5) (g_o0 : n0 ≤ o0) (hq0 : (u0 - u3) < (64 : Int32)) (hq1 : (u3 - u1) < (64 : Int32)) :
    OwnC l Z (⟨OwnK0, "closed", "(II)V"⟩ : MethodName) prog_48_method_7_code 6 none ws ({ frames := 0, cells := 0, slots := 0, locals := 0 } : Room) #[(.ref o0), (.int 2), (.int u0)] h0 (fun v h L => v = none ∧ Fr n0 L ∧ Keep h0 h [o0] ∧ Fld Z h o0 OwnK0 "cursor" "I" (.int (-1)) ∧ Fld Z h o0 OwnK0 "ends" "[I" (.ref o1) ∧ Fld Z h o0 OwnK0 "lastOpened" "I" (.int 2) ∧ Fld Z h o0 OwnK0 "segmentEnd" "[I" (.ref o2) ∧ Fld Z h o0 OwnK0 "segmentFirst" "[I" (.ref o3) ∧ Fld Z h o0 OwnK0 "segmentLimit" "[I" (.ref o4) ∧ Fld Z h o0 OwnK0 "segments" "I" (.int 1) ∧ Fld Z h o0 OwnK0 "starts" "[I" (.ref o5) ∧ Fld Z h o0 OwnK0 "count" "I" (.int 2)) := by
  refine own_entry pf_com_example_wirelens_wirelens_wire_GroupEnds_closed__II_V (fun m => ef_sp6 m o0 (2 : Int32) u0) ?_
  intro p e s m below meth c T0 X0 hC e0
  obtain ⟨hx, hby, hml, hown, hnm, hret, hlk, hZ⟩ := hC
  have N0 := Fr.nil n0
  have K0 := Keep.refl h0 [o0]
  refine own_go T0 m 1 #[rv o0, iv 2, iv u0, .unset, .unset, .unset] [(.ref o0)] (fun t k => XS.aloadN X0.here hx rfl (hb hby d5_0) rfl rfl k) ?_
  obtain ⟨T1, X1, e1, st1⟩ := getF X0 hx hZ hown (host := "") (Or.inl (own_w hw 11 rfl)) Via.refl e0 F_starts_o0 (g := (mkF m 1 #[rv o0, iv 2, iv u0, .unset, .unset, .unset] [(.ref o0)])) rfl rfl (hb hby d5_1)
  refine own_go T1 m 4 #[rv o0, iv 2, iv u0, .unset, .unset, .unset] [(.ref o5)] (st1) ?_
  refine own_go T1 m 5 #[rv o0, iv 2, iv u0, .unset, .unset, .unset] [(.ref o0), (.ref o5)] (fun t k => XS.aloadN X1.here hx rfl (hb hby d5_4) rfl rfl k) ?_
  obtain ⟨T2, X2, e2, st2⟩ := getF X1 hx hZ hown (host := "") (Or.inl (own_w hw 15 rfl)) Via.refl e1 F_segmentFirst_o0 (g := (mkF m 5 #[rv o0, iv 2, iv u0, .unset, .unset, .unset] [(.ref o0), (.ref o5)])) rfl rfl (hb hby d5_5)
  refine own_go T2 m 8 #[rv o0, iv 2, iv u0, .unset, .unset, .unset] [(.ref o3), (.ref o5)] (st2) ?_
  refine own_go T2 m 9 #[rv o0, iv 2, iv u0, .unset, .unset, .unset] [(.ref o0), (.ref o3), (.ref o5)] (fun t k => XS.aloadN X2.here hx rfl (hb hby d5_8) rfl rfl k) ?_
  obtain ⟨T3, X3, e3, st3⟩ := getF X2 hx hZ hown (host := "") (Or.inl (own_w hw 28 rfl)) Via.refl e2 F_segments_o0 (g := (mkF m 9 #[rv o0, iv 2, iv u0, .unset, .unset, .unset] [(.ref o0), (.ref o3), (.ref o5)])) rfl rfl (hb hby d5_9)
  refine own_go T3 m 12 #[rv o0, iv 2, iv u0, .unset, .unset, .unset] [(.int 1), (.ref o3), (.ref o5)] (st3) ?_
  refine own_go T3 m 13 #[rv o0, iv 2, iv u0, .unset, .unset, .unset] [(.int 1), (.int 1), (.ref o3), (.ref o5)] (fun t k => XS.iconst X3.here hx rfl (hb hby d5_12) k) ?_
  refine own_go T3 m 14 #[rv o0, iv 2, iv u0, .unset, .unset, .unset] [(.int ((1 : Int32) - (1 : Int32))), (.ref o3), (.ref o5)] (fun t k => XS.isub X3.here hx rfl (hb hby d5_13) rfl k) ?_
  rw [show ((1 : Int32) - (1 : Int32)) = (0 : Int32) from by decide]
  refine own_go T3 m 15 #[rv o0, iv 2, iv u0, .unset, .unset, .unset] [(.int 0), (.ref o5)] (own_iaload X3 hx hZ e3 V_o3 (j := (0 : Int32)) ⟨by decide, by decide⟩ rfl (hb hby d5_14)) ?_
  refine own_go T3 m 16 #[rv o0, iv 2, iv u0, .unset, .unset, .unset] [(.int u1)] (own_iaload X3 hx hZ e3 V_o5 (j := (0 : Int32)) ⟨by decide, by decide⟩ rfl (hb hby d5_15)) ?_
  refine own_go T3 m 17 #[rv o0, iv 2, iv u0, iv u1, .unset, .unset] [] (fun t k => XS.istoreN X3.here hx rfl (hb hby d5_16) rfl rfl k) ?_
  refine own_go T3 m 18 #[rv o0, iv 2, iv u0, iv u1, .unset, .unset] [(.int u0)] (fun t k => XS.iloadN X3.here hx rfl (hb hby d5_17) rfl k) ?_
  refine own_go T3 m 19 #[rv o0, iv 2, iv u0, iv u1, .unset, .unset] [(.ref o0), (.int u0)] (fun t k => XS.aloadN X3.here hx rfl (hb hby d5_18) rfl rfl k) ?_
  obtain ⟨T6, X6, e6, st6⟩ := getF X3 hx hZ hown (host := "") (Or.inl (own_w hw 11 rfl)) Via.refl e3 F_starts_o0 (g := (mkF m 19 #[rv o0, iv 2, iv u0, iv u1, .unset, .unset] [(.ref o0), (.int u0)])) rfl rfl (hb hby d5_19)
  refine own_go T6 m 22 #[rv o0, iv 2, iv u0, iv u1, .unset, .unset] [(.ref o5), (.int u0)] (st6) ?_
  refine own_go T6 m 23 #[rv o0, iv 2, iv u0, iv u1, .unset, .unset] [(.int 2), (.ref o5), (.int u0)] (fun t k => XS.iloadN X6.here hx rfl (hb hby d5_22) rfl k) ?_
  refine own_go T6 m 24 #[rv o0, iv 2, iv u0, iv u1, .unset, .unset] [(.int u3), (.int u0)] (own_iaload X6 hx hZ e6 V_o5 (j := (2 : Int32)) ⟨by decide, by decide⟩ rfl (hb hby d5_23)) ?_
  refine own_go T6 m 25 #[rv o0, iv 2, iv u0, iv u1, .unset, .unset] [(.int (u0 - u3))] (fun t k => XS.isub X6.here hx rfl (hb hby d5_24) rfl k) ?_
  refine own_go T6 m 27 #[rv o0, iv 2, iv u0, iv u1, .unset, .unset] [(.int 64), (.int (u0 - u3))] (fun t k => XS.bipush X6.here hx rfl (hb hby d5_25) k) ?_
  refine own_go T6 m 30 #[rv o0, iv 2, iv u0, iv u1, .unset, .unset] [] (fun t k => XS.icmpNo X6.here hx rfl (hb hby d5_27) rfl (tlt hq0).2.1 k) ?_
  refine own_go T6 m 31 #[rv o0, iv 2, iv u0, iv u1, .unset, .unset] [(.int 1)] (fun t k => XS.iconst X6.here hx rfl (hb hby d5_30) k) ?_
  refine own_go T6 m 35 #[rv o0, iv 2, iv u0, iv u1, .unset, .unset] [(.int 1)] (fun t k => XS.goto X6.here hx rfl (pc0 := 31) (pc' := 35) rfl (hb hby d5_31) (by decide) (by decide) k) ?_
  refine own_go T6 m 37 #[rv o0, iv 2, iv u0, iv u1, iv 1, .unset] [] (fun t k => XS.istore X6.here hx rfl (hb hby d5_35) rfl rfl k) ?_
  refine own_go T6 m 38 #[rv o0, iv 2, iv u0, iv u1, iv 1, .unset] [(.ref o0)] (fun t k => XS.aloadN X6.here hx rfl (hb hby d5_37) rfl rfl k) ?_
  obtain ⟨T8, X8, e8, st8⟩ := getF X6 hx hZ hown (host := "") (Or.inl (own_w hw 11 rfl)) Via.refl e6 F_starts_o0 (g := (mkF m 38 #[rv o0, iv 2, iv u0, iv u1, iv 1, .unset] [(.ref o0)])) rfl rfl (hb hby d5_38)
  refine own_go T8 m 41 #[rv o0, iv 2, iv u0, iv u1, iv 1, .unset] [(.ref o5)] (st8) ?_
  refine own_go T8 m 42 #[rv o0, iv 2, iv u0, iv u1, iv 1, .unset] [(.int 2), (.ref o5)] (fun t k => XS.iloadN X8.here hx rfl (hb hby d5_41) rfl k) ?_
  refine own_go T8 m 43 #[rv o0, iv 2, iv u0, iv u1, iv 1, .unset] [(.int u3)] (own_iaload X8 hx hZ e8 V_o5 (j := (2 : Int32)) ⟨by decide, by decide⟩ rfl (hb hby d5_42)) ?_
  refine own_go T8 m 44 #[rv o0, iv 2, iv u0, iv u1, iv 1, .unset] [(.int u1), (.int u3)] (fun t k => XS.iloadN X8.here hx rfl (hb hby d5_43) rfl k) ?_
  refine own_go T8 m 45 #[rv o0, iv 2, iv u0, iv u1, iv 1, .unset] [(.int (u3 - u1))] (fun t k => XS.isub X8.here hx rfl (hb hby d5_44) rfl k) ?_
  refine own_go T8 m 47 #[rv o0, iv 2, iv u0, iv u1, iv 1, .unset] [(.int 64), (.int (u3 - u1))] (fun t k => XS.bipush X8.here hx rfl (hb hby d5_45) k) ?_
  refine own_go T8 m 54 #[rv o0, iv 2, iv u0, iv u1, iv 1, .unset] [] (fun t k => XS.icmpYes X8.here hx rfl (pc0 := 47) (pc' := 54) rfl (hb hby d5_47) rfl (tlt hq1).1 (by decide) (by decide) k) ?_
  refine own_go T8 m 55 #[rv o0, iv 2, iv u0, iv u1, iv 1, .unset] [(.int 0)] (fun t k => XS.iconst X8.here hx rfl (hb hby d5_54) k) ?_
  refine own_go T8 m 57 #[rv o0, iv 2, iv u0, iv u1, iv 1, iv 0] [] (fun t k => XS.istore X8.here hx rfl (hb hby d5_55) rfl rfl k) ?_
  refine own_go T8 m 59 #[rv o0, iv 2, iv u0, iv u1, iv 1, iv 0] [(.int 1)] (fun t k => XS.iload X8.here hx rfl (hb hby d5_57) rfl k) ?_
  refine own_go T8 m 62 #[rv o0, iv 2, iv u0, iv u1, iv 1, iv 0] [] (fun t k => XS.ifNo X8.here hx rfl (hb hby d5_59) rfl ((if0 _ _).trans (feq (by decide)).1) k) ?_
  refine own_go T8 m 63 #[rv o0, iv 2, iv u0, iv u1, iv 1, iv 0] [(.int 2)] (fun t k => XS.iloadN X8.here hx rfl (hb hby d5_62) rfl k) ?_
  refine own_go T8 m 64 #[rv o0, iv 2, iv u0, iv u1, iv 1, iv 0] [(.ref o0), (.int 2)] (fun t k => XS.aloadN X8.here hx rfl (hb hby d5_63) rfl rfl k) ?_
  obtain ⟨T10, X10, e10, st10⟩ := getF X8 hx hZ hown (host := "") (Or.inl (own_w hw 37 rfl)) Via.refl e8 F_lastOpened_o0 (g := (mkF m 64 #[rv o0, iv 2, iv u0, iv u1, iv 1, iv 0] [(.ref o0), (.int 2)])) rfl rfl (hb hby d5_64)
  refine own_go T10 m 67 #[rv o0, iv 2, iv u0, iv u1, iv 1, iv 0] [(.int 2), (.int 2)] (st10) ?_
  refine own_go T10 m 75 #[rv o0, iv 2, iv u0, iv u1, iv 1, iv 0] [] (fun t k => XS.icmpYes X10.here hx rfl (pc0 := 67) (pc' := 75) rfl (hb hby d5_67) rfl (teq (by decide)).1 (by decide) (by decide) k) ?_
  refine own_go T10 m 76 #[rv o0, iv 2, iv u0, iv u1, iv 1, iv 0] [(.ref o0)] (fun t k => XS.aloadN X10.here hx rfl (hb hby d5_75) rfl rfl k) ?_
  refine own_go T10 m 77 #[rv o0, iv 2, iv u0, iv u1, iv 1, iv 0] [(.ref o0), (.ref o0)] (fun t k => XS.dup X10.here hx rfl (hb hby d5_76) rfl rfl k) ?_
  obtain ⟨T11, X11, e11, st11⟩ := getF X10 hx hZ hown (host := "") (Or.inl (own_w hw 30 rfl)) Via.refl e10 F_count_o0 (g := (mkF m 77 #[rv o0, iv 2, iv u0, iv u1, iv 1, iv 0] [(.ref o0), (.ref o0)])) rfl rfl (hb hby d5_77)
  refine own_go T11 m 80 #[rv o0, iv 2, iv u0, iv u1, iv 1, iv 0] [(.int 3), (.ref o0)] (st11) ?_
  refine own_go T11 m 81 #[rv o0, iv 2, iv u0, iv u1, iv 1, iv 0] [(.int 1), (.int 3), (.ref o0)] (fun t k => XS.iconst X11.here hx rfl (hb hby d5_80) k) ?_
  refine own_go T11 m 82 #[rv o0, iv 2, iv u0, iv u1, iv 1, iv 0] [(.int ((3 : Int32) - (1 : Int32))), (.ref o0)] (fun t k => XS.isub X11.here hx rfl (hb hby d5_81) rfl k) ?_
  rw [show ((3 : Int32) - (1 : Int32)) = (2 : Int32) from by decide]
  obtain ⟨T12, h12, X12, e12, W12, st12⟩ := putF X11 hx hZ hown (host := "") (Or.inl (own_w hw 30 rfl)) Via.refl e11 F_count_o0 E_o0 (Or.inl (own_w hw 31 rfl)) (own_w hw 2 rfl) (ty := .int) (by decide) rfl rfl (g := (mkF m 82 #[rv o0, iv 2, iv u0, iv u1, iv 1, iv 0] [(.int 2), (.ref o0)])) rfl rfl (hb hby d5_82)
  have F12 := F_count_o0.same W12
  have cf13 := E_o0.wr W12
  have cf14 := F_cursor_o0.other W12 (Or.inr (slot_ne (Or.inl (own_w hw 22 rfl)) (Or.inl (own_w hw 31 rfl)) (by decide) (t := .int) (t' := .int) (by decide) (by decide)))
  have cf15 := F_ends_o0.other W12 (Or.inr (slot_ne (Or.inl (own_w hw 14 rfl)) (Or.inl (own_w hw 31 rfl)) (by decide) (t := (.array .int)) (t' := .int) (by decide) (by decide)))
  have cf16 := F_lastOpened_o0.other W12 (Or.inr (slot_ne (Or.inl (own_w hw 38 rfl)) (Or.inl (own_w hw 31 rfl)) (by decide) (t := .int) (t' := .int) (by decide) (by decide)))
  have cf17 := F_segmentEnd_o0.other W12 (Or.inr (slot_ne (Or.inl (own_w hw 18 rfl)) (Or.inl (own_w hw 31 rfl)) (by decide) (t := (.array .int)) (t' := .int) (by decide) (by decide)))
  have cf18 := F_segmentFirst_o0.other W12 (Or.inr (slot_ne (Or.inl (own_w hw 16 rfl)) (Or.inl (own_w hw 31 rfl)) (by decide) (t := (.array .int)) (t' := .int) (by decide) (by decide)))
  have cf19 := F_segmentLimit_o0.other W12 (Or.inr (slot_ne (Or.inl (own_w hw 20 rfl)) (Or.inl (own_w hw 31 rfl)) (by decide) (t := (.array .int)) (t' := .int) (by decide) (by decide)))
  have cf20 := F_segments_o0.other W12 (Or.inr (slot_ne (Or.inl (own_w hw 29 rfl)) (Or.inl (own_w hw 31 rfl)) (by decide) (t := .int) (t' := .int) (by decide) (by decide)))
  have cf21 := F_starts_o0.other W12 (Or.inr (slot_ne (Or.inl (own_w hw 12 rfl)) (Or.inl (own_w hw 31 rfl)) (by decide) (t := (.array .int)) (t' := .int) (by decide) (by decide)))
  have cf22 := V_o3.other W12 (Ne.symm ne_o0_o3)
  have cf23 := V_o5.other W12 (Ne.symm ne_o0_o5)
  have Z_12 : n0 ≤ h12.size := Nat.le_trans Z0 (Keep.of_wr W12).1
  have K_12 : Keep h0 h12 [o0] := K0.wr W12 (own_i 0 rfl)
  have N12 := Fr.snoc X12 N0 g_o0
  refine own_go T12 m 85 #[rv o0, iv 2, iv u0, iv u1, iv 1, iv 0] [] (st12) ?_
  refine own_go T12 m 95 #[rv o0, iv 2, iv u0, iv u1, iv 1, iv 0] [] (fun t k => XS.goto X12.here hx rfl (pc0 := 85) (pc' := 95) rfl (hb hby d5_85) (by decide) (by decide) k) ?_
  refine own_retV X12 hx hlk hret (hb hby d5_95) (by decide) (by decide) ?_
  rw [e12]
  exact ⟨rfl, N12, K_12, cf14, cf15, cf16, cf17, cf18, cf19, cf20, cf21, F12⟩
theorem own_db1 (t0 t1 t2 t3 t4 t5 t6 t7 t8 t9 : Int32) (h0 : ¬ (t0 < (0 : Int32))) (h1 : t0 < t1) (h2 : t1 < t2) (h3 : ¬ (t3 < t2)) (h4 : t3 < t4) (h5 : t4 < t5) (h6 : t6 < t7) (h7 : t8 < t9) (h8 : t6 < (64 : Int32)) (h9 : t9 < (64 : Int32)) (h10 : t7 < (64 : Int32)) : t8 < (64 : Int32) := by
  simp only [Int32.lt_iff_toInt_lt, ← Int32.toInt_inj, Int32.reduceToInt] at *
  omega
theorem ef_sp7 (m : MethodId) (q0 : Addr) (q1 : Int32) (q2 : Int32) : entryFrame m #[(.ref q0), (.int q1), (.int q2)] 6 = mkF m 0 #[rv q0, iv q1, iv q2, .unset, .unset, .unset] [] := by first | (simp [entryFrame, mkF, argsToLocals, Value.category]; done) | rfl
set_option maxRecDepth 65536 in
set_option maxHeartbeats 40000000 in
theorem sp7 (l : Launch) (Z : State) (a0 : Array Value) (hw : ∀ d ∈ tables_1, d.before a0 Z = true) (ws : List Jvm.Cond) (o0 o1 o2 o3 : Addr) (u0 : Int32) (u1 : Int32) (u2 : Int32) (u3 : Int32) (c0 : ClassId) (c1 : ClassId) (c2 : ClassId) (h0 : Heap) (n0 : Nat) (Z0 : n0 ≤ h0.size) (F_ends_o0 : Fld Z h0 o0 OwnK0 "ends" "[I" (.ref o1)) (F_lastOpened_o0 : Fld Z h0 o0 OwnK0 "lastOpened" "I" (.int 2)) (F_segmentFirst_o0 : Fld Z h0 o0 OwnK0 "segmentFirst" "[I" (.ref o2)) (F_segments_o0 : Fld Z h0 o0 OwnK0 "segments" "I" (.int 1)) (F_starts_o0 : Fld Z h0 o0 OwnK0 "starts" "[I" (.ref o3)) (V_o1 : Arv Z h0 o1 c0 .int (8 : Int32) [(.int (-2)), (.int (-2)), (.int (-2)), (.int 0), (.int 0), (.int 0), (.int 0), (.int 0)] (.int 0)) (V_o2 : Arv Z h0 o2 c1 .int (8 : Int32) [(.int 0), (.int 0), (.int 0), (.int 0), (.int 0), (.int 0), (.int 0), (.int 0)] (.int 0)) (V_o3 : Arv Z h0 o3 c2 .int (8 : Int32) [(.int u1), (.int u2), (.int u3), (.int 0), (.int 0), (.int 0), (.int 0), (.int 0)] (.int 0)) (ne_o0_o1 : o0 ≠ o1) (ne_o1_o2 : o1 ≠ o2) (ne_o1_o3 : o1 ≠ o3) (g_o1 : n0 ≤ o1) (hq0 : (u0 - u2) < (64 : Int32)) (hq1 : (u2 - u1) < (64 : Int32)) :
    OwnC l Z (⟨OwnK0, "closed", "(II)V"⟩ : MethodName) prog_48_method_7_code 6 none ws ({ frames := 0, cells := 0, slots := 0, locals := 0 } : Room) #[(.ref o0), (.int 1), (.int u0)] h0 (fun v h L => v = none ∧ Fr n0 L ∧ Keep h0 h [o1] ∧ Arv Z h o1 c0 .int (8 : Int32) [(.int (-2)), (.int u0), (.int (-2)), (.int 0), (.int 0), (.int 0), (.int 0), (.int 0)] (.int 0)) := by
  refine own_entry pf_com_example_wirelens_wirelens_wire_GroupEnds_closed__II_V (fun m => ef_sp7 m o0 (1 : Int32) u0) ?_
  intro p e s m below meth c T0 X0 hC e0
  obtain ⟨hx, hby, hml, hown, hnm, hret, hlk, hZ⟩ := hC
  have N0 := Fr.nil n0
  have K0 := Keep.refl h0 [o1]
  refine own_go T0 m 1 #[rv o0, iv 1, iv u0, .unset, .unset, .unset] [(.ref o0)] (fun t k => XS.aloadN X0.here hx rfl (hb hby d5_0) rfl rfl k) ?_
  obtain ⟨T1, X1, e1, st1⟩ := getF X0 hx hZ hown (host := "") (Or.inl (own_w hw 11 rfl)) Via.refl e0 F_starts_o0 (g := (mkF m 1 #[rv o0, iv 1, iv u0, .unset, .unset, .unset] [(.ref o0)])) rfl rfl (hb hby d5_1)
  refine own_go T1 m 4 #[rv o0, iv 1, iv u0, .unset, .unset, .unset] [(.ref o3)] (st1) ?_
  refine own_go T1 m 5 #[rv o0, iv 1, iv u0, .unset, .unset, .unset] [(.ref o0), (.ref o3)] (fun t k => XS.aloadN X1.here hx rfl (hb hby d5_4) rfl rfl k) ?_
  obtain ⟨T2, X2, e2, st2⟩ := getF X1 hx hZ hown (host := "") (Or.inl (own_w hw 15 rfl)) Via.refl e1 F_segmentFirst_o0 (g := (mkF m 5 #[rv o0, iv 1, iv u0, .unset, .unset, .unset] [(.ref o0), (.ref o3)])) rfl rfl (hb hby d5_5)
  refine own_go T2 m 8 #[rv o0, iv 1, iv u0, .unset, .unset, .unset] [(.ref o2), (.ref o3)] (st2) ?_
  refine own_go T2 m 9 #[rv o0, iv 1, iv u0, .unset, .unset, .unset] [(.ref o0), (.ref o2), (.ref o3)] (fun t k => XS.aloadN X2.here hx rfl (hb hby d5_8) rfl rfl k) ?_
  obtain ⟨T3, X3, e3, st3⟩ := getF X2 hx hZ hown (host := "") (Or.inl (own_w hw 28 rfl)) Via.refl e2 F_segments_o0 (g := (mkF m 9 #[rv o0, iv 1, iv u0, .unset, .unset, .unset] [(.ref o0), (.ref o2), (.ref o3)])) rfl rfl (hb hby d5_9)
  refine own_go T3 m 12 #[rv o0, iv 1, iv u0, .unset, .unset, .unset] [(.int 1), (.ref o2), (.ref o3)] (st3) ?_
  refine own_go T3 m 13 #[rv o0, iv 1, iv u0, .unset, .unset, .unset] [(.int 1), (.int 1), (.ref o2), (.ref o3)] (fun t k => XS.iconst X3.here hx rfl (hb hby d5_12) k) ?_
  refine own_go T3 m 14 #[rv o0, iv 1, iv u0, .unset, .unset, .unset] [(.int ((1 : Int32) - (1 : Int32))), (.ref o2), (.ref o3)] (fun t k => XS.isub X3.here hx rfl (hb hby d5_13) rfl k) ?_
  rw [show ((1 : Int32) - (1 : Int32)) = (0 : Int32) from by decide]
  refine own_go T3 m 15 #[rv o0, iv 1, iv u0, .unset, .unset, .unset] [(.int 0), (.ref o3)] (own_iaload X3 hx hZ e3 V_o2 (j := (0 : Int32)) ⟨by decide, by decide⟩ rfl (hb hby d5_14)) ?_
  refine own_go T3 m 16 #[rv o0, iv 1, iv u0, .unset, .unset, .unset] [(.int u1)] (own_iaload X3 hx hZ e3 V_o3 (j := (0 : Int32)) ⟨by decide, by decide⟩ rfl (hb hby d5_15)) ?_
  refine own_go T3 m 17 #[rv o0, iv 1, iv u0, iv u1, .unset, .unset] [] (fun t k => XS.istoreN X3.here hx rfl (hb hby d5_16) rfl rfl k) ?_
  refine own_go T3 m 18 #[rv o0, iv 1, iv u0, iv u1, .unset, .unset] [(.int u0)] (fun t k => XS.iloadN X3.here hx rfl (hb hby d5_17) rfl k) ?_
  refine own_go T3 m 19 #[rv o0, iv 1, iv u0, iv u1, .unset, .unset] [(.ref o0), (.int u0)] (fun t k => XS.aloadN X3.here hx rfl (hb hby d5_18) rfl rfl k) ?_
  obtain ⟨T6, X6, e6, st6⟩ := getF X3 hx hZ hown (host := "") (Or.inl (own_w hw 11 rfl)) Via.refl e3 F_starts_o0 (g := (mkF m 19 #[rv o0, iv 1, iv u0, iv u1, .unset, .unset] [(.ref o0), (.int u0)])) rfl rfl (hb hby d5_19)
  refine own_go T6 m 22 #[rv o0, iv 1, iv u0, iv u1, .unset, .unset] [(.ref o3), (.int u0)] (st6) ?_
  refine own_go T6 m 23 #[rv o0, iv 1, iv u0, iv u1, .unset, .unset] [(.int 1), (.ref o3), (.int u0)] (fun t k => XS.iloadN X6.here hx rfl (hb hby d5_22) rfl k) ?_
  refine own_go T6 m 24 #[rv o0, iv 1, iv u0, iv u1, .unset, .unset] [(.int u2), (.int u0)] (own_iaload X6 hx hZ e6 V_o3 (j := (1 : Int32)) ⟨by decide, by decide⟩ rfl (hb hby d5_23)) ?_
  refine own_go T6 m 25 #[rv o0, iv 1, iv u0, iv u1, .unset, .unset] [(.int (u0 - u2))] (fun t k => XS.isub X6.here hx rfl (hb hby d5_24) rfl k) ?_
  refine own_go T6 m 27 #[rv o0, iv 1, iv u0, iv u1, .unset, .unset] [(.int 64), (.int (u0 - u2))] (fun t k => XS.bipush X6.here hx rfl (hb hby d5_25) k) ?_
  refine own_go T6 m 30 #[rv o0, iv 1, iv u0, iv u1, .unset, .unset] [] (fun t k => XS.icmpNo X6.here hx rfl (hb hby d5_27) rfl (tlt hq0).2.1 k) ?_
  refine own_go T6 m 31 #[rv o0, iv 1, iv u0, iv u1, .unset, .unset] [(.int 1)] (fun t k => XS.iconst X6.here hx rfl (hb hby d5_30) k) ?_
  refine own_go T6 m 35 #[rv o0, iv 1, iv u0, iv u1, .unset, .unset] [(.int 1)] (fun t k => XS.goto X6.here hx rfl (pc0 := 31) (pc' := 35) rfl (hb hby d5_31) (by decide) (by decide) k) ?_
  refine own_go T6 m 37 #[rv o0, iv 1, iv u0, iv u1, iv 1, .unset] [] (fun t k => XS.istore X6.here hx rfl (hb hby d5_35) rfl rfl k) ?_
  refine own_go T6 m 38 #[rv o0, iv 1, iv u0, iv u1, iv 1, .unset] [(.ref o0)] (fun t k => XS.aloadN X6.here hx rfl (hb hby d5_37) rfl rfl k) ?_
  obtain ⟨T8, X8, e8, st8⟩ := getF X6 hx hZ hown (host := "") (Or.inl (own_w hw 11 rfl)) Via.refl e6 F_starts_o0 (g := (mkF m 38 #[rv o0, iv 1, iv u0, iv u1, iv 1, .unset] [(.ref o0)])) rfl rfl (hb hby d5_38)
  refine own_go T8 m 41 #[rv o0, iv 1, iv u0, iv u1, iv 1, .unset] [(.ref o3)] (st8) ?_
  refine own_go T8 m 42 #[rv o0, iv 1, iv u0, iv u1, iv 1, .unset] [(.int 1), (.ref o3)] (fun t k => XS.iloadN X8.here hx rfl (hb hby d5_41) rfl k) ?_
  refine own_go T8 m 43 #[rv o0, iv 1, iv u0, iv u1, iv 1, .unset] [(.int u2)] (own_iaload X8 hx hZ e8 V_o3 (j := (1 : Int32)) ⟨by decide, by decide⟩ rfl (hb hby d5_42)) ?_
  refine own_go T8 m 44 #[rv o0, iv 1, iv u0, iv u1, iv 1, .unset] [(.int u1), (.int u2)] (fun t k => XS.iloadN X8.here hx rfl (hb hby d5_43) rfl k) ?_
  refine own_go T8 m 45 #[rv o0, iv 1, iv u0, iv u1, iv 1, .unset] [(.int (u2 - u1))] (fun t k => XS.isub X8.here hx rfl (hb hby d5_44) rfl k) ?_
  refine own_go T8 m 47 #[rv o0, iv 1, iv u0, iv u1, iv 1, .unset] [(.int 64), (.int (u2 - u1))] (fun t k => XS.bipush X8.here hx rfl (hb hby d5_45) k) ?_
  refine own_go T8 m 54 #[rv o0, iv 1, iv u0, iv u1, iv 1, .unset] [] (fun t k => XS.icmpYes X8.here hx rfl (pc0 := 47) (pc' := 54) rfl (hb hby d5_47) rfl (tlt hq1).1 (by decide) (by decide) k) ?_
  refine own_go T8 m 55 #[rv o0, iv 1, iv u0, iv u1, iv 1, .unset] [(.int 0)] (fun t k => XS.iconst X8.here hx rfl (hb hby d5_54) k) ?_
  refine own_go T8 m 57 #[rv o0, iv 1, iv u0, iv u1, iv 1, iv 0] [] (fun t k => XS.istore X8.here hx rfl (hb hby d5_55) rfl rfl k) ?_
  refine own_go T8 m 59 #[rv o0, iv 1, iv u0, iv u1, iv 1, iv 0] [(.int 1)] (fun t k => XS.iload X8.here hx rfl (hb hby d5_57) rfl k) ?_
  refine own_go T8 m 62 #[rv o0, iv 1, iv u0, iv u1, iv 1, iv 0] [] (fun t k => XS.ifNo X8.here hx rfl (hb hby d5_59) rfl ((if0 _ _).trans (feq (by decide)).1) k) ?_
  refine own_go T8 m 63 #[rv o0, iv 1, iv u0, iv u1, iv 1, iv 0] [(.int 1)] (fun t k => XS.iloadN X8.here hx rfl (hb hby d5_62) rfl k) ?_
  refine own_go T8 m 64 #[rv o0, iv 1, iv u0, iv u1, iv 1, iv 0] [(.ref o0), (.int 1)] (fun t k => XS.aloadN X8.here hx rfl (hb hby d5_63) rfl rfl k) ?_
  obtain ⟨T10, X10, e10, st10⟩ := getF X8 hx hZ hown (host := "") (Or.inl (own_w hw 37 rfl)) Via.refl e8 F_lastOpened_o0 (g := (mkF m 64 #[rv o0, iv 1, iv u0, iv u1, iv 1, iv 0] [(.ref o0), (.int 1)])) rfl rfl (hb hby d5_64)
  refine own_go T10 m 67 #[rv o0, iv 1, iv u0, iv u1, iv 1, iv 0] [(.int 2), (.int 1)] (st10) ?_
  refine own_go T10 m 70 #[rv o0, iv 1, iv u0, iv u1, iv 1, iv 0] [] (fun t k => XS.icmpNo X10.here hx rfl (hb hby d5_67) rfl (feq (by decide)).1 k) ?_
  refine own_go T10 m 72 #[rv o0, iv 1, iv u0, iv u1, iv 1, iv 0] [(.int 0)] (fun t k => XS.iload X10.here hx rfl (hb hby d5_70) rfl k) ?_
  refine own_go T10 m 88 #[rv o0, iv 1, iv u0, iv u1, iv 1, iv 0] [] (fun t k => XS.ifYes X10.here hx rfl (pc0 := 72) (pc' := 88) rfl (hb hby d5_72) rfl ((if0 _ _).trans (teq (by decide)).1) (by decide) (by decide) k) ?_
  refine own_go T10 m 89 #[rv o0, iv 1, iv u0, iv u1, iv 1, iv 0] [(.ref o0)] (fun t k => XS.aloadN X10.here hx rfl (hb hby d5_88) rfl rfl k) ?_
  obtain ⟨T11, X11, e11, st11⟩ := getF X10 hx hZ hown (host := "") (Or.inl (own_w hw 13 rfl)) Via.refl e10 F_ends_o0 (g := (mkF m 89 #[rv o0, iv 1, iv u0, iv u1, iv 1, iv 0] [(.ref o0)])) rfl rfl (hb hby d5_89)
  refine own_go T11 m 92 #[rv o0, iv 1, iv u0, iv u1, iv 1, iv 0] [(.ref o1)] (st11) ?_
  refine own_go T11 m 93 #[rv o0, iv 1, iv u0, iv u1, iv 1, iv 0] [(.int 1), (.ref o1)] (fun t k => XS.iloadN X11.here hx rfl (hb hby d5_92) rfl k) ?_
  refine own_go T11 m 94 #[rv o0, iv 1, iv u0, iv u1, iv 1, iv 0] [(.int u0), (.int 1), (.ref o1)] (fun t k => XS.iloadN X11.here hx rfl (hb hby d5_93) rfl k) ?_
  obtain ⟨T12, h12, X12, e12, W12, V12, st12⟩ := own_iastore X11 hx hZ e11 V_o1 (j := (1 : Int32)) ⟨by decide, by decide⟩ 1 rfl (Nat.le_of_ble_eq_true rfl) (Ls := #[rv o0, iv 1, iv u0, iv u1, iv 1, iv 0]) (rest := []) (x := u0) (hb hby d5_94)
  replace V12 : Arv Z h12 o1 c0 .int (8 : Int32) [(.int (-2)), (.int u0), (.int (-2)), (.int 0), (.int 0), (.int 0), (.int 0), (.int 0)] (.int 0) := V12
  have cf13 := F_ends_o0.other W12 (Or.inl ne_o0_o1)
  have cf14 := F_lastOpened_o0.other W12 (Or.inl ne_o0_o1)
  have cf15 := F_segmentFirst_o0.other W12 (Or.inl ne_o0_o1)
  have cf16 := F_segments_o0.other W12 (Or.inl ne_o0_o1)
  have cf17 := F_starts_o0.other W12 (Or.inl ne_o0_o1)
  have cf18 := V_o2.other W12 (Ne.symm ne_o1_o2)
  have cf19 := V_o3.other W12 (Ne.symm ne_o1_o3)
  have Z_12 : n0 ≤ h12.size := Nat.le_trans Z0 (Keep.of_wr W12).1
  have K_12 : Keep h0 h12 [o1] := K0.wr W12 (own_i 0 rfl)
  have N12 := Fr.snoc X12 N0 g_o1
  refine own_go T12 m 95 #[rv o0, iv 1, iv u0, iv u1, iv 1, iv 0] [] (st12) ?_
  refine own_retV X12 hx hlk hret (hb hby d5_95) (by decide) (by decide) ?_
  rw [e12]
  exact ⟨rfl, N12, K_12, V12⟩
theorem d6_0 : decode prog_48_method_8_code 0 = .ok (.aload_n 0, 1) := by decide +kernel
theorem d6_1 : decode prog_48_method_8_code 1 = .ok (.getfield 29, 3) := by decide +kernel
theorem d6_4 : decode prog_48_method_8_code 4 = .ok (.iconst 1, 1) := by decide +kernel
theorem d6_5 : decode prog_48_method_8_code 5 = .ok (.isub, 1) := by decide +kernel
theorem d6_6 : decode prog_48_method_8_code 6 = .ok (.istore_n 2, 1) := by decide +kernel
theorem d6_7 : decode prog_48_method_8_code 7 = .ok (.aload_n 0, 1) := by decide +kernel
theorem d6_8 : decode prog_48_method_8_code 8 = .ok (.getfield 36, 3) := by decide +kernel
theorem d6_11 : decode prog_48_method_8_code 11 = .ok (.aload_n 0, 1) := by decide +kernel
theorem d6_12 : decode prog_48_method_8_code 12 = .ok (.getfield 16, 3) := by decide +kernel
theorem d6_15 : decode prog_48_method_8_code 15 = .ok (.iload_n 2, 1) := by decide +kernel
theorem d6_16 : decode prog_48_method_8_code 16 = .ok (.iaload, 1) := by decide +kernel
theorem d6_17 : decode prog_48_method_8_code 17 = .ok (.if_icmp .ne 16, 3) := by decide +kernel
theorem d6_20 : decode prog_48_method_8_code 20 = .ok (.aload_n 0, 1) := by decide +kernel
theorem d6_21 : decode prog_48_method_8_code 21 = .ok (.dup, 1) := by decide +kernel
theorem d6_22 : decode prog_48_method_8_code 22 = .ok (.getfield 29, 3) := by decide +kernel
theorem d6_25 : decode prog_48_method_8_code 25 = .ok (.iconst 1, 1) := by decide +kernel
theorem d6_26 : decode prog_48_method_8_code 26 = .ok (.isub, 1) := by decide +kernel
theorem d6_27 : decode prog_48_method_8_code 27 = .ok (.putfield 29, 3) := by decide +kernel
theorem d6_30 : decode prog_48_method_8_code 30 = .ok (.goto 10, 3) := by decide +kernel
theorem d6_33 : decode prog_48_method_8_code 33 = .ok (.aload_n 0, 1) := by decide +kernel
theorem d6_34 : decode prog_48_method_8_code 34 = .ok (.getfield 19, 3) := by decide +kernel
theorem d6_37 : decode prog_48_method_8_code 37 = .ok (.iload_n 2, 1) := by decide +kernel
theorem d6_38 : decode prog_48_method_8_code 38 = .ok (.iload_n 1, 1) := by decide +kernel
theorem d6_39 : decode prog_48_method_8_code 39 = .ok (.iastore, 1) := by decide +kernel
theorem d6_40 : decode prog_48_method_8_code 40 = .ok (.return_, 1) := by decide +kernel
theorem pf_com_example_wirelens_wirelens_wire_GroupEnds_endRead__I_V : plainFor (⟨OwnK0, "endRead", "(I)V"⟩ : MethodName) = true := by first | exact plainFor_of_name (by first | (simp [plainName, overriddenIn]; done) | decide +kernel) | exact Jvm.Free.JP.mathPlain rfl (by decide +kernel) | decide +kernel
theorem ef_sp8 (m : MethodId) (q0 : Addr) (q1 : Int32) : entryFrame m #[(.ref q0), (.int q1)] 3 = mkF m 0 #[rv q0, iv q1, .unset] [] := by first | (simp [entryFrame, mkF, argsToLocals, Value.category]; done) | rfl
set_option maxRecDepth 65536 in
set_option maxHeartbeats 40000000 in
theorem sp8 (l : Launch) (Z : State) (a0 : Array Value) (hw : ∀ d ∈ tables_1, d.before a0 Z = true) (ws : List Jvm.Cond) (o0 o1 o2 : Addr) (u0 : Int32) (c0 : ClassId) (c1 : ClassId) (h0 : Heap) (n0 : Nat) (Z0 : n0 ≤ h0.size) (F_count_o0 : Fld Z h0 o0 OwnK0 "count" "I" (.int 2)) (F_segmentEnd_o0 : Fld Z h0 o0 OwnK0 "segmentEnd" "[I" (.ref o1)) (F_segmentFirst_o0 : Fld Z h0 o0 OwnK0 "segmentFirst" "[I" (.ref o2)) (F_segments_o0 : Fld Z h0 o0 OwnK0 "segments" "I" (.int 1)) (V_o1 : Arv Z h0 o1 c0 .int (8 : Int32) [(.int 0), (.int 0), (.int 0), (.int 0), (.int 0), (.int 0), (.int 0), (.int 0)] (.int 0)) (V_o2 : Arv Z h0 o2 c1 .int (8 : Int32) [(.int 0), (.int 0), (.int 0), (.int 0), (.int 0), (.int 0), (.int 0), (.int 0)] (.int 0)) (ne_o0_o1 : o0 ≠ o1) (ne_o1_o2 : o1 ≠ o2) (g_o1 : n0 ≤ o1) :
    OwnC l Z (⟨OwnK0, "endRead", "(I)V"⟩ : MethodName) prog_48_method_8_code 3 none ws ({ frames := 0, cells := 0, slots := 0, locals := 0 } : Room) #[(.ref o0), (.int u0)] h0 (fun v h L => v = none ∧ Fr n0 L ∧ Keep h0 h [o1] ∧ Arv Z h o1 c0 .int (8 : Int32) [(.int u0), (.int 0), (.int 0), (.int 0), (.int 0), (.int 0), (.int 0), (.int 0)] (.int 0)) := by
  refine own_entry pf_com_example_wirelens_wirelens_wire_GroupEnds_endRead__I_V (fun m => ef_sp8 m o0 u0) ?_
  intro p e s m below meth c T0 X0 hC e0
  obtain ⟨hx, hby, hml, hown, hnm, hret, hlk, hZ⟩ := hC
  have N0 := Fr.nil n0
  have K0 := Keep.refl h0 [o1]
  refine own_go T0 m 1 #[rv o0, iv u0, .unset] [(.ref o0)] (fun t k => XS.aloadN X0.here hx rfl (hb hby d6_0) rfl rfl k) ?_
  obtain ⟨T1, X1, e1, st1⟩ := getF X0 hx hZ hown (host := "") (Or.inl (own_w hw 28 rfl)) Via.refl e0 F_segments_o0 (g := (mkF m 1 #[rv o0, iv u0, .unset] [(.ref o0)])) rfl rfl (hb hby d6_1)
  refine own_go T1 m 4 #[rv o0, iv u0, .unset] [(.int 1)] (st1) ?_
  refine own_go T1 m 5 #[rv o0, iv u0, .unset] [(.int 1), (.int 1)] (fun t k => XS.iconst X1.here hx rfl (hb hby d6_4) k) ?_
  refine own_go T1 m 6 #[rv o0, iv u0, .unset] [(.int ((1 : Int32) - (1 : Int32)))] (fun t k => XS.isub X1.here hx rfl (hb hby d6_5) rfl k) ?_
  rw [show ((1 : Int32) - (1 : Int32)) = (0 : Int32) from by decide]
  refine own_go T1 m 7 #[rv o0, iv u0, iv 0] [] (fun t k => XS.istoreN X1.here hx rfl (hb hby d6_6) rfl rfl k) ?_
  refine own_go T1 m 8 #[rv o0, iv u0, iv 0] [(.ref o0)] (fun t k => XS.aloadN X1.here hx rfl (hb hby d6_7) rfl rfl k) ?_
  obtain ⟨T2, X2, e2, st2⟩ := getF X1 hx hZ hown (host := "") (Or.inl (own_w hw 30 rfl)) Via.refl e1 F_count_o0 (g := (mkF m 8 #[rv o0, iv u0, iv 0] [(.ref o0)])) rfl rfl (hb hby d6_8)
  refine own_go T2 m 11 #[rv o0, iv u0, iv 0] [(.int 2)] (st2) ?_
  refine own_go T2 m 12 #[rv o0, iv u0, iv 0] [(.ref o0), (.int 2)] (fun t k => XS.aloadN X2.here hx rfl (hb hby d6_11) rfl rfl k) ?_
  obtain ⟨T3, X3, e3, st3⟩ := getF X2 hx hZ hown (host := "") (Or.inl (own_w hw 15 rfl)) Via.refl e2 F_segmentFirst_o0 (g := (mkF m 12 #[rv o0, iv u0, iv 0] [(.ref o0), (.int 2)])) rfl rfl (hb hby d6_12)
  refine own_go T3 m 15 #[rv o0, iv u0, iv 0] [(.ref o2), (.int 2)] (st3) ?_
  refine own_go T3 m 16 #[rv o0, iv u0, iv 0] [(.int 0), (.ref o2), (.int 2)] (fun t k => XS.iloadN X3.here hx rfl (hb hby d6_15) rfl k) ?_
  refine own_go T3 m 17 #[rv o0, iv u0, iv 0] [(.int 0), (.int 2)] (own_iaload X3 hx hZ e3 V_o2 (j := (0 : Int32)) ⟨by decide, by decide⟩ rfl (hb hby d6_16)) ?_
  refine own_go T3 m 33 #[rv o0, iv u0, iv 0] [] (fun t k => XS.icmpYes X3.here hx rfl (pc0 := 17) (pc' := 33) rfl (hb hby d6_17) rfl (feq (by decide)).2 (by decide) (by decide) k) ?_
  refine own_go T3 m 34 #[rv o0, iv u0, iv 0] [(.ref o0)] (fun t k => XS.aloadN X3.here hx rfl (hb hby d6_33) rfl rfl k) ?_
  obtain ⟨T5, X5, e5, st5⟩ := getF X3 hx hZ hown (host := "") (Or.inl (own_w hw 17 rfl)) Via.refl e3 F_segmentEnd_o0 (g := (mkF m 34 #[rv o0, iv u0, iv 0] [(.ref o0)])) rfl rfl (hb hby d6_34)
  refine own_go T5 m 37 #[rv o0, iv u0, iv 0] [(.ref o1)] (st5) ?_
  refine own_go T5 m 38 #[rv o0, iv u0, iv 0] [(.int 0), (.ref o1)] (fun t k => XS.iloadN X5.here hx rfl (hb hby d6_37) rfl k) ?_
  refine own_go T5 m 39 #[rv o0, iv u0, iv 0] [(.int u0), (.int 0), (.ref o1)] (fun t k => XS.iloadN X5.here hx rfl (hb hby d6_38) rfl k) ?_
  obtain ⟨T6, h6, X6, e6, W6, V6, st6⟩ := own_iastore X5 hx hZ e5 V_o1 (j := (0 : Int32)) ⟨by decide, by decide⟩ 0 rfl (Nat.le_of_ble_eq_true rfl) (Ls := #[rv o0, iv u0, iv 0]) (rest := []) (x := u0) (hb hby d6_39)
  replace V6 : Arv Z h6 o1 c0 .int (8 : Int32) [(.int u0), (.int 0), (.int 0), (.int 0), (.int 0), (.int 0), (.int 0), (.int 0)] (.int 0) := V6
  have cf7 := F_count_o0.other W6 (Or.inl ne_o0_o1)
  have cf8 := F_segmentEnd_o0.other W6 (Or.inl ne_o0_o1)
  have cf9 := F_segmentFirst_o0.other W6 (Or.inl ne_o0_o1)
  have cf10 := F_segments_o0.other W6 (Or.inl ne_o0_o1)
  have cf11 := V_o2.other W6 (Ne.symm ne_o1_o2)
  have Z_6 : n0 ≤ h6.size := Nat.le_trans Z0 (Keep.of_wr W6).1
  have K_6 : Keep h0 h6 [o1] := K0.wr W6 (own_i 0 rfl)
  have N6 := Fr.snoc X6 N0 g_o1
  refine own_go T6 m 40 #[rv o0, iv u0, iv 0] [] (st6) ?_
  refine own_retV X6 hx hlk hret (hb hby d6_40) (by decide) (by decide) ?_
  rw [e6]
  exact ⟨rfl, N6, K_6, V6⟩
theorem own_db3 (t0 t1 t2 t3 t4 t5 t6 t7 t8 t9 : Int32) (h0 : ¬ (t0 < (0 : Int32))) (h1 : t0 < t1) (h2 : t1 < t2) (h3 : ¬ (t3 < t2)) (h4 : t3 < t4) (h5 : t4 < t5) (h6 : t6 < t7) (h7 : t8 < t9) (h8 : t6 < (64 : Int32)) (h9 : t9 < (64 : Int32)) (h10 : t7 < (64 : Int32)) : ¬ (t1 < t0) := by
  simp only [Int32.lt_iff_toInt_lt, ← Int32.toInt_inj, Int32.reduceToInt] at *
  omega
theorem own_db4 (t0 t1 t2 t3 t4 t5 t6 t7 t8 t9 : Int32) (h0 : ¬ (t0 < (0 : Int32))) (h1 : t0 < t1) (h2 : t1 < t2) (h3 : ¬ (t3 < t2)) (h4 : t3 < t4) (h5 : t4 < t5) (h6 : t6 < t7) (h7 : t8 < t9) (h8 : t6 < (64 : Int32)) (h9 : t9 < (64 : Int32)) (h10 : t7 < (64 : Int32)) : t1 < t5 := by
  simp only [Int32.lt_iff_toInt_lt, ← Int32.toInt_inj, Int32.reduceToInt] at *
  omega
theorem own_db5 (t0 t1 t2 t3 t4 t5 t6 t7 t8 t9 : Int32) (h0 : ¬ (t0 < (0 : Int32))) (h1 : t0 < t1) (h2 : t1 < t2) (h3 : ¬ (t3 < t2)) (h4 : t3 < t4) (h5 : t4 < t5) (h6 : t6 < t7) (h7 : t8 < t9) (h8 : t6 < (64 : Int32)) (h9 : t9 < (64 : Int32)) (h10 : t7 < (64 : Int32)) : ¬ (t1 < t1) := by
  simp only [Int32.lt_iff_toInt_lt, ← Int32.toInt_inj, Int32.reduceToInt] at *
  omega
theorem own_db6 (t0 t1 t2 t3 t4 t5 t6 t7 t8 t9 : Int32) (h0 : ¬ (t0 < (0 : Int32))) (h1 : t0 < t1) (h2 : t1 < t2) (h3 : ¬ (t3 < t2)) (h4 : t3 < t4) (h5 : t4 < t5) (h6 : t6 < t7) (h7 : t8 < t9) (h8 : t6 < (64 : Int32)) (h9 : t9 < (64 : Int32)) (h10 : t7 < (64 : Int32)) : ¬ (t4 = (-2 : Int32)) := by
  simp only [Int32.lt_iff_toInt_lt, ← Int32.toInt_inj, Int32.reduceToInt] at *
  omega
theorem d7_0 : decode prog_48_method_2_code 0 = .ok (.aload_n 0, 1) := by decide +kernel
theorem d7_1 : decode prog_48_method_2_code 1 = .ok (.getfield 29, 3) := by decide +kernel
theorem d7_4 : decode prog_48_method_2_code 4 = .ok (.ifCond .le 42, 3) := by decide +kernel
theorem d7_7 : decode prog_48_method_2_code 7 = .ok (.aload_n 0, 1) := by decide +kernel
theorem d7_8 : decode prog_48_method_2_code 8 = .ok (.iload_n 1, 1) := by decide +kernel
theorem d7_9 : decode prog_48_method_2_code 9 = .ok (.invokevirtual 32, 3) := by decide +kernel
theorem d7_12 : decode prog_48_method_2_code 12 = .ok (.ifCond .ne 34, 3) := by decide +kernel
theorem d7_15 : decode prog_48_method_2_code 15 = .ok (.aload_n 0, 1) := by decide +kernel
theorem d7_16 : decode prog_48_method_2_code 16 = .ok (.dup, 1) := by decide +kernel
theorem d7_17 : decode prog_48_method_2_code 17 = .ok (.getfield 29, 3) := by decide +kernel
theorem d7_20 : decode prog_48_method_2_code 20 = .ok (.iconst 1, 1) := by decide +kernel
theorem d7_21 : decode prog_48_method_2_code 21 = .ok (.isub, 1) := by decide +kernel
theorem d7_22 : decode prog_48_method_2_code 22 = .ok (.putfield 29, 3) := by decide +kernel
theorem d7_25 : decode prog_48_method_2_code 25 = .ok (.aload_n 0, 1) := by decide +kernel
theorem d7_26 : decode prog_48_method_2_code 26 = .ok (.aload_n 0, 1) := by decide +kernel
theorem d7_27 : decode prog_48_method_2_code 27 = .ok (.getfield 16, 3) := by decide +kernel
theorem d7_30 : decode prog_48_method_2_code 30 = .ok (.aload_n 0, 1) := by decide +kernel
theorem d7_31 : decode prog_48_method_2_code 31 = .ok (.getfield 29, 3) := by decide +kernel
theorem d7_34 : decode prog_48_method_2_code 34 = .ok (.iaload, 1) := by decide +kernel
theorem d7_35 : decode prog_48_method_2_code 35 = .ok (.putfield 36, 3) := by decide +kernel
theorem d7_38 : decode prog_48_method_2_code 38 = .ok (.aload_n 0, 1) := by decide +kernel
theorem d7_39 : decode prog_48_method_2_code 39 = .ok (.iconst (-1), 1) := by decide +kernel
theorem d7_40 : decode prog_48_method_2_code 40 = .ok (.putfield 25, 3) := by decide +kernel
theorem d7_43 : decode prog_48_method_2_code 43 = .ok (.goto (-43), 3) := by decide +kernel
theorem d7_46 : decode prog_48_method_2_code 46 = .ok (.aload_n 0, 1) := by decide +kernel
theorem d7_47 : decode prog_48_method_2_code 47 = .ok (.getfield 29, 3) := by decide +kernel
theorem d7_50 : decode prog_48_method_2_code 50 = .ok (.ifCond .ne 7, 3) := by decide +kernel
theorem d7_53 : decode prog_48_method_2_code 53 = .ok (.iconst (-1), 1) := by decide +kernel
theorem d7_54 : decode prog_48_method_2_code 54 = .ok (.goto 8, 3) := by decide +kernel
theorem d7_57 : decode prog_48_method_2_code 57 = .ok (.aload_n 0, 1) := by decide +kernel
theorem d7_58 : decode prog_48_method_2_code 58 = .ok (.iload_n 1, 1) := by decide +kernel
theorem d7_59 : decode prog_48_method_2_code 59 = .ok (.invokevirtual 39, 3) := by decide +kernel
theorem d7_62 : decode prog_48_method_2_code 62 = .ok (.istore_n 3, 1) := by decide +kernel
theorem d7_63 : decode prog_48_method_2_code 63 = .ok (.iload_n 3, 1) := by decide +kernel
theorem d7_64 : decode prog_48_method_2_code 64 = .ok (.ifCond .ge 9, 3) := by decide +kernel
theorem d7_67 : decode prog_48_method_2_code 67 = .ok (.iconst (-1), 1) := by decide +kernel
theorem d7_68 : decode prog_48_method_2_code 68 = .ok (.istore 4, 2) := by decide +kernel
theorem d7_70 : decode prog_48_method_2_code 70 = .ok (.goto 43, 3) := by decide +kernel
theorem d7_73 : decode prog_48_method_2_code 73 = .ok (.aload_n 0, 1) := by decide +kernel
theorem d7_74 : decode prog_48_method_2_code 74 = .ok (.getfield 13, 3) := by decide +kernel
theorem d7_77 : decode prog_48_method_2_code 77 = .ok (.iload_n 3, 1) := by decide +kernel
theorem d7_78 : decode prog_48_method_2_code 78 = .ok (.iaload, 1) := by decide +kernel
theorem d7_79 : decode prog_48_method_2_code 79 = .ok (.bipush (-2), 2) := by decide +kernel
theorem d7_81 : decode prog_48_method_2_code 81 = .ok (.if_icmp .ne 24, 3) := by decide +kernel
theorem d7_84 : decode prog_48_method_2_code 84 = .ok (.iload_n 2, 1) := by decide +kernel
theorem d7_85 : decode prog_48_method_2_code 85 = .ok (.aload_n 0, 1) := by decide +kernel
theorem d7_86 : decode prog_48_method_2_code 86 = .ok (.getfield 22, 3) := by decide +kernel
theorem d7_89 : decode prog_48_method_2_code 89 = .ok (.aload_n 0, 1) := by decide +kernel
theorem d7_90 : decode prog_48_method_2_code 90 = .ok (.getfield 29, 3) := by decide +kernel
theorem d7_93 : decode prog_48_method_2_code 93 = .ok (.iconst 1, 1) := by decide +kernel
theorem d7_94 : decode prog_48_method_2_code 94 = .ok (.isub, 1) := by decide +kernel
theorem d7_95 : decode prog_48_method_2_code 95 = .ok (.iaload, 1) := by decide +kernel
theorem d7_96 : decode prog_48_method_2_code 96 = .ok (.if_icmp .le 9, 3) := by decide +kernel
theorem d7_99 : decode prog_48_method_2_code 99 = .ok (.iconst (-1), 1) := by decide +kernel
theorem d7_100 : decode prog_48_method_2_code 100 = .ok (.istore 4, 2) := by decide +kernel
theorem d7_102 : decode prog_48_method_2_code 102 = .ok (.goto 11, 3) := by decide +kernel
theorem d7_105 : decode prog_48_method_2_code 105 = .ok (.aload_n 0, 1) := by decide +kernel
theorem d7_106 : decode prog_48_method_2_code 106 = .ok (.getfield 13, 3) := by decide +kernel
theorem d7_109 : decode prog_48_method_2_code 109 = .ok (.iload_n 3, 1) := by decide +kernel
theorem d7_110 : decode prog_48_method_2_code 110 = .ok (.iaload, 1) := by decide +kernel
theorem d7_111 : decode prog_48_method_2_code 111 = .ok (.istore 4, 2) := by decide +kernel
theorem d7_113 : decode prog_48_method_2_code 113 = .ok (.iload 4, 2) := by decide +kernel
theorem d7_115 : decode prog_48_method_2_code 115 = .ok (.ireturn, 1) := by decide +kernel
theorem pf_com_example_wirelens_wirelens_wire_GroupEnds_find__II_I : plainFor (⟨OwnK0, "find", "(II)I"⟩ : MethodName) = true := by first | exact plainFor_of_name (by first | (simp [plainName, overriddenIn]; done) | decide +kernel) | exact Jvm.Free.JP.mathPlain rfl (by decide +kernel) | decide +kernel
theorem d8_0 : decode prog_48_method_3_code 0 = .ok (.aload_n 0, 1) := by decide +kernel
theorem d8_1 : decode prog_48_method_3_code 1 = .ok (.getfield 29, 3) := by decide +kernel
theorem d8_4 : decode prog_48_method_3_code 4 = .ok (.iconst 1, 1) := by decide +kernel
theorem d8_5 : decode prog_48_method_3_code 5 = .ok (.isub, 1) := by decide +kernel
theorem d8_6 : decode prog_48_method_3_code 6 = .ok (.istore_n 2, 1) := by decide +kernel
theorem d8_7 : decode prog_48_method_3_code 7 = .ok (.iload_n 1, 1) := by decide +kernel
theorem d8_8 : decode prog_48_method_3_code 8 = .ok (.aload_n 0, 1) := by decide +kernel
theorem d8_9 : decode prog_48_method_3_code 9 = .ok (.getfield 9, 3) := by decide +kernel
theorem d8_12 : decode prog_48_method_3_code 12 = .ok (.aload_n 0, 1) := by decide +kernel
theorem d8_13 : decode prog_48_method_3_code 13 = .ok (.getfield 16, 3) := by decide +kernel
theorem d8_16 : decode prog_48_method_3_code 16 = .ok (.iload_n 2, 1) := by decide +kernel
theorem d8_17 : decode prog_48_method_3_code 17 = .ok (.iaload, 1) := by decide +kernel
theorem d8_18 : decode prog_48_method_3_code 18 = .ok (.iaload, 1) := by decide +kernel
theorem d8_19 : decode prog_48_method_3_code 19 = .ok (.if_icmp .lt 17, 3) := by decide +kernel
theorem d8_22 : decode prog_48_method_3_code 22 = .ok (.iload_n 1, 1) := by decide +kernel
theorem d8_23 : decode prog_48_method_3_code 23 = .ok (.aload_n 0, 1) := by decide +kernel
theorem d8_24 : decode prog_48_method_3_code 24 = .ok (.getfield 19, 3) := by decide +kernel
theorem d8_27 : decode prog_48_method_3_code 27 = .ok (.iload_n 2, 1) := by decide +kernel
theorem d8_28 : decode prog_48_method_3_code 28 = .ok (.iaload, 1) := by decide +kernel
theorem d8_29 : decode prog_48_method_3_code 29 = .ok (.if_icmp .ge 7, 3) := by decide +kernel
theorem d8_32 : decode prog_48_method_3_code 32 = .ok (.iconst 1, 1) := by decide +kernel
theorem d8_33 : decode prog_48_method_3_code 33 = .ok (.goto 4, 3) := by decide +kernel
theorem d8_36 : decode prog_48_method_3_code 36 = .ok (.iconst 0, 1) := by decide +kernel
theorem d8_37 : decode prog_48_method_3_code 37 = .ok (.ireturn, 1) := by decide +kernel
theorem pf_com_example_wirelens_wirelens_wire_GroupEnds_newestCovers__I_Z : plainFor (⟨OwnK0, "newestCovers", "(I)Z"⟩ : MethodName) = true := by first | exact plainFor_of_name (by first | (simp [plainName, overriddenIn]; done) | decide +kernel) | exact Jvm.Free.JP.mathPlain rfl (by decide +kernel) | decide +kernel
theorem ef_sp10 (m : MethodId) (q0 : Addr) (q1 : Int32) : entryFrame m #[(.ref q0), (.int q1)] 3 = mkF m 0 #[rv q0, iv q1, .unset] [] := by first | (simp [entryFrame, mkF, argsToLocals, Value.category]; done) | rfl
set_option maxRecDepth 65536 in
set_option maxHeartbeats 40000000 in
theorem sp10 (l : Launch) (Z : State) (a0 : Array Value) (hw : ∀ d ∈ tables_1, d.before a0 Z = true) (ws : List Jvm.Cond) (o0 o1 o2 o3 : Addr) (u0 : Int32) (u1 : Int32) (u2 : Int32) (u3 : Int32) (c0 : ClassId) (c1 : ClassId) (c2 : ClassId) (h0 : Heap) (n0 : Nat) (Z0 : n0 ≤ h0.size) (F_segmentEnd_o0 : Fld Z h0 o0 OwnK0 "segmentEnd" "[I" (.ref o1)) (F_segmentFirst_o0 : Fld Z h0 o0 OwnK0 "segmentFirst" "[I" (.ref o2)) (F_segments_o0 : Fld Z h0 o0 OwnK0 "segments" "I" (.int 1)) (F_starts_o0 : Fld Z h0 o0 OwnK0 "starts" "[I" (.ref o3)) (V_o1 : Arv Z h0 o1 c0 .int (8 : Int32) [(.int u1), (.int 0), (.int 0), (.int 0), (.int 0), (.int 0), (.int 0), (.int 0)] (.int 0)) (V_o2 : Arv Z h0 o2 c1 .int (8 : Int32) [(.int 0), (.int 0), (.int 0), (.int 0), (.int 0), (.int 0), (.int 0), (.int 0)] (.int 0)) (V_o3 : Arv Z h0 o3 c2 .int (8 : Int32) [(.int u2), (.int u0), (.int u3), (.int 0), (.int 0), (.int 0), (.int 0), (.int 0)] (.int 0)) (hq0 : ¬ (u0 < u2)) (hq1 : u0 < u1) :
    OwnC l Z (⟨OwnK0, "newestCovers", "(I)Z"⟩ : MethodName) prog_48_method_3_code 3 (some .boolean) ws ({ frames := 0, cells := 0, slots := 0, locals := 0 } : Room) #[(.ref o0), (.int u0)] h0 (fun v h L => v = some (.int 1) ∧ h = h0 ∧ L = []) := by
  refine own_entry pf_com_example_wirelens_wirelens_wire_GroupEnds_newestCovers__I_Z (fun m => ef_sp10 m o0 u0) ?_
  intro p e s m below meth c T0 X0 hC e0
  obtain ⟨hx, hby, hml, hown, hnm, hret, hlk, hZ⟩ := hC
  have N0 := Fr.nil n0
  have K0 := Keep.refl h0 []
  refine own_go T0 m 1 #[rv o0, iv u0, .unset] [(.ref o0)] (fun t k => XS.aloadN X0.here hx rfl (hb hby d8_0) rfl rfl k) ?_
  obtain ⟨T1, X1, e1, st1⟩ := getF X0 hx hZ hown (host := "") (Or.inl (own_w hw 28 rfl)) Via.refl e0 F_segments_o0 (g := (mkF m 1 #[rv o0, iv u0, .unset] [(.ref o0)])) rfl rfl (hb hby d8_1)
  refine own_go T1 m 4 #[rv o0, iv u0, .unset] [(.int 1)] (st1) ?_
  refine own_go T1 m 5 #[rv o0, iv u0, .unset] [(.int 1), (.int 1)] (fun t k => XS.iconst X1.here hx rfl (hb hby d8_4) k) ?_
  refine own_go T1 m 6 #[rv o0, iv u0, .unset] [(.int ((1 : Int32) - (1 : Int32)))] (fun t k => XS.isub X1.here hx rfl (hb hby d8_5) rfl k) ?_
  rw [show ((1 : Int32) - (1 : Int32)) = (0 : Int32) from by decide]
  refine own_go T1 m 7 #[rv o0, iv u0, iv 0] [] (fun t k => XS.istoreN X1.here hx rfl (hb hby d8_6) rfl rfl k) ?_
  refine own_go T1 m 8 #[rv o0, iv u0, iv 0] [(.int u0)] (fun t k => XS.iloadN X1.here hx rfl (hb hby d8_7) rfl k) ?_
  refine own_go T1 m 9 #[rv o0, iv u0, iv 0] [(.ref o0), (.int u0)] (fun t k => XS.aloadN X1.here hx rfl (hb hby d8_8) rfl rfl k) ?_
  obtain ⟨T2, X2, e2, st2⟩ := getF X1 hx hZ hown (host := "") (Or.inl (own_w hw 11 rfl)) Via.refl e1 F_starts_o0 (g := (mkF m 9 #[rv o0, iv u0, iv 0] [(.ref o0), (.int u0)])) rfl rfl (hb hby d8_9)
  refine own_go T2 m 12 #[rv o0, iv u0, iv 0] [(.ref o3), (.int u0)] (st2) ?_
  refine own_go T2 m 13 #[rv o0, iv u0, iv 0] [(.ref o0), (.ref o3), (.int u0)] (fun t k => XS.aloadN X2.here hx rfl (hb hby d8_12) rfl rfl k) ?_
  obtain ⟨T3, X3, e3, st3⟩ := getF X2 hx hZ hown (host := "") (Or.inl (own_w hw 15 rfl)) Via.refl e2 F_segmentFirst_o0 (g := (mkF m 13 #[rv o0, iv u0, iv 0] [(.ref o0), (.ref o3), (.int u0)])) rfl rfl (hb hby d8_13)
  refine own_go T3 m 16 #[rv o0, iv u0, iv 0] [(.ref o2), (.ref o3), (.int u0)] (st3) ?_
  refine own_go T3 m 17 #[rv o0, iv u0, iv 0] [(.int 0), (.ref o2), (.ref o3), (.int u0)] (fun t k => XS.iloadN X3.here hx rfl (hb hby d8_16) rfl k) ?_
  refine own_go T3 m 18 #[rv o0, iv u0, iv 0] [(.int 0), (.ref o3), (.int u0)] (own_iaload X3 hx hZ e3 V_o2 (j := (0 : Int32)) ⟨by decide, by decide⟩ rfl (hb hby d8_17)) ?_
  refine own_go T3 m 19 #[rv o0, iv u0, iv 0] [(.int u2), (.int u0)] (own_iaload X3 hx hZ e3 V_o3 (j := (0 : Int32)) ⟨by decide, by decide⟩ rfl (hb hby d8_18)) ?_
  refine own_go T3 m 22 #[rv o0, iv u0, iv 0] [] (fun t k => XS.icmpNo X3.here hx rfl (hb hby d8_19) rfl (flt hq0).1 k) ?_
  refine own_go T3 m 23 #[rv o0, iv u0, iv 0] [(.int u0)] (fun t k => XS.iloadN X3.here hx rfl (hb hby d8_22) rfl k) ?_
  refine own_go T3 m 24 #[rv o0, iv u0, iv 0] [(.ref o0), (.int u0)] (fun t k => XS.aloadN X3.here hx rfl (hb hby d8_23) rfl rfl k) ?_
  obtain ⟨T6, X6, e6, st6⟩ := getF X3 hx hZ hown (host := "") (Or.inl (own_w hw 17 rfl)) Via.refl e3 F_segmentEnd_o0 (g := (mkF m 24 #[rv o0, iv u0, iv 0] [(.ref o0), (.int u0)])) rfl rfl (hb hby d8_24)
  refine own_go T6 m 27 #[rv o0, iv u0, iv 0] [(.ref o1), (.int u0)] (st6) ?_
  refine own_go T6 m 28 #[rv o0, iv u0, iv 0] [(.int 0), (.ref o1), (.int u0)] (fun t k => XS.iloadN X6.here hx rfl (hb hby d8_27) rfl k) ?_
  refine own_go T6 m 29 #[rv o0, iv u0, iv 0] [(.int u1), (.int u0)] (own_iaload X6 hx hZ e6 V_o1 (j := (0 : Int32)) ⟨by decide, by decide⟩ rfl (hb hby d8_28)) ?_
  refine own_go T6 m 32 #[rv o0, iv u0, iv 0] [] (fun t k => XS.icmpNo X6.here hx rfl (hb hby d8_29) rfl (tlt hq1).2.1 k) ?_
  refine own_go T6 m 33 #[rv o0, iv u0, iv 0] [(.int 1)] (fun t k => XS.iconst X6.here hx rfl (hb hby d8_32) k) ?_
  refine own_go T6 m 37 #[rv o0, iv u0, iv 0] [(.int 1)] (fun t k => XS.goto X6.here hx rfl (pc0 := 33) (pc' := 37) rfl (hb hby d8_33) (by decide) (by decide) k) ?_
  refine own_retZ X6 hx hlk hret (by decide) (hb hby d8_37) (by decide) (by decide) ?_
  exact ⟨rfl, e6, rfl⟩
theorem d9_0 : decode prog_48_method_4_code 0 = .ok (.aload_n 0, 1) := by decide +kernel
theorem d9_1 : decode prog_48_method_4_code 1 = .ok (.getfield 16, 3) := by decide +kernel
theorem d9_4 : decode prog_48_method_4_code 4 = .ok (.aload_n 0, 1) := by decide +kernel
theorem d9_5 : decode prog_48_method_4_code 5 = .ok (.getfield 29, 3) := by decide +kernel
theorem d9_8 : decode prog_48_method_4_code 8 = .ok (.iconst 1, 1) := by decide +kernel
theorem d9_9 : decode prog_48_method_4_code 9 = .ok (.isub, 1) := by decide +kernel
theorem d9_10 : decode prog_48_method_4_code 10 = .ok (.iaload, 1) := by decide +kernel
theorem d9_11 : decode prog_48_method_4_code 11 = .ok (.istore_n 2, 1) := by decide +kernel
theorem d9_12 : decode prog_48_method_4_code 12 = .ok (.aload_n 0, 1) := by decide +kernel
theorem d9_13 : decode prog_48_method_4_code 13 = .ok (.getfield 25, 3) := by decide +kernel
theorem d9_16 : decode prog_48_method_4_code 16 = .ok (.istore_n 3, 1) := by decide +kernel
theorem d9_17 : decode prog_48_method_4_code 17 = .ok (.iload_n 3, 1) := by decide +kernel
theorem d9_18 : decode prog_48_method_4_code 18 = .ok (.iload_n 2, 1) := by decide +kernel
theorem d9_19 : decode prog_48_method_4_code 19 = .ok (.if_icmp .lt 20, 3) := by decide +kernel
theorem d9_22 : decode prog_48_method_4_code 22 = .ok (.iload_n 3, 1) := by decide +kernel
theorem d9_23 : decode prog_48_method_4_code 23 = .ok (.iload_n 2, 1) := by decide +kernel
theorem d9_24 : decode prog_48_method_4_code 24 = .ok (.if_icmp .le 45, 3) := by decide +kernel
theorem d9_27 : decode prog_48_method_4_code 27 = .ok (.aload_n 0, 1) := by decide +kernel
theorem d9_28 : decode prog_48_method_4_code 28 = .ok (.getfield 9, 3) := by decide +kernel
theorem d9_31 : decode prog_48_method_4_code 31 = .ok (.iload_n 3, 1) := by decide +kernel
theorem d9_32 : decode prog_48_method_4_code 32 = .ok (.iconst 1, 1) := by decide +kernel
theorem d9_33 : decode prog_48_method_4_code 33 = .ok (.isub, 1) := by decide +kernel
theorem d9_34 : decode prog_48_method_4_code 34 = .ok (.iaload, 1) := by decide +kernel
theorem d9_35 : decode prog_48_method_4_code 35 = .ok (.iload_n 1, 1) := by decide +kernel
theorem d9_36 : decode prog_48_method_4_code 36 = .ok (.if_icmp .lt 33, 3) := by decide +kernel
theorem d9_39 : decode prog_48_method_4_code 39 = .ok (.aload_n 0, 1) := by decide +kernel
theorem d9_40 : decode prog_48_method_4_code 40 = .ok (.getfield 9, 3) := by decide +kernel
theorem d9_43 : decode prog_48_method_4_code 43 = .ok (.iload_n 2, 1) := by decide +kernel
theorem d9_44 : decode prog_48_method_4_code 44 = .ok (.aload_n 0, 1) := by decide +kernel
theorem d9_45 : decode prog_48_method_4_code 45 = .ok (.getfield 36, 3) := by decide +kernel
theorem d9_48 : decode prog_48_method_4_code 48 = .ok (.iload_n 1, 1) := by decide +kernel
theorem d9_49 : decode prog_48_method_4_code 49 = .ok (.invokestatic 43, 3) := by decide +kernel
theorem d9_52 : decode prog_48_method_4_code 52 = .ok (.istore_n 3, 1) := by decide +kernel
theorem d9_53 : decode prog_48_method_4_code 53 = .ok (.iload_n 3, 1) := by decide +kernel
theorem d9_54 : decode prog_48_method_4_code 54 = .ok (.ifCond .ge 10, 3) := by decide +kernel
theorem d9_57 : decode prog_48_method_4_code 57 = .ok (.iload_n 3, 1) := by decide +kernel
theorem d9_58 : decode prog_48_method_4_code 58 = .ok (.ineg, 1) := by decide +kernel
theorem d9_59 : decode prog_48_method_4_code 59 = .ok (.iconst 1, 1) := by decide +kernel
theorem d9_60 : decode prog_48_method_4_code 60 = .ok (.isub, 1) := by decide +kernel
theorem d9_61 : decode prog_48_method_4_code 61 = .ok (.goto 4, 3) := by decide +kernel
theorem d9_64 : decode prog_48_method_4_code 64 = .ok (.iload_n 3, 1) := by decide +kernel
theorem d9_65 : decode prog_48_method_4_code 65 = .ok (.istore_n 3, 1) := by decide +kernel
theorem d9_66 : decode prog_48_method_4_code 66 = .ok (.goto 27, 3) := by decide +kernel
theorem d9_69 : decode prog_48_method_4_code 69 = .ok (.iload_n 3, 1) := by decide +kernel
theorem d9_70 : decode prog_48_method_4_code 70 = .ok (.aload_n 0, 1) := by decide +kernel
theorem d9_71 : decode prog_48_method_4_code 71 = .ok (.getfield 36, 3) := by decide +kernel
theorem d9_74 : decode prog_48_method_4_code 74 = .ok (.if_icmp .ge 19, 3) := by decide +kernel
theorem d9_77 : decode prog_48_method_4_code 77 = .ok (.aload_n 0, 1) := by decide +kernel
theorem d9_78 : decode prog_48_method_4_code 78 = .ok (.getfield 9, 3) := by decide +kernel
theorem d9_81 : decode prog_48_method_4_code 81 = .ok (.iload_n 3, 1) := by decide +kernel
theorem d9_82 : decode prog_48_method_4_code 82 = .ok (.iaload, 1) := by decide +kernel
theorem d9_83 : decode prog_48_method_4_code 83 = .ok (.iload_n 1, 1) := by decide +kernel
theorem d9_84 : decode prog_48_method_4_code 84 = .ok (.if_icmp .ge 9, 3) := by decide +kernel
theorem d9_87 : decode prog_48_method_4_code 87 = .ok (.iinc 3 1, 3) := by decide +kernel
theorem d9_90 : decode prog_48_method_4_code 90 = .ok (.goto (-21), 3) := by decide +kernel
theorem d9_93 : decode prog_48_method_4_code 93 = .ok (.aload_n 0, 1) := by decide +kernel
theorem d9_94 : decode prog_48_method_4_code 94 = .ok (.iload_n 3, 1) := by decide +kernel
theorem d9_95 : decode prog_48_method_4_code 95 = .ok (.putfield 25, 3) := by decide +kernel
theorem d9_98 : decode prog_48_method_4_code 98 = .ok (.iload_n 3, 1) := by decide +kernel
theorem d9_99 : decode prog_48_method_4_code 99 = .ok (.aload_n 0, 1) := by decide +kernel
theorem d9_100 : decode prog_48_method_4_code 100 = .ok (.getfield 36, 3) := by decide +kernel
theorem d9_103 : decode prog_48_method_4_code 103 = .ok (.if_icmp .ge 17, 3) := by decide +kernel
theorem d9_106 : decode prog_48_method_4_code 106 = .ok (.aload_n 0, 1) := by decide +kernel
theorem d9_107 : decode prog_48_method_4_code 107 = .ok (.getfield 9, 3) := by decide +kernel
theorem d9_110 : decode prog_48_method_4_code 110 = .ok (.iload_n 3, 1) := by decide +kernel
theorem d9_111 : decode prog_48_method_4_code 111 = .ok (.iaload, 1) := by decide +kernel
theorem d9_112 : decode prog_48_method_4_code 112 = .ok (.iload_n 1, 1) := by decide +kernel
theorem d9_113 : decode prog_48_method_4_code 113 = .ok (.if_icmp .ne 7, 3) := by decide +kernel
theorem d9_116 : decode prog_48_method_4_code 116 = .ok (.iload_n 3, 1) := by decide +kernel
theorem d9_117 : decode prog_48_method_4_code 117 = .ok (.goto 4, 3) := by decide +kernel
theorem d9_120 : decode prog_48_method_4_code 120 = .ok (.iconst (-1), 1) := by decide +kernel
theorem d9_121 : decode prog_48_method_4_code 121 = .ok (.ireturn, 1) := by decide +kernel
theorem pf_com_example_wirelens_wirelens_wire_GroupEnds_search__I_I : plainFor (⟨OwnK0, "search", "(I)I"⟩ : MethodName) = true := by first | exact plainFor_of_name (by first | (simp [plainName, overriddenIn]; done) | decide +kernel) | exact Jvm.Free.JP.mathPlain rfl (by decide +kernel) | decide +kernel
theorem d10_0 : decode jdk_65_method_58_code 0 = .ok (.aload_n 0, 1) := by decide +kernel
theorem d10_1 : decode jdk_65_method_58_code 1 = .ok (.arraylength, 1) := by decide +kernel
theorem d10_2 : decode jdk_65_method_58_code 2 = .ok (.iload_n 1, 1) := by decide +kernel
theorem d10_3 : decode jdk_65_method_58_code 3 = .ok (.iload_n 2, 1) := by decide +kernel
theorem d10_4 : decode jdk_65_method_58_code 4 = .ok (.invokestatic 13, 3) := by decide +kernel
theorem d10_7 : decode jdk_65_method_58_code 7 = .ok (.aload_n 0, 1) := by decide +kernel
theorem d10_8 : decode jdk_65_method_58_code 8 = .ok (.iload_n 1, 1) := by decide +kernel
theorem d10_9 : decode jdk_65_method_58_code 9 = .ok (.iload_n 2, 1) := by decide +kernel
theorem d10_10 : decode jdk_65_method_58_code 10 = .ok (.iload_n 3, 1) := by decide +kernel
theorem d10_11 : decode jdk_65_method_58_code 11 = .ok (.invokestatic 209, 3) := by decide +kernel
theorem d10_14 : decode jdk_65_method_58_code 14 = .ok (.ireturn, 1) := by decide +kernel
theorem pf_java_util_Arrays_binarySearch___IIII_I : plainFor (⟨"java/util/Arrays", "binarySearch", "([IIII)I"⟩ : MethodName) = true := by first | exact plainFor_of_name (by first | (simp [plainName, overriddenIn]; done) | decide +kernel) | exact Jvm.Free.JP.mathPlain rfl (by decide +kernel) | decide +kernel
theorem d11_0 : decode jdk_65_method_30_code 0 = .ok (.iload_n 1, 1) := by decide +kernel
theorem d11_1 : decode jdk_65_method_30_code 1 = .ok (.iload_n 2, 1) := by decide +kernel
theorem d11_2 : decode jdk_65_method_30_code 2 = .ok (.if_icmp .le 44, 3) := by decide +kernel
theorem d11_5 : decode jdk_65_method_30_code 5 = .ok (.new 43, 3) := by decide +kernel
theorem d11_8 : decode jdk_65_method_30_code 8 = .ok (.dup, 1) := by decide +kernel
theorem d11_9 : decode jdk_65_method_30_code 9 = .ok (.new 45, 3) := by decide +kernel
theorem d11_12 : decode jdk_65_method_30_code 12 = .ok (.dup, 1) := by decide +kernel
theorem d11_13 : decode jdk_65_method_30_code 13 = .ok (.invokespecial 47, 3) := by decide +kernel
theorem d11_16 : decode jdk_65_method_30_code 16 = .ok (.ldc 48, 2) := by decide +kernel
theorem d11_18 : decode jdk_65_method_30_code 18 = .ok (.invokevirtual 50, 3) := by decide +kernel
theorem d11_21 : decode jdk_65_method_30_code 21 = .ok (.iload_n 1, 1) := by decide +kernel
theorem d11_22 : decode jdk_65_method_30_code 22 = .ok (.invokevirtual 54, 3) := by decide +kernel
theorem d11_25 : decode jdk_65_method_30_code 25 = .ok (.ldc 57, 2) := by decide +kernel
theorem d11_27 : decode jdk_65_method_30_code 27 = .ok (.invokevirtual 50, 3) := by decide +kernel
theorem d11_30 : decode jdk_65_method_30_code 30 = .ok (.iload_n 2, 1) := by decide +kernel
theorem d11_31 : decode jdk_65_method_30_code 31 = .ok (.invokevirtual 54, 3) := by decide +kernel
theorem d11_34 : decode jdk_65_method_30_code 34 = .ok (.ldc 59, 2) := by decide +kernel
theorem d11_36 : decode jdk_65_method_30_code 36 = .ok (.invokevirtual 50, 3) := by decide +kernel
theorem d11_39 : decode jdk_65_method_30_code 39 = .ok (.invokevirtual 61, 3) := by decide +kernel
theorem d11_42 : decode jdk_65_method_30_code 42 = .ok (.invokespecial 65, 3) := by decide +kernel
theorem d11_45 : decode jdk_65_method_30_code 45 = .ok (.athrow, 1) := by decide +kernel
theorem d11_46 : decode jdk_65_method_30_code 46 = .ok (.iload_n 1, 1) := by decide +kernel
theorem d11_47 : decode jdk_65_method_30_code 47 = .ok (.ifCond .ge 12, 3) := by decide +kernel
theorem d11_50 : decode jdk_65_method_30_code 50 = .ok (.new 68, 3) := by decide +kernel
theorem d11_53 : decode jdk_65_method_30_code 53 = .ok (.dup, 1) := by decide +kernel
theorem d11_54 : decode jdk_65_method_30_code 54 = .ok (.iload_n 1, 1) := by decide +kernel
theorem d11_55 : decode jdk_65_method_30_code 55 = .ok (.invokespecial 70, 3) := by decide +kernel
theorem d11_58 : decode jdk_65_method_30_code 58 = .ok (.athrow, 1) := by decide +kernel
theorem d11_59 : decode jdk_65_method_30_code 59 = .ok (.iload_n 2, 1) := by decide +kernel
theorem d11_60 : decode jdk_65_method_30_code 60 = .ok (.iload_n 0, 1) := by decide +kernel
theorem d11_61 : decode jdk_65_method_30_code 61 = .ok (.if_icmp .le 12, 3) := by decide +kernel
theorem d11_64 : decode jdk_65_method_30_code 64 = .ok (.new 68, 3) := by decide +kernel
theorem d11_67 : decode jdk_65_method_30_code 67 = .ok (.dup, 1) := by decide +kernel
theorem d11_68 : decode jdk_65_method_30_code 68 = .ok (.iload_n 2, 1) := by decide +kernel
theorem d11_69 : decode jdk_65_method_30_code 69 = .ok (.invokespecial 70, 3) := by decide +kernel
theorem d11_72 : decode jdk_65_method_30_code 72 = .ok (.athrow, 1) := by decide +kernel
theorem d11_73 : decode jdk_65_method_30_code 73 = .ok (.return_, 1) := by decide +kernel
theorem pf_java_util_Arrays_rangeCheck__III_V : plainFor (⟨"java/util/Arrays", "rangeCheck", "(III)V"⟩ : MethodName) = true := by first | exact plainFor_of_name (by first | (simp [plainName, overriddenIn]; done) | decide +kernel) | exact Jvm.Free.JP.mathPlain rfl (by decide +kernel) | decide +kernel
theorem ef_sp13 (m : MethodId) (q0 : Int32) (q1 : Int32) (q2 : Int32) : entryFrame m #[(.int q0), (.int q1), (.int q2)] 3 = mkF m 0 #[iv q0, iv q1, iv q2] [] := by first | (simp [entryFrame, mkF, argsToLocals, Value.category]; done) | rfl
set_option maxRecDepth 65536 in
set_option maxHeartbeats 40000000 in
theorem sp13 (l : Launch) (Z : State) (a0 : Array Value) (hw : ∀ d ∈ tables_1, d.before a0 Z = true) (ws : List Jvm.Cond) (h0 : Heap) (n0 : Nat) (Z0 : n0 ≤ h0.size) :
    OwnC l Z (⟨"java/util/Arrays", "rangeCheck", "(III)V"⟩ : MethodName) jdk_65_method_30_code 3 none ws ({ frames := 0, cells := 0, slots := 0, locals := 0 } : Room) #[(.int 8), (.int 0), (.int 2)] h0 (fun v h L => v = none ∧ h = h0 ∧ L = []) := by
  refine own_entry pf_java_util_Arrays_rangeCheck__III_V (fun m => ef_sp13 m (8 : Int32) (0 : Int32) (2 : Int32)) ?_
  intro p e s m below meth c T0 X0 hC e0
  obtain ⟨hx, hby, hml, hown, hnm, hret, hlk, hZ⟩ := hC
  have N0 := Fr.nil n0
  have K0 := Keep.refl h0 []
  refine own_go T0 m 1 #[iv 8, iv 0, iv 2] [(.int 0)] (fun t k => XS.iloadN X0.here hx rfl (hb hby d11_0) rfl k) ?_
  refine own_go T0 m 2 #[iv 8, iv 0, iv 2] [(.int 2), (.int 0)] (fun t k => XS.iloadN X0.here hx rfl (hb hby d11_1) rfl k) ?_
  refine own_go T0 m 46 #[iv 8, iv 0, iv 2] [] (fun t k => XS.icmpYes X0.here hx rfl (pc0 := 2) (pc' := 46) rfl (hb hby d11_2) rfl (flt (by decide)).2.2.2 (by decide) (by decide) k) ?_
  refine own_go T0 m 47 #[iv 8, iv 0, iv 2] [(.int 0)] (fun t k => XS.iloadN X0.here hx rfl (hb hby d11_46) rfl k) ?_
  refine own_go T0 m 59 #[iv 8, iv 0, iv 2] [] (fun t k => XS.ifYes X0.here hx rfl (pc0 := 47) (pc' := 59) rfl (hb hby d11_47) rfl ((if0 _ _).trans (flt (by decide)).2.1) (by decide) (by decide) k) ?_
  refine own_go T0 m 60 #[iv 8, iv 0, iv 2] [(.int 2)] (fun t k => XS.iloadN X0.here hx rfl (hb hby d11_59) rfl k) ?_
  refine own_go T0 m 61 #[iv 8, iv 0, iv 2] [(.int 8), (.int 2)] (fun t k => XS.iloadN X0.here hx rfl (hb hby d11_60) rfl k) ?_
  refine own_go T0 m 73 #[iv 8, iv 0, iv 2] [] (fun t k => XS.icmpYes X0.here hx rfl (pc0 := 61) (pc' := 73) rfl (hb hby d11_61) rfl (flt (by decide)).2.2.2 (by decide) (by decide) k) ?_
  refine own_retV X0 hx hlk hret (hb hby d11_73) (by decide) (by decide) ?_
  exact ⟨rfl, e0, rfl⟩
theorem d12_0 : decode jdk_65_method_59_code 0 = .ok (.iload_n 1, 1) := by decide +kernel
theorem d12_1 : decode jdk_65_method_59_code 1 = .ok (.istore 4, 2) := by decide +kernel
theorem d12_3 : decode jdk_65_method_59_code 3 = .ok (.iload_n 2, 1) := by decide +kernel
theorem d12_4 : decode jdk_65_method_59_code 4 = .ok (.iconst 1, 1) := by decide +kernel
theorem d12_5 : decode jdk_65_method_59_code 5 = .ok (.isub, 1) := by decide +kernel
theorem d12_6 : decode jdk_65_method_59_code 6 = .ok (.istore 5, 2) := by decide +kernel
theorem d12_8 : decode jdk_65_method_59_code 8 = .ok (.iload 4, 2) := by decide +kernel
theorem d12_10 : decode jdk_65_method_59_code 10 = .ok (.iload 5, 2) := by decide +kernel
theorem d12_12 : decode jdk_65_method_59_code 12 = .ok (.if_icmp .gt 54, 3) := by decide +kernel
theorem d12_15 : decode jdk_65_method_59_code 15 = .ok (.iload 4, 2) := by decide +kernel
theorem d12_17 : decode jdk_65_method_59_code 17 = .ok (.iload 5, 2) := by decide +kernel
theorem d12_19 : decode jdk_65_method_59_code 19 = .ok (.iadd, 1) := by decide +kernel
theorem d12_20 : decode jdk_65_method_59_code 20 = .ok (.iconst 1, 1) := by decide +kernel
theorem d12_21 : decode jdk_65_method_59_code 21 = .ok (.iushr, 1) := by decide +kernel
theorem d12_22 : decode jdk_65_method_59_code 22 = .ok (.istore 6, 2) := by decide +kernel
theorem d12_24 : decode jdk_65_method_59_code 24 = .ok (.aload_n 0, 1) := by decide +kernel
theorem d12_25 : decode jdk_65_method_59_code 25 = .ok (.iload 6, 2) := by decide +kernel
theorem d12_27 : decode jdk_65_method_59_code 27 = .ok (.iaload, 1) := by decide +kernel
theorem d12_28 : decode jdk_65_method_59_code 28 = .ok (.istore 7, 2) := by decide +kernel
theorem d12_30 : decode jdk_65_method_59_code 30 = .ok (.iload 7, 2) := by decide +kernel
theorem d12_32 : decode jdk_65_method_59_code 32 = .ok (.iload_n 3, 1) := by decide +kernel
theorem d12_33 : decode jdk_65_method_59_code 33 = .ok (.if_icmp .ge 12, 3) := by decide +kernel
theorem d12_36 : decode jdk_65_method_59_code 36 = .ok (.iload 6, 2) := by decide +kernel
theorem d12_38 : decode jdk_65_method_59_code 38 = .ok (.iconst 1, 1) := by decide +kernel
theorem d12_39 : decode jdk_65_method_59_code 39 = .ok (.iadd, 1) := by decide +kernel
theorem d12_40 : decode jdk_65_method_59_code 40 = .ok (.istore 4, 2) := by decide +kernel
theorem d12_42 : decode jdk_65_method_59_code 42 = .ok (.goto 21, 3) := by decide +kernel
theorem d12_45 : decode jdk_65_method_59_code 45 = .ok (.iload 7, 2) := by decide +kernel
theorem d12_47 : decode jdk_65_method_59_code 47 = .ok (.iload_n 3, 1) := by decide +kernel
theorem d12_48 : decode jdk_65_method_59_code 48 = .ok (.if_icmp .le 12, 3) := by decide +kernel
theorem d12_51 : decode jdk_65_method_59_code 51 = .ok (.iload 6, 2) := by decide +kernel
theorem d12_53 : decode jdk_65_method_59_code 53 = .ok (.iconst 1, 1) := by decide +kernel
theorem d12_54 : decode jdk_65_method_59_code 54 = .ok (.isub, 1) := by decide +kernel
theorem d12_55 : decode jdk_65_method_59_code 55 = .ok (.istore 5, 2) := by decide +kernel
theorem d12_57 : decode jdk_65_method_59_code 57 = .ok (.goto 6, 3) := by decide +kernel
theorem d12_60 : decode jdk_65_method_59_code 60 = .ok (.iload 6, 2) := by decide +kernel
theorem d12_62 : decode jdk_65_method_59_code 62 = .ok (.ireturn, 1) := by decide +kernel
theorem d12_63 : decode jdk_65_method_59_code 63 = .ok (.goto (-55), 3) := by decide +kernel
theorem d12_66 : decode jdk_65_method_59_code 66 = .ok (.iload 4, 2) := by decide +kernel
theorem d12_68 : decode jdk_65_method_59_code 68 = .ok (.iconst 1, 1) := by decide +kernel
theorem d12_69 : decode jdk_65_method_59_code 69 = .ok (.iadd, 1) := by decide +kernel
theorem d12_70 : decode jdk_65_method_59_code 70 = .ok (.ineg, 1) := by decide +kernel
theorem d12_71 : decode jdk_65_method_59_code 71 = .ok (.ireturn, 1) := by decide +kernel
theorem pf_java_util_Arrays_binarySearch0___IIII_I : plainFor (⟨"java/util/Arrays", "binarySearch0", "([IIII)I"⟩ : MethodName) = true := by first | exact plainFor_of_name (by first | (simp [plainName, overriddenIn]; done) | decide +kernel) | exact Jvm.Free.JP.mathPlain rfl (by decide +kernel) | decide +kernel
theorem ef_sp14 (m : MethodId) (q0 : Addr) (q1 : Int32) (q2 : Int32) (q3 : Int32) : entryFrame m #[(.ref q0), (.int q1), (.int q2), (.int q3)] 8 = mkF m 0 #[rv q0, iv q1, iv q2, iv q3, .unset, .unset, .unset, .unset] [] := by first | (simp [entryFrame, mkF, argsToLocals, Value.category]; done) | rfl
set_option maxRecDepth 65536 in
set_option maxHeartbeats 40000000 in
theorem sp14 (l : Launch) (Z : State) (a0 : Array Value) (hw : ∀ d ∈ tables_1, d.before a0 Z = true) (ws : List Jvm.Cond) (o0 : Addr) (u0 : Int32) (u1 : Int32) (u2 : Int32) (c0 : ClassId) (h0 : Heap) (n0 : Nat) (Z0 : n0 ≤ h0.size) (V_o0 : Arv Z h0 o0 c0 .int (8 : Int32) [(.int u1), (.int u0), (.int u2), (.int 0), (.int 0), (.int 0), (.int 0), (.int 0)] (.int 0)) (hq0 : u1 < u0) (hq1 : ¬ (u0 < u0)) :
    OwnC l Z (⟨"java/util/Arrays", "binarySearch0", "([IIII)I"⟩ : MethodName) jdk_65_method_59_code 8 (some .int) ws ({ frames := 0, cells := 0, slots := 0, locals := 0 } : Room) #[(.ref o0), (.int 0), (.int 2), (.int u0)] h0 (fun v h L => v = some (.int 1) ∧ h = h0 ∧ L = []) := by
  refine own_entry pf_java_util_Arrays_binarySearch0___IIII_I (fun m => ef_sp14 m o0 (0 : Int32) (2 : Int32) u0) ?_
  intro p e s m below meth c T0 X0 hC e0
  obtain ⟨hx, hby, hml, hown, hnm, hret, hlk, hZ⟩ := hC
  have N0 := Fr.nil n0
  have K0 := Keep.refl h0 []
  refine own_go T0 m 1 #[rv o0, iv 0, iv 2, iv u0, .unset, .unset, .unset, .unset] [(.int 0)] (fun t k => XS.iloadN X0.here hx rfl (hb hby d12_0) rfl k) ?_
  refine own_go T0 m 3 #[rv o0, iv 0, iv 2, iv u0, iv 0, .unset, .unset, .unset] [] (fun t k => XS.istore X0.here hx rfl (hb hby d12_1) rfl rfl k) ?_
  refine own_go T0 m 4 #[rv o0, iv 0, iv 2, iv u0, iv 0, .unset, .unset, .unset] [(.int 2)] (fun t k => XS.iloadN X0.here hx rfl (hb hby d12_3) rfl k) ?_
  refine own_go T0 m 5 #[rv o0, iv 0, iv 2, iv u0, iv 0, .unset, .unset, .unset] [(.int 1), (.int 2)] (fun t k => XS.iconst X0.here hx rfl (hb hby d12_4) k) ?_
  refine own_go T0 m 6 #[rv o0, iv 0, iv 2, iv u0, iv 0, .unset, .unset, .unset] [(.int ((2 : Int32) - (1 : Int32)))] (fun t k => XS.isub X0.here hx rfl (hb hby d12_5) rfl k) ?_
  rw [show ((2 : Int32) - (1 : Int32)) = (1 : Int32) from by decide]
  refine own_go T0 m 8 #[rv o0, iv 0, iv 2, iv u0, iv 0, iv 1, .unset, .unset] [] (fun t k => XS.istore X0.here hx rfl (hb hby d12_6) rfl rfl k) ?_
  refine own_go T0 m 10 #[rv o0, iv 0, iv 2, iv u0, iv 0, iv 1, .unset, .unset] [(.int 0)] (fun t k => XS.iload X0.here hx rfl (hb hby d12_8) rfl k) ?_
  refine own_go T0 m 12 #[rv o0, iv 0, iv 2, iv u0, iv 0, iv 1, .unset, .unset] [(.int 1), (.int 0)] (fun t k => XS.iload X0.here hx rfl (hb hby d12_10) rfl k) ?_
  refine own_go T0 m 15 #[rv o0, iv 0, iv 2, iv u0, iv 0, iv 1, .unset, .unset] [] (fun t k => XS.icmpNo X0.here hx rfl (hb hby d12_12) rfl (flt (by decide)).2.2.1 k) ?_
  refine own_go T0 m 17 #[rv o0, iv 0, iv 2, iv u0, iv 0, iv 1, .unset, .unset] [(.int 0)] (fun t k => XS.iload X0.here hx rfl (hb hby d12_15) rfl k) ?_
  refine own_go T0 m 19 #[rv o0, iv 0, iv 2, iv u0, iv 0, iv 1, .unset, .unset] [(.int 1), (.int 0)] (fun t k => XS.iload X0.here hx rfl (hb hby d12_17) rfl k) ?_
  refine own_go T0 m 20 #[rv o0, iv 0, iv 2, iv u0, iv 0, iv 1, .unset, .unset] [(.int ((0 : Int32) + (1 : Int32)))] (fun t k => XS.iadd X0.here hx rfl (hb hby d12_19) rfl k) ?_
  rw [show ((0 : Int32) + (1 : Int32)) = (1 : Int32) from by decide]
  refine own_go T0 m 21 #[rv o0, iv 0, iv 2, iv u0, iv 0, iv 1, .unset, .unset] [(.int 1), (.int 1)] (fun t k => XS.iconst X0.here hx rfl (hb hby d12_20) k) ?_
  refine own_go T0 m 22 #[rv o0, iv 0, iv 2, iv u0, iv 0, iv 1, .unset, .unset] [(.int (((1 : Int32).toUInt32 >>> ((1 : Int32) &&& 31).toUInt32).toInt32))] (fun t k => XS.iushr X0.here hx rfl (hb hby d12_21) rfl k) ?_
  rw [show (((1 : Int32).toUInt32 >>> ((1 : Int32) &&& 31).toUInt32).toInt32) = (0 : Int32) from by decide]
  refine own_go T0 m 24 #[rv o0, iv 0, iv 2, iv u0, iv 0, iv 1, iv 0, .unset] [] (fun t k => XS.istore X0.here hx rfl (hb hby d12_22) rfl rfl k) ?_
  refine own_go T0 m 25 #[rv o0, iv 0, iv 2, iv u0, iv 0, iv 1, iv 0, .unset] [(.ref o0)] (fun t k => XS.aloadN X0.here hx rfl (hb hby d12_24) rfl rfl k) ?_
  refine own_go T0 m 27 #[rv o0, iv 0, iv 2, iv u0, iv 0, iv 1, iv 0, .unset] [(.int 0), (.ref o0)] (fun t k => XS.iload X0.here hx rfl (hb hby d12_25) rfl k) ?_
  refine own_go T0 m 28 #[rv o0, iv 0, iv 2, iv u0, iv 0, iv 1, iv 0, .unset] [(.int u1)] (own_iaload X0 hx hZ e0 V_o0 (j := (0 : Int32)) ⟨by decide, by decide⟩ rfl (hb hby d12_27)) ?_
  refine own_go T0 m 30 #[rv o0, iv 0, iv 2, iv u0, iv 0, iv 1, iv 0, iv u1] [] (fun t k => XS.istore X0.here hx rfl (hb hby d12_28) rfl rfl k) ?_
  refine own_go T0 m 32 #[rv o0, iv 0, iv 2, iv u0, iv 0, iv 1, iv 0, iv u1] [(.int u1)] (fun t k => XS.iload X0.here hx rfl (hb hby d12_30) rfl k) ?_
  refine own_go T0 m 33 #[rv o0, iv 0, iv 2, iv u0, iv 0, iv 1, iv 0, iv u1] [(.int u0), (.int u1)] (fun t k => XS.iloadN X0.here hx rfl (hb hby d12_32) rfl k) ?_
  refine own_go T0 m 36 #[rv o0, iv 0, iv 2, iv u0, iv 0, iv 1, iv 0, iv u1] [] (fun t k => XS.icmpNo X0.here hx rfl (hb hby d12_33) rfl (tlt hq0).2.1 k) ?_
  refine own_go T0 m 38 #[rv o0, iv 0, iv 2, iv u0, iv 0, iv 1, iv 0, iv u1] [(.int 0)] (fun t k => XS.iload X0.here hx rfl (hb hby d12_36) rfl k) ?_
  refine own_go T0 m 39 #[rv o0, iv 0, iv 2, iv u0, iv 0, iv 1, iv 0, iv u1] [(.int 1), (.int 0)] (fun t k => XS.iconst X0.here hx rfl (hb hby d12_38) k) ?_
  refine own_go T0 m 40 #[rv o0, iv 0, iv 2, iv u0, iv 0, iv 1, iv 0, iv u1] [(.int ((0 : Int32) + (1 : Int32)))] (fun t k => XS.iadd X0.here hx rfl (hb hby d12_39) rfl k) ?_
  rw [show ((0 : Int32) + (1 : Int32)) = (1 : Int32) from by decide]
  refine own_go T0 m 42 #[rv o0, iv 0, iv 2, iv u0, iv 1, iv 1, iv 0, iv u1] [] (fun t k => XS.istore X0.here hx rfl (hb hby d12_40) rfl rfl k) ?_
  refine own_go T0 m 63 #[rv o0, iv 0, iv 2, iv u0, iv 1, iv 1, iv 0, iv u1] [] (fun t k => XS.goto X0.here hx rfl (pc0 := 42) (pc' := 63) rfl (hb hby d12_42) (by decide) (by decide) k) ?_
  refine own_go T0 m 8 #[rv o0, iv 0, iv 2, iv u0, iv 1, iv 1, iv 0, iv u1] [] (fun t k => XS.goto X0.here hx rfl (pc0 := 63) (pc' := 8) rfl (hb hby d12_63) (by decide) (by decide) k) ?_
  refine own_go T0 m 10 #[rv o0, iv 0, iv 2, iv u0, iv 1, iv 1, iv 0, iv u1] [(.int 1)] (fun t k => XS.iload X0.here hx rfl (hb hby d12_8) rfl k) ?_
  refine own_go T0 m 12 #[rv o0, iv 0, iv 2, iv u0, iv 1, iv 1, iv 0, iv u1] [(.int 1), (.int 1)] (fun t k => XS.iload X0.here hx rfl (hb hby d12_10) rfl k) ?_
  refine own_go T0 m 15 #[rv o0, iv 0, iv 2, iv u0, iv 1, iv 1, iv 0, iv u1] [] (fun t k => XS.icmpNo X0.here hx rfl (hb hby d12_12) rfl (flt (by decide)).2.2.1 k) ?_
  refine own_go T0 m 17 #[rv o0, iv 0, iv 2, iv u0, iv 1, iv 1, iv 0, iv u1] [(.int 1)] (fun t k => XS.iload X0.here hx rfl (hb hby d12_15) rfl k) ?_
  refine own_go T0 m 19 #[rv o0, iv 0, iv 2, iv u0, iv 1, iv 1, iv 0, iv u1] [(.int 1), (.int 1)] (fun t k => XS.iload X0.here hx rfl (hb hby d12_17) rfl k) ?_
  refine own_go T0 m 20 #[rv o0, iv 0, iv 2, iv u0, iv 1, iv 1, iv 0, iv u1] [(.int ((1 : Int32) + (1 : Int32)))] (fun t k => XS.iadd X0.here hx rfl (hb hby d12_19) rfl k) ?_
  rw [show ((1 : Int32) + (1 : Int32)) = (2 : Int32) from by decide]
  refine own_go T0 m 21 #[rv o0, iv 0, iv 2, iv u0, iv 1, iv 1, iv 0, iv u1] [(.int 1), (.int 2)] (fun t k => XS.iconst X0.here hx rfl (hb hby d12_20) k) ?_
  refine own_go T0 m 22 #[rv o0, iv 0, iv 2, iv u0, iv 1, iv 1, iv 0, iv u1] [(.int (((2 : Int32).toUInt32 >>> ((1 : Int32) &&& 31).toUInt32).toInt32))] (fun t k => XS.iushr X0.here hx rfl (hb hby d12_21) rfl k) ?_
  rw [show (((2 : Int32).toUInt32 >>> ((1 : Int32) &&& 31).toUInt32).toInt32) = (1 : Int32) from by decide]
  refine own_go T0 m 24 #[rv o0, iv 0, iv 2, iv u0, iv 1, iv 1, iv 1, iv u1] [] (fun t k => XS.istore X0.here hx rfl (hb hby d12_22) rfl rfl k) ?_
  refine own_go T0 m 25 #[rv o0, iv 0, iv 2, iv u0, iv 1, iv 1, iv 1, iv u1] [(.ref o0)] (fun t k => XS.aloadN X0.here hx rfl (hb hby d12_24) rfl rfl k) ?_
  refine own_go T0 m 27 #[rv o0, iv 0, iv 2, iv u0, iv 1, iv 1, iv 1, iv u1] [(.int 1), (.ref o0)] (fun t k => XS.iload X0.here hx rfl (hb hby d12_25) rfl k) ?_
  refine own_go T0 m 28 #[rv o0, iv 0, iv 2, iv u0, iv 1, iv 1, iv 1, iv u1] [(.int u0)] (own_iaload X0 hx hZ e0 V_o0 (j := (1 : Int32)) ⟨by decide, by decide⟩ rfl (hb hby d12_27)) ?_
  refine own_go T0 m 30 #[rv o0, iv 0, iv 2, iv u0, iv 1, iv 1, iv 1, iv u0] [] (fun t k => XS.istore X0.here hx rfl (hb hby d12_28) rfl rfl k) ?_
  refine own_go T0 m 32 #[rv o0, iv 0, iv 2, iv u0, iv 1, iv 1, iv 1, iv u0] [(.int u0)] (fun t k => XS.iload X0.here hx rfl (hb hby d12_30) rfl k) ?_
  refine own_go T0 m 33 #[rv o0, iv 0, iv 2, iv u0, iv 1, iv 1, iv 1, iv u0] [(.int u0), (.int u0)] (fun t k => XS.iloadN X0.here hx rfl (hb hby d12_32) rfl k) ?_
  refine own_go T0 m 45 #[rv o0, iv 0, iv 2, iv u0, iv 1, iv 1, iv 1, iv u0] [] (fun t k => XS.icmpYes X0.here hx rfl (pc0 := 33) (pc' := 45) rfl (hb hby d12_33) rfl (flt hq1).2.1 (by decide) (by decide) k) ?_
  refine own_go T0 m 47 #[rv o0, iv 0, iv 2, iv u0, iv 1, iv 1, iv 1, iv u0] [(.int u0)] (fun t k => XS.iload X0.here hx rfl (hb hby d12_45) rfl k) ?_
  refine own_go T0 m 48 #[rv o0, iv 0, iv 2, iv u0, iv 1, iv 1, iv 1, iv u0] [(.int u0), (.int u0)] (fun t k => XS.iloadN X0.here hx rfl (hb hby d12_47) rfl k) ?_
  refine own_go T0 m 60 #[rv o0, iv 0, iv 2, iv u0, iv 1, iv 1, iv 1, iv u0] [] (fun t k => XS.icmpYes X0.here hx rfl (pc0 := 48) (pc' := 60) rfl (hb hby d12_48) rfl (flt hq1).2.2.2 (by decide) (by decide) k) ?_
  refine own_go T0 m 62 #[rv o0, iv 0, iv 2, iv u0, iv 1, iv 1, iv 1, iv u0] [(.int 1)] (fun t k => XS.iload X0.here hx rfl (hb hby d12_60) rfl k) ?_
  refine own_retI X0 hx hlk hret (hb hby d12_62) (by decide) (by decide) ?_
  exact ⟨rfl, e0, rfl⟩
theorem ef_sp12 (m : MethodId) (q0 : Addr) (q1 : Int32) (q2 : Int32) (q3 : Int32) : entryFrame m #[(.ref q0), (.int q1), (.int q2), (.int q3)] 4 = mkF m 0 #[rv q0, iv q1, iv q2, iv q3] [] := by first | (simp [entryFrame, mkF, argsToLocals, Value.category]; done) | rfl
set_option maxRecDepth 65536 in
set_option maxHeartbeats 40000000 in
theorem sp12 (l : Launch) (Z : State) (a0 : Array Value) (hw : ∀ d ∈ tables_1, d.before a0 Z = true) (ws : List Jvm.Cond) (o0 : Addr) (u0 : Int32) (u1 : Int32) (u2 : Int32) (c0 : ClassId) (h0 : Heap) (n0 : Nat) (Z0 : n0 ≤ h0.size) (V_o0 : Arv Z h0 o0 c0 .int (8 : Int32) [(.int u1), (.int u0), (.int u2), (.int 0), (.int 0), (.int 0), (.int 0), (.int 0)] (.int 0)) (hq0 : u1 < u0) (hq1 : ¬ (u0 < u0)) :
    OwnC l Z (⟨"java/util/Arrays", "binarySearch", "([IIII)I"⟩ : MethodName) jdk_65_method_58_code 4 (some .int) ws ({ frames := 1, cells := 0, slots := 0, locals := 19 } : Room) #[(.ref o0), (.int 0), (.int 2), (.int u0)] h0 (fun v h L => v = some (.int 1) ∧ h = h0 ∧ L = []) := by
  refine own_entry pf_java_util_Arrays_binarySearch___IIII_I (fun m => ef_sp12 m o0 (0 : Int32) (2 : Int32) u0) ?_
  intro p e s m below meth c T0 X0 hC e0
  obtain ⟨hx, hby, hml, hown, hnm, hret, hlk, hZ⟩ := hC
  have N0 := Fr.nil n0
  have K0 := Keep.refl h0 []
  refine own_go T0 m 1 #[rv o0, iv 0, iv 2, iv u0] [(.ref o0)] (fun t k => XS.aloadN X0.here hx rfl (hb hby d10_0) rfl rfl k) ?_
  refine own_go T0 m 2 #[rv o0, iv 0, iv 2, iv u0] [(.int 8)] (own_alen X0 hx hZ e0 V_o0 (hb hby d10_1)) ?_
  refine own_go T0 m 3 #[rv o0, iv 0, iv 2, iv u0] [(.int 0), (.int 8)] (fun t k => XS.iloadN X0.here hx rfl (hb hby d10_2) rfl k) ?_
  refine own_go T0 m 4 #[rv o0, iv 0, iv 2, iv u0] [(.int 2), (.int 0), (.int 8)] (fun t k => XS.iloadN X0.here hx rfl (hb hby d10_3) rfl k) ?_
  obtain ⟨_, T2, L2, X2, ⟨rfl, e2, rfl⟩, st2⟩ := own_static X0 hx hZ (y := (⟨"java/util/Arrays", "rangeCheck", "(III)V"⟩ : MethodName)) hown (own_w hw 66 rfl) (own_w hw 67 rfl) (own_w hw 64 rfl) (own_w hw 68 rfl) (by decide) (sp13 l Z a0 hw []  h0 n0 Z0 ) e0 0 (argsL := [(.int 8), (.int 0), (.int 2)]) (rest := []) (Ls := #[rv o0, iv 0, iv 2, iv u0]) (by rw [hml]; rfl) (lenOf pd__III_V rfl) rfl rfl (Nat.le_of_eq rfl) (hb hby d10_4) (by decide) (by decide) (by decide) (by decide)
  replace X2 := own_nil X2
  refine own_go T2 m 7 #[rv o0, iv 0, iv 2, iv u0] [] (st2) ?_
  refine own_go T2 m 8 #[rv o0, iv 0, iv 2, iv u0] [(.ref o0)] (fun t k => XS.aloadN X2.here hx rfl (hb hby d10_7) rfl rfl k) ?_
  refine own_go T2 m 9 #[rv o0, iv 0, iv 2, iv u0] [(.int 0), (.ref o0)] (fun t k => XS.iloadN X2.here hx rfl (hb hby d10_8) rfl k) ?_
  refine own_go T2 m 10 #[rv o0, iv 0, iv 2, iv u0] [(.int 2), (.int 0), (.ref o0)] (fun t k => XS.iloadN X2.here hx rfl (hb hby d10_9) rfl k) ?_
  refine own_go T2 m 11 #[rv o0, iv 0, iv 2, iv u0] [(.int u0), (.int 2), (.int 0), (.ref o0)] (fun t k => XS.iloadN X2.here hx rfl (hb hby d10_10) rfl k) ?_
  obtain ⟨_, T3, L3, X3, ⟨rfl, e3, rfl⟩, st3⟩ := own_static X2 hx hZ (y := (⟨"java/util/Arrays", "binarySearch0", "([IIII)I"⟩ : MethodName)) hown (own_w hw 69 rfl) (own_w hw 70 rfl) (own_w hw 64 rfl) (own_w hw 71 rfl) (by decide) (sp14 l Z a0 hw [] o0 u0 u1 u2 c0 h0 n0 Z0 V_o0 hq0 hq1) e2 0 (argsL := [(.ref o0), (.int 0), (.int 2), (.int u0)]) (rest := []) (Ls := #[rv o0, iv 0, iv 2, iv u0]) (by rw [hml]; rfl) (lenOf pd___IIII_I rfl) rfl rfl (Nat.le_of_eq rfl) (hb hby d10_11) (by decide) (by decide) (by decide) (by decide)
  replace X3 := own_nil X3
  refine own_go T3 m 14 #[rv o0, iv 0, iv 2, iv u0] [(.int 1)] (st3) ?_
  refine own_retI X3 hx hlk hret (hb hby d10_14) (by decide) (by decide) ?_
  exact ⟨rfl, e3, rfl⟩
theorem ef_sp11 (m : MethodId) (q0 : Addr) (q1 : Int32) : entryFrame m #[(.ref q0), (.int q1)] 4 = mkF m 0 #[rv q0, iv q1, .unset, .unset] [] := by first | (simp [entryFrame, mkF, argsToLocals, Value.category]; done) | rfl
set_option maxRecDepth 65536 in
set_option maxHeartbeats 40000000 in
theorem sp11 (l : Launch) (Z : State) (a0 : Array Value) (hw : ∀ d ∈ tables_1, d.before a0 Z = true) (ws : List Jvm.Cond) (o0 o1 o2 o3 o4 o5 : Addr) (u0 : Int32) (u1 : Int32) (u2 : Int32) (c0 : ClassId) (c1 : ClassId) (h0 : Heap) (n0 : Nat) (Z0 : n0 ≤ h0.size) (E_o0 : Exa Z h0 o0 OwnK0) (F_count_o0 : Fld Z h0 o0 OwnK0 "count" "I" (.int 2)) (F_cursor_o0 : Fld Z h0 o0 OwnK0 "cursor" "I" (.int (-1))) (F_ends_o0 : Fld Z h0 o0 OwnK0 "ends" "[I" (.ref o1)) (F_lastOpened_o0 : Fld Z h0 o0 OwnK0 "lastOpened" "I" (.int 2)) (F_segmentEnd_o0 : Fld Z h0 o0 OwnK0 "segmentEnd" "[I" (.ref o2)) (F_segmentFirst_o0 : Fld Z h0 o0 OwnK0 "segmentFirst" "[I" (.ref o3)) (F_segmentLimit_o0 : Fld Z h0 o0 OwnK0 "segmentLimit" "[I" (.ref o4)) (F_segments_o0 : Fld Z h0 o0 OwnK0 "segments" "I" (.int 1)) (F_starts_o0 : Fld Z h0 o0 OwnK0 "starts" "[I" (.ref o5)) (V_o3 : Arv Z h0 o3 c0 .int (8 : Int32) [(.int 0), (.int 0), (.int 0), (.int 0), (.int 0), (.int 0), (.int 0), (.int 0)] (.int 0)) (V_o5 : Arv Z h0 o5 c1 .int (8 : Int32) [(.int u1), (.int u0), (.int u2), (.int 0), (.int 0), (.int 0), (.int 0), (.int 0)] (.int 0)) (ne_o0_o1 : o0 ≠ o1) (ne_o0_o2 : o0 ≠ o2) (ne_o0_o3 : o0 ≠ o3) (ne_o0_o4 : o0 ≠ o4) (ne_o0_o5 : o0 ≠ o5) (g_o0 : n0 ≤ o0) (hq0 : u1 < u0) (hq1 : ¬ (u0 < u0)) :
    OwnC l Z (⟨OwnK0, "search", "(I)I"⟩ : MethodName) prog_48_method_4_code 4 (some .int) ws ({ frames := 2, cells := 0, slots := 0, locals := 34 } : Room) #[(.ref o0), (.int u0)] h0 (fun v h L => v = some (.int 1) ∧ Fr n0 L ∧ Keep h0 h [o0] ∧ Fld Z h o0 OwnK0 "count" "I" (.int 2) ∧ Fld Z h o0 OwnK0 "ends" "[I" (.ref o1) ∧ Fld Z h o0 OwnK0 "lastOpened" "I" (.int 2) ∧ Fld Z h o0 OwnK0 "segmentEnd" "[I" (.ref o2) ∧ Fld Z h o0 OwnK0 "segmentFirst" "[I" (.ref o3) ∧ Fld Z h o0 OwnK0 "segmentLimit" "[I" (.ref o4) ∧ Fld Z h o0 OwnK0 "segments" "I" (.int 1) ∧ Fld Z h o0 OwnK0 "starts" "[I" (.ref o5) ∧ Fld Z h o0 OwnK0 "cursor" "I" (.int 1)) := by
  refine own_entry pf_com_example_wirelens_wirelens_wire_GroupEnds_search__I_I (fun m => ef_sp11 m o0 u0) ?_
  intro p e s m below meth c T0 X0 hC e0
  obtain ⟨hx, hby, hml, hown, hnm, hret, hlk, hZ⟩ := hC
  have N0 := Fr.nil n0
  have K0 := Keep.refl h0 [o0]
  refine own_go T0 m 1 #[rv o0, iv u0, .unset, .unset] [(.ref o0)] (fun t k => XS.aloadN X0.here hx rfl (hb hby d9_0) rfl rfl k) ?_
  obtain ⟨T1, X1, e1, st1⟩ := getF X0 hx hZ hown (host := "") (Or.inl (own_w hw 15 rfl)) Via.refl e0 F_segmentFirst_o0 (g := (mkF m 1 #[rv o0, iv u0, .unset, .unset] [(.ref o0)])) rfl rfl (hb hby d9_1)
  refine own_go T1 m 4 #[rv o0, iv u0, .unset, .unset] [(.ref o3)] (st1) ?_
  refine own_go T1 m 5 #[rv o0, iv u0, .unset, .unset] [(.ref o0), (.ref o3)] (fun t k => XS.aloadN X1.here hx rfl (hb hby d9_4) rfl rfl k) ?_
  obtain ⟨T2, X2, e2, st2⟩ := getF X1 hx hZ hown (host := "") (Or.inl (own_w hw 28 rfl)) Via.refl e1 F_segments_o0 (g := (mkF m 5 #[rv o0, iv u0, .unset, .unset] [(.ref o0), (.ref o3)])) rfl rfl (hb hby d9_5)
  refine own_go T2 m 8 #[rv o0, iv u0, .unset, .unset] [(.int 1), (.ref o3)] (st2) ?_
  refine own_go T2 m 9 #[rv o0, iv u0, .unset, .unset] [(.int 1), (.int 1), (.ref o3)] (fun t k => XS.iconst X2.here hx rfl (hb hby d9_8) k) ?_
  refine own_go T2 m 10 #[rv o0, iv u0, .unset, .unset] [(.int ((1 : Int32) - (1 : Int32))), (.ref o3)] (fun t k => XS.isub X2.here hx rfl (hb hby d9_9) rfl k) ?_
  rw [show ((1 : Int32) - (1 : Int32)) = (0 : Int32) from by decide]
  refine own_go T2 m 11 #[rv o0, iv u0, .unset, .unset] [(.int 0)] (own_iaload X2 hx hZ e2 V_o3 (j := (0 : Int32)) ⟨by decide, by decide⟩ rfl (hb hby d9_10)) ?_
  refine own_go T2 m 12 #[rv o0, iv u0, iv 0, .unset] [] (fun t k => XS.istoreN X2.here hx rfl (hb hby d9_11) rfl rfl k) ?_
  refine own_go T2 m 13 #[rv o0, iv u0, iv 0, .unset] [(.ref o0)] (fun t k => XS.aloadN X2.here hx rfl (hb hby d9_12) rfl rfl k) ?_
  obtain ⟨T4, X4, e4, st4⟩ := getF X2 hx hZ hown (host := "") (Or.inl (own_w hw 21 rfl)) Via.refl e2 F_cursor_o0 (g := (mkF m 13 #[rv o0, iv u0, iv 0, .unset] [(.ref o0)])) rfl rfl (hb hby d9_13)
  refine own_go T4 m 16 #[rv o0, iv u0, iv 0, .unset] [(.int (-1))] (st4) ?_
  refine own_go T4 m 17 #[rv o0, iv u0, iv 0, iv (-1)] [] (fun t k => XS.istoreN X4.here hx rfl (hb hby d9_16) rfl rfl k) ?_
  refine own_go T4 m 18 #[rv o0, iv u0, iv 0, iv (-1)] [(.int (-1))] (fun t k => XS.iloadN X4.here hx rfl (hb hby d9_17) rfl k) ?_
  refine own_go T4 m 19 #[rv o0, iv u0, iv 0, iv (-1)] [(.int 0), (.int (-1))] (fun t k => XS.iloadN X4.here hx rfl (hb hby d9_18) rfl k) ?_
  refine own_go T4 m 39 #[rv o0, iv u0, iv 0, iv (-1)] [] (fun t k => XS.icmpYes X4.here hx rfl (pc0 := 19) (pc' := 39) rfl (hb hby d9_19) rfl (tlt (by decide)).1 (by decide) (by decide) k) ?_
  refine own_go T4 m 40 #[rv o0, iv u0, iv 0, iv (-1)] [(.ref o0)] (fun t k => XS.aloadN X4.here hx rfl (hb hby d9_39) rfl rfl k) ?_
  obtain ⟨T5, X5, e5, st5⟩ := getF X4 hx hZ hown (host := "") (Or.inl (own_w hw 11 rfl)) Via.refl e4 F_starts_o0 (g := (mkF m 40 #[rv o0, iv u0, iv 0, iv (-1)] [(.ref o0)])) rfl rfl (hb hby d9_40)
  refine own_go T5 m 43 #[rv o0, iv u0, iv 0, iv (-1)] [(.ref o5)] (st5) ?_
  refine own_go T5 m 44 #[rv o0, iv u0, iv 0, iv (-1)] [(.int 0), (.ref o5)] (fun t k => XS.iloadN X5.here hx rfl (hb hby d9_43) rfl k) ?_
  refine own_go T5 m 45 #[rv o0, iv u0, iv 0, iv (-1)] [(.ref o0), (.int 0), (.ref o5)] (fun t k => XS.aloadN X5.here hx rfl (hb hby d9_44) rfl rfl k) ?_
  obtain ⟨T6, X6, e6, st6⟩ := getF X5 hx hZ hown (host := "") (Or.inl (own_w hw 30 rfl)) Via.refl e5 F_count_o0 (g := (mkF m 45 #[rv o0, iv u0, iv 0, iv (-1)] [(.ref o0), (.int 0), (.ref o5)])) rfl rfl (hb hby d9_45)
  refine own_go T6 m 48 #[rv o0, iv u0, iv 0, iv (-1)] [(.int 2), (.int 0), (.ref o5)] (st6) ?_
  refine own_go T6 m 49 #[rv o0, iv u0, iv 0, iv (-1)] [(.int u0), (.int 2), (.int 0), (.ref o5)] (fun t k => XS.iloadN X6.here hx rfl (hb hby d9_48) rfl k) ?_
  obtain ⟨_, T7, L7, X7, ⟨rfl, e7, rfl⟩, st7⟩ := own_static X6 hx hZ (y := (⟨"java/util/Arrays", "binarySearch", "([IIII)I"⟩ : MethodName)) hown (own_w hw 62 rfl) (own_w hw 63 rfl) (own_w hw 64 rfl) (own_w hw 65 rfl) (by decide) (sp12 l Z a0 hw [] o5 u0 u1 u2 c1 h0 n0 Z0 V_o5 hq0 hq1) e6 0 (argsL := [(.ref o5), (.int 0), (.int 2), (.int u0)]) (rest := []) (Ls := #[rv o0, iv u0, iv 0, iv (-1)]) (by rw [hml]; rfl) (lenOf pd___IIII_I rfl) rfl rfl (Nat.le_of_eq rfl) (hb hby d9_49) (by decide) (by decide) (by decide) (by decide)
  replace X7 := own_nil X7
  refine own_go T7 m 52 #[rv o0, iv u0, iv 0, iv (-1)] [(.int 1)] (st7) ?_
  refine own_go T7 m 53 #[rv o0, iv u0, iv 0, iv 1] [] (fun t k => XS.istoreN X7.here hx rfl (hb hby d9_52) rfl rfl k) ?_
  refine own_go T7 m 54 #[rv o0, iv u0, iv 0, iv 1] [(.int 1)] (fun t k => XS.iloadN X7.here hx rfl (hb hby d9_53) rfl k) ?_
  refine own_go T7 m 64 #[rv o0, iv u0, iv 0, iv 1] [] (fun t k => XS.ifYes X7.here hx rfl (pc0 := 54) (pc' := 64) rfl (hb hby d9_54) rfl ((if0 _ _).trans (flt (by decide)).2.1) (by decide) (by decide) k) ?_
  refine own_go T7 m 65 #[rv o0, iv u0, iv 0, iv 1] [(.int 1)] (fun t k => XS.iloadN X7.here hx rfl (hb hby d9_64) rfl k) ?_
  refine own_go T7 m 66 #[rv o0, iv u0, iv 0, iv 1] [] (fun t k => XS.istoreN X7.here hx rfl (hb hby d9_65) rfl rfl k) ?_
  refine own_go T7 m 93 #[rv o0, iv u0, iv 0, iv 1] [] (fun t k => XS.goto X7.here hx rfl (pc0 := 66) (pc' := 93) rfl (hb hby d9_66) (by decide) (by decide) k) ?_
  refine own_go T7 m 94 #[rv o0, iv u0, iv 0, iv 1] [(.ref o0)] (fun t k => XS.aloadN X7.here hx rfl (hb hby d9_93) rfl rfl k) ?_
  refine own_go T7 m 95 #[rv o0, iv u0, iv 0, iv 1] [(.int 1), (.ref o0)] (fun t k => XS.iloadN X7.here hx rfl (hb hby d9_94) rfl k) ?_
  obtain ⟨T8, h8, X8, e8, W8, st8⟩ := putF X7 hx hZ hown (host := "") (Or.inl (own_w hw 21 rfl)) Via.refl e7 F_cursor_o0 E_o0 (Or.inl (own_w hw 22 rfl)) (own_w hw 2 rfl) (ty := .int) (by decide) rfl rfl (g := (mkF m 95 #[rv o0, iv u0, iv 0, iv 1] [(.int 1), (.ref o0)])) rfl rfl (hb hby d9_95)
  have F8 := F_cursor_o0.same W8
  have cf9 := E_o0.wr W8
  have cf10 := F_count_o0.other W8 (Or.inr (slot_ne (Or.inl (own_w hw 31 rfl)) (Or.inl (own_w hw 22 rfl)) (by decide) (t := .int) (t' := .int) (by decide) (by decide)))
  have cf11 := F_ends_o0.other W8 (Or.inr (slot_ne (Or.inl (own_w hw 14 rfl)) (Or.inl (own_w hw 22 rfl)) (by decide) (t := (.array .int)) (t' := .int) (by decide) (by decide)))
  have cf12 := F_lastOpened_o0.other W8 (Or.inr (slot_ne (Or.inl (own_w hw 38 rfl)) (Or.inl (own_w hw 22 rfl)) (by decide) (t := .int) (t' := .int) (by decide) (by decide)))
  have cf13 := F_segmentEnd_o0.other W8 (Or.inr (slot_ne (Or.inl (own_w hw 18 rfl)) (Or.inl (own_w hw 22 rfl)) (by decide) (t := (.array .int)) (t' := .int) (by decide) (by decide)))
  have cf14 := F_segmentFirst_o0.other W8 (Or.inr (slot_ne (Or.inl (own_w hw 16 rfl)) (Or.inl (own_w hw 22 rfl)) (by decide) (t := (.array .int)) (t' := .int) (by decide) (by decide)))
  have cf15 := F_segmentLimit_o0.other W8 (Or.inr (slot_ne (Or.inl (own_w hw 20 rfl)) (Or.inl (own_w hw 22 rfl)) (by decide) (t := (.array .int)) (t' := .int) (by decide) (by decide)))
  have cf16 := F_segments_o0.other W8 (Or.inr (slot_ne (Or.inl (own_w hw 29 rfl)) (Or.inl (own_w hw 22 rfl)) (by decide) (t := .int) (t' := .int) (by decide) (by decide)))
  have cf17 := F_starts_o0.other W8 (Or.inr (slot_ne (Or.inl (own_w hw 12 rfl)) (Or.inl (own_w hw 22 rfl)) (by decide) (t := (.array .int)) (t' := .int) (by decide) (by decide)))
  have cf18 := V_o3.other W8 (Ne.symm ne_o0_o3)
  have cf19 := V_o5.other W8 (Ne.symm ne_o0_o5)
  have Z_8 : n0 ≤ h8.size := Nat.le_trans Z0 (Keep.of_wr W8).1
  have K_8 : Keep h0 h8 [o0] := K0.wr W8 (own_i 0 rfl)
  have N8 := Fr.snoc X8 N0 g_o0
  refine own_go T8 m 98 #[rv o0, iv u0, iv 0, iv 1] [] (st8) ?_
  refine own_go T8 m 99 #[rv o0, iv u0, iv 0, iv 1] [(.int 1)] (fun t k => XS.iloadN X8.here hx rfl (hb hby d9_98) rfl k) ?_
  refine own_go T8 m 100 #[rv o0, iv u0, iv 0, iv 1] [(.ref o0), (.int 1)] (fun t k => XS.aloadN X8.here hx rfl (hb hby d9_99) rfl rfl k) ?_
  obtain ⟨T20, X20, e20, st20⟩ := getF X8 hx hZ hown (host := "") (Or.inl (own_w hw 30 rfl)) Via.refl e8 cf10 (g := (mkF m 100 #[rv o0, iv u0, iv 0, iv 1] [(.ref o0), (.int 1)])) rfl rfl (hb hby d9_100)
  refine own_go T20 m 103 #[rv o0, iv u0, iv 0, iv 1] [(.int 2), (.int 1)] (st20) ?_
  refine own_go T20 m 106 #[rv o0, iv u0, iv 0, iv 1] [] (fun t k => XS.icmpNo X20.here hx rfl (hb hby d9_103) rfl (tlt (by decide)).2.1 k) ?_
  refine own_go T20 m 107 #[rv o0, iv u0, iv 0, iv 1] [(.ref o0)] (fun t k => XS.aloadN X20.here hx rfl (hb hby d9_106) rfl rfl k) ?_
  obtain ⟨T21, X21, e21, st21⟩ := getF X20 hx hZ hown (host := "") (Or.inl (own_w hw 11 rfl)) Via.refl e20 cf17 (g := (mkF m 107 #[rv o0, iv u0, iv 0, iv 1] [(.ref o0)])) rfl rfl (hb hby d9_107)
  refine own_go T21 m 110 #[rv o0, iv u0, iv 0, iv 1] [(.ref o5)] (st21) ?_
  refine own_go T21 m 111 #[rv o0, iv u0, iv 0, iv 1] [(.int 1), (.ref o5)] (fun t k => XS.iloadN X21.here hx rfl (hb hby d9_110) rfl k) ?_
  refine own_go T21 m 112 #[rv o0, iv u0, iv 0, iv 1] [(.int u0)] (own_iaload X21 hx hZ e21 cf19 (j := (1 : Int32)) ⟨by decide, by decide⟩ rfl (hb hby d9_111)) ?_
  refine own_go T21 m 113 #[rv o0, iv u0, iv 0, iv 1] [(.int u0), (.int u0)] (fun t k => XS.iloadN X21.here hx rfl (hb hby d9_112) rfl k) ?_
  refine own_go T21 m 116 #[rv o0, iv u0, iv 0, iv 1] [] (fun t k => XS.icmpNo X21.here hx rfl (hb hby d9_113) rfl (teq rfl).2 k) ?_
  refine own_go T21 m 117 #[rv o0, iv u0, iv 0, iv 1] [(.int 1)] (fun t k => XS.iloadN X21.here hx rfl (hb hby d9_116) rfl k) ?_
  refine own_go T21 m 121 #[rv o0, iv u0, iv 0, iv 1] [(.int 1)] (fun t k => XS.goto X21.here hx rfl (pc0 := 117) (pc' := 121) rfl (hb hby d9_117) (by decide) (by decide) k) ?_
  refine own_retI X21 hx hlk hret (hb hby d9_121) (by decide) (by decide) ?_
  rw [e21]
  exact ⟨rfl, N8, K_8, cf10, cf11, cf12, cf13, cf14, cf15, cf16, cf17, F8⟩
theorem ef_sp9 (m : MethodId) (q0 : Addr) (q1 : Int32) (q2 : Int32) : entryFrame m #[(.ref q0), (.int q1), (.int q2)] 5 = mkF m 0 #[rv q0, iv q1, iv q2, .unset, .unset] [] := by first | (simp [entryFrame, mkF, argsToLocals, Value.category]; done) | rfl
set_option maxRecDepth 65536 in
set_option maxHeartbeats 40000000 in
theorem sp9 (l : Launch) (Z : State) (a0 : Array Value) (hw : ∀ d ∈ tables_1, d.before a0 Z = true) (ws : List Jvm.Cond) (o0 o1 o2 o3 o4 o5 : Addr) (u0 : Int32) (u1 : Int32) (u2 : Int32) (u3 : Int32) (u4 : Int32) (u5 : Int32) (c0 : ClassId) (c1 : ClassId) (c2 : ClassId) (c3 : ClassId) (h0 : Heap) (n0 : Nat) (Z0 : n0 ≤ h0.size) (E_o0 : Exa Z h0 o0 OwnK0) (F_count_o0 : Fld Z h0 o0 OwnK0 "count" "I" (.int 2)) (F_cursor_o0 : Fld Z h0 o0 OwnK0 "cursor" "I" (.int (-1))) (F_ends_o0 : Fld Z h0 o0 OwnK0 "ends" "[I" (.ref o1)) (F_lastOpened_o0 : Fld Z h0 o0 OwnK0 "lastOpened" "I" (.int 2)) (F_segmentEnd_o0 : Fld Z h0 o0 OwnK0 "segmentEnd" "[I" (.ref o2)) (F_segmentFirst_o0 : Fld Z h0 o0 OwnK0 "segmentFirst" "[I" (.ref o3)) (F_segmentLimit_o0 : Fld Z h0 o0 OwnK0 "segmentLimit" "[I" (.ref o4)) (F_segments_o0 : Fld Z h0 o0 OwnK0 "segments" "I" (.int 1)) (F_starts_o0 : Fld Z h0 o0 OwnK0 "starts" "[I" (.ref o5)) (V_o1 : Arv Z h0 o1 c0 .int (8 : Int32) [(.int (-2)), (.int u2), (.int (-2)), (.int 0), (.int 0), (.int 0), (.int 0), (.int 0)] (.int 0)) (V_o2 : Arv Z h0 o2 c1 .int (8 : Int32) [(.int u3), (.int 0), (.int 0), (.int 0), (.int 0), (.int 0), (.int 0), (.int 0)] (.int 0)) (V_o3 : Arv Z h0 o3 c2 .int (8 : Int32) [(.int 0), (.int 0), (.int 0), (.int 0), (.int 0), (.int 0), (.int 0), (.int 0)] (.int 0)) (V_o5 : Arv Z h0 o5 c3 .int (8 : Int32) [(.int u4), (.int u0), (.int u5), (.int 0), (.int 0), (.int 0), (.int 0), (.int 0)] (.int 0)) (ne_o0_o1 : o0 ≠ o1) (ne_o0_o2 : o0 ≠ o2) (ne_o0_o3 : o0 ≠ o3) (ne_o0_o4 : o0 ≠ o4) (ne_o0_o5 : o0 ≠ o5) (g_o0 : n0 ≤ o0) (hq0 : ¬ (u0 < u4)) (hq1 : u0 < u3) (hq2 : u4 < u0) (hq3 : ¬ (u0 < u0)) (hq4 : ¬ (u2 = (-2 : Int32))) :
    OwnC l Z (⟨OwnK0, "find", "(II)I"⟩ : MethodName) prog_48_method_2_code 5 (some .int) ws ({ frames := 3, cells := 0, slots := 0, locals := 49 } : Room) #[(.ref o0), (.int u0), (.int u1)] h0 (fun v h L => v = some (.int u2) ∧ Fr n0 L ∧ Keep h0 h [o0] ∧ Fld Z h o0 OwnK0 "count" "I" (.int 2) ∧ Fld Z h o0 OwnK0 "ends" "[I" (.ref o1) ∧ Fld Z h o0 OwnK0 "lastOpened" "I" (.int 2) ∧ Fld Z h o0 OwnK0 "segmentEnd" "[I" (.ref o2) ∧ Fld Z h o0 OwnK0 "segmentFirst" "[I" (.ref o3) ∧ Fld Z h o0 OwnK0 "segmentLimit" "[I" (.ref o4) ∧ Fld Z h o0 OwnK0 "segments" "I" (.int 1) ∧ Fld Z h o0 OwnK0 "starts" "[I" (.ref o5) ∧ Fld Z h o0 OwnK0 "cursor" "I" (.int 1)) := by
  refine own_entry pf_com_example_wirelens_wirelens_wire_GroupEnds_find__II_I (fun m => ef_sp9 m o0 u0 u1) ?_
  intro p e s m below meth c T0 X0 hC e0
  obtain ⟨hx, hby, hml, hown, hnm, hret, hlk, hZ⟩ := hC
  have N0 := Fr.nil n0
  have K0 := Keep.refl h0 [o0]
  refine own_go T0 m 1 #[rv o0, iv u0, iv u1, .unset, .unset] [(.ref o0)] (fun t k => XS.aloadN X0.here hx rfl (hb hby d7_0) rfl rfl k) ?_
  obtain ⟨T1, X1, e1, st1⟩ := getF X0 hx hZ hown (host := "") (Or.inl (own_w hw 28 rfl)) Via.refl e0 F_segments_o0 (g := (mkF m 1 #[rv o0, iv u0, iv u1, .unset, .unset] [(.ref o0)])) rfl rfl (hb hby d7_1)
  refine own_go T1 m 4 #[rv o0, iv u0, iv u1, .unset, .unset] [(.int 1)] (st1) ?_
  refine own_go T1 m 7 #[rv o0, iv u0, iv u1, .unset, .unset] [] (fun t k => XS.ifNo X1.here hx rfl (hb hby d7_4) rfl ((if0 _ _).trans (tlt (by decide)).2.2.2) k) ?_
  refine own_go T1 m 8 #[rv o0, iv u0, iv u1, .unset, .unset] [(.ref o0)] (fun t k => XS.aloadN X1.here hx rfl (hb hby d7_7) rfl rfl k) ?_
  refine own_go T1 m 9 #[rv o0, iv u0, iv u1, .unset, .unset] [(.int u0), (.ref o0)] (fun t k => XS.iloadN X1.here hx rfl (hb hby d7_8) rfl k) ?_
  obtain ⟨_, T2, L2, X2, ⟨rfl, e2, rfl⟩, st2⟩ := own_private X1 hx hZ (y := (⟨OwnK0, "newestCovers", "(I)Z"⟩ : MethodName)) hown (own_w hw 54 rfl) (own_w hw 55 rfl) (own_w hw 56 rfl) (own_w hw 2 rfl) (own_w hw 3 rfl) (own_w hw 57 rfl) (by decide) (sp10 l Z a0 hw [] o0 o2 o3 o5 u0 u3 u4 u5 c1 c2 c3 h0 n0 Z0 F_segmentEnd_o0 F_segmentFirst_o0 F_segments_o0 F_starts_o0 V_o2 V_o3 V_o5 hq0 hq1) e1 E_o0 0 (argsL := [(.int u0)]) (rest := []) (Ls := #[rv o0, iv u0, iv u1, .unset, .unset]) (by rw [hml]; rfl) (lenOf pd__I_Z rfl) rfl rfl (Nat.le_of_eq rfl) (hb hby d7_9) (by decide) (by decide) (by decide) (by decide)
  replace X2 := own_nil X2
  refine own_go T2 m 12 #[rv o0, iv u0, iv u1, .unset, .unset] [(.int 1)] (st2) ?_
  refine own_go T2 m 46 #[rv o0, iv u0, iv u1, .unset, .unset] [] (fun t k => XS.ifYes X2.here hx rfl (pc0 := 12) (pc' := 46) rfl (hb hby d7_12) rfl ((if0 _ _).trans (feq (by decide)).2) (by decide) (by decide) k) ?_
  refine own_go T2 m 47 #[rv o0, iv u0, iv u1, .unset, .unset] [(.ref o0)] (fun t k => XS.aloadN X2.here hx rfl (hb hby d7_46) rfl rfl k) ?_
  obtain ⟨T3, X3, e3, st3⟩ := getF X2 hx hZ hown (host := "") (Or.inl (own_w hw 28 rfl)) Via.refl e2 F_segments_o0 (g := (mkF m 47 #[rv o0, iv u0, iv u1, .unset, .unset] [(.ref o0)])) rfl rfl (hb hby d7_47)
  refine own_go T3 m 50 #[rv o0, iv u0, iv u1, .unset, .unset] [(.int 1)] (st3) ?_
  refine own_go T3 m 57 #[rv o0, iv u0, iv u1, .unset, .unset] [] (fun t k => XS.ifYes X3.here hx rfl (pc0 := 50) (pc' := 57) rfl (hb hby d7_50) rfl ((if0 _ _).trans (feq (by decide)).2) (by decide) (by decide) k) ?_
  refine own_go T3 m 58 #[rv o0, iv u0, iv u1, .unset, .unset] [(.ref o0)] (fun t k => XS.aloadN X3.here hx rfl (hb hby d7_57) rfl rfl k) ?_
  refine own_go T3 m 59 #[rv o0, iv u0, iv u1, .unset, .unset] [(.int u0), (.ref o0)] (fun t k => XS.iloadN X3.here hx rfl (hb hby d7_58) rfl k) ?_
  obtain ⟨_, T4, L4, X4, ⟨rfl, Nq4, Kq4, fq0_4, fq1_4, fq2_4, fq3_4, fq4_4, fq5_4, fq6_4, fq7_4, fq8_4⟩, st4⟩ := own_private X3 hx hZ (y := (⟨OwnK0, "search", "(I)I"⟩ : MethodName)) hown (own_w hw 58 rfl) (own_w hw 59 rfl) (own_w hw 60 rfl) (own_w hw 2 rfl) (own_w hw 3 rfl) (own_w hw 61 rfl) (by decide) (sp11 l Z a0 hw [] o0 o1 o2 o3 o4 o5 u0 u4 u5 c2 c3 h0 n0 Z0 E_o0 F_count_o0 F_cursor_o0 F_ends_o0 F_lastOpened_o0 F_segmentEnd_o0 F_segmentFirst_o0 F_segmentLimit_o0 F_segments_o0 F_starts_o0 V_o3 V_o5 ne_o0_o1 ne_o0_o2 ne_o0_o3 ne_o0_o4 ne_o0_o5 g_o0 hq2 hq3) e3 E_o0 0 (argsL := [(.int u0)]) (rest := []) (Ls := #[rv o0, iv u0, iv u1, .unset, .unset]) (by rw [hml]; rfl) (lenOf pd__I_I rfl) rfl rfl (Nat.le_of_eq rfl) (hb hby d7_59) (by decide) (by decide) (by decide) (by decide)
  have N4 := Fr.app N0 Nq4
  have cf5 := E_o0.keep Kq4
  have cf6 := V_o1.keep Kq4 (ninS (Ne.symm ne_o0_o1) nin0)
  have cf7 := V_o2.keep Kq4 (ninS (Ne.symm ne_o0_o2) nin0)
  have cf8 := V_o3.keep Kq4 (ninS (Ne.symm ne_o0_o3) nin0)
  have cf9 := V_o5.keep Kq4 (ninS (Ne.symm ne_o0_o5) nin0)
  have Z_4 : n0 ≤ T4.heap.size := Nat.le_trans Z0 Kq4.1
  have K_4 : Keep h0 T4.heap [o0] := K0.trans Kq4 (allS (own_i 0 rfl) all0)
  refine own_go T4 m 62 #[rv o0, iv u0, iv u1, .unset, .unset] [(.int 1)] (st4) ?_
  refine own_go T4 m 63 #[rv o0, iv u0, iv u1, iv 1, .unset] [] (fun t k => XS.istoreN X4.here hx rfl (hb hby d7_62) rfl rfl k) ?_
  refine own_go T4 m 64 #[rv o0, iv u0, iv u1, iv 1, .unset] [(.int 1)] (fun t k => XS.iloadN X4.here hx rfl (hb hby d7_63) rfl k) ?_
  refine own_go T4 m 73 #[rv o0, iv u0, iv u1, iv 1, .unset] [] (fun t k => XS.ifYes X4.here hx rfl (pc0 := 64) (pc' := 73) rfl (hb hby d7_64) rfl ((if0 _ _).trans (flt (by decide)).2.1) (by decide) (by decide) k) ?_
  refine own_go T4 m 74 #[rv o0, iv u0, iv u1, iv 1, .unset] [(.ref o0)] (fun t k => XS.aloadN X4.here hx rfl (hb hby d7_73) rfl rfl k) ?_
  obtain ⟨T10, X10, e10, st10⟩ := getF X4 hx hZ hown (host := "") (Or.inl (own_w hw 13 rfl)) Via.refl rfl fq1_4 (g := (mkF m 74 #[rv o0, iv u0, iv u1, iv 1, .unset] [(.ref o0)])) rfl rfl (hb hby d7_74)
  refine own_go T10 m 77 #[rv o0, iv u0, iv u1, iv 1, .unset] [(.ref o1)] (st10) ?_
  refine own_go T10 m 78 #[rv o0, iv u0, iv u1, iv 1, .unset] [(.int 1), (.ref o1)] (fun t k => XS.iloadN X10.here hx rfl (hb hby d7_77) rfl k) ?_
  refine own_go T10 m 79 #[rv o0, iv u0, iv u1, iv 1, .unset] [(.int u2)] (own_iaload X10 hx hZ e10 cf6 (j := (1 : Int32)) ⟨by decide, by decide⟩ rfl (hb hby d7_78)) ?_
  refine own_go T10 m 81 #[rv o0, iv u0, iv u1, iv 1, .unset] [(.int (-2)), (.int u2)] (fun t k => XS.bipush X10.here hx rfl (hb hby d7_79) k) ?_
  refine own_go T10 m 105 #[rv o0, iv u0, iv u1, iv 1, .unset] [] (fun t k => XS.icmpYes X10.here hx rfl (pc0 := 81) (pc' := 105) rfl (hb hby d7_81) rfl (feq hq4).2 (by decide) (by decide) k) ?_
  refine own_go T10 m 106 #[rv o0, iv u0, iv u1, iv 1, .unset] [(.ref o0)] (fun t k => XS.aloadN X10.here hx rfl (hb hby d7_105) rfl rfl k) ?_
  obtain ⟨T12, X12, e12, st12⟩ := getF X10 hx hZ hown (host := "") (Or.inl (own_w hw 13 rfl)) Via.refl e10 fq1_4 (g := (mkF m 106 #[rv o0, iv u0, iv u1, iv 1, .unset] [(.ref o0)])) rfl rfl (hb hby d7_106)
  refine own_go T12 m 109 #[rv o0, iv u0, iv u1, iv 1, .unset] [(.ref o1)] (st12) ?_
  refine own_go T12 m 110 #[rv o0, iv u0, iv u1, iv 1, .unset] [(.int 1), (.ref o1)] (fun t k => XS.iloadN X12.here hx rfl (hb hby d7_109) rfl k) ?_
  refine own_go T12 m 111 #[rv o0, iv u0, iv u1, iv 1, .unset] [(.int u2)] (own_iaload X12 hx hZ e12 cf6 (j := (1 : Int32)) ⟨by decide, by decide⟩ rfl (hb hby d7_110)) ?_
  refine own_go T12 m 113 #[rv o0, iv u0, iv u1, iv 1, iv u2] [] (fun t k => XS.istore X12.here hx rfl (hb hby d7_111) rfl rfl k) ?_
  refine own_go T12 m 115 #[rv o0, iv u0, iv u1, iv 1, iv u2] [(.int u2)] (fun t k => XS.iload X12.here hx rfl (hb hby d7_113) rfl k) ?_
  refine own_retI X12 hx hlk hret (hb hby d7_115) (by decide) (by decide) ?_
  rw [e12]
  exact ⟨rfl, N4, K_4, fq0_4, fq1_4, fq2_4, fq3_4, fq4_4, fq5_4, fq6_4, fq7_4, fq8_4⟩
theorem own_db11 (t0 t1 t2 t3 t4 t5 t6 t7 t8 t9 : Int32) (h0 : ¬ (t0 < (0 : Int32))) (h1 : t0 < t1) (h2 : t1 < t2) (h3 : ¬ (t3 < t2)) (h4 : t3 < t4) (h5 : t4 < t5) (h6 : t6 < t7) (h7 : t8 < t9) (h8 : t6 < (64 : Int32)) (h9 : t9 < (64 : Int32)) (h10 : t7 < (64 : Int32)) : ¬ (t2 < t0) := by
  simp only [Int32.lt_iff_toInt_lt, ← Int32.toInt_inj, Int32.reduceToInt] at *
  omega
theorem own_db12 (t0 t1 t2 t3 t4 t5 t6 t7 t8 t9 : Int32) (h0 : ¬ (t0 < (0 : Int32))) (h1 : t0 < t1) (h2 : t1 < t2) (h3 : ¬ (t3 < t2)) (h4 : t3 < t4) (h5 : t4 < t5) (h6 : t6 < t7) (h7 : t8 < t9) (h8 : t6 < (64 : Int32)) (h9 : t9 < (64 : Int32)) (h10 : t7 < (64 : Int32)) : t2 < t5 := by
  simp only [Int32.lt_iff_toInt_lt, ← Int32.toInt_inj, Int32.reduceToInt] at *
  omega
theorem own_db13 (t0 t1 t2 t3 t4 t5 t6 t7 t8 t9 : Int32) (h0 : ¬ (t0 < (0 : Int32))) (h1 : t0 < t1) (h2 : t1 < t2) (h3 : ¬ (t3 < t2)) (h4 : t3 < t4) (h5 : t4 < t5) (h6 : t6 < t7) (h7 : t8 < t9) (h8 : t6 < (64 : Int32)) (h9 : t9 < (64 : Int32)) (h10 : t7 < (64 : Int32)) : t0 < t2 := by
  simp only [Int32.lt_iff_toInt_lt, ← Int32.toInt_inj, Int32.reduceToInt] at *
  omega
theorem ef_sp16 (m : MethodId) (q0 : Addr) (q1 : Int32) : entryFrame m #[(.ref q0), (.int q1)] 3 = mkF m 0 #[rv q0, iv q1, .unset] [] := by first | (simp [entryFrame, mkF, argsToLocals, Value.category]; done) | rfl
set_option maxRecDepth 65536 in
set_option maxHeartbeats 40000000 in
theorem sp16 (l : Launch) (Z : State) (a0 : Array Value) (hw : ∀ d ∈ tables_1, d.before a0 Z = true) (ws : List Jvm.Cond) (o0 o1 o2 o3 : Addr) (u0 : Int32) (u1 : Int32) (u2 : Int32) (u3 : Int32) (c0 : ClassId) (c1 : ClassId) (c2 : ClassId) (h0 : Heap) (n0 : Nat) (Z0 : n0 ≤ h0.size) (F_segmentEnd_o0 : Fld Z h0 o0 OwnK0 "segmentEnd" "[I" (.ref o1)) (F_segmentFirst_o0 : Fld Z h0 o0 OwnK0 "segmentFirst" "[I" (.ref o2)) (F_segments_o0 : Fld Z h0 o0 OwnK0 "segments" "I" (.int 1)) (F_starts_o0 : Fld Z h0 o0 OwnK0 "starts" "[I" (.ref o3)) (V_o1 : Arv Z h0 o1 c0 .int (8 : Int32) [(.int u1), (.int 0), (.int 0), (.int 0), (.int 0), (.int 0), (.int 0), (.int 0)] (.int 0)) (V_o2 : Arv Z h0 o2 c1 .int (8 : Int32) [(.int 0), (.int 0), (.int 0), (.int 0), (.int 0), (.int 0), (.int 0), (.int 0)] (.int 0)) (V_o3 : Arv Z h0 o3 c2 .int (8 : Int32) [(.int u2), (.int u3), (.int u0), (.int 0), (.int 0), (.int 0), (.int 0), (.int 0)] (.int 0)) (hq0 : ¬ (u0 < u2)) (hq1 : u0 < u1) :
    OwnC l Z (⟨OwnK0, "newestCovers", "(I)Z"⟩ : MethodName) prog_48_method_3_code 3 (some .boolean) ws ({ frames := 0, cells := 0, slots := 0, locals := 0 } : Room) #[(.ref o0), (.int u0)] h0 (fun v h L => v = some (.int 1) ∧ h = h0 ∧ L = []) := by
  refine own_entry pf_com_example_wirelens_wirelens_wire_GroupEnds_newestCovers__I_Z (fun m => ef_sp16 m o0 u0) ?_
  intro p e s m below meth c T0 X0 hC e0
  obtain ⟨hx, hby, hml, hown, hnm, hret, hlk, hZ⟩ := hC
  have N0 := Fr.nil n0
  have K0 := Keep.refl h0 []
  refine own_go T0 m 1 #[rv o0, iv u0, .unset] [(.ref o0)] (fun t k => XS.aloadN X0.here hx rfl (hb hby d8_0) rfl rfl k) ?_
  obtain ⟨T1, X1, e1, st1⟩ := getF X0 hx hZ hown (host := "") (Or.inl (own_w hw 28 rfl)) Via.refl e0 F_segments_o0 (g := (mkF m 1 #[rv o0, iv u0, .unset] [(.ref o0)])) rfl rfl (hb hby d8_1)
  refine own_go T1 m 4 #[rv o0, iv u0, .unset] [(.int 1)] (st1) ?_
  refine own_go T1 m 5 #[rv o0, iv u0, .unset] [(.int 1), (.int 1)] (fun t k => XS.iconst X1.here hx rfl (hb hby d8_4) k) ?_
  refine own_go T1 m 6 #[rv o0, iv u0, .unset] [(.int ((1 : Int32) - (1 : Int32)))] (fun t k => XS.isub X1.here hx rfl (hb hby d8_5) rfl k) ?_
  rw [show ((1 : Int32) - (1 : Int32)) = (0 : Int32) from by decide]
  refine own_go T1 m 7 #[rv o0, iv u0, iv 0] [] (fun t k => XS.istoreN X1.here hx rfl (hb hby d8_6) rfl rfl k) ?_
  refine own_go T1 m 8 #[rv o0, iv u0, iv 0] [(.int u0)] (fun t k => XS.iloadN X1.here hx rfl (hb hby d8_7) rfl k) ?_
  refine own_go T1 m 9 #[rv o0, iv u0, iv 0] [(.ref o0), (.int u0)] (fun t k => XS.aloadN X1.here hx rfl (hb hby d8_8) rfl rfl k) ?_
  obtain ⟨T2, X2, e2, st2⟩ := getF X1 hx hZ hown (host := "") (Or.inl (own_w hw 11 rfl)) Via.refl e1 F_starts_o0 (g := (mkF m 9 #[rv o0, iv u0, iv 0] [(.ref o0), (.int u0)])) rfl rfl (hb hby d8_9)
  refine own_go T2 m 12 #[rv o0, iv u0, iv 0] [(.ref o3), (.int u0)] (st2) ?_
  refine own_go T2 m 13 #[rv o0, iv u0, iv 0] [(.ref o0), (.ref o3), (.int u0)] (fun t k => XS.aloadN X2.here hx rfl (hb hby d8_12) rfl rfl k) ?_
  obtain ⟨T3, X3, e3, st3⟩ := getF X2 hx hZ hown (host := "") (Or.inl (own_w hw 15 rfl)) Via.refl e2 F_segmentFirst_o0 (g := (mkF m 13 #[rv o0, iv u0, iv 0] [(.ref o0), (.ref o3), (.int u0)])) rfl rfl (hb hby d8_13)
  refine own_go T3 m 16 #[rv o0, iv u0, iv 0] [(.ref o2), (.ref o3), (.int u0)] (st3) ?_
  refine own_go T3 m 17 #[rv o0, iv u0, iv 0] [(.int 0), (.ref o2), (.ref o3), (.int u0)] (fun t k => XS.iloadN X3.here hx rfl (hb hby d8_16) rfl k) ?_
  refine own_go T3 m 18 #[rv o0, iv u0, iv 0] [(.int 0), (.ref o3), (.int u0)] (own_iaload X3 hx hZ e3 V_o2 (j := (0 : Int32)) ⟨by decide, by decide⟩ rfl (hb hby d8_17)) ?_
  refine own_go T3 m 19 #[rv o0, iv u0, iv 0] [(.int u2), (.int u0)] (own_iaload X3 hx hZ e3 V_o3 (j := (0 : Int32)) ⟨by decide, by decide⟩ rfl (hb hby d8_18)) ?_
  refine own_go T3 m 22 #[rv o0, iv u0, iv 0] [] (fun t k => XS.icmpNo X3.here hx rfl (hb hby d8_19) rfl (flt hq0).1 k) ?_
  refine own_go T3 m 23 #[rv o0, iv u0, iv 0] [(.int u0)] (fun t k => XS.iloadN X3.here hx rfl (hb hby d8_22) rfl k) ?_
  refine own_go T3 m 24 #[rv o0, iv u0, iv 0] [(.ref o0), (.int u0)] (fun t k => XS.aloadN X3.here hx rfl (hb hby d8_23) rfl rfl k) ?_
  obtain ⟨T6, X6, e6, st6⟩ := getF X3 hx hZ hown (host := "") (Or.inl (own_w hw 17 rfl)) Via.refl e3 F_segmentEnd_o0 (g := (mkF m 24 #[rv o0, iv u0, iv 0] [(.ref o0), (.int u0)])) rfl rfl (hb hby d8_24)
  refine own_go T6 m 27 #[rv o0, iv u0, iv 0] [(.ref o1), (.int u0)] (st6) ?_
  refine own_go T6 m 28 #[rv o0, iv u0, iv 0] [(.int 0), (.ref o1), (.int u0)] (fun t k => XS.iloadN X6.here hx rfl (hb hby d8_27) rfl k) ?_
  refine own_go T6 m 29 #[rv o0, iv u0, iv 0] [(.int u1), (.int u0)] (own_iaload X6 hx hZ e6 V_o1 (j := (0 : Int32)) ⟨by decide, by decide⟩ rfl (hb hby d8_28)) ?_
  refine own_go T6 m 32 #[rv o0, iv u0, iv 0] [] (fun t k => XS.icmpNo X6.here hx rfl (hb hby d8_29) rfl (tlt hq1).2.1 k) ?_
  refine own_go T6 m 33 #[rv o0, iv u0, iv 0] [(.int 1)] (fun t k => XS.iconst X6.here hx rfl (hb hby d8_32) k) ?_
  refine own_go T6 m 37 #[rv o0, iv u0, iv 0] [(.int 1)] (fun t k => XS.goto X6.here hx rfl (pc0 := 33) (pc' := 37) rfl (hb hby d8_33) (by decide) (by decide) k) ?_
  refine own_retZ X6 hx hlk hret (by decide) (hb hby d8_37) (by decide) (by decide) ?_
  exact ⟨rfl, e6, rfl⟩
theorem ef_sp17 (m : MethodId) (q0 : Addr) (q1 : Int32) : entryFrame m #[(.ref q0), (.int q1)] 4 = mkF m 0 #[rv q0, iv q1, .unset, .unset] [] := by first | (simp [entryFrame, mkF, argsToLocals, Value.category]; done) | rfl
set_option maxRecDepth 65536 in
set_option maxHeartbeats 40000000 in
theorem sp17 (l : Launch) (Z : State) (a0 : Array Value) (hw : ∀ d ∈ tables_1, d.before a0 Z = true) (ws : List Jvm.Cond) (o0 o1 o2 o3 o4 o5 : Addr) (u0 : Int32) (u1 : Int32) (u2 : Int32) (c0 : ClassId) (c1 : ClassId) (h0 : Heap) (n0 : Nat) (Z0 : n0 ≤ h0.size) (E_o0 : Exa Z h0 o0 OwnK0) (F_count_o0 : Fld Z h0 o0 OwnK0 "count" "I" (.int 2)) (F_cursor_o0 : Fld Z h0 o0 OwnK0 "cursor" "I" (.int 1)) (F_ends_o0 : Fld Z h0 o0 OwnK0 "ends" "[I" (.ref o1)) (F_lastOpened_o0 : Fld Z h0 o0 OwnK0 "lastOpened" "I" (.int 2)) (F_segmentEnd_o0 : Fld Z h0 o0 OwnK0 "segmentEnd" "[I" (.ref o2)) (F_segmentFirst_o0 : Fld Z h0 o0 OwnK0 "segmentFirst" "[I" (.ref o3)) (F_segmentLimit_o0 : Fld Z h0 o0 OwnK0 "segmentLimit" "[I" (.ref o4)) (F_segments_o0 : Fld Z h0 o0 OwnK0 "segments" "I" (.int 1)) (F_starts_o0 : Fld Z h0 o0 OwnK0 "starts" "[I" (.ref o5)) (V_o3 : Arv Z h0 o3 c0 .int (8 : Int32) [(.int 0), (.int 0), (.int 0), (.int 0), (.int 0), (.int 0), (.int 0), (.int 0)] (.int 0)) (V_o5 : Arv Z h0 o5 c1 .int (8 : Int32) [(.int u1), (.int u2), (.int u0), (.int 0), (.int 0), (.int 0), (.int 0), (.int 0)] (.int 0)) (ne_o0_o1 : o0 ≠ o1) (ne_o0_o2 : o0 ≠ o2) (ne_o0_o3 : o0 ≠ o3) (ne_o0_o4 : o0 ≠ o4) (ne_o0_o5 : o0 ≠ o5) (g_o0 : n0 ≤ o0) (hq0 : u1 < u0) (hq1 : u2 < u0) :
    OwnC l Z (⟨OwnK0, "search", "(I)I"⟩ : MethodName) prog_48_method_4_code 4 (some .int) ws ({ frames := 0, cells := 0, slots := 0, locals := 0 } : Room) #[(.ref o0), (.int u0)] h0 (fun v h L => v = some (.int (-1)) ∧ Fr n0 L ∧ Keep h0 h [o0] ∧ Fld Z h o0 OwnK0 "count" "I" (.int 2) ∧ Fld Z h o0 OwnK0 "ends" "[I" (.ref o1) ∧ Fld Z h o0 OwnK0 "lastOpened" "I" (.int 2) ∧ Fld Z h o0 OwnK0 "segmentEnd" "[I" (.ref o2) ∧ Fld Z h o0 OwnK0 "segmentFirst" "[I" (.ref o3) ∧ Fld Z h o0 OwnK0 "segmentLimit" "[I" (.ref o4) ∧ Fld Z h o0 OwnK0 "segments" "I" (.int 1) ∧ Fld Z h o0 OwnK0 "starts" "[I" (.ref o5) ∧ Fld Z h o0 OwnK0 "cursor" "I" (.int 2)) := by
  refine own_entry pf_com_example_wirelens_wirelens_wire_GroupEnds_search__I_I (fun m => ef_sp17 m o0 u0) ?_
  intro p e s m below meth c T0 X0 hC e0
  obtain ⟨hx, hby, hml, hown, hnm, hret, hlk, hZ⟩ := hC
  have N0 := Fr.nil n0
  have K0 := Keep.refl h0 [o0]
  refine own_go T0 m 1 #[rv o0, iv u0, .unset, .unset] [(.ref o0)] (fun t k => XS.aloadN X0.here hx rfl (hb hby d9_0) rfl rfl k) ?_
  obtain ⟨T1, X1, e1, st1⟩ := getF X0 hx hZ hown (host := "") (Or.inl (own_w hw 15 rfl)) Via.refl e0 F_segmentFirst_o0 (g := (mkF m 1 #[rv o0, iv u0, .unset, .unset] [(.ref o0)])) rfl rfl (hb hby d9_1)
  refine own_go T1 m 4 #[rv o0, iv u0, .unset, .unset] [(.ref o3)] (st1) ?_
  refine own_go T1 m 5 #[rv o0, iv u0, .unset, .unset] [(.ref o0), (.ref o3)] (fun t k => XS.aloadN X1.here hx rfl (hb hby d9_4) rfl rfl k) ?_
  obtain ⟨T2, X2, e2, st2⟩ := getF X1 hx hZ hown (host := "") (Or.inl (own_w hw 28 rfl)) Via.refl e1 F_segments_o0 (g := (mkF m 5 #[rv o0, iv u0, .unset, .unset] [(.ref o0), (.ref o3)])) rfl rfl (hb hby d9_5)
  refine own_go T2 m 8 #[rv o0, iv u0, .unset, .unset] [(.int 1), (.ref o3)] (st2) ?_
  refine own_go T2 m 9 #[rv o0, iv u0, .unset, .unset] [(.int 1), (.int 1), (.ref o3)] (fun t k => XS.iconst X2.here hx rfl (hb hby d9_8) k) ?_
  refine own_go T2 m 10 #[rv o0, iv u0, .unset, .unset] [(.int ((1 : Int32) - (1 : Int32))), (.ref o3)] (fun t k => XS.isub X2.here hx rfl (hb hby d9_9) rfl k) ?_
  rw [show ((1 : Int32) - (1 : Int32)) = (0 : Int32) from by decide]
  refine own_go T2 m 11 #[rv o0, iv u0, .unset, .unset] [(.int 0)] (own_iaload X2 hx hZ e2 V_o3 (j := (0 : Int32)) ⟨by decide, by decide⟩ rfl (hb hby d9_10)) ?_
  refine own_go T2 m 12 #[rv o0, iv u0, iv 0, .unset] [] (fun t k => XS.istoreN X2.here hx rfl (hb hby d9_11) rfl rfl k) ?_
  refine own_go T2 m 13 #[rv o0, iv u0, iv 0, .unset] [(.ref o0)] (fun t k => XS.aloadN X2.here hx rfl (hb hby d9_12) rfl rfl k) ?_
  obtain ⟨T4, X4, e4, st4⟩ := getF X2 hx hZ hown (host := "") (Or.inl (own_w hw 21 rfl)) Via.refl e2 F_cursor_o0 (g := (mkF m 13 #[rv o0, iv u0, iv 0, .unset] [(.ref o0)])) rfl rfl (hb hby d9_13)
  refine own_go T4 m 16 #[rv o0, iv u0, iv 0, .unset] [(.int 1)] (st4) ?_
  refine own_go T4 m 17 #[rv o0, iv u0, iv 0, iv 1] [] (fun t k => XS.istoreN X4.here hx rfl (hb hby d9_16) rfl rfl k) ?_
  refine own_go T4 m 18 #[rv o0, iv u0, iv 0, iv 1] [(.int 1)] (fun t k => XS.iloadN X4.here hx rfl (hb hby d9_17) rfl k) ?_
  refine own_go T4 m 19 #[rv o0, iv u0, iv 0, iv 1] [(.int 0), (.int 1)] (fun t k => XS.iloadN X4.here hx rfl (hb hby d9_18) rfl k) ?_
  refine own_go T4 m 22 #[rv o0, iv u0, iv 0, iv 1] [] (fun t k => XS.icmpNo X4.here hx rfl (hb hby d9_19) rfl (flt (by decide)).1 k) ?_
  refine own_go T4 m 23 #[rv o0, iv u0, iv 0, iv 1] [(.int 1)] (fun t k => XS.iloadN X4.here hx rfl (hb hby d9_22) rfl k) ?_
  refine own_go T4 m 24 #[rv o0, iv u0, iv 0, iv 1] [(.int 0), (.int 1)] (fun t k => XS.iloadN X4.here hx rfl (hb hby d9_23) rfl k) ?_
  refine own_go T4 m 27 #[rv o0, iv u0, iv 0, iv 1] [] (fun t k => XS.icmpNo X4.here hx rfl (hb hby d9_24) rfl (tlt (by decide)).2.2.2 k) ?_
  refine own_go T4 m 28 #[rv o0, iv u0, iv 0, iv 1] [(.ref o0)] (fun t k => XS.aloadN X4.here hx rfl (hb hby d9_27) rfl rfl k) ?_
  obtain ⟨T5, X5, e5, st5⟩ := getF X4 hx hZ hown (host := "") (Or.inl (own_w hw 11 rfl)) Via.refl e4 F_starts_o0 (g := (mkF m 28 #[rv o0, iv u0, iv 0, iv 1] [(.ref o0)])) rfl rfl (hb hby d9_28)
  refine own_go T5 m 31 #[rv o0, iv u0, iv 0, iv 1] [(.ref o5)] (st5) ?_
  refine own_go T5 m 32 #[rv o0, iv u0, iv 0, iv 1] [(.int 1), (.ref o5)] (fun t k => XS.iloadN X5.here hx rfl (hb hby d9_31) rfl k) ?_
  refine own_go T5 m 33 #[rv o0, iv u0, iv 0, iv 1] [(.int 1), (.int 1), (.ref o5)] (fun t k => XS.iconst X5.here hx rfl (hb hby d9_32) k) ?_
  refine own_go T5 m 34 #[rv o0, iv u0, iv 0, iv 1] [(.int ((1 : Int32) - (1 : Int32))), (.ref o5)] (fun t k => XS.isub X5.here hx rfl (hb hby d9_33) rfl k) ?_
  rw [show ((1 : Int32) - (1 : Int32)) = (0 : Int32) from by decide]
  refine own_go T5 m 35 #[rv o0, iv u0, iv 0, iv 1] [(.int u1)] (own_iaload X5 hx hZ e5 V_o5 (j := (0 : Int32)) ⟨by decide, by decide⟩ rfl (hb hby d9_34)) ?_
  refine own_go T5 m 36 #[rv o0, iv u0, iv 0, iv 1] [(.int u0), (.int u1)] (fun t k => XS.iloadN X5.here hx rfl (hb hby d9_35) rfl k) ?_
  refine own_go T5 m 69 #[rv o0, iv u0, iv 0, iv 1] [] (fun t k => XS.icmpYes X5.here hx rfl (pc0 := 36) (pc' := 69) rfl (hb hby d9_36) rfl (tlt hq0).1 (by decide) (by decide) k) ?_
  refine own_go T5 m 70 #[rv o0, iv u0, iv 0, iv 1] [(.int 1)] (fun t k => XS.iloadN X5.here hx rfl (hb hby d9_69) rfl k) ?_
  refine own_go T5 m 71 #[rv o0, iv u0, iv 0, iv 1] [(.ref o0), (.int 1)] (fun t k => XS.aloadN X5.here hx rfl (hb hby d9_70) rfl rfl k) ?_
  obtain ⟨T7, X7, e7, st7⟩ := getF X5 hx hZ hown (host := "") (Or.inl (own_w hw 30 rfl)) Via.refl e5 F_count_o0 (g := (mkF m 71 #[rv o0, iv u0, iv 0, iv 1] [(.ref o0), (.int 1)])) rfl rfl (hb hby d9_71)
  refine own_go T7 m 74 #[rv o0, iv u0, iv 0, iv 1] [(.int 2), (.int 1)] (st7) ?_
  refine own_go T7 m 77 #[rv o0, iv u0, iv 0, iv 1] [] (fun t k => XS.icmpNo X7.here hx rfl (hb hby d9_74) rfl (tlt (by decide)).2.1 k) ?_
  refine own_go T7 m 78 #[rv o0, iv u0, iv 0, iv 1] [(.ref o0)] (fun t k => XS.aloadN X7.here hx rfl (hb hby d9_77) rfl rfl k) ?_
  obtain ⟨T8, X8, e8, st8⟩ := getF X7 hx hZ hown (host := "") (Or.inl (own_w hw 11 rfl)) Via.refl e7 F_starts_o0 (g := (mkF m 78 #[rv o0, iv u0, iv 0, iv 1] [(.ref o0)])) rfl rfl (hb hby d9_78)
  refine own_go T8 m 81 #[rv o0, iv u0, iv 0, iv 1] [(.ref o5)] (st8) ?_
  refine own_go T8 m 82 #[rv o0, iv u0, iv 0, iv 1] [(.int 1), (.ref o5)] (fun t k => XS.iloadN X8.here hx rfl (hb hby d9_81) rfl k) ?_
  refine own_go T8 m 83 #[rv o0, iv u0, iv 0, iv 1] [(.int u2)] (own_iaload X8 hx hZ e8 V_o5 (j := (1 : Int32)) ⟨by decide, by decide⟩ rfl (hb hby d9_82)) ?_
  refine own_go T8 m 84 #[rv o0, iv u0, iv 0, iv 1] [(.int u0), (.int u2)] (fun t k => XS.iloadN X8.here hx rfl (hb hby d9_83) rfl k) ?_
  refine own_go T8 m 87 #[rv o0, iv u0, iv 0, iv 1] [] (fun t k => XS.icmpNo X8.here hx rfl (hb hby d9_84) rfl (tlt hq1).2.1 k) ?_
  refine own_go T8 m 90 #[rv o0, iv u0, iv 0, iv ((1 : Int32) + (1 : Int32))] [] (fun t k => XS.iinc X8.here hx rfl (hb hby d9_87) rfl rfl k) ?_
  rw [show ((1 : Int32) + (1 : Int32)) = (2 : Int32) from by decide]
  refine own_go T8 m 69 #[rv o0, iv u0, iv 0, iv 2] [] (fun t k => XS.goto X8.here hx rfl (pc0 := 90) (pc' := 69) rfl (hb hby d9_90) (by decide) (by decide) k) ?_
  refine own_go T8 m 70 #[rv o0, iv u0, iv 0, iv 2] [(.int 2)] (fun t k => XS.iloadN X8.here hx rfl (hb hby d9_69) rfl k) ?_
  refine own_go T8 m 71 #[rv o0, iv u0, iv 0, iv 2] [(.ref o0), (.int 2)] (fun t k => XS.aloadN X8.here hx rfl (hb hby d9_70) rfl rfl k) ?_
  obtain ⟨T10, X10, e10, st10⟩ := getF X8 hx hZ hown (host := "") (Or.inl (own_w hw 30 rfl)) Via.refl e8 F_count_o0 (g := (mkF m 71 #[rv o0, iv u0, iv 0, iv 2] [(.ref o0), (.int 2)])) rfl rfl (hb hby d9_71)
  refine own_go T10 m 74 #[rv o0, iv u0, iv 0, iv 2] [(.int 2), (.int 2)] (st10) ?_
  refine own_go T10 m 93 #[rv o0, iv u0, iv 0, iv 2] [] (fun t k => XS.icmpYes X10.here hx rfl (pc0 := 74) (pc' := 93) rfl (hb hby d9_74) rfl (flt (by decide)).2.1 (by decide) (by decide) k) ?_
  refine own_go T10 m 94 #[rv o0, iv u0, iv 0, iv 2] [(.ref o0)] (fun t k => XS.aloadN X10.here hx rfl (hb hby d9_93) rfl rfl k) ?_
  refine own_go T10 m 95 #[rv o0, iv u0, iv 0, iv 2] [(.int 2), (.ref o0)] (fun t k => XS.iloadN X10.here hx rfl (hb hby d9_94) rfl k) ?_
  obtain ⟨T11, h11, X11, e11, W11, st11⟩ := putF X10 hx hZ hown (host := "") (Or.inl (own_w hw 21 rfl)) Via.refl e10 F_cursor_o0 E_o0 (Or.inl (own_w hw 22 rfl)) (own_w hw 2 rfl) (ty := .int) (by decide) rfl rfl (g := (mkF m 95 #[rv o0, iv u0, iv 0, iv 2] [(.int 2), (.ref o0)])) rfl rfl (hb hby d9_95)
  have F11 := F_cursor_o0.same W11
  have cf12 := E_o0.wr W11
  have cf13 := F_count_o0.other W11 (Or.inr (slot_ne (Or.inl (own_w hw 31 rfl)) (Or.inl (own_w hw 22 rfl)) (by decide) (t := .int) (t' := .int) (by decide) (by decide)))
  have cf14 := F_ends_o0.other W11 (Or.inr (slot_ne (Or.inl (own_w hw 14 rfl)) (Or.inl (own_w hw 22 rfl)) (by decide) (t := (.array .int)) (t' := .int) (by decide) (by decide)))
  have cf15 := F_lastOpened_o0.other W11 (Or.inr (slot_ne (Or.inl (own_w hw 38 rfl)) (Or.inl (own_w hw 22 rfl)) (by decide) (t := .int) (t' := .int) (by decide) (by decide)))
  have cf16 := F_segmentEnd_o0.other W11 (Or.inr (slot_ne (Or.inl (own_w hw 18 rfl)) (Or.inl (own_w hw 22 rfl)) (by decide) (t := (.array .int)) (t' := .int) (by decide) (by decide)))
  have cf17 := F_segmentFirst_o0.other W11 (Or.inr (slot_ne (Or.inl (own_w hw 16 rfl)) (Or.inl (own_w hw 22 rfl)) (by decide) (t := (.array .int)) (t' := .int) (by decide) (by decide)))
  have cf18 := F_segmentLimit_o0.other W11 (Or.inr (slot_ne (Or.inl (own_w hw 20 rfl)) (Or.inl (own_w hw 22 rfl)) (by decide) (t := (.array .int)) (t' := .int) (by decide) (by decide)))
  have cf19 := F_segments_o0.other W11 (Or.inr (slot_ne (Or.inl (own_w hw 29 rfl)) (Or.inl (own_w hw 22 rfl)) (by decide) (t := .int) (t' := .int) (by decide) (by decide)))
  have cf20 := F_starts_o0.other W11 (Or.inr (slot_ne (Or.inl (own_w hw 12 rfl)) (Or.inl (own_w hw 22 rfl)) (by decide) (t := (.array .int)) (t' := .int) (by decide) (by decide)))
  have cf21 := V_o3.other W11 (Ne.symm ne_o0_o3)
  have cf22 := V_o5.other W11 (Ne.symm ne_o0_o5)
  have Z_11 : n0 ≤ h11.size := Nat.le_trans Z0 (Keep.of_wr W11).1
  have K_11 : Keep h0 h11 [o0] := K0.wr W11 (own_i 0 rfl)
  have N11 := Fr.snoc X11 N0 g_o0
  refine own_go T11 m 98 #[rv o0, iv u0, iv 0, iv 2] [] (st11) ?_
  refine own_go T11 m 99 #[rv o0, iv u0, iv 0, iv 2] [(.int 2)] (fun t k => XS.iloadN X11.here hx rfl (hb hby d9_98) rfl k) ?_
  refine own_go T11 m 100 #[rv o0, iv u0, iv 0, iv 2] [(.ref o0), (.int 2)] (fun t k => XS.aloadN X11.here hx rfl (hb hby d9_99) rfl rfl k) ?_
  obtain ⟨T23, X23, e23, st23⟩ := getF X11 hx hZ hown (host := "") (Or.inl (own_w hw 30 rfl)) Via.refl e11 cf13 (g := (mkF m 100 #[rv o0, iv u0, iv 0, iv 2] [(.ref o0), (.int 2)])) rfl rfl (hb hby d9_100)
  refine own_go T23 m 103 #[rv o0, iv u0, iv 0, iv 2] [(.int 2), (.int 2)] (st23) ?_
  refine own_go T23 m 120 #[rv o0, iv u0, iv 0, iv 2] [] (fun t k => XS.icmpYes X23.here hx rfl (pc0 := 103) (pc' := 120) rfl (hb hby d9_103) rfl (flt (by decide)).2.1 (by decide) (by decide) k) ?_
  refine own_go T23 m 121 #[rv o0, iv u0, iv 0, iv 2] [(.int (-1))] (fun t k => XS.iconst X23.here hx rfl (hb hby d9_120) k) ?_
  refine own_retI X23 hx hlk hret (hb hby d9_121) (by decide) (by decide) ?_
  rw [e23]
  exact ⟨rfl, N11, K_11, cf13, cf14, cf15, cf16, cf17, cf18, cf19, cf20, F11⟩
theorem ef_sp15 (m : MethodId) (q0 : Addr) (q1 : Int32) (q2 : Int32) : entryFrame m #[(.ref q0), (.int q1), (.int q2)] 5 = mkF m 0 #[rv q0, iv q1, iv q2, .unset, .unset] [] := by first | (simp [entryFrame, mkF, argsToLocals, Value.category]; done) | rfl
set_option maxRecDepth 65536 in
set_option maxHeartbeats 40000000 in
theorem sp15 (l : Launch) (Z : State) (a0 : Array Value) (hw : ∀ d ∈ tables_1, d.before a0 Z = true) (ws : List Jvm.Cond) (o0 o1 o2 o3 o4 o5 : Addr) (u0 : Int32) (u1 : Int32) (u2 : Int32) (u3 : Int32) (u4 : Int32) (c0 : ClassId) (c1 : ClassId) (c2 : ClassId) (h0 : Heap) (n0 : Nat) (Z0 : n0 ≤ h0.size) (E_o0 : Exa Z h0 o0 OwnK0) (F_count_o0 : Fld Z h0 o0 OwnK0 "count" "I" (.int 2)) (F_cursor_o0 : Fld Z h0 o0 OwnK0 "cursor" "I" (.int 1)) (F_ends_o0 : Fld Z h0 o0 OwnK0 "ends" "[I" (.ref o1)) (F_lastOpened_o0 : Fld Z h0 o0 OwnK0 "lastOpened" "I" (.int 2)) (F_segmentEnd_o0 : Fld Z h0 o0 OwnK0 "segmentEnd" "[I" (.ref o2)) (F_segmentFirst_o0 : Fld Z h0 o0 OwnK0 "segmentFirst" "[I" (.ref o3)) (F_segmentLimit_o0 : Fld Z h0 o0 OwnK0 "segmentLimit" "[I" (.ref o4)) (F_segments_o0 : Fld Z h0 o0 OwnK0 "segments" "I" (.int 1)) (F_starts_o0 : Fld Z h0 o0 OwnK0 "starts" "[I" (.ref o5)) (V_o2 : Arv Z h0 o2 c0 .int (8 : Int32) [(.int u2), (.int 0), (.int 0), (.int 0), (.int 0), (.int 0), (.int 0), (.int 0)] (.int 0)) (V_o3 : Arv Z h0 o3 c1 .int (8 : Int32) [(.int 0), (.int 0), (.int 0), (.int 0), (.int 0), (.int 0), (.int 0), (.int 0)] (.int 0)) (V_o5 : Arv Z h0 o5 c2 .int (8 : Int32) [(.int u3), (.int u4), (.int u0), (.int 0), (.int 0), (.int 0), (.int 0), (.int 0)] (.int 0)) (ne_o0_o1 : o0 ≠ o1) (ne_o0_o2 : o0 ≠ o2) (ne_o0_o3 : o0 ≠ o3) (ne_o0_o4 : o0 ≠ o4) (ne_o0_o5 : o0 ≠ o5) (g_o0 : n0 ≤ o0) (hq0 : ¬ (u0 < u3)) (hq1 : u0 < u2) (hq2 : u3 < u0) (hq3 : u4 < u0) :
    OwnC l Z (⟨OwnK0, "find", "(II)I"⟩ : MethodName) prog_48_method_2_code 5 (some .int) ws ({ frames := 1, cells := 0, slots := 0, locals := 15 } : Room) #[(.ref o0), (.int u0), (.int u1)] h0 (fun v h L => v = some (.int (-1)) ∧ Fr n0 L ∧ Keep h0 h [o0] ∧ Fld Z h o0 OwnK0 "count" "I" (.int 2) ∧ Fld Z h o0 OwnK0 "ends" "[I" (.ref o1) ∧ Fld Z h o0 OwnK0 "lastOpened" "I" (.int 2) ∧ Fld Z h o0 OwnK0 "segmentEnd" "[I" (.ref o2) ∧ Fld Z h o0 OwnK0 "segmentFirst" "[I" (.ref o3) ∧ Fld Z h o0 OwnK0 "segmentLimit" "[I" (.ref o4) ∧ Fld Z h o0 OwnK0 "segments" "I" (.int 1) ∧ Fld Z h o0 OwnK0 "starts" "[I" (.ref o5) ∧ Fld Z h o0 OwnK0 "cursor" "I" (.int 2)) := by
  refine own_entry pf_com_example_wirelens_wirelens_wire_GroupEnds_find__II_I (fun m => ef_sp15 m o0 u0 u1) ?_
  intro p e s m below meth c T0 X0 hC e0
  obtain ⟨hx, hby, hml, hown, hnm, hret, hlk, hZ⟩ := hC
  have N0 := Fr.nil n0
  have K0 := Keep.refl h0 [o0]
  refine own_go T0 m 1 #[rv o0, iv u0, iv u1, .unset, .unset] [(.ref o0)] (fun t k => XS.aloadN X0.here hx rfl (hb hby d7_0) rfl rfl k) ?_
  obtain ⟨T1, X1, e1, st1⟩ := getF X0 hx hZ hown (host := "") (Or.inl (own_w hw 28 rfl)) Via.refl e0 F_segments_o0 (g := (mkF m 1 #[rv o0, iv u0, iv u1, .unset, .unset] [(.ref o0)])) rfl rfl (hb hby d7_1)
  refine own_go T1 m 4 #[rv o0, iv u0, iv u1, .unset, .unset] [(.int 1)] (st1) ?_
  refine own_go T1 m 7 #[rv o0, iv u0, iv u1, .unset, .unset] [] (fun t k => XS.ifNo X1.here hx rfl (hb hby d7_4) rfl ((if0 _ _).trans (tlt (by decide)).2.2.2) k) ?_
  refine own_go T1 m 8 #[rv o0, iv u0, iv u1, .unset, .unset] [(.ref o0)] (fun t k => XS.aloadN X1.here hx rfl (hb hby d7_7) rfl rfl k) ?_
  refine own_go T1 m 9 #[rv o0, iv u0, iv u1, .unset, .unset] [(.int u0), (.ref o0)] (fun t k => XS.iloadN X1.here hx rfl (hb hby d7_8) rfl k) ?_
  obtain ⟨_, T2, L2, X2, ⟨rfl, e2, rfl⟩, st2⟩ := own_private X1 hx hZ (y := (⟨OwnK0, "newestCovers", "(I)Z"⟩ : MethodName)) hown (own_w hw 54 rfl) (own_w hw 55 rfl) (own_w hw 56 rfl) (own_w hw 2 rfl) (own_w hw 3 rfl) (own_w hw 57 rfl) (by decide) (sp16 l Z a0 hw [] o0 o2 o3 o5 u0 u2 u3 u4 c0 c1 c2 h0 n0 Z0 F_segmentEnd_o0 F_segmentFirst_o0 F_segments_o0 F_starts_o0 V_o2 V_o3 V_o5 hq0 hq1) e1 E_o0 0 (argsL := [(.int u0)]) (rest := []) (Ls := #[rv o0, iv u0, iv u1, .unset, .unset]) (by rw [hml]; rfl) (lenOf pd__I_Z rfl) rfl rfl (Nat.le_of_eq rfl) (hb hby d7_9) (by decide) (by decide) (by decide) (by decide)
  replace X2 := own_nil X2
  refine own_go T2 m 12 #[rv o0, iv u0, iv u1, .unset, .unset] [(.int 1)] (st2) ?_
  refine own_go T2 m 46 #[rv o0, iv u0, iv u1, .unset, .unset] [] (fun t k => XS.ifYes X2.here hx rfl (pc0 := 12) (pc' := 46) rfl (hb hby d7_12) rfl ((if0 _ _).trans (feq (by decide)).2) (by decide) (by decide) k) ?_
  refine own_go T2 m 47 #[rv o0, iv u0, iv u1, .unset, .unset] [(.ref o0)] (fun t k => XS.aloadN X2.here hx rfl (hb hby d7_46) rfl rfl k) ?_
  obtain ⟨T3, X3, e3, st3⟩ := getF X2 hx hZ hown (host := "") (Or.inl (own_w hw 28 rfl)) Via.refl e2 F_segments_o0 (g := (mkF m 47 #[rv o0, iv u0, iv u1, .unset, .unset] [(.ref o0)])) rfl rfl (hb hby d7_47)
  refine own_go T3 m 50 #[rv o0, iv u0, iv u1, .unset, .unset] [(.int 1)] (st3) ?_
  refine own_go T3 m 57 #[rv o0, iv u0, iv u1, .unset, .unset] [] (fun t k => XS.ifYes X3.here hx rfl (pc0 := 50) (pc' := 57) rfl (hb hby d7_50) rfl ((if0 _ _).trans (feq (by decide)).2) (by decide) (by decide) k) ?_
  refine own_go T3 m 58 #[rv o0, iv u0, iv u1, .unset, .unset] [(.ref o0)] (fun t k => XS.aloadN X3.here hx rfl (hb hby d7_57) rfl rfl k) ?_
  refine own_go T3 m 59 #[rv o0, iv u0, iv u1, .unset, .unset] [(.int u0), (.ref o0)] (fun t k => XS.iloadN X3.here hx rfl (hb hby d7_58) rfl k) ?_
  obtain ⟨_, T4, L4, X4, ⟨rfl, Nq4, Kq4, fq0_4, fq1_4, fq2_4, fq3_4, fq4_4, fq5_4, fq6_4, fq7_4, fq8_4⟩, st4⟩ := own_private X3 hx hZ (y := (⟨OwnK0, "search", "(I)I"⟩ : MethodName)) hown (own_w hw 58 rfl) (own_w hw 59 rfl) (own_w hw 60 rfl) (own_w hw 2 rfl) (own_w hw 3 rfl) (own_w hw 61 rfl) (by decide) (sp17 l Z a0 hw [] o0 o1 o2 o3 o4 o5 u0 u3 u4 c1 c2 h0 n0 Z0 E_o0 F_count_o0 F_cursor_o0 F_ends_o0 F_lastOpened_o0 F_segmentEnd_o0 F_segmentFirst_o0 F_segmentLimit_o0 F_segments_o0 F_starts_o0 V_o3 V_o5 ne_o0_o1 ne_o0_o2 ne_o0_o3 ne_o0_o4 ne_o0_o5 g_o0 hq2 hq3) e3 E_o0 0 (argsL := [(.int u0)]) (rest := []) (Ls := #[rv o0, iv u0, iv u1, .unset, .unset]) (by rw [hml]; rfl) (lenOf pd__I_I rfl) rfl rfl (Nat.le_of_eq rfl) (hb hby d7_59) (by decide) (by decide) (by decide) (by decide)
  have N4 := Fr.app N0 Nq4
  have cf5 := E_o0.keep Kq4
  have cf6 := V_o2.keep Kq4 (ninS (Ne.symm ne_o0_o2) nin0)
  have cf7 := V_o3.keep Kq4 (ninS (Ne.symm ne_o0_o3) nin0)
  have cf8 := V_o5.keep Kq4 (ninS (Ne.symm ne_o0_o5) nin0)
  have Z_4 : n0 ≤ T4.heap.size := Nat.le_trans Z0 Kq4.1
  have K_4 : Keep h0 T4.heap [o0] := K0.trans Kq4 (allS (own_i 0 rfl) all0)
  refine own_go T4 m 62 #[rv o0, iv u0, iv u1, .unset, .unset] [(.int (-1))] (st4) ?_
  refine own_go T4 m 63 #[rv o0, iv u0, iv u1, iv (-1), .unset] [] (fun t k => XS.istoreN X4.here hx rfl (hb hby d7_62) rfl rfl k) ?_
  refine own_go T4 m 64 #[rv o0, iv u0, iv u1, iv (-1), .unset] [(.int (-1))] (fun t k => XS.iloadN X4.here hx rfl (hb hby d7_63) rfl k) ?_
  refine own_go T4 m 67 #[rv o0, iv u0, iv u1, iv (-1), .unset] [] (fun t k => XS.ifNo X4.here hx rfl (hb hby d7_64) rfl ((if0 _ _).trans (tlt (by decide)).2.1) k) ?_
  refine own_go T4 m 68 #[rv o0, iv u0, iv u1, iv (-1), .unset] [(.int (-1))] (fun t k => XS.iconst X4.here hx rfl (hb hby d7_67) k) ?_
  refine own_go T4 m 70 #[rv o0, iv u0, iv u1, iv (-1), iv (-1)] [] (fun t k => XS.istore X4.here hx rfl (hb hby d7_68) rfl rfl k) ?_
  refine own_go T4 m 113 #[rv o0, iv u0, iv u1, iv (-1), iv (-1)] [] (fun t k => XS.goto X4.here hx rfl (pc0 := 70) (pc' := 113) rfl (hb hby d7_70) (by decide) (by decide) k) ?_
  refine own_go T4 m 115 #[rv o0, iv u0, iv u1, iv (-1), iv (-1)] [(.int (-1))] (fun t k => XS.iload X4.here hx rfl (hb hby d7_113) rfl k) ?_
  refine own_retI X4 hx hlk hret (hb hby d7_115) (by decide) (by decide) ?_
  exact ⟨rfl, N4, K_4, fq0_4, fq1_4, fq2_4, fq3_4, fq4_4, fq5_4, fq6_4, fq7_4, fq8_4⟩
theorem own_db18 (t0 t1 t2 t3 t4 t5 t6 t7 t8 t9 : Int32) (h0 : ¬ (t0 < (0 : Int32))) (h1 : t0 < t1) (h2 : t1 < t2) (h3 : ¬ (t3 < t2)) (h4 : t3 < t4) (h5 : t4 < t5) (h6 : t6 < t7) (h7 : t8 < t9) (h8 : t6 < (64 : Int32)) (h9 : t9 < (64 : Int32)) (h10 : ¬ (t7 < (64 : Int32))) : t8 < (64 : Int32) := by
  simp only [Int32.lt_iff_toInt_lt, ← Int32.toInt_inj, Int32.reduceToInt] at *
  omega
theorem ef_sp18 (m : MethodId) (q0 : Addr) (q1 : Int32) (q2 : Int32) : entryFrame m #[(.ref q0), (.int q1), (.int q2)] 6 = mkF m 0 #[rv q0, iv q1, iv q2, .unset, .unset, .unset] [] := by first | (simp [entryFrame, mkF, argsToLocals, Value.category]; done) | rfl
set_option maxRecDepth 65536 in
set_option maxHeartbeats 40000000 in
theorem sp18 (l : Launch) (Z : State) (a0 : Array Value) (hw : ∀ d ∈ tables_1, d.before a0 Z = true) (ws : List Jvm.Cond) (o0 o1 o2 o3 : Addr) (u0 : Int32) (u1 : Int32) (u2 : Int32) (u3 : Int32) (c0 : ClassId) (c1 : ClassId) (c2 : ClassId) (h0 : Heap) (n0 : Nat) (Z0 : n0 ≤ h0.size) (F_ends_o0 : Fld Z h0 o0 OwnK0 "ends" "[I" (.ref o1)) (F_segmentFirst_o0 : Fld Z h0 o0 OwnK0 "segmentFirst" "[I" (.ref o2)) (F_segments_o0 : Fld Z h0 o0 OwnK0 "segments" "I" (.int 1)) (F_starts_o0 : Fld Z h0 o0 OwnK0 "starts" "[I" (.ref o3)) (V_o1 : Arv Z h0 o1 c0 .int (8 : Int32) [(.int (-2)), (.int (-2)), (.int (-2)), (.int 0), (.int 0), (.int 0), (.int 0), (.int 0)] (.int 0)) (V_o2 : Arv Z h0 o2 c1 .int (8 : Int32) [(.int 0), (.int 0), (.int 0), (.int 0), (.int 0), (.int 0), (.int 0), (.int 0)] (.int 0)) (V_o3 : Arv Z h0 o3 c2 .int (8 : Int32) [(.int u1), (.int u2), (.int u3), (.int 0), (.int 0), (.int 0), (.int 0), (.int 0)] (.int 0)) (ne_o0_o1 : o0 ≠ o1) (ne_o1_o2 : o1 ≠ o2) (ne_o1_o3 : o1 ≠ o3) (g_o1 : n0 ≤ o1) (hq0 : ¬ ((u0 - u2) < (64 : Int32))) (hq1 : (u2 - u1) < (64 : Int32)) :
    OwnC l Z (⟨OwnK0, "closed", "(II)V"⟩ : MethodName) prog_48_method_7_code 6 none ws ({ frames := 0, cells := 0, slots := 0, locals := 0 } : Room) #[(.ref o0), (.int 1), (.int u0)] h0 (fun v h L => v = none ∧ Fr n0 L ∧ Keep h0 h [o1] ∧ Arv Z h o1 c0 .int (8 : Int32) [(.int (-2)), (.int u0), (.int (-2)), (.int 0), (.int 0), (.int 0), (.int 0), (.int 0)] (.int 0)) := by
  refine own_entry pf_com_example_wirelens_wirelens_wire_GroupEnds_closed__II_V (fun m => ef_sp18 m o0 (1 : Int32) u0) ?_
  intro p e s m below meth c T0 X0 hC e0
  obtain ⟨hx, hby, hml, hown, hnm, hret, hlk, hZ⟩ := hC
  have N0 := Fr.nil n0
  have K0 := Keep.refl h0 [o1]
  refine own_go T0 m 1 #[rv o0, iv 1, iv u0, .unset, .unset, .unset] [(.ref o0)] (fun t k => XS.aloadN X0.here hx rfl (hb hby d5_0) rfl rfl k) ?_
  obtain ⟨T1, X1, e1, st1⟩ := getF X0 hx hZ hown (host := "") (Or.inl (own_w hw 11 rfl)) Via.refl e0 F_starts_o0 (g := (mkF m 1 #[rv o0, iv 1, iv u0, .unset, .unset, .unset] [(.ref o0)])) rfl rfl (hb hby d5_1)
  refine own_go T1 m 4 #[rv o0, iv 1, iv u0, .unset, .unset, .unset] [(.ref o3)] (st1) ?_
  refine own_go T1 m 5 #[rv o0, iv 1, iv u0, .unset, .unset, .unset] [(.ref o0), (.ref o3)] (fun t k => XS.aloadN X1.here hx rfl (hb hby d5_4) rfl rfl k) ?_
  obtain ⟨T2, X2, e2, st2⟩ := getF X1 hx hZ hown (host := "") (Or.inl (own_w hw 15 rfl)) Via.refl e1 F_segmentFirst_o0 (g := (mkF m 5 #[rv o0, iv 1, iv u0, .unset, .unset, .unset] [(.ref o0), (.ref o3)])) rfl rfl (hb hby d5_5)
  refine own_go T2 m 8 #[rv o0, iv 1, iv u0, .unset, .unset, .unset] [(.ref o2), (.ref o3)] (st2) ?_
  refine own_go T2 m 9 #[rv o0, iv 1, iv u0, .unset, .unset, .unset] [(.ref o0), (.ref o2), (.ref o3)] (fun t k => XS.aloadN X2.here hx rfl (hb hby d5_8) rfl rfl k) ?_
  obtain ⟨T3, X3, e3, st3⟩ := getF X2 hx hZ hown (host := "") (Or.inl (own_w hw 28 rfl)) Via.refl e2 F_segments_o0 (g := (mkF m 9 #[rv o0, iv 1, iv u0, .unset, .unset, .unset] [(.ref o0), (.ref o2), (.ref o3)])) rfl rfl (hb hby d5_9)
  refine own_go T3 m 12 #[rv o0, iv 1, iv u0, .unset, .unset, .unset] [(.int 1), (.ref o2), (.ref o3)] (st3) ?_
  refine own_go T3 m 13 #[rv o0, iv 1, iv u0, .unset, .unset, .unset] [(.int 1), (.int 1), (.ref o2), (.ref o3)] (fun t k => XS.iconst X3.here hx rfl (hb hby d5_12) k) ?_
  refine own_go T3 m 14 #[rv o0, iv 1, iv u0, .unset, .unset, .unset] [(.int ((1 : Int32) - (1 : Int32))), (.ref o2), (.ref o3)] (fun t k => XS.isub X3.here hx rfl (hb hby d5_13) rfl k) ?_
  rw [show ((1 : Int32) - (1 : Int32)) = (0 : Int32) from by decide]
  refine own_go T3 m 15 #[rv o0, iv 1, iv u0, .unset, .unset, .unset] [(.int 0), (.ref o3)] (own_iaload X3 hx hZ e3 V_o2 (j := (0 : Int32)) ⟨by decide, by decide⟩ rfl (hb hby d5_14)) ?_
  refine own_go T3 m 16 #[rv o0, iv 1, iv u0, .unset, .unset, .unset] [(.int u1)] (own_iaload X3 hx hZ e3 V_o3 (j := (0 : Int32)) ⟨by decide, by decide⟩ rfl (hb hby d5_15)) ?_
  refine own_go T3 m 17 #[rv o0, iv 1, iv u0, iv u1, .unset, .unset] [] (fun t k => XS.istoreN X3.here hx rfl (hb hby d5_16) rfl rfl k) ?_
  refine own_go T3 m 18 #[rv o0, iv 1, iv u0, iv u1, .unset, .unset] [(.int u0)] (fun t k => XS.iloadN X3.here hx rfl (hb hby d5_17) rfl k) ?_
  refine own_go T3 m 19 #[rv o0, iv 1, iv u0, iv u1, .unset, .unset] [(.ref o0), (.int u0)] (fun t k => XS.aloadN X3.here hx rfl (hb hby d5_18) rfl rfl k) ?_
  obtain ⟨T6, X6, e6, st6⟩ := getF X3 hx hZ hown (host := "") (Or.inl (own_w hw 11 rfl)) Via.refl e3 F_starts_o0 (g := (mkF m 19 #[rv o0, iv 1, iv u0, iv u1, .unset, .unset] [(.ref o0), (.int u0)])) rfl rfl (hb hby d5_19)
  refine own_go T6 m 22 #[rv o0, iv 1, iv u0, iv u1, .unset, .unset] [(.ref o3), (.int u0)] (st6) ?_
  refine own_go T6 m 23 #[rv o0, iv 1, iv u0, iv u1, .unset, .unset] [(.int 1), (.ref o3), (.int u0)] (fun t k => XS.iloadN X6.here hx rfl (hb hby d5_22) rfl k) ?_
  refine own_go T6 m 24 #[rv o0, iv 1, iv u0, iv u1, .unset, .unset] [(.int u2), (.int u0)] (own_iaload X6 hx hZ e6 V_o3 (j := (1 : Int32)) ⟨by decide, by decide⟩ rfl (hb hby d5_23)) ?_
  refine own_go T6 m 25 #[rv o0, iv 1, iv u0, iv u1, .unset, .unset] [(.int (u0 - u2))] (fun t k => XS.isub X6.here hx rfl (hb hby d5_24) rfl k) ?_
  refine own_go T6 m 27 #[rv o0, iv 1, iv u0, iv u1, .unset, .unset] [(.int 64), (.int (u0 - u2))] (fun t k => XS.bipush X6.here hx rfl (hb hby d5_25) k) ?_
  refine own_go T6 m 34 #[rv o0, iv 1, iv u0, iv u1, .unset, .unset] [] (fun t k => XS.icmpYes X6.here hx rfl (pc0 := 27) (pc' := 34) rfl (hb hby d5_27) rfl (flt hq0).2.1 (by decide) (by decide) k) ?_
  refine own_go T6 m 35 #[rv o0, iv 1, iv u0, iv u1, .unset, .unset] [(.int 0)] (fun t k => XS.iconst X6.here hx rfl (hb hby d5_34) k) ?_
  refine own_go T6 m 37 #[rv o0, iv 1, iv u0, iv u1, iv 0, .unset] [] (fun t k => XS.istore X6.here hx rfl (hb hby d5_35) rfl rfl k) ?_
  refine own_go T6 m 38 #[rv o0, iv 1, iv u0, iv u1, iv 0, .unset] [(.ref o0)] (fun t k => XS.aloadN X6.here hx rfl (hb hby d5_37) rfl rfl k) ?_
  obtain ⟨T8, X8, e8, st8⟩ := getF X6 hx hZ hown (host := "") (Or.inl (own_w hw 11 rfl)) Via.refl e6 F_starts_o0 (g := (mkF m 38 #[rv o0, iv 1, iv u0, iv u1, iv 0, .unset] [(.ref o0)])) rfl rfl (hb hby d5_38)
  refine own_go T8 m 41 #[rv o0, iv 1, iv u0, iv u1, iv 0, .unset] [(.ref o3)] (st8) ?_
  refine own_go T8 m 42 #[rv o0, iv 1, iv u0, iv u1, iv 0, .unset] [(.int 1), (.ref o3)] (fun t k => XS.iloadN X8.here hx rfl (hb hby d5_41) rfl k) ?_
  refine own_go T8 m 43 #[rv o0, iv 1, iv u0, iv u1, iv 0, .unset] [(.int u2)] (own_iaload X8 hx hZ e8 V_o3 (j := (1 : Int32)) ⟨by decide, by decide⟩ rfl (hb hby d5_42)) ?_
  refine own_go T8 m 44 #[rv o0, iv 1, iv u0, iv u1, iv 0, .unset] [(.int u1), (.int u2)] (fun t k => XS.iloadN X8.here hx rfl (hb hby d5_43) rfl k) ?_
  refine own_go T8 m 45 #[rv o0, iv 1, iv u0, iv u1, iv 0, .unset] [(.int (u2 - u1))] (fun t k => XS.isub X8.here hx rfl (hb hby d5_44) rfl k) ?_
  refine own_go T8 m 47 #[rv o0, iv 1, iv u0, iv u1, iv 0, .unset] [(.int 64), (.int (u2 - u1))] (fun t k => XS.bipush X8.here hx rfl (hb hby d5_45) k) ?_
  refine own_go T8 m 54 #[rv o0, iv 1, iv u0, iv u1, iv 0, .unset] [] (fun t k => XS.icmpYes X8.here hx rfl (pc0 := 47) (pc' := 54) rfl (hb hby d5_47) rfl (tlt hq1).1 (by decide) (by decide) k) ?_
  refine own_go T8 m 55 #[rv o0, iv 1, iv u0, iv u1, iv 0, .unset] [(.int 0)] (fun t k => XS.iconst X8.here hx rfl (hb hby d5_54) k) ?_
  refine own_go T8 m 57 #[rv o0, iv 1, iv u0, iv u1, iv 0, iv 0] [] (fun t k => XS.istore X8.here hx rfl (hb hby d5_55) rfl rfl k) ?_
  refine own_go T8 m 59 #[rv o0, iv 1, iv u0, iv u1, iv 0, iv 0] [(.int 0)] (fun t k => XS.iload X8.here hx rfl (hb hby d5_57) rfl k) ?_
  refine own_go T8 m 88 #[rv o0, iv 1, iv u0, iv u1, iv 0, iv 0] [] (fun t k => XS.ifYes X8.here hx rfl (pc0 := 59) (pc' := 88) rfl (hb hby d5_59) rfl ((if0 _ _).trans (teq (by decide)).1) (by decide) (by decide) k) ?_
  refine own_go T8 m 89 #[rv o0, iv 1, iv u0, iv u1, iv 0, iv 0] [(.ref o0)] (fun t k => XS.aloadN X8.here hx rfl (hb hby d5_88) rfl rfl k) ?_
  obtain ⟨T10, X10, e10, st10⟩ := getF X8 hx hZ hown (host := "") (Or.inl (own_w hw 13 rfl)) Via.refl e8 F_ends_o0 (g := (mkF m 89 #[rv o0, iv 1, iv u0, iv u1, iv 0, iv 0] [(.ref o0)])) rfl rfl (hb hby d5_89)
  refine own_go T10 m 92 #[rv o0, iv 1, iv u0, iv u1, iv 0, iv 0] [(.ref o1)] (st10) ?_
  refine own_go T10 m 93 #[rv o0, iv 1, iv u0, iv u1, iv 0, iv 0] [(.int 1), (.ref o1)] (fun t k => XS.iloadN X10.here hx rfl (hb hby d5_92) rfl k) ?_
  refine own_go T10 m 94 #[rv o0, iv 1, iv u0, iv u1, iv 0, iv 0] [(.int u0), (.int 1), (.ref o1)] (fun t k => XS.iloadN X10.here hx rfl (hb hby d5_93) rfl k) ?_
  obtain ⟨T11, h11, X11, e11, W11, V11, st11⟩ := own_iastore X10 hx hZ e10 V_o1 (j := (1 : Int32)) ⟨by decide, by decide⟩ 1 rfl (Nat.le_of_ble_eq_true rfl) (Ls := #[rv o0, iv 1, iv u0, iv u1, iv 0, iv 0]) (rest := []) (x := u0) (hb hby d5_94)
  replace V11 : Arv Z h11 o1 c0 .int (8 : Int32) [(.int (-2)), (.int u0), (.int (-2)), (.int 0), (.int 0), (.int 0), (.int 0), (.int 0)] (.int 0) := V11
  have cf12 := F_ends_o0.other W11 (Or.inl ne_o0_o1)
  have cf13 := F_segmentFirst_o0.other W11 (Or.inl ne_o0_o1)
  have cf14 := F_segments_o0.other W11 (Or.inl ne_o0_o1)
  have cf15 := F_starts_o0.other W11 (Or.inl ne_o0_o1)
  have cf16 := V_o2.other W11 (Ne.symm ne_o1_o2)
  have cf17 := V_o3.other W11 (Ne.symm ne_o1_o3)
  have Z_11 : n0 ≤ h11.size := Nat.le_trans Z0 (Keep.of_wr W11).1
  have K_11 : Keep h0 h11 [o1] := K0.wr W11 (own_i 0 rfl)
  have N11 := Fr.snoc X11 N0 g_o1
  refine own_go T11 m 95 #[rv o0, iv 1, iv u0, iv u1, iv 0, iv 0] [] (st11) ?_
  refine own_retV X11 hx hlk hret (hb hby d5_95) (by decide) (by decide) ?_
  rw [e11]
  exact ⟨rfl, N11, K_11, V11⟩
theorem own_db20 (t0 t1 t2 t3 t4 t5 t6 t7 t8 t9 : Int32) (h0 : ¬ (t0 < (0 : Int32))) (h1 : t0 < t1) (h2 : t1 < t2) (h3 : ¬ (t3 < t2)) (h4 : t3 < t4) (h5 : t4 < t5) (h6 : t6 < t7) (h7 : t8 < t9) (h8 : t6 < (64 : Int32)) (h9 : t9 < (64 : Int32)) (h10 : ¬ (t7 < (64 : Int32))) : ¬ (t1 < t0) := by
  simp only [Int32.lt_iff_toInt_lt, ← Int32.toInt_inj, Int32.reduceToInt] at *
  omega
theorem own_db21 (t0 t1 t2 t3 t4 t5 t6 t7 t8 t9 : Int32) (h0 : ¬ (t0 < (0 : Int32))) (h1 : t0 < t1) (h2 : t1 < t2) (h3 : ¬ (t3 < t2)) (h4 : t3 < t4) (h5 : t4 < t5) (h6 : t6 < t7) (h7 : t8 < t9) (h8 : t6 < (64 : Int32)) (h9 : t9 < (64 : Int32)) (h10 : ¬ (t7 < (64 : Int32))) : t1 < t5 := by
  simp only [Int32.lt_iff_toInt_lt, ← Int32.toInt_inj, Int32.reduceToInt] at *
  omega
theorem own_db22 (t0 t1 t2 t3 t4 t5 t6 t7 t8 t9 : Int32) (h0 : ¬ (t0 < (0 : Int32))) (h1 : t0 < t1) (h2 : t1 < t2) (h3 : ¬ (t3 < t2)) (h4 : t3 < t4) (h5 : t4 < t5) (h6 : t6 < t7) (h7 : t8 < t9) (h8 : t6 < (64 : Int32)) (h9 : t9 < (64 : Int32)) (h10 : ¬ (t7 < (64 : Int32))) : ¬ (t1 < t1) := by
  simp only [Int32.lt_iff_toInt_lt, ← Int32.toInt_inj, Int32.reduceToInt] at *
  omega
theorem own_db23 (t0 t1 t2 t3 t4 t5 t6 t7 t8 t9 : Int32) (h0 : ¬ (t0 < (0 : Int32))) (h1 : t0 < t1) (h2 : t1 < t2) (h3 : ¬ (t3 < t2)) (h4 : t3 < t4) (h5 : t4 < t5) (h6 : t6 < t7) (h7 : t8 < t9) (h8 : t6 < (64 : Int32)) (h9 : t9 < (64 : Int32)) (h10 : ¬ (t7 < (64 : Int32))) : ¬ (t4 = (-2 : Int32)) := by
  simp only [Int32.lt_iff_toInt_lt, ← Int32.toInt_inj, Int32.reduceToInt] at *
  omega
theorem own_db28 (t0 t1 t2 t3 t4 t5 t6 t7 t8 t9 : Int32) (h0 : ¬ (t0 < (0 : Int32))) (h1 : t0 < t1) (h2 : t1 < t2) (h3 : ¬ (t3 < t2)) (h4 : t3 < t4) (h5 : t4 < t5) (h6 : t6 < t7) (h7 : t8 < t9) (h8 : t6 < (64 : Int32)) (h9 : t9 < (64 : Int32)) (h10 : ¬ (t7 < (64 : Int32))) : ¬ (t2 < t0) := by
  simp only [Int32.lt_iff_toInt_lt, ← Int32.toInt_inj, Int32.reduceToInt] at *
  omega
theorem own_db29 (t0 t1 t2 t3 t4 t5 t6 t7 t8 t9 : Int32) (h0 : ¬ (t0 < (0 : Int32))) (h1 : t0 < t1) (h2 : t1 < t2) (h3 : ¬ (t3 < t2)) (h4 : t3 < t4) (h5 : t4 < t5) (h6 : t6 < t7) (h7 : t8 < t9) (h8 : t6 < (64 : Int32)) (h9 : t9 < (64 : Int32)) (h10 : ¬ (t7 < (64 : Int32))) : t2 < t5 := by
  simp only [Int32.lt_iff_toInt_lt, ← Int32.toInt_inj, Int32.reduceToInt] at *
  omega
theorem own_db30 (t0 t1 t2 t3 t4 t5 t6 t7 t8 t9 : Int32) (h0 : ¬ (t0 < (0 : Int32))) (h1 : t0 < t1) (h2 : t1 < t2) (h3 : ¬ (t3 < t2)) (h4 : t3 < t4) (h5 : t4 < t5) (h6 : t6 < t7) (h7 : t8 < t9) (h8 : t6 < (64 : Int32)) (h9 : t9 < (64 : Int32)) (h10 : ¬ (t7 < (64 : Int32))) : t0 < t2 := by
  simp only [Int32.lt_iff_toInt_lt, ← Int32.toInt_inj, Int32.reduceToInt] at *
  omega
theorem ef_sp19 (m : MethodId) (q0 : Addr) (q1 : Int32) (q2 : Int32) : entryFrame m #[(.ref q0), (.int q1), (.int q2)] 6 = mkF m 0 #[rv q0, iv q1, iv q2, .unset, .unset, .unset] [] := by first | (simp [entryFrame, mkF, argsToLocals, Value.category]; done) | rfl
set_option maxRecDepth 65536 in
set_option maxHeartbeats 40000000 in
theorem sp19 (l : Launch) (Z : State) (a0 : Array Value) (hw : ∀ d ∈ tables_1, d.before a0 Z = true) (ws : List Jvm.Cond) (o0 o1 o2 o3 o4 o5 : Addr) (u0 : Int32) (u1 : Int32) (u2 : Int32) (u3 : Int32) (c0 : ClassId) (c1 : ClassId) (h0 : Heap) (n0 : Nat) (Z0 : n0 ≤ h0.size) (E_o0 : Exa Z h0 o0 OwnK0) (F_count_o0 : Fld Z h0 o0 OwnK0 "count" "I" (.int 3)) (F_cursor_o0 : Fld Z h0 o0 OwnK0 "cursor" "I" (.int (-1))) (F_ends_o0 : Fld Z h0 o0 OwnK0 "ends" "[I" (.ref o1)) (F_lastOpened_o0 : Fld Z h0 o0 OwnK0 "lastOpened" "I" (.int 2)) (F_segmentEnd_o0 : Fld Z h0 o0 OwnK0 "segmentEnd" "[I" (.ref o2)) (F_segmentFirst_o0 : Fld Z h0 o0 OwnK0 "segmentFirst" "[I" (.ref o3)) (F_segmentLimit_o0 : Fld Z h0 o0 OwnK0 "segmentLimit" "[I" (.ref o4)) (F_segments_o0 : Fld Z h0 o0 OwnK0 "segments" "I" (.int 1)) (F_starts_o0 : Fld Z h0 o0 OwnK0 "starts" "[I" (.ref o5)) (V_o3 : Arv Z h0 o3 c0 .int (8 : Int32) [(.int 0), (.int 0), (.int 0), (.int 0), (.int 0), (.int 0), (.int 0), (.int 0)] (.int 0)) (V_o5 : Arv Z h0 o5 c1 .int (8 : Int32) [(.int u1), (.int u2), (.int u3), (.int 0), (.int 0), (.int 0), (.int 0), (.int 0)] (.int 0)) (ne_o0_o1 : o0 ≠ o1) (ne_o0_o2 : o0 ≠ o2) (ne_o0_o3 : o0 ≠ o3) (ne_o0_o4 : o0 ≠ o4) (ne_o0_o5 : o0 ≠ o5) (g_o0 : n0 ≤ o0) (hq0 : (u0 - u3) < (64 : Int32)) (hq1 : ¬ ((u3 - u1) < (64 : Int32))) :
    OwnC l Z (⟨OwnK0, "closed", "(II)V"⟩ : MethodName) prog_48_method_7_code 6 none ws ({ frames := 0, cells := 0, slots := 0, locals := 0 } : Room) #[(.ref o0), (.int 2), (.int u0)] h0 (fun v h L => v = none ∧ Fr n0 L ∧ Keep h0 h [o0] ∧ Fld Z h o0 OwnK0 "cursor" "I" (.int (-1)) ∧ Fld Z h o0 OwnK0 "ends" "[I" (.ref o1) ∧ Fld Z h o0 OwnK0 "lastOpened" "I" (.int 2) ∧ Fld Z h o0 OwnK0 "segmentEnd" "[I" (.ref o2) ∧ Fld Z h o0 OwnK0 "segmentFirst" "[I" (.ref o3) ∧ Fld Z h o0 OwnK0 "segmentLimit" "[I" (.ref o4) ∧ Fld Z h o0 OwnK0 "segments" "I" (.int 1) ∧ Fld Z h o0 OwnK0 "starts" "[I" (.ref o5) ∧ Fld Z h o0 OwnK0 "count" "I" (.int 2)) := by
  refine own_entry pf_com_example_wirelens_wirelens_wire_GroupEnds_closed__II_V (fun m => ef_sp19 m o0 (2 : Int32) u0) ?_
  intro p e s m below meth c T0 X0 hC e0
  obtain ⟨hx, hby, hml, hown, hnm, hret, hlk, hZ⟩ := hC
  have N0 := Fr.nil n0
  have K0 := Keep.refl h0 [o0]
  refine own_go T0 m 1 #[rv o0, iv 2, iv u0, .unset, .unset, .unset] [(.ref o0)] (fun t k => XS.aloadN X0.here hx rfl (hb hby d5_0) rfl rfl k) ?_
  obtain ⟨T1, X1, e1, st1⟩ := getF X0 hx hZ hown (host := "") (Or.inl (own_w hw 11 rfl)) Via.refl e0 F_starts_o0 (g := (mkF m 1 #[rv o0, iv 2, iv u0, .unset, .unset, .unset] [(.ref o0)])) rfl rfl (hb hby d5_1)
  refine own_go T1 m 4 #[rv o0, iv 2, iv u0, .unset, .unset, .unset] [(.ref o5)] (st1) ?_
  refine own_go T1 m 5 #[rv o0, iv 2, iv u0, .unset, .unset, .unset] [(.ref o0), (.ref o5)] (fun t k => XS.aloadN X1.here hx rfl (hb hby d5_4) rfl rfl k) ?_
  obtain ⟨T2, X2, e2, st2⟩ := getF X1 hx hZ hown (host := "") (Or.inl (own_w hw 15 rfl)) Via.refl e1 F_segmentFirst_o0 (g := (mkF m 5 #[rv o0, iv 2, iv u0, .unset, .unset, .unset] [(.ref o0), (.ref o5)])) rfl rfl (hb hby d5_5)
  refine own_go T2 m 8 #[rv o0, iv 2, iv u0, .unset, .unset, .unset] [(.ref o3), (.ref o5)] (st2) ?_
  refine own_go T2 m 9 #[rv o0, iv 2, iv u0, .unset, .unset, .unset] [(.ref o0), (.ref o3), (.ref o5)] (fun t k => XS.aloadN X2.here hx rfl (hb hby d5_8) rfl rfl k) ?_
  obtain ⟨T3, X3, e3, st3⟩ := getF X2 hx hZ hown (host := "") (Or.inl (own_w hw 28 rfl)) Via.refl e2 F_segments_o0 (g := (mkF m 9 #[rv o0, iv 2, iv u0, .unset, .unset, .unset] [(.ref o0), (.ref o3), (.ref o5)])) rfl rfl (hb hby d5_9)
  refine own_go T3 m 12 #[rv o0, iv 2, iv u0, .unset, .unset, .unset] [(.int 1), (.ref o3), (.ref o5)] (st3) ?_
  refine own_go T3 m 13 #[rv o0, iv 2, iv u0, .unset, .unset, .unset] [(.int 1), (.int 1), (.ref o3), (.ref o5)] (fun t k => XS.iconst X3.here hx rfl (hb hby d5_12) k) ?_
  refine own_go T3 m 14 #[rv o0, iv 2, iv u0, .unset, .unset, .unset] [(.int ((1 : Int32) - (1 : Int32))), (.ref o3), (.ref o5)] (fun t k => XS.isub X3.here hx rfl (hb hby d5_13) rfl k) ?_
  rw [show ((1 : Int32) - (1 : Int32)) = (0 : Int32) from by decide]
  refine own_go T3 m 15 #[rv o0, iv 2, iv u0, .unset, .unset, .unset] [(.int 0), (.ref o5)] (own_iaload X3 hx hZ e3 V_o3 (j := (0 : Int32)) ⟨by decide, by decide⟩ rfl (hb hby d5_14)) ?_
  refine own_go T3 m 16 #[rv o0, iv 2, iv u0, .unset, .unset, .unset] [(.int u1)] (own_iaload X3 hx hZ e3 V_o5 (j := (0 : Int32)) ⟨by decide, by decide⟩ rfl (hb hby d5_15)) ?_
  refine own_go T3 m 17 #[rv o0, iv 2, iv u0, iv u1, .unset, .unset] [] (fun t k => XS.istoreN X3.here hx rfl (hb hby d5_16) rfl rfl k) ?_
  refine own_go T3 m 18 #[rv o0, iv 2, iv u0, iv u1, .unset, .unset] [(.int u0)] (fun t k => XS.iloadN X3.here hx rfl (hb hby d5_17) rfl k) ?_
  refine own_go T3 m 19 #[rv o0, iv 2, iv u0, iv u1, .unset, .unset] [(.ref o0), (.int u0)] (fun t k => XS.aloadN X3.here hx rfl (hb hby d5_18) rfl rfl k) ?_
  obtain ⟨T6, X6, e6, st6⟩ := getF X3 hx hZ hown (host := "") (Or.inl (own_w hw 11 rfl)) Via.refl e3 F_starts_o0 (g := (mkF m 19 #[rv o0, iv 2, iv u0, iv u1, .unset, .unset] [(.ref o0), (.int u0)])) rfl rfl (hb hby d5_19)
  refine own_go T6 m 22 #[rv o0, iv 2, iv u0, iv u1, .unset, .unset] [(.ref o5), (.int u0)] (st6) ?_
  refine own_go T6 m 23 #[rv o0, iv 2, iv u0, iv u1, .unset, .unset] [(.int 2), (.ref o5), (.int u0)] (fun t k => XS.iloadN X6.here hx rfl (hb hby d5_22) rfl k) ?_
  refine own_go T6 m 24 #[rv o0, iv 2, iv u0, iv u1, .unset, .unset] [(.int u3), (.int u0)] (own_iaload X6 hx hZ e6 V_o5 (j := (2 : Int32)) ⟨by decide, by decide⟩ rfl (hb hby d5_23)) ?_
  refine own_go T6 m 25 #[rv o0, iv 2, iv u0, iv u1, .unset, .unset] [(.int (u0 - u3))] (fun t k => XS.isub X6.here hx rfl (hb hby d5_24) rfl k) ?_
  refine own_go T6 m 27 #[rv o0, iv 2, iv u0, iv u1, .unset, .unset] [(.int 64), (.int (u0 - u3))] (fun t k => XS.bipush X6.here hx rfl (hb hby d5_25) k) ?_
  refine own_go T6 m 30 #[rv o0, iv 2, iv u0, iv u1, .unset, .unset] [] (fun t k => XS.icmpNo X6.here hx rfl (hb hby d5_27) rfl (tlt hq0).2.1 k) ?_
  refine own_go T6 m 31 #[rv o0, iv 2, iv u0, iv u1, .unset, .unset] [(.int 1)] (fun t k => XS.iconst X6.here hx rfl (hb hby d5_30) k) ?_
  refine own_go T6 m 35 #[rv o0, iv 2, iv u0, iv u1, .unset, .unset] [(.int 1)] (fun t k => XS.goto X6.here hx rfl (pc0 := 31) (pc' := 35) rfl (hb hby d5_31) (by decide) (by decide) k) ?_
  refine own_go T6 m 37 #[rv o0, iv 2, iv u0, iv u1, iv 1, .unset] [] (fun t k => XS.istore X6.here hx rfl (hb hby d5_35) rfl rfl k) ?_
  refine own_go T6 m 38 #[rv o0, iv 2, iv u0, iv u1, iv 1, .unset] [(.ref o0)] (fun t k => XS.aloadN X6.here hx rfl (hb hby d5_37) rfl rfl k) ?_
  obtain ⟨T8, X8, e8, st8⟩ := getF X6 hx hZ hown (host := "") (Or.inl (own_w hw 11 rfl)) Via.refl e6 F_starts_o0 (g := (mkF m 38 #[rv o0, iv 2, iv u0, iv u1, iv 1, .unset] [(.ref o0)])) rfl rfl (hb hby d5_38)
  refine own_go T8 m 41 #[rv o0, iv 2, iv u0, iv u1, iv 1, .unset] [(.ref o5)] (st8) ?_
  refine own_go T8 m 42 #[rv o0, iv 2, iv u0, iv u1, iv 1, .unset] [(.int 2), (.ref o5)] (fun t k => XS.iloadN X8.here hx rfl (hb hby d5_41) rfl k) ?_
  refine own_go T8 m 43 #[rv o0, iv 2, iv u0, iv u1, iv 1, .unset] [(.int u3)] (own_iaload X8 hx hZ e8 V_o5 (j := (2 : Int32)) ⟨by decide, by decide⟩ rfl (hb hby d5_42)) ?_
  refine own_go T8 m 44 #[rv o0, iv 2, iv u0, iv u1, iv 1, .unset] [(.int u1), (.int u3)] (fun t k => XS.iloadN X8.here hx rfl (hb hby d5_43) rfl k) ?_
  refine own_go T8 m 45 #[rv o0, iv 2, iv u0, iv u1, iv 1, .unset] [(.int (u3 - u1))] (fun t k => XS.isub X8.here hx rfl (hb hby d5_44) rfl k) ?_
  refine own_go T8 m 47 #[rv o0, iv 2, iv u0, iv u1, iv 1, .unset] [(.int 64), (.int (u3 - u1))] (fun t k => XS.bipush X8.here hx rfl (hb hby d5_45) k) ?_
  refine own_go T8 m 50 #[rv o0, iv 2, iv u0, iv u1, iv 1, .unset] [] (fun t k => XS.icmpNo X8.here hx rfl (hb hby d5_47) rfl (flt hq1).1 k) ?_
  refine own_go T8 m 51 #[rv o0, iv 2, iv u0, iv u1, iv 1, .unset] [(.int 1)] (fun t k => XS.iconst X8.here hx rfl (hb hby d5_50) k) ?_
  refine own_go T8 m 55 #[rv o0, iv 2, iv u0, iv u1, iv 1, .unset] [(.int 1)] (fun t k => XS.goto X8.here hx rfl (pc0 := 51) (pc' := 55) rfl (hb hby d5_51) (by decide) (by decide) k) ?_
  refine own_go T8 m 57 #[rv o0, iv 2, iv u0, iv u1, iv 1, iv 1] [] (fun t k => XS.istore X8.here hx rfl (hb hby d5_55) rfl rfl k) ?_
  refine own_go T8 m 59 #[rv o0, iv 2, iv u0, iv u1, iv 1, iv 1] [(.int 1)] (fun t k => XS.iload X8.here hx rfl (hb hby d5_57) rfl k) ?_
  refine own_go T8 m 62 #[rv o0, iv 2, iv u0, iv u1, iv 1, iv 1] [] (fun t k => XS.ifNo X8.here hx rfl (hb hby d5_59) rfl ((if0 _ _).trans (feq (by decide)).1) k) ?_
  refine own_go T8 m 63 #[rv o0, iv 2, iv u0, iv u1, iv 1, iv 1] [(.int 2)] (fun t k => XS.iloadN X8.here hx rfl (hb hby d5_62) rfl k) ?_
  refine own_go T8 m 64 #[rv o0, iv 2, iv u0, iv u1, iv 1, iv 1] [(.ref o0), (.int 2)] (fun t k => XS.aloadN X8.here hx rfl (hb hby d5_63) rfl rfl k) ?_
  obtain ⟨T10, X10, e10, st10⟩ := getF X8 hx hZ hown (host := "") (Or.inl (own_w hw 37 rfl)) Via.refl e8 F_lastOpened_o0 (g := (mkF m 64 #[rv o0, iv 2, iv u0, iv u1, iv 1, iv 1] [(.ref o0), (.int 2)])) rfl rfl (hb hby d5_64)
  refine own_go T10 m 67 #[rv o0, iv 2, iv u0, iv u1, iv 1, iv 1] [(.int 2), (.int 2)] (st10) ?_
  refine own_go T10 m 75 #[rv o0, iv 2, iv u0, iv u1, iv 1, iv 1] [] (fun t k => XS.icmpYes X10.here hx rfl (pc0 := 67) (pc' := 75) rfl (hb hby d5_67) rfl (teq (by decide)).1 (by decide) (by decide) k) ?_
  refine own_go T10 m 76 #[rv o0, iv 2, iv u0, iv u1, iv 1, iv 1] [(.ref o0)] (fun t k => XS.aloadN X10.here hx rfl (hb hby d5_75) rfl rfl k) ?_
  refine own_go T10 m 77 #[rv o0, iv 2, iv u0, iv u1, iv 1, iv 1] [(.ref o0), (.ref o0)] (fun t k => XS.dup X10.here hx rfl (hb hby d5_76) rfl rfl k) ?_
  obtain ⟨T11, X11, e11, st11⟩ := getF X10 hx hZ hown (host := "") (Or.inl (own_w hw 30 rfl)) Via.refl e10 F_count_o0 (g := (mkF m 77 #[rv o0, iv 2, iv u0, iv u1, iv 1, iv 1] [(.ref o0), (.ref o0)])) rfl rfl (hb hby d5_77)
  refine own_go T11 m 80 #[rv o0, iv 2, iv u0, iv u1, iv 1, iv 1] [(.int 3), (.ref o0)] (st11) ?_
  refine own_go T11 m 81 #[rv o0, iv 2, iv u0, iv u1, iv 1, iv 1] [(.int 1), (.int 3), (.ref o0)] (fun t k => XS.iconst X11.here hx rfl (hb hby d5_80) k) ?_
  refine own_go T11 m 82 #[rv o0, iv 2, iv u0, iv u1, iv 1, iv 1] [(.int ((3 : Int32) - (1 : Int32))), (.ref o0)] (fun t k => XS.isub X11.here hx rfl (hb hby d5_81) rfl k) ?_
  rw [show ((3 : Int32) - (1 : Int32)) = (2 : Int32) from by decide]
  obtain ⟨T12, h12, X12, e12, W12, st12⟩ := putF X11 hx hZ hown (host := "") (Or.inl (own_w hw 30 rfl)) Via.refl e11 F_count_o0 E_o0 (Or.inl (own_w hw 31 rfl)) (own_w hw 2 rfl) (ty := .int) (by decide) rfl rfl (g := (mkF m 82 #[rv o0, iv 2, iv u0, iv u1, iv 1, iv 1] [(.int 2), (.ref o0)])) rfl rfl (hb hby d5_82)
  have F12 := F_count_o0.same W12
  have cf13 := E_o0.wr W12
  have cf14 := F_cursor_o0.other W12 (Or.inr (slot_ne (Or.inl (own_w hw 22 rfl)) (Or.inl (own_w hw 31 rfl)) (by decide) (t := .int) (t' := .int) (by decide) (by decide)))
  have cf15 := F_ends_o0.other W12 (Or.inr (slot_ne (Or.inl (own_w hw 14 rfl)) (Or.inl (own_w hw 31 rfl)) (by decide) (t := (.array .int)) (t' := .int) (by decide) (by decide)))
  have cf16 := F_lastOpened_o0.other W12 (Or.inr (slot_ne (Or.inl (own_w hw 38 rfl)) (Or.inl (own_w hw 31 rfl)) (by decide) (t := .int) (t' := .int) (by decide) (by decide)))
  have cf17 := F_segmentEnd_o0.other W12 (Or.inr (slot_ne (Or.inl (own_w hw 18 rfl)) (Or.inl (own_w hw 31 rfl)) (by decide) (t := (.array .int)) (t' := .int) (by decide) (by decide)))
  have cf18 := F_segmentFirst_o0.other W12 (Or.inr (slot_ne (Or.inl (own_w hw 16 rfl)) (Or.inl (own_w hw 31 rfl)) (by decide) (t := (.array .int)) (t' := .int) (by decide) (by decide)))
  have cf19 := F_segmentLimit_o0.other W12 (Or.inr (slot_ne (Or.inl (own_w hw 20 rfl)) (Or.inl (own_w hw 31 rfl)) (by decide) (t := (.array .int)) (t' := .int) (by decide) (by decide)))
  have cf20 := F_segments_o0.other W12 (Or.inr (slot_ne (Or.inl (own_w hw 29 rfl)) (Or.inl (own_w hw 31 rfl)) (by decide) (t := .int) (t' := .int) (by decide) (by decide)))
  have cf21 := F_starts_o0.other W12 (Or.inr (slot_ne (Or.inl (own_w hw 12 rfl)) (Or.inl (own_w hw 31 rfl)) (by decide) (t := (.array .int)) (t' := .int) (by decide) (by decide)))
  have cf22 := V_o3.other W12 (Ne.symm ne_o0_o3)
  have cf23 := V_o5.other W12 (Ne.symm ne_o0_o5)
  have Z_12 : n0 ≤ h12.size := Nat.le_trans Z0 (Keep.of_wr W12).1
  have K_12 : Keep h0 h12 [o0] := K0.wr W12 (own_i 0 rfl)
  have N12 := Fr.snoc X12 N0 g_o0
  refine own_go T12 m 85 #[rv o0, iv 2, iv u0, iv u1, iv 1, iv 1] [] (st12) ?_
  refine own_go T12 m 95 #[rv o0, iv 2, iv u0, iv u1, iv 1, iv 1] [] (fun t k => XS.goto X12.here hx rfl (pc0 := 85) (pc' := 95) rfl (hb hby d5_85) (by decide) (by decide) k) ?_
  refine own_retV X12 hx hlk hret (hb hby d5_95) (by decide) (by decide) ?_
  rw [e12]
  exact ⟨rfl, N12, K_12, cf14, cf15, cf16, cf17, cf18, cf19, cf20, cf21, F12⟩
theorem own_db34 (t0 t1 t2 t3 t4 t5 t6 t7 t8 t9 : Int32) (h0 : ¬ (t0 < (0 : Int32))) (h1 : t0 < t1) (h2 : t1 < t2) (h3 : ¬ (t3 < t2)) (h4 : t3 < t4) (h5 : t4 < t5) (h6 : t6 < t7) (h7 : t8 < t9) (h8 : t6 < (64 : Int32)) (h9 : ¬ (t9 < (64 : Int32))) (h10 : t7 < (64 : Int32)) (h11 : t8 < (64 : Int32)) : ¬ (t1 < t0) := by
  simp only [Int32.lt_iff_toInt_lt, ← Int32.toInt_inj, Int32.reduceToInt] at *
  omega
theorem own_db35 (t0 t1 t2 t3 t4 t5 t6 t7 t8 t9 : Int32) (h0 : ¬ (t0 < (0 : Int32))) (h1 : t0 < t1) (h2 : t1 < t2) (h3 : ¬ (t3 < t2)) (h4 : t3 < t4) (h5 : t4 < t5) (h6 : t6 < t7) (h7 : t8 < t9) (h8 : t6 < (64 : Int32)) (h9 : ¬ (t9 < (64 : Int32))) (h10 : t7 < (64 : Int32)) (h11 : t8 < (64 : Int32)) : t1 < t5 := by
  simp only [Int32.lt_iff_toInt_lt, ← Int32.toInt_inj, Int32.reduceToInt] at *
  omega
theorem own_db36 (t0 t1 t2 t3 t4 t5 t6 t7 t8 t9 : Int32) (h0 : ¬ (t0 < (0 : Int32))) (h1 : t0 < t1) (h2 : t1 < t2) (h3 : ¬ (t3 < t2)) (h4 : t3 < t4) (h5 : t4 < t5) (h6 : t6 < t7) (h7 : t8 < t9) (h8 : t6 < (64 : Int32)) (h9 : ¬ (t9 < (64 : Int32))) (h10 : t7 < (64 : Int32)) (h11 : t8 < (64 : Int32)) : ¬ (t1 < t1) := by
  simp only [Int32.lt_iff_toInt_lt, ← Int32.toInt_inj, Int32.reduceToInt] at *
  omega
theorem own_db37 (t0 t1 t2 t3 t4 t5 t6 t7 t8 t9 : Int32) (h0 : ¬ (t0 < (0 : Int32))) (h1 : t0 < t1) (h2 : t1 < t2) (h3 : ¬ (t3 < t2)) (h4 : t3 < t4) (h5 : t4 < t5) (h6 : t6 < t7) (h7 : t8 < t9) (h8 : t6 < (64 : Int32)) (h9 : ¬ (t9 < (64 : Int32))) (h10 : t7 < (64 : Int32)) (h11 : t8 < (64 : Int32)) : ¬ (t4 = (-2 : Int32)) := by
  simp only [Int32.lt_iff_toInt_lt, ← Int32.toInt_inj, Int32.reduceToInt] at *
  omega
theorem own_db42 (t0 t1 t2 t3 t4 t5 t6 t7 t8 t9 : Int32) (h0 : ¬ (t0 < (0 : Int32))) (h1 : t0 < t1) (h2 : t1 < t2) (h3 : ¬ (t3 < t2)) (h4 : t3 < t4) (h5 : t4 < t5) (h6 : t6 < t7) (h7 : t8 < t9) (h8 : t6 < (64 : Int32)) (h9 : ¬ (t9 < (64 : Int32))) (h10 : t7 < (64 : Int32)) (h11 : t8 < (64 : Int32)) : ¬ (t2 < t0) := by
  simp only [Int32.lt_iff_toInt_lt, ← Int32.toInt_inj, Int32.reduceToInt] at *
  omega
theorem own_db43 (t0 t1 t2 t3 t4 t5 t6 t7 t8 t9 : Int32) (h0 : ¬ (t0 < (0 : Int32))) (h1 : t0 < t1) (h2 : t1 < t2) (h3 : ¬ (t3 < t2)) (h4 : t3 < t4) (h5 : t4 < t5) (h6 : t6 < t7) (h7 : t8 < t9) (h8 : t6 < (64 : Int32)) (h9 : ¬ (t9 < (64 : Int32))) (h10 : t7 < (64 : Int32)) (h11 : t8 < (64 : Int32)) : t2 < t5 := by
  simp only [Int32.lt_iff_toInt_lt, ← Int32.toInt_inj, Int32.reduceToInt] at *
  omega
theorem own_db44 (t0 t1 t2 t3 t4 t5 t6 t7 t8 t9 : Int32) (h0 : ¬ (t0 < (0 : Int32))) (h1 : t0 < t1) (h2 : t1 < t2) (h3 : ¬ (t3 < t2)) (h4 : t3 < t4) (h5 : t4 < t5) (h6 : t6 < t7) (h7 : t8 < t9) (h8 : t6 < (64 : Int32)) (h9 : ¬ (t9 < (64 : Int32))) (h10 : t7 < (64 : Int32)) (h11 : t8 < (64 : Int32)) : t0 < t2 := by
  simp only [Int32.lt_iff_toInt_lt, ← Int32.toInt_inj, Int32.reduceToInt] at *
  omega
theorem ef_sp20 (m : MethodId) (q0 : Addr) (q1 : Int32) (q2 : Int32) : entryFrame m #[(.ref q0), (.int q1), (.int q2)] 6 = mkF m 0 #[rv q0, iv q1, iv q2, .unset, .unset, .unset] [] := by first | (simp [entryFrame, mkF, argsToLocals, Value.category]; done) | rfl
set_option maxRecDepth 65536 in
set_option maxHeartbeats 40000000 in
theorem sp20 (l : Launch) (Z : State) (a0 : Array Value) (hw : ∀ d ∈ tables_1, d.before a0 Z = true) (ws : List Jvm.Cond) (o0 o1 o2 o3 o4 o5 : Addr) (u0 : Int32) (u1 : Int32) (u2 : Int32) (u3 : Int32) (c0 : ClassId) (c1 : ClassId) (h0 : Heap) (n0 : Nat) (Z0 : n0 ≤ h0.size) (E_o0 : Exa Z h0 o0 OwnK0) (F_count_o0 : Fld Z h0 o0 OwnK0 "count" "I" (.int 2)) (F_cursor_o0 : Fld Z h0 o0 OwnK0 "cursor" "I" (.int (-1))) (F_ends_o0 : Fld Z h0 o0 OwnK0 "ends" "[I" (.ref o1)) (F_lastOpened_o0 : Fld Z h0 o0 OwnK0 "lastOpened" "I" (.int 2)) (F_segmentEnd_o0 : Fld Z h0 o0 OwnK0 "segmentEnd" "[I" (.ref o2)) (F_segmentFirst_o0 : Fld Z h0 o0 OwnK0 "segmentFirst" "[I" (.ref o3)) (F_segmentLimit_o0 : Fld Z h0 o0 OwnK0 "segmentLimit" "[I" (.ref o4)) (F_segments_o0 : Fld Z h0 o0 OwnK0 "segments" "I" (.int 1)) (F_starts_o0 : Fld Z h0 o0 OwnK0 "starts" "[I" (.ref o5)) (V_o3 : Arv Z h0 o3 c0 .int (8 : Int32) [(.int 0), (.int 0), (.int 0), (.int 0), (.int 0), (.int 0), (.int 0), (.int 0)] (.int 0)) (V_o5 : Arv Z h0 o5 c1 .int (8 : Int32) [(.int u1), (.int u2), (.int u3), (.int 0), (.int 0), (.int 0), (.int 0), (.int 0)] (.int 0)) (ne_o0_o1 : o0 ≠ o1) (ne_o0_o2 : o0 ≠ o2) (ne_o0_o3 : o0 ≠ o3) (ne_o0_o4 : o0 ≠ o4) (ne_o0_o5 : o0 ≠ o5) (g_o0 : n0 ≤ o0) (hq0 : (u0 - u2) < (64 : Int32)) (hq1 : ¬ ((u2 - u1) < (64 : Int32))) :
    OwnC l Z (⟨OwnK0, "closed", "(II)V"⟩ : MethodName) prog_48_method_7_code 6 none ws ({ frames := 0, cells := 0, slots := 0, locals := 0 } : Room) #[(.ref o0), (.int 1), (.int u0)] h0 (fun v h L => v = none ∧ Fr n0 L ∧ Keep h0 h [o0] ∧ Fld Z h o0 OwnK0 "cursor" "I" (.int (-1)) ∧ Fld Z h o0 OwnK0 "ends" "[I" (.ref o1) ∧ Fld Z h o0 OwnK0 "lastOpened" "I" (.int 2) ∧ Fld Z h o0 OwnK0 "segmentEnd" "[I" (.ref o2) ∧ Fld Z h o0 OwnK0 "segmentFirst" "[I" (.ref o3) ∧ Fld Z h o0 OwnK0 "segmentLimit" "[I" (.ref o4) ∧ Fld Z h o0 OwnK0 "segments" "I" (.int 1) ∧ Fld Z h o0 OwnK0 "starts" "[I" (.ref o5) ∧ Fld Z h o0 OwnK0 "count" "I" (.int 1)) := by
  refine own_entry pf_com_example_wirelens_wirelens_wire_GroupEnds_closed__II_V (fun m => ef_sp20 m o0 (1 : Int32) u0) ?_
  intro p e s m below meth c T0 X0 hC e0
  obtain ⟨hx, hby, hml, hown, hnm, hret, hlk, hZ⟩ := hC
  have N0 := Fr.nil n0
  have K0 := Keep.refl h0 [o0]
  refine own_go T0 m 1 #[rv o0, iv 1, iv u0, .unset, .unset, .unset] [(.ref o0)] (fun t k => XS.aloadN X0.here hx rfl (hb hby d5_0) rfl rfl k) ?_
  obtain ⟨T1, X1, e1, st1⟩ := getF X0 hx hZ hown (host := "") (Or.inl (own_w hw 11 rfl)) Via.refl e0 F_starts_o0 (g := (mkF m 1 #[rv o0, iv 1, iv u0, .unset, .unset, .unset] [(.ref o0)])) rfl rfl (hb hby d5_1)
  refine own_go T1 m 4 #[rv o0, iv 1, iv u0, .unset, .unset, .unset] [(.ref o5)] (st1) ?_
  refine own_go T1 m 5 #[rv o0, iv 1, iv u0, .unset, .unset, .unset] [(.ref o0), (.ref o5)] (fun t k => XS.aloadN X1.here hx rfl (hb hby d5_4) rfl rfl k) ?_
  obtain ⟨T2, X2, e2, st2⟩ := getF X1 hx hZ hown (host := "") (Or.inl (own_w hw 15 rfl)) Via.refl e1 F_segmentFirst_o0 (g := (mkF m 5 #[rv o0, iv 1, iv u0, .unset, .unset, .unset] [(.ref o0), (.ref o5)])) rfl rfl (hb hby d5_5)
  refine own_go T2 m 8 #[rv o0, iv 1, iv u0, .unset, .unset, .unset] [(.ref o3), (.ref o5)] (st2) ?_
  refine own_go T2 m 9 #[rv o0, iv 1, iv u0, .unset, .unset, .unset] [(.ref o0), (.ref o3), (.ref o5)] (fun t k => XS.aloadN X2.here hx rfl (hb hby d5_8) rfl rfl k) ?_
  obtain ⟨T3, X3, e3, st3⟩ := getF X2 hx hZ hown (host := "") (Or.inl (own_w hw 28 rfl)) Via.refl e2 F_segments_o0 (g := (mkF m 9 #[rv o0, iv 1, iv u0, .unset, .unset, .unset] [(.ref o0), (.ref o3), (.ref o5)])) rfl rfl (hb hby d5_9)
  refine own_go T3 m 12 #[rv o0, iv 1, iv u0, .unset, .unset, .unset] [(.int 1), (.ref o3), (.ref o5)] (st3) ?_
  refine own_go T3 m 13 #[rv o0, iv 1, iv u0, .unset, .unset, .unset] [(.int 1), (.int 1), (.ref o3), (.ref o5)] (fun t k => XS.iconst X3.here hx rfl (hb hby d5_12) k) ?_
  refine own_go T3 m 14 #[rv o0, iv 1, iv u0, .unset, .unset, .unset] [(.int ((1 : Int32) - (1 : Int32))), (.ref o3), (.ref o5)] (fun t k => XS.isub X3.here hx rfl (hb hby d5_13) rfl k) ?_
  rw [show ((1 : Int32) - (1 : Int32)) = (0 : Int32) from by decide]
  refine own_go T3 m 15 #[rv o0, iv 1, iv u0, .unset, .unset, .unset] [(.int 0), (.ref o5)] (own_iaload X3 hx hZ e3 V_o3 (j := (0 : Int32)) ⟨by decide, by decide⟩ rfl (hb hby d5_14)) ?_
  refine own_go T3 m 16 #[rv o0, iv 1, iv u0, .unset, .unset, .unset] [(.int u1)] (own_iaload X3 hx hZ e3 V_o5 (j := (0 : Int32)) ⟨by decide, by decide⟩ rfl (hb hby d5_15)) ?_
  refine own_go T3 m 17 #[rv o0, iv 1, iv u0, iv u1, .unset, .unset] [] (fun t k => XS.istoreN X3.here hx rfl (hb hby d5_16) rfl rfl k) ?_
  refine own_go T3 m 18 #[rv o0, iv 1, iv u0, iv u1, .unset, .unset] [(.int u0)] (fun t k => XS.iloadN X3.here hx rfl (hb hby d5_17) rfl k) ?_
  refine own_go T3 m 19 #[rv o0, iv 1, iv u0, iv u1, .unset, .unset] [(.ref o0), (.int u0)] (fun t k => XS.aloadN X3.here hx rfl (hb hby d5_18) rfl rfl k) ?_
  obtain ⟨T6, X6, e6, st6⟩ := getF X3 hx hZ hown (host := "") (Or.inl (own_w hw 11 rfl)) Via.refl e3 F_starts_o0 (g := (mkF m 19 #[rv o0, iv 1, iv u0, iv u1, .unset, .unset] [(.ref o0), (.int u0)])) rfl rfl (hb hby d5_19)
  refine own_go T6 m 22 #[rv o0, iv 1, iv u0, iv u1, .unset, .unset] [(.ref o5), (.int u0)] (st6) ?_
  refine own_go T6 m 23 #[rv o0, iv 1, iv u0, iv u1, .unset, .unset] [(.int 1), (.ref o5), (.int u0)] (fun t k => XS.iloadN X6.here hx rfl (hb hby d5_22) rfl k) ?_
  refine own_go T6 m 24 #[rv o0, iv 1, iv u0, iv u1, .unset, .unset] [(.int u2), (.int u0)] (own_iaload X6 hx hZ e6 V_o5 (j := (1 : Int32)) ⟨by decide, by decide⟩ rfl (hb hby d5_23)) ?_
  refine own_go T6 m 25 #[rv o0, iv 1, iv u0, iv u1, .unset, .unset] [(.int (u0 - u2))] (fun t k => XS.isub X6.here hx rfl (hb hby d5_24) rfl k) ?_
  refine own_go T6 m 27 #[rv o0, iv 1, iv u0, iv u1, .unset, .unset] [(.int 64), (.int (u0 - u2))] (fun t k => XS.bipush X6.here hx rfl (hb hby d5_25) k) ?_
  refine own_go T6 m 30 #[rv o0, iv 1, iv u0, iv u1, .unset, .unset] [] (fun t k => XS.icmpNo X6.here hx rfl (hb hby d5_27) rfl (tlt hq0).2.1 k) ?_
  refine own_go T6 m 31 #[rv o0, iv 1, iv u0, iv u1, .unset, .unset] [(.int 1)] (fun t k => XS.iconst X6.here hx rfl (hb hby d5_30) k) ?_
  refine own_go T6 m 35 #[rv o0, iv 1, iv u0, iv u1, .unset, .unset] [(.int 1)] (fun t k => XS.goto X6.here hx rfl (pc0 := 31) (pc' := 35) rfl (hb hby d5_31) (by decide) (by decide) k) ?_
  refine own_go T6 m 37 #[rv o0, iv 1, iv u0, iv u1, iv 1, .unset] [] (fun t k => XS.istore X6.here hx rfl (hb hby d5_35) rfl rfl k) ?_
  refine own_go T6 m 38 #[rv o0, iv 1, iv u0, iv u1, iv 1, .unset] [(.ref o0)] (fun t k => XS.aloadN X6.here hx rfl (hb hby d5_37) rfl rfl k) ?_
  obtain ⟨T8, X8, e8, st8⟩ := getF X6 hx hZ hown (host := "") (Or.inl (own_w hw 11 rfl)) Via.refl e6 F_starts_o0 (g := (mkF m 38 #[rv o0, iv 1, iv u0, iv u1, iv 1, .unset] [(.ref o0)])) rfl rfl (hb hby d5_38)
  refine own_go T8 m 41 #[rv o0, iv 1, iv u0, iv u1, iv 1, .unset] [(.ref o5)] (st8) ?_
  refine own_go T8 m 42 #[rv o0, iv 1, iv u0, iv u1, iv 1, .unset] [(.int 1), (.ref o5)] (fun t k => XS.iloadN X8.here hx rfl (hb hby d5_41) rfl k) ?_
  refine own_go T8 m 43 #[rv o0, iv 1, iv u0, iv u1, iv 1, .unset] [(.int u2)] (own_iaload X8 hx hZ e8 V_o5 (j := (1 : Int32)) ⟨by decide, by decide⟩ rfl (hb hby d5_42)) ?_
  refine own_go T8 m 44 #[rv o0, iv 1, iv u0, iv u1, iv 1, .unset] [(.int u1), (.int u2)] (fun t k => XS.iloadN X8.here hx rfl (hb hby d5_43) rfl k) ?_
  refine own_go T8 m 45 #[rv o0, iv 1, iv u0, iv u1, iv 1, .unset] [(.int (u2 - u1))] (fun t k => XS.isub X8.here hx rfl (hb hby d5_44) rfl k) ?_
  refine own_go T8 m 47 #[rv o0, iv 1, iv u0, iv u1, iv 1, .unset] [(.int 64), (.int (u2 - u1))] (fun t k => XS.bipush X8.here hx rfl (hb hby d5_45) k) ?_
  refine own_go T8 m 50 #[rv o0, iv 1, iv u0, iv u1, iv 1, .unset] [] (fun t k => XS.icmpNo X8.here hx rfl (hb hby d5_47) rfl (flt hq1).1 k) ?_
  refine own_go T8 m 51 #[rv o0, iv 1, iv u0, iv u1, iv 1, .unset] [(.int 1)] (fun t k => XS.iconst X8.here hx rfl (hb hby d5_50) k) ?_
  refine own_go T8 m 55 #[rv o0, iv 1, iv u0, iv u1, iv 1, .unset] [(.int 1)] (fun t k => XS.goto X8.here hx rfl (pc0 := 51) (pc' := 55) rfl (hb hby d5_51) (by decide) (by decide) k) ?_
  refine own_go T8 m 57 #[rv o0, iv 1, iv u0, iv u1, iv 1, iv 1] [] (fun t k => XS.istore X8.here hx rfl (hb hby d5_55) rfl rfl k) ?_
  refine own_go T8 m 59 #[rv o0, iv 1, iv u0, iv u1, iv 1, iv 1] [(.int 1)] (fun t k => XS.iload X8.here hx rfl (hb hby d5_57) rfl k) ?_
  refine own_go T8 m 62 #[rv o0, iv 1, iv u0, iv u1, iv 1, iv 1] [] (fun t k => XS.ifNo X8.here hx rfl (hb hby d5_59) rfl ((if0 _ _).trans (feq (by decide)).1) k) ?_
  refine own_go T8 m 63 #[rv o0, iv 1, iv u0, iv u1, iv 1, iv 1] [(.int 1)] (fun t k => XS.iloadN X8.here hx rfl (hb hby d5_62) rfl k) ?_
  refine own_go T8 m 64 #[rv o0, iv 1, iv u0, iv u1, iv 1, iv 1] [(.ref o0), (.int 1)] (fun t k => XS.aloadN X8.here hx rfl (hb hby d5_63) rfl rfl k) ?_
  obtain ⟨T10, X10, e10, st10⟩ := getF X8 hx hZ hown (host := "") (Or.inl (own_w hw 37 rfl)) Via.refl e8 F_lastOpened_o0 (g := (mkF m 64 #[rv o0, iv 1, iv u0, iv u1, iv 1, iv 1] [(.ref o0), (.int 1)])) rfl rfl (hb hby d5_64)
  refine own_go T10 m 67 #[rv o0, iv 1, iv u0, iv u1, iv 1, iv 1] [(.int 2), (.int 1)] (st10) ?_
  refine own_go T10 m 70 #[rv o0, iv 1, iv u0, iv u1, iv 1, iv 1] [] (fun t k => XS.icmpNo X10.here hx rfl (hb hby d5_67) rfl (feq (by decide)).1 k) ?_
  refine own_go T10 m 72 #[rv o0, iv 1, iv u0, iv u1, iv 1, iv 1] [(.int 1)] (fun t k => XS.iload X10.here hx rfl (hb hby d5_70) rfl k) ?_
  refine own_go T10 m 75 #[rv o0, iv 1, iv u0, iv u1, iv 1, iv 1] [] (fun t k => XS.ifNo X10.here hx rfl (hb hby d5_72) rfl ((if0 _ _).trans (feq (by decide)).1) k) ?_
  refine own_go T10 m 76 #[rv o0, iv 1, iv u0, iv u1, iv 1, iv 1] [(.ref o0)] (fun t k => XS.aloadN X10.here hx rfl (hb hby d5_75) rfl rfl k) ?_
  refine own_go T10 m 77 #[rv o0, iv 1, iv u0, iv u1, iv 1, iv 1] [(.ref o0), (.ref o0)] (fun t k => XS.dup X10.here hx rfl (hb hby d5_76) rfl rfl k) ?_
  obtain ⟨T11, X11, e11, st11⟩ := getF X10 hx hZ hown (host := "") (Or.inl (own_w hw 30 rfl)) Via.refl e10 F_count_o0 (g := (mkF m 77 #[rv o0, iv 1, iv u0, iv u1, iv 1, iv 1] [(.ref o0), (.ref o0)])) rfl rfl (hb hby d5_77)
  refine own_go T11 m 80 #[rv o0, iv 1, iv u0, iv u1, iv 1, iv 1] [(.int 2), (.ref o0)] (st11) ?_
  refine own_go T11 m 81 #[rv o0, iv 1, iv u0, iv u1, iv 1, iv 1] [(.int 1), (.int 2), (.ref o0)] (fun t k => XS.iconst X11.here hx rfl (hb hby d5_80) k) ?_
  refine own_go T11 m 82 #[rv o0, iv 1, iv u0, iv u1, iv 1, iv 1] [(.int ((2 : Int32) - (1 : Int32))), (.ref o0)] (fun t k => XS.isub X11.here hx rfl (hb hby d5_81) rfl k) ?_
  rw [show ((2 : Int32) - (1 : Int32)) = (1 : Int32) from by decide]
  obtain ⟨T12, h12, X12, e12, W12, st12⟩ := putF X11 hx hZ hown (host := "") (Or.inl (own_w hw 30 rfl)) Via.refl e11 F_count_o0 E_o0 (Or.inl (own_w hw 31 rfl)) (own_w hw 2 rfl) (ty := .int) (by decide) rfl rfl (g := (mkF m 82 #[rv o0, iv 1, iv u0, iv u1, iv 1, iv 1] [(.int 1), (.ref o0)])) rfl rfl (hb hby d5_82)
  have F12 := F_count_o0.same W12
  have cf13 := E_o0.wr W12
  have cf14 := F_cursor_o0.other W12 (Or.inr (slot_ne (Or.inl (own_w hw 22 rfl)) (Or.inl (own_w hw 31 rfl)) (by decide) (t := .int) (t' := .int) (by decide) (by decide)))
  have cf15 := F_ends_o0.other W12 (Or.inr (slot_ne (Or.inl (own_w hw 14 rfl)) (Or.inl (own_w hw 31 rfl)) (by decide) (t := (.array .int)) (t' := .int) (by decide) (by decide)))
  have cf16 := F_lastOpened_o0.other W12 (Or.inr (slot_ne (Or.inl (own_w hw 38 rfl)) (Or.inl (own_w hw 31 rfl)) (by decide) (t := .int) (t' := .int) (by decide) (by decide)))
  have cf17 := F_segmentEnd_o0.other W12 (Or.inr (slot_ne (Or.inl (own_w hw 18 rfl)) (Or.inl (own_w hw 31 rfl)) (by decide) (t := (.array .int)) (t' := .int) (by decide) (by decide)))
  have cf18 := F_segmentFirst_o0.other W12 (Or.inr (slot_ne (Or.inl (own_w hw 16 rfl)) (Or.inl (own_w hw 31 rfl)) (by decide) (t := (.array .int)) (t' := .int) (by decide) (by decide)))
  have cf19 := F_segmentLimit_o0.other W12 (Or.inr (slot_ne (Or.inl (own_w hw 20 rfl)) (Or.inl (own_w hw 31 rfl)) (by decide) (t := (.array .int)) (t' := .int) (by decide) (by decide)))
  have cf20 := F_segments_o0.other W12 (Or.inr (slot_ne (Or.inl (own_w hw 29 rfl)) (Or.inl (own_w hw 31 rfl)) (by decide) (t := .int) (t' := .int) (by decide) (by decide)))
  have cf21 := F_starts_o0.other W12 (Or.inr (slot_ne (Or.inl (own_w hw 12 rfl)) (Or.inl (own_w hw 31 rfl)) (by decide) (t := (.array .int)) (t' := .int) (by decide) (by decide)))
  have cf22 := V_o3.other W12 (Ne.symm ne_o0_o3)
  have cf23 := V_o5.other W12 (Ne.symm ne_o0_o5)
  have Z_12 : n0 ≤ h12.size := Nat.le_trans Z0 (Keep.of_wr W12).1
  have K_12 : Keep h0 h12 [o0] := K0.wr W12 (own_i 0 rfl)
  have N12 := Fr.snoc X12 N0 g_o0
  refine own_go T12 m 85 #[rv o0, iv 1, iv u0, iv u1, iv 1, iv 1] [] (st12) ?_
  refine own_go T12 m 95 #[rv o0, iv 1, iv u0, iv u1, iv 1, iv 1] [] (fun t k => XS.goto X12.here hx rfl (pc0 := 85) (pc' := 95) rfl (hb hby d5_85) (by decide) (by decide) k) ?_
  refine own_retV X12 hx hlk hret (hb hby d5_95) (by decide) (by decide) ?_
  rw [e12]
  exact ⟨rfl, N12, K_12, cf14, cf15, cf16, cf17, cf18, cf19, cf20, cf21, F12⟩
theorem ef_sp21 (m : MethodId) (q0 : Addr) (q1 : Int32) : entryFrame m #[(.ref q0), (.int q1)] 3 = mkF m 0 #[rv q0, iv q1, .unset] [] := by first | (simp [entryFrame, mkF, argsToLocals, Value.category]; done) | rfl
set_option maxRecDepth 65536 in
set_option maxHeartbeats 40000000 in
theorem sp21 (l : Launch) (Z : State) (a0 : Array Value) (hw : ∀ d ∈ tables_1, d.before a0 Z = true) (ws : List Jvm.Cond) (o0 o1 o2 : Addr) (u0 : Int32) (c0 : ClassId) (c1 : ClassId) (h0 : Heap) (n0 : Nat) (Z0 : n0 ≤ h0.size) (F_count_o0 : Fld Z h0 o0 OwnK0 "count" "I" (.int 1)) (F_segmentEnd_o0 : Fld Z h0 o0 OwnK0 "segmentEnd" "[I" (.ref o1)) (F_segmentFirst_o0 : Fld Z h0 o0 OwnK0 "segmentFirst" "[I" (.ref o2)) (F_segments_o0 : Fld Z h0 o0 OwnK0 "segments" "I" (.int 1)) (V_o1 : Arv Z h0 o1 c0 .int (8 : Int32) [(.int 0), (.int 0), (.int 0), (.int 0), (.int 0), (.int 0), (.int 0), (.int 0)] (.int 0)) (V_o2 : Arv Z h0 o2 c1 .int (8 : Int32) [(.int 0), (.int 0), (.int 0), (.int 0), (.int 0), (.int 0), (.int 0), (.int 0)] (.int 0)) (ne_o0_o1 : o0 ≠ o1) (ne_o1_o2 : o1 ≠ o2) (g_o1 : n0 ≤ o1) :
    OwnC l Z (⟨OwnK0, "endRead", "(I)V"⟩ : MethodName) prog_48_method_8_code 3 none ws ({ frames := 0, cells := 0, slots := 0, locals := 0 } : Room) #[(.ref o0), (.int u0)] h0 (fun v h L => v = none ∧ Fr n0 L ∧ Keep h0 h [o1] ∧ Arv Z h o1 c0 .int (8 : Int32) [(.int u0), (.int 0), (.int 0), (.int 0), (.int 0), (.int 0), (.int 0), (.int 0)] (.int 0)) := by
  refine own_entry pf_com_example_wirelens_wirelens_wire_GroupEnds_endRead__I_V (fun m => ef_sp21 m o0 u0) ?_
  intro p e s m below meth c T0 X0 hC e0
  obtain ⟨hx, hby, hml, hown, hnm, hret, hlk, hZ⟩ := hC
  have N0 := Fr.nil n0
  have K0 := Keep.refl h0 [o1]
  refine own_go T0 m 1 #[rv o0, iv u0, .unset] [(.ref o0)] (fun t k => XS.aloadN X0.here hx rfl (hb hby d6_0) rfl rfl k) ?_
  obtain ⟨T1, X1, e1, st1⟩ := getF X0 hx hZ hown (host := "") (Or.inl (own_w hw 28 rfl)) Via.refl e0 F_segments_o0 (g := (mkF m 1 #[rv o0, iv u0, .unset] [(.ref o0)])) rfl rfl (hb hby d6_1)
  refine own_go T1 m 4 #[rv o0, iv u0, .unset] [(.int 1)] (st1) ?_
  refine own_go T1 m 5 #[rv o0, iv u0, .unset] [(.int 1), (.int 1)] (fun t k => XS.iconst X1.here hx rfl (hb hby d6_4) k) ?_
  refine own_go T1 m 6 #[rv o0, iv u0, .unset] [(.int ((1 : Int32) - (1 : Int32)))] (fun t k => XS.isub X1.here hx rfl (hb hby d6_5) rfl k) ?_
  rw [show ((1 : Int32) - (1 : Int32)) = (0 : Int32) from by decide]
  refine own_go T1 m 7 #[rv o0, iv u0, iv 0] [] (fun t k => XS.istoreN X1.here hx rfl (hb hby d6_6) rfl rfl k) ?_
  refine own_go T1 m 8 #[rv o0, iv u0, iv 0] [(.ref o0)] (fun t k => XS.aloadN X1.here hx rfl (hb hby d6_7) rfl rfl k) ?_
  obtain ⟨T2, X2, e2, st2⟩ := getF X1 hx hZ hown (host := "") (Or.inl (own_w hw 30 rfl)) Via.refl e1 F_count_o0 (g := (mkF m 8 #[rv o0, iv u0, iv 0] [(.ref o0)])) rfl rfl (hb hby d6_8)
  refine own_go T2 m 11 #[rv o0, iv u0, iv 0] [(.int 1)] (st2) ?_
  refine own_go T2 m 12 #[rv o0, iv u0, iv 0] [(.ref o0), (.int 1)] (fun t k => XS.aloadN X2.here hx rfl (hb hby d6_11) rfl rfl k) ?_
  obtain ⟨T3, X3, e3, st3⟩ := getF X2 hx hZ hown (host := "") (Or.inl (own_w hw 15 rfl)) Via.refl e2 F_segmentFirst_o0 (g := (mkF m 12 #[rv o0, iv u0, iv 0] [(.ref o0), (.int 1)])) rfl rfl (hb hby d6_12)
  refine own_go T3 m 15 #[rv o0, iv u0, iv 0] [(.ref o2), (.int 1)] (st3) ?_
  refine own_go T3 m 16 #[rv o0, iv u0, iv 0] [(.int 0), (.ref o2), (.int 1)] (fun t k => XS.iloadN X3.here hx rfl (hb hby d6_15) rfl k) ?_
  refine own_go T3 m 17 #[rv o0, iv u0, iv 0] [(.int 0), (.int 1)] (own_iaload X3 hx hZ e3 V_o2 (j := (0 : Int32)) ⟨by decide, by decide⟩ rfl (hb hby d6_16)) ?_
  refine own_go T3 m 33 #[rv o0, iv u0, iv 0] [] (fun t k => XS.icmpYes X3.here hx rfl (pc0 := 17) (pc' := 33) rfl (hb hby d6_17) rfl (feq (by decide)).2 (by decide) (by decide) k) ?_
  refine own_go T3 m 34 #[rv o0, iv u0, iv 0] [(.ref o0)] (fun t k => XS.aloadN X3.here hx rfl (hb hby d6_33) rfl rfl k) ?_
  obtain ⟨T5, X5, e5, st5⟩ := getF X3 hx hZ hown (host := "") (Or.inl (own_w hw 17 rfl)) Via.refl e3 F_segmentEnd_o0 (g := (mkF m 34 #[rv o0, iv u0, iv 0] [(.ref o0)])) rfl rfl (hb hby d6_34)
  refine own_go T5 m 37 #[rv o0, iv u0, iv 0] [(.ref o1)] (st5) ?_
  refine own_go T5 m 38 #[rv o0, iv u0, iv 0] [(.int 0), (.ref o1)] (fun t k => XS.iloadN X5.here hx rfl (hb hby d6_37) rfl k) ?_
  refine own_go T5 m 39 #[rv o0, iv u0, iv 0] [(.int u0), (.int 0), (.ref o1)] (fun t k => XS.iloadN X5.here hx rfl (hb hby d6_38) rfl k) ?_
  obtain ⟨T6, h6, X6, e6, W6, V6, st6⟩ := own_iastore X5 hx hZ e5 V_o1 (j := (0 : Int32)) ⟨by decide, by decide⟩ 0 rfl (Nat.le_of_ble_eq_true rfl) (Ls := #[rv o0, iv u0, iv 0]) (rest := []) (x := u0) (hb hby d6_39)
  replace V6 : Arv Z h6 o1 c0 .int (8 : Int32) [(.int u0), (.int 0), (.int 0), (.int 0), (.int 0), (.int 0), (.int 0), (.int 0)] (.int 0) := V6
  have cf7 := F_count_o0.other W6 (Or.inl ne_o0_o1)
  have cf8 := F_segmentEnd_o0.other W6 (Or.inl ne_o0_o1)
  have cf9 := F_segmentFirst_o0.other W6 (Or.inl ne_o0_o1)
  have cf10 := F_segments_o0.other W6 (Or.inl ne_o0_o1)
  have cf11 := V_o2.other W6 (Ne.symm ne_o1_o2)
  have Z_6 : n0 ≤ h6.size := Nat.le_trans Z0 (Keep.of_wr W6).1
  have K_6 : Keep h0 h6 [o1] := K0.wr W6 (own_i 0 rfl)
  have N6 := Fr.snoc X6 N0 g_o1
  refine own_go T6 m 40 #[rv o0, iv u0, iv 0] [] (st6) ?_
  refine own_retV X6 hx hlk hret (hb hby d6_40) (by decide) (by decide) ?_
  rw [e6]
  exact ⟨rfl, N6, K_6, V6⟩
theorem own_db48 (t0 t1 t2 t3 t4 t5 t6 t7 t8 t9 : Int32) (h0 : ¬ (t0 < (0 : Int32))) (h1 : t0 < t1) (h2 : t1 < t2) (h3 : ¬ (t3 < t2)) (h4 : t3 < t4) (h5 : t4 < t5) (h6 : t6 < t7) (h7 : t8 < t9) (h8 : t6 < (64 : Int32)) (h9 : ¬ (t9 < (64 : Int32))) (h10 : t7 < (64 : Int32)) (h11 : ¬ (t8 < (64 : Int32))) : ¬ (t1 < t0) := by
  simp only [Int32.lt_iff_toInt_lt, ← Int32.toInt_inj, Int32.reduceToInt] at *
  omega
theorem own_db49 (t0 t1 t2 t3 t4 t5 t6 t7 t8 t9 : Int32) (h0 : ¬ (t0 < (0 : Int32))) (h1 : t0 < t1) (h2 : t1 < t2) (h3 : ¬ (t3 < t2)) (h4 : t3 < t4) (h5 : t4 < t5) (h6 : t6 < t7) (h7 : t8 < t9) (h8 : t6 < (64 : Int32)) (h9 : ¬ (t9 < (64 : Int32))) (h10 : t7 < (64 : Int32)) (h11 : ¬ (t8 < (64 : Int32))) : t1 < t5 := by
  simp only [Int32.lt_iff_toInt_lt, ← Int32.toInt_inj, Int32.reduceToInt] at *
  omega
theorem ef_sp25 (m : MethodId) (q0 : Int32) (q1 : Int32) (q2 : Int32) : entryFrame m #[(.int q0), (.int q1), (.int q2)] 3 = mkF m 0 #[iv q0, iv q1, iv q2] [] := by first | (simp [entryFrame, mkF, argsToLocals, Value.category]; done) | rfl
set_option maxRecDepth 65536 in
set_option maxHeartbeats 40000000 in
theorem sp25 (l : Launch) (Z : State) (a0 : Array Value) (hw : ∀ d ∈ tables_1, d.before a0 Z = true) (ws : List Jvm.Cond) (h0 : Heap) (n0 : Nat) (Z0 : n0 ≤ h0.size) :
    OwnC l Z (⟨"java/util/Arrays", "rangeCheck", "(III)V"⟩ : MethodName) jdk_65_method_30_code 3 none ws ({ frames := 0, cells := 0, slots := 0, locals := 0 } : Room) #[(.int 8), (.int 0), (.int 1)] h0 (fun v h L => v = none ∧ h = h0 ∧ L = []) := by
  refine own_entry pf_java_util_Arrays_rangeCheck__III_V (fun m => ef_sp25 m (8 : Int32) (0 : Int32) (1 : Int32)) ?_
  intro p e s m below meth c T0 X0 hC e0
  obtain ⟨hx, hby, hml, hown, hnm, hret, hlk, hZ⟩ := hC
  have N0 := Fr.nil n0
  have K0 := Keep.refl h0 []
  refine own_go T0 m 1 #[iv 8, iv 0, iv 1] [(.int 0)] (fun t k => XS.iloadN X0.here hx rfl (hb hby d11_0) rfl k) ?_
  refine own_go T0 m 2 #[iv 8, iv 0, iv 1] [(.int 1), (.int 0)] (fun t k => XS.iloadN X0.here hx rfl (hb hby d11_1) rfl k) ?_
  refine own_go T0 m 46 #[iv 8, iv 0, iv 1] [] (fun t k => XS.icmpYes X0.here hx rfl (pc0 := 2) (pc' := 46) rfl (hb hby d11_2) rfl (flt (by decide)).2.2.2 (by decide) (by decide) k) ?_
  refine own_go T0 m 47 #[iv 8, iv 0, iv 1] [(.int 0)] (fun t k => XS.iloadN X0.here hx rfl (hb hby d11_46) rfl k) ?_
  refine own_go T0 m 59 #[iv 8, iv 0, iv 1] [] (fun t k => XS.ifYes X0.here hx rfl (pc0 := 47) (pc' := 59) rfl (hb hby d11_47) rfl ((if0 _ _).trans (flt (by decide)).2.1) (by decide) (by decide) k) ?_
  refine own_go T0 m 60 #[iv 8, iv 0, iv 1] [(.int 1)] (fun t k => XS.iloadN X0.here hx rfl (hb hby d11_59) rfl k) ?_
  refine own_go T0 m 61 #[iv 8, iv 0, iv 1] [(.int 8), (.int 1)] (fun t k => XS.iloadN X0.here hx rfl (hb hby d11_60) rfl k) ?_
  refine own_go T0 m 73 #[iv 8, iv 0, iv 1] [] (fun t k => XS.icmpYes X0.here hx rfl (pc0 := 61) (pc' := 73) rfl (hb hby d11_61) rfl (flt (by decide)).2.2.2 (by decide) (by decide) k) ?_
  refine own_retV X0 hx hlk hret (hb hby d11_73) (by decide) (by decide) ?_
  exact ⟨rfl, e0, rfl⟩
theorem ef_sp26 (m : MethodId) (q0 : Addr) (q1 : Int32) (q2 : Int32) (q3 : Int32) : entryFrame m #[(.ref q0), (.int q1), (.int q2), (.int q3)] 8 = mkF m 0 #[rv q0, iv q1, iv q2, iv q3, .unset, .unset, .unset, .unset] [] := by first | (simp [entryFrame, mkF, argsToLocals, Value.category]; done) | rfl
set_option maxRecDepth 65536 in
set_option maxHeartbeats 40000000 in
theorem sp26 (l : Launch) (Z : State) (a0 : Array Value) (hw : ∀ d ∈ tables_1, d.before a0 Z = true) (ws : List Jvm.Cond) (o0 : Addr) (u0 : Int32) (u1 : Int32) (u2 : Int32) (c0 : ClassId) (h0 : Heap) (n0 : Nat) (Z0 : n0 ≤ h0.size) (V_o0 : Arv Z h0 o0 c0 .int (8 : Int32) [(.int u1), (.int u0), (.int u2), (.int 0), (.int 0), (.int 0), (.int 0), (.int 0)] (.int 0)) (hq0 : u1 < u0) :
    OwnC l Z (⟨"java/util/Arrays", "binarySearch0", "([IIII)I"⟩ : MethodName) jdk_65_method_59_code 8 (some .int) ws ({ frames := 0, cells := 0, slots := 0, locals := 0 } : Room) #[(.ref o0), (.int 0), (.int 1), (.int u0)] h0 (fun v h L => v = some (.int (-2)) ∧ h = h0 ∧ L = []) := by
  refine own_entry pf_java_util_Arrays_binarySearch0___IIII_I (fun m => ef_sp26 m o0 (0 : Int32) (1 : Int32) u0) ?_
  intro p e s m below meth c T0 X0 hC e0
  obtain ⟨hx, hby, hml, hown, hnm, hret, hlk, hZ⟩ := hC
  have N0 := Fr.nil n0
  have K0 := Keep.refl h0 []
  refine own_go T0 m 1 #[rv o0, iv 0, iv 1, iv u0, .unset, .unset, .unset, .unset] [(.int 0)] (fun t k => XS.iloadN X0.here hx rfl (hb hby d12_0) rfl k) ?_
  refine own_go T0 m 3 #[rv o0, iv 0, iv 1, iv u0, iv 0, .unset, .unset, .unset] [] (fun t k => XS.istore X0.here hx rfl (hb hby d12_1) rfl rfl k) ?_
  refine own_go T0 m 4 #[rv o0, iv 0, iv 1, iv u0, iv 0, .unset, .unset, .unset] [(.int 1)] (fun t k => XS.iloadN X0.here hx rfl (hb hby d12_3) rfl k) ?_
  refine own_go T0 m 5 #[rv o0, iv 0, iv 1, iv u0, iv 0, .unset, .unset, .unset] [(.int 1), (.int 1)] (fun t k => XS.iconst X0.here hx rfl (hb hby d12_4) k) ?_
  refine own_go T0 m 6 #[rv o0, iv 0, iv 1, iv u0, iv 0, .unset, .unset, .unset] [(.int ((1 : Int32) - (1 : Int32)))] (fun t k => XS.isub X0.here hx rfl (hb hby d12_5) rfl k) ?_
  rw [show ((1 : Int32) - (1 : Int32)) = (0 : Int32) from by decide]
  refine own_go T0 m 8 #[rv o0, iv 0, iv 1, iv u0, iv 0, iv 0, .unset, .unset] [] (fun t k => XS.istore X0.here hx rfl (hb hby d12_6) rfl rfl k) ?_
  refine own_go T0 m 10 #[rv o0, iv 0, iv 1, iv u0, iv 0, iv 0, .unset, .unset] [(.int 0)] (fun t k => XS.iload X0.here hx rfl (hb hby d12_8) rfl k) ?_
  refine own_go T0 m 12 #[rv o0, iv 0, iv 1, iv u0, iv 0, iv 0, .unset, .unset] [(.int 0), (.int 0)] (fun t k => XS.iload X0.here hx rfl (hb hby d12_10) rfl k) ?_
  refine own_go T0 m 15 #[rv o0, iv 0, iv 1, iv u0, iv 0, iv 0, .unset, .unset] [] (fun t k => XS.icmpNo X0.here hx rfl (hb hby d12_12) rfl (flt (by decide)).2.2.1 k) ?_
  refine own_go T0 m 17 #[rv o0, iv 0, iv 1, iv u0, iv 0, iv 0, .unset, .unset] [(.int 0)] (fun t k => XS.iload X0.here hx rfl (hb hby d12_15) rfl k) ?_
  refine own_go T0 m 19 #[rv o0, iv 0, iv 1, iv u0, iv 0, iv 0, .unset, .unset] [(.int 0), (.int 0)] (fun t k => XS.iload X0.here hx rfl (hb hby d12_17) rfl k) ?_
  refine own_go T0 m 20 #[rv o0, iv 0, iv 1, iv u0, iv 0, iv 0, .unset, .unset] [(.int ((0 : Int32) + (0 : Int32)))] (fun t k => XS.iadd X0.here hx rfl (hb hby d12_19) rfl k) ?_
  rw [show ((0 : Int32) + (0 : Int32)) = (0 : Int32) from by decide]
  refine own_go T0 m 21 #[rv o0, iv 0, iv 1, iv u0, iv 0, iv 0, .unset, .unset] [(.int 1), (.int 0)] (fun t k => XS.iconst X0.here hx rfl (hb hby d12_20) k) ?_
  refine own_go T0 m 22 #[rv o0, iv 0, iv 1, iv u0, iv 0, iv 0, .unset, .unset] [(.int (((0 : Int32).toUInt32 >>> ((1 : Int32) &&& 31).toUInt32).toInt32))] (fun t k => XS.iushr X0.here hx rfl (hb hby d12_21) rfl k) ?_
  rw [show (((0 : Int32).toUInt32 >>> ((1 : Int32) &&& 31).toUInt32).toInt32) = (0 : Int32) from by decide]
  refine own_go T0 m 24 #[rv o0, iv 0, iv 1, iv u0, iv 0, iv 0, iv 0, .unset] [] (fun t k => XS.istore X0.here hx rfl (hb hby d12_22) rfl rfl k) ?_
  refine own_go T0 m 25 #[rv o0, iv 0, iv 1, iv u0, iv 0, iv 0, iv 0, .unset] [(.ref o0)] (fun t k => XS.aloadN X0.here hx rfl (hb hby d12_24) rfl rfl k) ?_
  refine own_go T0 m 27 #[rv o0, iv 0, iv 1, iv u0, iv 0, iv 0, iv 0, .unset] [(.int 0), (.ref o0)] (fun t k => XS.iload X0.here hx rfl (hb hby d12_25) rfl k) ?_
  refine own_go T0 m 28 #[rv o0, iv 0, iv 1, iv u0, iv 0, iv 0, iv 0, .unset] [(.int u1)] (own_iaload X0 hx hZ e0 V_o0 (j := (0 : Int32)) ⟨by decide, by decide⟩ rfl (hb hby d12_27)) ?_
  refine own_go T0 m 30 #[rv o0, iv 0, iv 1, iv u0, iv 0, iv 0, iv 0, iv u1] [] (fun t k => XS.istore X0.here hx rfl (hb hby d12_28) rfl rfl k) ?_
  refine own_go T0 m 32 #[rv o0, iv 0, iv 1, iv u0, iv 0, iv 0, iv 0, iv u1] [(.int u1)] (fun t k => XS.iload X0.here hx rfl (hb hby d12_30) rfl k) ?_
  refine own_go T0 m 33 #[rv o0, iv 0, iv 1, iv u0, iv 0, iv 0, iv 0, iv u1] [(.int u0), (.int u1)] (fun t k => XS.iloadN X0.here hx rfl (hb hby d12_32) rfl k) ?_
  refine own_go T0 m 36 #[rv o0, iv 0, iv 1, iv u0, iv 0, iv 0, iv 0, iv u1] [] (fun t k => XS.icmpNo X0.here hx rfl (hb hby d12_33) rfl (tlt hq0).2.1 k) ?_
  refine own_go T0 m 38 #[rv o0, iv 0, iv 1, iv u0, iv 0, iv 0, iv 0, iv u1] [(.int 0)] (fun t k => XS.iload X0.here hx rfl (hb hby d12_36) rfl k) ?_
  refine own_go T0 m 39 #[rv o0, iv 0, iv 1, iv u0, iv 0, iv 0, iv 0, iv u1] [(.int 1), (.int 0)] (fun t k => XS.iconst X0.here hx rfl (hb hby d12_38) k) ?_
  refine own_go T0 m 40 #[rv o0, iv 0, iv 1, iv u0, iv 0, iv 0, iv 0, iv u1] [(.int ((0 : Int32) + (1 : Int32)))] (fun t k => XS.iadd X0.here hx rfl (hb hby d12_39) rfl k) ?_
  rw [show ((0 : Int32) + (1 : Int32)) = (1 : Int32) from by decide]
  refine own_go T0 m 42 #[rv o0, iv 0, iv 1, iv u0, iv 1, iv 0, iv 0, iv u1] [] (fun t k => XS.istore X0.here hx rfl (hb hby d12_40) rfl rfl k) ?_
  refine own_go T0 m 63 #[rv o0, iv 0, iv 1, iv u0, iv 1, iv 0, iv 0, iv u1] [] (fun t k => XS.goto X0.here hx rfl (pc0 := 42) (pc' := 63) rfl (hb hby d12_42) (by decide) (by decide) k) ?_
  refine own_go T0 m 8 #[rv o0, iv 0, iv 1, iv u0, iv 1, iv 0, iv 0, iv u1] [] (fun t k => XS.goto X0.here hx rfl (pc0 := 63) (pc' := 8) rfl (hb hby d12_63) (by decide) (by decide) k) ?_
  refine own_go T0 m 10 #[rv o0, iv 0, iv 1, iv u0, iv 1, iv 0, iv 0, iv u1] [(.int 1)] (fun t k => XS.iload X0.here hx rfl (hb hby d12_8) rfl k) ?_
  refine own_go T0 m 12 #[rv o0, iv 0, iv 1, iv u0, iv 1, iv 0, iv 0, iv u1] [(.int 0), (.int 1)] (fun t k => XS.iload X0.here hx rfl (hb hby d12_10) rfl k) ?_
  refine own_go T0 m 66 #[rv o0, iv 0, iv 1, iv u0, iv 1, iv 0, iv 0, iv u1] [] (fun t k => XS.icmpYes X0.here hx rfl (pc0 := 12) (pc' := 66) rfl (hb hby d12_12) rfl (tlt (by decide)).2.2.1 (by decide) (by decide) k) ?_
  refine own_go T0 m 68 #[rv o0, iv 0, iv 1, iv u0, iv 1, iv 0, iv 0, iv u1] [(.int 1)] (fun t k => XS.iload X0.here hx rfl (hb hby d12_66) rfl k) ?_
  refine own_go T0 m 69 #[rv o0, iv 0, iv 1, iv u0, iv 1, iv 0, iv 0, iv u1] [(.int 1), (.int 1)] (fun t k => XS.iconst X0.here hx rfl (hb hby d12_68) k) ?_
  refine own_go T0 m 70 #[rv o0, iv 0, iv 1, iv u0, iv 1, iv 0, iv 0, iv u1] [(.int ((1 : Int32) + (1 : Int32)))] (fun t k => XS.iadd X0.here hx rfl (hb hby d12_69) rfl k) ?_
  rw [show ((1 : Int32) + (1 : Int32)) = (2 : Int32) from by decide]
  refine own_go T0 m 71 #[rv o0, iv 0, iv 1, iv u0, iv 1, iv 0, iv 0, iv u1] [(.int (-(2 : Int32)))] (fun t k => XS.ineg X0.here hx rfl (hb hby d12_70) rfl k) ?_
  rw [show (-(2 : Int32)) = (-2 : Int32) from by decide]
  refine own_retI X0 hx hlk hret (hb hby d12_71) (by decide) (by decide) ?_
  exact ⟨rfl, e0, rfl⟩
theorem ef_sp24 (m : MethodId) (q0 : Addr) (q1 : Int32) (q2 : Int32) (q3 : Int32) : entryFrame m #[(.ref q0), (.int q1), (.int q2), (.int q3)] 4 = mkF m 0 #[rv q0, iv q1, iv q2, iv q3] [] := by first | (simp [entryFrame, mkF, argsToLocals, Value.category]; done) | rfl
set_option maxRecDepth 65536 in
set_option maxHeartbeats 40000000 in
theorem sp24 (l : Launch) (Z : State) (a0 : Array Value) (hw : ∀ d ∈ tables_1, d.before a0 Z = true) (ws : List Jvm.Cond) (o0 : Addr) (u0 : Int32) (u1 : Int32) (u2 : Int32) (c0 : ClassId) (h0 : Heap) (n0 : Nat) (Z0 : n0 ≤ h0.size) (V_o0 : Arv Z h0 o0 c0 .int (8 : Int32) [(.int u1), (.int u0), (.int u2), (.int 0), (.int 0), (.int 0), (.int 0), (.int 0)] (.int 0)) (hq0 : u1 < u0) :
    OwnC l Z (⟨"java/util/Arrays", "binarySearch", "([IIII)I"⟩ : MethodName) jdk_65_method_58_code 4 (some .int) ws ({ frames := 1, cells := 0, slots := 0, locals := 19 } : Room) #[(.ref o0), (.int 0), (.int 1), (.int u0)] h0 (fun v h L => v = some (.int (-2)) ∧ h = h0 ∧ L = []) := by
  refine own_entry pf_java_util_Arrays_binarySearch___IIII_I (fun m => ef_sp24 m o0 (0 : Int32) (1 : Int32) u0) ?_
  intro p e s m below meth c T0 X0 hC e0
  obtain ⟨hx, hby, hml, hown, hnm, hret, hlk, hZ⟩ := hC
  have N0 := Fr.nil n0
  have K0 := Keep.refl h0 []
  refine own_go T0 m 1 #[rv o0, iv 0, iv 1, iv u0] [(.ref o0)] (fun t k => XS.aloadN X0.here hx rfl (hb hby d10_0) rfl rfl k) ?_
  refine own_go T0 m 2 #[rv o0, iv 0, iv 1, iv u0] [(.int 8)] (own_alen X0 hx hZ e0 V_o0 (hb hby d10_1)) ?_
  refine own_go T0 m 3 #[rv o0, iv 0, iv 1, iv u0] [(.int 0), (.int 8)] (fun t k => XS.iloadN X0.here hx rfl (hb hby d10_2) rfl k) ?_
  refine own_go T0 m 4 #[rv o0, iv 0, iv 1, iv u0] [(.int 1), (.int 0), (.int 8)] (fun t k => XS.iloadN X0.here hx rfl (hb hby d10_3) rfl k) ?_
  obtain ⟨_, T2, L2, X2, ⟨rfl, e2, rfl⟩, st2⟩ := own_static X0 hx hZ (y := (⟨"java/util/Arrays", "rangeCheck", "(III)V"⟩ : MethodName)) hown (own_w hw 66 rfl) (own_w hw 67 rfl) (own_w hw 64 rfl) (own_w hw 68 rfl) (by decide) (sp25 l Z a0 hw []  h0 n0 Z0 ) e0 0 (argsL := [(.int 8), (.int 0), (.int 1)]) (rest := []) (Ls := #[rv o0, iv 0, iv 1, iv u0]) (by rw [hml]; rfl) (lenOf pd__III_V rfl) rfl rfl (Nat.le_of_eq rfl) (hb hby d10_4) (by decide) (by decide) (by decide) (by decide)
  replace X2 := own_nil X2
  refine own_go T2 m 7 #[rv o0, iv 0, iv 1, iv u0] [] (st2) ?_
  refine own_go T2 m 8 #[rv o0, iv 0, iv 1, iv u0] [(.ref o0)] (fun t k => XS.aloadN X2.here hx rfl (hb hby d10_7) rfl rfl k) ?_
  refine own_go T2 m 9 #[rv o0, iv 0, iv 1, iv u0] [(.int 0), (.ref o0)] (fun t k => XS.iloadN X2.here hx rfl (hb hby d10_8) rfl k) ?_
  refine own_go T2 m 10 #[rv o0, iv 0, iv 1, iv u0] [(.int 1), (.int 0), (.ref o0)] (fun t k => XS.iloadN X2.here hx rfl (hb hby d10_9) rfl k) ?_
  refine own_go T2 m 11 #[rv o0, iv 0, iv 1, iv u0] [(.int u0), (.int 1), (.int 0), (.ref o0)] (fun t k => XS.iloadN X2.here hx rfl (hb hby d10_10) rfl k) ?_
  obtain ⟨_, T3, L3, X3, ⟨rfl, e3, rfl⟩, st3⟩ := own_static X2 hx hZ (y := (⟨"java/util/Arrays", "binarySearch0", "([IIII)I"⟩ : MethodName)) hown (own_w hw 69 rfl) (own_w hw 70 rfl) (own_w hw 64 rfl) (own_w hw 71 rfl) (by decide) (sp26 l Z a0 hw [] o0 u0 u1 u2 c0 h0 n0 Z0 V_o0 hq0) e2 0 (argsL := [(.ref o0), (.int 0), (.int 1), (.int u0)]) (rest := []) (Ls := #[rv o0, iv 0, iv 1, iv u0]) (by rw [hml]; rfl) (lenOf pd___IIII_I rfl) rfl rfl (Nat.le_of_eq rfl) (hb hby d10_11) (by decide) (by decide) (by decide) (by decide)
  replace X3 := own_nil X3
  refine own_go T3 m 14 #[rv o0, iv 0, iv 1, iv u0] [(.int (-2))] (st3) ?_
  refine own_retI X3 hx hlk hret (hb hby d10_14) (by decide) (by decide) ?_
  exact ⟨rfl, e3, rfl⟩
theorem ef_sp23 (m : MethodId) (q0 : Addr) (q1 : Int32) : entryFrame m #[(.ref q0), (.int q1)] 4 = mkF m 0 #[rv q0, iv q1, .unset, .unset] [] := by first | (simp [entryFrame, mkF, argsToLocals, Value.category]; done) | rfl
set_option maxRecDepth 65536 in
set_option maxHeartbeats 40000000 in
theorem sp23 (l : Launch) (Z : State) (a0 : Array Value) (hw : ∀ d ∈ tables_1, d.before a0 Z = true) (ws : List Jvm.Cond) (o0 o1 o2 o3 o4 o5 : Addr) (u0 : Int32) (u1 : Int32) (u2 : Int32) (c0 : ClassId) (c1 : ClassId) (h0 : Heap) (n0 : Nat) (Z0 : n0 ≤ h0.size) (E_o0 : Exa Z h0 o0 OwnK0) (F_count_o0 : Fld Z h0 o0 OwnK0 "count" "I" (.int 1)) (F_cursor_o0 : Fld Z h0 o0 OwnK0 "cursor" "I" (.int (-1))) (F_ends_o0 : Fld Z h0 o0 OwnK0 "ends" "[I" (.ref o1)) (F_lastOpened_o0 : Fld Z h0 o0 OwnK0 "lastOpened" "I" (.int 2)) (F_segmentEnd_o0 : Fld Z h0 o0 OwnK0 "segmentEnd" "[I" (.ref o2)) (F_segmentFirst_o0 : Fld Z h0 o0 OwnK0 "segmentFirst" "[I" (.ref o3)) (F_segmentLimit_o0 : Fld Z h0 o0 OwnK0 "segmentLimit" "[I" (.ref o4)) (F_segments_o0 : Fld Z h0 o0 OwnK0 "segments" "I" (.int 1)) (F_starts_o0 : Fld Z h0 o0 OwnK0 "starts" "[I" (.ref o5)) (V_o3 : Arv Z h0 o3 c0 .int (8 : Int32) [(.int 0), (.int 0), (.int 0), (.int 0), (.int 0), (.int 0), (.int 0), (.int 0)] (.int 0)) (V_o5 : Arv Z h0 o5 c1 .int (8 : Int32) [(.int u1), (.int u0), (.int u2), (.int 0), (.int 0), (.int 0), (.int 0), (.int 0)] (.int 0)) (ne_o0_o1 : o0 ≠ o1) (ne_o0_o2 : o0 ≠ o2) (ne_o0_o3 : o0 ≠ o3) (ne_o0_o4 : o0 ≠ o4) (ne_o0_o5 : o0 ≠ o5) (g_o0 : n0 ≤ o0) (hq0 : u1 < u0) :
    OwnC l Z (⟨OwnK0, "search", "(I)I"⟩ : MethodName) prog_48_method_4_code 4 (some .int) ws ({ frames := 2, cells := 0, slots := 0, locals := 34 } : Room) #[(.ref o0), (.int u0)] h0 (fun v h L => v = some (.int (-1)) ∧ Fr n0 L ∧ Keep h0 h [o0] ∧ Fld Z h o0 OwnK0 "count" "I" (.int 1) ∧ Fld Z h o0 OwnK0 "ends" "[I" (.ref o1) ∧ Fld Z h o0 OwnK0 "lastOpened" "I" (.int 2) ∧ Fld Z h o0 OwnK0 "segmentEnd" "[I" (.ref o2) ∧ Fld Z h o0 OwnK0 "segmentFirst" "[I" (.ref o3) ∧ Fld Z h o0 OwnK0 "segmentLimit" "[I" (.ref o4) ∧ Fld Z h o0 OwnK0 "segments" "I" (.int 1) ∧ Fld Z h o0 OwnK0 "starts" "[I" (.ref o5) ∧ Fld Z h o0 OwnK0 "cursor" "I" (.int 1)) := by
  refine own_entry pf_com_example_wirelens_wirelens_wire_GroupEnds_search__I_I (fun m => ef_sp23 m o0 u0) ?_
  intro p e s m below meth c T0 X0 hC e0
  obtain ⟨hx, hby, hml, hown, hnm, hret, hlk, hZ⟩ := hC
  have N0 := Fr.nil n0
  have K0 := Keep.refl h0 [o0]
  refine own_go T0 m 1 #[rv o0, iv u0, .unset, .unset] [(.ref o0)] (fun t k => XS.aloadN X0.here hx rfl (hb hby d9_0) rfl rfl k) ?_
  obtain ⟨T1, X1, e1, st1⟩ := getF X0 hx hZ hown (host := "") (Or.inl (own_w hw 15 rfl)) Via.refl e0 F_segmentFirst_o0 (g := (mkF m 1 #[rv o0, iv u0, .unset, .unset] [(.ref o0)])) rfl rfl (hb hby d9_1)
  refine own_go T1 m 4 #[rv o0, iv u0, .unset, .unset] [(.ref o3)] (st1) ?_
  refine own_go T1 m 5 #[rv o0, iv u0, .unset, .unset] [(.ref o0), (.ref o3)] (fun t k => XS.aloadN X1.here hx rfl (hb hby d9_4) rfl rfl k) ?_
  obtain ⟨T2, X2, e2, st2⟩ := getF X1 hx hZ hown (host := "") (Or.inl (own_w hw 28 rfl)) Via.refl e1 F_segments_o0 (g := (mkF m 5 #[rv o0, iv u0, .unset, .unset] [(.ref o0), (.ref o3)])) rfl rfl (hb hby d9_5)
  refine own_go T2 m 8 #[rv o0, iv u0, .unset, .unset] [(.int 1), (.ref o3)] (st2) ?_
  refine own_go T2 m 9 #[rv o0, iv u0, .unset, .unset] [(.int 1), (.int 1), (.ref o3)] (fun t k => XS.iconst X2.here hx rfl (hb hby d9_8) k) ?_
  refine own_go T2 m 10 #[rv o0, iv u0, .unset, .unset] [(.int ((1 : Int32) - (1 : Int32))), (.ref o3)] (fun t k => XS.isub X2.here hx rfl (hb hby d9_9) rfl k) ?_
  rw [show ((1 : Int32) - (1 : Int32)) = (0 : Int32) from by decide]
  refine own_go T2 m 11 #[rv o0, iv u0, .unset, .unset] [(.int 0)] (own_iaload X2 hx hZ e2 V_o3 (j := (0 : Int32)) ⟨by decide, by decide⟩ rfl (hb hby d9_10)) ?_
  refine own_go T2 m 12 #[rv o0, iv u0, iv 0, .unset] [] (fun t k => XS.istoreN X2.here hx rfl (hb hby d9_11) rfl rfl k) ?_
  refine own_go T2 m 13 #[rv o0, iv u0, iv 0, .unset] [(.ref o0)] (fun t k => XS.aloadN X2.here hx rfl (hb hby d9_12) rfl rfl k) ?_
  obtain ⟨T4, X4, e4, st4⟩ := getF X2 hx hZ hown (host := "") (Or.inl (own_w hw 21 rfl)) Via.refl e2 F_cursor_o0 (g := (mkF m 13 #[rv o0, iv u0, iv 0, .unset] [(.ref o0)])) rfl rfl (hb hby d9_13)
  refine own_go T4 m 16 #[rv o0, iv u0, iv 0, .unset] [(.int (-1))] (st4) ?_
  refine own_go T4 m 17 #[rv o0, iv u0, iv 0, iv (-1)] [] (fun t k => XS.istoreN X4.here hx rfl (hb hby d9_16) rfl rfl k) ?_
  refine own_go T4 m 18 #[rv o0, iv u0, iv 0, iv (-1)] [(.int (-1))] (fun t k => XS.iloadN X4.here hx rfl (hb hby d9_17) rfl k) ?_
  refine own_go T4 m 19 #[rv o0, iv u0, iv 0, iv (-1)] [(.int 0), (.int (-1))] (fun t k => XS.iloadN X4.here hx rfl (hb hby d9_18) rfl k) ?_
  refine own_go T4 m 39 #[rv o0, iv u0, iv 0, iv (-1)] [] (fun t k => XS.icmpYes X4.here hx rfl (pc0 := 19) (pc' := 39) rfl (hb hby d9_19) rfl (tlt (by decide)).1 (by decide) (by decide) k) ?_
  refine own_go T4 m 40 #[rv o0, iv u0, iv 0, iv (-1)] [(.ref o0)] (fun t k => XS.aloadN X4.here hx rfl (hb hby d9_39) rfl rfl k) ?_
  obtain ⟨T5, X5, e5, st5⟩ := getF X4 hx hZ hown (host := "") (Or.inl (own_w hw 11 rfl)) Via.refl e4 F_starts_o0 (g := (mkF m 40 #[rv o0, iv u0, iv 0, iv (-1)] [(.ref o0)])) rfl rfl (hb hby d9_40)
  refine own_go T5 m 43 #[rv o0, iv u0, iv 0, iv (-1)] [(.ref o5)] (st5) ?_
  refine own_go T5 m 44 #[rv o0, iv u0, iv 0, iv (-1)] [(.int 0), (.ref o5)] (fun t k => XS.iloadN X5.here hx rfl (hb hby d9_43) rfl k) ?_
  refine own_go T5 m 45 #[rv o0, iv u0, iv 0, iv (-1)] [(.ref o0), (.int 0), (.ref o5)] (fun t k => XS.aloadN X5.here hx rfl (hb hby d9_44) rfl rfl k) ?_
  obtain ⟨T6, X6, e6, st6⟩ := getF X5 hx hZ hown (host := "") (Or.inl (own_w hw 30 rfl)) Via.refl e5 F_count_o0 (g := (mkF m 45 #[rv o0, iv u0, iv 0, iv (-1)] [(.ref o0), (.int 0), (.ref o5)])) rfl rfl (hb hby d9_45)
  refine own_go T6 m 48 #[rv o0, iv u0, iv 0, iv (-1)] [(.int 1), (.int 0), (.ref o5)] (st6) ?_
  refine own_go T6 m 49 #[rv o0, iv u0, iv 0, iv (-1)] [(.int u0), (.int 1), (.int 0), (.ref o5)] (fun t k => XS.iloadN X6.here hx rfl (hb hby d9_48) rfl k) ?_
  obtain ⟨_, T7, L7, X7, ⟨rfl, e7, rfl⟩, st7⟩ := own_static X6 hx hZ (y := (⟨"java/util/Arrays", "binarySearch", "([IIII)I"⟩ : MethodName)) hown (own_w hw 62 rfl) (own_w hw 63 rfl) (own_w hw 64 rfl) (own_w hw 65 rfl) (by decide) (sp24 l Z a0 hw [] o5 u0 u1 u2 c1 h0 n0 Z0 V_o5 hq0) e6 0 (argsL := [(.ref o5), (.int 0), (.int 1), (.int u0)]) (rest := []) (Ls := #[rv o0, iv u0, iv 0, iv (-1)]) (by rw [hml]; rfl) (lenOf pd___IIII_I rfl) rfl rfl (Nat.le_of_eq rfl) (hb hby d9_49) (by decide) (by decide) (by decide) (by decide)
  replace X7 := own_nil X7
  refine own_go T7 m 52 #[rv o0, iv u0, iv 0, iv (-1)] [(.int (-2))] (st7) ?_
  refine own_go T7 m 53 #[rv o0, iv u0, iv 0, iv (-2)] [] (fun t k => XS.istoreN X7.here hx rfl (hb hby d9_52) rfl rfl k) ?_
  refine own_go T7 m 54 #[rv o0, iv u0, iv 0, iv (-2)] [(.int (-2))] (fun t k => XS.iloadN X7.here hx rfl (hb hby d9_53) rfl k) ?_
  refine own_go T7 m 57 #[rv o0, iv u0, iv 0, iv (-2)] [] (fun t k => XS.ifNo X7.here hx rfl (hb hby d9_54) rfl ((if0 _ _).trans (tlt (by decide)).2.1) k) ?_
  refine own_go T7 m 58 #[rv o0, iv u0, iv 0, iv (-2)] [(.int (-2))] (fun t k => XS.iloadN X7.here hx rfl (hb hby d9_57) rfl k) ?_
  refine own_go T7 m 59 #[rv o0, iv u0, iv 0, iv (-2)] [(.int (-(-2 : Int32)))] (fun t k => XS.ineg X7.here hx rfl (hb hby d9_58) rfl k) ?_
  rw [show (-(-2 : Int32)) = (2 : Int32) from by decide]
  refine own_go T7 m 60 #[rv o0, iv u0, iv 0, iv (-2)] [(.int 1), (.int 2)] (fun t k => XS.iconst X7.here hx rfl (hb hby d9_59) k) ?_
  refine own_go T7 m 61 #[rv o0, iv u0, iv 0, iv (-2)] [(.int ((2 : Int32) - (1 : Int32)))] (fun t k => XS.isub X7.here hx rfl (hb hby d9_60) rfl k) ?_
  rw [show ((2 : Int32) - (1 : Int32)) = (1 : Int32) from by decide]
  refine own_go T7 m 65 #[rv o0, iv u0, iv 0, iv (-2)] [(.int 1)] (fun t k => XS.goto X7.here hx rfl (pc0 := 61) (pc' := 65) rfl (hb hby d9_61) (by decide) (by decide) k) ?_
  refine own_go T7 m 66 #[rv o0, iv u0, iv 0, iv 1] [] (fun t k => XS.istoreN X7.here hx rfl (hb hby d9_65) rfl rfl k) ?_
  refine own_go T7 m 93 #[rv o0, iv u0, iv 0, iv 1] [] (fun t k => XS.goto X7.here hx rfl (pc0 := 66) (pc' := 93) rfl (hb hby d9_66) (by decide) (by decide) k) ?_
  refine own_go T7 m 94 #[rv o0, iv u0, iv 0, iv 1] [(.ref o0)] (fun t k => XS.aloadN X7.here hx rfl (hb hby d9_93) rfl rfl k) ?_
  refine own_go T7 m 95 #[rv o0, iv u0, iv 0, iv 1] [(.int 1), (.ref o0)] (fun t k => XS.iloadN X7.here hx rfl (hb hby d9_94) rfl k) ?_
  obtain ⟨T8, h8, X8, e8, W8, st8⟩ := putF X7 hx hZ hown (host := "") (Or.inl (own_w hw 21 rfl)) Via.refl e7 F_cursor_o0 E_o0 (Or.inl (own_w hw 22 rfl)) (own_w hw 2 rfl) (ty := .int) (by decide) rfl rfl (g := (mkF m 95 #[rv o0, iv u0, iv 0, iv 1] [(.int 1), (.ref o0)])) rfl rfl (hb hby d9_95)
  have F8 := F_cursor_o0.same W8
  have cf9 := E_o0.wr W8
  have cf10 := F_count_o0.other W8 (Or.inr (slot_ne (Or.inl (own_w hw 31 rfl)) (Or.inl (own_w hw 22 rfl)) (by decide) (t := .int) (t' := .int) (by decide) (by decide)))
  have cf11 := F_ends_o0.other W8 (Or.inr (slot_ne (Or.inl (own_w hw 14 rfl)) (Or.inl (own_w hw 22 rfl)) (by decide) (t := (.array .int)) (t' := .int) (by decide) (by decide)))
  have cf12 := F_lastOpened_o0.other W8 (Or.inr (slot_ne (Or.inl (own_w hw 38 rfl)) (Or.inl (own_w hw 22 rfl)) (by decide) (t := .int) (t' := .int) (by decide) (by decide)))
  have cf13 := F_segmentEnd_o0.other W8 (Or.inr (slot_ne (Or.inl (own_w hw 18 rfl)) (Or.inl (own_w hw 22 rfl)) (by decide) (t := (.array .int)) (t' := .int) (by decide) (by decide)))
  have cf14 := F_segmentFirst_o0.other W8 (Or.inr (slot_ne (Or.inl (own_w hw 16 rfl)) (Or.inl (own_w hw 22 rfl)) (by decide) (t := (.array .int)) (t' := .int) (by decide) (by decide)))
  have cf15 := F_segmentLimit_o0.other W8 (Or.inr (slot_ne (Or.inl (own_w hw 20 rfl)) (Or.inl (own_w hw 22 rfl)) (by decide) (t := (.array .int)) (t' := .int) (by decide) (by decide)))
  have cf16 := F_segments_o0.other W8 (Or.inr (slot_ne (Or.inl (own_w hw 29 rfl)) (Or.inl (own_w hw 22 rfl)) (by decide) (t := .int) (t' := .int) (by decide) (by decide)))
  have cf17 := F_starts_o0.other W8 (Or.inr (slot_ne (Or.inl (own_w hw 12 rfl)) (Or.inl (own_w hw 22 rfl)) (by decide) (t := (.array .int)) (t' := .int) (by decide) (by decide)))
  have cf18 := V_o3.other W8 (Ne.symm ne_o0_o3)
  have cf19 := V_o5.other W8 (Ne.symm ne_o0_o5)
  have Z_8 : n0 ≤ h8.size := Nat.le_trans Z0 (Keep.of_wr W8).1
  have K_8 : Keep h0 h8 [o0] := K0.wr W8 (own_i 0 rfl)
  have N8 := Fr.snoc X8 N0 g_o0
  refine own_go T8 m 98 #[rv o0, iv u0, iv 0, iv 1] [] (st8) ?_
  refine own_go T8 m 99 #[rv o0, iv u0, iv 0, iv 1] [(.int 1)] (fun t k => XS.iloadN X8.here hx rfl (hb hby d9_98) rfl k) ?_
  refine own_go T8 m 100 #[rv o0, iv u0, iv 0, iv 1] [(.ref o0), (.int 1)] (fun t k => XS.aloadN X8.here hx rfl (hb hby d9_99) rfl rfl k) ?_
  obtain ⟨T20, X20, e20, st20⟩ := getF X8 hx hZ hown (host := "") (Or.inl (own_w hw 30 rfl)) Via.refl e8 cf10 (g := (mkF m 100 #[rv o0, iv u0, iv 0, iv 1] [(.ref o0), (.int 1)])) rfl rfl (hb hby d9_100)
  refine own_go T20 m 103 #[rv o0, iv u0, iv 0, iv 1] [(.int 1), (.int 1)] (st20) ?_
  refine own_go T20 m 120 #[rv o0, iv u0, iv 0, iv 1] [] (fun t k => XS.icmpYes X20.here hx rfl (pc0 := 103) (pc' := 120) rfl (hb hby d9_103) rfl (flt (by decide)).2.1 (by decide) (by decide) k) ?_
  refine own_go T20 m 121 #[rv o0, iv u0, iv 0, iv 1] [(.int (-1))] (fun t k => XS.iconst X20.here hx rfl (hb hby d9_120) k) ?_
  refine own_retI X20 hx hlk hret (hb hby d9_121) (by decide) (by decide) ?_
  rw [e20]
  exact ⟨rfl, N8, K_8, cf10, cf11, cf12, cf13, cf14, cf15, cf16, cf17, F8⟩
theorem ef_sp22 (m : MethodId) (q0 : Addr) (q1 : Int32) (q2 : Int32) : entryFrame m #[(.ref q0), (.int q1), (.int q2)] 5 = mkF m 0 #[rv q0, iv q1, iv q2, .unset, .unset] [] := by first | (simp [entryFrame, mkF, argsToLocals, Value.category]; done) | rfl
set_option maxRecDepth 65536 in
set_option maxHeartbeats 40000000 in
theorem sp22 (l : Launch) (Z : State) (a0 : Array Value) (hw : ∀ d ∈ tables_1, d.before a0 Z = true) (ws : List Jvm.Cond) (o0 o1 o2 o3 o4 o5 : Addr) (u0 : Int32) (u1 : Int32) (u2 : Int32) (u3 : Int32) (u4 : Int32) (c0 : ClassId) (c1 : ClassId) (c2 : ClassId) (h0 : Heap) (n0 : Nat) (Z0 : n0 ≤ h0.size) (E_o0 : Exa Z h0 o0 OwnK0) (F_count_o0 : Fld Z h0 o0 OwnK0 "count" "I" (.int 1)) (F_cursor_o0 : Fld Z h0 o0 OwnK0 "cursor" "I" (.int (-1))) (F_ends_o0 : Fld Z h0 o0 OwnK0 "ends" "[I" (.ref o1)) (F_lastOpened_o0 : Fld Z h0 o0 OwnK0 "lastOpened" "I" (.int 2)) (F_segmentEnd_o0 : Fld Z h0 o0 OwnK0 "segmentEnd" "[I" (.ref o2)) (F_segmentFirst_o0 : Fld Z h0 o0 OwnK0 "segmentFirst" "[I" (.ref o3)) (F_segmentLimit_o0 : Fld Z h0 o0 OwnK0 "segmentLimit" "[I" (.ref o4)) (F_segments_o0 : Fld Z h0 o0 OwnK0 "segments" "I" (.int 1)) (F_starts_o0 : Fld Z h0 o0 OwnK0 "starts" "[I" (.ref o5)) (V_o2 : Arv Z h0 o2 c0 .int (8 : Int32) [(.int u2), (.int 0), (.int 0), (.int 0), (.int 0), (.int 0), (.int 0), (.int 0)] (.int 0)) (V_o3 : Arv Z h0 o3 c1 .int (8 : Int32) [(.int 0), (.int 0), (.int 0), (.int 0), (.int 0), (.int 0), (.int 0), (.int 0)] (.int 0)) (V_o5 : Arv Z h0 o5 c2 .int (8 : Int32) [(.int u3), (.int u0), (.int u4), (.int 0), (.int 0), (.int 0), (.int 0), (.int 0)] (.int 0)) (ne_o0_o1 : o0 ≠ o1) (ne_o0_o2 : o0 ≠ o2) (ne_o0_o3 : o0 ≠ o3) (ne_o0_o4 : o0 ≠ o4) (ne_o0_o5 : o0 ≠ o5) (g_o0 : n0 ≤ o0) (hq0 : ¬ (u0 < u3)) (hq1 : u0 < u2) (hq2 : u3 < u0) :
    OwnC l Z (⟨OwnK0, "find", "(II)I"⟩ : MethodName) prog_48_method_2_code 5 (some .int) ws ({ frames := 3, cells := 0, slots := 0, locals := 49 } : Room) #[(.ref o0), (.int u0), (.int u1)] h0 (fun v h L => v = some (.int (-1)) ∧ Fr n0 L ∧ Keep h0 h [o0] ∧ Fld Z h o0 OwnK0 "count" "I" (.int 1) ∧ Fld Z h o0 OwnK0 "ends" "[I" (.ref o1) ∧ Fld Z h o0 OwnK0 "lastOpened" "I" (.int 2) ∧ Fld Z h o0 OwnK0 "segmentEnd" "[I" (.ref o2) ∧ Fld Z h o0 OwnK0 "segmentFirst" "[I" (.ref o3) ∧ Fld Z h o0 OwnK0 "segmentLimit" "[I" (.ref o4) ∧ Fld Z h o0 OwnK0 "segments" "I" (.int 1) ∧ Fld Z h o0 OwnK0 "starts" "[I" (.ref o5) ∧ Fld Z h o0 OwnK0 "cursor" "I" (.int 1)) := by
  refine own_entry pf_com_example_wirelens_wirelens_wire_GroupEnds_find__II_I (fun m => ef_sp22 m o0 u0 u1) ?_
  intro p e s m below meth c T0 X0 hC e0
  obtain ⟨hx, hby, hml, hown, hnm, hret, hlk, hZ⟩ := hC
  have N0 := Fr.nil n0
  have K0 := Keep.refl h0 [o0]
  refine own_go T0 m 1 #[rv o0, iv u0, iv u1, .unset, .unset] [(.ref o0)] (fun t k => XS.aloadN X0.here hx rfl (hb hby d7_0) rfl rfl k) ?_
  obtain ⟨T1, X1, e1, st1⟩ := getF X0 hx hZ hown (host := "") (Or.inl (own_w hw 28 rfl)) Via.refl e0 F_segments_o0 (g := (mkF m 1 #[rv o0, iv u0, iv u1, .unset, .unset] [(.ref o0)])) rfl rfl (hb hby d7_1)
  refine own_go T1 m 4 #[rv o0, iv u0, iv u1, .unset, .unset] [(.int 1)] (st1) ?_
  refine own_go T1 m 7 #[rv o0, iv u0, iv u1, .unset, .unset] [] (fun t k => XS.ifNo X1.here hx rfl (hb hby d7_4) rfl ((if0 _ _).trans (tlt (by decide)).2.2.2) k) ?_
  refine own_go T1 m 8 #[rv o0, iv u0, iv u1, .unset, .unset] [(.ref o0)] (fun t k => XS.aloadN X1.here hx rfl (hb hby d7_7) rfl rfl k) ?_
  refine own_go T1 m 9 #[rv o0, iv u0, iv u1, .unset, .unset] [(.int u0), (.ref o0)] (fun t k => XS.iloadN X1.here hx rfl (hb hby d7_8) rfl k) ?_
  obtain ⟨_, T2, L2, X2, ⟨rfl, e2, rfl⟩, st2⟩ := own_private X1 hx hZ (y := (⟨OwnK0, "newestCovers", "(I)Z"⟩ : MethodName)) hown (own_w hw 54 rfl) (own_w hw 55 rfl) (own_w hw 56 rfl) (own_w hw 2 rfl) (own_w hw 3 rfl) (own_w hw 57 rfl) (by decide) (sp10 l Z a0 hw [] o0 o2 o3 o5 u0 u2 u3 u4 c0 c1 c2 h0 n0 Z0 F_segmentEnd_o0 F_segmentFirst_o0 F_segments_o0 F_starts_o0 V_o2 V_o3 V_o5 hq0 hq1) e1 E_o0 0 (argsL := [(.int u0)]) (rest := []) (Ls := #[rv o0, iv u0, iv u1, .unset, .unset]) (by rw [hml]; rfl) (lenOf pd__I_Z rfl) rfl rfl (Nat.le_of_eq rfl) (hb hby d7_9) (by decide) (by decide) (by decide) (by decide)
  replace X2 := own_nil X2
  refine own_go T2 m 12 #[rv o0, iv u0, iv u1, .unset, .unset] [(.int 1)] (st2) ?_
  refine own_go T2 m 46 #[rv o0, iv u0, iv u1, .unset, .unset] [] (fun t k => XS.ifYes X2.here hx rfl (pc0 := 12) (pc' := 46) rfl (hb hby d7_12) rfl ((if0 _ _).trans (feq (by decide)).2) (by decide) (by decide) k) ?_
  refine own_go T2 m 47 #[rv o0, iv u0, iv u1, .unset, .unset] [(.ref o0)] (fun t k => XS.aloadN X2.here hx rfl (hb hby d7_46) rfl rfl k) ?_
  obtain ⟨T3, X3, e3, st3⟩ := getF X2 hx hZ hown (host := "") (Or.inl (own_w hw 28 rfl)) Via.refl e2 F_segments_o0 (g := (mkF m 47 #[rv o0, iv u0, iv u1, .unset, .unset] [(.ref o0)])) rfl rfl (hb hby d7_47)
  refine own_go T3 m 50 #[rv o0, iv u0, iv u1, .unset, .unset] [(.int 1)] (st3) ?_
  refine own_go T3 m 57 #[rv o0, iv u0, iv u1, .unset, .unset] [] (fun t k => XS.ifYes X3.here hx rfl (pc0 := 50) (pc' := 57) rfl (hb hby d7_50) rfl ((if0 _ _).trans (feq (by decide)).2) (by decide) (by decide) k) ?_
  refine own_go T3 m 58 #[rv o0, iv u0, iv u1, .unset, .unset] [(.ref o0)] (fun t k => XS.aloadN X3.here hx rfl (hb hby d7_57) rfl rfl k) ?_
  refine own_go T3 m 59 #[rv o0, iv u0, iv u1, .unset, .unset] [(.int u0), (.ref o0)] (fun t k => XS.iloadN X3.here hx rfl (hb hby d7_58) rfl k) ?_
  obtain ⟨_, T4, L4, X4, ⟨rfl, Nq4, Kq4, fq0_4, fq1_4, fq2_4, fq3_4, fq4_4, fq5_4, fq6_4, fq7_4, fq8_4⟩, st4⟩ := own_private X3 hx hZ (y := (⟨OwnK0, "search", "(I)I"⟩ : MethodName)) hown (own_w hw 58 rfl) (own_w hw 59 rfl) (own_w hw 60 rfl) (own_w hw 2 rfl) (own_w hw 3 rfl) (own_w hw 61 rfl) (by decide) (sp23 l Z a0 hw [] o0 o1 o2 o3 o4 o5 u0 u3 u4 c1 c2 h0 n0 Z0 E_o0 F_count_o0 F_cursor_o0 F_ends_o0 F_lastOpened_o0 F_segmentEnd_o0 F_segmentFirst_o0 F_segmentLimit_o0 F_segments_o0 F_starts_o0 V_o3 V_o5 ne_o0_o1 ne_o0_o2 ne_o0_o3 ne_o0_o4 ne_o0_o5 g_o0 hq2) e3 E_o0 0 (argsL := [(.int u0)]) (rest := []) (Ls := #[rv o0, iv u0, iv u1, .unset, .unset]) (by rw [hml]; rfl) (lenOf pd__I_I rfl) rfl rfl (Nat.le_of_eq rfl) (hb hby d7_59) (by decide) (by decide) (by decide) (by decide)
  have N4 := Fr.app N0 Nq4
  have cf5 := E_o0.keep Kq4
  have cf6 := V_o2.keep Kq4 (ninS (Ne.symm ne_o0_o2) nin0)
  have cf7 := V_o3.keep Kq4 (ninS (Ne.symm ne_o0_o3) nin0)
  have cf8 := V_o5.keep Kq4 (ninS (Ne.symm ne_o0_o5) nin0)
  have Z_4 : n0 ≤ T4.heap.size := Nat.le_trans Z0 Kq4.1
  have K_4 : Keep h0 T4.heap [o0] := K0.trans Kq4 (allS (own_i 0 rfl) all0)
  refine own_go T4 m 62 #[rv o0, iv u0, iv u1, .unset, .unset] [(.int (-1))] (st4) ?_
  refine own_go T4 m 63 #[rv o0, iv u0, iv u1, iv (-1), .unset] [] (fun t k => XS.istoreN X4.here hx rfl (hb hby d7_62) rfl rfl k) ?_
  refine own_go T4 m 64 #[rv o0, iv u0, iv u1, iv (-1), .unset] [(.int (-1))] (fun t k => XS.iloadN X4.here hx rfl (hb hby d7_63) rfl k) ?_
  refine own_go T4 m 67 #[rv o0, iv u0, iv u1, iv (-1), .unset] [] (fun t k => XS.ifNo X4.here hx rfl (hb hby d7_64) rfl ((if0 _ _).trans (tlt (by decide)).2.1) k) ?_
  refine own_go T4 m 68 #[rv o0, iv u0, iv u1, iv (-1), .unset] [(.int (-1))] (fun t k => XS.iconst X4.here hx rfl (hb hby d7_67) k) ?_
  refine own_go T4 m 70 #[rv o0, iv u0, iv u1, iv (-1), iv (-1)] [] (fun t k => XS.istore X4.here hx rfl (hb hby d7_68) rfl rfl k) ?_
  refine own_go T4 m 113 #[rv o0, iv u0, iv u1, iv (-1), iv (-1)] [] (fun t k => XS.goto X4.here hx rfl (pc0 := 70) (pc' := 113) rfl (hb hby d7_70) (by decide) (by decide) k) ?_
  refine own_go T4 m 115 #[rv o0, iv u0, iv u1, iv (-1), iv (-1)] [(.int (-1))] (fun t k => XS.iload X4.here hx rfl (hb hby d7_113) rfl k) ?_
  refine own_retI X4 hx hlk hret (hb hby d7_115) (by decide) (by decide) ?_
  exact ⟨rfl, N4, K_4, fq0_4, fq1_4, fq2_4, fq3_4, fq4_4, fq5_4, fq6_4, fq7_4, fq8_4⟩
theorem own_db52 (t0 t1 t2 t3 t4 t5 t6 t7 t8 t9 : Int32) (h0 : ¬ (t0 < (0 : Int32))) (h1 : t0 < t1) (h2 : t1 < t2) (h3 : ¬ (t3 < t2)) (h4 : t3 < t4) (h5 : t4 < t5) (h6 : t6 < t7) (h7 : t8 < t9) (h8 : t6 < (64 : Int32)) (h9 : ¬ (t9 < (64 : Int32))) (h10 : t7 < (64 : Int32)) (h11 : ¬ (t8 < (64 : Int32))) : ¬ (t2 < t0) := by
  simp only [Int32.lt_iff_toInt_lt, ← Int32.toInt_inj, Int32.reduceToInt] at *
  omega
theorem own_db53 (t0 t1 t2 t3 t4 t5 t6 t7 t8 t9 : Int32) (h0 : ¬ (t0 < (0 : Int32))) (h1 : t0 < t1) (h2 : t1 < t2) (h3 : ¬ (t3 < t2)) (h4 : t3 < t4) (h5 : t4 < t5) (h6 : t6 < t7) (h7 : t8 < t9) (h8 : t6 < (64 : Int32)) (h9 : ¬ (t9 < (64 : Int32))) (h10 : t7 < (64 : Int32)) (h11 : ¬ (t8 < (64 : Int32))) : t2 < t5 := by
  simp only [Int32.lt_iff_toInt_lt, ← Int32.toInt_inj, Int32.reduceToInt] at *
  omega
theorem own_db54 (t0 t1 t2 t3 t4 t5 t6 t7 t8 t9 : Int32) (h0 : ¬ (t0 < (0 : Int32))) (h1 : t0 < t1) (h2 : t1 < t2) (h3 : ¬ (t3 < t2)) (h4 : t3 < t4) (h5 : t4 < t5) (h6 : t6 < t7) (h7 : t8 < t9) (h8 : t6 < (64 : Int32)) (h9 : ¬ (t9 < (64 : Int32))) (h10 : t7 < (64 : Int32)) (h11 : ¬ (t8 < (64 : Int32))) : t0 < t2 := by
  simp only [Int32.lt_iff_toInt_lt, ← Int32.toInt_inj, Int32.reduceToInt] at *
  omega
theorem ef_sp28 (m : MethodId) (q0 : Addr) (q1 : Int32) : entryFrame m #[(.ref q0), (.int q1)] 4 = mkF m 0 #[rv q0, iv q1, .unset, .unset] [] := by first | (simp [entryFrame, mkF, argsToLocals, Value.category]; done) | rfl
set_option maxRecDepth 65536 in
set_option maxHeartbeats 40000000 in
theorem sp28 (l : Launch) (Z : State) (a0 : Array Value) (hw : ∀ d ∈ tables_1, d.before a0 Z = true) (ws : List Jvm.Cond) (o0 o1 o2 o3 o4 o5 : Addr) (u0 : Int32) (u1 : Int32) (u2 : Int32) (c0 : ClassId) (c1 : ClassId) (h0 : Heap) (n0 : Nat) (Z0 : n0 ≤ h0.size) (E_o0 : Exa Z h0 o0 OwnK0) (F_count_o0 : Fld Z h0 o0 OwnK0 "count" "I" (.int 1)) (F_cursor_o0 : Fld Z h0 o0 OwnK0 "cursor" "I" (.int 1)) (F_ends_o0 : Fld Z h0 o0 OwnK0 "ends" "[I" (.ref o1)) (F_lastOpened_o0 : Fld Z h0 o0 OwnK0 "lastOpened" "I" (.int 2)) (F_segmentEnd_o0 : Fld Z h0 o0 OwnK0 "segmentEnd" "[I" (.ref o2)) (F_segmentFirst_o0 : Fld Z h0 o0 OwnK0 "segmentFirst" "[I" (.ref o3)) (F_segmentLimit_o0 : Fld Z h0 o0 OwnK0 "segmentLimit" "[I" (.ref o4)) (F_segments_o0 : Fld Z h0 o0 OwnK0 "segments" "I" (.int 1)) (F_starts_o0 : Fld Z h0 o0 OwnK0 "starts" "[I" (.ref o5)) (V_o3 : Arv Z h0 o3 c0 .int (8 : Int32) [(.int 0), (.int 0), (.int 0), (.int 0), (.int 0), (.int 0), (.int 0), (.int 0)] (.int 0)) (V_o5 : Arv Z h0 o5 c1 .int (8 : Int32) [(.int u1), (.int u2), (.int u0), (.int 0), (.int 0), (.int 0), (.int 0), (.int 0)] (.int 0)) (ne_o0_o1 : o0 ≠ o1) (ne_o0_o2 : o0 ≠ o2) (ne_o0_o3 : o0 ≠ o3) (ne_o0_o4 : o0 ≠ o4) (ne_o0_o5 : o0 ≠ o5) (g_o0 : n0 ≤ o0) (hq0 : u1 < u0) :
    OwnC l Z (⟨OwnK0, "search", "(I)I"⟩ : MethodName) prog_48_method_4_code 4 (some .int) ws ({ frames := 0, cells := 0, slots := 0, locals := 0 } : Room) #[(.ref o0), (.int u0)] h0 (fun v h L => v = some (.int (-1)) ∧ Fr n0 L ∧ Keep h0 h [o0] ∧ Fld Z h o0 OwnK0 "count" "I" (.int 1) ∧ Fld Z h o0 OwnK0 "ends" "[I" (.ref o1) ∧ Fld Z h o0 OwnK0 "lastOpened" "I" (.int 2) ∧ Fld Z h o0 OwnK0 "segmentEnd" "[I" (.ref o2) ∧ Fld Z h o0 OwnK0 "segmentFirst" "[I" (.ref o3) ∧ Fld Z h o0 OwnK0 "segmentLimit" "[I" (.ref o4) ∧ Fld Z h o0 OwnK0 "segments" "I" (.int 1) ∧ Fld Z h o0 OwnK0 "starts" "[I" (.ref o5) ∧ Fld Z h o0 OwnK0 "cursor" "I" (.int 1)) := by
  refine own_entry pf_com_example_wirelens_wirelens_wire_GroupEnds_search__I_I (fun m => ef_sp28 m o0 u0) ?_
  intro p e s m below meth c T0 X0 hC e0
  obtain ⟨hx, hby, hml, hown, hnm, hret, hlk, hZ⟩ := hC
  have N0 := Fr.nil n0
  have K0 := Keep.refl h0 [o0]
  refine own_go T0 m 1 #[rv o0, iv u0, .unset, .unset] [(.ref o0)] (fun t k => XS.aloadN X0.here hx rfl (hb hby d9_0) rfl rfl k) ?_
  obtain ⟨T1, X1, e1, st1⟩ := getF X0 hx hZ hown (host := "") (Or.inl (own_w hw 15 rfl)) Via.refl e0 F_segmentFirst_o0 (g := (mkF m 1 #[rv o0, iv u0, .unset, .unset] [(.ref o0)])) rfl rfl (hb hby d9_1)
  refine own_go T1 m 4 #[rv o0, iv u0, .unset, .unset] [(.ref o3)] (st1) ?_
  refine own_go T1 m 5 #[rv o0, iv u0, .unset, .unset] [(.ref o0), (.ref o3)] (fun t k => XS.aloadN X1.here hx rfl (hb hby d9_4) rfl rfl k) ?_
  obtain ⟨T2, X2, e2, st2⟩ := getF X1 hx hZ hown (host := "") (Or.inl (own_w hw 28 rfl)) Via.refl e1 F_segments_o0 (g := (mkF m 5 #[rv o0, iv u0, .unset, .unset] [(.ref o0), (.ref o3)])) rfl rfl (hb hby d9_5)
  refine own_go T2 m 8 #[rv o0, iv u0, .unset, .unset] [(.int 1), (.ref o3)] (st2) ?_
  refine own_go T2 m 9 #[rv o0, iv u0, .unset, .unset] [(.int 1), (.int 1), (.ref o3)] (fun t k => XS.iconst X2.here hx rfl (hb hby d9_8) k) ?_
  refine own_go T2 m 10 #[rv o0, iv u0, .unset, .unset] [(.int ((1 : Int32) - (1 : Int32))), (.ref o3)] (fun t k => XS.isub X2.here hx rfl (hb hby d9_9) rfl k) ?_
  rw [show ((1 : Int32) - (1 : Int32)) = (0 : Int32) from by decide]
  refine own_go T2 m 11 #[rv o0, iv u0, .unset, .unset] [(.int 0)] (own_iaload X2 hx hZ e2 V_o3 (j := (0 : Int32)) ⟨by decide, by decide⟩ rfl (hb hby d9_10)) ?_
  refine own_go T2 m 12 #[rv o0, iv u0, iv 0, .unset] [] (fun t k => XS.istoreN X2.here hx rfl (hb hby d9_11) rfl rfl k) ?_
  refine own_go T2 m 13 #[rv o0, iv u0, iv 0, .unset] [(.ref o0)] (fun t k => XS.aloadN X2.here hx rfl (hb hby d9_12) rfl rfl k) ?_
  obtain ⟨T4, X4, e4, st4⟩ := getF X2 hx hZ hown (host := "") (Or.inl (own_w hw 21 rfl)) Via.refl e2 F_cursor_o0 (g := (mkF m 13 #[rv o0, iv u0, iv 0, .unset] [(.ref o0)])) rfl rfl (hb hby d9_13)
  refine own_go T4 m 16 #[rv o0, iv u0, iv 0, .unset] [(.int 1)] (st4) ?_
  refine own_go T4 m 17 #[rv o0, iv u0, iv 0, iv 1] [] (fun t k => XS.istoreN X4.here hx rfl (hb hby d9_16) rfl rfl k) ?_
  refine own_go T4 m 18 #[rv o0, iv u0, iv 0, iv 1] [(.int 1)] (fun t k => XS.iloadN X4.here hx rfl (hb hby d9_17) rfl k) ?_
  refine own_go T4 m 19 #[rv o0, iv u0, iv 0, iv 1] [(.int 0), (.int 1)] (fun t k => XS.iloadN X4.here hx rfl (hb hby d9_18) rfl k) ?_
  refine own_go T4 m 22 #[rv o0, iv u0, iv 0, iv 1] [] (fun t k => XS.icmpNo X4.here hx rfl (hb hby d9_19) rfl (flt (by decide)).1 k) ?_
  refine own_go T4 m 23 #[rv o0, iv u0, iv 0, iv 1] [(.int 1)] (fun t k => XS.iloadN X4.here hx rfl (hb hby d9_22) rfl k) ?_
  refine own_go T4 m 24 #[rv o0, iv u0, iv 0, iv 1] [(.int 0), (.int 1)] (fun t k => XS.iloadN X4.here hx rfl (hb hby d9_23) rfl k) ?_
  refine own_go T4 m 27 #[rv o0, iv u0, iv 0, iv 1] [] (fun t k => XS.icmpNo X4.here hx rfl (hb hby d9_24) rfl (tlt (by decide)).2.2.2 k) ?_
  refine own_go T4 m 28 #[rv o0, iv u0, iv 0, iv 1] [(.ref o0)] (fun t k => XS.aloadN X4.here hx rfl (hb hby d9_27) rfl rfl k) ?_
  obtain ⟨T5, X5, e5, st5⟩ := getF X4 hx hZ hown (host := "") (Or.inl (own_w hw 11 rfl)) Via.refl e4 F_starts_o0 (g := (mkF m 28 #[rv o0, iv u0, iv 0, iv 1] [(.ref o0)])) rfl rfl (hb hby d9_28)
  refine own_go T5 m 31 #[rv o0, iv u0, iv 0, iv 1] [(.ref o5)] (st5) ?_
  refine own_go T5 m 32 #[rv o0, iv u0, iv 0, iv 1] [(.int 1), (.ref o5)] (fun t k => XS.iloadN X5.here hx rfl (hb hby d9_31) rfl k) ?_
  refine own_go T5 m 33 #[rv o0, iv u0, iv 0, iv 1] [(.int 1), (.int 1), (.ref o5)] (fun t k => XS.iconst X5.here hx rfl (hb hby d9_32) k) ?_
  refine own_go T5 m 34 #[rv o0, iv u0, iv 0, iv 1] [(.int ((1 : Int32) - (1 : Int32))), (.ref o5)] (fun t k => XS.isub X5.here hx rfl (hb hby d9_33) rfl k) ?_
  rw [show ((1 : Int32) - (1 : Int32)) = (0 : Int32) from by decide]
  refine own_go T5 m 35 #[rv o0, iv u0, iv 0, iv 1] [(.int u1)] (own_iaload X5 hx hZ e5 V_o5 (j := (0 : Int32)) ⟨by decide, by decide⟩ rfl (hb hby d9_34)) ?_
  refine own_go T5 m 36 #[rv o0, iv u0, iv 0, iv 1] [(.int u0), (.int u1)] (fun t k => XS.iloadN X5.here hx rfl (hb hby d9_35) rfl k) ?_
  refine own_go T5 m 69 #[rv o0, iv u0, iv 0, iv 1] [] (fun t k => XS.icmpYes X5.here hx rfl (pc0 := 36) (pc' := 69) rfl (hb hby d9_36) rfl (tlt hq0).1 (by decide) (by decide) k) ?_
  refine own_go T5 m 70 #[rv o0, iv u0, iv 0, iv 1] [(.int 1)] (fun t k => XS.iloadN X5.here hx rfl (hb hby d9_69) rfl k) ?_
  refine own_go T5 m 71 #[rv o0, iv u0, iv 0, iv 1] [(.ref o0), (.int 1)] (fun t k => XS.aloadN X5.here hx rfl (hb hby d9_70) rfl rfl k) ?_
  obtain ⟨T7, X7, e7, st7⟩ := getF X5 hx hZ hown (host := "") (Or.inl (own_w hw 30 rfl)) Via.refl e5 F_count_o0 (g := (mkF m 71 #[rv o0, iv u0, iv 0, iv 1] [(.ref o0), (.int 1)])) rfl rfl (hb hby d9_71)
  refine own_go T7 m 74 #[rv o0, iv u0, iv 0, iv 1] [(.int 1), (.int 1)] (st7) ?_
  refine own_go T7 m 93 #[rv o0, iv u0, iv 0, iv 1] [] (fun t k => XS.icmpYes X7.here hx rfl (pc0 := 74) (pc' := 93) rfl (hb hby d9_74) rfl (flt (by decide)).2.1 (by decide) (by decide) k) ?_
  refine own_go T7 m 94 #[rv o0, iv u0, iv 0, iv 1] [(.ref o0)] (fun t k => XS.aloadN X7.here hx rfl (hb hby d9_93) rfl rfl k) ?_
  refine own_go T7 m 95 #[rv o0, iv u0, iv 0, iv 1] [(.int 1), (.ref o0)] (fun t k => XS.iloadN X7.here hx rfl (hb hby d9_94) rfl k) ?_
  obtain ⟨T8, h8, X8, e8, W8, st8⟩ := putF X7 hx hZ hown (host := "") (Or.inl (own_w hw 21 rfl)) Via.refl e7 F_cursor_o0 E_o0 (Or.inl (own_w hw 22 rfl)) (own_w hw 2 rfl) (ty := .int) (by decide) rfl rfl (g := (mkF m 95 #[rv o0, iv u0, iv 0, iv 1] [(.int 1), (.ref o0)])) rfl rfl (hb hby d9_95)
  have F8 := F_cursor_o0.same W8
  have cf9 := E_o0.wr W8
  have cf10 := F_count_o0.other W8 (Or.inr (slot_ne (Or.inl (own_w hw 31 rfl)) (Or.inl (own_w hw 22 rfl)) (by decide) (t := .int) (t' := .int) (by decide) (by decide)))
  have cf11 := F_ends_o0.other W8 (Or.inr (slot_ne (Or.inl (own_w hw 14 rfl)) (Or.inl (own_w hw 22 rfl)) (by decide) (t := (.array .int)) (t' := .int) (by decide) (by decide)))
  have cf12 := F_lastOpened_o0.other W8 (Or.inr (slot_ne (Or.inl (own_w hw 38 rfl)) (Or.inl (own_w hw 22 rfl)) (by decide) (t := .int) (t' := .int) (by decide) (by decide)))
  have cf13 := F_segmentEnd_o0.other W8 (Or.inr (slot_ne (Or.inl (own_w hw 18 rfl)) (Or.inl (own_w hw 22 rfl)) (by decide) (t := (.array .int)) (t' := .int) (by decide) (by decide)))
  have cf14 := F_segmentFirst_o0.other W8 (Or.inr (slot_ne (Or.inl (own_w hw 16 rfl)) (Or.inl (own_w hw 22 rfl)) (by decide) (t := (.array .int)) (t' := .int) (by decide) (by decide)))
  have cf15 := F_segmentLimit_o0.other W8 (Or.inr (slot_ne (Or.inl (own_w hw 20 rfl)) (Or.inl (own_w hw 22 rfl)) (by decide) (t := (.array .int)) (t' := .int) (by decide) (by decide)))
  have cf16 := F_segments_o0.other W8 (Or.inr (slot_ne (Or.inl (own_w hw 29 rfl)) (Or.inl (own_w hw 22 rfl)) (by decide) (t := .int) (t' := .int) (by decide) (by decide)))
  have cf17 := F_starts_o0.other W8 (Or.inr (slot_ne (Or.inl (own_w hw 12 rfl)) (Or.inl (own_w hw 22 rfl)) (by decide) (t := (.array .int)) (t' := .int) (by decide) (by decide)))
  have cf18 := V_o3.other W8 (Ne.symm ne_o0_o3)
  have cf19 := V_o5.other W8 (Ne.symm ne_o0_o5)
  have Z_8 : n0 ≤ h8.size := Nat.le_trans Z0 (Keep.of_wr W8).1
  have K_8 : Keep h0 h8 [o0] := K0.wr W8 (own_i 0 rfl)
  have N8 := Fr.snoc X8 N0 g_o0
  refine own_go T8 m 98 #[rv o0, iv u0, iv 0, iv 1] [] (st8) ?_
  refine own_go T8 m 99 #[rv o0, iv u0, iv 0, iv 1] [(.int 1)] (fun t k => XS.iloadN X8.here hx rfl (hb hby d9_98) rfl k) ?_
  refine own_go T8 m 100 #[rv o0, iv u0, iv 0, iv 1] [(.ref o0), (.int 1)] (fun t k => XS.aloadN X8.here hx rfl (hb hby d9_99) rfl rfl k) ?_
  obtain ⟨T20, X20, e20, st20⟩ := getF X8 hx hZ hown (host := "") (Or.inl (own_w hw 30 rfl)) Via.refl e8 cf10 (g := (mkF m 100 #[rv o0, iv u0, iv 0, iv 1] [(.ref o0), (.int 1)])) rfl rfl (hb hby d9_100)
  refine own_go T20 m 103 #[rv o0, iv u0, iv 0, iv 1] [(.int 1), (.int 1)] (st20) ?_
  refine own_go T20 m 120 #[rv o0, iv u0, iv 0, iv 1] [] (fun t k => XS.icmpYes X20.here hx rfl (pc0 := 103) (pc' := 120) rfl (hb hby d9_103) rfl (flt (by decide)).2.1 (by decide) (by decide) k) ?_
  refine own_go T20 m 121 #[rv o0, iv u0, iv 0, iv 1] [(.int (-1))] (fun t k => XS.iconst X20.here hx rfl (hb hby d9_120) k) ?_
  refine own_retI X20 hx hlk hret (hb hby d9_121) (by decide) (by decide) ?_
  rw [e20]
  exact ⟨rfl, N8, K_8, cf10, cf11, cf12, cf13, cf14, cf15, cf16, cf17, F8⟩
theorem ef_sp27 (m : MethodId) (q0 : Addr) (q1 : Int32) (q2 : Int32) : entryFrame m #[(.ref q0), (.int q1), (.int q2)] 5 = mkF m 0 #[rv q0, iv q1, iv q2, .unset, .unset] [] := by first | (simp [entryFrame, mkF, argsToLocals, Value.category]; done) | rfl
set_option maxRecDepth 65536 in
set_option maxHeartbeats 40000000 in
theorem sp27 (l : Launch) (Z : State) (a0 : Array Value) (hw : ∀ d ∈ tables_1, d.before a0 Z = true) (ws : List Jvm.Cond) (o0 o1 o2 o3 o4 o5 : Addr) (u0 : Int32) (u1 : Int32) (u2 : Int32) (u3 : Int32) (u4 : Int32) (c0 : ClassId) (c1 : ClassId) (c2 : ClassId) (h0 : Heap) (n0 : Nat) (Z0 : n0 ≤ h0.size) (E_o0 : Exa Z h0 o0 OwnK0) (F_count_o0 : Fld Z h0 o0 OwnK0 "count" "I" (.int 1)) (F_cursor_o0 : Fld Z h0 o0 OwnK0 "cursor" "I" (.int 1)) (F_ends_o0 : Fld Z h0 o0 OwnK0 "ends" "[I" (.ref o1)) (F_lastOpened_o0 : Fld Z h0 o0 OwnK0 "lastOpened" "I" (.int 2)) (F_segmentEnd_o0 : Fld Z h0 o0 OwnK0 "segmentEnd" "[I" (.ref o2)) (F_segmentFirst_o0 : Fld Z h0 o0 OwnK0 "segmentFirst" "[I" (.ref o3)) (F_segmentLimit_o0 : Fld Z h0 o0 OwnK0 "segmentLimit" "[I" (.ref o4)) (F_segments_o0 : Fld Z h0 o0 OwnK0 "segments" "I" (.int 1)) (F_starts_o0 : Fld Z h0 o0 OwnK0 "starts" "[I" (.ref o5)) (V_o2 : Arv Z h0 o2 c0 .int (8 : Int32) [(.int u2), (.int 0), (.int 0), (.int 0), (.int 0), (.int 0), (.int 0), (.int 0)] (.int 0)) (V_o3 : Arv Z h0 o3 c1 .int (8 : Int32) [(.int 0), (.int 0), (.int 0), (.int 0), (.int 0), (.int 0), (.int 0), (.int 0)] (.int 0)) (V_o5 : Arv Z h0 o5 c2 .int (8 : Int32) [(.int u3), (.int u4), (.int u0), (.int 0), (.int 0), (.int 0), (.int 0), (.int 0)] (.int 0)) (ne_o0_o1 : o0 ≠ o1) (ne_o0_o2 : o0 ≠ o2) (ne_o0_o3 : o0 ≠ o3) (ne_o0_o4 : o0 ≠ o4) (ne_o0_o5 : o0 ≠ o5) (g_o0 : n0 ≤ o0) (hq0 : ¬ (u0 < u3)) (hq1 : u0 < u2) (hq2 : u3 < u0) :
    OwnC l Z (⟨OwnK0, "find", "(II)I"⟩ : MethodName) prog_48_method_2_code 5 (some .int) ws ({ frames := 1, cells := 0, slots := 0, locals := 15 } : Room) #[(.ref o0), (.int u0), (.int u1)] h0 (fun v h L => v = some (.int (-1)) ∧ Fr n0 L ∧ Keep h0 h [o0] ∧ Fld Z h o0 OwnK0 "count" "I" (.int 1) ∧ Fld Z h o0 OwnK0 "ends" "[I" (.ref o1) ∧ Fld Z h o0 OwnK0 "lastOpened" "I" (.int 2) ∧ Fld Z h o0 OwnK0 "segmentEnd" "[I" (.ref o2) ∧ Fld Z h o0 OwnK0 "segmentFirst" "[I" (.ref o3) ∧ Fld Z h o0 OwnK0 "segmentLimit" "[I" (.ref o4) ∧ Fld Z h o0 OwnK0 "segments" "I" (.int 1) ∧ Fld Z h o0 OwnK0 "starts" "[I" (.ref o5) ∧ Fld Z h o0 OwnK0 "cursor" "I" (.int 1)) := by
  refine own_entry pf_com_example_wirelens_wirelens_wire_GroupEnds_find__II_I (fun m => ef_sp27 m o0 u0 u1) ?_
  intro p e s m below meth c T0 X0 hC e0
  obtain ⟨hx, hby, hml, hown, hnm, hret, hlk, hZ⟩ := hC
  have N0 := Fr.nil n0
  have K0 := Keep.refl h0 [o0]
  refine own_go T0 m 1 #[rv o0, iv u0, iv u1, .unset, .unset] [(.ref o0)] (fun t k => XS.aloadN X0.here hx rfl (hb hby d7_0) rfl rfl k) ?_
  obtain ⟨T1, X1, e1, st1⟩ := getF X0 hx hZ hown (host := "") (Or.inl (own_w hw 28 rfl)) Via.refl e0 F_segments_o0 (g := (mkF m 1 #[rv o0, iv u0, iv u1, .unset, .unset] [(.ref o0)])) rfl rfl (hb hby d7_1)
  refine own_go T1 m 4 #[rv o0, iv u0, iv u1, .unset, .unset] [(.int 1)] (st1) ?_
  refine own_go T1 m 7 #[rv o0, iv u0, iv u1, .unset, .unset] [] (fun t k => XS.ifNo X1.here hx rfl (hb hby d7_4) rfl ((if0 _ _).trans (tlt (by decide)).2.2.2) k) ?_
  refine own_go T1 m 8 #[rv o0, iv u0, iv u1, .unset, .unset] [(.ref o0)] (fun t k => XS.aloadN X1.here hx rfl (hb hby d7_7) rfl rfl k) ?_
  refine own_go T1 m 9 #[rv o0, iv u0, iv u1, .unset, .unset] [(.int u0), (.ref o0)] (fun t k => XS.iloadN X1.here hx rfl (hb hby d7_8) rfl k) ?_
  obtain ⟨_, T2, L2, X2, ⟨rfl, e2, rfl⟩, st2⟩ := own_private X1 hx hZ (y := (⟨OwnK0, "newestCovers", "(I)Z"⟩ : MethodName)) hown (own_w hw 54 rfl) (own_w hw 55 rfl) (own_w hw 56 rfl) (own_w hw 2 rfl) (own_w hw 3 rfl) (own_w hw 57 rfl) (by decide) (sp16 l Z a0 hw [] o0 o2 o3 o5 u0 u2 u3 u4 c0 c1 c2 h0 n0 Z0 F_segmentEnd_o0 F_segmentFirst_o0 F_segments_o0 F_starts_o0 V_o2 V_o3 V_o5 hq0 hq1) e1 E_o0 0 (argsL := [(.int u0)]) (rest := []) (Ls := #[rv o0, iv u0, iv u1, .unset, .unset]) (by rw [hml]; rfl) (lenOf pd__I_Z rfl) rfl rfl (Nat.le_of_eq rfl) (hb hby d7_9) (by decide) (by decide) (by decide) (by decide)
  replace X2 := own_nil X2
  refine own_go T2 m 12 #[rv o0, iv u0, iv u1, .unset, .unset] [(.int 1)] (st2) ?_
  refine own_go T2 m 46 #[rv o0, iv u0, iv u1, .unset, .unset] [] (fun t k => XS.ifYes X2.here hx rfl (pc0 := 12) (pc' := 46) rfl (hb hby d7_12) rfl ((if0 _ _).trans (feq (by decide)).2) (by decide) (by decide) k) ?_
  refine own_go T2 m 47 #[rv o0, iv u0, iv u1, .unset, .unset] [(.ref o0)] (fun t k => XS.aloadN X2.here hx rfl (hb hby d7_46) rfl rfl k) ?_
  obtain ⟨T3, X3, e3, st3⟩ := getF X2 hx hZ hown (host := "") (Or.inl (own_w hw 28 rfl)) Via.refl e2 F_segments_o0 (g := (mkF m 47 #[rv o0, iv u0, iv u1, .unset, .unset] [(.ref o0)])) rfl rfl (hb hby d7_47)
  refine own_go T3 m 50 #[rv o0, iv u0, iv u1, .unset, .unset] [(.int 1)] (st3) ?_
  refine own_go T3 m 57 #[rv o0, iv u0, iv u1, .unset, .unset] [] (fun t k => XS.ifYes X3.here hx rfl (pc0 := 50) (pc' := 57) rfl (hb hby d7_50) rfl ((if0 _ _).trans (feq (by decide)).2) (by decide) (by decide) k) ?_
  refine own_go T3 m 58 #[rv o0, iv u0, iv u1, .unset, .unset] [(.ref o0)] (fun t k => XS.aloadN X3.here hx rfl (hb hby d7_57) rfl rfl k) ?_
  refine own_go T3 m 59 #[rv o0, iv u0, iv u1, .unset, .unset] [(.int u0), (.ref o0)] (fun t k => XS.iloadN X3.here hx rfl (hb hby d7_58) rfl k) ?_
  obtain ⟨_, T4, L4, X4, ⟨rfl, Nq4, Kq4, fq0_4, fq1_4, fq2_4, fq3_4, fq4_4, fq5_4, fq6_4, fq7_4, fq8_4⟩, st4⟩ := own_private X3 hx hZ (y := (⟨OwnK0, "search", "(I)I"⟩ : MethodName)) hown (own_w hw 58 rfl) (own_w hw 59 rfl) (own_w hw 60 rfl) (own_w hw 2 rfl) (own_w hw 3 rfl) (own_w hw 61 rfl) (by decide) (sp28 l Z a0 hw [] o0 o1 o2 o3 o4 o5 u0 u3 u4 c1 c2 h0 n0 Z0 E_o0 F_count_o0 F_cursor_o0 F_ends_o0 F_lastOpened_o0 F_segmentEnd_o0 F_segmentFirst_o0 F_segmentLimit_o0 F_segments_o0 F_starts_o0 V_o3 V_o5 ne_o0_o1 ne_o0_o2 ne_o0_o3 ne_o0_o4 ne_o0_o5 g_o0 hq2) e3 E_o0 0 (argsL := [(.int u0)]) (rest := []) (Ls := #[rv o0, iv u0, iv u1, .unset, .unset]) (by rw [hml]; rfl) (lenOf pd__I_I rfl) rfl rfl (Nat.le_of_eq rfl) (hb hby d7_59) (by decide) (by decide) (by decide) (by decide)
  have N4 := Fr.app N0 Nq4
  have cf5 := E_o0.keep Kq4
  have cf6 := V_o2.keep Kq4 (ninS (Ne.symm ne_o0_o2) nin0)
  have cf7 := V_o3.keep Kq4 (ninS (Ne.symm ne_o0_o3) nin0)
  have cf8 := V_o5.keep Kq4 (ninS (Ne.symm ne_o0_o5) nin0)
  have Z_4 : n0 ≤ T4.heap.size := Nat.le_trans Z0 Kq4.1
  have K_4 : Keep h0 T4.heap [o0] := K0.trans Kq4 (allS (own_i 0 rfl) all0)
  refine own_go T4 m 62 #[rv o0, iv u0, iv u1, .unset, .unset] [(.int (-1))] (st4) ?_
  refine own_go T4 m 63 #[rv o0, iv u0, iv u1, iv (-1), .unset] [] (fun t k => XS.istoreN X4.here hx rfl (hb hby d7_62) rfl rfl k) ?_
  refine own_go T4 m 64 #[rv o0, iv u0, iv u1, iv (-1), .unset] [(.int (-1))] (fun t k => XS.iloadN X4.here hx rfl (hb hby d7_63) rfl k) ?_
  refine own_go T4 m 67 #[rv o0, iv u0, iv u1, iv (-1), .unset] [] (fun t k => XS.ifNo X4.here hx rfl (hb hby d7_64) rfl ((if0 _ _).trans (tlt (by decide)).2.1) k) ?_
  refine own_go T4 m 68 #[rv o0, iv u0, iv u1, iv (-1), .unset] [(.int (-1))] (fun t k => XS.iconst X4.here hx rfl (hb hby d7_67) k) ?_
  refine own_go T4 m 70 #[rv o0, iv u0, iv u1, iv (-1), iv (-1)] [] (fun t k => XS.istore X4.here hx rfl (hb hby d7_68) rfl rfl k) ?_
  refine own_go T4 m 113 #[rv o0, iv u0, iv u1, iv (-1), iv (-1)] [] (fun t k => XS.goto X4.here hx rfl (pc0 := 70) (pc' := 113) rfl (hb hby d7_70) (by decide) (by decide) k) ?_
  refine own_go T4 m 115 #[rv o0, iv u0, iv u1, iv (-1), iv (-1)] [(.int (-1))] (fun t k => XS.iload X4.here hx rfl (hb hby d7_113) rfl k) ?_
  refine own_retI X4 hx hlk hret (hb hby d7_115) (by decide) (by decide) ?_
  exact ⟨rfl, N4, K_4, fq0_4, fq1_4, fq2_4, fq3_4, fq4_4, fq5_4, fq6_4, fq7_4, fq8_4⟩
theorem own_db58 (t0 t1 t2 t3 t4 t5 t6 t7 t8 t9 : Int32) (h0 : ¬ (t0 < (0 : Int32))) (h1 : t0 < t1) (h2 : t1 < t2) (h3 : ¬ (t3 < t2)) (h4 : t3 < t4) (h5 : t4 < t5) (h6 : t6 < t7) (h7 : t8 < t9) (h8 : t6 < (64 : Int32)) (h9 : ¬ (t9 < (64 : Int32))) (h10 : ¬ (t7 < (64 : Int32))) (h11 : t8 < (64 : Int32)) : ¬ (t1 < t0) := by
  simp only [Int32.lt_iff_toInt_lt, ← Int32.toInt_inj, Int32.reduceToInt] at *
  omega
theorem own_db59 (t0 t1 t2 t3 t4 t5 t6 t7 t8 t9 : Int32) (h0 : ¬ (t0 < (0 : Int32))) (h1 : t0 < t1) (h2 : t1 < t2) (h3 : ¬ (t3 < t2)) (h4 : t3 < t4) (h5 : t4 < t5) (h6 : t6 < t7) (h7 : t8 < t9) (h8 : t6 < (64 : Int32)) (h9 : ¬ (t9 < (64 : Int32))) (h10 : ¬ (t7 < (64 : Int32))) (h11 : t8 < (64 : Int32)) : t1 < t5 := by
  simp only [Int32.lt_iff_toInt_lt, ← Int32.toInt_inj, Int32.reduceToInt] at *
  omega
theorem own_db60 (t0 t1 t2 t3 t4 t5 t6 t7 t8 t9 : Int32) (h0 : ¬ (t0 < (0 : Int32))) (h1 : t0 < t1) (h2 : t1 < t2) (h3 : ¬ (t3 < t2)) (h4 : t3 < t4) (h5 : t4 < t5) (h6 : t6 < t7) (h7 : t8 < t9) (h8 : t6 < (64 : Int32)) (h9 : ¬ (t9 < (64 : Int32))) (h10 : ¬ (t7 < (64 : Int32))) (h11 : t8 < (64 : Int32)) : ¬ (t1 < t1) := by
  simp only [Int32.lt_iff_toInt_lt, ← Int32.toInt_inj, Int32.reduceToInt] at *
  omega
theorem own_db61 (t0 t1 t2 t3 t4 t5 t6 t7 t8 t9 : Int32) (h0 : ¬ (t0 < (0 : Int32))) (h1 : t0 < t1) (h2 : t1 < t2) (h3 : ¬ (t3 < t2)) (h4 : t3 < t4) (h5 : t4 < t5) (h6 : t6 < t7) (h7 : t8 < t9) (h8 : t6 < (64 : Int32)) (h9 : ¬ (t9 < (64 : Int32))) (h10 : ¬ (t7 < (64 : Int32))) (h11 : t8 < (64 : Int32)) : ¬ (t4 = (-2 : Int32)) := by
  simp only [Int32.lt_iff_toInt_lt, ← Int32.toInt_inj, Int32.reduceToInt] at *
  omega
theorem own_db66 (t0 t1 t2 t3 t4 t5 t6 t7 t8 t9 : Int32) (h0 : ¬ (t0 < (0 : Int32))) (h1 : t0 < t1) (h2 : t1 < t2) (h3 : ¬ (t3 < t2)) (h4 : t3 < t4) (h5 : t4 < t5) (h6 : t6 < t7) (h7 : t8 < t9) (h8 : t6 < (64 : Int32)) (h9 : ¬ (t9 < (64 : Int32))) (h10 : ¬ (t7 < (64 : Int32))) (h11 : t8 < (64 : Int32)) : ¬ (t2 < t0) := by
  simp only [Int32.lt_iff_toInt_lt, ← Int32.toInt_inj, Int32.reduceToInt] at *
  omega
theorem own_db67 (t0 t1 t2 t3 t4 t5 t6 t7 t8 t9 : Int32) (h0 : ¬ (t0 < (0 : Int32))) (h1 : t0 < t1) (h2 : t1 < t2) (h3 : ¬ (t3 < t2)) (h4 : t3 < t4) (h5 : t4 < t5) (h6 : t6 < t7) (h7 : t8 < t9) (h8 : t6 < (64 : Int32)) (h9 : ¬ (t9 < (64 : Int32))) (h10 : ¬ (t7 < (64 : Int32))) (h11 : t8 < (64 : Int32)) : t2 < t5 := by
  simp only [Int32.lt_iff_toInt_lt, ← Int32.toInt_inj, Int32.reduceToInt] at *
  omega
theorem own_db68 (t0 t1 t2 t3 t4 t5 t6 t7 t8 t9 : Int32) (h0 : ¬ (t0 < (0 : Int32))) (h1 : t0 < t1) (h2 : t1 < t2) (h3 : ¬ (t3 < t2)) (h4 : t3 < t4) (h5 : t4 < t5) (h6 : t6 < t7) (h7 : t8 < t9) (h8 : t6 < (64 : Int32)) (h9 : ¬ (t9 < (64 : Int32))) (h10 : ¬ (t7 < (64 : Int32))) (h11 : t8 < (64 : Int32)) : t0 < t2 := by
  simp only [Int32.lt_iff_toInt_lt, ← Int32.toInt_inj, Int32.reduceToInt] at *
  omega
theorem ef_sp29 (m : MethodId) (q0 : Addr) (q1 : Int32) (q2 : Int32) : entryFrame m #[(.ref q0), (.int q1), (.int q2)] 6 = mkF m 0 #[rv q0, iv q1, iv q2, .unset, .unset, .unset] [] := by first | (simp [entryFrame, mkF, argsToLocals, Value.category]; done) | rfl
set_option maxRecDepth 65536 in
set_option maxHeartbeats 40000000 in
theorem sp29 (l : Launch) (Z : State) (a0 : Array Value) (hw : ∀ d ∈ tables_1, d.before a0 Z = true) (ws : List Jvm.Cond) (o0 o1 o2 o3 : Addr) (u0 : Int32) (u1 : Int32) (u2 : Int32) (u3 : Int32) (c0 : ClassId) (c1 : ClassId) (c2 : ClassId) (h0 : Heap) (n0 : Nat) (Z0 : n0 ≤ h0.size) (F_ends_o0 : Fld Z h0 o0 OwnK0 "ends" "[I" (.ref o1)) (F_segmentFirst_o0 : Fld Z h0 o0 OwnK0 "segmentFirst" "[I" (.ref o2)) (F_segments_o0 : Fld Z h0 o0 OwnK0 "segments" "I" (.int 1)) (F_starts_o0 : Fld Z h0 o0 OwnK0 "starts" "[I" (.ref o3)) (V_o1 : Arv Z h0 o1 c0 .int (8 : Int32) [(.int (-2)), (.int (-2)), (.int (-2)), (.int 0), (.int 0), (.int 0), (.int 0), (.int 0)] (.int 0)) (V_o2 : Arv Z h0 o2 c1 .int (8 : Int32) [(.int 0), (.int 0), (.int 0), (.int 0), (.int 0), (.int 0), (.int 0), (.int 0)] (.int 0)) (V_o3 : Arv Z h0 o3 c2 .int (8 : Int32) [(.int u1), (.int u2), (.int u3), (.int 0), (.int 0), (.int 0), (.int 0), (.int 0)] (.int 0)) (ne_o0_o1 : o0 ≠ o1) (ne_o1_o2 : o1 ≠ o2) (ne_o1_o3 : o1 ≠ o3) (g_o1 : n0 ≤ o1) (hq0 : ¬ ((u0 - u2) < (64 : Int32))) (hq1 : ¬ ((u2 - u1) < (64 : Int32))) :
    OwnC l Z (⟨OwnK0, "closed", "(II)V"⟩ : MethodName) prog_48_method_7_code 6 none ws ({ frames := 0, cells := 0, slots := 0, locals := 0 } : Room) #[(.ref o0), (.int 1), (.int u0)] h0 (fun v h L => v = none ∧ Fr n0 L ∧ Keep h0 h [o1] ∧ Arv Z h o1 c0 .int (8 : Int32) [(.int (-2)), (.int u0), (.int (-2)), (.int 0), (.int 0), (.int 0), (.int 0), (.int 0)] (.int 0)) := by
  refine own_entry pf_com_example_wirelens_wirelens_wire_GroupEnds_closed__II_V (fun m => ef_sp29 m o0 (1 : Int32) u0) ?_
  intro p e s m below meth c T0 X0 hC e0
  obtain ⟨hx, hby, hml, hown, hnm, hret, hlk, hZ⟩ := hC
  have N0 := Fr.nil n0
  have K0 := Keep.refl h0 [o1]
  refine own_go T0 m 1 #[rv o0, iv 1, iv u0, .unset, .unset, .unset] [(.ref o0)] (fun t k => XS.aloadN X0.here hx rfl (hb hby d5_0) rfl rfl k) ?_
  obtain ⟨T1, X1, e1, st1⟩ := getF X0 hx hZ hown (host := "") (Or.inl (own_w hw 11 rfl)) Via.refl e0 F_starts_o0 (g := (mkF m 1 #[rv o0, iv 1, iv u0, .unset, .unset, .unset] [(.ref o0)])) rfl rfl (hb hby d5_1)
  refine own_go T1 m 4 #[rv o0, iv 1, iv u0, .unset, .unset, .unset] [(.ref o3)] (st1) ?_
  refine own_go T1 m 5 #[rv o0, iv 1, iv u0, .unset, .unset, .unset] [(.ref o0), (.ref o3)] (fun t k => XS.aloadN X1.here hx rfl (hb hby d5_4) rfl rfl k) ?_
  obtain ⟨T2, X2, e2, st2⟩ := getF X1 hx hZ hown (host := "") (Or.inl (own_w hw 15 rfl)) Via.refl e1 F_segmentFirst_o0 (g := (mkF m 5 #[rv o0, iv 1, iv u0, .unset, .unset, .unset] [(.ref o0), (.ref o3)])) rfl rfl (hb hby d5_5)
  refine own_go T2 m 8 #[rv o0, iv 1, iv u0, .unset, .unset, .unset] [(.ref o2), (.ref o3)] (st2) ?_
  refine own_go T2 m 9 #[rv o0, iv 1, iv u0, .unset, .unset, .unset] [(.ref o0), (.ref o2), (.ref o3)] (fun t k => XS.aloadN X2.here hx rfl (hb hby d5_8) rfl rfl k) ?_
  obtain ⟨T3, X3, e3, st3⟩ := getF X2 hx hZ hown (host := "") (Or.inl (own_w hw 28 rfl)) Via.refl e2 F_segments_o0 (g := (mkF m 9 #[rv o0, iv 1, iv u0, .unset, .unset, .unset] [(.ref o0), (.ref o2), (.ref o3)])) rfl rfl (hb hby d5_9)
  refine own_go T3 m 12 #[rv o0, iv 1, iv u0, .unset, .unset, .unset] [(.int 1), (.ref o2), (.ref o3)] (st3) ?_
  refine own_go T3 m 13 #[rv o0, iv 1, iv u0, .unset, .unset, .unset] [(.int 1), (.int 1), (.ref o2), (.ref o3)] (fun t k => XS.iconst X3.here hx rfl (hb hby d5_12) k) ?_
  refine own_go T3 m 14 #[rv o0, iv 1, iv u0, .unset, .unset, .unset] [(.int ((1 : Int32) - (1 : Int32))), (.ref o2), (.ref o3)] (fun t k => XS.isub X3.here hx rfl (hb hby d5_13) rfl k) ?_
  rw [show ((1 : Int32) - (1 : Int32)) = (0 : Int32) from by decide]
  refine own_go T3 m 15 #[rv o0, iv 1, iv u0, .unset, .unset, .unset] [(.int 0), (.ref o3)] (own_iaload X3 hx hZ e3 V_o2 (j := (0 : Int32)) ⟨by decide, by decide⟩ rfl (hb hby d5_14)) ?_
  refine own_go T3 m 16 #[rv o0, iv 1, iv u0, .unset, .unset, .unset] [(.int u1)] (own_iaload X3 hx hZ e3 V_o3 (j := (0 : Int32)) ⟨by decide, by decide⟩ rfl (hb hby d5_15)) ?_
  refine own_go T3 m 17 #[rv o0, iv 1, iv u0, iv u1, .unset, .unset] [] (fun t k => XS.istoreN X3.here hx rfl (hb hby d5_16) rfl rfl k) ?_
  refine own_go T3 m 18 #[rv o0, iv 1, iv u0, iv u1, .unset, .unset] [(.int u0)] (fun t k => XS.iloadN X3.here hx rfl (hb hby d5_17) rfl k) ?_
  refine own_go T3 m 19 #[rv o0, iv 1, iv u0, iv u1, .unset, .unset] [(.ref o0), (.int u0)] (fun t k => XS.aloadN X3.here hx rfl (hb hby d5_18) rfl rfl k) ?_
  obtain ⟨T6, X6, e6, st6⟩ := getF X3 hx hZ hown (host := "") (Or.inl (own_w hw 11 rfl)) Via.refl e3 F_starts_o0 (g := (mkF m 19 #[rv o0, iv 1, iv u0, iv u1, .unset, .unset] [(.ref o0), (.int u0)])) rfl rfl (hb hby d5_19)
  refine own_go T6 m 22 #[rv o0, iv 1, iv u0, iv u1, .unset, .unset] [(.ref o3), (.int u0)] (st6) ?_
  refine own_go T6 m 23 #[rv o0, iv 1, iv u0, iv u1, .unset, .unset] [(.int 1), (.ref o3), (.int u0)] (fun t k => XS.iloadN X6.here hx rfl (hb hby d5_22) rfl k) ?_
  refine own_go T6 m 24 #[rv o0, iv 1, iv u0, iv u1, .unset, .unset] [(.int u2), (.int u0)] (own_iaload X6 hx hZ e6 V_o3 (j := (1 : Int32)) ⟨by decide, by decide⟩ rfl (hb hby d5_23)) ?_
  refine own_go T6 m 25 #[rv o0, iv 1, iv u0, iv u1, .unset, .unset] [(.int (u0 - u2))] (fun t k => XS.isub X6.here hx rfl (hb hby d5_24) rfl k) ?_
  refine own_go T6 m 27 #[rv o0, iv 1, iv u0, iv u1, .unset, .unset] [(.int 64), (.int (u0 - u2))] (fun t k => XS.bipush X6.here hx rfl (hb hby d5_25) k) ?_
  refine own_go T6 m 34 #[rv o0, iv 1, iv u0, iv u1, .unset, .unset] [] (fun t k => XS.icmpYes X6.here hx rfl (pc0 := 27) (pc' := 34) rfl (hb hby d5_27) rfl (flt hq0).2.1 (by decide) (by decide) k) ?_
  refine own_go T6 m 35 #[rv o0, iv 1, iv u0, iv u1, .unset, .unset] [(.int 0)] (fun t k => XS.iconst X6.here hx rfl (hb hby d5_34) k) ?_
  refine own_go T6 m 37 #[rv o0, iv 1, iv u0, iv u1, iv 0, .unset] [] (fun t k => XS.istore X6.here hx rfl (hb hby d5_35) rfl rfl k) ?_
  refine own_go T6 m 38 #[rv o0, iv 1, iv u0, iv u1, iv 0, .unset] [(.ref o0)] (fun t k => XS.aloadN X6.here hx rfl (hb hby d5_37) rfl rfl k) ?_
  obtain ⟨T8, X8, e8, st8⟩ := getF X6 hx hZ hown (host := "") (Or.inl (own_w hw 11 rfl)) Via.refl e6 F_starts_o0 (g := (mkF m 38 #[rv o0, iv 1, iv u0, iv u1, iv 0, .unset] [(.ref o0)])) rfl rfl (hb hby d5_38)
  refine own_go T8 m 41 #[rv o0, iv 1, iv u0, iv u1, iv 0, .unset] [(.ref o3)] (st8) ?_
  refine own_go T8 m 42 #[rv o0, iv 1, iv u0, iv u1, iv 0, .unset] [(.int 1), (.ref o3)] (fun t k => XS.iloadN X8.here hx rfl (hb hby d5_41) rfl k) ?_
  refine own_go T8 m 43 #[rv o0, iv 1, iv u0, iv u1, iv 0, .unset] [(.int u2)] (own_iaload X8 hx hZ e8 V_o3 (j := (1 : Int32)) ⟨by decide, by decide⟩ rfl (hb hby d5_42)) ?_
  refine own_go T8 m 44 #[rv o0, iv 1, iv u0, iv u1, iv 0, .unset] [(.int u1), (.int u2)] (fun t k => XS.iloadN X8.here hx rfl (hb hby d5_43) rfl k) ?_
  refine own_go T8 m 45 #[rv o0, iv 1, iv u0, iv u1, iv 0, .unset] [(.int (u2 - u1))] (fun t k => XS.isub X8.here hx rfl (hb hby d5_44) rfl k) ?_
  refine own_go T8 m 47 #[rv o0, iv 1, iv u0, iv u1, iv 0, .unset] [(.int 64), (.int (u2 - u1))] (fun t k => XS.bipush X8.here hx rfl (hb hby d5_45) k) ?_
  refine own_go T8 m 50 #[rv o0, iv 1, iv u0, iv u1, iv 0, .unset] [] (fun t k => XS.icmpNo X8.here hx rfl (hb hby d5_47) rfl (flt hq1).1 k) ?_
  refine own_go T8 m 51 #[rv o0, iv 1, iv u0, iv u1, iv 0, .unset] [(.int 1)] (fun t k => XS.iconst X8.here hx rfl (hb hby d5_50) k) ?_
  refine own_go T8 m 55 #[rv o0, iv 1, iv u0, iv u1, iv 0, .unset] [(.int 1)] (fun t k => XS.goto X8.here hx rfl (pc0 := 51) (pc' := 55) rfl (hb hby d5_51) (by decide) (by decide) k) ?_
  refine own_go T8 m 57 #[rv o0, iv 1, iv u0, iv u1, iv 0, iv 1] [] (fun t k => XS.istore X8.here hx rfl (hb hby d5_55) rfl rfl k) ?_
  refine own_go T8 m 59 #[rv o0, iv 1, iv u0, iv u1, iv 0, iv 1] [(.int 0)] (fun t k => XS.iload X8.here hx rfl (hb hby d5_57) rfl k) ?_
  refine own_go T8 m 88 #[rv o0, iv 1, iv u0, iv u1, iv 0, iv 1] [] (fun t k => XS.ifYes X8.here hx rfl (pc0 := 59) (pc' := 88) rfl (hb hby d5_59) rfl ((if0 _ _).trans (teq (by decide)).1) (by decide) (by decide) k) ?_
  refine own_go T8 m 89 #[rv o0, iv 1, iv u0, iv u1, iv 0, iv 1] [(.ref o0)] (fun t k => XS.aloadN X8.here hx rfl (hb hby d5_88) rfl rfl k) ?_
  obtain ⟨T10, X10, e10, st10⟩ := getF X8 hx hZ hown (host := "") (Or.inl (own_w hw 13 rfl)) Via.refl e8 F_ends_o0 (g := (mkF m 89 #[rv o0, iv 1, iv u0, iv u1, iv 0, iv 1] [(.ref o0)])) rfl rfl (hb hby d5_89)
  refine own_go T10 m 92 #[rv o0, iv 1, iv u0, iv u1, iv 0, iv 1] [(.ref o1)] (st10) ?_
  refine own_go T10 m 93 #[rv o0, iv 1, iv u0, iv u1, iv 0, iv 1] [(.int 1), (.ref o1)] (fun t k => XS.iloadN X10.here hx rfl (hb hby d5_92) rfl k) ?_
  refine own_go T10 m 94 #[rv o0, iv 1, iv u0, iv u1, iv 0, iv 1] [(.int u0), (.int 1), (.ref o1)] (fun t k => XS.iloadN X10.here hx rfl (hb hby d5_93) rfl k) ?_
  obtain ⟨T11, h11, X11, e11, W11, V11, st11⟩ := own_iastore X10 hx hZ e10 V_o1 (j := (1 : Int32)) ⟨by decide, by decide⟩ 1 rfl (Nat.le_of_ble_eq_true rfl) (Ls := #[rv o0, iv 1, iv u0, iv u1, iv 0, iv 1]) (rest := []) (x := u0) (hb hby d5_94)
  replace V11 : Arv Z h11 o1 c0 .int (8 : Int32) [(.int (-2)), (.int u0), (.int (-2)), (.int 0), (.int 0), (.int 0), (.int 0), (.int 0)] (.int 0) := V11
  have cf12 := F_ends_o0.other W11 (Or.inl ne_o0_o1)
  have cf13 := F_segmentFirst_o0.other W11 (Or.inl ne_o0_o1)
  have cf14 := F_segments_o0.other W11 (Or.inl ne_o0_o1)
  have cf15 := F_starts_o0.other W11 (Or.inl ne_o0_o1)
  have cf16 := V_o2.other W11 (Ne.symm ne_o1_o2)
  have cf17 := V_o3.other W11 (Ne.symm ne_o1_o3)
  have Z_11 : n0 ≤ h11.size := Nat.le_trans Z0 (Keep.of_wr W11).1
  have K_11 : Keep h0 h11 [o1] := K0.wr W11 (own_i 0 rfl)
  have N11 := Fr.snoc X11 N0 g_o1
  refine own_go T11 m 95 #[rv o0, iv 1, iv u0, iv u1, iv 0, iv 1] [] (st11) ?_
  refine own_retV X11 hx hlk hret (hb hby d5_95) (by decide) (by decide) ?_
  rw [e11]
  exact ⟨rfl, N11, K_11, V11⟩
theorem own_db72 (t0 t1 t2 t3 t4 t5 t6 t7 t8 t9 : Int32) (h0 : ¬ (t0 < (0 : Int32))) (h1 : t0 < t1) (h2 : t1 < t2) (h3 : ¬ (t3 < t2)) (h4 : t3 < t4) (h5 : t4 < t5) (h6 : t6 < t7) (h7 : t8 < t9) (h8 : t6 < (64 : Int32)) (h9 : ¬ (t9 < (64 : Int32))) (h10 : ¬ (t7 < (64 : Int32))) (h11 : ¬ (t8 < (64 : Int32))) : ¬ (t1 < t0) := by
  simp only [Int32.lt_iff_toInt_lt, ← Int32.toInt_inj, Int32.reduceToInt] at *
  omega
theorem own_db73 (t0 t1 t2 t3 t4 t5 t6 t7 t8 t9 : Int32) (h0 : ¬ (t0 < (0 : Int32))) (h1 : t0 < t1) (h2 : t1 < t2) (h3 : ¬ (t3 < t2)) (h4 : t3 < t4) (h5 : t4 < t5) (h6 : t6 < t7) (h7 : t8 < t9) (h8 : t6 < (64 : Int32)) (h9 : ¬ (t9 < (64 : Int32))) (h10 : ¬ (t7 < (64 : Int32))) (h11 : ¬ (t8 < (64 : Int32))) : t1 < t5 := by
  simp only [Int32.lt_iff_toInt_lt, ← Int32.toInt_inj, Int32.reduceToInt] at *
  omega
theorem own_db74 (t0 t1 t2 t3 t4 t5 t6 t7 t8 t9 : Int32) (h0 : ¬ (t0 < (0 : Int32))) (h1 : t0 < t1) (h2 : t1 < t2) (h3 : ¬ (t3 < t2)) (h4 : t3 < t4) (h5 : t4 < t5) (h6 : t6 < t7) (h7 : t8 < t9) (h8 : t6 < (64 : Int32)) (h9 : ¬ (t9 < (64 : Int32))) (h10 : ¬ (t7 < (64 : Int32))) (h11 : ¬ (t8 < (64 : Int32))) : ¬ (t1 < t1) := by
  simp only [Int32.lt_iff_toInt_lt, ← Int32.toInt_inj, Int32.reduceToInt] at *
  omega
theorem own_db75 (t0 t1 t2 t3 t4 t5 t6 t7 t8 t9 : Int32) (h0 : ¬ (t0 < (0 : Int32))) (h1 : t0 < t1) (h2 : t1 < t2) (h3 : ¬ (t3 < t2)) (h4 : t3 < t4) (h5 : t4 < t5) (h6 : t6 < t7) (h7 : t8 < t9) (h8 : t6 < (64 : Int32)) (h9 : ¬ (t9 < (64 : Int32))) (h10 : ¬ (t7 < (64 : Int32))) (h11 : ¬ (t8 < (64 : Int32))) : ¬ (t4 = (-2 : Int32)) := by
  simp only [Int32.lt_iff_toInt_lt, ← Int32.toInt_inj, Int32.reduceToInt] at *
  omega
theorem own_db80 (t0 t1 t2 t3 t4 t5 t6 t7 t8 t9 : Int32) (h0 : ¬ (t0 < (0 : Int32))) (h1 : t0 < t1) (h2 : t1 < t2) (h3 : ¬ (t3 < t2)) (h4 : t3 < t4) (h5 : t4 < t5) (h6 : t6 < t7) (h7 : t8 < t9) (h8 : t6 < (64 : Int32)) (h9 : ¬ (t9 < (64 : Int32))) (h10 : ¬ (t7 < (64 : Int32))) (h11 : ¬ (t8 < (64 : Int32))) : ¬ (t2 < t0) := by
  simp only [Int32.lt_iff_toInt_lt, ← Int32.toInt_inj, Int32.reduceToInt] at *
  omega
theorem own_db81 (t0 t1 t2 t3 t4 t5 t6 t7 t8 t9 : Int32) (h0 : ¬ (t0 < (0 : Int32))) (h1 : t0 < t1) (h2 : t1 < t2) (h3 : ¬ (t3 < t2)) (h4 : t3 < t4) (h5 : t4 < t5) (h6 : t6 < t7) (h7 : t8 < t9) (h8 : t6 < (64 : Int32)) (h9 : ¬ (t9 < (64 : Int32))) (h10 : ¬ (t7 < (64 : Int32))) (h11 : ¬ (t8 < (64 : Int32))) : t2 < t5 := by
  simp only [Int32.lt_iff_toInt_lt, ← Int32.toInt_inj, Int32.reduceToInt] at *
  omega
theorem own_db82 (t0 t1 t2 t3 t4 t5 t6 t7 t8 t9 : Int32) (h0 : ¬ (t0 < (0 : Int32))) (h1 : t0 < t1) (h2 : t1 < t2) (h3 : ¬ (t3 < t2)) (h4 : t3 < t4) (h5 : t4 < t5) (h6 : t6 < t7) (h7 : t8 < t9) (h8 : t6 < (64 : Int32)) (h9 : ¬ (t9 < (64 : Int32))) (h10 : ¬ (t7 < (64 : Int32))) (h11 : ¬ (t8 < (64 : Int32))) : t0 < t2 := by
  simp only [Int32.lt_iff_toInt_lt, ← Int32.toInt_inj, Int32.reduceToInt] at *
  omega
theorem ef_sp30 (m : MethodId) (q0 : Addr) (q1 : Int32) (q2 : Int32) : entryFrame m #[(.ref q0), (.int q1), (.int q2)] 6 = mkF m 0 #[rv q0, iv q1, iv q2, .unset, .unset, .unset] [] := by first | (simp [entryFrame, mkF, argsToLocals, Value.category]; done) | rfl
set_option maxRecDepth 65536 in
set_option maxHeartbeats 40000000 in
theorem sp30 (l : Launch) (Z : State) (a0 : Array Value) (hw : ∀ d ∈ tables_1, d.before a0 Z = true) (ws : List Jvm.Cond) (o0 o1 o2 o3 : Addr) (u0 : Int32) (u1 : Int32) (u2 : Int32) (u3 : Int32) (c0 : ClassId) (c1 : ClassId) (c2 : ClassId) (h0 : Heap) (n0 : Nat) (Z0 : n0 ≤ h0.size) (F_ends_o0 : Fld Z h0 o0 OwnK0 "ends" "[I" (.ref o1)) (F_segmentFirst_o0 : Fld Z h0 o0 OwnK0 "segmentFirst" "[I" (.ref o2)) (F_segments_o0 : Fld Z h0 o0 OwnK0 "segments" "I" (.int 1)) (F_starts_o0 : Fld Z h0 o0 OwnK0 "starts" "[I" (.ref o3)) (V_o1 : Arv Z h0 o1 c0 .int (8 : Int32) [(.int (-2)), (.int (-2)), (.int (-2)), (.int 0), (.int 0), (.int 0), (.int 0), (.int 0)] (.int 0)) (V_o2 : Arv Z h0 o2 c1 .int (8 : Int32) [(.int 0), (.int 0), (.int 0), (.int 0), (.int 0), (.int 0), (.int 0), (.int 0)] (.int 0)) (V_o3 : Arv Z h0 o3 c2 .int (8 : Int32) [(.int u1), (.int u2), (.int u3), (.int 0), (.int 0), (.int 0), (.int 0), (.int 0)] (.int 0)) (ne_o0_o1 : o0 ≠ o1) (ne_o1_o2 : o1 ≠ o2) (ne_o1_o3 : o1 ≠ o3) (g_o1 : n0 ≤ o1) (hq0 : ¬ ((u0 - u3) < (64 : Int32))) (hq1 : (u3 - u1) < (64 : Int32)) :
    OwnC l Z (⟨OwnK0, "closed", "(II)V"⟩ : MethodName) prog_48_method_7_code 6 none ws ({ frames := 0, cells := 0, slots := 0, locals := 0 } : Room) #[(.ref o0), (.int 2), (.int u0)] h0 (fun v h L => v = none ∧ Fr n0 L ∧ Keep h0 h [o1] ∧ Arv Z h o1 c0 .int (8 : Int32) [(.int (-2)), (.int (-2)), (.int u0), (.int 0), (.int 0), (.int 0), (.int 0), (.int 0)] (.int 0)) := by
  refine own_entry pf_com_example_wirelens_wirelens_wire_GroupEnds_closed__II_V (fun m => ef_sp30 m o0 (2 : Int32) u0) ?_
  intro p e s m below meth c T0 X0 hC e0
  obtain ⟨hx, hby, hml, hown, hnm, hret, hlk, hZ⟩ := hC
  have N0 := Fr.nil n0
  have K0 := Keep.refl h0 [o1]
  refine own_go T0 m 1 #[rv o0, iv 2, iv u0, .unset, .unset, .unset] [(.ref o0)] (fun t k => XS.aloadN X0.here hx rfl (hb hby d5_0) rfl rfl k) ?_
  obtain ⟨T1, X1, e1, st1⟩ := getF X0 hx hZ hown (host := "") (Or.inl (own_w hw 11 rfl)) Via.refl e0 F_starts_o0 (g := (mkF m 1 #[rv o0, iv 2, iv u0, .unset, .unset, .unset] [(.ref o0)])) rfl rfl (hb hby d5_1)
  refine own_go T1 m 4 #[rv o0, iv 2, iv u0, .unset, .unset, .unset] [(.ref o3)] (st1) ?_
  refine own_go T1 m 5 #[rv o0, iv 2, iv u0, .unset, .unset, .unset] [(.ref o0), (.ref o3)] (fun t k => XS.aloadN X1.here hx rfl (hb hby d5_4) rfl rfl k) ?_
  obtain ⟨T2, X2, e2, st2⟩ := getF X1 hx hZ hown (host := "") (Or.inl (own_w hw 15 rfl)) Via.refl e1 F_segmentFirst_o0 (g := (mkF m 5 #[rv o0, iv 2, iv u0, .unset, .unset, .unset] [(.ref o0), (.ref o3)])) rfl rfl (hb hby d5_5)
  refine own_go T2 m 8 #[rv o0, iv 2, iv u0, .unset, .unset, .unset] [(.ref o2), (.ref o3)] (st2) ?_
  refine own_go T2 m 9 #[rv o0, iv 2, iv u0, .unset, .unset, .unset] [(.ref o0), (.ref o2), (.ref o3)] (fun t k => XS.aloadN X2.here hx rfl (hb hby d5_8) rfl rfl k) ?_
  obtain ⟨T3, X3, e3, st3⟩ := getF X2 hx hZ hown (host := "") (Or.inl (own_w hw 28 rfl)) Via.refl e2 F_segments_o0 (g := (mkF m 9 #[rv o0, iv 2, iv u0, .unset, .unset, .unset] [(.ref o0), (.ref o2), (.ref o3)])) rfl rfl (hb hby d5_9)
  refine own_go T3 m 12 #[rv o0, iv 2, iv u0, .unset, .unset, .unset] [(.int 1), (.ref o2), (.ref o3)] (st3) ?_
  refine own_go T3 m 13 #[rv o0, iv 2, iv u0, .unset, .unset, .unset] [(.int 1), (.int 1), (.ref o2), (.ref o3)] (fun t k => XS.iconst X3.here hx rfl (hb hby d5_12) k) ?_
  refine own_go T3 m 14 #[rv o0, iv 2, iv u0, .unset, .unset, .unset] [(.int ((1 : Int32) - (1 : Int32))), (.ref o2), (.ref o3)] (fun t k => XS.isub X3.here hx rfl (hb hby d5_13) rfl k) ?_
  rw [show ((1 : Int32) - (1 : Int32)) = (0 : Int32) from by decide]
  refine own_go T3 m 15 #[rv o0, iv 2, iv u0, .unset, .unset, .unset] [(.int 0), (.ref o3)] (own_iaload X3 hx hZ e3 V_o2 (j := (0 : Int32)) ⟨by decide, by decide⟩ rfl (hb hby d5_14)) ?_
  refine own_go T3 m 16 #[rv o0, iv 2, iv u0, .unset, .unset, .unset] [(.int u1)] (own_iaload X3 hx hZ e3 V_o3 (j := (0 : Int32)) ⟨by decide, by decide⟩ rfl (hb hby d5_15)) ?_
  refine own_go T3 m 17 #[rv o0, iv 2, iv u0, iv u1, .unset, .unset] [] (fun t k => XS.istoreN X3.here hx rfl (hb hby d5_16) rfl rfl k) ?_
  refine own_go T3 m 18 #[rv o0, iv 2, iv u0, iv u1, .unset, .unset] [(.int u0)] (fun t k => XS.iloadN X3.here hx rfl (hb hby d5_17) rfl k) ?_
  refine own_go T3 m 19 #[rv o0, iv 2, iv u0, iv u1, .unset, .unset] [(.ref o0), (.int u0)] (fun t k => XS.aloadN X3.here hx rfl (hb hby d5_18) rfl rfl k) ?_
  obtain ⟨T6, X6, e6, st6⟩ := getF X3 hx hZ hown (host := "") (Or.inl (own_w hw 11 rfl)) Via.refl e3 F_starts_o0 (g := (mkF m 19 #[rv o0, iv 2, iv u0, iv u1, .unset, .unset] [(.ref o0), (.int u0)])) rfl rfl (hb hby d5_19)
  refine own_go T6 m 22 #[rv o0, iv 2, iv u0, iv u1, .unset, .unset] [(.ref o3), (.int u0)] (st6) ?_
  refine own_go T6 m 23 #[rv o0, iv 2, iv u0, iv u1, .unset, .unset] [(.int 2), (.ref o3), (.int u0)] (fun t k => XS.iloadN X6.here hx rfl (hb hby d5_22) rfl k) ?_
  refine own_go T6 m 24 #[rv o0, iv 2, iv u0, iv u1, .unset, .unset] [(.int u3), (.int u0)] (own_iaload X6 hx hZ e6 V_o3 (j := (2 : Int32)) ⟨by decide, by decide⟩ rfl (hb hby d5_23)) ?_
  refine own_go T6 m 25 #[rv o0, iv 2, iv u0, iv u1, .unset, .unset] [(.int (u0 - u3))] (fun t k => XS.isub X6.here hx rfl (hb hby d5_24) rfl k) ?_
  refine own_go T6 m 27 #[rv o0, iv 2, iv u0, iv u1, .unset, .unset] [(.int 64), (.int (u0 - u3))] (fun t k => XS.bipush X6.here hx rfl (hb hby d5_25) k) ?_
  refine own_go T6 m 34 #[rv o0, iv 2, iv u0, iv u1, .unset, .unset] [] (fun t k => XS.icmpYes X6.here hx rfl (pc0 := 27) (pc' := 34) rfl (hb hby d5_27) rfl (flt hq0).2.1 (by decide) (by decide) k) ?_
  refine own_go T6 m 35 #[rv o0, iv 2, iv u0, iv u1, .unset, .unset] [(.int 0)] (fun t k => XS.iconst X6.here hx rfl (hb hby d5_34) k) ?_
  refine own_go T6 m 37 #[rv o0, iv 2, iv u0, iv u1, iv 0, .unset] [] (fun t k => XS.istore X6.here hx rfl (hb hby d5_35) rfl rfl k) ?_
  refine own_go T6 m 38 #[rv o0, iv 2, iv u0, iv u1, iv 0, .unset] [(.ref o0)] (fun t k => XS.aloadN X6.here hx rfl (hb hby d5_37) rfl rfl k) ?_
  obtain ⟨T8, X8, e8, st8⟩ := getF X6 hx hZ hown (host := "") (Or.inl (own_w hw 11 rfl)) Via.refl e6 F_starts_o0 (g := (mkF m 38 #[rv o0, iv 2, iv u0, iv u1, iv 0, .unset] [(.ref o0)])) rfl rfl (hb hby d5_38)
  refine own_go T8 m 41 #[rv o0, iv 2, iv u0, iv u1, iv 0, .unset] [(.ref o3)] (st8) ?_
  refine own_go T8 m 42 #[rv o0, iv 2, iv u0, iv u1, iv 0, .unset] [(.int 2), (.ref o3)] (fun t k => XS.iloadN X8.here hx rfl (hb hby d5_41) rfl k) ?_
  refine own_go T8 m 43 #[rv o0, iv 2, iv u0, iv u1, iv 0, .unset] [(.int u3)] (own_iaload X8 hx hZ e8 V_o3 (j := (2 : Int32)) ⟨by decide, by decide⟩ rfl (hb hby d5_42)) ?_
  refine own_go T8 m 44 #[rv o0, iv 2, iv u0, iv u1, iv 0, .unset] [(.int u1), (.int u3)] (fun t k => XS.iloadN X8.here hx rfl (hb hby d5_43) rfl k) ?_
  refine own_go T8 m 45 #[rv o0, iv 2, iv u0, iv u1, iv 0, .unset] [(.int (u3 - u1))] (fun t k => XS.isub X8.here hx rfl (hb hby d5_44) rfl k) ?_
  refine own_go T8 m 47 #[rv o0, iv 2, iv u0, iv u1, iv 0, .unset] [(.int 64), (.int (u3 - u1))] (fun t k => XS.bipush X8.here hx rfl (hb hby d5_45) k) ?_
  refine own_go T8 m 54 #[rv o0, iv 2, iv u0, iv u1, iv 0, .unset] [] (fun t k => XS.icmpYes X8.here hx rfl (pc0 := 47) (pc' := 54) rfl (hb hby d5_47) rfl (tlt hq1).1 (by decide) (by decide) k) ?_
  refine own_go T8 m 55 #[rv o0, iv 2, iv u0, iv u1, iv 0, .unset] [(.int 0)] (fun t k => XS.iconst X8.here hx rfl (hb hby d5_54) k) ?_
  refine own_go T8 m 57 #[rv o0, iv 2, iv u0, iv u1, iv 0, iv 0] [] (fun t k => XS.istore X8.here hx rfl (hb hby d5_55) rfl rfl k) ?_
  refine own_go T8 m 59 #[rv o0, iv 2, iv u0, iv u1, iv 0, iv 0] [(.int 0)] (fun t k => XS.iload X8.here hx rfl (hb hby d5_57) rfl k) ?_
  refine own_go T8 m 88 #[rv o0, iv 2, iv u0, iv u1, iv 0, iv 0] [] (fun t k => XS.ifYes X8.here hx rfl (pc0 := 59) (pc' := 88) rfl (hb hby d5_59) rfl ((if0 _ _).trans (teq (by decide)).1) (by decide) (by decide) k) ?_
  refine own_go T8 m 89 #[rv o0, iv 2, iv u0, iv u1, iv 0, iv 0] [(.ref o0)] (fun t k => XS.aloadN X8.here hx rfl (hb hby d5_88) rfl rfl k) ?_
  obtain ⟨T10, X10, e10, st10⟩ := getF X8 hx hZ hown (host := "") (Or.inl (own_w hw 13 rfl)) Via.refl e8 F_ends_o0 (g := (mkF m 89 #[rv o0, iv 2, iv u0, iv u1, iv 0, iv 0] [(.ref o0)])) rfl rfl (hb hby d5_89)
  refine own_go T10 m 92 #[rv o0, iv 2, iv u0, iv u1, iv 0, iv 0] [(.ref o1)] (st10) ?_
  refine own_go T10 m 93 #[rv o0, iv 2, iv u0, iv u1, iv 0, iv 0] [(.int 2), (.ref o1)] (fun t k => XS.iloadN X10.here hx rfl (hb hby d5_92) rfl k) ?_
  refine own_go T10 m 94 #[rv o0, iv 2, iv u0, iv u1, iv 0, iv 0] [(.int u0), (.int 2), (.ref o1)] (fun t k => XS.iloadN X10.here hx rfl (hb hby d5_93) rfl k) ?_
  obtain ⟨T11, h11, X11, e11, W11, V11, st11⟩ := own_iastore X10 hx hZ e10 V_o1 (j := (2 : Int32)) ⟨by decide, by decide⟩ 2 rfl (Nat.le_of_ble_eq_true rfl) (Ls := #[rv o0, iv 2, iv u0, iv u1, iv 0, iv 0]) (rest := []) (x := u0) (hb hby d5_94)
  replace V11 : Arv Z h11 o1 c0 .int (8 : Int32) [(.int (-2)), (.int (-2)), (.int u0), (.int 0), (.int 0), (.int 0), (.int 0), (.int 0)] (.int 0) := V11
  have cf12 := F_ends_o0.other W11 (Or.inl ne_o0_o1)
  have cf13 := F_segmentFirst_o0.other W11 (Or.inl ne_o0_o1)
  have cf14 := F_segments_o0.other W11 (Or.inl ne_o0_o1)
  have cf15 := F_starts_o0.other W11 (Or.inl ne_o0_o1)
  have cf16 := V_o2.other W11 (Ne.symm ne_o1_o2)
  have cf17 := V_o3.other W11 (Ne.symm ne_o1_o3)
  have Z_11 : n0 ≤ h11.size := Nat.le_trans Z0 (Keep.of_wr W11).1
  have K_11 : Keep h0 h11 [o1] := K0.wr W11 (own_i 0 rfl)
  have N11 := Fr.snoc X11 N0 g_o1
  refine own_go T11 m 95 #[rv o0, iv 2, iv u0, iv u1, iv 0, iv 0] [] (st11) ?_
  refine own_retV X11 hx hlk hret (hb hby d5_95) (by decide) (by decide) ?_
  rw [e11]
  exact ⟨rfl, N11, K_11, V11⟩
theorem own_db86 (t0 t1 t2 t3 t4 t5 t6 t7 t8 t9 : Int32) (h0 : ¬ (t0 < (0 : Int32))) (h1 : t0 < t1) (h2 : t1 < t2) (h3 : ¬ (t3 < t2)) (h4 : t3 < t4) (h5 : t4 < t5) (h6 : t6 < t7) (h7 : t8 < t9) (h8 : ¬ (t6 < (64 : Int32))) (h9 : t9 < (64 : Int32)) : ¬ (t7 < (64 : Int32)) := by
  simp only [Int32.lt_iff_toInt_lt, ← Int32.toInt_inj, Int32.reduceToInt] at *
  omega
theorem own_db87 (t0 t1 t2 t3 t4 t5 t6 t7 t8 t9 : Int32) (h0 : ¬ (t0 < (0 : Int32))) (h1 : t0 < t1) (h2 : t1 < t2) (h3 : ¬ (t3 < t2)) (h4 : t3 < t4) (h5 : t4 < t5) (h6 : t6 < t7) (h7 : t8 < t9) (h8 : ¬ (t6 < (64 : Int32))) (h9 : t9 < (64 : Int32)) : t8 < (64 : Int32) := by
  simp only [Int32.lt_iff_toInt_lt, ← Int32.toInt_inj, Int32.reduceToInt] at *
  omega
theorem ef_sp31 (m : MethodId) (q0 : Addr) (q1 : Int32) (q2 : Int32) : entryFrame m #[(.ref q0), (.int q1), (.int q2)] 6 = mkF m 0 #[rv q0, iv q1, iv q2, .unset, .unset, .unset] [] := by first | (simp [entryFrame, mkF, argsToLocals, Value.category]; done) | rfl
set_option maxRecDepth 65536 in
set_option maxHeartbeats 40000000 in
theorem sp31 (l : Launch) (Z : State) (a0 : Array Value) (hw : ∀ d ∈ tables_1, d.before a0 Z = true) (ws : List Jvm.Cond) (o0 o1 o2 o3 : Addr) (u0 : Int32) (u1 : Int32) (u2 : Int32) (u3 : Int32) (u4 : Int32) (c0 : ClassId) (c1 : ClassId) (c2 : ClassId) (h0 : Heap) (n0 : Nat) (Z0 : n0 ≤ h0.size) (F_ends_o0 : Fld Z h0 o0 OwnK0 "ends" "[I" (.ref o1)) (F_segmentFirst_o0 : Fld Z h0 o0 OwnK0 "segmentFirst" "[I" (.ref o2)) (F_segments_o0 : Fld Z h0 o0 OwnK0 "segments" "I" (.int 1)) (F_starts_o0 : Fld Z h0 o0 OwnK0 "starts" "[I" (.ref o3)) (V_o1 : Arv Z h0 o1 c0 .int (8 : Int32) [(.int (-2)), (.int (-2)), (.int u1), (.int 0), (.int 0), (.int 0), (.int 0), (.int 0)] (.int 0)) (V_o2 : Arv Z h0 o2 c1 .int (8 : Int32) [(.int 0), (.int 0), (.int 0), (.int 0), (.int 0), (.int 0), (.int 0), (.int 0)] (.int 0)) (V_o3 : Arv Z h0 o3 c2 .int (8 : Int32) [(.int u2), (.int u3), (.int u4), (.int 0), (.int 0), (.int 0), (.int 0), (.int 0)] (.int 0)) (ne_o0_o1 : o0 ≠ o1) (ne_o1_o2 : o1 ≠ o2) (ne_o1_o3 : o1 ≠ o3) (g_o1 : n0 ≤ o1) (hq0 : ¬ ((u0 - u3) < (64 : Int32))) (hq1 : (u3 - u2) < (64 : Int32)) :
    OwnC l Z (⟨OwnK0, "closed", "(II)V"⟩ : MethodName) prog_48_method_7_code 6 none ws ({ frames := 0, cells := 0, slots := 0, locals := 0 } : Room) #[(.ref o0), (.int 1), (.int u0)] h0 (fun v h L => v = none ∧ Fr n0 L ∧ Keep h0 h [o1] ∧ Arv Z h o1 c0 .int (8 : Int32) [(.int (-2)), (.int u0), (.int u1), (.int 0), (.int 0), (.int 0), (.int 0), (.int 0)] (.int 0)) := by
  refine own_entry pf_com_example_wirelens_wirelens_wire_GroupEnds_closed__II_V (fun m => ef_sp31 m o0 (1 : Int32) u0) ?_
  intro p e s m below meth c T0 X0 hC e0
  obtain ⟨hx, hby, hml, hown, hnm, hret, hlk, hZ⟩ := hC
  have N0 := Fr.nil n0
  have K0 := Keep.refl h0 [o1]
  refine own_go T0 m 1 #[rv o0, iv 1, iv u0, .unset, .unset, .unset] [(.ref o0)] (fun t k => XS.aloadN X0.here hx rfl (hb hby d5_0) rfl rfl k) ?_
  obtain ⟨T1, X1, e1, st1⟩ := getF X0 hx hZ hown (host := "") (Or.inl (own_w hw 11 rfl)) Via.refl e0 F_starts_o0 (g := (mkF m 1 #[rv o0, iv 1, iv u0, .unset, .unset, .unset] [(.ref o0)])) rfl rfl (hb hby d5_1)
  refine own_go T1 m 4 #[rv o0, iv 1, iv u0, .unset, .unset, .unset] [(.ref o3)] (st1) ?_
  refine own_go T1 m 5 #[rv o0, iv 1, iv u0, .unset, .unset, .unset] [(.ref o0), (.ref o3)] (fun t k => XS.aloadN X1.here hx rfl (hb hby d5_4) rfl rfl k) ?_
  obtain ⟨T2, X2, e2, st2⟩ := getF X1 hx hZ hown (host := "") (Or.inl (own_w hw 15 rfl)) Via.refl e1 F_segmentFirst_o0 (g := (mkF m 5 #[rv o0, iv 1, iv u0, .unset, .unset, .unset] [(.ref o0), (.ref o3)])) rfl rfl (hb hby d5_5)
  refine own_go T2 m 8 #[rv o0, iv 1, iv u0, .unset, .unset, .unset] [(.ref o2), (.ref o3)] (st2) ?_
  refine own_go T2 m 9 #[rv o0, iv 1, iv u0, .unset, .unset, .unset] [(.ref o0), (.ref o2), (.ref o3)] (fun t k => XS.aloadN X2.here hx rfl (hb hby d5_8) rfl rfl k) ?_
  obtain ⟨T3, X3, e3, st3⟩ := getF X2 hx hZ hown (host := "") (Or.inl (own_w hw 28 rfl)) Via.refl e2 F_segments_o0 (g := (mkF m 9 #[rv o0, iv 1, iv u0, .unset, .unset, .unset] [(.ref o0), (.ref o2), (.ref o3)])) rfl rfl (hb hby d5_9)
  refine own_go T3 m 12 #[rv o0, iv 1, iv u0, .unset, .unset, .unset] [(.int 1), (.ref o2), (.ref o3)] (st3) ?_
  refine own_go T3 m 13 #[rv o0, iv 1, iv u0, .unset, .unset, .unset] [(.int 1), (.int 1), (.ref o2), (.ref o3)] (fun t k => XS.iconst X3.here hx rfl (hb hby d5_12) k) ?_
  refine own_go T3 m 14 #[rv o0, iv 1, iv u0, .unset, .unset, .unset] [(.int ((1 : Int32) - (1 : Int32))), (.ref o2), (.ref o3)] (fun t k => XS.isub X3.here hx rfl (hb hby d5_13) rfl k) ?_
  rw [show ((1 : Int32) - (1 : Int32)) = (0 : Int32) from by decide]
  refine own_go T3 m 15 #[rv o0, iv 1, iv u0, .unset, .unset, .unset] [(.int 0), (.ref o3)] (own_iaload X3 hx hZ e3 V_o2 (j := (0 : Int32)) ⟨by decide, by decide⟩ rfl (hb hby d5_14)) ?_
  refine own_go T3 m 16 #[rv o0, iv 1, iv u0, .unset, .unset, .unset] [(.int u2)] (own_iaload X3 hx hZ e3 V_o3 (j := (0 : Int32)) ⟨by decide, by decide⟩ rfl (hb hby d5_15)) ?_
  refine own_go T3 m 17 #[rv o0, iv 1, iv u0, iv u2, .unset, .unset] [] (fun t k => XS.istoreN X3.here hx rfl (hb hby d5_16) rfl rfl k) ?_
  refine own_go T3 m 18 #[rv o0, iv 1, iv u0, iv u2, .unset, .unset] [(.int u0)] (fun t k => XS.iloadN X3.here hx rfl (hb hby d5_17) rfl k) ?_
  refine own_go T3 m 19 #[rv o0, iv 1, iv u0, iv u2, .unset, .unset] [(.ref o0), (.int u0)] (fun t k => XS.aloadN X3.here hx rfl (hb hby d5_18) rfl rfl k) ?_
  obtain ⟨T6, X6, e6, st6⟩ := getF X3 hx hZ hown (host := "") (Or.inl (own_w hw 11 rfl)) Via.refl e3 F_starts_o0 (g := (mkF m 19 #[rv o0, iv 1, iv u0, iv u2, .unset, .unset] [(.ref o0), (.int u0)])) rfl rfl (hb hby d5_19)
  refine own_go T6 m 22 #[rv o0, iv 1, iv u0, iv u2, .unset, .unset] [(.ref o3), (.int u0)] (st6) ?_
  refine own_go T6 m 23 #[rv o0, iv 1, iv u0, iv u2, .unset, .unset] [(.int 1), (.ref o3), (.int u0)] (fun t k => XS.iloadN X6.here hx rfl (hb hby d5_22) rfl k) ?_
  refine own_go T6 m 24 #[rv o0, iv 1, iv u0, iv u2, .unset, .unset] [(.int u3), (.int u0)] (own_iaload X6 hx hZ e6 V_o3 (j := (1 : Int32)) ⟨by decide, by decide⟩ rfl (hb hby d5_23)) ?_
  refine own_go T6 m 25 #[rv o0, iv 1, iv u0, iv u2, .unset, .unset] [(.int (u0 - u3))] (fun t k => XS.isub X6.here hx rfl (hb hby d5_24) rfl k) ?_
  refine own_go T6 m 27 #[rv o0, iv 1, iv u0, iv u2, .unset, .unset] [(.int 64), (.int (u0 - u3))] (fun t k => XS.bipush X6.here hx rfl (hb hby d5_25) k) ?_
  refine own_go T6 m 34 #[rv o0, iv 1, iv u0, iv u2, .unset, .unset] [] (fun t k => XS.icmpYes X6.here hx rfl (pc0 := 27) (pc' := 34) rfl (hb hby d5_27) rfl (flt hq0).2.1 (by decide) (by decide) k) ?_
  refine own_go T6 m 35 #[rv o0, iv 1, iv u0, iv u2, .unset, .unset] [(.int 0)] (fun t k => XS.iconst X6.here hx rfl (hb hby d5_34) k) ?_
  refine own_go T6 m 37 #[rv o0, iv 1, iv u0, iv u2, iv 0, .unset] [] (fun t k => XS.istore X6.here hx rfl (hb hby d5_35) rfl rfl k) ?_
  refine own_go T6 m 38 #[rv o0, iv 1, iv u0, iv u2, iv 0, .unset] [(.ref o0)] (fun t k => XS.aloadN X6.here hx rfl (hb hby d5_37) rfl rfl k) ?_
  obtain ⟨T8, X8, e8, st8⟩ := getF X6 hx hZ hown (host := "") (Or.inl (own_w hw 11 rfl)) Via.refl e6 F_starts_o0 (g := (mkF m 38 #[rv o0, iv 1, iv u0, iv u2, iv 0, .unset] [(.ref o0)])) rfl rfl (hb hby d5_38)
  refine own_go T8 m 41 #[rv o0, iv 1, iv u0, iv u2, iv 0, .unset] [(.ref o3)] (st8) ?_
  refine own_go T8 m 42 #[rv o0, iv 1, iv u0, iv u2, iv 0, .unset] [(.int 1), (.ref o3)] (fun t k => XS.iloadN X8.here hx rfl (hb hby d5_41) rfl k) ?_
  refine own_go T8 m 43 #[rv o0, iv 1, iv u0, iv u2, iv 0, .unset] [(.int u3)] (own_iaload X8 hx hZ e8 V_o3 (j := (1 : Int32)) ⟨by decide, by decide⟩ rfl (hb hby d5_42)) ?_
  refine own_go T8 m 44 #[rv o0, iv 1, iv u0, iv u2, iv 0, .unset] [(.int u2), (.int u3)] (fun t k => XS.iloadN X8.here hx rfl (hb hby d5_43) rfl k) ?_
  refine own_go T8 m 45 #[rv o0, iv 1, iv u0, iv u2, iv 0, .unset] [(.int (u3 - u2))] (fun t k => XS.isub X8.here hx rfl (hb hby d5_44) rfl k) ?_
  refine own_go T8 m 47 #[rv o0, iv 1, iv u0, iv u2, iv 0, .unset] [(.int 64), (.int (u3 - u2))] (fun t k => XS.bipush X8.here hx rfl (hb hby d5_45) k) ?_
  refine own_go T8 m 54 #[rv o0, iv 1, iv u0, iv u2, iv 0, .unset] [] (fun t k => XS.icmpYes X8.here hx rfl (pc0 := 47) (pc' := 54) rfl (hb hby d5_47) rfl (tlt hq1).1 (by decide) (by decide) k) ?_
  refine own_go T8 m 55 #[rv o0, iv 1, iv u0, iv u2, iv 0, .unset] [(.int 0)] (fun t k => XS.iconst X8.here hx rfl (hb hby d5_54) k) ?_
  refine own_go T8 m 57 #[rv o0, iv 1, iv u0, iv u2, iv 0, iv 0] [] (fun t k => XS.istore X8.here hx rfl (hb hby d5_55) rfl rfl k) ?_
  refine own_go T8 m 59 #[rv o0, iv 1, iv u0, iv u2, iv 0, iv 0] [(.int 0)] (fun t k => XS.iload X8.here hx rfl (hb hby d5_57) rfl k) ?_
  refine own_go T8 m 88 #[rv o0, iv 1, iv u0, iv u2, iv 0, iv 0] [] (fun t k => XS.ifYes X8.here hx rfl (pc0 := 59) (pc' := 88) rfl (hb hby d5_59) rfl ((if0 _ _).trans (teq (by decide)).1) (by decide) (by decide) k) ?_
  refine own_go T8 m 89 #[rv o0, iv 1, iv u0, iv u2, iv 0, iv 0] [(.ref o0)] (fun t k => XS.aloadN X8.here hx rfl (hb hby d5_88) rfl rfl k) ?_
  obtain ⟨T10, X10, e10, st10⟩ := getF X8 hx hZ hown (host := "") (Or.inl (own_w hw 13 rfl)) Via.refl e8 F_ends_o0 (g := (mkF m 89 #[rv o0, iv 1, iv u0, iv u2, iv 0, iv 0] [(.ref o0)])) rfl rfl (hb hby d5_89)
  refine own_go T10 m 92 #[rv o0, iv 1, iv u0, iv u2, iv 0, iv 0] [(.ref o1)] (st10) ?_
  refine own_go T10 m 93 #[rv o0, iv 1, iv u0, iv u2, iv 0, iv 0] [(.int 1), (.ref o1)] (fun t k => XS.iloadN X10.here hx rfl (hb hby d5_92) rfl k) ?_
  refine own_go T10 m 94 #[rv o0, iv 1, iv u0, iv u2, iv 0, iv 0] [(.int u0), (.int 1), (.ref o1)] (fun t k => XS.iloadN X10.here hx rfl (hb hby d5_93) rfl k) ?_
  obtain ⟨T11, h11, X11, e11, W11, V11, st11⟩ := own_iastore X10 hx hZ e10 V_o1 (j := (1 : Int32)) ⟨by decide, by decide⟩ 1 rfl (Nat.le_of_ble_eq_true rfl) (Ls := #[rv o0, iv 1, iv u0, iv u2, iv 0, iv 0]) (rest := []) (x := u0) (hb hby d5_94)
  replace V11 : Arv Z h11 o1 c0 .int (8 : Int32) [(.int (-2)), (.int u0), (.int u1), (.int 0), (.int 0), (.int 0), (.int 0), (.int 0)] (.int 0) := V11
  have cf12 := F_ends_o0.other W11 (Or.inl ne_o0_o1)
  have cf13 := F_segmentFirst_o0.other W11 (Or.inl ne_o0_o1)
  have cf14 := F_segments_o0.other W11 (Or.inl ne_o0_o1)
  have cf15 := F_starts_o0.other W11 (Or.inl ne_o0_o1)
  have cf16 := V_o2.other W11 (Ne.symm ne_o1_o2)
  have cf17 := V_o3.other W11 (Ne.symm ne_o1_o3)
  have Z_11 : n0 ≤ h11.size := Nat.le_trans Z0 (Keep.of_wr W11).1
  have K_11 : Keep h0 h11 [o1] := K0.wr W11 (own_i 0 rfl)
  have N11 := Fr.snoc X11 N0 g_o1
  refine own_go T11 m 95 #[rv o0, iv 1, iv u0, iv u2, iv 0, iv 0] [] (st11) ?_
  refine own_retV X11 hx hlk hret (hb hby d5_95) (by decide) (by decide) ?_
  rw [e11]
  exact ⟨rfl, N11, K_11, V11⟩
theorem ef_sp32 (m : MethodId) (q0 : Addr) (q1 : Int32) : entryFrame m #[(.ref q0), (.int q1)] 3 = mkF m 0 #[rv q0, iv q1, .unset] [] := by first | (simp [entryFrame, mkF, argsToLocals, Value.category]; done) | rfl
set_option maxRecDepth 65536 in
set_option maxHeartbeats 40000000 in
theorem sp32 (l : Launch) (Z : State) (a0 : Array Value) (hw : ∀ d ∈ tables_1, d.before a0 Z = true) (ws : List Jvm.Cond) (o0 o1 o2 : Addr) (u0 : Int32) (c0 : ClassId) (c1 : ClassId) (h0 : Heap) (n0 : Nat) (Z0 : n0 ≤ h0.size) (F_count_o0 : Fld Z h0 o0 OwnK0 "count" "I" (.int 3)) (F_segmentEnd_o0 : Fld Z h0 o0 OwnK0 "segmentEnd" "[I" (.ref o1)) (F_segmentFirst_o0 : Fld Z h0 o0 OwnK0 "segmentFirst" "[I" (.ref o2)) (F_segments_o0 : Fld Z h0 o0 OwnK0 "segments" "I" (.int 1)) (V_o1 : Arv Z h0 o1 c0 .int (8 : Int32) [(.int 0), (.int 0), (.int 0), (.int 0), (.int 0), (.int 0), (.int 0), (.int 0)] (.int 0)) (V_o2 : Arv Z h0 o2 c1 .int (8 : Int32) [(.int 0), (.int 0), (.int 0), (.int 0), (.int 0), (.int 0), (.int 0), (.int 0)] (.int 0)) (ne_o0_o1 : o0 ≠ o1) (ne_o1_o2 : o1 ≠ o2) (g_o1 : n0 ≤ o1) :
    OwnC l Z (⟨OwnK0, "endRead", "(I)V"⟩ : MethodName) prog_48_method_8_code 3 none ws ({ frames := 0, cells := 0, slots := 0, locals := 0 } : Room) #[(.ref o0), (.int u0)] h0 (fun v h L => v = none ∧ Fr n0 L ∧ Keep h0 h [o1] ∧ Arv Z h o1 c0 .int (8 : Int32) [(.int u0), (.int 0), (.int 0), (.int 0), (.int 0), (.int 0), (.int 0), (.int 0)] (.int 0)) := by
  refine own_entry pf_com_example_wirelens_wirelens_wire_GroupEnds_endRead__I_V (fun m => ef_sp32 m o0 u0) ?_
  intro p e s m below meth c T0 X0 hC e0
  obtain ⟨hx, hby, hml, hown, hnm, hret, hlk, hZ⟩ := hC
  have N0 := Fr.nil n0
  have K0 := Keep.refl h0 [o1]
  refine own_go T0 m 1 #[rv o0, iv u0, .unset] [(.ref o0)] (fun t k => XS.aloadN X0.here hx rfl (hb hby d6_0) rfl rfl k) ?_
  obtain ⟨T1, X1, e1, st1⟩ := getF X0 hx hZ hown (host := "") (Or.inl (own_w hw 28 rfl)) Via.refl e0 F_segments_o0 (g := (mkF m 1 #[rv o0, iv u0, .unset] [(.ref o0)])) rfl rfl (hb hby d6_1)
  refine own_go T1 m 4 #[rv o0, iv u0, .unset] [(.int 1)] (st1) ?_
  refine own_go T1 m 5 #[rv o0, iv u0, .unset] [(.int 1), (.int 1)] (fun t k => XS.iconst X1.here hx rfl (hb hby d6_4) k) ?_
  refine own_go T1 m 6 #[rv o0, iv u0, .unset] [(.int ((1 : Int32) - (1 : Int32)))] (fun t k => XS.isub X1.here hx rfl (hb hby d6_5) rfl k) ?_
  rw [show ((1 : Int32) - (1 : Int32)) = (0 : Int32) from by decide]
  refine own_go T1 m 7 #[rv o0, iv u0, iv 0] [] (fun t k => XS.istoreN X1.here hx rfl (hb hby d6_6) rfl rfl k) ?_
  refine own_go T1 m 8 #[rv o0, iv u0, iv 0] [(.ref o0)] (fun t k => XS.aloadN X1.here hx rfl (hb hby d6_7) rfl rfl k) ?_
  obtain ⟨T2, X2, e2, st2⟩ := getF X1 hx hZ hown (host := "") (Or.inl (own_w hw 30 rfl)) Via.refl e1 F_count_o0 (g := (mkF m 8 #[rv o0, iv u0, iv 0] [(.ref o0)])) rfl rfl (hb hby d6_8)
  refine own_go T2 m 11 #[rv o0, iv u0, iv 0] [(.int 3)] (st2) ?_
  refine own_go T2 m 12 #[rv o0, iv u0, iv 0] [(.ref o0), (.int 3)] (fun t k => XS.aloadN X2.here hx rfl (hb hby d6_11) rfl rfl k) ?_
  obtain ⟨T3, X3, e3, st3⟩ := getF X2 hx hZ hown (host := "") (Or.inl (own_w hw 15 rfl)) Via.refl e2 F_segmentFirst_o0 (g := (mkF m 12 #[rv o0, iv u0, iv 0] [(.ref o0), (.int 3)])) rfl rfl (hb hby d6_12)
  refine own_go T3 m 15 #[rv o0, iv u0, iv 0] [(.ref o2), (.int 3)] (st3) ?_
  refine own_go T3 m 16 #[rv o0, iv u0, iv 0] [(.int 0), (.ref o2), (.int 3)] (fun t k => XS.iloadN X3.here hx rfl (hb hby d6_15) rfl k) ?_
  refine own_go T3 m 17 #[rv o0, iv u0, iv 0] [(.int 0), (.int 3)] (own_iaload X3 hx hZ e3 V_o2 (j := (0 : Int32)) ⟨by decide, by decide⟩ rfl (hb hby d6_16)) ?_
  refine own_go T3 m 33 #[rv o0, iv u0, iv 0] [] (fun t k => XS.icmpYes X3.here hx rfl (pc0 := 17) (pc' := 33) rfl (hb hby d6_17) rfl (feq (by decide)).2 (by decide) (by decide) k) ?_
  refine own_go T3 m 34 #[rv o0, iv u0, iv 0] [(.ref o0)] (fun t k => XS.aloadN X3.here hx rfl (hb hby d6_33) rfl rfl k) ?_
  obtain ⟨T5, X5, e5, st5⟩ := getF X3 hx hZ hown (host := "") (Or.inl (own_w hw 17 rfl)) Via.refl e3 F_segmentEnd_o0 (g := (mkF m 34 #[rv o0, iv u0, iv 0] [(.ref o0)])) rfl rfl (hb hby d6_34)
  refine own_go T5 m 37 #[rv o0, iv u0, iv 0] [(.ref o1)] (st5) ?_
  refine own_go T5 m 38 #[rv o0, iv u0, iv 0] [(.int 0), (.ref o1)] (fun t k => XS.iloadN X5.here hx rfl (hb hby d6_37) rfl k) ?_
  refine own_go T5 m 39 #[rv o0, iv u0, iv 0] [(.int u0), (.int 0), (.ref o1)] (fun t k => XS.iloadN X5.here hx rfl (hb hby d6_38) rfl k) ?_
  obtain ⟨T6, h6, X6, e6, W6, V6, st6⟩ := own_iastore X5 hx hZ e5 V_o1 (j := (0 : Int32)) ⟨by decide, by decide⟩ 0 rfl (Nat.le_of_ble_eq_true rfl) (Ls := #[rv o0, iv u0, iv 0]) (rest := []) (x := u0) (hb hby d6_39)
  replace V6 : Arv Z h6 o1 c0 .int (8 : Int32) [(.int u0), (.int 0), (.int 0), (.int 0), (.int 0), (.int 0), (.int 0), (.int 0)] (.int 0) := V6
  have cf7 := F_count_o0.other W6 (Or.inl ne_o0_o1)
  have cf8 := F_segmentEnd_o0.other W6 (Or.inl ne_o0_o1)
  have cf9 := F_segmentFirst_o0.other W6 (Or.inl ne_o0_o1)
  have cf10 := F_segments_o0.other W6 (Or.inl ne_o0_o1)
  have cf11 := V_o2.other W6 (Ne.symm ne_o1_o2)
  have Z_6 : n0 ≤ h6.size := Nat.le_trans Z0 (Keep.of_wr W6).1
  have K_6 : Keep h0 h6 [o1] := K0.wr W6 (own_i 0 rfl)
  have N6 := Fr.snoc X6 N0 g_o1
  refine own_go T6 m 40 #[rv o0, iv u0, iv 0] [] (st6) ?_
  refine own_retV X6 hx hlk hret (hb hby d6_40) (by decide) (by decide) ?_
  rw [e6]
  exact ⟨rfl, N6, K_6, V6⟩
theorem own_db90 (t0 t1 t2 t3 t4 t5 t6 t7 t8 t9 : Int32) (h0 : ¬ (t0 < (0 : Int32))) (h1 : t0 < t1) (h2 : t1 < t2) (h3 : ¬ (t3 < t2)) (h4 : t3 < t4) (h5 : t4 < t5) (h6 : t6 < t7) (h7 : t8 < t9) (h8 : ¬ (t6 < (64 : Int32))) (h9 : t9 < (64 : Int32)) : ¬ (t1 < t0) := by
  simp only [Int32.lt_iff_toInt_lt, ← Int32.toInt_inj, Int32.reduceToInt] at *
  omega
theorem own_db91 (t0 t1 t2 t3 t4 t5 t6 t7 t8 t9 : Int32) (h0 : ¬ (t0 < (0 : Int32))) (h1 : t0 < t1) (h2 : t1 < t2) (h3 : ¬ (t3 < t2)) (h4 : t3 < t4) (h5 : t4 < t5) (h6 : t6 < t7) (h7 : t8 < t9) (h8 : ¬ (t6 < (64 : Int32))) (h9 : t9 < (64 : Int32)) : t1 < t5 := by
  simp only [Int32.lt_iff_toInt_lt, ← Int32.toInt_inj, Int32.reduceToInt] at *
  omega
theorem own_db92 (t0 t1 t2 t3 t4 t5 t6 t7 t8 t9 : Int32) (h0 : ¬ (t0 < (0 : Int32))) (h1 : t0 < t1) (h2 : t1 < t2) (h3 : ¬ (t3 < t2)) (h4 : t3 < t4) (h5 : t4 < t5) (h6 : t6 < t7) (h7 : t8 < t9) (h8 : ¬ (t6 < (64 : Int32))) (h9 : t9 < (64 : Int32)) : ¬ (t1 < t1) := by
  simp only [Int32.lt_iff_toInt_lt, ← Int32.toInt_inj, Int32.reduceToInt] at *
  omega
theorem own_db93 (t0 t1 t2 t3 t4 t5 t6 t7 t8 t9 : Int32) (h0 : ¬ (t0 < (0 : Int32))) (h1 : t0 < t1) (h2 : t1 < t2) (h3 : ¬ (t3 < t2)) (h4 : t3 < t4) (h5 : t4 < t5) (h6 : t6 < t7) (h7 : t8 < t9) (h8 : ¬ (t6 < (64 : Int32))) (h9 : t9 < (64 : Int32)) : ¬ (t4 = (-2 : Int32)) := by
  simp only [Int32.lt_iff_toInt_lt, ← Int32.toInt_inj, Int32.reduceToInt] at *
  omega
theorem ef_sp36 (m : MethodId) (q0 : Int32) (q1 : Int32) (q2 : Int32) : entryFrame m #[(.int q0), (.int q1), (.int q2)] 3 = mkF m 0 #[iv q0, iv q1, iv q2] [] := by first | (simp [entryFrame, mkF, argsToLocals, Value.category]; done) | rfl
set_option maxRecDepth 65536 in
set_option maxHeartbeats 40000000 in
theorem sp36 (l : Launch) (Z : State) (a0 : Array Value) (hw : ∀ d ∈ tables_1, d.before a0 Z = true) (ws : List Jvm.Cond) (h0 : Heap) (n0 : Nat) (Z0 : n0 ≤ h0.size) :
    OwnC l Z (⟨"java/util/Arrays", "rangeCheck", "(III)V"⟩ : MethodName) jdk_65_method_30_code 3 none ws ({ frames := 0, cells := 0, slots := 0, locals := 0 } : Room) #[(.int 8), (.int 0), (.int 3)] h0 (fun v h L => v = none ∧ h = h0 ∧ L = []) := by
  refine own_entry pf_java_util_Arrays_rangeCheck__III_V (fun m => ef_sp36 m (8 : Int32) (0 : Int32) (3 : Int32)) ?_
  intro p e s m below meth c T0 X0 hC e0
  obtain ⟨hx, hby, hml, hown, hnm, hret, hlk, hZ⟩ := hC
  have N0 := Fr.nil n0
  have K0 := Keep.refl h0 []
  refine own_go T0 m 1 #[iv 8, iv 0, iv 3] [(.int 0)] (fun t k => XS.iloadN X0.here hx rfl (hb hby d11_0) rfl k) ?_
  refine own_go T0 m 2 #[iv 8, iv 0, iv 3] [(.int 3), (.int 0)] (fun t k => XS.iloadN X0.here hx rfl (hb hby d11_1) rfl k) ?_
  refine own_go T0 m 46 #[iv 8, iv 0, iv 3] [] (fun t k => XS.icmpYes X0.here hx rfl (pc0 := 2) (pc' := 46) rfl (hb hby d11_2) rfl (flt (by decide)).2.2.2 (by decide) (by decide) k) ?_
  refine own_go T0 m 47 #[iv 8, iv 0, iv 3] [(.int 0)] (fun t k => XS.iloadN X0.here hx rfl (hb hby d11_46) rfl k) ?_
  refine own_go T0 m 59 #[iv 8, iv 0, iv 3] [] (fun t k => XS.ifYes X0.here hx rfl (pc0 := 47) (pc' := 59) rfl (hb hby d11_47) rfl ((if0 _ _).trans (flt (by decide)).2.1) (by decide) (by decide) k) ?_
  refine own_go T0 m 60 #[iv 8, iv 0, iv 3] [(.int 3)] (fun t k => XS.iloadN X0.here hx rfl (hb hby d11_59) rfl k) ?_
  refine own_go T0 m 61 #[iv 8, iv 0, iv 3] [(.int 8), (.int 3)] (fun t k => XS.iloadN X0.here hx rfl (hb hby d11_60) rfl k) ?_
  refine own_go T0 m 73 #[iv 8, iv 0, iv 3] [] (fun t k => XS.icmpYes X0.here hx rfl (pc0 := 61) (pc' := 73) rfl (hb hby d11_61) rfl (flt (by decide)).2.2.2 (by decide) (by decide) k) ?_
  refine own_retV X0 hx hlk hret (hb hby d11_73) (by decide) (by decide) ?_
  exact ⟨rfl, e0, rfl⟩
theorem ef_sp37 (m : MethodId) (q0 : Addr) (q1 : Int32) (q2 : Int32) (q3 : Int32) : entryFrame m #[(.ref q0), (.int q1), (.int q2), (.int q3)] 8 = mkF m 0 #[rv q0, iv q1, iv q2, iv q3, .unset, .unset, .unset, .unset] [] := by first | (simp [entryFrame, mkF, argsToLocals, Value.category]; done) | rfl
set_option maxRecDepth 65536 in
set_option maxHeartbeats 40000000 in
theorem sp37 (l : Launch) (Z : State) (a0 : Array Value) (hw : ∀ d ∈ tables_1, d.before a0 Z = true) (ws : List Jvm.Cond) (o0 : Addr) (u0 : Int32) (u1 : Int32) (u2 : Int32) (c0 : ClassId) (h0 : Heap) (n0 : Nat) (Z0 : n0 ≤ h0.size) (V_o0 : Arv Z h0 o0 c0 .int (8 : Int32) [(.int u1), (.int u0), (.int u2), (.int 0), (.int 0), (.int 0), (.int 0), (.int 0)] (.int 0)) (hq0 : ¬ (u0 < u0)) :
    OwnC l Z (⟨"java/util/Arrays", "binarySearch0", "([IIII)I"⟩ : MethodName) jdk_65_method_59_code 8 (some .int) ws ({ frames := 0, cells := 0, slots := 0, locals := 0 } : Room) #[(.ref o0), (.int 0), (.int 3), (.int u0)] h0 (fun v h L => v = some (.int 1) ∧ h = h0 ∧ L = []) := by
  refine own_entry pf_java_util_Arrays_binarySearch0___IIII_I (fun m => ef_sp37 m o0 (0 : Int32) (3 : Int32) u0) ?_
  intro p e s m below meth c T0 X0 hC e0
  obtain ⟨hx, hby, hml, hown, hnm, hret, hlk, hZ⟩ := hC
  have N0 := Fr.nil n0
  have K0 := Keep.refl h0 []
  refine own_go T0 m 1 #[rv o0, iv 0, iv 3, iv u0, .unset, .unset, .unset, .unset] [(.int 0)] (fun t k => XS.iloadN X0.here hx rfl (hb hby d12_0) rfl k) ?_
  refine own_go T0 m 3 #[rv o0, iv 0, iv 3, iv u0, iv 0, .unset, .unset, .unset] [] (fun t k => XS.istore X0.here hx rfl (hb hby d12_1) rfl rfl k) ?_
  refine own_go T0 m 4 #[rv o0, iv 0, iv 3, iv u0, iv 0, .unset, .unset, .unset] [(.int 3)] (fun t k => XS.iloadN X0.here hx rfl (hb hby d12_3) rfl k) ?_
  refine own_go T0 m 5 #[rv o0, iv 0, iv 3, iv u0, iv 0, .unset, .unset, .unset] [(.int 1), (.int 3)] (fun t k => XS.iconst X0.here hx rfl (hb hby d12_4) k) ?_
  refine own_go T0 m 6 #[rv o0, iv 0, iv 3, iv u0, iv 0, .unset, .unset, .unset] [(.int ((3 : Int32) - (1 : Int32)))] (fun t k => XS.isub X0.here hx rfl (hb hby d12_5) rfl k) ?_
  rw [show ((3 : Int32) - (1 : Int32)) = (2 : Int32) from by decide]
  refine own_go T0 m 8 #[rv o0, iv 0, iv 3, iv u0, iv 0, iv 2, .unset, .unset] [] (fun t k => XS.istore X0.here hx rfl (hb hby d12_6) rfl rfl k) ?_
  refine own_go T0 m 10 #[rv o0, iv 0, iv 3, iv u0, iv 0, iv 2, .unset, .unset] [(.int 0)] (fun t k => XS.iload X0.here hx rfl (hb hby d12_8) rfl k) ?_
  refine own_go T0 m 12 #[rv o0, iv 0, iv 3, iv u0, iv 0, iv 2, .unset, .unset] [(.int 2), (.int 0)] (fun t k => XS.iload X0.here hx rfl (hb hby d12_10) rfl k) ?_
  refine own_go T0 m 15 #[rv o0, iv 0, iv 3, iv u0, iv 0, iv 2, .unset, .unset] [] (fun t k => XS.icmpNo X0.here hx rfl (hb hby d12_12) rfl (flt (by decide)).2.2.1 k) ?_
  refine own_go T0 m 17 #[rv o0, iv 0, iv 3, iv u0, iv 0, iv 2, .unset, .unset] [(.int 0)] (fun t k => XS.iload X0.here hx rfl (hb hby d12_15) rfl k) ?_
  refine own_go T0 m 19 #[rv o0, iv 0, iv 3, iv u0, iv 0, iv 2, .unset, .unset] [(.int 2), (.int 0)] (fun t k => XS.iload X0.here hx rfl (hb hby d12_17) rfl k) ?_
  refine own_go T0 m 20 #[rv o0, iv 0, iv 3, iv u0, iv 0, iv 2, .unset, .unset] [(.int ((0 : Int32) + (2 : Int32)))] (fun t k => XS.iadd X0.here hx rfl (hb hby d12_19) rfl k) ?_
  rw [show ((0 : Int32) + (2 : Int32)) = (2 : Int32) from by decide]
  refine own_go T0 m 21 #[rv o0, iv 0, iv 3, iv u0, iv 0, iv 2, .unset, .unset] [(.int 1), (.int 2)] (fun t k => XS.iconst X0.here hx rfl (hb hby d12_20) k) ?_
  refine own_go T0 m 22 #[rv o0, iv 0, iv 3, iv u0, iv 0, iv 2, .unset, .unset] [(.int (((2 : Int32).toUInt32 >>> ((1 : Int32) &&& 31).toUInt32).toInt32))] (fun t k => XS.iushr X0.here hx rfl (hb hby d12_21) rfl k) ?_
  rw [show (((2 : Int32).toUInt32 >>> ((1 : Int32) &&& 31).toUInt32).toInt32) = (1 : Int32) from by decide]
  refine own_go T0 m 24 #[rv o0, iv 0, iv 3, iv u0, iv 0, iv 2, iv 1, .unset] [] (fun t k => XS.istore X0.here hx rfl (hb hby d12_22) rfl rfl k) ?_
  refine own_go T0 m 25 #[rv o0, iv 0, iv 3, iv u0, iv 0, iv 2, iv 1, .unset] [(.ref o0)] (fun t k => XS.aloadN X0.here hx rfl (hb hby d12_24) rfl rfl k) ?_
  refine own_go T0 m 27 #[rv o0, iv 0, iv 3, iv u0, iv 0, iv 2, iv 1, .unset] [(.int 1), (.ref o0)] (fun t k => XS.iload X0.here hx rfl (hb hby d12_25) rfl k) ?_
  refine own_go T0 m 28 #[rv o0, iv 0, iv 3, iv u0, iv 0, iv 2, iv 1, .unset] [(.int u0)] (own_iaload X0 hx hZ e0 V_o0 (j := (1 : Int32)) ⟨by decide, by decide⟩ rfl (hb hby d12_27)) ?_
  refine own_go T0 m 30 #[rv o0, iv 0, iv 3, iv u0, iv 0, iv 2, iv 1, iv u0] [] (fun t k => XS.istore X0.here hx rfl (hb hby d12_28) rfl rfl k) ?_
  refine own_go T0 m 32 #[rv o0, iv 0, iv 3, iv u0, iv 0, iv 2, iv 1, iv u0] [(.int u0)] (fun t k => XS.iload X0.here hx rfl (hb hby d12_30) rfl k) ?_
  refine own_go T0 m 33 #[rv o0, iv 0, iv 3, iv u0, iv 0, iv 2, iv 1, iv u0] [(.int u0), (.int u0)] (fun t k => XS.iloadN X0.here hx rfl (hb hby d12_32) rfl k) ?_
  refine own_go T0 m 45 #[rv o0, iv 0, iv 3, iv u0, iv 0, iv 2, iv 1, iv u0] [] (fun t k => XS.icmpYes X0.here hx rfl (pc0 := 33) (pc' := 45) rfl (hb hby d12_33) rfl (flt hq0).2.1 (by decide) (by decide) k) ?_
  refine own_go T0 m 47 #[rv o0, iv 0, iv 3, iv u0, iv 0, iv 2, iv 1, iv u0] [(.int u0)] (fun t k => XS.iload X0.here hx rfl (hb hby d12_45) rfl k) ?_
  refine own_go T0 m 48 #[rv o0, iv 0, iv 3, iv u0, iv 0, iv 2, iv 1, iv u0] [(.int u0), (.int u0)] (fun t k => XS.iloadN X0.here hx rfl (hb hby d12_47) rfl k) ?_
  refine own_go T0 m 60 #[rv o0, iv 0, iv 3, iv u0, iv 0, iv 2, iv 1, iv u0] [] (fun t k => XS.icmpYes X0.here hx rfl (pc0 := 48) (pc' := 60) rfl (hb hby d12_48) rfl (flt hq0).2.2.2 (by decide) (by decide) k) ?_
  refine own_go T0 m 62 #[rv o0, iv 0, iv 3, iv u0, iv 0, iv 2, iv 1, iv u0] [(.int 1)] (fun t k => XS.iload X0.here hx rfl (hb hby d12_60) rfl k) ?_
  refine own_retI X0 hx hlk hret (hb hby d12_62) (by decide) (by decide) ?_
  exact ⟨rfl, e0, rfl⟩
theorem ef_sp35 (m : MethodId) (q0 : Addr) (q1 : Int32) (q2 : Int32) (q3 : Int32) : entryFrame m #[(.ref q0), (.int q1), (.int q2), (.int q3)] 4 = mkF m 0 #[rv q0, iv q1, iv q2, iv q3] [] := by first | (simp [entryFrame, mkF, argsToLocals, Value.category]; done) | rfl
set_option maxRecDepth 65536 in
set_option maxHeartbeats 40000000 in
theorem sp35 (l : Launch) (Z : State) (a0 : Array Value) (hw : ∀ d ∈ tables_1, d.before a0 Z = true) (ws : List Jvm.Cond) (o0 : Addr) (u0 : Int32) (u1 : Int32) (u2 : Int32) (c0 : ClassId) (h0 : Heap) (n0 : Nat) (Z0 : n0 ≤ h0.size) (V_o0 : Arv Z h0 o0 c0 .int (8 : Int32) [(.int u1), (.int u0), (.int u2), (.int 0), (.int 0), (.int 0), (.int 0), (.int 0)] (.int 0)) (hq0 : ¬ (u0 < u0)) :
    OwnC l Z (⟨"java/util/Arrays", "binarySearch", "([IIII)I"⟩ : MethodName) jdk_65_method_58_code 4 (some .int) ws ({ frames := 1, cells := 0, slots := 0, locals := 19 } : Room) #[(.ref o0), (.int 0), (.int 3), (.int u0)] h0 (fun v h L => v = some (.int 1) ∧ h = h0 ∧ L = []) := by
  refine own_entry pf_java_util_Arrays_binarySearch___IIII_I (fun m => ef_sp35 m o0 (0 : Int32) (3 : Int32) u0) ?_
  intro p e s m below meth c T0 X0 hC e0
  obtain ⟨hx, hby, hml, hown, hnm, hret, hlk, hZ⟩ := hC
  have N0 := Fr.nil n0
  have K0 := Keep.refl h0 []
  refine own_go T0 m 1 #[rv o0, iv 0, iv 3, iv u0] [(.ref o0)] (fun t k => XS.aloadN X0.here hx rfl (hb hby d10_0) rfl rfl k) ?_
  refine own_go T0 m 2 #[rv o0, iv 0, iv 3, iv u0] [(.int 8)] (own_alen X0 hx hZ e0 V_o0 (hb hby d10_1)) ?_
  refine own_go T0 m 3 #[rv o0, iv 0, iv 3, iv u0] [(.int 0), (.int 8)] (fun t k => XS.iloadN X0.here hx rfl (hb hby d10_2) rfl k) ?_
  refine own_go T0 m 4 #[rv o0, iv 0, iv 3, iv u0] [(.int 3), (.int 0), (.int 8)] (fun t k => XS.iloadN X0.here hx rfl (hb hby d10_3) rfl k) ?_
  obtain ⟨_, T2, L2, X2, ⟨rfl, e2, rfl⟩, st2⟩ := own_static X0 hx hZ (y := (⟨"java/util/Arrays", "rangeCheck", "(III)V"⟩ : MethodName)) hown (own_w hw 66 rfl) (own_w hw 67 rfl) (own_w hw 64 rfl) (own_w hw 68 rfl) (by decide) (sp36 l Z a0 hw []  h0 n0 Z0 ) e0 0 (argsL := [(.int 8), (.int 0), (.int 3)]) (rest := []) (Ls := #[rv o0, iv 0, iv 3, iv u0]) (by rw [hml]; rfl) (lenOf pd__III_V rfl) rfl rfl (Nat.le_of_eq rfl) (hb hby d10_4) (by decide) (by decide) (by decide) (by decide)
  replace X2 := own_nil X2
  refine own_go T2 m 7 #[rv o0, iv 0, iv 3, iv u0] [] (st2) ?_
  refine own_go T2 m 8 #[rv o0, iv 0, iv 3, iv u0] [(.ref o0)] (fun t k => XS.aloadN X2.here hx rfl (hb hby d10_7) rfl rfl k) ?_
  refine own_go T2 m 9 #[rv o0, iv 0, iv 3, iv u0] [(.int 0), (.ref o0)] (fun t k => XS.iloadN X2.here hx rfl (hb hby d10_8) rfl k) ?_
  refine own_go T2 m 10 #[rv o0, iv 0, iv 3, iv u0] [(.int 3), (.int 0), (.ref o0)] (fun t k => XS.iloadN X2.here hx rfl (hb hby d10_9) rfl k) ?_
  refine own_go T2 m 11 #[rv o0, iv 0, iv 3, iv u0] [(.int u0), (.int 3), (.int 0), (.ref o0)] (fun t k => XS.iloadN X2.here hx rfl (hb hby d10_10) rfl k) ?_
  obtain ⟨_, T3, L3, X3, ⟨rfl, e3, rfl⟩, st3⟩ := own_static X2 hx hZ (y := (⟨"java/util/Arrays", "binarySearch0", "([IIII)I"⟩ : MethodName)) hown (own_w hw 69 rfl) (own_w hw 70 rfl) (own_w hw 64 rfl) (own_w hw 71 rfl) (by decide) (sp37 l Z a0 hw [] o0 u0 u1 u2 c0 h0 n0 Z0 V_o0 hq0) e2 0 (argsL := [(.ref o0), (.int 0), (.int 3), (.int u0)]) (rest := []) (Ls := #[rv o0, iv 0, iv 3, iv u0]) (by rw [hml]; rfl) (lenOf pd___IIII_I rfl) rfl rfl (Nat.le_of_eq rfl) (hb hby d10_11) (by decide) (by decide) (by decide) (by decide)
  replace X3 := own_nil X3
  refine own_go T3 m 14 #[rv o0, iv 0, iv 3, iv u0] [(.int 1)] (st3) ?_
  refine own_retI X3 hx hlk hret (hb hby d10_14) (by decide) (by decide) ?_
  exact ⟨rfl, e3, rfl⟩
theorem ef_sp34 (m : MethodId) (q0 : Addr) (q1 : Int32) : entryFrame m #[(.ref q0), (.int q1)] 4 = mkF m 0 #[rv q0, iv q1, .unset, .unset] [] := by first | (simp [entryFrame, mkF, argsToLocals, Value.category]; done) | rfl
set_option maxRecDepth 65536 in
set_option maxHeartbeats 40000000 in
theorem sp34 (l : Launch) (Z : State) (a0 : Array Value) (hw : ∀ d ∈ tables_1, d.before a0 Z = true) (ws : List Jvm.Cond) (o0 o1 o2 o3 o4 o5 : Addr) (u0 : Int32) (u1 : Int32) (u2 : Int32) (c0 : ClassId) (c1 : ClassId) (h0 : Heap) (n0 : Nat) (Z0 : n0 ≤ h0.size) (E_o0 : Exa Z h0 o0 OwnK0) (F_count_o0 : Fld Z h0 o0 OwnK0 "count" "I" (.int 3)) (F_cursor_o0 : Fld Z h0 o0 OwnK0 "cursor" "I" (.int (-1))) (F_ends_o0 : Fld Z h0 o0 OwnK0 "ends" "[I" (.ref o1)) (F_lastOpened_o0 : Fld Z h0 o0 OwnK0 "lastOpened" "I" (.int 2)) (F_segmentEnd_o0 : Fld Z h0 o0 OwnK0 "segmentEnd" "[I" (.ref o2)) (F_segmentFirst_o0 : Fld Z h0 o0 OwnK0 "segmentFirst" "[I" (.ref o3)) (F_segmentLimit_o0 : Fld Z h0 o0 OwnK0 "segmentLimit" "[I" (.ref o4)) (F_segments_o0 : Fld Z h0 o0 OwnK0 "segments" "I" (.int 1)) (F_starts_o0 : Fld Z h0 o0 OwnK0 "starts" "[I" (.ref o5)) (V_o3 : Arv Z h0 o3 c0 .int (8 : Int32) [(.int 0), (.int 0), (.int 0), (.int 0), (.int 0), (.int 0), (.int 0), (.int 0)] (.int 0)) (V_o5 : Arv Z h0 o5 c1 .int (8 : Int32) [(.int u1), (.int u0), (.int u2), (.int 0), (.int 0), (.int 0), (.int 0), (.int 0)] (.int 0)) (ne_o0_o1 : o0 ≠ o1) (ne_o0_o2 : o0 ≠ o2) (ne_o0_o3 : o0 ≠ o3) (ne_o0_o4 : o0 ≠ o4) (ne_o0_o5 : o0 ≠ o5) (g_o0 : n0 ≤ o0) (hq0 : ¬ (u0 < u0)) :
    OwnC l Z (⟨OwnK0, "search", "(I)I"⟩ : MethodName) prog_48_method_4_code 4 (some .int) ws ({ frames := 2, cells := 0, slots := 0, locals := 34 } : Room) #[(.ref o0), (.int u0)] h0 (fun v h L => v = some (.int 1) ∧ Fr n0 L ∧ Keep h0 h [o0] ∧ Fld Z h o0 OwnK0 "count" "I" (.int 3) ∧ Fld Z h o0 OwnK0 "ends" "[I" (.ref o1) ∧ Fld Z h o0 OwnK0 "lastOpened" "I" (.int 2) ∧ Fld Z h o0 OwnK0 "segmentEnd" "[I" (.ref o2) ∧ Fld Z h o0 OwnK0 "segmentFirst" "[I" (.ref o3) ∧ Fld Z h o0 OwnK0 "segmentLimit" "[I" (.ref o4) ∧ Fld Z h o0 OwnK0 "segments" "I" (.int 1) ∧ Fld Z h o0 OwnK0 "starts" "[I" (.ref o5) ∧ Fld Z h o0 OwnK0 "cursor" "I" (.int 1)) := by
  refine own_entry pf_com_example_wirelens_wirelens_wire_GroupEnds_search__I_I (fun m => ef_sp34 m o0 u0) ?_
  intro p e s m below meth c T0 X0 hC e0
  obtain ⟨hx, hby, hml, hown, hnm, hret, hlk, hZ⟩ := hC
  have N0 := Fr.nil n0
  have K0 := Keep.refl h0 [o0]
  refine own_go T0 m 1 #[rv o0, iv u0, .unset, .unset] [(.ref o0)] (fun t k => XS.aloadN X0.here hx rfl (hb hby d9_0) rfl rfl k) ?_
  obtain ⟨T1, X1, e1, st1⟩ := getF X0 hx hZ hown (host := "") (Or.inl (own_w hw 15 rfl)) Via.refl e0 F_segmentFirst_o0 (g := (mkF m 1 #[rv o0, iv u0, .unset, .unset] [(.ref o0)])) rfl rfl (hb hby d9_1)
  refine own_go T1 m 4 #[rv o0, iv u0, .unset, .unset] [(.ref o3)] (st1) ?_
  refine own_go T1 m 5 #[rv o0, iv u0, .unset, .unset] [(.ref o0), (.ref o3)] (fun t k => XS.aloadN X1.here hx rfl (hb hby d9_4) rfl rfl k) ?_
  obtain ⟨T2, X2, e2, st2⟩ := getF X1 hx hZ hown (host := "") (Or.inl (own_w hw 28 rfl)) Via.refl e1 F_segments_o0 (g := (mkF m 5 #[rv o0, iv u0, .unset, .unset] [(.ref o0), (.ref o3)])) rfl rfl (hb hby d9_5)
  refine own_go T2 m 8 #[rv o0, iv u0, .unset, .unset] [(.int 1), (.ref o3)] (st2) ?_
  refine own_go T2 m 9 #[rv o0, iv u0, .unset, .unset] [(.int 1), (.int 1), (.ref o3)] (fun t k => XS.iconst X2.here hx rfl (hb hby d9_8) k) ?_
  refine own_go T2 m 10 #[rv o0, iv u0, .unset, .unset] [(.int ((1 : Int32) - (1 : Int32))), (.ref o3)] (fun t k => XS.isub X2.here hx rfl (hb hby d9_9) rfl k) ?_
  rw [show ((1 : Int32) - (1 : Int32)) = (0 : Int32) from by decide]
  refine own_go T2 m 11 #[rv o0, iv u0, .unset, .unset] [(.int 0)] (own_iaload X2 hx hZ e2 V_o3 (j := (0 : Int32)) ⟨by decide, by decide⟩ rfl (hb hby d9_10)) ?_
  refine own_go T2 m 12 #[rv o0, iv u0, iv 0, .unset] [] (fun t k => XS.istoreN X2.here hx rfl (hb hby d9_11) rfl rfl k) ?_
  refine own_go T2 m 13 #[rv o0, iv u0, iv 0, .unset] [(.ref o0)] (fun t k => XS.aloadN X2.here hx rfl (hb hby d9_12) rfl rfl k) ?_
  obtain ⟨T4, X4, e4, st4⟩ := getF X2 hx hZ hown (host := "") (Or.inl (own_w hw 21 rfl)) Via.refl e2 F_cursor_o0 (g := (mkF m 13 #[rv o0, iv u0, iv 0, .unset] [(.ref o0)])) rfl rfl (hb hby d9_13)
  refine own_go T4 m 16 #[rv o0, iv u0, iv 0, .unset] [(.int (-1))] (st4) ?_
  refine own_go T4 m 17 #[rv o0, iv u0, iv 0, iv (-1)] [] (fun t k => XS.istoreN X4.here hx rfl (hb hby d9_16) rfl rfl k) ?_
  refine own_go T4 m 18 #[rv o0, iv u0, iv 0, iv (-1)] [(.int (-1))] (fun t k => XS.iloadN X4.here hx rfl (hb hby d9_17) rfl k) ?_
  refine own_go T4 m 19 #[rv o0, iv u0, iv 0, iv (-1)] [(.int 0), (.int (-1))] (fun t k => XS.iloadN X4.here hx rfl (hb hby d9_18) rfl k) ?_
  refine own_go T4 m 39 #[rv o0, iv u0, iv 0, iv (-1)] [] (fun t k => XS.icmpYes X4.here hx rfl (pc0 := 19) (pc' := 39) rfl (hb hby d9_19) rfl (tlt (by decide)).1 (by decide) (by decide) k) ?_
  refine own_go T4 m 40 #[rv o0, iv u0, iv 0, iv (-1)] [(.ref o0)] (fun t k => XS.aloadN X4.here hx rfl (hb hby d9_39) rfl rfl k) ?_
  obtain ⟨T5, X5, e5, st5⟩ := getF X4 hx hZ hown (host := "") (Or.inl (own_w hw 11 rfl)) Via.refl e4 F_starts_o0 (g := (mkF m 40 #[rv o0, iv u0, iv 0, iv (-1)] [(.ref o0)])) rfl rfl (hb hby d9_40)
  refine own_go T5 m 43 #[rv o0, iv u0, iv 0, iv (-1)] [(.ref o5)] (st5) ?_
  refine own_go T5 m 44 #[rv o0, iv u0, iv 0, iv (-1)] [(.int 0), (.ref o5)] (fun t k => XS.iloadN X5.here hx rfl (hb hby d9_43) rfl k) ?_
  refine own_go T5 m 45 #[rv o0, iv u0, iv 0, iv (-1)] [(.ref o0), (.int 0), (.ref o5)] (fun t k => XS.aloadN X5.here hx rfl (hb hby d9_44) rfl rfl k) ?_
  obtain ⟨T6, X6, e6, st6⟩ := getF X5 hx hZ hown (host := "") (Or.inl (own_w hw 30 rfl)) Via.refl e5 F_count_o0 (g := (mkF m 45 #[rv o0, iv u0, iv 0, iv (-1)] [(.ref o0), (.int 0), (.ref o5)])) rfl rfl (hb hby d9_45)
  refine own_go T6 m 48 #[rv o0, iv u0, iv 0, iv (-1)] [(.int 3), (.int 0), (.ref o5)] (st6) ?_
  refine own_go T6 m 49 #[rv o0, iv u0, iv 0, iv (-1)] [(.int u0), (.int 3), (.int 0), (.ref o5)] (fun t k => XS.iloadN X6.here hx rfl (hb hby d9_48) rfl k) ?_
  obtain ⟨_, T7, L7, X7, ⟨rfl, e7, rfl⟩, st7⟩ := own_static X6 hx hZ (y := (⟨"java/util/Arrays", "binarySearch", "([IIII)I"⟩ : MethodName)) hown (own_w hw 62 rfl) (own_w hw 63 rfl) (own_w hw 64 rfl) (own_w hw 65 rfl) (by decide) (sp35 l Z a0 hw [] o5 u0 u1 u2 c1 h0 n0 Z0 V_o5 hq0) e6 0 (argsL := [(.ref o5), (.int 0), (.int 3), (.int u0)]) (rest := []) (Ls := #[rv o0, iv u0, iv 0, iv (-1)]) (by rw [hml]; rfl) (lenOf pd___IIII_I rfl) rfl rfl (Nat.le_of_eq rfl) (hb hby d9_49) (by decide) (by decide) (by decide) (by decide)
  replace X7 := own_nil X7
  refine own_go T7 m 52 #[rv o0, iv u0, iv 0, iv (-1)] [(.int 1)] (st7) ?_
  refine own_go T7 m 53 #[rv o0, iv u0, iv 0, iv 1] [] (fun t k => XS.istoreN X7.here hx rfl (hb hby d9_52) rfl rfl k) ?_
  refine own_go T7 m 54 #[rv o0, iv u0, iv 0, iv 1] [(.int 1)] (fun t k => XS.iloadN X7.here hx rfl (hb hby d9_53) rfl k) ?_
  refine own_go T7 m 64 #[rv o0, iv u0, iv 0, iv 1] [] (fun t k => XS.ifYes X7.here hx rfl (pc0 := 54) (pc' := 64) rfl (hb hby d9_54) rfl ((if0 _ _).trans (flt (by decide)).2.1) (by decide) (by decide) k) ?_
  refine own_go T7 m 65 #[rv o0, iv u0, iv 0, iv 1] [(.int 1)] (fun t k => XS.iloadN X7.here hx rfl (hb hby d9_64) rfl k) ?_
  refine own_go T7 m 66 #[rv o0, iv u0, iv 0, iv 1] [] (fun t k => XS.istoreN X7.here hx rfl (hb hby d9_65) rfl rfl k) ?_
  refine own_go T7 m 93 #[rv o0, iv u0, iv 0, iv 1] [] (fun t k => XS.goto X7.here hx rfl (pc0 := 66) (pc' := 93) rfl (hb hby d9_66) (by decide) (by decide) k) ?_
  refine own_go T7 m 94 #[rv o0, iv u0, iv 0, iv 1] [(.ref o0)] (fun t k => XS.aloadN X7.here hx rfl (hb hby d9_93) rfl rfl k) ?_
  refine own_go T7 m 95 #[rv o0, iv u0, iv 0, iv 1] [(.int 1), (.ref o0)] (fun t k => XS.iloadN X7.here hx rfl (hb hby d9_94) rfl k) ?_
  obtain ⟨T8, h8, X8, e8, W8, st8⟩ := putF X7 hx hZ hown (host := "") (Or.inl (own_w hw 21 rfl)) Via.refl e7 F_cursor_o0 E_o0 (Or.inl (own_w hw 22 rfl)) (own_w hw 2 rfl) (ty := .int) (by decide) rfl rfl (g := (mkF m 95 #[rv o0, iv u0, iv 0, iv 1] [(.int 1), (.ref o0)])) rfl rfl (hb hby d9_95)
  have F8 := F_cursor_o0.same W8
  have cf9 := E_o0.wr W8
  have cf10 := F_count_o0.other W8 (Or.inr (slot_ne (Or.inl (own_w hw 31 rfl)) (Or.inl (own_w hw 22 rfl)) (by decide) (t := .int) (t' := .int) (by decide) (by decide)))
  have cf11 := F_ends_o0.other W8 (Or.inr (slot_ne (Or.inl (own_w hw 14 rfl)) (Or.inl (own_w hw 22 rfl)) (by decide) (t := (.array .int)) (t' := .int) (by decide) (by decide)))
  have cf12 := F_lastOpened_o0.other W8 (Or.inr (slot_ne (Or.inl (own_w hw 38 rfl)) (Or.inl (own_w hw 22 rfl)) (by decide) (t := .int) (t' := .int) (by decide) (by decide)))
  have cf13 := F_segmentEnd_o0.other W8 (Or.inr (slot_ne (Or.inl (own_w hw 18 rfl)) (Or.inl (own_w hw 22 rfl)) (by decide) (t := (.array .int)) (t' := .int) (by decide) (by decide)))
  have cf14 := F_segmentFirst_o0.other W8 (Or.inr (slot_ne (Or.inl (own_w hw 16 rfl)) (Or.inl (own_w hw 22 rfl)) (by decide) (t := (.array .int)) (t' := .int) (by decide) (by decide)))
  have cf15 := F_segmentLimit_o0.other W8 (Or.inr (slot_ne (Or.inl (own_w hw 20 rfl)) (Or.inl (own_w hw 22 rfl)) (by decide) (t := (.array .int)) (t' := .int) (by decide) (by decide)))
  have cf16 := F_segments_o0.other W8 (Or.inr (slot_ne (Or.inl (own_w hw 29 rfl)) (Or.inl (own_w hw 22 rfl)) (by decide) (t := .int) (t' := .int) (by decide) (by decide)))
  have cf17 := F_starts_o0.other W8 (Or.inr (slot_ne (Or.inl (own_w hw 12 rfl)) (Or.inl (own_w hw 22 rfl)) (by decide) (t := (.array .int)) (t' := .int) (by decide) (by decide)))
  have cf18 := V_o3.other W8 (Ne.symm ne_o0_o3)
  have cf19 := V_o5.other W8 (Ne.symm ne_o0_o5)
  have Z_8 : n0 ≤ h8.size := Nat.le_trans Z0 (Keep.of_wr W8).1
  have K_8 : Keep h0 h8 [o0] := K0.wr W8 (own_i 0 rfl)
  have N8 := Fr.snoc X8 N0 g_o0
  refine own_go T8 m 98 #[rv o0, iv u0, iv 0, iv 1] [] (st8) ?_
  refine own_go T8 m 99 #[rv o0, iv u0, iv 0, iv 1] [(.int 1)] (fun t k => XS.iloadN X8.here hx rfl (hb hby d9_98) rfl k) ?_
  refine own_go T8 m 100 #[rv o0, iv u0, iv 0, iv 1] [(.ref o0), (.int 1)] (fun t k => XS.aloadN X8.here hx rfl (hb hby d9_99) rfl rfl k) ?_
  obtain ⟨T20, X20, e20, st20⟩ := getF X8 hx hZ hown (host := "") (Or.inl (own_w hw 30 rfl)) Via.refl e8 cf10 (g := (mkF m 100 #[rv o0, iv u0, iv 0, iv 1] [(.ref o0), (.int 1)])) rfl rfl (hb hby d9_100)
  refine own_go T20 m 103 #[rv o0, iv u0, iv 0, iv 1] [(.int 3), (.int 1)] (st20) ?_
  refine own_go T20 m 106 #[rv o0, iv u0, iv 0, iv 1] [] (fun t k => XS.icmpNo X20.here hx rfl (hb hby d9_103) rfl (tlt (by decide)).2.1 k) ?_
  refine own_go T20 m 107 #[rv o0, iv u0, iv 0, iv 1] [(.ref o0)] (fun t k => XS.aloadN X20.here hx rfl (hb hby d9_106) rfl rfl k) ?_
  obtain ⟨T21, X21, e21, st21⟩ := getF X20 hx hZ hown (host := "") (Or.inl (own_w hw 11 rfl)) Via.refl e20 cf17 (g := (mkF m 107 #[rv o0, iv u0, iv 0, iv 1] [(.ref o0)])) rfl rfl (hb hby d9_107)
  refine own_go T21 m 110 #[rv o0, iv u0, iv 0, iv 1] [(.ref o5)] (st21) ?_
  refine own_go T21 m 111 #[rv o0, iv u0, iv 0, iv 1] [(.int 1), (.ref o5)] (fun t k => XS.iloadN X21.here hx rfl (hb hby d9_110) rfl k) ?_
  refine own_go T21 m 112 #[rv o0, iv u0, iv 0, iv 1] [(.int u0)] (own_iaload X21 hx hZ e21 cf19 (j := (1 : Int32)) ⟨by decide, by decide⟩ rfl (hb hby d9_111)) ?_
  refine own_go T21 m 113 #[rv o0, iv u0, iv 0, iv 1] [(.int u0), (.int u0)] (fun t k => XS.iloadN X21.here hx rfl (hb hby d9_112) rfl k) ?_
  refine own_go T21 m 116 #[rv o0, iv u0, iv 0, iv 1] [] (fun t k => XS.icmpNo X21.here hx rfl (hb hby d9_113) rfl (teq rfl).2 k) ?_
  refine own_go T21 m 117 #[rv o0, iv u0, iv 0, iv 1] [(.int 1)] (fun t k => XS.iloadN X21.here hx rfl (hb hby d9_116) rfl k) ?_
  refine own_go T21 m 121 #[rv o0, iv u0, iv 0, iv 1] [(.int 1)] (fun t k => XS.goto X21.here hx rfl (pc0 := 117) (pc' := 121) rfl (hb hby d9_117) (by decide) (by decide) k) ?_
  refine own_retI X21 hx hlk hret (hb hby d9_121) (by decide) (by decide) ?_
  rw [e21]
  exact ⟨rfl, N8, K_8, cf10, cf11, cf12, cf13, cf14, cf15, cf16, cf17, F8⟩
theorem ef_sp33 (m : MethodId) (q0 : Addr) (q1 : Int32) (q2 : Int32) : entryFrame m #[(.ref q0), (.int q1), (.int q2)] 5 = mkF m 0 #[rv q0, iv q1, iv q2, .unset, .unset] [] := by first | (simp [entryFrame, mkF, argsToLocals, Value.category]; done) | rfl
set_option maxRecDepth 65536 in
set_option maxHeartbeats 40000000 in
theorem sp33 (l : Launch) (Z : State) (a0 : Array Value) (hw : ∀ d ∈ tables_1, d.before a0 Z = true) (ws : List Jvm.Cond) (o0 o1 o2 o3 o4 o5 : Addr) (u0 : Int32) (u1 : Int32) (u2 : Int32) (u3 : Int32) (u4 : Int32) (u5 : Int32) (u6 : Int32) (c0 : ClassId) (c1 : ClassId) (c2 : ClassId) (c3 : ClassId) (h0 : Heap) (n0 : Nat) (Z0 : n0 ≤ h0.size) (E_o0 : Exa Z h0 o0 OwnK0) (F_count_o0 : Fld Z h0 o0 OwnK0 "count" "I" (.int 3)) (F_cursor_o0 : Fld Z h0 o0 OwnK0 "cursor" "I" (.int (-1))) (F_ends_o0 : Fld Z h0 o0 OwnK0 "ends" "[I" (.ref o1)) (F_lastOpened_o0 : Fld Z h0 o0 OwnK0 "lastOpened" "I" (.int 2)) (F_segmentEnd_o0 : Fld Z h0 o0 OwnK0 "segmentEnd" "[I" (.ref o2)) (F_segmentFirst_o0 : Fld Z h0 o0 OwnK0 "segmentFirst" "[I" (.ref o3)) (F_segmentLimit_o0 : Fld Z h0 o0 OwnK0 "segmentLimit" "[I" (.ref o4)) (F_segments_o0 : Fld Z h0 o0 OwnK0 "segments" "I" (.int 1)) (F_starts_o0 : Fld Z h0 o0 OwnK0 "starts" "[I" (.ref o5)) (V_o1 : Arv Z h0 o1 c0 .int (8 : Int32) [(.int (-2)), (.int u2), (.int u3), (.int 0), (.int 0), (.int 0), (.int 0), (.int 0)] (.int 0)) (V_o2 : Arv Z h0 o2 c1 .int (8 : Int32) [(.int u4), (.int 0), (.int 0), (.int 0), (.int 0), (.int 0), (.int 0), (.int 0)] (.int 0)) (V_o3 : Arv Z h0 o3 c2 .int (8 : Int32) [(.int 0), (.int 0), (.int 0), (.int 0), (.int 0), (.int 0), (.int 0), (.int 0)] (.int 0)) (V_o5 : Arv Z h0 o5 c3 .int (8 : Int32) [(.int u5), (.int u0), (.int u6), (.int 0), (.int 0), (.int 0), (.int 0), (.int 0)] (.int 0)) (ne_o0_o1 : o0 ≠ o1) (ne_o0_o2 : o0 ≠ o2) (ne_o0_o3 : o0 ≠ o3) (ne_o0_o4 : o0 ≠ o4) (ne_o0_o5 : o0 ≠ o5) (g_o0 : n0 ≤ o0) (hq0 : ¬ (u0 < u5)) (hq1 : u0 < u4) (hq2 : ¬ (u0 < u0)) (hq3 : ¬ (u2 = (-2 : Int32))) :
    OwnC l Z (⟨OwnK0, "find", "(II)I"⟩ : MethodName) prog_48_method_2_code 5 (some .int) ws ({ frames := 3, cells := 0, slots := 0, locals := 49 } : Room) #[(.ref o0), (.int u0), (.int u1)] h0 (fun v h L => v = some (.int u2) ∧ Fr n0 L ∧ Keep h0 h [o0] ∧ Fld Z h o0 OwnK0 "count" "I" (.int 3) ∧ Fld Z h o0 OwnK0 "ends" "[I" (.ref o1) ∧ Fld Z h o0 OwnK0 "lastOpened" "I" (.int 2) ∧ Fld Z h o0 OwnK0 "segmentEnd" "[I" (.ref o2) ∧ Fld Z h o0 OwnK0 "segmentFirst" "[I" (.ref o3) ∧ Fld Z h o0 OwnK0 "segmentLimit" "[I" (.ref o4) ∧ Fld Z h o0 OwnK0 "segments" "I" (.int 1) ∧ Fld Z h o0 OwnK0 "starts" "[I" (.ref o5) ∧ Fld Z h o0 OwnK0 "cursor" "I" (.int 1)) := by
  refine own_entry pf_com_example_wirelens_wirelens_wire_GroupEnds_find__II_I (fun m => ef_sp33 m o0 u0 u1) ?_
  intro p e s m below meth c T0 X0 hC e0
  obtain ⟨hx, hby, hml, hown, hnm, hret, hlk, hZ⟩ := hC
  have N0 := Fr.nil n0
  have K0 := Keep.refl h0 [o0]
  refine own_go T0 m 1 #[rv o0, iv u0, iv u1, .unset, .unset] [(.ref o0)] (fun t k => XS.aloadN X0.here hx rfl (hb hby d7_0) rfl rfl k) ?_
  obtain ⟨T1, X1, e1, st1⟩ := getF X0 hx hZ hown (host := "") (Or.inl (own_w hw 28 rfl)) Via.refl e0 F_segments_o0 (g := (mkF m 1 #[rv o0, iv u0, iv u1, .unset, .unset] [(.ref o0)])) rfl rfl (hb hby d7_1)
  refine own_go T1 m 4 #[rv o0, iv u0, iv u1, .unset, .unset] [(.int 1)] (st1) ?_
  refine own_go T1 m 7 #[rv o0, iv u0, iv u1, .unset, .unset] [] (fun t k => XS.ifNo X1.here hx rfl (hb hby d7_4) rfl ((if0 _ _).trans (tlt (by decide)).2.2.2) k) ?_
  refine own_go T1 m 8 #[rv o0, iv u0, iv u1, .unset, .unset] [(.ref o0)] (fun t k => XS.aloadN X1.here hx rfl (hb hby d7_7) rfl rfl k) ?_
  refine own_go T1 m 9 #[rv o0, iv u0, iv u1, .unset, .unset] [(.int u0), (.ref o0)] (fun t k => XS.iloadN X1.here hx rfl (hb hby d7_8) rfl k) ?_
  obtain ⟨_, T2, L2, X2, ⟨rfl, e2, rfl⟩, st2⟩ := own_private X1 hx hZ (y := (⟨OwnK0, "newestCovers", "(I)Z"⟩ : MethodName)) hown (own_w hw 54 rfl) (own_w hw 55 rfl) (own_w hw 56 rfl) (own_w hw 2 rfl) (own_w hw 3 rfl) (own_w hw 57 rfl) (by decide) (sp10 l Z a0 hw [] o0 o2 o3 o5 u0 u4 u5 u6 c1 c2 c3 h0 n0 Z0 F_segmentEnd_o0 F_segmentFirst_o0 F_segments_o0 F_starts_o0 V_o2 V_o3 V_o5 hq0 hq1) e1 E_o0 0 (argsL := [(.int u0)]) (rest := []) (Ls := #[rv o0, iv u0, iv u1, .unset, .unset]) (by rw [hml]; rfl) (lenOf pd__I_Z rfl) rfl rfl (Nat.le_of_eq rfl) (hb hby d7_9) (by decide) (by decide) (by decide) (by decide)
  replace X2 := own_nil X2
  refine own_go T2 m 12 #[rv o0, iv u0, iv u1, .unset, .unset] [(.int 1)] (st2) ?_
  refine own_go T2 m 46 #[rv o0, iv u0, iv u1, .unset, .unset] [] (fun t k => XS.ifYes X2.here hx rfl (pc0 := 12) (pc' := 46) rfl (hb hby d7_12) rfl ((if0 _ _).trans (feq (by decide)).2) (by decide) (by decide) k) ?_
  refine own_go T2 m 47 #[rv o0, iv u0, iv u1, .unset, .unset] [(.ref o0)] (fun t k => XS.aloadN X2.here hx rfl (hb hby d7_46) rfl rfl k) ?_
  obtain ⟨T3, X3, e3, st3⟩ := getF X2 hx hZ hown (host := "") (Or.inl (own_w hw 28 rfl)) Via.refl e2 F_segments_o0 (g := (mkF m 47 #[rv o0, iv u0, iv u1, .unset, .unset] [(.ref o0)])) rfl rfl (hb hby d7_47)
  refine own_go T3 m 50 #[rv o0, iv u0, iv u1, .unset, .unset] [(.int 1)] (st3) ?_
  refine own_go T3 m 57 #[rv o0, iv u0, iv u1, .unset, .unset] [] (fun t k => XS.ifYes X3.here hx rfl (pc0 := 50) (pc' := 57) rfl (hb hby d7_50) rfl ((if0 _ _).trans (feq (by decide)).2) (by decide) (by decide) k) ?_
  refine own_go T3 m 58 #[rv o0, iv u0, iv u1, .unset, .unset] [(.ref o0)] (fun t k => XS.aloadN X3.here hx rfl (hb hby d7_57) rfl rfl k) ?_
  refine own_go T3 m 59 #[rv o0, iv u0, iv u1, .unset, .unset] [(.int u0), (.ref o0)] (fun t k => XS.iloadN X3.here hx rfl (hb hby d7_58) rfl k) ?_
  obtain ⟨_, T4, L4, X4, ⟨rfl, Nq4, Kq4, fq0_4, fq1_4, fq2_4, fq3_4, fq4_4, fq5_4, fq6_4, fq7_4, fq8_4⟩, st4⟩ := own_private X3 hx hZ (y := (⟨OwnK0, "search", "(I)I"⟩ : MethodName)) hown (own_w hw 58 rfl) (own_w hw 59 rfl) (own_w hw 60 rfl) (own_w hw 2 rfl) (own_w hw 3 rfl) (own_w hw 61 rfl) (by decide) (sp34 l Z a0 hw [] o0 o1 o2 o3 o4 o5 u0 u5 u6 c2 c3 h0 n0 Z0 E_o0 F_count_o0 F_cursor_o0 F_ends_o0 F_lastOpened_o0 F_segmentEnd_o0 F_segmentFirst_o0 F_segmentLimit_o0 F_segments_o0 F_starts_o0 V_o3 V_o5 ne_o0_o1 ne_o0_o2 ne_o0_o3 ne_o0_o4 ne_o0_o5 g_o0 hq2) e3 E_o0 0 (argsL := [(.int u0)]) (rest := []) (Ls := #[rv o0, iv u0, iv u1, .unset, .unset]) (by rw [hml]; rfl) (lenOf pd__I_I rfl) rfl rfl (Nat.le_of_eq rfl) (hb hby d7_59) (by decide) (by decide) (by decide) (by decide)
  have N4 := Fr.app N0 Nq4
  have cf5 := E_o0.keep Kq4
  have cf6 := V_o1.keep Kq4 (ninS (Ne.symm ne_o0_o1) nin0)
  have cf7 := V_o2.keep Kq4 (ninS (Ne.symm ne_o0_o2) nin0)
  have cf8 := V_o3.keep Kq4 (ninS (Ne.symm ne_o0_o3) nin0)
  have cf9 := V_o5.keep Kq4 (ninS (Ne.symm ne_o0_o5) nin0)
  have Z_4 : n0 ≤ T4.heap.size := Nat.le_trans Z0 Kq4.1
  have K_4 : Keep h0 T4.heap [o0] := K0.trans Kq4 (allS (own_i 0 rfl) all0)
  refine own_go T4 m 62 #[rv o0, iv u0, iv u1, .unset, .unset] [(.int 1)] (st4) ?_
  refine own_go T4 m 63 #[rv o0, iv u0, iv u1, iv 1, .unset] [] (fun t k => XS.istoreN X4.here hx rfl (hb hby d7_62) rfl rfl k) ?_
  refine own_go T4 m 64 #[rv o0, iv u0, iv u1, iv 1, .unset] [(.int 1)] (fun t k => XS.iloadN X4.here hx rfl (hb hby d7_63) rfl k) ?_
  refine own_go T4 m 73 #[rv o0, iv u0, iv u1, iv 1, .unset] [] (fun t k => XS.ifYes X4.here hx rfl (pc0 := 64) (pc' := 73) rfl (hb hby d7_64) rfl ((if0 _ _).trans (flt (by decide)).2.1) (by decide) (by decide) k) ?_
  refine own_go T4 m 74 #[rv o0, iv u0, iv u1, iv 1, .unset] [(.ref o0)] (fun t k => XS.aloadN X4.here hx rfl (hb hby d7_73) rfl rfl k) ?_
  obtain ⟨T10, X10, e10, st10⟩ := getF X4 hx hZ hown (host := "") (Or.inl (own_w hw 13 rfl)) Via.refl rfl fq1_4 (g := (mkF m 74 #[rv o0, iv u0, iv u1, iv 1, .unset] [(.ref o0)])) rfl rfl (hb hby d7_74)
  refine own_go T10 m 77 #[rv o0, iv u0, iv u1, iv 1, .unset] [(.ref o1)] (st10) ?_
  refine own_go T10 m 78 #[rv o0, iv u0, iv u1, iv 1, .unset] [(.int 1), (.ref o1)] (fun t k => XS.iloadN X10.here hx rfl (hb hby d7_77) rfl k) ?_
  refine own_go T10 m 79 #[rv o0, iv u0, iv u1, iv 1, .unset] [(.int u2)] (own_iaload X10 hx hZ e10 cf6 (j := (1 : Int32)) ⟨by decide, by decide⟩ rfl (hb hby d7_78)) ?_
  refine own_go T10 m 81 #[rv o0, iv u0, iv u1, iv 1, .unset] [(.int (-2)), (.int u2)] (fun t k => XS.bipush X10.here hx rfl (hb hby d7_79) k) ?_
  refine own_go T10 m 105 #[rv o0, iv u0, iv u1, iv 1, .unset] [] (fun t k => XS.icmpYes X10.here hx rfl (pc0 := 81) (pc' := 105) rfl (hb hby d7_81) rfl (feq hq3).2 (by decide) (by decide) k) ?_
  refine own_go T10 m 106 #[rv o0, iv u0, iv u1, iv 1, .unset] [(.ref o0)] (fun t k => XS.aloadN X10.here hx rfl (hb hby d7_105) rfl rfl k) ?_
  obtain ⟨T12, X12, e12, st12⟩ := getF X10 hx hZ hown (host := "") (Or.inl (own_w hw 13 rfl)) Via.refl e10 fq1_4 (g := (mkF m 106 #[rv o0, iv u0, iv u1, iv 1, .unset] [(.ref o0)])) rfl rfl (hb hby d7_106)
  refine own_go T12 m 109 #[rv o0, iv u0, iv u1, iv 1, .unset] [(.ref o1)] (st12) ?_
  refine own_go T12 m 110 #[rv o0, iv u0, iv u1, iv 1, .unset] [(.int 1), (.ref o1)] (fun t k => XS.iloadN X12.here hx rfl (hb hby d7_109) rfl k) ?_
  refine own_go T12 m 111 #[rv o0, iv u0, iv u1, iv 1, .unset] [(.int u2)] (own_iaload X12 hx hZ e12 cf6 (j := (1 : Int32)) ⟨by decide, by decide⟩ rfl (hb hby d7_110)) ?_
  refine own_go T12 m 113 #[rv o0, iv u0, iv u1, iv 1, iv u2] [] (fun t k => XS.istore X12.here hx rfl (hb hby d7_111) rfl rfl k) ?_
  refine own_go T12 m 115 #[rv o0, iv u0, iv u1, iv 1, iv u2] [(.int u2)] (fun t k => XS.iload X12.here hx rfl (hb hby d7_113) rfl k) ?_
  refine own_retI X12 hx hlk hret (hb hby d7_115) (by decide) (by decide) ?_
  rw [e12]
  exact ⟨rfl, N4, K_4, fq0_4, fq1_4, fq2_4, fq3_4, fq4_4, fq5_4, fq6_4, fq7_4, fq8_4⟩
theorem own_db98 (t0 t1 t2 t3 t4 t5 t6 t7 t8 t9 : Int32) (h0 : ¬ (t0 < (0 : Int32))) (h1 : t0 < t1) (h2 : t1 < t2) (h3 : ¬ (t3 < t2)) (h4 : t3 < t4) (h5 : t4 < t5) (h6 : t6 < t7) (h7 : t8 < t9) (h8 : ¬ (t6 < (64 : Int32))) (h9 : t9 < (64 : Int32)) : ¬ (t2 < t0) := by
  simp only [Int32.lt_iff_toInt_lt, ← Int32.toInt_inj, Int32.reduceToInt] at *
  omega
theorem own_db99 (t0 t1 t2 t3 t4 t5 t6 t7 t8 t9 : Int32) (h0 : ¬ (t0 < (0 : Int32))) (h1 : t0 < t1) (h2 : t1 < t2) (h3 : ¬ (t3 < t2)) (h4 : t3 < t4) (h5 : t4 < t5) (h6 : t6 < t7) (h7 : t8 < t9) (h8 : ¬ (t6 < (64 : Int32))) (h9 : t9 < (64 : Int32)) : t2 < t5 := by
  simp only [Int32.lt_iff_toInt_lt, ← Int32.toInt_inj, Int32.reduceToInt] at *
  omega
theorem own_db100 (t0 t1 t2 t3 t4 t5 t6 t7 t8 t9 : Int32) (h0 : ¬ (t0 < (0 : Int32))) (h1 : t0 < t1) (h2 : t1 < t2) (h3 : ¬ (t3 < t2)) (h4 : t3 < t4) (h5 : t4 < t5) (h6 : t6 < t7) (h7 : t8 < t9) (h8 : ¬ (t6 < (64 : Int32))) (h9 : t9 < (64 : Int32)) : t0 < t2 := by
  simp only [Int32.lt_iff_toInt_lt, ← Int32.toInt_inj, Int32.reduceToInt] at *
  omega
theorem own_db101 (t0 t1 t2 t3 t4 t5 t6 t7 t8 t9 : Int32) (h0 : ¬ (t0 < (0 : Int32))) (h1 : t0 < t1) (h2 : t1 < t2) (h3 : ¬ (t3 < t2)) (h4 : t3 < t4) (h5 : t4 < t5) (h6 : t6 < t7) (h7 : t8 < t9) (h8 : ¬ (t6 < (64 : Int32))) (h9 : t9 < (64 : Int32)) : ¬ (t2 < t2) := by
  simp only [Int32.lt_iff_toInt_lt, ← Int32.toInt_inj, Int32.reduceToInt] at *
  omega
theorem own_db102 (t0 t1 t2 t3 t4 t5 t6 t7 t8 t9 : Int32) (h0 : ¬ (t0 < (0 : Int32))) (h1 : t0 < t1) (h2 : t1 < t2) (h3 : ¬ (t3 < t2)) (h4 : t3 < t4) (h5 : t4 < t5) (h6 : t6 < t7) (h7 : t8 < t9) (h8 : ¬ (t6 < (64 : Int32))) (h9 : t9 < (64 : Int32)) : ¬ (t3 = (-2 : Int32)) := by
  simp only [Int32.lt_iff_toInt_lt, ← Int32.toInt_inj, Int32.reduceToInt] at *
  omega
theorem ef_sp39 (m : MethodId) (q0 : Addr) (q1 : Int32) : entryFrame m #[(.ref q0), (.int q1)] 4 = mkF m 0 #[rv q0, iv q1, .unset, .unset] [] := by first | (simp [entryFrame, mkF, argsToLocals, Value.category]; done) | rfl
set_option maxRecDepth 65536 in
set_option maxHeartbeats 40000000 in
theorem sp39 (l : Launch) (Z : State) (a0 : Array Value) (hw : ∀ d ∈ tables_1, d.before a0 Z = true) (ws : List Jvm.Cond) (o0 o1 o2 o3 o4 o5 : Addr) (u0 : Int32) (u1 : Int32) (u2 : Int32) (c0 : ClassId) (c1 : ClassId) (h0 : Heap) (n0 : Nat) (Z0 : n0 ≤ h0.size) (E_o0 : Exa Z h0 o0 OwnK0) (F_count_o0 : Fld Z h0 o0 OwnK0 "count" "I" (.int 3)) (F_cursor_o0 : Fld Z h0 o0 OwnK0 "cursor" "I" (.int 1)) (F_ends_o0 : Fld Z h0 o0 OwnK0 "ends" "[I" (.ref o1)) (F_lastOpened_o0 : Fld Z h0 o0 OwnK0 "lastOpened" "I" (.int 2)) (F_segmentEnd_o0 : Fld Z h0 o0 OwnK0 "segmentEnd" "[I" (.ref o2)) (F_segmentFirst_o0 : Fld Z h0 o0 OwnK0 "segmentFirst" "[I" (.ref o3)) (F_segmentLimit_o0 : Fld Z h0 o0 OwnK0 "segmentLimit" "[I" (.ref o4)) (F_segments_o0 : Fld Z h0 o0 OwnK0 "segments" "I" (.int 1)) (F_starts_o0 : Fld Z h0 o0 OwnK0 "starts" "[I" (.ref o5)) (V_o3 : Arv Z h0 o3 c0 .int (8 : Int32) [(.int 0), (.int 0), (.int 0), (.int 0), (.int 0), (.int 0), (.int 0), (.int 0)] (.int 0)) (V_o5 : Arv Z h0 o5 c1 .int (8 : Int32) [(.int u1), (.int u2), (.int u0), (.int 0), (.int 0), (.int 0), (.int 0), (.int 0)] (.int 0)) (ne_o0_o1 : o0 ≠ o1) (ne_o0_o2 : o0 ≠ o2) (ne_o0_o3 : o0 ≠ o3) (ne_o0_o4 : o0 ≠ o4) (ne_o0_o5 : o0 ≠ o5) (g_o0 : n0 ≤ o0) (hq0 : u1 < u0) (hq1 : u2 < u0) (hq2 : ¬ (u0 < u0)) :
    OwnC l Z (⟨OwnK0, "search", "(I)I"⟩ : MethodName) prog_48_method_4_code 4 (some .int) ws ({ frames := 0, cells := 0, slots := 0, locals := 0 } : Room) #[(.ref o0), (.int u0)] h0 (fun v h L => v = some (.int 2) ∧ Fr n0 L ∧ Keep h0 h [o0] ∧ Fld Z h o0 OwnK0 "count" "I" (.int 3) ∧ Fld Z h o0 OwnK0 "ends" "[I" (.ref o1) ∧ Fld Z h o0 OwnK0 "lastOpened" "I" (.int 2) ∧ Fld Z h o0 OwnK0 "segmentEnd" "[I" (.ref o2) ∧ Fld Z h o0 OwnK0 "segmentFirst" "[I" (.ref o3) ∧ Fld Z h o0 OwnK0 "segmentLimit" "[I" (.ref o4) ∧ Fld Z h o0 OwnK0 "segments" "I" (.int 1) ∧ Fld Z h o0 OwnK0 "starts" "[I" (.ref o5) ∧ Fld Z h o0 OwnK0 "cursor" "I" (.int 2)) := by
  refine own_entry pf_com_example_wirelens_wirelens_wire_GroupEnds_search__I_I (fun m => ef_sp39 m o0 u0) ?_
  intro p e s m below meth c T0 X0 hC e0
  obtain ⟨hx, hby, hml, hown, hnm, hret, hlk, hZ⟩ := hC
  have N0 := Fr.nil n0
  have K0 := Keep.refl h0 [o0]
  refine own_go T0 m 1 #[rv o0, iv u0, .unset, .unset] [(.ref o0)] (fun t k => XS.aloadN X0.here hx rfl (hb hby d9_0) rfl rfl k) ?_
  obtain ⟨T1, X1, e1, st1⟩ := getF X0 hx hZ hown (host := "") (Or.inl (own_w hw 15 rfl)) Via.refl e0 F_segmentFirst_o0 (g := (mkF m 1 #[rv o0, iv u0, .unset, .unset] [(.ref o0)])) rfl rfl (hb hby d9_1)
  refine own_go T1 m 4 #[rv o0, iv u0, .unset, .unset] [(.ref o3)] (st1) ?_
  refine own_go T1 m 5 #[rv o0, iv u0, .unset, .unset] [(.ref o0), (.ref o3)] (fun t k => XS.aloadN X1.here hx rfl (hb hby d9_4) rfl rfl k) ?_
  obtain ⟨T2, X2, e2, st2⟩ := getF X1 hx hZ hown (host := "") (Or.inl (own_w hw 28 rfl)) Via.refl e1 F_segments_o0 (g := (mkF m 5 #[rv o0, iv u0, .unset, .unset] [(.ref o0), (.ref o3)])) rfl rfl (hb hby d9_5)
  refine own_go T2 m 8 #[rv o0, iv u0, .unset, .unset] [(.int 1), (.ref o3)] (st2) ?_
  refine own_go T2 m 9 #[rv o0, iv u0, .unset, .unset] [(.int 1), (.int 1), (.ref o3)] (fun t k => XS.iconst X2.here hx rfl (hb hby d9_8) k) ?_
  refine own_go T2 m 10 #[rv o0, iv u0, .unset, .unset] [(.int ((1 : Int32) - (1 : Int32))), (.ref o3)] (fun t k => XS.isub X2.here hx rfl (hb hby d9_9) rfl k) ?_
  rw [show ((1 : Int32) - (1 : Int32)) = (0 : Int32) from by decide]
  refine own_go T2 m 11 #[rv o0, iv u0, .unset, .unset] [(.int 0)] (own_iaload X2 hx hZ e2 V_o3 (j := (0 : Int32)) ⟨by decide, by decide⟩ rfl (hb hby d9_10)) ?_
  refine own_go T2 m 12 #[rv o0, iv u0, iv 0, .unset] [] (fun t k => XS.istoreN X2.here hx rfl (hb hby d9_11) rfl rfl k) ?_
  refine own_go T2 m 13 #[rv o0, iv u0, iv 0, .unset] [(.ref o0)] (fun t k => XS.aloadN X2.here hx rfl (hb hby d9_12) rfl rfl k) ?_
  obtain ⟨T4, X4, e4, st4⟩ := getF X2 hx hZ hown (host := "") (Or.inl (own_w hw 21 rfl)) Via.refl e2 F_cursor_o0 (g := (mkF m 13 #[rv o0, iv u0, iv 0, .unset] [(.ref o0)])) rfl rfl (hb hby d9_13)
  refine own_go T4 m 16 #[rv o0, iv u0, iv 0, .unset] [(.int 1)] (st4) ?_
  refine own_go T4 m 17 #[rv o0, iv u0, iv 0, iv 1] [] (fun t k => XS.istoreN X4.here hx rfl (hb hby d9_16) rfl rfl k) ?_
  refine own_go T4 m 18 #[rv o0, iv u0, iv 0, iv 1] [(.int 1)] (fun t k => XS.iloadN X4.here hx rfl (hb hby d9_17) rfl k) ?_
  refine own_go T4 m 19 #[rv o0, iv u0, iv 0, iv 1] [(.int 0), (.int 1)] (fun t k => XS.iloadN X4.here hx rfl (hb hby d9_18) rfl k) ?_
  refine own_go T4 m 22 #[rv o0, iv u0, iv 0, iv 1] [] (fun t k => XS.icmpNo X4.here hx rfl (hb hby d9_19) rfl (flt (by decide)).1 k) ?_
  refine own_go T4 m 23 #[rv o0, iv u0, iv 0, iv 1] [(.int 1)] (fun t k => XS.iloadN X4.here hx rfl (hb hby d9_22) rfl k) ?_
  refine own_go T4 m 24 #[rv o0, iv u0, iv 0, iv 1] [(.int 0), (.int 1)] (fun t k => XS.iloadN X4.here hx rfl (hb hby d9_23) rfl k) ?_
  refine own_go T4 m 27 #[rv o0, iv u0, iv 0, iv 1] [] (fun t k => XS.icmpNo X4.here hx rfl (hb hby d9_24) rfl (tlt (by decide)).2.2.2 k) ?_
  refine own_go T4 m 28 #[rv o0, iv u0, iv 0, iv 1] [(.ref o0)] (fun t k => XS.aloadN X4.here hx rfl (hb hby d9_27) rfl rfl k) ?_
  obtain ⟨T5, X5, e5, st5⟩ := getF X4 hx hZ hown (host := "") (Or.inl (own_w hw 11 rfl)) Via.refl e4 F_starts_o0 (g := (mkF m 28 #[rv o0, iv u0, iv 0, iv 1] [(.ref o0)])) rfl rfl (hb hby d9_28)
  refine own_go T5 m 31 #[rv o0, iv u0, iv 0, iv 1] [(.ref o5)] (st5) ?_
  refine own_go T5 m 32 #[rv o0, iv u0, iv 0, iv 1] [(.int 1), (.ref o5)] (fun t k => XS.iloadN X5.here hx rfl (hb hby d9_31) rfl k) ?_
  refine own_go T5 m 33 #[rv o0, iv u0, iv 0, iv 1] [(.int 1), (.int 1), (.ref o5)] (fun t k => XS.iconst X5.here hx rfl (hb hby d9_32) k) ?_
  refine own_go T5 m 34 #[rv o0, iv u0, iv 0, iv 1] [(.int ((1 : Int32) - (1 : Int32))), (.ref o5)] (fun t k => XS.isub X5.here hx rfl (hb hby d9_33) rfl k) ?_
  rw [show ((1 : Int32) - (1 : Int32)) = (0 : Int32) from by decide]
  refine own_go T5 m 35 #[rv o0, iv u0, iv 0, iv 1] [(.int u1)] (own_iaload X5 hx hZ e5 V_o5 (j := (0 : Int32)) ⟨by decide, by decide⟩ rfl (hb hby d9_34)) ?_
  refine own_go T5 m 36 #[rv o0, iv u0, iv 0, iv 1] [(.int u0), (.int u1)] (fun t k => XS.iloadN X5.here hx rfl (hb hby d9_35) rfl k) ?_
  refine own_go T5 m 69 #[rv o0, iv u0, iv 0, iv 1] [] (fun t k => XS.icmpYes X5.here hx rfl (pc0 := 36) (pc' := 69) rfl (hb hby d9_36) rfl (tlt hq0).1 (by decide) (by decide) k) ?_
  refine own_go T5 m 70 #[rv o0, iv u0, iv 0, iv 1] [(.int 1)] (fun t k => XS.iloadN X5.here hx rfl (hb hby d9_69) rfl k) ?_
  refine own_go T5 m 71 #[rv o0, iv u0, iv 0, iv 1] [(.ref o0), (.int 1)] (fun t k => XS.aloadN X5.here hx rfl (hb hby d9_70) rfl rfl k) ?_
  obtain ⟨T7, X7, e7, st7⟩ := getF X5 hx hZ hown (host := "") (Or.inl (own_w hw 30 rfl)) Via.refl e5 F_count_o0 (g := (mkF m 71 #[rv o0, iv u0, iv 0, iv 1] [(.ref o0), (.int 1)])) rfl rfl (hb hby d9_71)
  refine own_go T7 m 74 #[rv o0, iv u0, iv 0, iv 1] [(.int 3), (.int 1)] (st7) ?_
  refine own_go T7 m 77 #[rv o0, iv u0, iv 0, iv 1] [] (fun t k => XS.icmpNo X7.here hx rfl (hb hby d9_74) rfl (tlt (by decide)).2.1 k) ?_
  refine own_go T7 m 78 #[rv o0, iv u0, iv 0, iv 1] [(.ref o0)] (fun t k => XS.aloadN X7.here hx rfl (hb hby d9_77) rfl rfl k) ?_
  obtain ⟨T8, X8, e8, st8⟩ := getF X7 hx hZ hown (host := "") (Or.inl (own_w hw 11 rfl)) Via.refl e7 F_starts_o0 (g := (mkF m 78 #[rv o0, iv u0, iv 0, iv 1] [(.ref o0)])) rfl rfl (hb hby d9_78)
  refine own_go T8 m 81 #[rv o0, iv u0, iv 0, iv 1] [(.ref o5)] (st8) ?_
  refine own_go T8 m 82 #[rv o0, iv u0, iv 0, iv 1] [(.int 1), (.ref o5)] (fun t k => XS.iloadN X8.here hx rfl (hb hby d9_81) rfl k) ?_
  refine own_go T8 m 83 #[rv o0, iv u0, iv 0, iv 1] [(.int u2)] (own_iaload X8 hx hZ e8 V_o5 (j := (1 : Int32)) ⟨by decide, by decide⟩ rfl (hb hby d9_82)) ?_
  refine own_go T8 m 84 #[rv o0, iv u0, iv 0, iv 1] [(.int u0), (.int u2)] (fun t k => XS.iloadN X8.here hx rfl (hb hby d9_83) rfl k) ?_
  refine own_go T8 m 87 #[rv o0, iv u0, iv 0, iv 1] [] (fun t k => XS.icmpNo X8.here hx rfl (hb hby d9_84) rfl (tlt hq1).2.1 k) ?_
  refine own_go T8 m 90 #[rv o0, iv u0, iv 0, iv ((1 : Int32) + (1 : Int32))] [] (fun t k => XS.iinc X8.here hx rfl (hb hby d9_87) rfl rfl k) ?_
  rw [show ((1 : Int32) + (1 : Int32)) = (2 : Int32) from by decide]
  refine own_go T8 m 69 #[rv o0, iv u0, iv 0, iv 2] [] (fun t k => XS.goto X8.here hx rfl (pc0 := 90) (pc' := 69) rfl (hb hby d9_90) (by decide) (by decide) k) ?_
  refine own_go T8 m 70 #[rv o0, iv u0, iv 0, iv 2] [(.int 2)] (fun t k => XS.iloadN X8.here hx rfl (hb hby d9_69) rfl k) ?_
  refine own_go T8 m 71 #[rv o0, iv u0, iv 0, iv 2] [(.ref o0), (.int 2)] (fun t k => XS.aloadN X8.here hx rfl (hb hby d9_70) rfl rfl k) ?_
  obtain ⟨T10, X10, e10, st10⟩ := getF X8 hx hZ hown (host := "") (Or.inl (own_w hw 30 rfl)) Via.refl e8 F_count_o0 (g := (mkF m 71 #[rv o0, iv u0, iv 0, iv 2] [(.ref o0), (.int 2)])) rfl rfl (hb hby d9_71)
  refine own_go T10 m 74 #[rv o0, iv u0, iv 0, iv 2] [(.int 3), (.int 2)] (st10) ?_
  refine own_go T10 m 77 #[rv o0, iv u0, iv 0, iv 2] [] (fun t k => XS.icmpNo X10.here hx rfl (hb hby d9_74) rfl (tlt (by decide)).2.1 k) ?_
  refine own_go T10 m 78 #[rv o0, iv u0, iv 0, iv 2] [(.ref o0)] (fun t k => XS.aloadN X10.here hx rfl (hb hby d9_77) rfl rfl k) ?_
  obtain ⟨T11, X11, e11, st11⟩ := getF X10 hx hZ hown (host := "") (Or.inl (own_w hw 11 rfl)) Via.refl e10 F_starts_o0 (g := (mkF m 78 #[rv o0, iv u0, iv 0, iv 2] [(.ref o0)])) rfl rfl (hb hby d9_78)
  refine own_go T11 m 81 #[rv o0, iv u0, iv 0, iv 2] [(.ref o5)] (st11) ?_
  refine own_go T11 m 82 #[rv o0, iv u0, iv 0, iv 2] [(.int 2), (.ref o5)] (fun t k => XS.iloadN X11.here hx rfl (hb hby d9_81) rfl k) ?_
  refine own_go T11 m 83 #[rv o0, iv u0, iv 0, iv 2] [(.int u0)] (own_iaload X11 hx hZ e11 V_o5 (j := (2 : Int32)) ⟨by decide, by decide⟩ rfl (hb hby d9_82)) ?_
  refine own_go T11 m 84 #[rv o0, iv u0, iv 0, iv 2] [(.int u0), (.int u0)] (fun t k => XS.iloadN X11.here hx rfl (hb hby d9_83) rfl k) ?_
  refine own_go T11 m 93 #[rv o0, iv u0, iv 0, iv 2] [] (fun t k => XS.icmpYes X11.here hx rfl (pc0 := 84) (pc' := 93) rfl (hb hby d9_84) rfl (flt hq2).2.1 (by decide) (by decide) k) ?_
  refine own_go T11 m 94 #[rv o0, iv u0, iv 0, iv 2] [(.ref o0)] (fun t k => XS.aloadN X11.here hx rfl (hb hby d9_93) rfl rfl k) ?_
  refine own_go T11 m 95 #[rv o0, iv u0, iv 0, iv 2] [(.int 2), (.ref o0)] (fun t k => XS.iloadN X11.here hx rfl (hb hby d9_94) rfl k) ?_
  obtain ⟨T13, h13, X13, e13, W13, st13⟩ := putF X11 hx hZ hown (host := "") (Or.inl (own_w hw 21 rfl)) Via.refl e11 F_cursor_o0 E_o0 (Or.inl (own_w hw 22 rfl)) (own_w hw 2 rfl) (ty := .int) (by decide) rfl rfl (g := (mkF m 95 #[rv o0, iv u0, iv 0, iv 2] [(.int 2), (.ref o0)])) rfl rfl (hb hby d9_95)
  have F13 := F_cursor_o0.same W13
  have cf14 := E_o0.wr W13
  have cf15 := F_count_o0.other W13 (Or.inr (slot_ne (Or.inl (own_w hw 31 rfl)) (Or.inl (own_w hw 22 rfl)) (by decide) (t := .int) (t' := .int) (by decide) (by decide)))
  have cf16 := F_ends_o0.other W13 (Or.inr (slot_ne (Or.inl (own_w hw 14 rfl)) (Or.inl (own_w hw 22 rfl)) (by decide) (t := (.array .int)) (t' := .int) (by decide) (by decide)))
  have cf17 := F_lastOpened_o0.other W13 (Or.inr (slot_ne (Or.inl (own_w hw 38 rfl)) (Or.inl (own_w hw 22 rfl)) (by decide) (t := .int) (t' := .int) (by decide) (by decide)))
  have cf18 := F_segmentEnd_o0.other W13 (Or.inr (slot_ne (Or.inl (own_w hw 18 rfl)) (Or.inl (own_w hw 22 rfl)) (by decide) (t := (.array .int)) (t' := .int) (by decide) (by decide)))
  have cf19 := F_segmentFirst_o0.other W13 (Or.inr (slot_ne (Or.inl (own_w hw 16 rfl)) (Or.inl (own_w hw 22 rfl)) (by decide) (t := (.array .int)) (t' := .int) (by decide) (by decide)))
  have cf20 := F_segmentLimit_o0.other W13 (Or.inr (slot_ne (Or.inl (own_w hw 20 rfl)) (Or.inl (own_w hw 22 rfl)) (by decide) (t := (.array .int)) (t' := .int) (by decide) (by decide)))
  have cf21 := F_segments_o0.other W13 (Or.inr (slot_ne (Or.inl (own_w hw 29 rfl)) (Or.inl (own_w hw 22 rfl)) (by decide) (t := .int) (t' := .int) (by decide) (by decide)))
  have cf22 := F_starts_o0.other W13 (Or.inr (slot_ne (Or.inl (own_w hw 12 rfl)) (Or.inl (own_w hw 22 rfl)) (by decide) (t := (.array .int)) (t' := .int) (by decide) (by decide)))
  have cf23 := V_o3.other W13 (Ne.symm ne_o0_o3)
  have cf24 := V_o5.other W13 (Ne.symm ne_o0_o5)
  have Z_13 : n0 ≤ h13.size := Nat.le_trans Z0 (Keep.of_wr W13).1
  have K_13 : Keep h0 h13 [o0] := K0.wr W13 (own_i 0 rfl)
  have N13 := Fr.snoc X13 N0 g_o0
  refine own_go T13 m 98 #[rv o0, iv u0, iv 0, iv 2] [] (st13) ?_
  refine own_go T13 m 99 #[rv o0, iv u0, iv 0, iv 2] [(.int 2)] (fun t k => XS.iloadN X13.here hx rfl (hb hby d9_98) rfl k) ?_
  refine own_go T13 m 100 #[rv o0, iv u0, iv 0, iv 2] [(.ref o0), (.int 2)] (fun t k => XS.aloadN X13.here hx rfl (hb hby d9_99) rfl rfl k) ?_
  obtain ⟨T25, X25, e25, st25⟩ := getF X13 hx hZ hown (host := "") (Or.inl (own_w hw 30 rfl)) Via.refl e13 cf15 (g := (mkF m 100 #[rv o0, iv u0, iv 0, iv 2] [(.ref o0), (.int 2)])) rfl rfl (hb hby d9_100)
  refine own_go T25 m 103 #[rv o0, iv u0, iv 0, iv 2] [(.int 3), (.int 2)] (st25) ?_
  refine own_go T25 m 106 #[rv o0, iv u0, iv 0, iv 2] [] (fun t k => XS.icmpNo X25.here hx rfl (hb hby d9_103) rfl (tlt (by decide)).2.1 k) ?_
  refine own_go T25 m 107 #[rv o0, iv u0, iv 0, iv 2] [(.ref o0)] (fun t k => XS.aloadN X25.here hx rfl (hb hby d9_106) rfl rfl k) ?_
  obtain ⟨T26, X26, e26, st26⟩ := getF X25 hx hZ hown (host := "") (Or.inl (own_w hw 11 rfl)) Via.refl e25 cf22 (g := (mkF m 107 #[rv o0, iv u0, iv 0, iv 2] [(.ref o0)])) rfl rfl (hb hby d9_107)
  refine own_go T26 m 110 #[rv o0, iv u0, iv 0, iv 2] [(.ref o5)] (st26) ?_
  refine own_go T26 m 111 #[rv o0, iv u0, iv 0, iv 2] [(.int 2), (.ref o5)] (fun t k => XS.iloadN X26.here hx rfl (hb hby d9_110) rfl k) ?_
  refine own_go T26 m 112 #[rv o0, iv u0, iv 0, iv 2] [(.int u0)] (own_iaload X26 hx hZ e26 cf24 (j := (2 : Int32)) ⟨by decide, by decide⟩ rfl (hb hby d9_111)) ?_
  refine own_go T26 m 113 #[rv o0, iv u0, iv 0, iv 2] [(.int u0), (.int u0)] (fun t k => XS.iloadN X26.here hx rfl (hb hby d9_112) rfl k) ?_
  refine own_go T26 m 116 #[rv o0, iv u0, iv 0, iv 2] [] (fun t k => XS.icmpNo X26.here hx rfl (hb hby d9_113) rfl (teq rfl).2 k) ?_
  refine own_go T26 m 117 #[rv o0, iv u0, iv 0, iv 2] [(.int 2)] (fun t k => XS.iloadN X26.here hx rfl (hb hby d9_116) rfl k) ?_
  refine own_go T26 m 121 #[rv o0, iv u0, iv 0, iv 2] [(.int 2)] (fun t k => XS.goto X26.here hx rfl (pc0 := 117) (pc' := 121) rfl (hb hby d9_117) (by decide) (by decide) k) ?_
  refine own_retI X26 hx hlk hret (hb hby d9_121) (by decide) (by decide) ?_
  rw [e26]
  exact ⟨rfl, N13, K_13, cf15, cf16, cf17, cf18, cf19, cf20, cf21, cf22, F13⟩
theorem ef_sp38 (m : MethodId) (q0 : Addr) (q1 : Int32) (q2 : Int32) : entryFrame m #[(.ref q0), (.int q1), (.int q2)] 5 = mkF m 0 #[rv q0, iv q1, iv q2, .unset, .unset] [] := by first | (simp [entryFrame, mkF, argsToLocals, Value.category]; done) | rfl
set_option maxRecDepth 65536 in
set_option maxHeartbeats 40000000 in
theorem sp38 (l : Launch) (Z : State) (a0 : Array Value) (hw : ∀ d ∈ tables_1, d.before a0 Z = true) (ws : List Jvm.Cond) (o0 o1 o2 o3 o4 o5 : Addr) (u0 : Int32) (u1 : Int32) (u2 : Int32) (u3 : Int32) (u4 : Int32) (u5 : Int32) (u6 : Int32) (c0 : ClassId) (c1 : ClassId) (c2 : ClassId) (c3 : ClassId) (h0 : Heap) (n0 : Nat) (Z0 : n0 ≤ h0.size) (E_o0 : Exa Z h0 o0 OwnK0) (F_count_o0 : Fld Z h0 o0 OwnK0 "count" "I" (.int 3)) (F_cursor_o0 : Fld Z h0 o0 OwnK0 "cursor" "I" (.int 1)) (F_ends_o0 : Fld Z h0 o0 OwnK0 "ends" "[I" (.ref o1)) (F_lastOpened_o0 : Fld Z h0 o0 OwnK0 "lastOpened" "I" (.int 2)) (F_segmentEnd_o0 : Fld Z h0 o0 OwnK0 "segmentEnd" "[I" (.ref o2)) (F_segmentFirst_o0 : Fld Z h0 o0 OwnK0 "segmentFirst" "[I" (.ref o3)) (F_segmentLimit_o0 : Fld Z h0 o0 OwnK0 "segmentLimit" "[I" (.ref o4)) (F_segments_o0 : Fld Z h0 o0 OwnK0 "segments" "I" (.int 1)) (F_starts_o0 : Fld Z h0 o0 OwnK0 "starts" "[I" (.ref o5)) (V_o1 : Arv Z h0 o1 c0 .int (8 : Int32) [(.int (-2)), (.int u2), (.int u3), (.int 0), (.int 0), (.int 0), (.int 0), (.int 0)] (.int 0)) (V_o2 : Arv Z h0 o2 c1 .int (8 : Int32) [(.int u4), (.int 0), (.int 0), (.int 0), (.int 0), (.int 0), (.int 0), (.int 0)] (.int 0)) (V_o3 : Arv Z h0 o3 c2 .int (8 : Int32) [(.int 0), (.int 0), (.int 0), (.int 0), (.int 0), (.int 0), (.int 0), (.int 0)] (.int 0)) (V_o5 : Arv Z h0 o5 c3 .int (8 : Int32) [(.int u5), (.int u6), (.int u0), (.int 0), (.int 0), (.int 0), (.int 0), (.int 0)] (.int 0)) (ne_o0_o1 : o0 ≠ o1) (ne_o0_o2 : o0 ≠ o2) (ne_o0_o3 : o0 ≠ o3) (ne_o0_o4 : o0 ≠ o4) (ne_o0_o5 : o0 ≠ o5) (g_o0 : n0 ≤ o0) (hq0 : ¬ (u0 < u5)) (hq1 : u0 < u4) (hq2 : u5 < u0) (hq3 : u6 < u0) (hq4 : ¬ (u0 < u0)) (hq5 : ¬ (u3 = (-2 : Int32))) :
    OwnC l Z (⟨OwnK0, "find", "(II)I"⟩ : MethodName) prog_48_method_2_code 5 (some .int) ws ({ frames := 1, cells := 0, slots := 0, locals := 15 } : Room) #[(.ref o0), (.int u0), (.int u1)] h0 (fun v h L => v = some (.int u3) ∧ Fr n0 L ∧ Keep h0 h [o0] ∧ Fld Z h o0 OwnK0 "count" "I" (.int 3) ∧ Fld Z h o0 OwnK0 "ends" "[I" (.ref o1) ∧ Fld Z h o0 OwnK0 "lastOpened" "I" (.int 2) ∧ Fld Z h o0 OwnK0 "segmentEnd" "[I" (.ref o2) ∧ Fld Z h o0 OwnK0 "segmentFirst" "[I" (.ref o3) ∧ Fld Z h o0 OwnK0 "segmentLimit" "[I" (.ref o4) ∧ Fld Z h o0 OwnK0 "segments" "I" (.int 1) ∧ Fld Z h o0 OwnK0 "starts" "[I" (.ref o5) ∧ Fld Z h o0 OwnK0 "cursor" "I" (.int 2)) := by
  refine own_entry pf_com_example_wirelens_wirelens_wire_GroupEnds_find__II_I (fun m => ef_sp38 m o0 u0 u1) ?_
  intro p e s m below meth c T0 X0 hC e0
  obtain ⟨hx, hby, hml, hown, hnm, hret, hlk, hZ⟩ := hC
  have N0 := Fr.nil n0
  have K0 := Keep.refl h0 [o0]
  refine own_go T0 m 1 #[rv o0, iv u0, iv u1, .unset, .unset] [(.ref o0)] (fun t k => XS.aloadN X0.here hx rfl (hb hby d7_0) rfl rfl k) ?_
  obtain ⟨T1, X1, e1, st1⟩ := getF X0 hx hZ hown (host := "") (Or.inl (own_w hw 28 rfl)) Via.refl e0 F_segments_o0 (g := (mkF m 1 #[rv o0, iv u0, iv u1, .unset, .unset] [(.ref o0)])) rfl rfl (hb hby d7_1)
  refine own_go T1 m 4 #[rv o0, iv u0, iv u1, .unset, .unset] [(.int 1)] (st1) ?_
  refine own_go T1 m 7 #[rv o0, iv u0, iv u1, .unset, .unset] [] (fun t k => XS.ifNo X1.here hx rfl (hb hby d7_4) rfl ((if0 _ _).trans (tlt (by decide)).2.2.2) k) ?_
  refine own_go T1 m 8 #[rv o0, iv u0, iv u1, .unset, .unset] [(.ref o0)] (fun t k => XS.aloadN X1.here hx rfl (hb hby d7_7) rfl rfl k) ?_
  refine own_go T1 m 9 #[rv o0, iv u0, iv u1, .unset, .unset] [(.int u0), (.ref o0)] (fun t k => XS.iloadN X1.here hx rfl (hb hby d7_8) rfl k) ?_
  obtain ⟨_, T2, L2, X2, ⟨rfl, e2, rfl⟩, st2⟩ := own_private X1 hx hZ (y := (⟨OwnK0, "newestCovers", "(I)Z"⟩ : MethodName)) hown (own_w hw 54 rfl) (own_w hw 55 rfl) (own_w hw 56 rfl) (own_w hw 2 rfl) (own_w hw 3 rfl) (own_w hw 57 rfl) (by decide) (sp16 l Z a0 hw [] o0 o2 o3 o5 u0 u4 u5 u6 c1 c2 c3 h0 n0 Z0 F_segmentEnd_o0 F_segmentFirst_o0 F_segments_o0 F_starts_o0 V_o2 V_o3 V_o5 hq0 hq1) e1 E_o0 0 (argsL := [(.int u0)]) (rest := []) (Ls := #[rv o0, iv u0, iv u1, .unset, .unset]) (by rw [hml]; rfl) (lenOf pd__I_Z rfl) rfl rfl (Nat.le_of_eq rfl) (hb hby d7_9) (by decide) (by decide) (by decide) (by decide)
  replace X2 := own_nil X2
  refine own_go T2 m 12 #[rv o0, iv u0, iv u1, .unset, .unset] [(.int 1)] (st2) ?_
  refine own_go T2 m 46 #[rv o0, iv u0, iv u1, .unset, .unset] [] (fun t k => XS.ifYes X2.here hx rfl (pc0 := 12) (pc' := 46) rfl (hb hby d7_12) rfl ((if0 _ _).trans (feq (by decide)).2) (by decide) (by decide) k) ?_
  refine own_go T2 m 47 #[rv o0, iv u0, iv u1, .unset, .unset] [(.ref o0)] (fun t k => XS.aloadN X2.here hx rfl (hb hby d7_46) rfl rfl k) ?_
  obtain ⟨T3, X3, e3, st3⟩ := getF X2 hx hZ hown (host := "") (Or.inl (own_w hw 28 rfl)) Via.refl e2 F_segments_o0 (g := (mkF m 47 #[rv o0, iv u0, iv u1, .unset, .unset] [(.ref o0)])) rfl rfl (hb hby d7_47)
  refine own_go T3 m 50 #[rv o0, iv u0, iv u1, .unset, .unset] [(.int 1)] (st3) ?_
  refine own_go T3 m 57 #[rv o0, iv u0, iv u1, .unset, .unset] [] (fun t k => XS.ifYes X3.here hx rfl (pc0 := 50) (pc' := 57) rfl (hb hby d7_50) rfl ((if0 _ _).trans (feq (by decide)).2) (by decide) (by decide) k) ?_
  refine own_go T3 m 58 #[rv o0, iv u0, iv u1, .unset, .unset] [(.ref o0)] (fun t k => XS.aloadN X3.here hx rfl (hb hby d7_57) rfl rfl k) ?_
  refine own_go T3 m 59 #[rv o0, iv u0, iv u1, .unset, .unset] [(.int u0), (.ref o0)] (fun t k => XS.iloadN X3.here hx rfl (hb hby d7_58) rfl k) ?_
  obtain ⟨_, T4, L4, X4, ⟨rfl, Nq4, Kq4, fq0_4, fq1_4, fq2_4, fq3_4, fq4_4, fq5_4, fq6_4, fq7_4, fq8_4⟩, st4⟩ := own_private X3 hx hZ (y := (⟨OwnK0, "search", "(I)I"⟩ : MethodName)) hown (own_w hw 58 rfl) (own_w hw 59 rfl) (own_w hw 60 rfl) (own_w hw 2 rfl) (own_w hw 3 rfl) (own_w hw 61 rfl) (by decide) (sp39 l Z a0 hw [] o0 o1 o2 o3 o4 o5 u0 u5 u6 c2 c3 h0 n0 Z0 E_o0 F_count_o0 F_cursor_o0 F_ends_o0 F_lastOpened_o0 F_segmentEnd_o0 F_segmentFirst_o0 F_segmentLimit_o0 F_segments_o0 F_starts_o0 V_o3 V_o5 ne_o0_o1 ne_o0_o2 ne_o0_o3 ne_o0_o4 ne_o0_o5 g_o0 hq2 hq3 hq4) e3 E_o0 0 (argsL := [(.int u0)]) (rest := []) (Ls := #[rv o0, iv u0, iv u1, .unset, .unset]) (by rw [hml]; rfl) (lenOf pd__I_I rfl) rfl rfl (Nat.le_of_eq rfl) (hb hby d7_59) (by decide) (by decide) (by decide) (by decide)
  have N4 := Fr.app N0 Nq4
  have cf5 := E_o0.keep Kq4
  have cf6 := V_o1.keep Kq4 (ninS (Ne.symm ne_o0_o1) nin0)
  have cf7 := V_o2.keep Kq4 (ninS (Ne.symm ne_o0_o2) nin0)
  have cf8 := V_o3.keep Kq4 (ninS (Ne.symm ne_o0_o3) nin0)
  have cf9 := V_o5.keep Kq4 (ninS (Ne.symm ne_o0_o5) nin0)
  have Z_4 : n0 ≤ T4.heap.size := Nat.le_trans Z0 Kq4.1
  have K_4 : Keep h0 T4.heap [o0] := K0.trans Kq4 (allS (own_i 0 rfl) all0)
  refine own_go T4 m 62 #[rv o0, iv u0, iv u1, .unset, .unset] [(.int 2)] (st4) ?_
  refine own_go T4 m 63 #[rv o0, iv u0, iv u1, iv 2, .unset] [] (fun t k => XS.istoreN X4.here hx rfl (hb hby d7_62) rfl rfl k) ?_
  refine own_go T4 m 64 #[rv o0, iv u0, iv u1, iv 2, .unset] [(.int 2)] (fun t k => XS.iloadN X4.here hx rfl (hb hby d7_63) rfl k) ?_
  refine own_go T4 m 73 #[rv o0, iv u0, iv u1, iv 2, .unset] [] (fun t k => XS.ifYes X4.here hx rfl (pc0 := 64) (pc' := 73) rfl (hb hby d7_64) rfl ((if0 _ _).trans (flt (by decide)).2.1) (by decide) (by decide) k) ?_
  refine own_go T4 m 74 #[rv o0, iv u0, iv u1, iv 2, .unset] [(.ref o0)] (fun t k => XS.aloadN X4.here hx rfl (hb hby d7_73) rfl rfl k) ?_
  obtain ⟨T10, X10, e10, st10⟩ := getF X4 hx hZ hown (host := "") (Or.inl (own_w hw 13 rfl)) Via.refl rfl fq1_4 (g := (mkF m 74 #[rv o0, iv u0, iv u1, iv 2, .unset] [(.ref o0)])) rfl rfl (hb hby d7_74)
  refine own_go T10 m 77 #[rv o0, iv u0, iv u1, iv 2, .unset] [(.ref o1)] (st10) ?_
  refine own_go T10 m 78 #[rv o0, iv u0, iv u1, iv 2, .unset] [(.int 2), (.ref o1)] (fun t k => XS.iloadN X10.here hx rfl (hb hby d7_77) rfl k) ?_
  refine own_go T10 m 79 #[rv o0, iv u0, iv u1, iv 2, .unset] [(.int u3)] (own_iaload X10 hx hZ e10 cf6 (j := (2 : Int32)) ⟨by decide, by decide⟩ rfl (hb hby d7_78)) ?_
  refine own_go T10 m 81 #[rv o0, iv u0, iv u1, iv 2, .unset] [(.int (-2)), (.int u3)] (fun t k => XS.bipush X10.here hx rfl (hb hby d7_79) k) ?_
  refine own_go T10 m 105 #[rv o0, iv u0, iv u1, iv 2, .unset] [] (fun t k => XS.icmpYes X10.here hx rfl (pc0 := 81) (pc' := 105) rfl (hb hby d7_81) rfl (feq hq5).2 (by decide) (by decide) k) ?_
  refine own_go T10 m 106 #[rv o0, iv u0, iv u1, iv 2, .unset] [(.ref o0)] (fun t k => XS.aloadN X10.here hx rfl (hb hby d7_105) rfl rfl k) ?_
  obtain ⟨T12, X12, e12, st12⟩ := getF X10 hx hZ hown (host := "") (Or.inl (own_w hw 13 rfl)) Via.refl e10 fq1_4 (g := (mkF m 106 #[rv o0, iv u0, iv u1, iv 2, .unset] [(.ref o0)])) rfl rfl (hb hby d7_106)
  refine own_go T12 m 109 #[rv o0, iv u0, iv u1, iv 2, .unset] [(.ref o1)] (st12) ?_
  refine own_go T12 m 110 #[rv o0, iv u0, iv u1, iv 2, .unset] [(.int 2), (.ref o1)] (fun t k => XS.iloadN X12.here hx rfl (hb hby d7_109) rfl k) ?_
  refine own_go T12 m 111 #[rv o0, iv u0, iv u1, iv 2, .unset] [(.int u3)] (own_iaload X12 hx hZ e12 cf6 (j := (2 : Int32)) ⟨by decide, by decide⟩ rfl (hb hby d7_110)) ?_
  refine own_go T12 m 113 #[rv o0, iv u0, iv u1, iv 2, iv u3] [] (fun t k => XS.istore X12.here hx rfl (hb hby d7_111) rfl rfl k) ?_
  refine own_go T12 m 115 #[rv o0, iv u0, iv u1, iv 2, iv u3] [(.int u3)] (fun t k => XS.iload X12.here hx rfl (hb hby d7_113) rfl k) ?_
  refine own_retI X12 hx hlk hret (hb hby d7_115) (by decide) (by decide) ?_
  rw [e12]
  exact ⟨rfl, N4, K_4, fq0_4, fq1_4, fq2_4, fq3_4, fq4_4, fq5_4, fq6_4, fq7_4, fq8_4⟩
theorem ef_sp40 (m : MethodId) (q0 : Addr) (q1 : Int32) (q2 : Int32) : entryFrame m #[(.ref q0), (.int q1), (.int q2)] 6 = mkF m 0 #[rv q0, iv q1, iv q2, .unset, .unset, .unset] [] := by first | (simp [entryFrame, mkF, argsToLocals, Value.category]; done) | rfl
set_option maxRecDepth 65536 in
set_option maxHeartbeats 40000000 in
theorem sp40 (l : Launch) (Z : State) (a0 : Array Value) (hw : ∀ d ∈ tables_1, d.before a0 Z = true) (ws : List Jvm.Cond) (o0 o1 o2 o3 : Addr) (u0 : Int32) (u1 : Int32) (u2 : Int32) (u3 : Int32) (c0 : ClassId) (c1 : ClassId) (c2 : ClassId) (h0 : Heap) (n0 : Nat) (Z0 : n0 ≤ h0.size) (F_ends_o0 : Fld Z h0 o0 OwnK0 "ends" "[I" (.ref o1)) (F_segmentFirst_o0 : Fld Z h0 o0 OwnK0 "segmentFirst" "[I" (.ref o2)) (F_segments_o0 : Fld Z h0 o0 OwnK0 "segments" "I" (.int 1)) (F_starts_o0 : Fld Z h0 o0 OwnK0 "starts" "[I" (.ref o3)) (V_o1 : Arv Z h0 o1 c0 .int (8 : Int32) [(.int (-2)), (.int (-2)), (.int (-2)), (.int 0), (.int 0), (.int 0), (.int 0), (.int 0)] (.int 0)) (V_o2 : Arv Z h0 o2 c1 .int (8 : Int32) [(.int 0), (.int 0), (.int 0), (.int 0), (.int 0), (.int 0), (.int 0), (.int 0)] (.int 0)) (V_o3 : Arv Z h0 o3 c2 .int (8 : Int32) [(.int u1), (.int u2), (.int u3), (.int 0), (.int 0), (.int 0), (.int 0), (.int 0)] (.int 0)) (ne_o0_o1 : o0 ≠ o1) (ne_o1_o2 : o1 ≠ o2) (ne_o1_o3 : o1 ≠ o3) (g_o1 : n0 ≤ o1) (hq0 : ¬ ((u0 - u3) < (64 : Int32))) (hq1 : ¬ ((u3 - u1) < (64 : Int32))) :
    OwnC l Z (⟨OwnK0, "closed", "(II)V"⟩ : MethodName) prog_48_method_7_code 6 none ws ({ frames := 0, cells := 0, slots := 0, locals := 0 } : Room) #[(.ref o0), (.int 2), (.int u0)] h0 (fun v h L => v = none ∧ Fr n0 L ∧ Keep h0 h [o1] ∧ Arv Z h o1 c0 .int (8 : Int32) [(.int (-2)), (.int (-2)), (.int u0), (.int 0), (.int 0), (.int 0), (.int 0), (.int 0)] (.int 0)) := by
  refine own_entry pf_com_example_wirelens_wirelens_wire_GroupEnds_closed__II_V (fun m => ef_sp40 m o0 (2 : Int32) u0) ?_
  intro p e s m below meth c T0 X0 hC e0
  obtain ⟨hx, hby, hml, hown, hnm, hret, hlk, hZ⟩ := hC
  have N0 := Fr.nil n0
  have K0 := Keep.refl h0 [o1]
  refine own_go T0 m 1 #[rv o0, iv 2, iv u0, .unset, .unset, .unset] [(.ref o0)] (fun t k => XS.aloadN X0.here hx rfl (hb hby d5_0) rfl rfl k) ?_
  obtain ⟨T1, X1, e1, st1⟩ := getF X0 hx hZ hown (host := "") (Or.inl (own_w hw 11 rfl)) Via.refl e0 F_starts_o0 (g := (mkF m 1 #[rv o0, iv 2, iv u0, .unset, .unset, .unset] [(.ref o0)])) rfl rfl (hb hby d5_1)
  refine own_go T1 m 4 #[rv o0, iv 2, iv u0, .unset, .unset, .unset] [(.ref o3)] (st1) ?_
  refine own_go T1 m 5 #[rv o0, iv 2, iv u0, .unset, .unset, .unset] [(.ref o0), (.ref o3)] (fun t k => XS.aloadN X1.here hx rfl (hb hby d5_4) rfl rfl k) ?_
  obtain ⟨T2, X2, e2, st2⟩ := getF X1 hx hZ hown (host := "") (Or.inl (own_w hw 15 rfl)) Via.refl e1 F_segmentFirst_o0 (g := (mkF m 5 #[rv o0, iv 2, iv u0, .unset, .unset, .unset] [(.ref o0), (.ref o3)])) rfl rfl (hb hby d5_5)
  refine own_go T2 m 8 #[rv o0, iv 2, iv u0, .unset, .unset, .unset] [(.ref o2), (.ref o3)] (st2) ?_
  refine own_go T2 m 9 #[rv o0, iv 2, iv u0, .unset, .unset, .unset] [(.ref o0), (.ref o2), (.ref o3)] (fun t k => XS.aloadN X2.here hx rfl (hb hby d5_8) rfl rfl k) ?_
  obtain ⟨T3, X3, e3, st3⟩ := getF X2 hx hZ hown (host := "") (Or.inl (own_w hw 28 rfl)) Via.refl e2 F_segments_o0 (g := (mkF m 9 #[rv o0, iv 2, iv u0, .unset, .unset, .unset] [(.ref o0), (.ref o2), (.ref o3)])) rfl rfl (hb hby d5_9)
  refine own_go T3 m 12 #[rv o0, iv 2, iv u0, .unset, .unset, .unset] [(.int 1), (.ref o2), (.ref o3)] (st3) ?_
  refine own_go T3 m 13 #[rv o0, iv 2, iv u0, .unset, .unset, .unset] [(.int 1), (.int 1), (.ref o2), (.ref o3)] (fun t k => XS.iconst X3.here hx rfl (hb hby d5_12) k) ?_
  refine own_go T3 m 14 #[rv o0, iv 2, iv u0, .unset, .unset, .unset] [(.int ((1 : Int32) - (1 : Int32))), (.ref o2), (.ref o3)] (fun t k => XS.isub X3.here hx rfl (hb hby d5_13) rfl k) ?_
  rw [show ((1 : Int32) - (1 : Int32)) = (0 : Int32) from by decide]
  refine own_go T3 m 15 #[rv o0, iv 2, iv u0, .unset, .unset, .unset] [(.int 0), (.ref o3)] (own_iaload X3 hx hZ e3 V_o2 (j := (0 : Int32)) ⟨by decide, by decide⟩ rfl (hb hby d5_14)) ?_
  refine own_go T3 m 16 #[rv o0, iv 2, iv u0, .unset, .unset, .unset] [(.int u1)] (own_iaload X3 hx hZ e3 V_o3 (j := (0 : Int32)) ⟨by decide, by decide⟩ rfl (hb hby d5_15)) ?_
  refine own_go T3 m 17 #[rv o0, iv 2, iv u0, iv u1, .unset, .unset] [] (fun t k => XS.istoreN X3.here hx rfl (hb hby d5_16) rfl rfl k) ?_
  refine own_go T3 m 18 #[rv o0, iv 2, iv u0, iv u1, .unset, .unset] [(.int u0)] (fun t k => XS.iloadN X3.here hx rfl (hb hby d5_17) rfl k) ?_
  refine own_go T3 m 19 #[rv o0, iv 2, iv u0, iv u1, .unset, .unset] [(.ref o0), (.int u0)] (fun t k => XS.aloadN X3.here hx rfl (hb hby d5_18) rfl rfl k) ?_
  obtain ⟨T6, X6, e6, st6⟩ := getF X3 hx hZ hown (host := "") (Or.inl (own_w hw 11 rfl)) Via.refl e3 F_starts_o0 (g := (mkF m 19 #[rv o0, iv 2, iv u0, iv u1, .unset, .unset] [(.ref o0), (.int u0)])) rfl rfl (hb hby d5_19)
  refine own_go T6 m 22 #[rv o0, iv 2, iv u0, iv u1, .unset, .unset] [(.ref o3), (.int u0)] (st6) ?_
  refine own_go T6 m 23 #[rv o0, iv 2, iv u0, iv u1, .unset, .unset] [(.int 2), (.ref o3), (.int u0)] (fun t k => XS.iloadN X6.here hx rfl (hb hby d5_22) rfl k) ?_
  refine own_go T6 m 24 #[rv o0, iv 2, iv u0, iv u1, .unset, .unset] [(.int u3), (.int u0)] (own_iaload X6 hx hZ e6 V_o3 (j := (2 : Int32)) ⟨by decide, by decide⟩ rfl (hb hby d5_23)) ?_
  refine own_go T6 m 25 #[rv o0, iv 2, iv u0, iv u1, .unset, .unset] [(.int (u0 - u3))] (fun t k => XS.isub X6.here hx rfl (hb hby d5_24) rfl k) ?_
  refine own_go T6 m 27 #[rv o0, iv 2, iv u0, iv u1, .unset, .unset] [(.int 64), (.int (u0 - u3))] (fun t k => XS.bipush X6.here hx rfl (hb hby d5_25) k) ?_
  refine own_go T6 m 34 #[rv o0, iv 2, iv u0, iv u1, .unset, .unset] [] (fun t k => XS.icmpYes X6.here hx rfl (pc0 := 27) (pc' := 34) rfl (hb hby d5_27) rfl (flt hq0).2.1 (by decide) (by decide) k) ?_
  refine own_go T6 m 35 #[rv o0, iv 2, iv u0, iv u1, .unset, .unset] [(.int 0)] (fun t k => XS.iconst X6.here hx rfl (hb hby d5_34) k) ?_
  refine own_go T6 m 37 #[rv o0, iv 2, iv u0, iv u1, iv 0, .unset] [] (fun t k => XS.istore X6.here hx rfl (hb hby d5_35) rfl rfl k) ?_
  refine own_go T6 m 38 #[rv o0, iv 2, iv u0, iv u1, iv 0, .unset] [(.ref o0)] (fun t k => XS.aloadN X6.here hx rfl (hb hby d5_37) rfl rfl k) ?_
  obtain ⟨T8, X8, e8, st8⟩ := getF X6 hx hZ hown (host := "") (Or.inl (own_w hw 11 rfl)) Via.refl e6 F_starts_o0 (g := (mkF m 38 #[rv o0, iv 2, iv u0, iv u1, iv 0, .unset] [(.ref o0)])) rfl rfl (hb hby d5_38)
  refine own_go T8 m 41 #[rv o0, iv 2, iv u0, iv u1, iv 0, .unset] [(.ref o3)] (st8) ?_
  refine own_go T8 m 42 #[rv o0, iv 2, iv u0, iv u1, iv 0, .unset] [(.int 2), (.ref o3)] (fun t k => XS.iloadN X8.here hx rfl (hb hby d5_41) rfl k) ?_
  refine own_go T8 m 43 #[rv o0, iv 2, iv u0, iv u1, iv 0, .unset] [(.int u3)] (own_iaload X8 hx hZ e8 V_o3 (j := (2 : Int32)) ⟨by decide, by decide⟩ rfl (hb hby d5_42)) ?_
  refine own_go T8 m 44 #[rv o0, iv 2, iv u0, iv u1, iv 0, .unset] [(.int u1), (.int u3)] (fun t k => XS.iloadN X8.here hx rfl (hb hby d5_43) rfl k) ?_
  refine own_go T8 m 45 #[rv o0, iv 2, iv u0, iv u1, iv 0, .unset] [(.int (u3 - u1))] (fun t k => XS.isub X8.here hx rfl (hb hby d5_44) rfl k) ?_
  refine own_go T8 m 47 #[rv o0, iv 2, iv u0, iv u1, iv 0, .unset] [(.int 64), (.int (u3 - u1))] (fun t k => XS.bipush X8.here hx rfl (hb hby d5_45) k) ?_
  refine own_go T8 m 50 #[rv o0, iv 2, iv u0, iv u1, iv 0, .unset] [] (fun t k => XS.icmpNo X8.here hx rfl (hb hby d5_47) rfl (flt hq1).1 k) ?_
  refine own_go T8 m 51 #[rv o0, iv 2, iv u0, iv u1, iv 0, .unset] [(.int 1)] (fun t k => XS.iconst X8.here hx rfl (hb hby d5_50) k) ?_
  refine own_go T8 m 55 #[rv o0, iv 2, iv u0, iv u1, iv 0, .unset] [(.int 1)] (fun t k => XS.goto X8.here hx rfl (pc0 := 51) (pc' := 55) rfl (hb hby d5_51) (by decide) (by decide) k) ?_
  refine own_go T8 m 57 #[rv o0, iv 2, iv u0, iv u1, iv 0, iv 1] [] (fun t k => XS.istore X8.here hx rfl (hb hby d5_55) rfl rfl k) ?_
  refine own_go T8 m 59 #[rv o0, iv 2, iv u0, iv u1, iv 0, iv 1] [(.int 0)] (fun t k => XS.iload X8.here hx rfl (hb hby d5_57) rfl k) ?_
  refine own_go T8 m 88 #[rv o0, iv 2, iv u0, iv u1, iv 0, iv 1] [] (fun t k => XS.ifYes X8.here hx rfl (pc0 := 59) (pc' := 88) rfl (hb hby d5_59) rfl ((if0 _ _).trans (teq (by decide)).1) (by decide) (by decide) k) ?_
  refine own_go T8 m 89 #[rv o0, iv 2, iv u0, iv u1, iv 0, iv 1] [(.ref o0)] (fun t k => XS.aloadN X8.here hx rfl (hb hby d5_88) rfl rfl k) ?_
  obtain ⟨T10, X10, e10, st10⟩ := getF X8 hx hZ hown (host := "") (Or.inl (own_w hw 13 rfl)) Via.refl e8 F_ends_o0 (g := (mkF m 89 #[rv o0, iv 2, iv u0, iv u1, iv 0, iv 1] [(.ref o0)])) rfl rfl (hb hby d5_89)
  refine own_go T10 m 92 #[rv o0, iv 2, iv u0, iv u1, iv 0, iv 1] [(.ref o1)] (st10) ?_
  refine own_go T10 m 93 #[rv o0, iv 2, iv u0, iv u1, iv 0, iv 1] [(.int 2), (.ref o1)] (fun t k => XS.iloadN X10.here hx rfl (hb hby d5_92) rfl k) ?_
  refine own_go T10 m 94 #[rv o0, iv 2, iv u0, iv u1, iv 0, iv 1] [(.int u0), (.int 2), (.ref o1)] (fun t k => XS.iloadN X10.here hx rfl (hb hby d5_93) rfl k) ?_
  obtain ⟨T11, h11, X11, e11, W11, V11, st11⟩ := own_iastore X10 hx hZ e10 V_o1 (j := (2 : Int32)) ⟨by decide, by decide⟩ 2 rfl (Nat.le_of_ble_eq_true rfl) (Ls := #[rv o0, iv 2, iv u0, iv u1, iv 0, iv 1]) (rest := []) (x := u0) (hb hby d5_94)
  replace V11 : Arv Z h11 o1 c0 .int (8 : Int32) [(.int (-2)), (.int (-2)), (.int u0), (.int 0), (.int 0), (.int 0), (.int 0), (.int 0)] (.int 0) := V11
  have cf12 := F_ends_o0.other W11 (Or.inl ne_o0_o1)
  have cf13 := F_segmentFirst_o0.other W11 (Or.inl ne_o0_o1)
  have cf14 := F_segments_o0.other W11 (Or.inl ne_o0_o1)
  have cf15 := F_starts_o0.other W11 (Or.inl ne_o0_o1)
  have cf16 := V_o2.other W11 (Ne.symm ne_o1_o2)
  have cf17 := V_o3.other W11 (Ne.symm ne_o1_o3)
  have Z_11 : n0 ≤ h11.size := Nat.le_trans Z0 (Keep.of_wr W11).1
  have K_11 : Keep h0 h11 [o1] := K0.wr W11 (own_i 0 rfl)
  have N11 := Fr.snoc X11 N0 g_o1
  refine own_go T11 m 95 #[rv o0, iv 2, iv u0, iv u1, iv 0, iv 1] [] (st11) ?_
  refine own_retV X11 hx hlk hret (hb hby d5_95) (by decide) (by decide) ?_
  rw [e11]
  exact ⟨rfl, N11, K_11, V11⟩
theorem own_db109 (t0 t1 t2 t3 t4 t5 t6 t7 t8 t9 : Int32) (h0 : ¬ (t0 < (0 : Int32))) (h1 : t0 < t1) (h2 : t1 < t2) (h3 : ¬ (t3 < t2)) (h4 : t3 < t4) (h5 : t4 < t5) (h6 : t6 < t7) (h7 : t8 < t9) (h8 : ¬ (t6 < (64 : Int32))) (h9 : ¬ (t9 < (64 : Int32))) : ¬ (t7 < (64 : Int32)) := by
  simp only [Int32.lt_iff_toInt_lt, ← Int32.toInt_inj, Int32.reduceToInt] at *
  omega
theorem own_db111 (t0 t1 t2 t3 t4 t5 t6 t7 t8 t9 : Int32) (h0 : ¬ (t0 < (0 : Int32))) (h1 : t0 < t1) (h2 : t1 < t2) (h3 : ¬ (t3 < t2)) (h4 : t3 < t4) (h5 : t4 < t5) (h6 : t6 < t7) (h7 : t8 < t9) (h8 : ¬ (t6 < (64 : Int32))) (h9 : ¬ (t9 < (64 : Int32))) (h10 : t8 < (64 : Int32)) : ¬ (t7 < (64 : Int32)) := by
  simp only [Int32.lt_iff_toInt_lt, ← Int32.toInt_inj, Int32.reduceToInt] at *
  omega
theorem own_db113 (t0 t1 t2 t3 t4 t5 t6 t7 t8 t9 : Int32) (h0 : ¬ (t0 < (0 : Int32))) (h1 : t0 < t1) (h2 : t1 < t2) (h3 : ¬ (t3 < t2)) (h4 : t3 < t4) (h5 : t4 < t5) (h6 : t6 < t7) (h7 : t8 < t9) (h8 : ¬ (t6 < (64 : Int32))) (h9 : ¬ (t9 < (64 : Int32))) (h10 : t8 < (64 : Int32)) : ¬ (t1 < t0) := by
  simp only [Int32.lt_iff_toInt_lt, ← Int32.toInt_inj, Int32.reduceToInt] at *
  omega
theorem own_db114 (t0 t1 t2 t3 t4 t5 t6 t7 t8 t9 : Int32) (h0 : ¬ (t0 < (0 : Int32))) (h1 : t0 < t1) (h2 : t1 < t2) (h3 : ¬ (t3 < t2)) (h4 : t3 < t4) (h5 : t4 < t5) (h6 : t6 < t7) (h7 : t8 < t9) (h8 : ¬ (t6 < (64 : Int32))) (h9 : ¬ (t9 < (64 : Int32))) (h10 : t8 < (64 : Int32)) : t1 < t5 := by
  simp only [Int32.lt_iff_toInt_lt, ← Int32.toInt_inj, Int32.reduceToInt] at *
  omega
theorem own_db115 (t0 t1 t2 t3 t4 t5 t6 t7 t8 t9 : Int32) (h0 : ¬ (t0 < (0 : Int32))) (h1 : t0 < t1) (h2 : t1 < t2) (h3 : ¬ (t3 < t2)) (h4 : t3 < t4) (h5 : t4 < t5) (h6 : t6 < t7) (h7 : t8 < t9) (h8 : ¬ (t6 < (64 : Int32))) (h9 : ¬ (t9 < (64 : Int32))) (h10 : t8 < (64 : Int32)) : ¬ (t1 < t1) := by
  simp only [Int32.lt_iff_toInt_lt, ← Int32.toInt_inj, Int32.reduceToInt] at *
  omega
theorem own_db116 (t0 t1 t2 t3 t4 t5 t6 t7 t8 t9 : Int32) (h0 : ¬ (t0 < (0 : Int32))) (h1 : t0 < t1) (h2 : t1 < t2) (h3 : ¬ (t3 < t2)) (h4 : t3 < t4) (h5 : t4 < t5) (h6 : t6 < t7) (h7 : t8 < t9) (h8 : ¬ (t6 < (64 : Int32))) (h9 : ¬ (t9 < (64 : Int32))) (h10 : t8 < (64 : Int32)) : ¬ (t4 = (-2 : Int32)) := by
  simp only [Int32.lt_iff_toInt_lt, ← Int32.toInt_inj, Int32.reduceToInt] at *
  omega
theorem own_db121 (t0 t1 t2 t3 t4 t5 t6 t7 t8 t9 : Int32) (h0 : ¬ (t0 < (0 : Int32))) (h1 : t0 < t1) (h2 : t1 < t2) (h3 : ¬ (t3 < t2)) (h4 : t3 < t4) (h5 : t4 < t5) (h6 : t6 < t7) (h7 : t8 < t9) (h8 : ¬ (t6 < (64 : Int32))) (h9 : ¬ (t9 < (64 : Int32))) (h10 : t8 < (64 : Int32)) : ¬ (t2 < t0) := by
  simp only [Int32.lt_iff_toInt_lt, ← Int32.toInt_inj, Int32.reduceToInt] at *
  omega
theorem own_db122 (t0 t1 t2 t3 t4 t5 t6 t7 t8 t9 : Int32) (h0 : ¬ (t0 < (0 : Int32))) (h1 : t0 < t1) (h2 : t1 < t2) (h3 : ¬ (t3 < t2)) (h4 : t3 < t4) (h5 : t4 < t5) (h6 : t6 < t7) (h7 : t8 < t9) (h8 : ¬ (t6 < (64 : Int32))) (h9 : ¬ (t9 < (64 : Int32))) (h10 : t8 < (64 : Int32)) : t2 < t5 := by
  simp only [Int32.lt_iff_toInt_lt, ← Int32.toInt_inj, Int32.reduceToInt] at *
  omega
theorem own_db123 (t0 t1 t2 t3 t4 t5 t6 t7 t8 t9 : Int32) (h0 : ¬ (t0 < (0 : Int32))) (h1 : t0 < t1) (h2 : t1 < t2) (h3 : ¬ (t3 < t2)) (h4 : t3 < t4) (h5 : t4 < t5) (h6 : t6 < t7) (h7 : t8 < t9) (h8 : ¬ (t6 < (64 : Int32))) (h9 : ¬ (t9 < (64 : Int32))) (h10 : t8 < (64 : Int32)) : t0 < t2 := by
  simp only [Int32.lt_iff_toInt_lt, ← Int32.toInt_inj, Int32.reduceToInt] at *
  omega
theorem own_db124 (t0 t1 t2 t3 t4 t5 t6 t7 t8 t9 : Int32) (h0 : ¬ (t0 < (0 : Int32))) (h1 : t0 < t1) (h2 : t1 < t2) (h3 : ¬ (t3 < t2)) (h4 : t3 < t4) (h5 : t4 < t5) (h6 : t6 < t7) (h7 : t8 < t9) (h8 : ¬ (t6 < (64 : Int32))) (h9 : ¬ (t9 < (64 : Int32))) (h10 : t8 < (64 : Int32)) : ¬ (t2 < t2) := by
  simp only [Int32.lt_iff_toInt_lt, ← Int32.toInt_inj, Int32.reduceToInt] at *
  omega
theorem own_db125 (t0 t1 t2 t3 t4 t5 t6 t7 t8 t9 : Int32) (h0 : ¬ (t0 < (0 : Int32))) (h1 : t0 < t1) (h2 : t1 < t2) (h3 : ¬ (t3 < t2)) (h4 : t3 < t4) (h5 : t4 < t5) (h6 : t6 < t7) (h7 : t8 < t9) (h8 : ¬ (t6 < (64 : Int32))) (h9 : ¬ (t9 < (64 : Int32))) (h10 : t8 < (64 : Int32)) : ¬ (t3 = (-2 : Int32)) := by
  simp only [Int32.lt_iff_toInt_lt, ← Int32.toInt_inj, Int32.reduceToInt] at *
  omega
theorem own_db132 (t0 t1 t2 t3 t4 t5 t6 t7 t8 t9 : Int32) (h0 : ¬ (t0 < (0 : Int32))) (h1 : t0 < t1) (h2 : t1 < t2) (h3 : ¬ (t3 < t2)) (h4 : t3 < t4) (h5 : t4 < t5) (h6 : t6 < t7) (h7 : t8 < t9) (h8 : ¬ (t6 < (64 : Int32))) (h9 : ¬ (t9 < (64 : Int32))) (h10 : ¬ (t8 < (64 : Int32))) : ¬ (t7 < (64 : Int32)) := by
  simp only [Int32.lt_iff_toInt_lt, ← Int32.toInt_inj, Int32.reduceToInt] at *
  omega
theorem ef_sp41 (m : MethodId) (q0 : Addr) (q1 : Int32) (q2 : Int32) : entryFrame m #[(.ref q0), (.int q1), (.int q2)] 6 = mkF m 0 #[rv q0, iv q1, iv q2, .unset, .unset, .unset] [] := by first | (simp [entryFrame, mkF, argsToLocals, Value.category]; done) | rfl
set_option maxRecDepth 65536 in
set_option maxHeartbeats 40000000 in
theorem sp41 (l : Launch) (Z : State) (a0 : Array Value) (hw : ∀ d ∈ tables_1, d.before a0 Z = true) (ws : List Jvm.Cond) (o0 o1 o2 o3 : Addr) (u0 : Int32) (u1 : Int32) (u2 : Int32) (u3 : Int32) (u4 : Int32) (c0 : ClassId) (c1 : ClassId) (c2 : ClassId) (h0 : Heap) (n0 : Nat) (Z0 : n0 ≤ h0.size) (F_ends_o0 : Fld Z h0 o0 OwnK0 "ends" "[I" (.ref o1)) (F_segmentFirst_o0 : Fld Z h0 o0 OwnK0 "segmentFirst" "[I" (.ref o2)) (F_segments_o0 : Fld Z h0 o0 OwnK0 "segments" "I" (.int 1)) (F_starts_o0 : Fld Z h0 o0 OwnK0 "starts" "[I" (.ref o3)) (V_o1 : Arv Z h0 o1 c0 .int (8 : Int32) [(.int (-2)), (.int (-2)), (.int u1), (.int 0), (.int 0), (.int 0), (.int 0), (.int 0)] (.int 0)) (V_o2 : Arv Z h0 o2 c1 .int (8 : Int32) [(.int 0), (.int 0), (.int 0), (.int 0), (.int 0), (.int 0), (.int 0), (.int 0)] (.int 0)) (V_o3 : Arv Z h0 o3 c2 .int (8 : Int32) [(.int u2), (.int u3), (.int u4), (.int 0), (.int 0), (.int 0), (.int 0), (.int 0)] (.int 0)) (ne_o0_o1 : o0 ≠ o1) (ne_o1_o2 : o1 ≠ o2) (ne_o1_o3 : o1 ≠ o3) (g_o1 : n0 ≤ o1) (hq0 : ¬ ((u0 - u3) < (64 : Int32))) (hq1 : ¬ ((u3 - u2) < (64 : Int32))) :
    OwnC l Z (⟨OwnK0, "closed", "(II)V"⟩ : MethodName) prog_48_method_7_code 6 none ws ({ frames := 0, cells := 0, slots := 0, locals := 0 } : Room) #[(.ref o0), (.int 1), (.int u0)] h0 (fun v h L => v = none ∧ Fr n0 L ∧ Keep h0 h [o1] ∧ Arv Z h o1 c0 .int (8 : Int32) [(.int (-2)), (.int u0), (.int u1), (.int 0), (.int 0), (.int 0), (.int 0), (.int 0)] (.int 0)) := by
  refine own_entry pf_com_example_wirelens_wirelens_wire_GroupEnds_closed__II_V (fun m => ef_sp41 m o0 (1 : Int32) u0) ?_
  intro p e s m below meth c T0 X0 hC e0
  obtain ⟨hx, hby, hml, hown, hnm, hret, hlk, hZ⟩ := hC
  have N0 := Fr.nil n0
  have K0 := Keep.refl h0 [o1]
  refine own_go T0 m 1 #[rv o0, iv 1, iv u0, .unset, .unset, .unset] [(.ref o0)] (fun t k => XS.aloadN X0.here hx rfl (hb hby d5_0) rfl rfl k) ?_
  obtain ⟨T1, X1, e1, st1⟩ := getF X0 hx hZ hown (host := "") (Or.inl (own_w hw 11 rfl)) Via.refl e0 F_starts_o0 (g := (mkF m 1 #[rv o0, iv 1, iv u0, .unset, .unset, .unset] [(.ref o0)])) rfl rfl (hb hby d5_1)
  refine own_go T1 m 4 #[rv o0, iv 1, iv u0, .unset, .unset, .unset] [(.ref o3)] (st1) ?_
  refine own_go T1 m 5 #[rv o0, iv 1, iv u0, .unset, .unset, .unset] [(.ref o0), (.ref o3)] (fun t k => XS.aloadN X1.here hx rfl (hb hby d5_4) rfl rfl k) ?_
  obtain ⟨T2, X2, e2, st2⟩ := getF X1 hx hZ hown (host := "") (Or.inl (own_w hw 15 rfl)) Via.refl e1 F_segmentFirst_o0 (g := (mkF m 5 #[rv o0, iv 1, iv u0, .unset, .unset, .unset] [(.ref o0), (.ref o3)])) rfl rfl (hb hby d5_5)
  refine own_go T2 m 8 #[rv o0, iv 1, iv u0, .unset, .unset, .unset] [(.ref o2), (.ref o3)] (st2) ?_
  refine own_go T2 m 9 #[rv o0, iv 1, iv u0, .unset, .unset, .unset] [(.ref o0), (.ref o2), (.ref o3)] (fun t k => XS.aloadN X2.here hx rfl (hb hby d5_8) rfl rfl k) ?_
  obtain ⟨T3, X3, e3, st3⟩ := getF X2 hx hZ hown (host := "") (Or.inl (own_w hw 28 rfl)) Via.refl e2 F_segments_o0 (g := (mkF m 9 #[rv o0, iv 1, iv u0, .unset, .unset, .unset] [(.ref o0), (.ref o2), (.ref o3)])) rfl rfl (hb hby d5_9)
  refine own_go T3 m 12 #[rv o0, iv 1, iv u0, .unset, .unset, .unset] [(.int 1), (.ref o2), (.ref o3)] (st3) ?_
  refine own_go T3 m 13 #[rv o0, iv 1, iv u0, .unset, .unset, .unset] [(.int 1), (.int 1), (.ref o2), (.ref o3)] (fun t k => XS.iconst X3.here hx rfl (hb hby d5_12) k) ?_
  refine own_go T3 m 14 #[rv o0, iv 1, iv u0, .unset, .unset, .unset] [(.int ((1 : Int32) - (1 : Int32))), (.ref o2), (.ref o3)] (fun t k => XS.isub X3.here hx rfl (hb hby d5_13) rfl k) ?_
  rw [show ((1 : Int32) - (1 : Int32)) = (0 : Int32) from by decide]
  refine own_go T3 m 15 #[rv o0, iv 1, iv u0, .unset, .unset, .unset] [(.int 0), (.ref o3)] (own_iaload X3 hx hZ e3 V_o2 (j := (0 : Int32)) ⟨by decide, by decide⟩ rfl (hb hby d5_14)) ?_
  refine own_go T3 m 16 #[rv o0, iv 1, iv u0, .unset, .unset, .unset] [(.int u2)] (own_iaload X3 hx hZ e3 V_o3 (j := (0 : Int32)) ⟨by decide, by decide⟩ rfl (hb hby d5_15)) ?_
  refine own_go T3 m 17 #[rv o0, iv 1, iv u0, iv u2, .unset, .unset] [] (fun t k => XS.istoreN X3.here hx rfl (hb hby d5_16) rfl rfl k) ?_
  refine own_go T3 m 18 #[rv o0, iv 1, iv u0, iv u2, .unset, .unset] [(.int u0)] (fun t k => XS.iloadN X3.here hx rfl (hb hby d5_17) rfl k) ?_
  refine own_go T3 m 19 #[rv o0, iv 1, iv u0, iv u2, .unset, .unset] [(.ref o0), (.int u0)] (fun t k => XS.aloadN X3.here hx rfl (hb hby d5_18) rfl rfl k) ?_
  obtain ⟨T6, X6, e6, st6⟩ := getF X3 hx hZ hown (host := "") (Or.inl (own_w hw 11 rfl)) Via.refl e3 F_starts_o0 (g := (mkF m 19 #[rv o0, iv 1, iv u0, iv u2, .unset, .unset] [(.ref o0), (.int u0)])) rfl rfl (hb hby d5_19)
  refine own_go T6 m 22 #[rv o0, iv 1, iv u0, iv u2, .unset, .unset] [(.ref o3), (.int u0)] (st6) ?_
  refine own_go T6 m 23 #[rv o0, iv 1, iv u0, iv u2, .unset, .unset] [(.int 1), (.ref o3), (.int u0)] (fun t k => XS.iloadN X6.here hx rfl (hb hby d5_22) rfl k) ?_
  refine own_go T6 m 24 #[rv o0, iv 1, iv u0, iv u2, .unset, .unset] [(.int u3), (.int u0)] (own_iaload X6 hx hZ e6 V_o3 (j := (1 : Int32)) ⟨by decide, by decide⟩ rfl (hb hby d5_23)) ?_
  refine own_go T6 m 25 #[rv o0, iv 1, iv u0, iv u2, .unset, .unset] [(.int (u0 - u3))] (fun t k => XS.isub X6.here hx rfl (hb hby d5_24) rfl k) ?_
  refine own_go T6 m 27 #[rv o0, iv 1, iv u0, iv u2, .unset, .unset] [(.int 64), (.int (u0 - u3))] (fun t k => XS.bipush X6.here hx rfl (hb hby d5_25) k) ?_
  refine own_go T6 m 34 #[rv o0, iv 1, iv u0, iv u2, .unset, .unset] [] (fun t k => XS.icmpYes X6.here hx rfl (pc0 := 27) (pc' := 34) rfl (hb hby d5_27) rfl (flt hq0).2.1 (by decide) (by decide) k) ?_
  refine own_go T6 m 35 #[rv o0, iv 1, iv u0, iv u2, .unset, .unset] [(.int 0)] (fun t k => XS.iconst X6.here hx rfl (hb hby d5_34) k) ?_
  refine own_go T6 m 37 #[rv o0, iv 1, iv u0, iv u2, iv 0, .unset] [] (fun t k => XS.istore X6.here hx rfl (hb hby d5_35) rfl rfl k) ?_
  refine own_go T6 m 38 #[rv o0, iv 1, iv u0, iv u2, iv 0, .unset] [(.ref o0)] (fun t k => XS.aloadN X6.here hx rfl (hb hby d5_37) rfl rfl k) ?_
  obtain ⟨T8, X8, e8, st8⟩ := getF X6 hx hZ hown (host := "") (Or.inl (own_w hw 11 rfl)) Via.refl e6 F_starts_o0 (g := (mkF m 38 #[rv o0, iv 1, iv u0, iv u2, iv 0, .unset] [(.ref o0)])) rfl rfl (hb hby d5_38)
  refine own_go T8 m 41 #[rv o0, iv 1, iv u0, iv u2, iv 0, .unset] [(.ref o3)] (st8) ?_
  refine own_go T8 m 42 #[rv o0, iv 1, iv u0, iv u2, iv 0, .unset] [(.int 1), (.ref o3)] (fun t k => XS.iloadN X8.here hx rfl (hb hby d5_41) rfl k) ?_
  refine own_go T8 m 43 #[rv o0, iv 1, iv u0, iv u2, iv 0, .unset] [(.int u3)] (own_iaload X8 hx hZ e8 V_o3 (j := (1 : Int32)) ⟨by decide, by decide⟩ rfl (hb hby d5_42)) ?_
  refine own_go T8 m 44 #[rv o0, iv 1, iv u0, iv u2, iv 0, .unset] [(.int u2), (.int u3)] (fun t k => XS.iloadN X8.here hx rfl (hb hby d5_43) rfl k) ?_
  refine own_go T8 m 45 #[rv o0, iv 1, iv u0, iv u2, iv 0, .unset] [(.int (u3 - u2))] (fun t k => XS.isub X8.here hx rfl (hb hby d5_44) rfl k) ?_
  refine own_go T8 m 47 #[rv o0, iv 1, iv u0, iv u2, iv 0, .unset] [(.int 64), (.int (u3 - u2))] (fun t k => XS.bipush X8.here hx rfl (hb hby d5_45) k) ?_
  refine own_go T8 m 50 #[rv o0, iv 1, iv u0, iv u2, iv 0, .unset] [] (fun t k => XS.icmpNo X8.here hx rfl (hb hby d5_47) rfl (flt hq1).1 k) ?_
  refine own_go T8 m 51 #[rv o0, iv 1, iv u0, iv u2, iv 0, .unset] [(.int 1)] (fun t k => XS.iconst X8.here hx rfl (hb hby d5_50) k) ?_
  refine own_go T8 m 55 #[rv o0, iv 1, iv u0, iv u2, iv 0, .unset] [(.int 1)] (fun t k => XS.goto X8.here hx rfl (pc0 := 51) (pc' := 55) rfl (hb hby d5_51) (by decide) (by decide) k) ?_
  refine own_go T8 m 57 #[rv o0, iv 1, iv u0, iv u2, iv 0, iv 1] [] (fun t k => XS.istore X8.here hx rfl (hb hby d5_55) rfl rfl k) ?_
  refine own_go T8 m 59 #[rv o0, iv 1, iv u0, iv u2, iv 0, iv 1] [(.int 0)] (fun t k => XS.iload X8.here hx rfl (hb hby d5_57) rfl k) ?_
  refine own_go T8 m 88 #[rv o0, iv 1, iv u0, iv u2, iv 0, iv 1] [] (fun t k => XS.ifYes X8.here hx rfl (pc0 := 59) (pc' := 88) rfl (hb hby d5_59) rfl ((if0 _ _).trans (teq (by decide)).1) (by decide) (by decide) k) ?_
  refine own_go T8 m 89 #[rv o0, iv 1, iv u0, iv u2, iv 0, iv 1] [(.ref o0)] (fun t k => XS.aloadN X8.here hx rfl (hb hby d5_88) rfl rfl k) ?_
  obtain ⟨T10, X10, e10, st10⟩ := getF X8 hx hZ hown (host := "") (Or.inl (own_w hw 13 rfl)) Via.refl e8 F_ends_o0 (g := (mkF m 89 #[rv o0, iv 1, iv u0, iv u2, iv 0, iv 1] [(.ref o0)])) rfl rfl (hb hby d5_89)
  refine own_go T10 m 92 #[rv o0, iv 1, iv u0, iv u2, iv 0, iv 1] [(.ref o1)] (st10) ?_
  refine own_go T10 m 93 #[rv o0, iv 1, iv u0, iv u2, iv 0, iv 1] [(.int 1), (.ref o1)] (fun t k => XS.iloadN X10.here hx rfl (hb hby d5_92) rfl k) ?_
  refine own_go T10 m 94 #[rv o0, iv 1, iv u0, iv u2, iv 0, iv 1] [(.int u0), (.int 1), (.ref o1)] (fun t k => XS.iloadN X10.here hx rfl (hb hby d5_93) rfl k) ?_
  obtain ⟨T11, h11, X11, e11, W11, V11, st11⟩ := own_iastore X10 hx hZ e10 V_o1 (j := (1 : Int32)) ⟨by decide, by decide⟩ 1 rfl (Nat.le_of_ble_eq_true rfl) (Ls := #[rv o0, iv 1, iv u0, iv u2, iv 0, iv 1]) (rest := []) (x := u0) (hb hby d5_94)
  replace V11 : Arv Z h11 o1 c0 .int (8 : Int32) [(.int (-2)), (.int u0), (.int u1), (.int 0), (.int 0), (.int 0), (.int 0), (.int 0)] (.int 0) := V11
  have cf12 := F_ends_o0.other W11 (Or.inl ne_o0_o1)
  have cf13 := F_segmentFirst_o0.other W11 (Or.inl ne_o0_o1)
  have cf14 := F_segments_o0.other W11 (Or.inl ne_o0_o1)
  have cf15 := F_starts_o0.other W11 (Or.inl ne_o0_o1)
  have cf16 := V_o2.other W11 (Ne.symm ne_o1_o2)
  have cf17 := V_o3.other W11 (Ne.symm ne_o1_o3)
  have Z_11 : n0 ≤ h11.size := Nat.le_trans Z0 (Keep.of_wr W11).1
  have K_11 : Keep h0 h11 [o1] := K0.wr W11 (own_i 0 rfl)
  have N11 := Fr.snoc X11 N0 g_o1
  refine own_go T11 m 95 #[rv o0, iv 1, iv u0, iv u2, iv 0, iv 1] [] (st11) ?_
  refine own_retV X11 hx hlk hret (hb hby d5_95) (by decide) (by decide) ?_
  rw [e11]
  exact ⟨rfl, N11, K_11, V11⟩
theorem own_db136 (t0 t1 t2 t3 t4 t5 t6 t7 t8 t9 : Int32) (h0 : ¬ (t0 < (0 : Int32))) (h1 : t0 < t1) (h2 : t1 < t2) (h3 : ¬ (t3 < t2)) (h4 : t3 < t4) (h5 : t4 < t5) (h6 : t6 < t7) (h7 : t8 < t9) (h8 : ¬ (t6 < (64 : Int32))) (h9 : ¬ (t9 < (64 : Int32))) (h10 : ¬ (t8 < (64 : Int32))) : ¬ (t1 < t0) := by
  simp only [Int32.lt_iff_toInt_lt, ← Int32.toInt_inj, Int32.reduceToInt] at *
  omega
theorem own_db137 (t0 t1 t2 t3 t4 t5 t6 t7 t8 t9 : Int32) (h0 : ¬ (t0 < (0 : Int32))) (h1 : t0 < t1) (h2 : t1 < t2) (h3 : ¬ (t3 < t2)) (h4 : t3 < t4) (h5 : t4 < t5) (h6 : t6 < t7) (h7 : t8 < t9) (h8 : ¬ (t6 < (64 : Int32))) (h9 : ¬ (t9 < (64 : Int32))) (h10 : ¬ (t8 < (64 : Int32))) : t1 < t5 := by
  simp only [Int32.lt_iff_toInt_lt, ← Int32.toInt_inj, Int32.reduceToInt] at *
  omega
theorem own_db138 (t0 t1 t2 t3 t4 t5 t6 t7 t8 t9 : Int32) (h0 : ¬ (t0 < (0 : Int32))) (h1 : t0 < t1) (h2 : t1 < t2) (h3 : ¬ (t3 < t2)) (h4 : t3 < t4) (h5 : t4 < t5) (h6 : t6 < t7) (h7 : t8 < t9) (h8 : ¬ (t6 < (64 : Int32))) (h9 : ¬ (t9 < (64 : Int32))) (h10 : ¬ (t8 < (64 : Int32))) : ¬ (t1 < t1) := by
  simp only [Int32.lt_iff_toInt_lt, ← Int32.toInt_inj, Int32.reduceToInt] at *
  omega
theorem own_db139 (t0 t1 t2 t3 t4 t5 t6 t7 t8 t9 : Int32) (h0 : ¬ (t0 < (0 : Int32))) (h1 : t0 < t1) (h2 : t1 < t2) (h3 : ¬ (t3 < t2)) (h4 : t3 < t4) (h5 : t4 < t5) (h6 : t6 < t7) (h7 : t8 < t9) (h8 : ¬ (t6 < (64 : Int32))) (h9 : ¬ (t9 < (64 : Int32))) (h10 : ¬ (t8 < (64 : Int32))) : ¬ (t4 = (-2 : Int32)) := by
  simp only [Int32.lt_iff_toInt_lt, ← Int32.toInt_inj, Int32.reduceToInt] at *
  omega
theorem own_db144 (t0 t1 t2 t3 t4 t5 t6 t7 t8 t9 : Int32) (h0 : ¬ (t0 < (0 : Int32))) (h1 : t0 < t1) (h2 : t1 < t2) (h3 : ¬ (t3 < t2)) (h4 : t3 < t4) (h5 : t4 < t5) (h6 : t6 < t7) (h7 : t8 < t9) (h8 : ¬ (t6 < (64 : Int32))) (h9 : ¬ (t9 < (64 : Int32))) (h10 : ¬ (t8 < (64 : Int32))) : ¬ (t2 < t0) := by
  simp only [Int32.lt_iff_toInt_lt, ← Int32.toInt_inj, Int32.reduceToInt] at *
  omega
theorem own_db145 (t0 t1 t2 t3 t4 t5 t6 t7 t8 t9 : Int32) (h0 : ¬ (t0 < (0 : Int32))) (h1 : t0 < t1) (h2 : t1 < t2) (h3 : ¬ (t3 < t2)) (h4 : t3 < t4) (h5 : t4 < t5) (h6 : t6 < t7) (h7 : t8 < t9) (h8 : ¬ (t6 < (64 : Int32))) (h9 : ¬ (t9 < (64 : Int32))) (h10 : ¬ (t8 < (64 : Int32))) : t2 < t5 := by
  simp only [Int32.lt_iff_toInt_lt, ← Int32.toInt_inj, Int32.reduceToInt] at *
  omega
theorem own_db146 (t0 t1 t2 t3 t4 t5 t6 t7 t8 t9 : Int32) (h0 : ¬ (t0 < (0 : Int32))) (h1 : t0 < t1) (h2 : t1 < t2) (h3 : ¬ (t3 < t2)) (h4 : t3 < t4) (h5 : t4 < t5) (h6 : t6 < t7) (h7 : t8 < t9) (h8 : ¬ (t6 < (64 : Int32))) (h9 : ¬ (t9 < (64 : Int32))) (h10 : ¬ (t8 < (64 : Int32))) : t0 < t2 := by
  simp only [Int32.lt_iff_toInt_lt, ← Int32.toInt_inj, Int32.reduceToInt] at *
  omega
theorem own_db147 (t0 t1 t2 t3 t4 t5 t6 t7 t8 t9 : Int32) (h0 : ¬ (t0 < (0 : Int32))) (h1 : t0 < t1) (h2 : t1 < t2) (h3 : ¬ (t3 < t2)) (h4 : t3 < t4) (h5 : t4 < t5) (h6 : t6 < t7) (h7 : t8 < t9) (h8 : ¬ (t6 < (64 : Int32))) (h9 : ¬ (t9 < (64 : Int32))) (h10 : ¬ (t8 < (64 : Int32))) : ¬ (t2 < t2) := by
  simp only [Int32.lt_iff_toInt_lt, ← Int32.toInt_inj, Int32.reduceToInt] at *
  omega
theorem own_db148 (t0 t1 t2 t3 t4 t5 t6 t7 t8 t9 : Int32) (h0 : ¬ (t0 < (0 : Int32))) (h1 : t0 < t1) (h2 : t1 < t2) (h3 : ¬ (t3 < t2)) (h4 : t3 < t4) (h5 : t4 < t5) (h6 : t6 < t7) (h7 : t8 < t9) (h8 : ¬ (t6 < (64 : Int32))) (h9 : ¬ (t9 < (64 : Int32))) (h10 : ¬ (t8 < (64 : Int32))) : ¬ (t3 = (-2 : Int32)) := by
  simp only [Int32.lt_iff_toInt_lt, ← Int32.toInt_inj, Int32.reduceToInt] at *
  omega
theorem ef_rm0 (m : MethodId) (q0 : Int32) (q1 : Int32) (q2 : Int32) (q3 : Int32) (q4 : Int32) (q5 : Int32) : entryFrame m #[(.int q0), (.int q1), (.int q2), (.int q3), (.int q4), (.int q5)] maxLocals = mkF m 0 #[iv q0, iv q1, iv q2, iv q3, iv q4, iv q5, .unset, .unset, .unset, .unset, .unset, .unset, .unset, .unset, .unset, .unset, .unset, .unset, .unset, .unset, .unset] [] := by first | (simp [entryFrame, mkF, argsToLocals, Value.category, maxLocals]; done) | rfl
set_option maxRecDepth 65536 in
set_option maxHeartbeats 40000000 in
theorem rm0 (l : Launch) (Z : State) (a0 : Array Value) (hw : ∀ d ∈ tables_1, d.before a0 Z = true) (ws : List Jvm.Cond) (x0 : Int32) (x1 : Int32) (x2 : Int32) (x3 : Int32) (x4 : Int32) (x5 : Int32) (h0 : Heap) (n0 : Nat) (Z0 : n0 ≤ h0.size) :
    OwnC l Z x code maxLocals ret ws room_1 #[(.int x0), (.int x1), (.int x2), (.int x3), (.int x4), (.int x5)] h0 (fun v h L => v = some (.int 1) ∧ Fr n0 L) := by
  refine own_entry pf_com_example_wirelens_wirelens_wire_GroupEndsClosedPinLaw_law__IIIIII_Z (fun m => ef_rm0 m x0 x1 x2 x3 x4 x5) ?_
  intro p e s m below meth c T0 X0 hC e0
  obtain ⟨hx, hby, hml, hown, hnm, hret, hlk, hZ⟩ := hC
  have hml : c.maxLocals = 21 := hml
  have N0 := Fr.nil n0
  refine own_go T0 m 1 #[iv x0, iv x1, iv x2, iv x3, iv x4, iv x5, .unset, .unset, .unset, .unset, .unset, .unset, .unset, .unset, .unset, .unset, .unset, .unset, .unset, .unset, .unset] [(.int x0)] (fun t k => XS.iloadN X0.here hx rfl (hb hby at_0) rfl k) ?_
  refine own_go T0 m 3 #[iv x0, iv x1, iv x2, iv x3, iv x4, iv x5, .unset, .unset, .unset, .unset, .unset, .unset, .unset, .unset, .unset, .unset, .unset, .unset, .unset, .unset, .unset] [(.int 268435455), (.int x0)] (X0.ldcInt hx hown (mvT hZ (own_w hw 0 rfl)) (g := (mkF m 1 #[iv x0, iv x1, iv x2, iv x3, iv x4, iv x5, .unset, .unset, .unset, .unset, .unset, .unset, .unset, .unset, .unset, .unset, .unset, .unset, .unset, .unset, .unset] [(.int x0)])) rfl (hb hby at_1)) ?_
  refine own_go T0 m 4 #[iv x0, iv x1, iv x2, iv x3, iv x4, iv x5, .unset, .unset, .unset, .unset, .unset, .unset, .unset, .unset, .unset, .unset, .unset, .unset, .unset, .unset, .unset] [(.int (x0 &&& (268435455 : Int32)))] (fun t k => XS.iand X0.here hx rfl (hb hby at_3) rfl k) ?_
  refine own_go T0 m 6 #[iv x0, iv x1, iv x2, iv x3, iv x4, iv x5, iv (x0 &&& (268435455 : Int32)), .unset, .unset, .unset, .unset, .unset, .unset, .unset, .unset, .unset, .unset, .unset, .unset, .unset, .unset] [] (fun t k => XS.istore X0.here hx rfl (hb hby at_4) rfl rfl k) ?_
  obtain ⟨s0, hd_s0⟩ : ∃ z, z = (x0 &&& (268435455 : Int32)) := ⟨_, rfl⟩
  rw [← hd_s0]
  refine own_go T0 m 8 #[iv x0, iv x1, iv x2, iv x3, iv x4, iv x5, iv s0, .unset, .unset, .unset, .unset, .unset, .unset, .unset, .unset, .unset, .unset, .unset, .unset, .unset, .unset] [(.int s0)] (fun t k => XS.iload X0.here hx rfl (hb hby at_6) rfl k) ?_
  refine own_go T0 m 9 #[iv x0, iv x1, iv x2, iv x3, iv x4, iv x5, iv s0, .unset, .unset, .unset, .unset, .unset, .unset, .unset, .unset, .unset, .unset, .unset, .unset, .unset, .unset] [(.int 1), (.int s0)] (fun t k => XS.iconst X0.here hx rfl (hb hby at_8) k) ?_
  refine own_go T0 m 10 #[iv x0, iv x1, iv x2, iv x3, iv x4, iv x5, iv s0, .unset, .unset, .unset, .unset, .unset, .unset, .unset, .unset, .unset, .unset, .unset, .unset, .unset, .unset] [(.int (s0 + (1 : Int32)))] (fun t k => XS.iadd X0.here hx rfl (hb hby at_9) rfl k) ?_
  refine own_go T0 m 11 #[iv x0, iv x1, iv x2, iv x3, iv x4, iv x5, iv s0, .unset, .unset, .unset, .unset, .unset, .unset, .unset, .unset, .unset, .unset, .unset, .unset, .unset, .unset] [(.int x1), (.int (s0 + (1 : Int32)))] (fun t k => XS.iloadN X0.here hx rfl (hb hby at_10) rfl k) ?_
  refine own_go T0 m 13 #[iv x0, iv x1, iv x2, iv x3, iv x4, iv x5, iv s0, .unset, .unset, .unset, .unset, .unset, .unset, .unset, .unset, .unset, .unset, .unset, .unset, .unset, .unset] [(.int 268435455), (.int x1), (.int (s0 + (1 : Int32)))] (X0.ldcInt hx hown (mvT hZ (own_w hw 0 rfl)) (g := (mkF m 11 #[iv x0, iv x1, iv x2, iv x3, iv x4, iv x5, iv s0, .unset, .unset, .unset, .unset, .unset, .unset, .unset, .unset, .unset, .unset, .unset, .unset, .unset, .unset] [(.int x1), (.int (s0 + (1 : Int32)))])) rfl (hb hby at_11)) ?_
  refine own_go T0 m 14 #[iv x0, iv x1, iv x2, iv x3, iv x4, iv x5, iv s0, .unset, .unset, .unset, .unset, .unset, .unset, .unset, .unset, .unset, .unset, .unset, .unset, .unset, .unset] [(.int (x1 &&& (268435455 : Int32))), (.int (s0 + (1 : Int32)))] (fun t k => XS.iand X0.here hx rfl (hb hby at_13) rfl k) ?_
  refine own_go T0 m 15 #[iv x0, iv x1, iv x2, iv x3, iv x4, iv x5, iv s0, .unset, .unset, .unset, .unset, .unset, .unset, .unset, .unset, .unset, .unset, .unset, .unset, .unset, .unset] [(.int ((s0 + (1 : Int32)) + (x1 &&& (268435455 : Int32))))] (fun t k => XS.iadd X0.here hx rfl (hb hby at_14) rfl k) ?_
  refine own_go T0 m 17 #[iv x0, iv x1, iv x2, iv x3, iv x4, iv x5, iv s0, iv ((s0 + (1 : Int32)) + (x1 &&& (268435455 : Int32))), .unset, .unset, .unset, .unset, .unset, .unset, .unset, .unset, .unset, .unset, .unset, .unset, .unset] [] (fun t k => XS.istore X0.here hx rfl (hb hby at_15) rfl rfl k) ?_
  obtain ⟨s1, hd_s1⟩ : ∃ z, z = ((s0 + (1 : Int32)) + (x1 &&& (268435455 : Int32))) := ⟨_, rfl⟩
  rw [← hd_s1]
  refine own_go T0 m 19 #[iv x0, iv x1, iv x2, iv x3, iv x4, iv x5, iv s0, iv s1, .unset, .unset, .unset, .unset, .unset, .unset, .unset, .unset, .unset, .unset, .unset, .unset, .unset] [(.int s1)] (fun t k => XS.iload X0.here hx rfl (hb hby at_17) rfl k) ?_
  refine own_go T0 m 20 #[iv x0, iv x1, iv x2, iv x3, iv x4, iv x5, iv s0, iv s1, .unset, .unset, .unset, .unset, .unset, .unset, .unset, .unset, .unset, .unset, .unset, .unset, .unset] [(.int 1), (.int s1)] (fun t k => XS.iconst X0.here hx rfl (hb hby at_19) k) ?_
  refine own_go T0 m 21 #[iv x0, iv x1, iv x2, iv x3, iv x4, iv x5, iv s0, iv s1, .unset, .unset, .unset, .unset, .unset, .unset, .unset, .unset, .unset, .unset, .unset, .unset, .unset] [(.int (s1 + (1 : Int32)))] (fun t k => XS.iadd X0.here hx rfl (hb hby at_20) rfl k) ?_
  refine own_go T0 m 22 #[iv x0, iv x1, iv x2, iv x3, iv x4, iv x5, iv s0, iv s1, .unset, .unset, .unset, .unset, .unset, .unset, .unset, .unset, .unset, .unset, .unset, .unset, .unset] [(.int x2), (.int (s1 + (1 : Int32)))] (fun t k => XS.iloadN X0.here hx rfl (hb hby at_21) rfl k) ?_
  refine own_go T0 m 24 #[iv x0, iv x1, iv x2, iv x3, iv x4, iv x5, iv s0, iv s1, .unset, .unset, .unset, .unset, .unset, .unset, .unset, .unset, .unset, .unset, .unset, .unset, .unset] [(.int 268435455), (.int x2), (.int (s1 + (1 : Int32)))] (X0.ldcInt hx hown (mvT hZ (own_w hw 0 rfl)) (g := (mkF m 22 #[iv x0, iv x1, iv x2, iv x3, iv x4, iv x5, iv s0, iv s1, .unset, .unset, .unset, .unset, .unset, .unset, .unset, .unset, .unset, .unset, .unset, .unset, .unset] [(.int x2), (.int (s1 + (1 : Int32)))])) rfl (hb hby at_22)) ?_
  refine own_go T0 m 25 #[iv x0, iv x1, iv x2, iv x3, iv x4, iv x5, iv s0, iv s1, .unset, .unset, .unset, .unset, .unset, .unset, .unset, .unset, .unset, .unset, .unset, .unset, .unset] [(.int (x2 &&& (268435455 : Int32))), (.int (s1 + (1 : Int32)))] (fun t k => XS.iand X0.here hx rfl (hb hby at_24) rfl k) ?_
  refine own_go T0 m 26 #[iv x0, iv x1, iv x2, iv x3, iv x4, iv x5, iv s0, iv s1, .unset, .unset, .unset, .unset, .unset, .unset, .unset, .unset, .unset, .unset, .unset, .unset, .unset] [(.int ((s1 + (1 : Int32)) + (x2 &&& (268435455 : Int32))))] (fun t k => XS.iadd X0.here hx rfl (hb hby at_25) rfl k) ?_
  refine own_go T0 m 28 #[iv x0, iv x1, iv x2, iv x3, iv x4, iv x5, iv s0, iv s1, iv ((s1 + (1 : Int32)) + (x2 &&& (268435455 : Int32))), .unset, .unset, .unset, .unset, .unset, .unset, .unset, .unset, .unset, .unset, .unset, .unset] [] (fun t k => XS.istore X0.here hx rfl (hb hby at_26) rfl rfl k) ?_
  obtain ⟨s2, hd_s2⟩ : ∃ z, z = ((s1 + (1 : Int32)) + (x2 &&& (268435455 : Int32))) := ⟨_, rfl⟩
  rw [← hd_s2]
  refine own_go T0 m 30 #[iv x0, iv x1, iv x2, iv x3, iv x4, iv x5, iv s0, iv s1, iv s2, .unset, .unset, .unset, .unset, .unset, .unset, .unset, .unset, .unset, .unset, .unset, .unset] [(.int s2)] (fun t k => XS.iload X0.here hx rfl (hb hby at_28) rfl k) ?_
  refine own_go T0 m 31 #[iv x0, iv x1, iv x2, iv x3, iv x4, iv x5, iv s0, iv s1, iv s2, .unset, .unset, .unset, .unset, .unset, .unset, .unset, .unset, .unset, .unset, .unset, .unset] [(.int x3), (.int s2)] (fun t k => XS.iloadN X0.here hx rfl (hb hby at_30) rfl k) ?_
  refine own_go T0 m 33 #[iv x0, iv x1, iv x2, iv x3, iv x4, iv x5, iv s0, iv s1, iv s2, .unset, .unset, .unset, .unset, .unset, .unset, .unset, .unset, .unset, .unset, .unset, .unset] [(.int 268435455), (.int x3), (.int s2)] (X0.ldcInt hx hown (mvT hZ (own_w hw 0 rfl)) (g := (mkF m 31 #[iv x0, iv x1, iv x2, iv x3, iv x4, iv x5, iv s0, iv s1, iv s2, .unset, .unset, .unset, .unset, .unset, .unset, .unset, .unset, .unset, .unset, .unset, .unset] [(.int x3), (.int s2)])) rfl (hb hby at_31)) ?_
  refine own_go T0 m 34 #[iv x0, iv x1, iv x2, iv x3, iv x4, iv x5, iv s0, iv s1, iv s2, .unset, .unset, .unset, .unset, .unset, .unset, .unset, .unset, .unset, .unset, .unset, .unset] [(.int (x3 &&& (268435455 : Int32))), (.int s2)] (fun t k => XS.iand X0.here hx rfl (hb hby at_33) rfl k) ?_
  refine own_go T0 m 35 #[iv x0, iv x1, iv x2, iv x3, iv x4, iv x5, iv s0, iv s1, iv s2, .unset, .unset, .unset, .unset, .unset, .unset, .unset, .unset, .unset, .unset, .unset, .unset] [(.int (s2 + (x3 &&& (268435455 : Int32))))] (fun t k => XS.iadd X0.here hx rfl (hb hby at_34) rfl k) ?_
  refine own_go T0 m 37 #[iv x0, iv x1, iv x2, iv x3, iv x4, iv x5, iv s0, iv s1, iv s2, iv (s2 + (x3 &&& (268435455 : Int32))), .unset, .unset, .unset, .unset, .unset, .unset, .unset, .unset, .unset, .unset, .unset] [] (fun t k => XS.istore X0.here hx rfl (hb hby at_35) rfl rfl k) ?_
  obtain ⟨y2, hd_y2⟩ : ∃ z, z = (s2 + (x3 &&& (268435455 : Int32))) := ⟨_, rfl⟩
  rw [← hd_y2]
  refine own_go T0 m 39 #[iv x0, iv x1, iv x2, iv x3, iv x4, iv x5, iv s0, iv s1, iv s2, iv y2, .unset, .unset, .unset, .unset, .unset, .unset, .unset, .unset, .unset, .unset, .unset] [(.int y2)] (fun t k => XS.iload X0.here hx rfl (hb hby at_37) rfl k) ?_
  refine own_go T0 m 40 #[iv x0, iv x1, iv x2, iv x3, iv x4, iv x5, iv s0, iv s1, iv s2, iv y2, .unset, .unset, .unset, .unset, .unset, .unset, .unset, .unset, .unset, .unset, .unset] [(.int 1), (.int y2)] (fun t k => XS.iconst X0.here hx rfl (hb hby at_39) k) ?_
  refine own_go T0 m 41 #[iv x0, iv x1, iv x2, iv x3, iv x4, iv x5, iv s0, iv s1, iv s2, iv y2, .unset, .unset, .unset, .unset, .unset, .unset, .unset, .unset, .unset, .unset, .unset] [(.int (y2 + (1 : Int32)))] (fun t k => XS.iadd X0.here hx rfl (hb hby at_40) rfl k) ?_
  refine own_go T0 m 43 #[iv x0, iv x1, iv x2, iv x3, iv x4, iv x5, iv s0, iv s1, iv s2, iv y2, .unset, .unset, .unset, .unset, .unset, .unset, .unset, .unset, .unset, .unset, .unset] [(.int x4), (.int (y2 + (1 : Int32)))] (fun t k => XS.iload X0.here hx rfl (hb hby at_41) rfl k) ?_
  refine own_go T0 m 45 #[iv x0, iv x1, iv x2, iv x3, iv x4, iv x5, iv s0, iv s1, iv s2, iv y2, .unset, .unset, .unset, .unset, .unset, .unset, .unset, .unset, .unset, .unset, .unset] [(.int 268435455), (.int x4), (.int (y2 + (1 : Int32)))] (X0.ldcInt hx hown (mvT hZ (own_w hw 0 rfl)) (g := (mkF m 43 #[iv x0, iv x1, iv x2, iv x3, iv x4, iv x5, iv s0, iv s1, iv s2, iv y2, .unset, .unset, .unset, .unset, .unset, .unset, .unset, .unset, .unset, .unset, .unset] [(.int x4), (.int (y2 + (1 : Int32)))])) rfl (hb hby at_43)) ?_
  refine own_go T0 m 46 #[iv x0, iv x1, iv x2, iv x3, iv x4, iv x5, iv s0, iv s1, iv s2, iv y2, .unset, .unset, .unset, .unset, .unset, .unset, .unset, .unset, .unset, .unset, .unset] [(.int (x4 &&& (268435455 : Int32))), (.int (y2 + (1 : Int32)))] (fun t k => XS.iand X0.here hx rfl (hb hby at_45) rfl k) ?_
  refine own_go T0 m 47 #[iv x0, iv x1, iv x2, iv x3, iv x4, iv x5, iv s0, iv s1, iv s2, iv y2, .unset, .unset, .unset, .unset, .unset, .unset, .unset, .unset, .unset, .unset, .unset] [(.int ((y2 + (1 : Int32)) + (x4 &&& (268435455 : Int32))))] (fun t k => XS.iadd X0.here hx rfl (hb hby at_46) rfl k) ?_
  refine own_go T0 m 49 #[iv x0, iv x1, iv x2, iv x3, iv x4, iv x5, iv s0, iv s1, iv s2, iv y2, iv ((y2 + (1 : Int32)) + (x4 &&& (268435455 : Int32))), .unset, .unset, .unset, .unset, .unset, .unset, .unset, .unset, .unset, .unset] [] (fun t k => XS.istore X0.here hx rfl (hb hby at_47) rfl rfl k) ?_
  obtain ⟨y1, hd_y1⟩ : ∃ z, z = ((y2 + (1 : Int32)) + (x4 &&& (268435455 : Int32))) := ⟨_, rfl⟩
  rw [← hd_y1]
  refine own_go T0 m 51 #[iv x0, iv x1, iv x2, iv x3, iv x4, iv x5, iv s0, iv s1, iv s2, iv y2, iv y1, .unset, .unset, .unset, .unset, .unset, .unset, .unset, .unset, .unset, .unset] [(.int y1)] (fun t k => XS.iload X0.here hx rfl (hb hby at_49) rfl k) ?_
  refine own_go T0 m 52 #[iv x0, iv x1, iv x2, iv x3, iv x4, iv x5, iv s0, iv s1, iv s2, iv y2, iv y1, .unset, .unset, .unset, .unset, .unset, .unset, .unset, .unset, .unset, .unset] [(.int 1), (.int y1)] (fun t k => XS.iconst X0.here hx rfl (hb hby at_51) k) ?_
  refine own_go T0 m 53 #[iv x0, iv x1, iv x2, iv x3, iv x4, iv x5, iv s0, iv s1, iv s2, iv y2, iv y1, .unset, .unset, .unset, .unset, .unset, .unset, .unset, .unset, .unset, .unset] [(.int (y1 + (1 : Int32)))] (fun t k => XS.iadd X0.here hx rfl (hb hby at_52) rfl k) ?_
  refine own_go T0 m 55 #[iv x0, iv x1, iv x2, iv x3, iv x4, iv x5, iv s0, iv s1, iv s2, iv y2, iv y1, iv (y1 + (1 : Int32)), .unset, .unset, .unset, .unset, .unset, .unset, .unset, .unset, .unset] [] (fun t k => XS.istore X0.here hx rfl (hb hby at_53) rfl rfl k) ?_
  obtain ⟨en, hd_en⟩ : ∃ z, z = (y1 + (1 : Int32)) := ⟨_, rfl⟩
  rw [← hd_en]
  obtain ⟨o1, o2, o3, o4, o5, o6, o7, o8⟩ := own_ord x0 x1 x2 x3 x4 s0 s1 s2 y2 y1 en hd_s0 hd_s1 hd_s2 hd_y2 hd_y1 hd_en
  obtain ⟨T1, h1, X1, e1, E1, A1, D1, -, st1⟩ := newO X0 hx hZ hown (own_w hw 1 rfl) (own_w hw 2 rfl) (own_w hw 3 rfl) e0 (g := (mkF m 55 #[iv x0, iv x1, iv x2, iv x3, iv x4, iv x5, iv s0, iv s1, iv s2, iv y2, iv y1, iv en, .unset, .unset, .unset, .unset, .unset, .unset, .unset, .unset, .unset] [])) rfl (hb hby at_55) (by decide) (by decide)
  obtain ⟨b1, g1⟩ : ∃ z, z = h0.size := ⟨_, rfl⟩
  rw [← g1] at A1 D1 st1
  have g_b1 : n0 ≤ b1 := Nat.le_trans Z0 (Nat.le_of_eq g1.symm)
  have Z_1 : n0 ≤ h1.size := Nat.le_trans Z0 E1.1
  have F_starts_1 : Fld Z h1 b1 OwnK0 "starts" "[I" .null := D1 (Or.inl (own_w hw 12 rfl)) (ty := (.array .int)) (by decide)
  have F_ends_1 : Fld Z h1 b1 OwnK0 "ends" "[I" .null := D1 (Or.inl (own_w hw 14 rfl)) (ty := (.array .int)) (by decide)
  have F_segmentFirst_1 : Fld Z h1 b1 OwnK0 "segmentFirst" "[I" .null := D1 (Or.inl (own_w hw 16 rfl)) (ty := (.array .int)) (by decide)
  have F_segmentEnd_1 : Fld Z h1 b1 OwnK0 "segmentEnd" "[I" .null := D1 (Or.inl (own_w hw 18 rfl)) (ty := (.array .int)) (by decide)
  have F_segmentLimit_1 : Fld Z h1 b1 OwnK0 "segmentLimit" "[I" .null := D1 (Or.inl (own_w hw 20 rfl)) (ty := (.array .int)) (by decide)
  have F_cursor_1 : Fld Z h1 b1 OwnK0 "cursor" "I" (.int 0) := D1 (Or.inl (own_w hw 22 rfl)) (ty := .int) (by decide)
  have F_segments_1 : Fld Z h1 b1 OwnK0 "segments" "I" (.int 0) := D1 (Or.inl (own_w hw 29 rfl)) (ty := .int) (by decide)
  have F_count_1 : Fld Z h1 b1 OwnK0 "count" "I" (.int 0) := D1 (Or.inl (own_w hw 31 rfl)) (ty := .int) (by decide)
  have F_lastOpened_1 : Fld Z h1 b1 OwnK0 "lastOpened" "I" (.int 0) := D1 (Or.inl (own_w hw 38 rfl)) (ty := .int) (by decide)
  refine own_go T1 m 58 #[iv x0, iv x1, iv x2, iv x3, iv x4, iv x5, iv s0, iv s1, iv s2, iv y2, iv y1, iv en, .unset, .unset, .unset, .unset, .unset, .unset, .unset, .unset, .unset] [(.ref b1)] (st1) ?_
  refine own_go T1 m 59 #[iv x0, iv x1, iv x2, iv x3, iv x4, iv x5, iv s0, iv s1, iv s2, iv y2, iv y1, iv en, .unset, .unset, .unset, .unset, .unset, .unset, .unset, .unset, .unset] [(.ref b1), (.ref b1)] (fun t k => XS.dup X1.here hx rfl (hb hby at_58) rfl rfl k) ?_
  obtain ⟨_, T2, L2, X2, ⟨w0_2, w1_2, w2_2, w3_2, w4_2, kw0_2, kw1_2, kw2_2, kw3_2, kw4_2, rfl, Nq2, Kq2, syw0_2, syw1_2, syw2_2, syw3_2, syw4_2, fq0_2, fq1_2, fq2_2, fq3_2, fq4_2, fq5_2, fq6_2, fq7_2, fq8_2, fq9_2, fq10_2, fq11_2, fq12_2, fq13_2, fq14_2, fq15_2, fq16_2, fq17_2, fq18_2, fq19_2, fq20_2, fq21_2, fq22_2, fq23_2⟩, st2⟩ := own_init X1 hx hZ (y := (⟨OwnK0, "<init>", "()V"⟩ : MethodName)) rfl hown (own_w hw 4 rfl) (own_w hw 5 rfl) (own_w hw 3 rfl) (own_w hw 6 rfl) (by decide) (sp1 l Z a0 hw [] b1 h1 n0 Z_1 A1 F_count_1 F_cursor_1 F_ends_1 F_lastOpened_1 F_segmentEnd_1 F_segmentFirst_1 F_segmentLimit_1 F_segments_1 F_starts_1 g_b1) e1 (a := b1) 1 (argsL := []) (rest := [(.ref b1)]) (Ls := #[iv x0, iv x1, iv x2, iv x3, iv x4, iv x5, iv s0, iv s1, iv s2, iv y2, iv y1, iv en, .unset, .unset, .unset, .unset, .unset, .unset, .unset, .unset, .unset]) (by rw [hml]; rfl) (lenOf pd___V rfl) rfl rfl (Nat.le_of_eq rfl) (hb hby at_59) (by decide) (by decide) (by decide) (by decide)
  have g_w0_2 : n0 ≤ w0_2 := syw0_2.2
  have ne_b1_w0_2 : b1 ≠ w0_2 := Nat.ne_of_lt (Nat.lt_of_lt_of_le A1.lt syw0_2.1)
  have g_w1_2 : n0 ≤ w1_2 := syw1_2.2
  have ne_b1_w1_2 : b1 ≠ w1_2 := Nat.ne_of_lt (Nat.lt_of_lt_of_le A1.lt syw1_2.1)
  have g_w2_2 : n0 ≤ w2_2 := syw2_2.2
  have ne_b1_w2_2 : b1 ≠ w2_2 := Nat.ne_of_lt (Nat.lt_of_lt_of_le A1.lt syw2_2.1)
  have g_w3_2 : n0 ≤ w3_2 := syw3_2.2
  have ne_b1_w3_2 : b1 ≠ w3_2 := Nat.ne_of_lt (Nat.lt_of_lt_of_le A1.lt syw3_2.1)
  have g_w4_2 : n0 ≤ w4_2 := syw4_2.2
  have ne_b1_w4_2 : b1 ≠ w4_2 := Nat.ne_of_lt (Nat.lt_of_lt_of_le A1.lt syw4_2.1)
  have N2 := Fr.app N0 Nq2
  have cf3 := A1.keep Kq2
  have Z_2 : n0 ≤ T2.heap.size := Nat.le_trans Z_1 Kq2.1
  refine own_go T2 m 62 #[iv x0, iv x1, iv x2, iv x3, iv x4, iv x5, iv s0, iv s1, iv s2, iv y2, iv y1, iv en, .unset, .unset, .unset, .unset, .unset, .unset, .unset, .unset, .unset] [(.ref b1)] (st2) ?_
  refine own_go T2 m 64 #[iv x0, iv x1, iv x2, iv x3, iv x4, iv x5, iv s0, iv s1, iv s2, iv y2, iv y1, iv en, rv b1, .unset, .unset, .unset, .unset, .unset, .unset, .unset, .unset] [] (fun t k => XS.astore X2.here hx rfl (hb hby at_62) rfl rfl rfl k) ?_
  refine own_go T2 m 66 #[iv x0, iv x1, iv x2, iv x3, iv x4, iv x5, iv s0, iv s1, iv s2, iv y2, iv y1, iv en, rv b1, .unset, .unset, .unset, .unset, .unset, .unset, .unset, .unset] [(.ref b1)] (fun t k => XS.aload X2.here hx rfl (hb hby at_64) rfl rfl k) ?_
  refine own_go T2 m 68 #[iv x0, iv x1, iv x2, iv x3, iv x4, iv x5, iv s0, iv s1, iv s2, iv y2, iv y1, iv en, rv b1, .unset, .unset, .unset, .unset, .unset, .unset, .unset, .unset] [(.int x5), (.ref b1)] (fun t k => XS.iload X2.here hx rfl (hb hby at_66) rfl k) ?_
  obtain ⟨_, T4, L4, X4, ⟨rfl, Nq4, Kq4, fq0_4, fq1_4, fq2_4, fq3_4, fq4_4, fq5_4, fq6_4, fq7_4, fq8_4, fq9_4, fq10_4⟩, st4⟩ := own_virtual X2 hx hZ (y := (⟨OwnK0, "beginRead", "(I)V"⟩ : MethodName)) (z := (⟨OwnK0, "beginRead", "(I)V"⟩ : MethodName)) hown (own_w hw 23 rfl) (own_w hw 24 rfl) (notFace_of_selects (args := #[]) (mvT hZ (own_w hw 26 rfl))) (own_w hw 26 rfl) (own_w hw 25 rfl) (own_w hw 3 rfl) (own_w hw 27 rfl) (by decide) (sp2 l Z a0 hw [] b1 w0_2 w1_2 w2_2 w3_2 w4_2 x5 kw2_2 kw4_2 T2.heap n0 Z_2 cf3 fq10_2 fq23_2 fq16_2 fq11_2 fq20_2 fq18_2 fq22_2 fq12_2 fq14_2 fq17_2 fq21_2 ne_b1_w0_2 ne_b1_w1_2 ne_b1_w2_2 ne_b1_w3_2 ne_b1_w4_2 fq1_2 fq3_2 fq4_2 fq6_2 fq7_2 fq8_2 fq9_2 g_b1 g_w2_2 g_w4_2) rfl cf3 0 (argsL := [(.int x5)]) (rest := []) (Ls := #[iv x0, iv x1, iv x2, iv x3, iv x4, iv x5, iv s0, iv s1, iv s2, iv y2, iv y1, iv en, rv b1, .unset, .unset, .unset, .unset, .unset, .unset, .unset, .unset]) (by rw [hml]; rfl) (lenOf pd__I_V rfl) rfl rfl (Nat.le_of_eq rfl) (hb hby at_68) (by decide) (by decide) (by decide) (by decide)
  have N4 := Fr.app N2 Nq4
  have cf5 := cf3.keep Kq4
  have cf6 := fq13_2.keep Kq4 (ninS (Ne.symm ne_b1_w0_2) (ninS fq1_2 (ninS fq3_2 nin0)))
  have cf7 := fq15_2.keep Kq4 (ninS (Ne.symm ne_b1_w1_2) (ninS fq4_2 (ninS fq6_2 nin0)))
  have cf8 := fq19_2.keep Kq4 (ninS (Ne.symm ne_b1_w3_2) (ninS (Ne.symm fq7_2) (ninS fq9_2 nin0)))
  have Z_4 : n0 ≤ T4.heap.size := Nat.le_trans Z_2 Kq4.1
  refine own_go T4 m 71 #[iv x0, iv x1, iv x2, iv x3, iv x4, iv x5, iv s0, iv s1, iv s2, iv y2, iv y1, iv en, rv b1, .unset, .unset, .unset, .unset, .unset, .unset, .unset, .unset] [] (st4) ?_
  refine own_go T4 m 73 #[iv x0, iv x1, iv x2, iv x3, iv x4, iv x5, iv s0, iv s1, iv s2, iv y2, iv y1, iv en, rv b1, .unset, .unset, .unset, .unset, .unset, .unset, .unset, .unset] [(.ref b1)] (fun t k => XS.aload X4.here hx rfl (hb hby at_71) rfl rfl k) ?_
  refine own_go T4 m 75 #[iv x0, iv x1, iv x2, iv x3, iv x4, iv x5, iv s0, iv s1, iv s2, iv y2, iv y1, iv en, rv b1, .unset, .unset, .unset, .unset, .unset, .unset, .unset, .unset] [(.int s0), (.ref b1)] (fun t k => XS.iload X4.here hx rfl (hb hby at_73) rfl k) ?_
  obtain ⟨_, T9, L9, X9, ⟨rfl, Nq9, Kq9, fq0_9, fq1_9, fq2_9, fq3_9, fq4_9, fq5_9, fq6_9, fq7_9, fq8_9, fq9_9, fq10_9⟩, st9⟩ := own_virtual X4 hx hZ (y := (⟨OwnK0, "opened", "(I)I"⟩ : MethodName)) (z := (⟨OwnK0, "opened", "(I)I"⟩ : MethodName)) hown (own_w hw 32 rfl) (own_w hw 33 rfl) (notFace_of_selects (args := #[]) (mvT hZ (own_w hw 35 rfl))) (own_w hw 35 rfl) (own_w hw 34 rfl) (own_w hw 3 rfl) (own_w hw 36 rfl) (by decide) (sp3 l Z a0 hw [] b1 w1_2 w3_2 w2_2 w4_2 w0_2 s0 kw1_2 kw0_2 T4.heap n0 Z_4 cf5 fq0_4 fq10_4 fq1_4 fq2_4 fq3_4 fq4_4 fq5_4 fq9_4 fq6_4 cf7 cf6 ne_b1_w1_2 ne_b1_w3_2 ne_b1_w2_2 ne_b1_w4_2 ne_b1_w0_2 fq5_2 fq4_2 fq6_2 (Ne.symm fq0_2) (Ne.symm fq2_2) (Ne.symm fq1_2) (Ne.symm fq3_2) g_b1 g_w1_2 g_w0_2) rfl cf5 0 (argsL := [(.int s0)]) (rest := []) (Ls := #[iv x0, iv x1, iv x2, iv x3, iv x4, iv x5, iv s0, iv s1, iv s2, iv y2, iv y1, iv en, rv b1, .unset, .unset, .unset, .unset, .unset, .unset, .unset, .unset]) (by rw [hml]; rfl) (lenOf pd__I_I rfl) rfl rfl (Nat.le_of_eq rfl) (hb hby at_75) (by decide) (by decide) (by decide) (by decide)
  have N9 := Fr.app N4 Nq9
  have cf10 := cf5.keep Kq9
  have cf11 := cf8.keep Kq9 (ninS (Ne.symm ne_b1_w3_2) (ninS (Ne.symm fq5_2) (ninS (Ne.symm fq2_2) nin0)))
  have cf12 := fq7_4.keep Kq9 (ninS (Ne.symm ne_b1_w2_2) (ninS (Ne.symm fq4_2) (ninS (Ne.symm fq1_2) nin0)))
  have cf13 := fq8_4.keep Kq9 (ninS (Ne.symm ne_b1_w4_2) (ninS (Ne.symm fq6_2) (ninS (Ne.symm fq3_2) nin0)))
  have Z_9 : n0 ≤ T9.heap.size := Nat.le_trans Z_4 Kq9.1
  refine own_go T9 m 78 #[iv x0, iv x1, iv x2, iv x3, iv x4, iv x5, iv s0, iv s1, iv s2, iv y2, iv y1, iv en, rv b1, .unset, .unset, .unset, .unset, .unset, .unset, .unset, .unset] [(.int 0)] (st9) ?_
  refine own_go T9 m 79 #[iv x0, iv x1, iv x2, iv x3, iv x4, iv x5, iv s0, iv s1, iv s2, iv y2, iv y1, iv en, rv b1, .unset, .unset, .unset, .unset, .unset, .unset, .unset, .unset] [] (fun t k => XS.pop X9.here hx rfl (hb hby at_78) rfl rfl k) ?_
  refine own_go T9 m 81 #[iv x0, iv x1, iv x2, iv x3, iv x4, iv x5, iv s0, iv s1, iv s2, iv y2, iv y1, iv en, rv b1, .unset, .unset, .unset, .unset, .unset, .unset, .unset, .unset] [(.ref b1)] (fun t k => XS.aload X9.here hx rfl (hb hby at_79) rfl rfl k) ?_
  refine own_go T9 m 83 #[iv x0, iv x1, iv x2, iv x3, iv x4, iv x5, iv s0, iv s1, iv s2, iv y2, iv y1, iv en, rv b1, .unset, .unset, .unset, .unset, .unset, .unset, .unset, .unset] [(.int s1), (.ref b1)] (fun t k => XS.iload X9.here hx rfl (hb hby at_81) rfl k) ?_
  obtain ⟨_, T14, L14, X14, ⟨rfl, Nq14, Kq14, fq0_14, fq1_14, fq2_14, fq3_14, fq4_14, fq5_14, fq6_14, fq7_14, fq8_14, fq9_14, fq10_14⟩, st14⟩ := own_virtual X9 hx hZ (y := (⟨OwnK0, "opened", "(I)I"⟩ : MethodName)) (z := (⟨OwnK0, "opened", "(I)I"⟩ : MethodName)) hown (own_w hw 32 rfl) (own_w hw 33 rfl) (notFace_of_selects (args := #[]) (mvT hZ (own_w hw 35 rfl))) (own_w hw 35 rfl) (own_w hw 34 rfl) (own_w hw 3 rfl) (own_w hw 36 rfl) (by decide) (sp4 l Z a0 hw [] b1 w1_2 w3_2 w2_2 w4_2 w0_2 s1 s0 kw1_2 kw0_2 T9.heap n0 Z_9 cf10 fq10_9 fq0_9 fq1_9 fq9_9 fq2_9 fq3_9 fq4_9 fq5_9 fq6_9 fq8_9 fq7_9 ne_b1_w1_2 ne_b1_w3_2 ne_b1_w2_2 ne_b1_w4_2 ne_b1_w0_2 fq5_2 fq4_2 fq6_2 (Ne.symm fq0_2) (Ne.symm fq2_2) (Ne.symm fq1_2) (Ne.symm fq3_2) g_b1 g_w1_2 g_w0_2) rfl cf10 0 (argsL := [(.int s1)]) (rest := []) (Ls := #[iv x0, iv x1, iv x2, iv x3, iv x4, iv x5, iv s0, iv s1, iv s2, iv y2, iv y1, iv en, rv b1, .unset, .unset, .unset, .unset, .unset, .unset, .unset, .unset]) (by rw [hml]; rfl) (lenOf pd__I_I rfl) rfl rfl (Nat.le_of_eq rfl) (hb hby at_83) (by decide) (by decide) (by decide) (by decide)
  have N14 := Fr.app N9 Nq14
  have cf15 := cf10.keep Kq14
  have cf16 := cf11.keep Kq14 (ninS (Ne.symm ne_b1_w3_2) (ninS (Ne.symm fq5_2) (ninS (Ne.symm fq2_2) nin0)))
  have cf17 := cf12.keep Kq14 (ninS (Ne.symm ne_b1_w2_2) (ninS (Ne.symm fq4_2) (ninS (Ne.symm fq1_2) nin0)))
  have cf18 := cf13.keep Kq14 (ninS (Ne.symm ne_b1_w4_2) (ninS (Ne.symm fq6_2) (ninS (Ne.symm fq3_2) nin0)))
  have Z_14 : n0 ≤ T14.heap.size := Nat.le_trans Z_9 Kq14.1
  refine own_go T14 m 86 #[iv x0, iv x1, iv x2, iv x3, iv x4, iv x5, iv s0, iv s1, iv s2, iv y2, iv y1, iv en, rv b1, .unset, .unset, .unset, .unset, .unset, .unset, .unset, .unset] [(.int 1)] (st14) ?_
  refine own_go T14 m 88 #[iv x0, iv x1, iv x2, iv x3, iv x4, iv x5, iv s0, iv s1, iv s2, iv y2, iv y1, iv en, rv b1, iv 1, .unset, .unset, .unset, .unset, .unset, .unset, .unset] [] (fun t k => XS.istore X14.here hx rfl (hb hby at_86) rfl rfl k) ?_
  refine own_go T14 m 90 #[iv x0, iv x1, iv x2, iv x3, iv x4, iv x5, iv s0, iv s1, iv s2, iv y2, iv y1, iv en, rv b1, iv 1, .unset, .unset, .unset, .unset, .unset, .unset, .unset] [(.ref b1)] (fun t k => XS.aload X14.here hx rfl (hb hby at_88) rfl rfl k) ?_
  refine own_go T14 m 92 #[iv x0, iv x1, iv x2, iv x3, iv x4, iv x5, iv s0, iv s1, iv s2, iv y2, iv y1, iv en, rv b1, iv 1, .unset, .unset, .unset, .unset, .unset, .unset, .unset] [(.int s2), (.ref b1)] (fun t k => XS.iload X14.here hx rfl (hb hby at_90) rfl k) ?_
  obtain ⟨_, T19, L19, X19, ⟨rfl, Nq19, Kq19, fq0_19, fq1_19, fq2_19, fq3_19, fq4_19, fq5_19, fq6_19, fq7_19, fq8_19, fq9_19, fq10_19⟩, st19⟩ := own_virtual X14 hx hZ (y := (⟨OwnK0, "opened", "(I)I"⟩ : MethodName)) (z := (⟨OwnK0, "opened", "(I)I"⟩ : MethodName)) hown (own_w hw 32 rfl) (own_w hw 33 rfl) (notFace_of_selects (args := #[]) (mvT hZ (own_w hw 35 rfl))) (own_w hw 35 rfl) (own_w hw 34 rfl) (own_w hw 3 rfl) (own_w hw 36 rfl) (by decide) (sp5 l Z a0 hw [] b1 w1_2 w3_2 w2_2 w4_2 w0_2 s2 s0 s1 kw1_2 kw0_2 T14.heap n0 Z_14 cf15 fq10_14 fq0_14 fq1_14 fq9_14 fq2_14 fq3_14 fq4_14 fq5_14 fq6_14 fq8_14 fq7_14 ne_b1_w1_2 ne_b1_w3_2 ne_b1_w2_2 ne_b1_w4_2 ne_b1_w0_2 fq5_2 fq4_2 fq6_2 (Ne.symm fq0_2) (Ne.symm fq2_2) (Ne.symm fq1_2) (Ne.symm fq3_2) g_b1 g_w1_2 g_w0_2) rfl cf15 0 (argsL := [(.int s2)]) (rest := []) (Ls := #[iv x0, iv x1, iv x2, iv x3, iv x4, iv x5, iv s0, iv s1, iv s2, iv y2, iv y1, iv en, rv b1, iv 1, .unset, .unset, .unset, .unset, .unset, .unset, .unset]) (by rw [hml]; rfl) (lenOf pd__I_I rfl) rfl rfl (Nat.le_of_eq rfl) (hb hby at_92) (by decide) (by decide) (by decide) (by decide)
  have N19 := Fr.app N14 Nq19
  have cf20 := cf15.keep Kq19
  have cf21 := cf16.keep Kq19 (ninS (Ne.symm ne_b1_w3_2) (ninS (Ne.symm fq5_2) (ninS (Ne.symm fq2_2) nin0)))
  have cf22 := cf17.keep Kq19 (ninS (Ne.symm ne_b1_w2_2) (ninS (Ne.symm fq4_2) (ninS (Ne.symm fq1_2) nin0)))
  have cf23 := cf18.keep Kq19 (ninS (Ne.symm ne_b1_w4_2) (ninS (Ne.symm fq6_2) (ninS (Ne.symm fq3_2) nin0)))
  have Z_19 : n0 ≤ T19.heap.size := Nat.le_trans Z_14 Kq19.1
  refine own_go T19 m 95 #[iv x0, iv x1, iv x2, iv x3, iv x4, iv x5, iv s0, iv s1, iv s2, iv y2, iv y1, iv en, rv b1, iv 1, .unset, .unset, .unset, .unset, .unset, .unset, .unset] [(.int 2)] (st19) ?_
  refine own_go T19 m 97 #[iv x0, iv x1, iv x2, iv x3, iv x4, iv x5, iv s0, iv s1, iv s2, iv y2, iv y1, iv en, rv b1, iv 1, iv 2, .unset, .unset, .unset, .unset, .unset, .unset] [] (fun t k => XS.istore X19.here hx rfl (hb hby at_95) rfl rfl k) ?_
  refine own_go T19 m 99 #[iv x0, iv x1, iv x2, iv x3, iv x4, iv x5, iv s0, iv s1, iv s2, iv y2, iv y1, iv en, rv b1, iv 1, iv 2, .unset, .unset, .unset, .unset, .unset, .unset] [(.ref b1)] (fun t k => XS.aload X19.here hx rfl (hb hby at_97) rfl rfl k) ?_
  refine own_go T19 m 101 #[iv x0, iv x1, iv x2, iv x3, iv x4, iv x5, iv s0, iv s1, iv s2, iv y2, iv y1, iv en, rv b1, iv 1, iv 2, .unset, .unset, .unset, .unset, .unset, .unset] [(.int 2), (.ref b1)] (fun t k => XS.iload X19.here hx rfl (hb hby at_99) rfl k) ?_
  refine own_go T19 m 103 #[iv x0, iv x1, iv x2, iv x3, iv x4, iv x5, iv s0, iv s1, iv s2, iv y2, iv y1, iv en, rv b1, iv 1, iv 2, .unset, .unset, .unset, .unset, .unset, .unset] [(.int y2), (.int 2), (.ref b1)] (fun t k => XS.iload X19.here hx rfl (hb hby at_101) rfl k) ?_
  by_cases hc103_25 : (y2 - s2) < (64 : Int32)
  · by_cases hc103_27 : (s2 - s0) < (64 : Int32)
    · obtain ⟨_, T28, L28, X28, ⟨rfl, Nq28, Kq28, fq0_28, fq1_28, fq2_28, fq3_28, fq4_28, fq5_28, fq6_28, fq7_28, fq8_28⟩, st28⟩ := own_virtual X19 hx hZ (y := (⟨OwnK0, "closed", "(II)V"⟩ : MethodName)) (z := (⟨OwnK0, "closed", "(II)V"⟩ : MethodName)) hown (own_w hw 39 rfl) (own_w hw 40 rfl) (notFace_of_selects (args := #[]) (mvT hZ (own_w hw 42 rfl))) (own_w hw 42 rfl) (own_w hw 41 rfl) (own_w hw 3 rfl) (own_w hw 43 rfl) (by decide) (sp6 l Z a0 hw [] b1 w1_2 w3_2 w2_2 w4_2 w0_2 y2 s0 s1 s2 kw2_2 kw0_2 T19.heap n0 Z_19 cf20 fq10_19 fq0_19 fq1_19 fq9_19 fq2_19 fq3_19 fq4_19 fq5_19 fq6_19 cf22 fq7_19 ne_b1_w1_2 ne_b1_w3_2 ne_b1_w2_2 ne_b1_w4_2 ne_b1_w0_2 g_b1 hc103_25 hc103_27) rfl cf20 0 (argsL := [(.int 2), (.int y2)]) (rest := []) (Ls := #[iv x0, iv x1, iv x2, iv x3, iv x4, iv x5, iv s0, iv s1, iv s2, iv y2, iv y1, iv en, rv b1, iv 1, iv 2, .unset, .unset, .unset, .unset, .unset, .unset]) (by rw [hml]; rfl) (lenOf pd__II_V rfl) rfl rfl (Nat.le_of_eq rfl) (hb hby at_103) (by decide) (by decide) (by decide) (by decide)
      have N28 := Fr.app N19 Nq28
      have cf29 := cf20.keep Kq28
      have cf30 := cf21.keep Kq28 (ninS (Ne.symm ne_b1_w3_2) nin0)
      have cf31 := cf22.keep Kq28 (ninS (Ne.symm ne_b1_w2_2) nin0)
      have cf32 := cf23.keep Kq28 (ninS (Ne.symm ne_b1_w4_2) nin0)
      have cf33 := fq7_19.keep Kq28 (ninS (Ne.symm ne_b1_w0_2) nin0)
      have cf34 := fq8_19.keep Kq28 (ninS (Ne.symm ne_b1_w1_2) nin0)
      have Z_28 : n0 ≤ T28.heap.size := Nat.le_trans Z_19 Kq28.1
      refine own_go T28 m 106 #[iv x0, iv x1, iv x2, iv x3, iv x4, iv x5, iv s0, iv s1, iv s2, iv y2, iv y1, iv en, rv b1, iv 1, iv 2, .unset, .unset, .unset, .unset, .unset, .unset] [] (st28) ?_
      refine own_go T28 m 108 #[iv x0, iv x1, iv x2, iv x3, iv x4, iv x5, iv s0, iv s1, iv s2, iv y2, iv y1, iv en, rv b1, iv 1, iv 2, .unset, .unset, .unset, .unset, .unset, .unset] [(.ref b1)] (fun t k => XS.aload X28.here hx rfl (hb hby at_106) rfl rfl k) ?_
      refine own_go T28 m 110 #[iv x0, iv x1, iv x2, iv x3, iv x4, iv x5, iv s0, iv s1, iv s2, iv y2, iv y1, iv en, rv b1, iv 1, iv 2, .unset, .unset, .unset, .unset, .unset, .unset] [(.int 1), (.ref b1)] (fun t k => XS.iload X28.here hx rfl (hb hby at_108) rfl k) ?_
      refine own_go T28 m 112 #[iv x0, iv x1, iv x2, iv x3, iv x4, iv x5, iv s0, iv s1, iv s2, iv y2, iv y1, iv en, rv b1, iv 1, iv 2, .unset, .unset, .unset, .unset, .unset, .unset] [(.int y1), (.int 1), (.ref b1)] (fun t k => XS.iload X28.here hx rfl (hb hby at_110) rfl k) ?_
      by_cases hc112_36 : (y1 - s1) < (64 : Int32)
      · obtain ⟨_, T37, L37, X37, ⟨rfl, Nq37, Kq37, fq0_37⟩, st37⟩ := own_virtual X28 hx hZ (y := (⟨OwnK0, "closed", "(II)V"⟩ : MethodName)) (z := (⟨OwnK0, "closed", "(II)V"⟩ : MethodName)) hown (own_w hw 39 rfl) (own_w hw 40 rfl) (notFace_of_selects (args := #[]) (mvT hZ (own_w hw 42 rfl))) (own_w hw 42 rfl) (own_w hw 41 rfl) (own_w hw 3 rfl) (own_w hw 43 rfl) (by decide) (sp7 l Z a0 hw [] b1 w1_2 w2_2 w0_2 y1 s0 s1 s2 kw1_2 kw2_2 kw0_2 T28.heap n0 Z_28 fq1_28 fq2_28 fq4_28 fq6_28 fq7_28 cf34 cf31 cf33 ne_b1_w1_2 fq4_2 (Ne.symm fq0_2) g_w1_2 hc112_36 (own_db1 s0 s1 s2 y2 y1 en (y2 - s2) (y1 - s1) (s1 - s0) (s2 - s0) o1 o2 o3 o4 o5 o6 o7 o8 hc103_25 hc103_27 hc112_36)) rfl cf29 0 (argsL := [(.int 1), (.int y1)]) (rest := []) (Ls := #[iv x0, iv x1, iv x2, iv x3, iv x4, iv x5, iv s0, iv s1, iv s2, iv y2, iv y1, iv en, rv b1, iv 1, iv 2, .unset, .unset, .unset, .unset, .unset, .unset]) (by rw [hml]; rfl) (lenOf pd__II_V rfl) rfl rfl (Nat.le_of_eq rfl) (hb hby at_112) (by decide) (by decide) (by decide) (by decide)
        have N37 := Fr.app N28 Nq37
        have cf38 := cf29.keep Kq37
        have cf39 := cf30.keep Kq37 (ninS (Ne.symm fq5_2) nin0)
        have cf40 := cf31.keep Kq37 (ninS (Ne.symm fq4_2) nin0)
        have cf41 := cf32.keep Kq37 (ninS (Ne.symm fq6_2) nin0)
        have cf42 := cf33.keep Kq37 (ninS fq0_2 nin0)
        have cf43 := fq0_28.keep Kq37 (ninS ne_b1_w1_2 nin0)
        have cf44 := fq1_28.keep Kq37 (ninS ne_b1_w1_2 nin0)
        have cf45 := fq2_28.keep Kq37 (ninS ne_b1_w1_2 nin0)
        have cf46 := fq3_28.keep Kq37 (ninS ne_b1_w1_2 nin0)
        have cf47 := fq4_28.keep Kq37 (ninS ne_b1_w1_2 nin0)
        have cf48 := fq5_28.keep Kq37 (ninS ne_b1_w1_2 nin0)
        have cf49 := fq6_28.keep Kq37 (ninS ne_b1_w1_2 nin0)
        have cf50 := fq7_28.keep Kq37 (ninS ne_b1_w1_2 nin0)
        have cf51 := fq8_28.keep Kq37 (ninS ne_b1_w1_2 nin0)
        have Z_37 : n0 ≤ T37.heap.size := Nat.le_trans Z_28 Kq37.1
        refine own_go T37 m 115 #[iv x0, iv x1, iv x2, iv x3, iv x4, iv x5, iv s0, iv s1, iv s2, iv y2, iv y1, iv en, rv b1, iv 1, iv 2, .unset, .unset, .unset, .unset, .unset, .unset] [] (st37) ?_
        refine own_go T37 m 117 #[iv x0, iv x1, iv x2, iv x3, iv x4, iv x5, iv s0, iv s1, iv s2, iv y2, iv y1, iv en, rv b1, iv 1, iv 2, .unset, .unset, .unset, .unset, .unset, .unset] [(.ref b1)] (fun t k => XS.aload X37.here hx rfl (hb hby at_115) rfl rfl k) ?_
        refine own_go T37 m 119 #[iv x0, iv x1, iv x2, iv x3, iv x4, iv x5, iv s0, iv s1, iv s2, iv y2, iv y1, iv en, rv b1, iv 1, iv 2, .unset, .unset, .unset, .unset, .unset, .unset] [(.int en), (.ref b1)] (fun t k => XS.iload X37.here hx rfl (hb hby at_117) rfl k) ?_
        obtain ⟨_, T52, L52, X52, ⟨rfl, Nq52, Kq52, fq0_52⟩, st52⟩ := own_virtual X37 hx hZ (y := (⟨OwnK0, "endRead", "(I)V"⟩ : MethodName)) (z := (⟨OwnK0, "endRead", "(I)V"⟩ : MethodName)) hown (own_w hw 44 rfl) (own_w hw 45 rfl) (notFace_of_selects (args := #[]) (mvT hZ (own_w hw 47 rfl))) (own_w hw 47 rfl) (own_w hw 46 rfl) (own_w hw 3 rfl) (own_w hw 48 rfl) (by decide) (sp8 l Z a0 hw [] b1 w3_2 w2_2 en kw3_2 kw2_2 T37.heap n0 Z_37 cf51 cf46 cf47 cf49 cf39 cf40 ne_b1_w3_2 (Ne.symm fq7_2) g_w3_2) rfl cf38 0 (argsL := [(.int en)]) (rest := []) (Ls := #[iv x0, iv x1, iv x2, iv x3, iv x4, iv x5, iv s0, iv s1, iv s2, iv y2, iv y1, iv en, rv b1, iv 1, iv 2, .unset, .unset, .unset, .unset, .unset, .unset]) (by rw [hml]; rfl) (lenOf pd__I_V rfl) rfl rfl (Nat.le_of_eq rfl) (hb hby at_119) (by decide) (by decide) (by decide) (by decide)
        have N52 := Fr.app N37 Nq52
        have cf53 := cf38.keep Kq52
        have cf54 := cf40.keep Kq52 (ninS fq7_2 nin0)
        have cf55 := cf41.keep Kq52 (ninS (Ne.symm fq9_2) nin0)
        have cf56 := cf42.keep Kq52 (ninS fq2_2 nin0)
        have cf57 := cf43.keep Kq52 (ninS ne_b1_w3_2 nin0)
        have cf58 := cf44.keep Kq52 (ninS ne_b1_w3_2 nin0)
        have cf59 := cf45.keep Kq52 (ninS ne_b1_w3_2 nin0)
        have cf60 := cf46.keep Kq52 (ninS ne_b1_w3_2 nin0)
        have cf61 := cf47.keep Kq52 (ninS ne_b1_w3_2 nin0)
        have cf62 := cf48.keep Kq52 (ninS ne_b1_w3_2 nin0)
        have cf63 := cf49.keep Kq52 (ninS ne_b1_w3_2 nin0)
        have cf64 := cf50.keep Kq52 (ninS ne_b1_w3_2 nin0)
        have cf65 := cf51.keep Kq52 (ninS ne_b1_w3_2 nin0)
        have cf66 := fq0_37.keep Kq52 (ninS fq5_2 nin0)
        have Z_52 : n0 ≤ T52.heap.size := Nat.le_trans Z_37 Kq52.1
        refine own_go T52 m 122 #[iv x0, iv x1, iv x2, iv x3, iv x4, iv x5, iv s0, iv s1, iv s2, iv y2, iv y1, iv en, rv b1, iv 1, iv 2, .unset, .unset, .unset, .unset, .unset, .unset] [] (st52) ?_
        refine own_go T52 m 124 #[iv x0, iv x1, iv x2, iv x3, iv x4, iv x5, iv s0, iv s1, iv s2, iv y2, iv y1, iv en, rv b1, iv 1, iv 2, .unset, .unset, .unset, .unset, .unset, .unset] [(.ref b1)] (fun t k => XS.aload X52.here hx rfl (hb hby at_122) rfl rfl k) ?_
        refine own_go T52 m 126 #[iv x0, iv x1, iv x2, iv x3, iv x4, iv x5, iv s0, iv s1, iv s2, iv y2, iv y1, iv en, rv b1, iv 1, iv 2, .unset, .unset, .unset, .unset, .unset, .unset] [(.int s1), (.ref b1)] (fun t k => XS.iload X52.here hx rfl (hb hby at_124) rfl k) ?_
        refine own_go T52 m 128 #[iv x0, iv x1, iv x2, iv x3, iv x4, iv x5, iv s0, iv s1, iv s2, iv y2, iv y1, iv en, rv b1, iv 1, iv 2, .unset, .unset, .unset, .unset, .unset, .unset] [(.int x5), (.int s1), (.ref b1)] (fun t k => XS.iload X52.here hx rfl (hb hby at_126) rfl k) ?_
        obtain ⟨_, T67, L67, X67, ⟨rfl, Nq67, Kq67, fq0_67, fq1_67, fq2_67, fq3_67, fq4_67, fq5_67, fq6_67, fq7_67, fq8_67⟩, st67⟩ := own_virtual X52 hx hZ (y := (⟨OwnK0, "find", "(II)I"⟩ : MethodName)) (z := (⟨OwnK0, "find", "(II)I"⟩ : MethodName)) hown (own_w hw 49 rfl) (own_w hw 50 rfl) (notFace_of_selects (args := #[]) (mvT hZ (own_w hw 52 rfl))) (own_w hw 52 rfl) (own_w hw 51 rfl) (own_w hw 3 rfl) (own_w hw 53 rfl) (by decide) (sp9 l Z a0 hw [] b1 w1_2 w3_2 w2_2 w4_2 w0_2 s1 x5 y1 en s0 s2 kw1_2 kw3_2 kw2_2 kw0_2 T52.heap n0 Z_52 cf53 cf65 cf57 cf58 cf59 cf60 cf61 cf62 cf63 cf64 cf66 fq0_52 cf54 cf56 ne_b1_w1_2 ne_b1_w3_2 ne_b1_w2_2 ne_b1_w4_2 ne_b1_w0_2 g_b1 (own_db3 s0 s1 s2 y2 y1 en (y2 - s2) (y1 - s1) (s1 - s0) (s2 - s0) o1 o2 o3 o4 o5 o6 o7 o8 hc103_25 hc103_27 hc112_36) (own_db4 s0 s1 s2 y2 y1 en (y2 - s2) (y1 - s1) (s1 - s0) (s2 - s0) o1 o2 o3 o4 o5 o6 o7 o8 hc103_25 hc103_27 hc112_36) o2 (own_db5 s0 s1 s2 y2 y1 en (y2 - s2) (y1 - s1) (s1 - s0) (s2 - s0) o1 o2 o3 o4 o5 o6 o7 o8 hc103_25 hc103_27 hc112_36) (own_db6 s0 s1 s2 y2 y1 en (y2 - s2) (y1 - s1) (s1 - s0) (s2 - s0) o1 o2 o3 o4 o5 o6 o7 o8 hc103_25 hc103_27 hc112_36)) rfl cf53 0 (argsL := [(.int s1), (.int x5)]) (rest := []) (Ls := #[iv x0, iv x1, iv x2, iv x3, iv x4, iv x5, iv s0, iv s1, iv s2, iv y2, iv y1, iv en, rv b1, iv 1, iv 2, .unset, .unset, .unset, .unset, .unset, .unset]) (by rw [hml]; rfl) (lenOf pd__II_I rfl) rfl rfl (Nat.le_of_eq rfl) (hb hby at_128) (by decide) (by decide) (by decide) (by decide)
        have N67 := Fr.app N52 Nq67
        have cf68 := cf53.keep Kq67
        have cf69 := cf54.keep Kq67 (ninS (Ne.symm ne_b1_w2_2) nin0)
        have cf70 := cf55.keep Kq67 (ninS (Ne.symm ne_b1_w4_2) nin0)
        have cf71 := cf56.keep Kq67 (ninS (Ne.symm ne_b1_w0_2) nin0)
        have cf72 := cf66.keep Kq67 (ninS (Ne.symm ne_b1_w1_2) nin0)
        have cf73 := fq0_52.keep Kq67 (ninS (Ne.symm ne_b1_w3_2) nin0)
        have Z_67 : n0 ≤ T67.heap.size := Nat.le_trans Z_52 Kq67.1
        refine own_go T67 m 131 #[iv x0, iv x1, iv x2, iv x3, iv x4, iv x5, iv s0, iv s1, iv s2, iv y2, iv y1, iv en, rv b1, iv 1, iv 2, .unset, .unset, .unset, .unset, .unset, .unset] [(.int y1)] (st67) ?_
        refine own_go T67 m 133 #[iv x0, iv x1, iv x2, iv x3, iv x4, iv x5, iv s0, iv s1, iv s2, iv y2, iv y1, iv en, rv b1, iv 1, iv 2, iv y1, .unset, .unset, .unset, .unset, .unset] [] (fun t k => XS.istore X67.here hx rfl (hb hby at_131) rfl rfl k) ?_
        refine own_go T67 m 135 #[iv x0, iv x1, iv x2, iv x3, iv x4, iv x5, iv s0, iv s1, iv s2, iv y2, iv y1, iv en, rv b1, iv 1, iv 2, iv y1, .unset, .unset, .unset, .unset, .unset] [(.ref b1)] (fun t k => XS.aload X67.here hx rfl (hb hby at_133) rfl rfl k) ?_
        refine own_go T67 m 137 #[iv x0, iv x1, iv x2, iv x3, iv x4, iv x5, iv s0, iv s1, iv s2, iv y2, iv y1, iv en, rv b1, iv 1, iv 2, iv y1, .unset, .unset, .unset, .unset, .unset] [(.int s2), (.ref b1)] (fun t k => XS.iload X67.here hx rfl (hb hby at_135) rfl k) ?_
        refine own_go T67 m 139 #[iv x0, iv x1, iv x2, iv x3, iv x4, iv x5, iv s0, iv s1, iv s2, iv y2, iv y1, iv en, rv b1, iv 1, iv 2, iv y1, .unset, .unset, .unset, .unset, .unset] [(.int x5), (.int s2), (.ref b1)] (fun t k => XS.iload X67.here hx rfl (hb hby at_137) rfl k) ?_
        obtain ⟨_, T74, L74, X74, ⟨rfl, Nq74, Kq74, fq0_74, fq1_74, fq2_74, fq3_74, fq4_74, fq5_74, fq6_74, fq7_74, fq8_74⟩, st74⟩ := own_virtual X67 hx hZ (y := (⟨OwnK0, "find", "(II)I"⟩ : MethodName)) (z := (⟨OwnK0, "find", "(II)I"⟩ : MethodName)) hown (own_w hw 49 rfl) (own_w hw 50 rfl) (notFace_of_selects (args := #[]) (mvT hZ (own_w hw 52 rfl))) (own_w hw 52 rfl) (own_w hw 51 rfl) (own_w hw 3 rfl) (own_w hw 53 rfl) (by decide) (sp15 l Z a0 hw [] b1 w1_2 w3_2 w2_2 w4_2 w0_2 s2 x5 en s0 s1 kw3_2 kw2_2 kw0_2 T67.heap n0 Z_67 cf68 fq0_67 fq8_67 fq1_67 fq2_67 fq3_67 fq4_67 fq5_67 fq6_67 fq7_67 cf73 cf69 cf71 ne_b1_w1_2 ne_b1_w3_2 ne_b1_w2_2 ne_b1_w4_2 ne_b1_w0_2 g_b1 (own_db11 s0 s1 s2 y2 y1 en (y2 - s2) (y1 - s1) (s1 - s0) (s2 - s0) o1 o2 o3 o4 o5 o6 o7 o8 hc103_25 hc103_27 hc112_36) (own_db12 s0 s1 s2 y2 y1 en (y2 - s2) (y1 - s1) (s1 - s0) (s2 - s0) o1 o2 o3 o4 o5 o6 o7 o8 hc103_25 hc103_27 hc112_36) (own_db13 s0 s1 s2 y2 y1 en (y2 - s2) (y1 - s1) (s1 - s0) (s2 - s0) o1 o2 o3 o4 o5 o6 o7 o8 hc103_25 hc103_27 hc112_36) o3) rfl cf68 0 (argsL := [(.int s2), (.int x5)]) (rest := []) (Ls := #[iv x0, iv x1, iv x2, iv x3, iv x4, iv x5, iv s0, iv s1, iv s2, iv y2, iv y1, iv en, rv b1, iv 1, iv 2, iv y1, .unset, .unset, .unset, .unset, .unset]) (by rw [hml]; rfl) (lenOf pd__II_I rfl) rfl rfl (Nat.le_of_eq rfl) (hb hby at_139) (by decide) (by decide) (by decide) (by decide)
        have N74 := Fr.app N67 Nq74
        have cf75 := cf68.keep Kq74
        have cf76 := cf69.keep Kq74 (ninS (Ne.symm ne_b1_w2_2) nin0)
        have cf77 := cf70.keep Kq74 (ninS (Ne.symm ne_b1_w4_2) nin0)
        have cf78 := cf71.keep Kq74 (ninS (Ne.symm ne_b1_w0_2) nin0)
        have cf79 := cf72.keep Kq74 (ninS (Ne.symm ne_b1_w1_2) nin0)
        have cf80 := cf73.keep Kq74 (ninS (Ne.symm ne_b1_w3_2) nin0)
        have Z_74 : n0 ≤ T74.heap.size := Nat.le_trans Z_67 Kq74.1
        refine own_go T74 m 142 #[iv x0, iv x1, iv x2, iv x3, iv x4, iv x5, iv s0, iv s1, iv s2, iv y2, iv y1, iv en, rv b1, iv 1, iv 2, iv y1, .unset, .unset, .unset, .unset, .unset] [(.int (-1))] (st74) ?_
        refine own_go T74 m 144 #[iv x0, iv x1, iv x2, iv x3, iv x4, iv x5, iv s0, iv s1, iv s2, iv y2, iv y1, iv en, rv b1, iv 1, iv 2, iv y1, iv (-1), .unset, .unset, .unset, .unset] [] (fun t k => XS.istore X74.here hx rfl (hb hby at_142) rfl rfl k) ?_
        refine own_go T74 m 146 #[iv x0, iv x1, iv x2, iv x3, iv x4, iv x5, iv s0, iv s1, iv s2, iv y2, iv y1, iv en, rv b1, iv 1, iv 2, iv y1, iv (-1), .unset, .unset, .unset, .unset] [(.int y2)] (fun t k => XS.iload X74.here hx rfl (hb hby at_144) rfl k) ?_
        refine own_go T74 m 148 #[iv x0, iv x1, iv x2, iv x3, iv x4, iv x5, iv s0, iv s1, iv s2, iv y2, iv y1, iv en, rv b1, iv 1, iv 2, iv y1, iv (-1), .unset, .unset, .unset, .unset] [(.int s2), (.int y2)] (fun t k => XS.iload X74.here hx rfl (hb hby at_146) rfl k) ?_
        refine own_go T74 m 149 #[iv x0, iv x1, iv x2, iv x3, iv x4, iv x5, iv s0, iv s1, iv s2, iv y2, iv y1, iv en, rv b1, iv 1, iv 2, iv y1, iv (-1), .unset, .unset, .unset, .unset] [(.int (y2 - s2))] (fun t k => XS.isub X74.here hx rfl (hb hby at_148) rfl k) ?_
        refine own_go T74 m 151 #[iv x0, iv x1, iv x2, iv x3, iv x4, iv x5, iv s0, iv s1, iv s2, iv y2, iv y1, iv en, rv b1, iv 1, iv 2, iv y1, iv (-1), .unset, .unset, .unset, .unset] [(.int 64), (.int (y2 - s2))] (fun t k => XS.bipush X74.here hx rfl (hb hby at_149) k) ?_
        refine own_go T74 m 158 #[iv x0, iv x1, iv x2, iv x3, iv x4, iv x5, iv s0, iv s1, iv s2, iv y2, iv y1, iv en, rv b1, iv 1, iv 2, iv y1, iv (-1), .unset, .unset, .unset, .unset] [] (fun t k => XS.icmpYes X74.here hx rfl (pc0 := 151) (pc' := 158) rfl (hb hby at_151) rfl (tlt hc103_25).1 (by decide) (by decide) k) ?_
        refine own_go T74 m 159 #[iv x0, iv x1, iv x2, iv x3, iv x4, iv x5, iv s0, iv s1, iv s2, iv y2, iv y1, iv en, rv b1, iv 1, iv 2, iv y1, iv (-1), .unset, .unset, .unset, .unset] [(.int 0)] (fun t k => XS.iconst X74.here hx rfl (hb hby at_158) k) ?_
        refine own_go T74 m 161 #[iv x0, iv x1, iv x2, iv x3, iv x4, iv x5, iv s0, iv s1, iv s2, iv y2, iv y1, iv en, rv b1, iv 1, iv 2, iv y1, iv (-1), iv 0, .unset, .unset, .unset] [] (fun t k => XS.istore X74.here hx rfl (hb hby at_159) rfl rfl k) ?_
        refine own_go T74 m 163 #[iv x0, iv x1, iv x2, iv x3, iv x4, iv x5, iv s0, iv s1, iv s2, iv y2, iv y1, iv en, rv b1, iv 1, iv 2, iv y1, iv (-1), iv 0, .unset, .unset, .unset] [(.int y1)] (fun t k => XS.iload X74.here hx rfl (hb hby at_161) rfl k) ?_
        refine own_go T74 m 165 #[iv x0, iv x1, iv x2, iv x3, iv x4, iv x5, iv s0, iv s1, iv s2, iv y2, iv y1, iv en, rv b1, iv 1, iv 2, iv y1, iv (-1), iv 0, .unset, .unset, .unset] [(.int s1), (.int y1)] (fun t k => XS.iload X74.here hx rfl (hb hby at_163) rfl k) ?_
        refine own_go T74 m 166 #[iv x0, iv x1, iv x2, iv x3, iv x4, iv x5, iv s0, iv s1, iv s2, iv y2, iv y1, iv en, rv b1, iv 1, iv 2, iv y1, iv (-1), iv 0, .unset, .unset, .unset] [(.int (y1 - s1))] (fun t k => XS.isub X74.here hx rfl (hb hby at_165) rfl k) ?_
        refine own_go T74 m 168 #[iv x0, iv x1, iv x2, iv x3, iv x4, iv x5, iv s0, iv s1, iv s2, iv y2, iv y1, iv en, rv b1, iv 1, iv 2, iv y1, iv (-1), iv 0, .unset, .unset, .unset] [(.int 64), (.int (y1 - s1))] (fun t k => XS.bipush X74.here hx rfl (hb hby at_166) k) ?_
        refine own_go T74 m 171 #[iv x0, iv x1, iv x2, iv x3, iv x4, iv x5, iv s0, iv s1, iv s2, iv y2, iv y1, iv en, rv b1, iv 1, iv 2, iv y1, iv (-1), iv 0, .unset, .unset, .unset] [] (fun t k => XS.icmpNo X74.here hx rfl (hb hby at_168) rfl (tlt hc112_36).2.1 k) ?_
        refine own_go T74 m 173 #[iv x0, iv x1, iv x2, iv x3, iv x4, iv x5, iv s0, iv s1, iv s2, iv y2, iv y1, iv en, rv b1, iv 1, iv 2, iv y1, iv (-1), iv 0, .unset, .unset, .unset] [(.int s1)] (fun t k => XS.iload X74.here hx rfl (hb hby at_171) rfl k) ?_
        refine own_go T74 m 175 #[iv x0, iv x1, iv x2, iv x3, iv x4, iv x5, iv s0, iv s1, iv s2, iv y2, iv y1, iv en, rv b1, iv 1, iv 2, iv y1, iv (-1), iv 0, .unset, .unset, .unset] [(.int s0), (.int s1)] (fun t k => XS.iload X74.here hx rfl (hb hby at_173) rfl k) ?_
        refine own_go T74 m 176 #[iv x0, iv x1, iv x2, iv x3, iv x4, iv x5, iv s0, iv s1, iv s2, iv y2, iv y1, iv en, rv b1, iv 1, iv 2, iv y1, iv (-1), iv 0, .unset, .unset, .unset] [(.int (s1 - s0))] (fun t k => XS.isub X74.here hx rfl (hb hby at_175) rfl k) ?_
        refine own_go T74 m 178 #[iv x0, iv x1, iv x2, iv x3, iv x4, iv x5, iv s0, iv s1, iv s2, iv y2, iv y1, iv en, rv b1, iv 1, iv 2, iv y1, iv (-1), iv 0, .unset, .unset, .unset] [(.int 64), (.int (s1 - s0))] (fun t k => XS.bipush X74.here hx rfl (hb hby at_176) k) ?_
        refine own_go T74 m 181 #[iv x0, iv x1, iv x2, iv x3, iv x4, iv x5, iv s0, iv s1, iv s2, iv y2, iv y1, iv en, rv b1, iv 1, iv 2, iv y1, iv (-1), iv 0, .unset, .unset, .unset] [] (fun t k => XS.icmpNo X74.here hx rfl (hb hby at_178) rfl (tlt (own_db1 s0 s1 s2 y2 y1 en (y2 - s2) (y1 - s1) (s1 - s0) (s2 - s0) o1 o2 o3 o4 o5 o6 o7 o8 hc103_25 hc103_27 hc112_36)).2.1 k) ?_
        refine own_go T74 m 182 #[iv x0, iv x1, iv x2, iv x3, iv x4, iv x5, iv s0, iv s1, iv s2, iv y2, iv y1, iv en, rv b1, iv 1, iv 2, iv y1, iv (-1), iv 0, .unset, .unset, .unset] [(.int 1)] (fun t k => XS.iconst X74.here hx rfl (hb hby at_181) k) ?_
        refine own_go T74 m 186 #[iv x0, iv x1, iv x2, iv x3, iv x4, iv x5, iv s0, iv s1, iv s2, iv y2, iv y1, iv en, rv b1, iv 1, iv 2, iv y1, iv (-1), iv 0, .unset, .unset, .unset] [(.int 1)] (fun t k => XS.goto X74.here hx rfl (pc0 := 182) (pc' := 186) rfl (hb hby at_182) (by decide) (by decide) k) ?_
        refine own_go T74 m 188 #[iv x0, iv x1, iv x2, iv x3, iv x4, iv x5, iv s0, iv s1, iv s2, iv y2, iv y1, iv en, rv b1, iv 1, iv 2, iv y1, iv (-1), iv 0, iv 1, .unset, .unset] [] (fun t k => XS.istore X74.here hx rfl (hb hby at_186) rfl rfl k) ?_
        refine own_go T74 m 190 #[iv x0, iv x1, iv x2, iv x3, iv x4, iv x5, iv s0, iv s1, iv s2, iv y2, iv y1, iv en, rv b1, iv 1, iv 2, iv y1, iv (-1), iv 0, iv 1, .unset, .unset] [(.int 1)] (fun t k => XS.iload X74.here hx rfl (hb hby at_188) rfl k) ?_
        refine own_go T74 m 193 #[iv x0, iv x1, iv x2, iv x3, iv x4, iv x5, iv s0, iv s1, iv s2, iv y2, iv y1, iv en, rv b1, iv 1, iv 2, iv y1, iv (-1), iv 0, iv 1, .unset, .unset] [] (fun t k => XS.ifNo X74.here hx rfl (hb hby at_190) rfl ((if0 _ _).trans (feq (by decide)).1) k) ?_
        refine own_go T74 m 195 #[iv x0, iv x1, iv x2, iv x3, iv x4, iv x5, iv s0, iv s1, iv s2, iv y2, iv y1, iv en, rv b1, iv 1, iv 2, iv y1, iv (-1), iv 0, iv 1, .unset, .unset] [(.int y1)] (fun t k => XS.iload X74.here hx rfl (hb hby at_193) rfl k) ?_
        refine own_go T74 m 199 #[iv x0, iv x1, iv x2, iv x3, iv x4, iv x5, iv s0, iv s1, iv s2, iv y2, iv y1, iv en, rv b1, iv 1, iv 2, iv y1, iv (-1), iv 0, iv 1, .unset, .unset] [(.int y1)] (fun t k => XS.goto X74.here hx rfl (pc0 := 195) (pc' := 199) rfl (hb hby at_195) (by decide) (by decide) k) ?_
        refine own_go T74 m 201 #[iv x0, iv x1, iv x2, iv x3, iv x4, iv x5, iv s0, iv s1, iv s2, iv y2, iv y1, iv en, rv b1, iv 1, iv 2, iv y1, iv (-1), iv 0, iv 1, iv y1, .unset] [] (fun t k => XS.istore X74.here hx rfl (hb hby at_199) rfl rfl k) ?_
        refine own_go T74 m 203 #[iv x0, iv x1, iv x2, iv x3, iv x4, iv x5, iv s0, iv s1, iv s2, iv y2, iv y1, iv en, rv b1, iv 1, iv 2, iv y1, iv (-1), iv 0, iv 1, iv y1, .unset] [(.int 0)] (fun t k => XS.iload X74.here hx rfl (hb hby at_201) rfl k) ?_
        refine own_go T74 m 211 #[iv x0, iv x1, iv x2, iv x3, iv x4, iv x5, iv s0, iv s1, iv s2, iv y2, iv y1, iv en, rv b1, iv 1, iv 2, iv y1, iv (-1), iv 0, iv 1, iv y1, .unset] [] (fun t k => XS.ifYes X74.here hx rfl (pc0 := 203) (pc' := 211) rfl (hb hby at_203) rfl ((if0 _ _).trans (teq (by decide)).1) (by decide) (by decide) k) ?_
        refine own_go T74 m 212 #[iv x0, iv x1, iv x2, iv x3, iv x4, iv x5, iv s0, iv s1, iv s2, iv y2, iv y1, iv en, rv b1, iv 1, iv 2, iv y1, iv (-1), iv 0, iv 1, iv y1, .unset] [(.int (-1))] (fun t k => XS.iconst X74.here hx rfl (hb hby at_211) k) ?_
        refine own_go T74 m 214 #[iv x0, iv x1, iv x2, iv x3, iv x4, iv x5, iv s0, iv s1, iv s2, iv y2, iv y1, iv en, rv b1, iv 1, iv 2, iv y1, iv (-1), iv 0, iv 1, iv y1, iv (-1)] [] (fun t k => XS.istore X74.here hx rfl (hb hby at_212) rfl rfl k) ?_
        refine own_go T74 m 216 #[iv x0, iv x1, iv x2, iv x3, iv x4, iv x5, iv s0, iv s1, iv s2, iv y2, iv y1, iv en, rv b1, iv 1, iv 2, iv y1, iv (-1), iv 0, iv 1, iv y1, iv (-1)] [(.int y1)] (fun t k => XS.iload X74.here hx rfl (hb hby at_214) rfl k) ?_
        refine own_go T74 m 218 #[iv x0, iv x1, iv x2, iv x3, iv x4, iv x5, iv s0, iv s1, iv s2, iv y2, iv y1, iv en, rv b1, iv 1, iv 2, iv y1, iv (-1), iv 0, iv 1, iv y1, iv (-1)] [(.int y1), (.int y1)] (fun t k => XS.iload X74.here hx rfl (hb hby at_216) rfl k) ?_
        refine own_go T74 m 221 #[iv x0, iv x1, iv x2, iv x3, iv x4, iv x5, iv s0, iv s1, iv s2, iv y2, iv y1, iv en, rv b1, iv 1, iv 2, iv y1, iv (-1), iv 0, iv 1, iv y1, iv (-1)] [] (fun t k => XS.icmpNo X74.here hx rfl (hb hby at_218) rfl (teq rfl).2 k) ?_
        refine own_go T74 m 223 #[iv x0, iv x1, iv x2, iv x3, iv x4, iv x5, iv s0, iv s1, iv s2, iv y2, iv y1, iv en, rv b1, iv 1, iv 2, iv y1, iv (-1), iv 0, iv 1, iv y1, iv (-1)] [(.int (-1))] (fun t k => XS.iload X74.here hx rfl (hb hby at_221) rfl k) ?_
        refine own_go T74 m 225 #[iv x0, iv x1, iv x2, iv x3, iv x4, iv x5, iv s0, iv s1, iv s2, iv y2, iv y1, iv en, rv b1, iv 1, iv 2, iv y1, iv (-1), iv 0, iv 1, iv y1, iv (-1)] [(.int (-1)), (.int (-1))] (fun t k => XS.iload X74.here hx rfl (hb hby at_223) rfl k) ?_
        refine own_go T74 m 228 #[iv x0, iv x1, iv x2, iv x3, iv x4, iv x5, iv s0, iv s1, iv s2, iv y2, iv y1, iv en, rv b1, iv 1, iv 2, iv y1, iv (-1), iv 0, iv 1, iv y1, iv (-1)] [] (fun t k => XS.icmpNo X74.here hx rfl (hb hby at_225) rfl (teq (by decide)).2 k) ?_
        refine own_go T74 m 229 #[iv x0, iv x1, iv x2, iv x3, iv x4, iv x5, iv s0, iv s1, iv s2, iv y2, iv y1, iv en, rv b1, iv 1, iv 2, iv y1, iv (-1), iv 0, iv 1, iv y1, iv (-1)] [(.int 1)] (fun t k => XS.iconst X74.here hx rfl (hb hby at_228) k) ?_
        refine own_go T74 m 233 #[iv x0, iv x1, iv x2, iv x3, iv x4, iv x5, iv s0, iv s1, iv s2, iv y2, iv y1, iv en, rv b1, iv 1, iv 2, iv y1, iv (-1), iv 0, iv 1, iv y1, iv (-1)] [(.int 1)] (fun t k => XS.goto X74.here hx rfl (pc0 := 229) (pc' := 233) rfl (hb hby at_229) (by decide) (by decide) k) ?_
        refine own_retZ X74 hx hlk hret (by decide) (hb hby at_233) (by decide) (by decide) ?_
        exact ⟨rfl, N74⟩
      · obtain ⟨_, T81, L81, X81, ⟨rfl, Nq81, Kq81, fq0_81⟩, st81⟩ := own_virtual X28 hx hZ (y := (⟨OwnK0, "closed", "(II)V"⟩ : MethodName)) (z := (⟨OwnK0, "closed", "(II)V"⟩ : MethodName)) hown (own_w hw 39 rfl) (own_w hw 40 rfl) (notFace_of_selects (args := #[]) (mvT hZ (own_w hw 42 rfl))) (own_w hw 42 rfl) (own_w hw 41 rfl) (own_w hw 3 rfl) (own_w hw 43 rfl) (by decide) (sp18 l Z a0 hw [] b1 w1_2 w2_2 w0_2 y1 s0 s1 s2 kw1_2 kw2_2 kw0_2 T28.heap n0 Z_28 fq1_28 fq4_28 fq6_28 fq7_28 cf34 cf31 cf33 ne_b1_w1_2 fq4_2 (Ne.symm fq0_2) g_w1_2 hc112_36 (own_db18 s0 s1 s2 y2 y1 en (y2 - s2) (y1 - s1) (s1 - s0) (s2 - s0) o1 o2 o3 o4 o5 o6 o7 o8 hc103_25 hc103_27 hc112_36)) rfl cf29 0 (argsL := [(.int 1), (.int y1)]) (rest := []) (Ls := #[iv x0, iv x1, iv x2, iv x3, iv x4, iv x5, iv s0, iv s1, iv s2, iv y2, iv y1, iv en, rv b1, iv 1, iv 2, .unset, .unset, .unset, .unset, .unset, .unset]) (by rw [hml]; rfl) (lenOf pd__II_V rfl) rfl rfl (Nat.le_of_eq rfl) (hb hby at_112) (by decide) (by decide) (by decide) (by decide)
        have N81 := Fr.app N28 Nq81
        have cf82 := cf29.keep Kq81
        have cf83 := cf30.keep Kq81 (ninS (Ne.symm fq5_2) nin0)
        have cf84 := cf31.keep Kq81 (ninS (Ne.symm fq4_2) nin0)
        have cf85 := cf32.keep Kq81 (ninS (Ne.symm fq6_2) nin0)
        have cf86 := cf33.keep Kq81 (ninS fq0_2 nin0)
        have cf87 := fq0_28.keep Kq81 (ninS ne_b1_w1_2 nin0)
        have cf88 := fq1_28.keep Kq81 (ninS ne_b1_w1_2 nin0)
        have cf89 := fq2_28.keep Kq81 (ninS ne_b1_w1_2 nin0)
        have cf90 := fq3_28.keep Kq81 (ninS ne_b1_w1_2 nin0)
        have cf91 := fq4_28.keep Kq81 (ninS ne_b1_w1_2 nin0)
        have cf92 := fq5_28.keep Kq81 (ninS ne_b1_w1_2 nin0)
        have cf93 := fq6_28.keep Kq81 (ninS ne_b1_w1_2 nin0)
        have cf94 := fq7_28.keep Kq81 (ninS ne_b1_w1_2 nin0)
        have cf95 := fq8_28.keep Kq81 (ninS ne_b1_w1_2 nin0)
        have Z_81 : n0 ≤ T81.heap.size := Nat.le_trans Z_28 Kq81.1
        refine own_go T81 m 115 #[iv x0, iv x1, iv x2, iv x3, iv x4, iv x5, iv s0, iv s1, iv s2, iv y2, iv y1, iv en, rv b1, iv 1, iv 2, .unset, .unset, .unset, .unset, .unset, .unset] [] (st81) ?_
        refine own_go T81 m 117 #[iv x0, iv x1, iv x2, iv x3, iv x4, iv x5, iv s0, iv s1, iv s2, iv y2, iv y1, iv en, rv b1, iv 1, iv 2, .unset, .unset, .unset, .unset, .unset, .unset] [(.ref b1)] (fun t k => XS.aload X81.here hx rfl (hb hby at_115) rfl rfl k) ?_
        refine own_go T81 m 119 #[iv x0, iv x1, iv x2, iv x3, iv x4, iv x5, iv s0, iv s1, iv s2, iv y2, iv y1, iv en, rv b1, iv 1, iv 2, .unset, .unset, .unset, .unset, .unset, .unset] [(.int en), (.ref b1)] (fun t k => XS.iload X81.here hx rfl (hb hby at_117) rfl k) ?_
        obtain ⟨_, T96, L96, X96, ⟨rfl, Nq96, Kq96, fq0_96⟩, st96⟩ := own_virtual X81 hx hZ (y := (⟨OwnK0, "endRead", "(I)V"⟩ : MethodName)) (z := (⟨OwnK0, "endRead", "(I)V"⟩ : MethodName)) hown (own_w hw 44 rfl) (own_w hw 45 rfl) (notFace_of_selects (args := #[]) (mvT hZ (own_w hw 47 rfl))) (own_w hw 47 rfl) (own_w hw 46 rfl) (own_w hw 3 rfl) (own_w hw 48 rfl) (by decide) (sp8 l Z a0 hw [] b1 w3_2 w2_2 en kw3_2 kw2_2 T81.heap n0 Z_81 cf95 cf90 cf91 cf93 cf83 cf84 ne_b1_w3_2 (Ne.symm fq7_2) g_w3_2) rfl cf82 0 (argsL := [(.int en)]) (rest := []) (Ls := #[iv x0, iv x1, iv x2, iv x3, iv x4, iv x5, iv s0, iv s1, iv s2, iv y2, iv y1, iv en, rv b1, iv 1, iv 2, .unset, .unset, .unset, .unset, .unset, .unset]) (by rw [hml]; rfl) (lenOf pd__I_V rfl) rfl rfl (Nat.le_of_eq rfl) (hb hby at_119) (by decide) (by decide) (by decide) (by decide)
        have N96 := Fr.app N81 Nq96
        have cf97 := cf82.keep Kq96
        have cf98 := cf84.keep Kq96 (ninS fq7_2 nin0)
        have cf99 := cf85.keep Kq96 (ninS (Ne.symm fq9_2) nin0)
        have cf100 := cf86.keep Kq96 (ninS fq2_2 nin0)
        have cf101 := cf87.keep Kq96 (ninS ne_b1_w3_2 nin0)
        have cf102 := cf88.keep Kq96 (ninS ne_b1_w3_2 nin0)
        have cf103 := cf89.keep Kq96 (ninS ne_b1_w3_2 nin0)
        have cf104 := cf90.keep Kq96 (ninS ne_b1_w3_2 nin0)
        have cf105 := cf91.keep Kq96 (ninS ne_b1_w3_2 nin0)
        have cf106 := cf92.keep Kq96 (ninS ne_b1_w3_2 nin0)
        have cf107 := cf93.keep Kq96 (ninS ne_b1_w3_2 nin0)
        have cf108 := cf94.keep Kq96 (ninS ne_b1_w3_2 nin0)
        have cf109 := cf95.keep Kq96 (ninS ne_b1_w3_2 nin0)
        have cf110 := fq0_81.keep Kq96 (ninS fq5_2 nin0)
        have Z_96 : n0 ≤ T96.heap.size := Nat.le_trans Z_81 Kq96.1
        refine own_go T96 m 122 #[iv x0, iv x1, iv x2, iv x3, iv x4, iv x5, iv s0, iv s1, iv s2, iv y2, iv y1, iv en, rv b1, iv 1, iv 2, .unset, .unset, .unset, .unset, .unset, .unset] [] (st96) ?_
        refine own_go T96 m 124 #[iv x0, iv x1, iv x2, iv x3, iv x4, iv x5, iv s0, iv s1, iv s2, iv y2, iv y1, iv en, rv b1, iv 1, iv 2, .unset, .unset, .unset, .unset, .unset, .unset] [(.ref b1)] (fun t k => XS.aload X96.here hx rfl (hb hby at_122) rfl rfl k) ?_
        refine own_go T96 m 126 #[iv x0, iv x1, iv x2, iv x3, iv x4, iv x5, iv s0, iv s1, iv s2, iv y2, iv y1, iv en, rv b1, iv 1, iv 2, .unset, .unset, .unset, .unset, .unset, .unset] [(.int s1), (.ref b1)] (fun t k => XS.iload X96.here hx rfl (hb hby at_124) rfl k) ?_
        refine own_go T96 m 128 #[iv x0, iv x1, iv x2, iv x3, iv x4, iv x5, iv s0, iv s1, iv s2, iv y2, iv y1, iv en, rv b1, iv 1, iv 2, .unset, .unset, .unset, .unset, .unset, .unset] [(.int x5), (.int s1), (.ref b1)] (fun t k => XS.iload X96.here hx rfl (hb hby at_126) rfl k) ?_
        obtain ⟨_, T111, L111, X111, ⟨rfl, Nq111, Kq111, fq0_111, fq1_111, fq2_111, fq3_111, fq4_111, fq5_111, fq6_111, fq7_111, fq8_111⟩, st111⟩ := own_virtual X96 hx hZ (y := (⟨OwnK0, "find", "(II)I"⟩ : MethodName)) (z := (⟨OwnK0, "find", "(II)I"⟩ : MethodName)) hown (own_w hw 49 rfl) (own_w hw 50 rfl) (notFace_of_selects (args := #[]) (mvT hZ (own_w hw 52 rfl))) (own_w hw 52 rfl) (own_w hw 51 rfl) (own_w hw 3 rfl) (own_w hw 53 rfl) (by decide) (sp9 l Z a0 hw [] b1 w1_2 w3_2 w2_2 w4_2 w0_2 s1 x5 y1 en s0 s2 kw1_2 kw3_2 kw2_2 kw0_2 T96.heap n0 Z_96 cf97 cf109 cf101 cf102 cf103 cf104 cf105 cf106 cf107 cf108 cf110 fq0_96 cf98 cf100 ne_b1_w1_2 ne_b1_w3_2 ne_b1_w2_2 ne_b1_w4_2 ne_b1_w0_2 g_b1 (own_db20 s0 s1 s2 y2 y1 en (y2 - s2) (y1 - s1) (s1 - s0) (s2 - s0) o1 o2 o3 o4 o5 o6 o7 o8 hc103_25 hc103_27 hc112_36) (own_db21 s0 s1 s2 y2 y1 en (y2 - s2) (y1 - s1) (s1 - s0) (s2 - s0) o1 o2 o3 o4 o5 o6 o7 o8 hc103_25 hc103_27 hc112_36) o2 (own_db22 s0 s1 s2 y2 y1 en (y2 - s2) (y1 - s1) (s1 - s0) (s2 - s0) o1 o2 o3 o4 o5 o6 o7 o8 hc103_25 hc103_27 hc112_36) (own_db23 s0 s1 s2 y2 y1 en (y2 - s2) (y1 - s1) (s1 - s0) (s2 - s0) o1 o2 o3 o4 o5 o6 o7 o8 hc103_25 hc103_27 hc112_36)) rfl cf97 0 (argsL := [(.int s1), (.int x5)]) (rest := []) (Ls := #[iv x0, iv x1, iv x2, iv x3, iv x4, iv x5, iv s0, iv s1, iv s2, iv y2, iv y1, iv en, rv b1, iv 1, iv 2, .unset, .unset, .unset, .unset, .unset, .unset]) (by rw [hml]; rfl) (lenOf pd__II_I rfl) rfl rfl (Nat.le_of_eq rfl) (hb hby at_128) (by decide) (by decide) (by decide) (by decide)
        have N111 := Fr.app N96 Nq111
        have cf112 := cf97.keep Kq111
        have cf113 := cf98.keep Kq111 (ninS (Ne.symm ne_b1_w2_2) nin0)
        have cf114 := cf99.keep Kq111 (ninS (Ne.symm ne_b1_w4_2) nin0)
        have cf115 := cf100.keep Kq111 (ninS (Ne.symm ne_b1_w0_2) nin0)
        have cf116 := cf110.keep Kq111 (ninS (Ne.symm ne_b1_w1_2) nin0)
        have cf117 := fq0_96.keep Kq111 (ninS (Ne.symm ne_b1_w3_2) nin0)
        have Z_111 : n0 ≤ T111.heap.size := Nat.le_trans Z_96 Kq111.1
        refine own_go T111 m 131 #[iv x0, iv x1, iv x2, iv x3, iv x4, iv x5, iv s0, iv s1, iv s2, iv y2, iv y1, iv en, rv b1, iv 1, iv 2, .unset, .unset, .unset, .unset, .unset, .unset] [(.int y1)] (st111) ?_
        refine own_go T111 m 133 #[iv x0, iv x1, iv x2, iv x3, iv x4, iv x5, iv s0, iv s1, iv s2, iv y2, iv y1, iv en, rv b1, iv 1, iv 2, iv y1, .unset, .unset, .unset, .unset, .unset] [] (fun t k => XS.istore X111.here hx rfl (hb hby at_131) rfl rfl k) ?_
        refine own_go T111 m 135 #[iv x0, iv x1, iv x2, iv x3, iv x4, iv x5, iv s0, iv s1, iv s2, iv y2, iv y1, iv en, rv b1, iv 1, iv 2, iv y1, .unset, .unset, .unset, .unset, .unset] [(.ref b1)] (fun t k => XS.aload X111.here hx rfl (hb hby at_133) rfl rfl k) ?_
        refine own_go T111 m 137 #[iv x0, iv x1, iv x2, iv x3, iv x4, iv x5, iv s0, iv s1, iv s2, iv y2, iv y1, iv en, rv b1, iv 1, iv 2, iv y1, .unset, .unset, .unset, .unset, .unset] [(.int s2), (.ref b1)] (fun t k => XS.iload X111.here hx rfl (hb hby at_135) rfl k) ?_
        refine own_go T111 m 139 #[iv x0, iv x1, iv x2, iv x3, iv x4, iv x5, iv s0, iv s1, iv s2, iv y2, iv y1, iv en, rv b1, iv 1, iv 2, iv y1, .unset, .unset, .unset, .unset, .unset] [(.int x5), (.int s2), (.ref b1)] (fun t k => XS.iload X111.here hx rfl (hb hby at_137) rfl k) ?_
        obtain ⟨_, T118, L118, X118, ⟨rfl, Nq118, Kq118, fq0_118, fq1_118, fq2_118, fq3_118, fq4_118, fq5_118, fq6_118, fq7_118, fq8_118⟩, st118⟩ := own_virtual X111 hx hZ (y := (⟨OwnK0, "find", "(II)I"⟩ : MethodName)) (z := (⟨OwnK0, "find", "(II)I"⟩ : MethodName)) hown (own_w hw 49 rfl) (own_w hw 50 rfl) (notFace_of_selects (args := #[]) (mvT hZ (own_w hw 52 rfl))) (own_w hw 52 rfl) (own_w hw 51 rfl) (own_w hw 3 rfl) (own_w hw 53 rfl) (by decide) (sp15 l Z a0 hw [] b1 w1_2 w3_2 w2_2 w4_2 w0_2 s2 x5 en s0 s1 kw3_2 kw2_2 kw0_2 T111.heap n0 Z_111 cf112 fq0_111 fq8_111 fq1_111 fq2_111 fq3_111 fq4_111 fq5_111 fq6_111 fq7_111 cf117 cf113 cf115 ne_b1_w1_2 ne_b1_w3_2 ne_b1_w2_2 ne_b1_w4_2 ne_b1_w0_2 g_b1 (own_db28 s0 s1 s2 y2 y1 en (y2 - s2) (y1 - s1) (s1 - s0) (s2 - s0) o1 o2 o3 o4 o5 o6 o7 o8 hc103_25 hc103_27 hc112_36) (own_db29 s0 s1 s2 y2 y1 en (y2 - s2) (y1 - s1) (s1 - s0) (s2 - s0) o1 o2 o3 o4 o5 o6 o7 o8 hc103_25 hc103_27 hc112_36) (own_db30 s0 s1 s2 y2 y1 en (y2 - s2) (y1 - s1) (s1 - s0) (s2 - s0) o1 o2 o3 o4 o5 o6 o7 o8 hc103_25 hc103_27 hc112_36) o3) rfl cf112 0 (argsL := [(.int s2), (.int x5)]) (rest := []) (Ls := #[iv x0, iv x1, iv x2, iv x3, iv x4, iv x5, iv s0, iv s1, iv s2, iv y2, iv y1, iv en, rv b1, iv 1, iv 2, iv y1, .unset, .unset, .unset, .unset, .unset]) (by rw [hml]; rfl) (lenOf pd__II_I rfl) rfl rfl (Nat.le_of_eq rfl) (hb hby at_139) (by decide) (by decide) (by decide) (by decide)
        have N118 := Fr.app N111 Nq118
        have cf119 := cf112.keep Kq118
        have cf120 := cf113.keep Kq118 (ninS (Ne.symm ne_b1_w2_2) nin0)
        have cf121 := cf114.keep Kq118 (ninS (Ne.symm ne_b1_w4_2) nin0)
        have cf122 := cf115.keep Kq118 (ninS (Ne.symm ne_b1_w0_2) nin0)
        have cf123 := cf116.keep Kq118 (ninS (Ne.symm ne_b1_w1_2) nin0)
        have cf124 := cf117.keep Kq118 (ninS (Ne.symm ne_b1_w3_2) nin0)
        have Z_118 : n0 ≤ T118.heap.size := Nat.le_trans Z_111 Kq118.1
        refine own_go T118 m 142 #[iv x0, iv x1, iv x2, iv x3, iv x4, iv x5, iv s0, iv s1, iv s2, iv y2, iv y1, iv en, rv b1, iv 1, iv 2, iv y1, .unset, .unset, .unset, .unset, .unset] [(.int (-1))] (st118) ?_
        refine own_go T118 m 144 #[iv x0, iv x1, iv x2, iv x3, iv x4, iv x5, iv s0, iv s1, iv s2, iv y2, iv y1, iv en, rv b1, iv 1, iv 2, iv y1, iv (-1), .unset, .unset, .unset, .unset] [] (fun t k => XS.istore X118.here hx rfl (hb hby at_142) rfl rfl k) ?_
        refine own_go T118 m 146 #[iv x0, iv x1, iv x2, iv x3, iv x4, iv x5, iv s0, iv s1, iv s2, iv y2, iv y1, iv en, rv b1, iv 1, iv 2, iv y1, iv (-1), .unset, .unset, .unset, .unset] [(.int y2)] (fun t k => XS.iload X118.here hx rfl (hb hby at_144) rfl k) ?_
        refine own_go T118 m 148 #[iv x0, iv x1, iv x2, iv x3, iv x4, iv x5, iv s0, iv s1, iv s2, iv y2, iv y1, iv en, rv b1, iv 1, iv 2, iv y1, iv (-1), .unset, .unset, .unset, .unset] [(.int s2), (.int y2)] (fun t k => XS.iload X118.here hx rfl (hb hby at_146) rfl k) ?_
        refine own_go T118 m 149 #[iv x0, iv x1, iv x2, iv x3, iv x4, iv x5, iv s0, iv s1, iv s2, iv y2, iv y1, iv en, rv b1, iv 1, iv 2, iv y1, iv (-1), .unset, .unset, .unset, .unset] [(.int (y2 - s2))] (fun t k => XS.isub X118.here hx rfl (hb hby at_148) rfl k) ?_
        refine own_go T118 m 151 #[iv x0, iv x1, iv x2, iv x3, iv x4, iv x5, iv s0, iv s1, iv s2, iv y2, iv y1, iv en, rv b1, iv 1, iv 2, iv y1, iv (-1), .unset, .unset, .unset, .unset] [(.int 64), (.int (y2 - s2))] (fun t k => XS.bipush X118.here hx rfl (hb hby at_149) k) ?_
        refine own_go T118 m 158 #[iv x0, iv x1, iv x2, iv x3, iv x4, iv x5, iv s0, iv s1, iv s2, iv y2, iv y1, iv en, rv b1, iv 1, iv 2, iv y1, iv (-1), .unset, .unset, .unset, .unset] [] (fun t k => XS.icmpYes X118.here hx rfl (pc0 := 151) (pc' := 158) rfl (hb hby at_151) rfl (tlt hc103_25).1 (by decide) (by decide) k) ?_
        refine own_go T118 m 159 #[iv x0, iv x1, iv x2, iv x3, iv x4, iv x5, iv s0, iv s1, iv s2, iv y2, iv y1, iv en, rv b1, iv 1, iv 2, iv y1, iv (-1), .unset, .unset, .unset, .unset] [(.int 0)] (fun t k => XS.iconst X118.here hx rfl (hb hby at_158) k) ?_
        refine own_go T118 m 161 #[iv x0, iv x1, iv x2, iv x3, iv x4, iv x5, iv s0, iv s1, iv s2, iv y2, iv y1, iv en, rv b1, iv 1, iv 2, iv y1, iv (-1), iv 0, .unset, .unset, .unset] [] (fun t k => XS.istore X118.here hx rfl (hb hby at_159) rfl rfl k) ?_
        refine own_go T118 m 163 #[iv x0, iv x1, iv x2, iv x3, iv x4, iv x5, iv s0, iv s1, iv s2, iv y2, iv y1, iv en, rv b1, iv 1, iv 2, iv y1, iv (-1), iv 0, .unset, .unset, .unset] [(.int y1)] (fun t k => XS.iload X118.here hx rfl (hb hby at_161) rfl k) ?_
        refine own_go T118 m 165 #[iv x0, iv x1, iv x2, iv x3, iv x4, iv x5, iv s0, iv s1, iv s2, iv y2, iv y1, iv en, rv b1, iv 1, iv 2, iv y1, iv (-1), iv 0, .unset, .unset, .unset] [(.int s1), (.int y1)] (fun t k => XS.iload X118.here hx rfl (hb hby at_163) rfl k) ?_
        refine own_go T118 m 166 #[iv x0, iv x1, iv x2, iv x3, iv x4, iv x5, iv s0, iv s1, iv s2, iv y2, iv y1, iv en, rv b1, iv 1, iv 2, iv y1, iv (-1), iv 0, .unset, .unset, .unset] [(.int (y1 - s1))] (fun t k => XS.isub X118.here hx rfl (hb hby at_165) rfl k) ?_
        refine own_go T118 m 168 #[iv x0, iv x1, iv x2, iv x3, iv x4, iv x5, iv s0, iv s1, iv s2, iv y2, iv y1, iv en, rv b1, iv 1, iv 2, iv y1, iv (-1), iv 0, .unset, .unset, .unset] [(.int 64), (.int (y1 - s1))] (fun t k => XS.bipush X118.here hx rfl (hb hby at_166) k) ?_
        refine own_go T118 m 181 #[iv x0, iv x1, iv x2, iv x3, iv x4, iv x5, iv s0, iv s1, iv s2, iv y2, iv y1, iv en, rv b1, iv 1, iv 2, iv y1, iv (-1), iv 0, .unset, .unset, .unset] [] (fun t k => XS.icmpYes X118.here hx rfl (pc0 := 168) (pc' := 181) rfl (hb hby at_168) rfl (flt hc112_36).2.1 (by decide) (by decide) k) ?_
        refine own_go T118 m 182 #[iv x0, iv x1, iv x2, iv x3, iv x4, iv x5, iv s0, iv s1, iv s2, iv y2, iv y1, iv en, rv b1, iv 1, iv 2, iv y1, iv (-1), iv 0, .unset, .unset, .unset] [(.int 1)] (fun t k => XS.iconst X118.here hx rfl (hb hby at_181) k) ?_
        refine own_go T118 m 186 #[iv x0, iv x1, iv x2, iv x3, iv x4, iv x5, iv s0, iv s1, iv s2, iv y2, iv y1, iv en, rv b1, iv 1, iv 2, iv y1, iv (-1), iv 0, .unset, .unset, .unset] [(.int 1)] (fun t k => XS.goto X118.here hx rfl (pc0 := 182) (pc' := 186) rfl (hb hby at_182) (by decide) (by decide) k) ?_
        refine own_go T118 m 188 #[iv x0, iv x1, iv x2, iv x3, iv x4, iv x5, iv s0, iv s1, iv s2, iv y2, iv y1, iv en, rv b1, iv 1, iv 2, iv y1, iv (-1), iv 0, iv 1, .unset, .unset] [] (fun t k => XS.istore X118.here hx rfl (hb hby at_186) rfl rfl k) ?_
        refine own_go T118 m 190 #[iv x0, iv x1, iv x2, iv x3, iv x4, iv x5, iv s0, iv s1, iv s2, iv y2, iv y1, iv en, rv b1, iv 1, iv 2, iv y1, iv (-1), iv 0, iv 1, .unset, .unset] [(.int 1)] (fun t k => XS.iload X118.here hx rfl (hb hby at_188) rfl k) ?_
        refine own_go T118 m 193 #[iv x0, iv x1, iv x2, iv x3, iv x4, iv x5, iv s0, iv s1, iv s2, iv y2, iv y1, iv en, rv b1, iv 1, iv 2, iv y1, iv (-1), iv 0, iv 1, .unset, .unset] [] (fun t k => XS.ifNo X118.here hx rfl (hb hby at_190) rfl ((if0 _ _).trans (feq (by decide)).1) k) ?_
        refine own_go T118 m 195 #[iv x0, iv x1, iv x2, iv x3, iv x4, iv x5, iv s0, iv s1, iv s2, iv y2, iv y1, iv en, rv b1, iv 1, iv 2, iv y1, iv (-1), iv 0, iv 1, .unset, .unset] [(.int y1)] (fun t k => XS.iload X118.here hx rfl (hb hby at_193) rfl k) ?_
        refine own_go T118 m 199 #[iv x0, iv x1, iv x2, iv x3, iv x4, iv x5, iv s0, iv s1, iv s2, iv y2, iv y1, iv en, rv b1, iv 1, iv 2, iv y1, iv (-1), iv 0, iv 1, .unset, .unset] [(.int y1)] (fun t k => XS.goto X118.here hx rfl (pc0 := 195) (pc' := 199) rfl (hb hby at_195) (by decide) (by decide) k) ?_
        refine own_go T118 m 201 #[iv x0, iv x1, iv x2, iv x3, iv x4, iv x5, iv s0, iv s1, iv s2, iv y2, iv y1, iv en, rv b1, iv 1, iv 2, iv y1, iv (-1), iv 0, iv 1, iv y1, .unset] [] (fun t k => XS.istore X118.here hx rfl (hb hby at_199) rfl rfl k) ?_
        refine own_go T118 m 203 #[iv x0, iv x1, iv x2, iv x3, iv x4, iv x5, iv s0, iv s1, iv s2, iv y2, iv y1, iv en, rv b1, iv 1, iv 2, iv y1, iv (-1), iv 0, iv 1, iv y1, .unset] [(.int 0)] (fun t k => XS.iload X118.here hx rfl (hb hby at_201) rfl k) ?_
        refine own_go T118 m 211 #[iv x0, iv x1, iv x2, iv x3, iv x4, iv x5, iv s0, iv s1, iv s2, iv y2, iv y1, iv en, rv b1, iv 1, iv 2, iv y1, iv (-1), iv 0, iv 1, iv y1, .unset] [] (fun t k => XS.ifYes X118.here hx rfl (pc0 := 203) (pc' := 211) rfl (hb hby at_203) rfl ((if0 _ _).trans (teq (by decide)).1) (by decide) (by decide) k) ?_
        refine own_go T118 m 212 #[iv x0, iv x1, iv x2, iv x3, iv x4, iv x5, iv s0, iv s1, iv s2, iv y2, iv y1, iv en, rv b1, iv 1, iv 2, iv y1, iv (-1), iv 0, iv 1, iv y1, .unset] [(.int (-1))] (fun t k => XS.iconst X118.here hx rfl (hb hby at_211) k) ?_
        refine own_go T118 m 214 #[iv x0, iv x1, iv x2, iv x3, iv x4, iv x5, iv s0, iv s1, iv s2, iv y2, iv y1, iv en, rv b1, iv 1, iv 2, iv y1, iv (-1), iv 0, iv 1, iv y1, iv (-1)] [] (fun t k => XS.istore X118.here hx rfl (hb hby at_212) rfl rfl k) ?_
        refine own_go T118 m 216 #[iv x0, iv x1, iv x2, iv x3, iv x4, iv x5, iv s0, iv s1, iv s2, iv y2, iv y1, iv en, rv b1, iv 1, iv 2, iv y1, iv (-1), iv 0, iv 1, iv y1, iv (-1)] [(.int y1)] (fun t k => XS.iload X118.here hx rfl (hb hby at_214) rfl k) ?_
        refine own_go T118 m 218 #[iv x0, iv x1, iv x2, iv x3, iv x4, iv x5, iv s0, iv s1, iv s2, iv y2, iv y1, iv en, rv b1, iv 1, iv 2, iv y1, iv (-1), iv 0, iv 1, iv y1, iv (-1)] [(.int y1), (.int y1)] (fun t k => XS.iload X118.here hx rfl (hb hby at_216) rfl k) ?_
        refine own_go T118 m 221 #[iv x0, iv x1, iv x2, iv x3, iv x4, iv x5, iv s0, iv s1, iv s2, iv y2, iv y1, iv en, rv b1, iv 1, iv 2, iv y1, iv (-1), iv 0, iv 1, iv y1, iv (-1)] [] (fun t k => XS.icmpNo X118.here hx rfl (hb hby at_218) rfl (teq rfl).2 k) ?_
        refine own_go T118 m 223 #[iv x0, iv x1, iv x2, iv x3, iv x4, iv x5, iv s0, iv s1, iv s2, iv y2, iv y1, iv en, rv b1, iv 1, iv 2, iv y1, iv (-1), iv 0, iv 1, iv y1, iv (-1)] [(.int (-1))] (fun t k => XS.iload X118.here hx rfl (hb hby at_221) rfl k) ?_
        refine own_go T118 m 225 #[iv x0, iv x1, iv x2, iv x3, iv x4, iv x5, iv s0, iv s1, iv s2, iv y2, iv y1, iv en, rv b1, iv 1, iv 2, iv y1, iv (-1), iv 0, iv 1, iv y1, iv (-1)] [(.int (-1)), (.int (-1))] (fun t k => XS.iload X118.here hx rfl (hb hby at_223) rfl k) ?_
        refine own_go T118 m 228 #[iv x0, iv x1, iv x2, iv x3, iv x4, iv x5, iv s0, iv s1, iv s2, iv y2, iv y1, iv en, rv b1, iv 1, iv 2, iv y1, iv (-1), iv 0, iv 1, iv y1, iv (-1)] [] (fun t k => XS.icmpNo X118.here hx rfl (hb hby at_225) rfl (teq (by decide)).2 k) ?_
        refine own_go T118 m 229 #[iv x0, iv x1, iv x2, iv x3, iv x4, iv x5, iv s0, iv s1, iv s2, iv y2, iv y1, iv en, rv b1, iv 1, iv 2, iv y1, iv (-1), iv 0, iv 1, iv y1, iv (-1)] [(.int 1)] (fun t k => XS.iconst X118.here hx rfl (hb hby at_228) k) ?_
        refine own_go T118 m 233 #[iv x0, iv x1, iv x2, iv x3, iv x4, iv x5, iv s0, iv s1, iv s2, iv y2, iv y1, iv en, rv b1, iv 1, iv 2, iv y1, iv (-1), iv 0, iv 1, iv y1, iv (-1)] [(.int 1)] (fun t k => XS.goto X118.here hx rfl (pc0 := 229) (pc' := 233) rfl (hb hby at_229) (by decide) (by decide) k) ?_
        refine own_retZ X118 hx hlk hret (by decide) (hb hby at_233) (by decide) (by decide) ?_
        exact ⟨rfl, N118⟩
    · obtain ⟨_, T125, L125, X125, ⟨rfl, Nq125, Kq125, fq0_125, fq1_125, fq2_125, fq3_125, fq4_125, fq5_125, fq6_125, fq7_125, fq8_125⟩, st125⟩ := own_virtual X19 hx hZ (y := (⟨OwnK0, "closed", "(II)V"⟩ : MethodName)) (z := (⟨OwnK0, "closed", "(II)V"⟩ : MethodName)) hown (own_w hw 39 rfl) (own_w hw 40 rfl) (notFace_of_selects (args := #[]) (mvT hZ (own_w hw 42 rfl))) (own_w hw 42 rfl) (own_w hw 41 rfl) (own_w hw 3 rfl) (own_w hw 43 rfl) (by decide) (sp19 l Z a0 hw [] b1 w1_2 w3_2 w2_2 w4_2 w0_2 y2 s0 s1 s2 kw2_2 kw0_2 T19.heap n0 Z_19 cf20 fq10_19 fq0_19 fq1_19 fq9_19 fq2_19 fq3_19 fq4_19 fq5_19 fq6_19 cf22 fq7_19 ne_b1_w1_2 ne_b1_w3_2 ne_b1_w2_2 ne_b1_w4_2 ne_b1_w0_2 g_b1 hc103_25 hc103_27) rfl cf20 0 (argsL := [(.int 2), (.int y2)]) (rest := []) (Ls := #[iv x0, iv x1, iv x2, iv x3, iv x4, iv x5, iv s0, iv s1, iv s2, iv y2, iv y1, iv en, rv b1, iv 1, iv 2, .unset, .unset, .unset, .unset, .unset, .unset]) (by rw [hml]; rfl) (lenOf pd__II_V rfl) rfl rfl (Nat.le_of_eq rfl) (hb hby at_103) (by decide) (by decide) (by decide) (by decide)
      have N125 := Fr.app N19 Nq125
      have cf126 := cf20.keep Kq125
      have cf127 := cf21.keep Kq125 (ninS (Ne.symm ne_b1_w3_2) nin0)
      have cf128 := cf22.keep Kq125 (ninS (Ne.symm ne_b1_w2_2) nin0)
      have cf129 := cf23.keep Kq125 (ninS (Ne.symm ne_b1_w4_2) nin0)
      have cf130 := fq7_19.keep Kq125 (ninS (Ne.symm ne_b1_w0_2) nin0)
      have cf131 := fq8_19.keep Kq125 (ninS (Ne.symm ne_b1_w1_2) nin0)
      have Z_125 : n0 ≤ T125.heap.size := Nat.le_trans Z_19 Kq125.1
      refine own_go T125 m 106 #[iv x0, iv x1, iv x2, iv x3, iv x4, iv x5, iv s0, iv s1, iv s2, iv y2, iv y1, iv en, rv b1, iv 1, iv 2, .unset, .unset, .unset, .unset, .unset, .unset] [] (st125) ?_
      refine own_go T125 m 108 #[iv x0, iv x1, iv x2, iv x3, iv x4, iv x5, iv s0, iv s1, iv s2, iv y2, iv y1, iv en, rv b1, iv 1, iv 2, .unset, .unset, .unset, .unset, .unset, .unset] [(.ref b1)] (fun t k => XS.aload X125.here hx rfl (hb hby at_106) rfl rfl k) ?_
      refine own_go T125 m 110 #[iv x0, iv x1, iv x2, iv x3, iv x4, iv x5, iv s0, iv s1, iv s2, iv y2, iv y1, iv en, rv b1, iv 1, iv 2, .unset, .unset, .unset, .unset, .unset, .unset] [(.int 1), (.ref b1)] (fun t k => XS.iload X125.here hx rfl (hb hby at_108) rfl k) ?_
      refine own_go T125 m 112 #[iv x0, iv x1, iv x2, iv x3, iv x4, iv x5, iv s0, iv s1, iv s2, iv y2, iv y1, iv en, rv b1, iv 1, iv 2, .unset, .unset, .unset, .unset, .unset, .unset] [(.int y1), (.int 1), (.ref b1)] (fun t k => XS.iload X125.here hx rfl (hb hby at_110) rfl k) ?_
      by_cases hc112_133 : (y1 - s1) < (64 : Int32)
      · by_cases hc112_135 : (s1 - s0) < (64 : Int32)
        · obtain ⟨_, T136, L136, X136, ⟨rfl, Nq136, Kq136, fq0_136⟩, st136⟩ := own_virtual X125 hx hZ (y := (⟨OwnK0, "closed", "(II)V"⟩ : MethodName)) (z := (⟨OwnK0, "closed", "(II)V"⟩ : MethodName)) hown (own_w hw 39 rfl) (own_w hw 40 rfl) (notFace_of_selects (args := #[]) (mvT hZ (own_w hw 42 rfl))) (own_w hw 42 rfl) (own_w hw 41 rfl) (own_w hw 3 rfl) (own_w hw 43 rfl) (by decide) (sp7 l Z a0 hw [] b1 w1_2 w2_2 w0_2 y1 s0 s1 s2 kw1_2 kw2_2 kw0_2 T125.heap n0 Z_125 fq1_125 fq2_125 fq4_125 fq6_125 fq7_125 cf131 cf128 cf130 ne_b1_w1_2 fq4_2 (Ne.symm fq0_2) g_w1_2 hc112_133 hc112_135) rfl cf126 0 (argsL := [(.int 1), (.int y1)]) (rest := []) (Ls := #[iv x0, iv x1, iv x2, iv x3, iv x4, iv x5, iv s0, iv s1, iv s2, iv y2, iv y1, iv en, rv b1, iv 1, iv 2, .unset, .unset, .unset, .unset, .unset, .unset]) (by rw [hml]; rfl) (lenOf pd__II_V rfl) rfl rfl (Nat.le_of_eq rfl) (hb hby at_112) (by decide) (by decide) (by decide) (by decide)
          have N136 := Fr.app N125 Nq136
          have cf137 := cf126.keep Kq136
          have cf138 := cf127.keep Kq136 (ninS (Ne.symm fq5_2) nin0)
          have cf139 := cf128.keep Kq136 (ninS (Ne.symm fq4_2) nin0)
          have cf140 := cf129.keep Kq136 (ninS (Ne.symm fq6_2) nin0)
          have cf141 := cf130.keep Kq136 (ninS fq0_2 nin0)
          have cf142 := fq0_125.keep Kq136 (ninS ne_b1_w1_2 nin0)
          have cf143 := fq1_125.keep Kq136 (ninS ne_b1_w1_2 nin0)
          have cf144 := fq2_125.keep Kq136 (ninS ne_b1_w1_2 nin0)
          have cf145 := fq3_125.keep Kq136 (ninS ne_b1_w1_2 nin0)
          have cf146 := fq4_125.keep Kq136 (ninS ne_b1_w1_2 nin0)
          have cf147 := fq5_125.keep Kq136 (ninS ne_b1_w1_2 nin0)
          have cf148 := fq6_125.keep Kq136 (ninS ne_b1_w1_2 nin0)
          have cf149 := fq7_125.keep Kq136 (ninS ne_b1_w1_2 nin0)
          have cf150 := fq8_125.keep Kq136 (ninS ne_b1_w1_2 nin0)
          have Z_136 : n0 ≤ T136.heap.size := Nat.le_trans Z_125 Kq136.1
          refine own_go T136 m 115 #[iv x0, iv x1, iv x2, iv x3, iv x4, iv x5, iv s0, iv s1, iv s2, iv y2, iv y1, iv en, rv b1, iv 1, iv 2, .unset, .unset, .unset, .unset, .unset, .unset] [] (st136) ?_
          refine own_go T136 m 117 #[iv x0, iv x1, iv x2, iv x3, iv x4, iv x5, iv s0, iv s1, iv s2, iv y2, iv y1, iv en, rv b1, iv 1, iv 2, .unset, .unset, .unset, .unset, .unset, .unset] [(.ref b1)] (fun t k => XS.aload X136.here hx rfl (hb hby at_115) rfl rfl k) ?_
          refine own_go T136 m 119 #[iv x0, iv x1, iv x2, iv x3, iv x4, iv x5, iv s0, iv s1, iv s2, iv y2, iv y1, iv en, rv b1, iv 1, iv 2, .unset, .unset, .unset, .unset, .unset, .unset] [(.int en), (.ref b1)] (fun t k => XS.iload X136.here hx rfl (hb hby at_117) rfl k) ?_
          obtain ⟨_, T151, L151, X151, ⟨rfl, Nq151, Kq151, fq0_151⟩, st151⟩ := own_virtual X136 hx hZ (y := (⟨OwnK0, "endRead", "(I)V"⟩ : MethodName)) (z := (⟨OwnK0, "endRead", "(I)V"⟩ : MethodName)) hown (own_w hw 44 rfl) (own_w hw 45 rfl) (notFace_of_selects (args := #[]) (mvT hZ (own_w hw 47 rfl))) (own_w hw 47 rfl) (own_w hw 46 rfl) (own_w hw 3 rfl) (own_w hw 48 rfl) (by decide) (sp8 l Z a0 hw [] b1 w3_2 w2_2 en kw3_2 kw2_2 T136.heap n0 Z_136 cf150 cf145 cf146 cf148 cf138 cf139 ne_b1_w3_2 (Ne.symm fq7_2) g_w3_2) rfl cf137 0 (argsL := [(.int en)]) (rest := []) (Ls := #[iv x0, iv x1, iv x2, iv x3, iv x4, iv x5, iv s0, iv s1, iv s2, iv y2, iv y1, iv en, rv b1, iv 1, iv 2, .unset, .unset, .unset, .unset, .unset, .unset]) (by rw [hml]; rfl) (lenOf pd__I_V rfl) rfl rfl (Nat.le_of_eq rfl) (hb hby at_119) (by decide) (by decide) (by decide) (by decide)
          have N151 := Fr.app N136 Nq151
          have cf152 := cf137.keep Kq151
          have cf153 := cf139.keep Kq151 (ninS fq7_2 nin0)
          have cf154 := cf140.keep Kq151 (ninS (Ne.symm fq9_2) nin0)
          have cf155 := cf141.keep Kq151 (ninS fq2_2 nin0)
          have cf156 := cf142.keep Kq151 (ninS ne_b1_w3_2 nin0)
          have cf157 := cf143.keep Kq151 (ninS ne_b1_w3_2 nin0)
          have cf158 := cf144.keep Kq151 (ninS ne_b1_w3_2 nin0)
          have cf159 := cf145.keep Kq151 (ninS ne_b1_w3_2 nin0)
          have cf160 := cf146.keep Kq151 (ninS ne_b1_w3_2 nin0)
          have cf161 := cf147.keep Kq151 (ninS ne_b1_w3_2 nin0)
          have cf162 := cf148.keep Kq151 (ninS ne_b1_w3_2 nin0)
          have cf163 := cf149.keep Kq151 (ninS ne_b1_w3_2 nin0)
          have cf164 := cf150.keep Kq151 (ninS ne_b1_w3_2 nin0)
          have cf165 := fq0_136.keep Kq151 (ninS fq5_2 nin0)
          have Z_151 : n0 ≤ T151.heap.size := Nat.le_trans Z_136 Kq151.1
          refine own_go T151 m 122 #[iv x0, iv x1, iv x2, iv x3, iv x4, iv x5, iv s0, iv s1, iv s2, iv y2, iv y1, iv en, rv b1, iv 1, iv 2, .unset, .unset, .unset, .unset, .unset, .unset] [] (st151) ?_
          refine own_go T151 m 124 #[iv x0, iv x1, iv x2, iv x3, iv x4, iv x5, iv s0, iv s1, iv s2, iv y2, iv y1, iv en, rv b1, iv 1, iv 2, .unset, .unset, .unset, .unset, .unset, .unset] [(.ref b1)] (fun t k => XS.aload X151.here hx rfl (hb hby at_122) rfl rfl k) ?_
          refine own_go T151 m 126 #[iv x0, iv x1, iv x2, iv x3, iv x4, iv x5, iv s0, iv s1, iv s2, iv y2, iv y1, iv en, rv b1, iv 1, iv 2, .unset, .unset, .unset, .unset, .unset, .unset] [(.int s1), (.ref b1)] (fun t k => XS.iload X151.here hx rfl (hb hby at_124) rfl k) ?_
          refine own_go T151 m 128 #[iv x0, iv x1, iv x2, iv x3, iv x4, iv x5, iv s0, iv s1, iv s2, iv y2, iv y1, iv en, rv b1, iv 1, iv 2, .unset, .unset, .unset, .unset, .unset, .unset] [(.int x5), (.int s1), (.ref b1)] (fun t k => XS.iload X151.here hx rfl (hb hby at_126) rfl k) ?_
          obtain ⟨_, T166, L166, X166, ⟨rfl, Nq166, Kq166, fq0_166, fq1_166, fq2_166, fq3_166, fq4_166, fq5_166, fq6_166, fq7_166, fq8_166⟩, st166⟩ := own_virtual X151 hx hZ (y := (⟨OwnK0, "find", "(II)I"⟩ : MethodName)) (z := (⟨OwnK0, "find", "(II)I"⟩ : MethodName)) hown (own_w hw 49 rfl) (own_w hw 50 rfl) (notFace_of_selects (args := #[]) (mvT hZ (own_w hw 52 rfl))) (own_w hw 52 rfl) (own_w hw 51 rfl) (own_w hw 3 rfl) (own_w hw 53 rfl) (by decide) (sp9 l Z a0 hw [] b1 w1_2 w3_2 w2_2 w4_2 w0_2 s1 x5 y1 en s0 s2 kw1_2 kw3_2 kw2_2 kw0_2 T151.heap n0 Z_151 cf152 cf164 cf156 cf157 cf158 cf159 cf160 cf161 cf162 cf163 cf165 fq0_151 cf153 cf155 ne_b1_w1_2 ne_b1_w3_2 ne_b1_w2_2 ne_b1_w4_2 ne_b1_w0_2 g_b1 (own_db34 s0 s1 s2 y2 y1 en (y2 - s2) (y1 - s1) (s1 - s0) (s2 - s0) o1 o2 o3 o4 o5 o6 o7 o8 hc103_25 hc103_27 hc112_133 hc112_135) (own_db35 s0 s1 s2 y2 y1 en (y2 - s2) (y1 - s1) (s1 - s0) (s2 - s0) o1 o2 o3 o4 o5 o6 o7 o8 hc103_25 hc103_27 hc112_133 hc112_135) o2 (own_db36 s0 s1 s2 y2 y1 en (y2 - s2) (y1 - s1) (s1 - s0) (s2 - s0) o1 o2 o3 o4 o5 o6 o7 o8 hc103_25 hc103_27 hc112_133 hc112_135) (own_db37 s0 s1 s2 y2 y1 en (y2 - s2) (y1 - s1) (s1 - s0) (s2 - s0) o1 o2 o3 o4 o5 o6 o7 o8 hc103_25 hc103_27 hc112_133 hc112_135)) rfl cf152 0 (argsL := [(.int s1), (.int x5)]) (rest := []) (Ls := #[iv x0, iv x1, iv x2, iv x3, iv x4, iv x5, iv s0, iv s1, iv s2, iv y2, iv y1, iv en, rv b1, iv 1, iv 2, .unset, .unset, .unset, .unset, .unset, .unset]) (by rw [hml]; rfl) (lenOf pd__II_I rfl) rfl rfl (Nat.le_of_eq rfl) (hb hby at_128) (by decide) (by decide) (by decide) (by decide)
          have N166 := Fr.app N151 Nq166
          have cf167 := cf152.keep Kq166
          have cf168 := cf153.keep Kq166 (ninS (Ne.symm ne_b1_w2_2) nin0)
          have cf169 := cf154.keep Kq166 (ninS (Ne.symm ne_b1_w4_2) nin0)
          have cf170 := cf155.keep Kq166 (ninS (Ne.symm ne_b1_w0_2) nin0)
          have cf171 := cf165.keep Kq166 (ninS (Ne.symm ne_b1_w1_2) nin0)
          have cf172 := fq0_151.keep Kq166 (ninS (Ne.symm ne_b1_w3_2) nin0)
          have Z_166 : n0 ≤ T166.heap.size := Nat.le_trans Z_151 Kq166.1
          refine own_go T166 m 131 #[iv x0, iv x1, iv x2, iv x3, iv x4, iv x5, iv s0, iv s1, iv s2, iv y2, iv y1, iv en, rv b1, iv 1, iv 2, .unset, .unset, .unset, .unset, .unset, .unset] [(.int y1)] (st166) ?_
          refine own_go T166 m 133 #[iv x0, iv x1, iv x2, iv x3, iv x4, iv x5, iv s0, iv s1, iv s2, iv y2, iv y1, iv en, rv b1, iv 1, iv 2, iv y1, .unset, .unset, .unset, .unset, .unset] [] (fun t k => XS.istore X166.here hx rfl (hb hby at_131) rfl rfl k) ?_
          refine own_go T166 m 135 #[iv x0, iv x1, iv x2, iv x3, iv x4, iv x5, iv s0, iv s1, iv s2, iv y2, iv y1, iv en, rv b1, iv 1, iv 2, iv y1, .unset, .unset, .unset, .unset, .unset] [(.ref b1)] (fun t k => XS.aload X166.here hx rfl (hb hby at_133) rfl rfl k) ?_
          refine own_go T166 m 137 #[iv x0, iv x1, iv x2, iv x3, iv x4, iv x5, iv s0, iv s1, iv s2, iv y2, iv y1, iv en, rv b1, iv 1, iv 2, iv y1, .unset, .unset, .unset, .unset, .unset] [(.int s2), (.ref b1)] (fun t k => XS.iload X166.here hx rfl (hb hby at_135) rfl k) ?_
          refine own_go T166 m 139 #[iv x0, iv x1, iv x2, iv x3, iv x4, iv x5, iv s0, iv s1, iv s2, iv y2, iv y1, iv en, rv b1, iv 1, iv 2, iv y1, .unset, .unset, .unset, .unset, .unset] [(.int x5), (.int s2), (.ref b1)] (fun t k => XS.iload X166.here hx rfl (hb hby at_137) rfl k) ?_
          obtain ⟨_, T173, L173, X173, ⟨rfl, Nq173, Kq173, fq0_173, fq1_173, fq2_173, fq3_173, fq4_173, fq5_173, fq6_173, fq7_173, fq8_173⟩, st173⟩ := own_virtual X166 hx hZ (y := (⟨OwnK0, "find", "(II)I"⟩ : MethodName)) (z := (⟨OwnK0, "find", "(II)I"⟩ : MethodName)) hown (own_w hw 49 rfl) (own_w hw 50 rfl) (notFace_of_selects (args := #[]) (mvT hZ (own_w hw 52 rfl))) (own_w hw 52 rfl) (own_w hw 51 rfl) (own_w hw 3 rfl) (own_w hw 53 rfl) (by decide) (sp15 l Z a0 hw [] b1 w1_2 w3_2 w2_2 w4_2 w0_2 s2 x5 en s0 s1 kw3_2 kw2_2 kw0_2 T166.heap n0 Z_166 cf167 fq0_166 fq8_166 fq1_166 fq2_166 fq3_166 fq4_166 fq5_166 fq6_166 fq7_166 cf172 cf168 cf170 ne_b1_w1_2 ne_b1_w3_2 ne_b1_w2_2 ne_b1_w4_2 ne_b1_w0_2 g_b1 (own_db42 s0 s1 s2 y2 y1 en (y2 - s2) (y1 - s1) (s1 - s0) (s2 - s0) o1 o2 o3 o4 o5 o6 o7 o8 hc103_25 hc103_27 hc112_133 hc112_135) (own_db43 s0 s1 s2 y2 y1 en (y2 - s2) (y1 - s1) (s1 - s0) (s2 - s0) o1 o2 o3 o4 o5 o6 o7 o8 hc103_25 hc103_27 hc112_133 hc112_135) (own_db44 s0 s1 s2 y2 y1 en (y2 - s2) (y1 - s1) (s1 - s0) (s2 - s0) o1 o2 o3 o4 o5 o6 o7 o8 hc103_25 hc103_27 hc112_133 hc112_135) o3) rfl cf167 0 (argsL := [(.int s2), (.int x5)]) (rest := []) (Ls := #[iv x0, iv x1, iv x2, iv x3, iv x4, iv x5, iv s0, iv s1, iv s2, iv y2, iv y1, iv en, rv b1, iv 1, iv 2, iv y1, .unset, .unset, .unset, .unset, .unset]) (by rw [hml]; rfl) (lenOf pd__II_I rfl) rfl rfl (Nat.le_of_eq rfl) (hb hby at_139) (by decide) (by decide) (by decide) (by decide)
          have N173 := Fr.app N166 Nq173
          have cf174 := cf167.keep Kq173
          have cf175 := cf168.keep Kq173 (ninS (Ne.symm ne_b1_w2_2) nin0)
          have cf176 := cf169.keep Kq173 (ninS (Ne.symm ne_b1_w4_2) nin0)
          have cf177 := cf170.keep Kq173 (ninS (Ne.symm ne_b1_w0_2) nin0)
          have cf178 := cf171.keep Kq173 (ninS (Ne.symm ne_b1_w1_2) nin0)
          have cf179 := cf172.keep Kq173 (ninS (Ne.symm ne_b1_w3_2) nin0)
          have Z_173 : n0 ≤ T173.heap.size := Nat.le_trans Z_166 Kq173.1
          refine own_go T173 m 142 #[iv x0, iv x1, iv x2, iv x3, iv x4, iv x5, iv s0, iv s1, iv s2, iv y2, iv y1, iv en, rv b1, iv 1, iv 2, iv y1, .unset, .unset, .unset, .unset, .unset] [(.int (-1))] (st173) ?_
          refine own_go T173 m 144 #[iv x0, iv x1, iv x2, iv x3, iv x4, iv x5, iv s0, iv s1, iv s2, iv y2, iv y1, iv en, rv b1, iv 1, iv 2, iv y1, iv (-1), .unset, .unset, .unset, .unset] [] (fun t k => XS.istore X173.here hx rfl (hb hby at_142) rfl rfl k) ?_
          refine own_go T173 m 146 #[iv x0, iv x1, iv x2, iv x3, iv x4, iv x5, iv s0, iv s1, iv s2, iv y2, iv y1, iv en, rv b1, iv 1, iv 2, iv y1, iv (-1), .unset, .unset, .unset, .unset] [(.int y2)] (fun t k => XS.iload X173.here hx rfl (hb hby at_144) rfl k) ?_
          refine own_go T173 m 148 #[iv x0, iv x1, iv x2, iv x3, iv x4, iv x5, iv s0, iv s1, iv s2, iv y2, iv y1, iv en, rv b1, iv 1, iv 2, iv y1, iv (-1), .unset, .unset, .unset, .unset] [(.int s2), (.int y2)] (fun t k => XS.iload X173.here hx rfl (hb hby at_146) rfl k) ?_
          refine own_go T173 m 149 #[iv x0, iv x1, iv x2, iv x3, iv x4, iv x5, iv s0, iv s1, iv s2, iv y2, iv y1, iv en, rv b1, iv 1, iv 2, iv y1, iv (-1), .unset, .unset, .unset, .unset] [(.int (y2 - s2))] (fun t k => XS.isub X173.here hx rfl (hb hby at_148) rfl k) ?_
          refine own_go T173 m 151 #[iv x0, iv x1, iv x2, iv x3, iv x4, iv x5, iv s0, iv s1, iv s2, iv y2, iv y1, iv en, rv b1, iv 1, iv 2, iv y1, iv (-1), .unset, .unset, .unset, .unset] [(.int 64), (.int (y2 - s2))] (fun t k => XS.bipush X173.here hx rfl (hb hby at_149) k) ?_
          refine own_go T173 m 158 #[iv x0, iv x1, iv x2, iv x3, iv x4, iv x5, iv s0, iv s1, iv s2, iv y2, iv y1, iv en, rv b1, iv 1, iv 2, iv y1, iv (-1), .unset, .unset, .unset, .unset] [] (fun t k => XS.icmpYes X173.here hx rfl (pc0 := 151) (pc' := 158) rfl (hb hby at_151) rfl (tlt hc103_25).1 (by decide) (by decide) k) ?_
          refine own_go T173 m 159 #[iv x0, iv x1, iv x2, iv x3, iv x4, iv x5, iv s0, iv s1, iv s2, iv y2, iv y1, iv en, rv b1, iv 1, iv 2, iv y1, iv (-1), .unset, .unset, .unset, .unset] [(.int 0)] (fun t k => XS.iconst X173.here hx rfl (hb hby at_158) k) ?_
          refine own_go T173 m 161 #[iv x0, iv x1, iv x2, iv x3, iv x4, iv x5, iv s0, iv s1, iv s2, iv y2, iv y1, iv en, rv b1, iv 1, iv 2, iv y1, iv (-1), iv 0, .unset, .unset, .unset] [] (fun t k => XS.istore X173.here hx rfl (hb hby at_159) rfl rfl k) ?_
          refine own_go T173 m 163 #[iv x0, iv x1, iv x2, iv x3, iv x4, iv x5, iv s0, iv s1, iv s2, iv y2, iv y1, iv en, rv b1, iv 1, iv 2, iv y1, iv (-1), iv 0, .unset, .unset, .unset] [(.int y1)] (fun t k => XS.iload X173.here hx rfl (hb hby at_161) rfl k) ?_
          refine own_go T173 m 165 #[iv x0, iv x1, iv x2, iv x3, iv x4, iv x5, iv s0, iv s1, iv s2, iv y2, iv y1, iv en, rv b1, iv 1, iv 2, iv y1, iv (-1), iv 0, .unset, .unset, .unset] [(.int s1), (.int y1)] (fun t k => XS.iload X173.here hx rfl (hb hby at_163) rfl k) ?_
          refine own_go T173 m 166 #[iv x0, iv x1, iv x2, iv x3, iv x4, iv x5, iv s0, iv s1, iv s2, iv y2, iv y1, iv en, rv b1, iv 1, iv 2, iv y1, iv (-1), iv 0, .unset, .unset, .unset] [(.int (y1 - s1))] (fun t k => XS.isub X173.here hx rfl (hb hby at_165) rfl k) ?_
          refine own_go T173 m 168 #[iv x0, iv x1, iv x2, iv x3, iv x4, iv x5, iv s0, iv s1, iv s2, iv y2, iv y1, iv en, rv b1, iv 1, iv 2, iv y1, iv (-1), iv 0, .unset, .unset, .unset] [(.int 64), (.int (y1 - s1))] (fun t k => XS.bipush X173.here hx rfl (hb hby at_166) k) ?_
          refine own_go T173 m 171 #[iv x0, iv x1, iv x2, iv x3, iv x4, iv x5, iv s0, iv s1, iv s2, iv y2, iv y1, iv en, rv b1, iv 1, iv 2, iv y1, iv (-1), iv 0, .unset, .unset, .unset] [] (fun t k => XS.icmpNo X173.here hx rfl (hb hby at_168) rfl (tlt hc112_133).2.1 k) ?_
          refine own_go T173 m 173 #[iv x0, iv x1, iv x2, iv x3, iv x4, iv x5, iv s0, iv s1, iv s2, iv y2, iv y1, iv en, rv b1, iv 1, iv 2, iv y1, iv (-1), iv 0, .unset, .unset, .unset] [(.int s1)] (fun t k => XS.iload X173.here hx rfl (hb hby at_171) rfl k) ?_
          refine own_go T173 m 175 #[iv x0, iv x1, iv x2, iv x3, iv x4, iv x5, iv s0, iv s1, iv s2, iv y2, iv y1, iv en, rv b1, iv 1, iv 2, iv y1, iv (-1), iv 0, .unset, .unset, .unset] [(.int s0), (.int s1)] (fun t k => XS.iload X173.here hx rfl (hb hby at_173) rfl k) ?_
          refine own_go T173 m 176 #[iv x0, iv x1, iv x2, iv x3, iv x4, iv x5, iv s0, iv s1, iv s2, iv y2, iv y1, iv en, rv b1, iv 1, iv 2, iv y1, iv (-1), iv 0, .unset, .unset, .unset] [(.int (s1 - s0))] (fun t k => XS.isub X173.here hx rfl (hb hby at_175) rfl k) ?_
          refine own_go T173 m 178 #[iv x0, iv x1, iv x2, iv x3, iv x4, iv x5, iv s0, iv s1, iv s2, iv y2, iv y1, iv en, rv b1, iv 1, iv 2, iv y1, iv (-1), iv 0, .unset, .unset, .unset] [(.int 64), (.int (s1 - s0))] (fun t k => XS.bipush X173.here hx rfl (hb hby at_176) k) ?_
          refine own_go T173 m 181 #[iv x0, iv x1, iv x2, iv x3, iv x4, iv x5, iv s0, iv s1, iv s2, iv y2, iv y1, iv en, rv b1, iv 1, iv 2, iv y1, iv (-1), iv 0, .unset, .unset, .unset] [] (fun t k => XS.icmpNo X173.here hx rfl (hb hby at_178) rfl (tlt hc112_135).2.1 k) ?_
          refine own_go T173 m 182 #[iv x0, iv x1, iv x2, iv x3, iv x4, iv x5, iv s0, iv s1, iv s2, iv y2, iv y1, iv en, rv b1, iv 1, iv 2, iv y1, iv (-1), iv 0, .unset, .unset, .unset] [(.int 1)] (fun t k => XS.iconst X173.here hx rfl (hb hby at_181) k) ?_
          refine own_go T173 m 186 #[iv x0, iv x1, iv x2, iv x3, iv x4, iv x5, iv s0, iv s1, iv s2, iv y2, iv y1, iv en, rv b1, iv 1, iv 2, iv y1, iv (-1), iv 0, .unset, .unset, .unset] [(.int 1)] (fun t k => XS.goto X173.here hx rfl (pc0 := 182) (pc' := 186) rfl (hb hby at_182) (by decide) (by decide) k) ?_
          refine own_go T173 m 188 #[iv x0, iv x1, iv x2, iv x3, iv x4, iv x5, iv s0, iv s1, iv s2, iv y2, iv y1, iv en, rv b1, iv 1, iv 2, iv y1, iv (-1), iv 0, iv 1, .unset, .unset] [] (fun t k => XS.istore X173.here hx rfl (hb hby at_186) rfl rfl k) ?_
          refine own_go T173 m 190 #[iv x0, iv x1, iv x2, iv x3, iv x4, iv x5, iv s0, iv s1, iv s2, iv y2, iv y1, iv en, rv b1, iv 1, iv 2, iv y1, iv (-1), iv 0, iv 1, .unset, .unset] [(.int 1)] (fun t k => XS.iload X173.here hx rfl (hb hby at_188) rfl k) ?_
          refine own_go T173 m 193 #[iv x0, iv x1, iv x2, iv x3, iv x4, iv x5, iv s0, iv s1, iv s2, iv y2, iv y1, iv en, rv b1, iv 1, iv 2, iv y1, iv (-1), iv 0, iv 1, .unset, .unset] [] (fun t k => XS.ifNo X173.here hx rfl (hb hby at_190) rfl ((if0 _ _).trans (feq (by decide)).1) k) ?_
          refine own_go T173 m 195 #[iv x0, iv x1, iv x2, iv x3, iv x4, iv x5, iv s0, iv s1, iv s2, iv y2, iv y1, iv en, rv b1, iv 1, iv 2, iv y1, iv (-1), iv 0, iv 1, .unset, .unset] [(.int y1)] (fun t k => XS.iload X173.here hx rfl (hb hby at_193) rfl k) ?_
          refine own_go T173 m 199 #[iv x0, iv x1, iv x2, iv x3, iv x4, iv x5, iv s0, iv s1, iv s2, iv y2, iv y1, iv en, rv b1, iv 1, iv 2, iv y1, iv (-1), iv 0, iv 1, .unset, .unset] [(.int y1)] (fun t k => XS.goto X173.here hx rfl (pc0 := 195) (pc' := 199) rfl (hb hby at_195) (by decide) (by decide) k) ?_
          refine own_go T173 m 201 #[iv x0, iv x1, iv x2, iv x3, iv x4, iv x5, iv s0, iv s1, iv s2, iv y2, iv y1, iv en, rv b1, iv 1, iv 2, iv y1, iv (-1), iv 0, iv 1, iv y1, .unset] [] (fun t k => XS.istore X173.here hx rfl (hb hby at_199) rfl rfl k) ?_
          refine own_go T173 m 203 #[iv x0, iv x1, iv x2, iv x3, iv x4, iv x5, iv s0, iv s1, iv s2, iv y2, iv y1, iv en, rv b1, iv 1, iv 2, iv y1, iv (-1), iv 0, iv 1, iv y1, .unset] [(.int 0)] (fun t k => XS.iload X173.here hx rfl (hb hby at_201) rfl k) ?_
          refine own_go T173 m 211 #[iv x0, iv x1, iv x2, iv x3, iv x4, iv x5, iv s0, iv s1, iv s2, iv y2, iv y1, iv en, rv b1, iv 1, iv 2, iv y1, iv (-1), iv 0, iv 1, iv y1, .unset] [] (fun t k => XS.ifYes X173.here hx rfl (pc0 := 203) (pc' := 211) rfl (hb hby at_203) rfl ((if0 _ _).trans (teq (by decide)).1) (by decide) (by decide) k) ?_
          refine own_go T173 m 212 #[iv x0, iv x1, iv x2, iv x3, iv x4, iv x5, iv s0, iv s1, iv s2, iv y2, iv y1, iv en, rv b1, iv 1, iv 2, iv y1, iv (-1), iv 0, iv 1, iv y1, .unset] [(.int (-1))] (fun t k => XS.iconst X173.here hx rfl (hb hby at_211) k) ?_
          refine own_go T173 m 214 #[iv x0, iv x1, iv x2, iv x3, iv x4, iv x5, iv s0, iv s1, iv s2, iv y2, iv y1, iv en, rv b1, iv 1, iv 2, iv y1, iv (-1), iv 0, iv 1, iv y1, iv (-1)] [] (fun t k => XS.istore X173.here hx rfl (hb hby at_212) rfl rfl k) ?_
          refine own_go T173 m 216 #[iv x0, iv x1, iv x2, iv x3, iv x4, iv x5, iv s0, iv s1, iv s2, iv y2, iv y1, iv en, rv b1, iv 1, iv 2, iv y1, iv (-1), iv 0, iv 1, iv y1, iv (-1)] [(.int y1)] (fun t k => XS.iload X173.here hx rfl (hb hby at_214) rfl k) ?_
          refine own_go T173 m 218 #[iv x0, iv x1, iv x2, iv x3, iv x4, iv x5, iv s0, iv s1, iv s2, iv y2, iv y1, iv en, rv b1, iv 1, iv 2, iv y1, iv (-1), iv 0, iv 1, iv y1, iv (-1)] [(.int y1), (.int y1)] (fun t k => XS.iload X173.here hx rfl (hb hby at_216) rfl k) ?_
          refine own_go T173 m 221 #[iv x0, iv x1, iv x2, iv x3, iv x4, iv x5, iv s0, iv s1, iv s2, iv y2, iv y1, iv en, rv b1, iv 1, iv 2, iv y1, iv (-1), iv 0, iv 1, iv y1, iv (-1)] [] (fun t k => XS.icmpNo X173.here hx rfl (hb hby at_218) rfl (teq rfl).2 k) ?_
          refine own_go T173 m 223 #[iv x0, iv x1, iv x2, iv x3, iv x4, iv x5, iv s0, iv s1, iv s2, iv y2, iv y1, iv en, rv b1, iv 1, iv 2, iv y1, iv (-1), iv 0, iv 1, iv y1, iv (-1)] [(.int (-1))] (fun t k => XS.iload X173.here hx rfl (hb hby at_221) rfl k) ?_
          refine own_go T173 m 225 #[iv x0, iv x1, iv x2, iv x3, iv x4, iv x5, iv s0, iv s1, iv s2, iv y2, iv y1, iv en, rv b1, iv 1, iv 2, iv y1, iv (-1), iv 0, iv 1, iv y1, iv (-1)] [(.int (-1)), (.int (-1))] (fun t k => XS.iload X173.here hx rfl (hb hby at_223) rfl k) ?_
          refine own_go T173 m 228 #[iv x0, iv x1, iv x2, iv x3, iv x4, iv x5, iv s0, iv s1, iv s2, iv y2, iv y1, iv en, rv b1, iv 1, iv 2, iv y1, iv (-1), iv 0, iv 1, iv y1, iv (-1)] [] (fun t k => XS.icmpNo X173.here hx rfl (hb hby at_225) rfl (teq (by decide)).2 k) ?_
          refine own_go T173 m 229 #[iv x0, iv x1, iv x2, iv x3, iv x4, iv x5, iv s0, iv s1, iv s2, iv y2, iv y1, iv en, rv b1, iv 1, iv 2, iv y1, iv (-1), iv 0, iv 1, iv y1, iv (-1)] [(.int 1)] (fun t k => XS.iconst X173.here hx rfl (hb hby at_228) k) ?_
          refine own_go T173 m 233 #[iv x0, iv x1, iv x2, iv x3, iv x4, iv x5, iv s0, iv s1, iv s2, iv y2, iv y1, iv en, rv b1, iv 1, iv 2, iv y1, iv (-1), iv 0, iv 1, iv y1, iv (-1)] [(.int 1)] (fun t k => XS.goto X173.here hx rfl (pc0 := 229) (pc' := 233) rfl (hb hby at_229) (by decide) (by decide) k) ?_
          refine own_retZ X173 hx hlk hret (by decide) (hb hby at_233) (by decide) (by decide) ?_
          exact ⟨rfl, N173⟩
        · obtain ⟨_, T180, L180, X180, ⟨rfl, Nq180, Kq180, fq0_180, fq1_180, fq2_180, fq3_180, fq4_180, fq5_180, fq6_180, fq7_180, fq8_180⟩, st180⟩ := own_virtual X125 hx hZ (y := (⟨OwnK0, "closed", "(II)V"⟩ : MethodName)) (z := (⟨OwnK0, "closed", "(II)V"⟩ : MethodName)) hown (own_w hw 39 rfl) (own_w hw 40 rfl) (notFace_of_selects (args := #[]) (mvT hZ (own_w hw 42 rfl))) (own_w hw 42 rfl) (own_w hw 41 rfl) (own_w hw 3 rfl) (own_w hw 43 rfl) (by decide) (sp20 l Z a0 hw [] b1 w1_2 w3_2 w2_2 w4_2 w0_2 y1 s0 s1 s2 kw2_2 kw0_2 T125.heap n0 Z_125 cf126 fq8_125 fq0_125 fq1_125 fq2_125 fq3_125 fq4_125 fq5_125 fq6_125 fq7_125 cf128 cf130 ne_b1_w1_2 ne_b1_w3_2 ne_b1_w2_2 ne_b1_w4_2 ne_b1_w0_2 g_b1 hc112_133 hc112_135) rfl cf126 0 (argsL := [(.int 1), (.int y1)]) (rest := []) (Ls := #[iv x0, iv x1, iv x2, iv x3, iv x4, iv x5, iv s0, iv s1, iv s2, iv y2, iv y1, iv en, rv b1, iv 1, iv 2, .unset, .unset, .unset, .unset, .unset, .unset]) (by rw [hml]; rfl) (lenOf pd__II_V rfl) rfl rfl (Nat.le_of_eq rfl) (hb hby at_112) (by decide) (by decide) (by decide) (by decide)
          have N180 := Fr.app N125 Nq180
          have cf181 := cf126.keep Kq180
          have cf182 := cf127.keep Kq180 (ninS (Ne.symm ne_b1_w3_2) nin0)
          have cf183 := cf128.keep Kq180 (ninS (Ne.symm ne_b1_w2_2) nin0)
          have cf184 := cf129.keep Kq180 (ninS (Ne.symm ne_b1_w4_2) nin0)
          have cf185 := cf130.keep Kq180 (ninS (Ne.symm ne_b1_w0_2) nin0)
          have cf186 := cf131.keep Kq180 (ninS (Ne.symm ne_b1_w1_2) nin0)
          have Z_180 : n0 ≤ T180.heap.size := Nat.le_trans Z_125 Kq180.1
          refine own_go T180 m 115 #[iv x0, iv x1, iv x2, iv x3, iv x4, iv x5, iv s0, iv s1, iv s2, iv y2, iv y1, iv en, rv b1, iv 1, iv 2, .unset, .unset, .unset, .unset, .unset, .unset] [] (st180) ?_
          refine own_go T180 m 117 #[iv x0, iv x1, iv x2, iv x3, iv x4, iv x5, iv s0, iv s1, iv s2, iv y2, iv y1, iv en, rv b1, iv 1, iv 2, .unset, .unset, .unset, .unset, .unset, .unset] [(.ref b1)] (fun t k => XS.aload X180.here hx rfl (hb hby at_115) rfl rfl k) ?_
          refine own_go T180 m 119 #[iv x0, iv x1, iv x2, iv x3, iv x4, iv x5, iv s0, iv s1, iv s2, iv y2, iv y1, iv en, rv b1, iv 1, iv 2, .unset, .unset, .unset, .unset, .unset, .unset] [(.int en), (.ref b1)] (fun t k => XS.iload X180.here hx rfl (hb hby at_117) rfl k) ?_
          obtain ⟨_, T187, L187, X187, ⟨rfl, Nq187, Kq187, fq0_187⟩, st187⟩ := own_virtual X180 hx hZ (y := (⟨OwnK0, "endRead", "(I)V"⟩ : MethodName)) (z := (⟨OwnK0, "endRead", "(I)V"⟩ : MethodName)) hown (own_w hw 44 rfl) (own_w hw 45 rfl) (notFace_of_selects (args := #[]) (mvT hZ (own_w hw 47 rfl))) (own_w hw 47 rfl) (own_w hw 46 rfl) (own_w hw 3 rfl) (own_w hw 48 rfl) (by decide) (sp21 l Z a0 hw [] b1 w3_2 w2_2 en kw3_2 kw2_2 T180.heap n0 Z_180 fq8_180 fq3_180 fq4_180 fq6_180 cf182 cf183 ne_b1_w3_2 (Ne.symm fq7_2) g_w3_2) rfl cf181 0 (argsL := [(.int en)]) (rest := []) (Ls := #[iv x0, iv x1, iv x2, iv x3, iv x4, iv x5, iv s0, iv s1, iv s2, iv y2, iv y1, iv en, rv b1, iv 1, iv 2, .unset, .unset, .unset, .unset, .unset, .unset]) (by rw [hml]; rfl) (lenOf pd__I_V rfl) rfl rfl (Nat.le_of_eq rfl) (hb hby at_119) (by decide) (by decide) (by decide) (by decide)
          have N187 := Fr.app N180 Nq187
          have cf188 := cf181.keep Kq187
          have cf189 := cf183.keep Kq187 (ninS fq7_2 nin0)
          have cf190 := cf184.keep Kq187 (ninS (Ne.symm fq9_2) nin0)
          have cf191 := cf185.keep Kq187 (ninS fq2_2 nin0)
          have cf192 := cf186.keep Kq187 (ninS fq5_2 nin0)
          have cf193 := fq0_180.keep Kq187 (ninS ne_b1_w3_2 nin0)
          have cf194 := fq1_180.keep Kq187 (ninS ne_b1_w3_2 nin0)
          have cf195 := fq2_180.keep Kq187 (ninS ne_b1_w3_2 nin0)
          have cf196 := fq3_180.keep Kq187 (ninS ne_b1_w3_2 nin0)
          have cf197 := fq4_180.keep Kq187 (ninS ne_b1_w3_2 nin0)
          have cf198 := fq5_180.keep Kq187 (ninS ne_b1_w3_2 nin0)
          have cf199 := fq6_180.keep Kq187 (ninS ne_b1_w3_2 nin0)
          have cf200 := fq7_180.keep Kq187 (ninS ne_b1_w3_2 nin0)
          have cf201 := fq8_180.keep Kq187 (ninS ne_b1_w3_2 nin0)
          have Z_187 : n0 ≤ T187.heap.size := Nat.le_trans Z_180 Kq187.1
          refine own_go T187 m 122 #[iv x0, iv x1, iv x2, iv x3, iv x4, iv x5, iv s0, iv s1, iv s2, iv y2, iv y1, iv en, rv b1, iv 1, iv 2, .unset, .unset, .unset, .unset, .unset, .unset] [] (st187) ?_
          refine own_go T187 m 124 #[iv x0, iv x1, iv x2, iv x3, iv x4, iv x5, iv s0, iv s1, iv s2, iv y2, iv y1, iv en, rv b1, iv 1, iv 2, .unset, .unset, .unset, .unset, .unset, .unset] [(.ref b1)] (fun t k => XS.aload X187.here hx rfl (hb hby at_122) rfl rfl k) ?_
          refine own_go T187 m 126 #[iv x0, iv x1, iv x2, iv x3, iv x4, iv x5, iv s0, iv s1, iv s2, iv y2, iv y1, iv en, rv b1, iv 1, iv 2, .unset, .unset, .unset, .unset, .unset, .unset] [(.int s1), (.ref b1)] (fun t k => XS.iload X187.here hx rfl (hb hby at_124) rfl k) ?_
          refine own_go T187 m 128 #[iv x0, iv x1, iv x2, iv x3, iv x4, iv x5, iv s0, iv s1, iv s2, iv y2, iv y1, iv en, rv b1, iv 1, iv 2, .unset, .unset, .unset, .unset, .unset, .unset] [(.int x5), (.int s1), (.ref b1)] (fun t k => XS.iload X187.here hx rfl (hb hby at_126) rfl k) ?_
          obtain ⟨_, T202, L202, X202, ⟨rfl, Nq202, Kq202, fq0_202, fq1_202, fq2_202, fq3_202, fq4_202, fq5_202, fq6_202, fq7_202, fq8_202⟩, st202⟩ := own_virtual X187 hx hZ (y := (⟨OwnK0, "find", "(II)I"⟩ : MethodName)) (z := (⟨OwnK0, "find", "(II)I"⟩ : MethodName)) hown (own_w hw 49 rfl) (own_w hw 50 rfl) (notFace_of_selects (args := #[]) (mvT hZ (own_w hw 52 rfl))) (own_w hw 52 rfl) (own_w hw 51 rfl) (own_w hw 3 rfl) (own_w hw 53 rfl) (by decide) (sp22 l Z a0 hw [] b1 w1_2 w3_2 w2_2 w4_2 w0_2 s1 x5 en s0 s2 kw3_2 kw2_2 kw0_2 T187.heap n0 Z_187 cf188 cf201 cf193 cf194 cf195 cf196 cf197 cf198 cf199 cf200 fq0_187 cf189 cf191 ne_b1_w1_2 ne_b1_w3_2 ne_b1_w2_2 ne_b1_w4_2 ne_b1_w0_2 g_b1 (own_db48 s0 s1 s2 y2 y1 en (y2 - s2) (y1 - s1) (s1 - s0) (s2 - s0) o1 o2 o3 o4 o5 o6 o7 o8 hc103_25 hc103_27 hc112_133 hc112_135) (own_db49 s0 s1 s2 y2 y1 en (y2 - s2) (y1 - s1) (s1 - s0) (s2 - s0) o1 o2 o3 o4 o5 o6 o7 o8 hc103_25 hc103_27 hc112_133 hc112_135) o2) rfl cf188 0 (argsL := [(.int s1), (.int x5)]) (rest := []) (Ls := #[iv x0, iv x1, iv x2, iv x3, iv x4, iv x5, iv s0, iv s1, iv s2, iv y2, iv y1, iv en, rv b1, iv 1, iv 2, .unset, .unset, .unset, .unset, .unset, .unset]) (by rw [hml]; rfl) (lenOf pd__II_I rfl) rfl rfl (Nat.le_of_eq rfl) (hb hby at_128) (by decide) (by decide) (by decide) (by decide)
          have N202 := Fr.app N187 Nq202
          have cf203 := cf188.keep Kq202
          have cf204 := cf189.keep Kq202 (ninS (Ne.symm ne_b1_w2_2) nin0)
          have cf205 := cf190.keep Kq202 (ninS (Ne.symm ne_b1_w4_2) nin0)
          have cf206 := cf191.keep Kq202 (ninS (Ne.symm ne_b1_w0_2) nin0)
          have cf207 := cf192.keep Kq202 (ninS (Ne.symm ne_b1_w1_2) nin0)
          have cf208 := fq0_187.keep Kq202 (ninS (Ne.symm ne_b1_w3_2) nin0)
          have Z_202 : n0 ≤ T202.heap.size := Nat.le_trans Z_187 Kq202.1
          refine own_go T202 m 131 #[iv x0, iv x1, iv x2, iv x3, iv x4, iv x5, iv s0, iv s1, iv s2, iv y2, iv y1, iv en, rv b1, iv 1, iv 2, .unset, .unset, .unset, .unset, .unset, .unset] [(.int (-1))] (st202) ?_
          refine own_go T202 m 133 #[iv x0, iv x1, iv x2, iv x3, iv x4, iv x5, iv s0, iv s1, iv s2, iv y2, iv y1, iv en, rv b1, iv 1, iv 2, iv (-1), .unset, .unset, .unset, .unset, .unset] [] (fun t k => XS.istore X202.here hx rfl (hb hby at_131) rfl rfl k) ?_
          refine own_go T202 m 135 #[iv x0, iv x1, iv x2, iv x3, iv x4, iv x5, iv s0, iv s1, iv s2, iv y2, iv y1, iv en, rv b1, iv 1, iv 2, iv (-1), .unset, .unset, .unset, .unset, .unset] [(.ref b1)] (fun t k => XS.aload X202.here hx rfl (hb hby at_133) rfl rfl k) ?_
          refine own_go T202 m 137 #[iv x0, iv x1, iv x2, iv x3, iv x4, iv x5, iv s0, iv s1, iv s2, iv y2, iv y1, iv en, rv b1, iv 1, iv 2, iv (-1), .unset, .unset, .unset, .unset, .unset] [(.int s2), (.ref b1)] (fun t k => XS.iload X202.here hx rfl (hb hby at_135) rfl k) ?_
          refine own_go T202 m 139 #[iv x0, iv x1, iv x2, iv x3, iv x4, iv x5, iv s0, iv s1, iv s2, iv y2, iv y1, iv en, rv b1, iv 1, iv 2, iv (-1), .unset, .unset, .unset, .unset, .unset] [(.int x5), (.int s2), (.ref b1)] (fun t k => XS.iload X202.here hx rfl (hb hby at_137) rfl k) ?_
          obtain ⟨_, T209, L209, X209, ⟨rfl, Nq209, Kq209, fq0_209, fq1_209, fq2_209, fq3_209, fq4_209, fq5_209, fq6_209, fq7_209, fq8_209⟩, st209⟩ := own_virtual X202 hx hZ (y := (⟨OwnK0, "find", "(II)I"⟩ : MethodName)) (z := (⟨OwnK0, "find", "(II)I"⟩ : MethodName)) hown (own_w hw 49 rfl) (own_w hw 50 rfl) (notFace_of_selects (args := #[]) (mvT hZ (own_w hw 52 rfl))) (own_w hw 52 rfl) (own_w hw 51 rfl) (own_w hw 3 rfl) (own_w hw 53 rfl) (by decide) (sp27 l Z a0 hw [] b1 w1_2 w3_2 w2_2 w4_2 w0_2 s2 x5 en s0 s1 kw3_2 kw2_2 kw0_2 T202.heap n0 Z_202 cf203 fq0_202 fq8_202 fq1_202 fq2_202 fq3_202 fq4_202 fq5_202 fq6_202 fq7_202 cf208 cf204 cf206 ne_b1_w1_2 ne_b1_w3_2 ne_b1_w2_2 ne_b1_w4_2 ne_b1_w0_2 g_b1 (own_db52 s0 s1 s2 y2 y1 en (y2 - s2) (y1 - s1) (s1 - s0) (s2 - s0) o1 o2 o3 o4 o5 o6 o7 o8 hc103_25 hc103_27 hc112_133 hc112_135) (own_db53 s0 s1 s2 y2 y1 en (y2 - s2) (y1 - s1) (s1 - s0) (s2 - s0) o1 o2 o3 o4 o5 o6 o7 o8 hc103_25 hc103_27 hc112_133 hc112_135) (own_db54 s0 s1 s2 y2 y1 en (y2 - s2) (y1 - s1) (s1 - s0) (s2 - s0) o1 o2 o3 o4 o5 o6 o7 o8 hc103_25 hc103_27 hc112_133 hc112_135)) rfl cf203 0 (argsL := [(.int s2), (.int x5)]) (rest := []) (Ls := #[iv x0, iv x1, iv x2, iv x3, iv x4, iv x5, iv s0, iv s1, iv s2, iv y2, iv y1, iv en, rv b1, iv 1, iv 2, iv (-1), .unset, .unset, .unset, .unset, .unset]) (by rw [hml]; rfl) (lenOf pd__II_I rfl) rfl rfl (Nat.le_of_eq rfl) (hb hby at_139) (by decide) (by decide) (by decide) (by decide)
          have N209 := Fr.app N202 Nq209
          have cf210 := cf203.keep Kq209
          have cf211 := cf204.keep Kq209 (ninS (Ne.symm ne_b1_w2_2) nin0)
          have cf212 := cf205.keep Kq209 (ninS (Ne.symm ne_b1_w4_2) nin0)
          have cf213 := cf206.keep Kq209 (ninS (Ne.symm ne_b1_w0_2) nin0)
          have cf214 := cf207.keep Kq209 (ninS (Ne.symm ne_b1_w1_2) nin0)
          have cf215 := cf208.keep Kq209 (ninS (Ne.symm ne_b1_w3_2) nin0)
          have Z_209 : n0 ≤ T209.heap.size := Nat.le_trans Z_202 Kq209.1
          refine own_go T209 m 142 #[iv x0, iv x1, iv x2, iv x3, iv x4, iv x5, iv s0, iv s1, iv s2, iv y2, iv y1, iv en, rv b1, iv 1, iv 2, iv (-1), .unset, .unset, .unset, .unset, .unset] [(.int (-1))] (st209) ?_
          refine own_go T209 m 144 #[iv x0, iv x1, iv x2, iv x3, iv x4, iv x5, iv s0, iv s1, iv s2, iv y2, iv y1, iv en, rv b1, iv 1, iv 2, iv (-1), iv (-1), .unset, .unset, .unset, .unset] [] (fun t k => XS.istore X209.here hx rfl (hb hby at_142) rfl rfl k) ?_
          refine own_go T209 m 146 #[iv x0, iv x1, iv x2, iv x3, iv x4, iv x5, iv s0, iv s1, iv s2, iv y2, iv y1, iv en, rv b1, iv 1, iv 2, iv (-1), iv (-1), .unset, .unset, .unset, .unset] [(.int y2)] (fun t k => XS.iload X209.here hx rfl (hb hby at_144) rfl k) ?_
          refine own_go T209 m 148 #[iv x0, iv x1, iv x2, iv x3, iv x4, iv x5, iv s0, iv s1, iv s2, iv y2, iv y1, iv en, rv b1, iv 1, iv 2, iv (-1), iv (-1), .unset, .unset, .unset, .unset] [(.int s2), (.int y2)] (fun t k => XS.iload X209.here hx rfl (hb hby at_146) rfl k) ?_
          refine own_go T209 m 149 #[iv x0, iv x1, iv x2, iv x3, iv x4, iv x5, iv s0, iv s1, iv s2, iv y2, iv y1, iv en, rv b1, iv 1, iv 2, iv (-1), iv (-1), .unset, .unset, .unset, .unset] [(.int (y2 - s2))] (fun t k => XS.isub X209.here hx rfl (hb hby at_148) rfl k) ?_
          refine own_go T209 m 151 #[iv x0, iv x1, iv x2, iv x3, iv x4, iv x5, iv s0, iv s1, iv s2, iv y2, iv y1, iv en, rv b1, iv 1, iv 2, iv (-1), iv (-1), .unset, .unset, .unset, .unset] [(.int 64), (.int (y2 - s2))] (fun t k => XS.bipush X209.here hx rfl (hb hby at_149) k) ?_
          refine own_go T209 m 158 #[iv x0, iv x1, iv x2, iv x3, iv x4, iv x5, iv s0, iv s1, iv s2, iv y2, iv y1, iv en, rv b1, iv 1, iv 2, iv (-1), iv (-1), .unset, .unset, .unset, .unset] [] (fun t k => XS.icmpYes X209.here hx rfl (pc0 := 151) (pc' := 158) rfl (hb hby at_151) rfl (tlt hc103_25).1 (by decide) (by decide) k) ?_
          refine own_go T209 m 159 #[iv x0, iv x1, iv x2, iv x3, iv x4, iv x5, iv s0, iv s1, iv s2, iv y2, iv y1, iv en, rv b1, iv 1, iv 2, iv (-1), iv (-1), .unset, .unset, .unset, .unset] [(.int 0)] (fun t k => XS.iconst X209.here hx rfl (hb hby at_158) k) ?_
          refine own_go T209 m 161 #[iv x0, iv x1, iv x2, iv x3, iv x4, iv x5, iv s0, iv s1, iv s2, iv y2, iv y1, iv en, rv b1, iv 1, iv 2, iv (-1), iv (-1), iv 0, .unset, .unset, .unset] [] (fun t k => XS.istore X209.here hx rfl (hb hby at_159) rfl rfl k) ?_
          refine own_go T209 m 163 #[iv x0, iv x1, iv x2, iv x3, iv x4, iv x5, iv s0, iv s1, iv s2, iv y2, iv y1, iv en, rv b1, iv 1, iv 2, iv (-1), iv (-1), iv 0, .unset, .unset, .unset] [(.int y1)] (fun t k => XS.iload X209.here hx rfl (hb hby at_161) rfl k) ?_
          refine own_go T209 m 165 #[iv x0, iv x1, iv x2, iv x3, iv x4, iv x5, iv s0, iv s1, iv s2, iv y2, iv y1, iv en, rv b1, iv 1, iv 2, iv (-1), iv (-1), iv 0, .unset, .unset, .unset] [(.int s1), (.int y1)] (fun t k => XS.iload X209.here hx rfl (hb hby at_163) rfl k) ?_
          refine own_go T209 m 166 #[iv x0, iv x1, iv x2, iv x3, iv x4, iv x5, iv s0, iv s1, iv s2, iv y2, iv y1, iv en, rv b1, iv 1, iv 2, iv (-1), iv (-1), iv 0, .unset, .unset, .unset] [(.int (y1 - s1))] (fun t k => XS.isub X209.here hx rfl (hb hby at_165) rfl k) ?_
          refine own_go T209 m 168 #[iv x0, iv x1, iv x2, iv x3, iv x4, iv x5, iv s0, iv s1, iv s2, iv y2, iv y1, iv en, rv b1, iv 1, iv 2, iv (-1), iv (-1), iv 0, .unset, .unset, .unset] [(.int 64), (.int (y1 - s1))] (fun t k => XS.bipush X209.here hx rfl (hb hby at_166) k) ?_
          refine own_go T209 m 171 #[iv x0, iv x1, iv x2, iv x3, iv x4, iv x5, iv s0, iv s1, iv s2, iv y2, iv y1, iv en, rv b1, iv 1, iv 2, iv (-1), iv (-1), iv 0, .unset, .unset, .unset] [] (fun t k => XS.icmpNo X209.here hx rfl (hb hby at_168) rfl (tlt hc112_133).2.1 k) ?_
          refine own_go T209 m 173 #[iv x0, iv x1, iv x2, iv x3, iv x4, iv x5, iv s0, iv s1, iv s2, iv y2, iv y1, iv en, rv b1, iv 1, iv 2, iv (-1), iv (-1), iv 0, .unset, .unset, .unset] [(.int s1)] (fun t k => XS.iload X209.here hx rfl (hb hby at_171) rfl k) ?_
          refine own_go T209 m 175 #[iv x0, iv x1, iv x2, iv x3, iv x4, iv x5, iv s0, iv s1, iv s2, iv y2, iv y1, iv en, rv b1, iv 1, iv 2, iv (-1), iv (-1), iv 0, .unset, .unset, .unset] [(.int s0), (.int s1)] (fun t k => XS.iload X209.here hx rfl (hb hby at_173) rfl k) ?_
          refine own_go T209 m 176 #[iv x0, iv x1, iv x2, iv x3, iv x4, iv x5, iv s0, iv s1, iv s2, iv y2, iv y1, iv en, rv b1, iv 1, iv 2, iv (-1), iv (-1), iv 0, .unset, .unset, .unset] [(.int (s1 - s0))] (fun t k => XS.isub X209.here hx rfl (hb hby at_175) rfl k) ?_
          refine own_go T209 m 178 #[iv x0, iv x1, iv x2, iv x3, iv x4, iv x5, iv s0, iv s1, iv s2, iv y2, iv y1, iv en, rv b1, iv 1, iv 2, iv (-1), iv (-1), iv 0, .unset, .unset, .unset] [(.int 64), (.int (s1 - s0))] (fun t k => XS.bipush X209.here hx rfl (hb hby at_176) k) ?_
          refine own_go T209 m 185 #[iv x0, iv x1, iv x2, iv x3, iv x4, iv x5, iv s0, iv s1, iv s2, iv y2, iv y1, iv en, rv b1, iv 1, iv 2, iv (-1), iv (-1), iv 0, .unset, .unset, .unset] [] (fun t k => XS.icmpYes X209.here hx rfl (pc0 := 178) (pc' := 185) rfl (hb hby at_178) rfl (flt hc112_135).2.1 (by decide) (by decide) k) ?_
          refine own_go T209 m 186 #[iv x0, iv x1, iv x2, iv x3, iv x4, iv x5, iv s0, iv s1, iv s2, iv y2, iv y1, iv en, rv b1, iv 1, iv 2, iv (-1), iv (-1), iv 0, .unset, .unset, .unset] [(.int 0)] (fun t k => XS.iconst X209.here hx rfl (hb hby at_185) k) ?_
          refine own_go T209 m 188 #[iv x0, iv x1, iv x2, iv x3, iv x4, iv x5, iv s0, iv s1, iv s2, iv y2, iv y1, iv en, rv b1, iv 1, iv 2, iv (-1), iv (-1), iv 0, iv 0, .unset, .unset] [] (fun t k => XS.istore X209.here hx rfl (hb hby at_186) rfl rfl k) ?_
          refine own_go T209 m 190 #[iv x0, iv x1, iv x2, iv x3, iv x4, iv x5, iv s0, iv s1, iv s2, iv y2, iv y1, iv en, rv b1, iv 1, iv 2, iv (-1), iv (-1), iv 0, iv 0, .unset, .unset] [(.int 0)] (fun t k => XS.iload X209.here hx rfl (hb hby at_188) rfl k) ?_
          refine own_go T209 m 198 #[iv x0, iv x1, iv x2, iv x3, iv x4, iv x5, iv s0, iv s1, iv s2, iv y2, iv y1, iv en, rv b1, iv 1, iv 2, iv (-1), iv (-1), iv 0, iv 0, .unset, .unset] [] (fun t k => XS.ifYes X209.here hx rfl (pc0 := 190) (pc' := 198) rfl (hb hby at_190) rfl ((if0 _ _).trans (teq (by decide)).1) (by decide) (by decide) k) ?_
          refine own_go T209 m 199 #[iv x0, iv x1, iv x2, iv x3, iv x4, iv x5, iv s0, iv s1, iv s2, iv y2, iv y1, iv en, rv b1, iv 1, iv 2, iv (-1), iv (-1), iv 0, iv 0, .unset, .unset] [(.int (-1))] (fun t k => XS.iconst X209.here hx rfl (hb hby at_198) k) ?_
          refine own_go T209 m 201 #[iv x0, iv x1, iv x2, iv x3, iv x4, iv x5, iv s0, iv s1, iv s2, iv y2, iv y1, iv en, rv b1, iv 1, iv 2, iv (-1), iv (-1), iv 0, iv 0, iv (-1), .unset] [] (fun t k => XS.istore X209.here hx rfl (hb hby at_199) rfl rfl k) ?_
          refine own_go T209 m 203 #[iv x0, iv x1, iv x2, iv x3, iv x4, iv x5, iv s0, iv s1, iv s2, iv y2, iv y1, iv en, rv b1, iv 1, iv 2, iv (-1), iv (-1), iv 0, iv 0, iv (-1), .unset] [(.int 0)] (fun t k => XS.iload X209.here hx rfl (hb hby at_201) rfl k) ?_
          refine own_go T209 m 211 #[iv x0, iv x1, iv x2, iv x3, iv x4, iv x5, iv s0, iv s1, iv s2, iv y2, iv y1, iv en, rv b1, iv 1, iv 2, iv (-1), iv (-1), iv 0, iv 0, iv (-1), .unset] [] (fun t k => XS.ifYes X209.here hx rfl (pc0 := 203) (pc' := 211) rfl (hb hby at_203) rfl ((if0 _ _).trans (teq (by decide)).1) (by decide) (by decide) k) ?_
          refine own_go T209 m 212 #[iv x0, iv x1, iv x2, iv x3, iv x4, iv x5, iv s0, iv s1, iv s2, iv y2, iv y1, iv en, rv b1, iv 1, iv 2, iv (-1), iv (-1), iv 0, iv 0, iv (-1), .unset] [(.int (-1))] (fun t k => XS.iconst X209.here hx rfl (hb hby at_211) k) ?_
          refine own_go T209 m 214 #[iv x0, iv x1, iv x2, iv x3, iv x4, iv x5, iv s0, iv s1, iv s2, iv y2, iv y1, iv en, rv b1, iv 1, iv 2, iv (-1), iv (-1), iv 0, iv 0, iv (-1), iv (-1)] [] (fun t k => XS.istore X209.here hx rfl (hb hby at_212) rfl rfl k) ?_
          refine own_go T209 m 216 #[iv x0, iv x1, iv x2, iv x3, iv x4, iv x5, iv s0, iv s1, iv s2, iv y2, iv y1, iv en, rv b1, iv 1, iv 2, iv (-1), iv (-1), iv 0, iv 0, iv (-1), iv (-1)] [(.int (-1))] (fun t k => XS.iload X209.here hx rfl (hb hby at_214) rfl k) ?_
          refine own_go T209 m 218 #[iv x0, iv x1, iv x2, iv x3, iv x4, iv x5, iv s0, iv s1, iv s2, iv y2, iv y1, iv en, rv b1, iv 1, iv 2, iv (-1), iv (-1), iv 0, iv 0, iv (-1), iv (-1)] [(.int (-1)), (.int (-1))] (fun t k => XS.iload X209.here hx rfl (hb hby at_216) rfl k) ?_
          refine own_go T209 m 221 #[iv x0, iv x1, iv x2, iv x3, iv x4, iv x5, iv s0, iv s1, iv s2, iv y2, iv y1, iv en, rv b1, iv 1, iv 2, iv (-1), iv (-1), iv 0, iv 0, iv (-1), iv (-1)] [] (fun t k => XS.icmpNo X209.here hx rfl (hb hby at_218) rfl (teq (by decide)).2 k) ?_
          refine own_go T209 m 223 #[iv x0, iv x1, iv x2, iv x3, iv x4, iv x5, iv s0, iv s1, iv s2, iv y2, iv y1, iv en, rv b1, iv 1, iv 2, iv (-1), iv (-1), iv 0, iv 0, iv (-1), iv (-1)] [(.int (-1))] (fun t k => XS.iload X209.here hx rfl (hb hby at_221) rfl k) ?_
          refine own_go T209 m 225 #[iv x0, iv x1, iv x2, iv x3, iv x4, iv x5, iv s0, iv s1, iv s2, iv y2, iv y1, iv en, rv b1, iv 1, iv 2, iv (-1), iv (-1), iv 0, iv 0, iv (-1), iv (-1)] [(.int (-1)), (.int (-1))] (fun t k => XS.iload X209.here hx rfl (hb hby at_223) rfl k) ?_
          refine own_go T209 m 228 #[iv x0, iv x1, iv x2, iv x3, iv x4, iv x5, iv s0, iv s1, iv s2, iv y2, iv y1, iv en, rv b1, iv 1, iv 2, iv (-1), iv (-1), iv 0, iv 0, iv (-1), iv (-1)] [] (fun t k => XS.icmpNo X209.here hx rfl (hb hby at_225) rfl (teq (by decide)).2 k) ?_
          refine own_go T209 m 229 #[iv x0, iv x1, iv x2, iv x3, iv x4, iv x5, iv s0, iv s1, iv s2, iv y2, iv y1, iv en, rv b1, iv 1, iv 2, iv (-1), iv (-1), iv 0, iv 0, iv (-1), iv (-1)] [(.int 1)] (fun t k => XS.iconst X209.here hx rfl (hb hby at_228) k) ?_
          refine own_go T209 m 233 #[iv x0, iv x1, iv x2, iv x3, iv x4, iv x5, iv s0, iv s1, iv s2, iv y2, iv y1, iv en, rv b1, iv 1, iv 2, iv (-1), iv (-1), iv 0, iv 0, iv (-1), iv (-1)] [(.int 1)] (fun t k => XS.goto X209.here hx rfl (pc0 := 229) (pc' := 233) rfl (hb hby at_229) (by decide) (by decide) k) ?_
          refine own_retZ X209 hx hlk hret (by decide) (hb hby at_233) (by decide) (by decide) ?_
          exact ⟨rfl, N209⟩
      · by_cases hc112_217 : (s1 - s0) < (64 : Int32)
        · obtain ⟨_, T218, L218, X218, ⟨rfl, Nq218, Kq218, fq0_218⟩, st218⟩ := own_virtual X125 hx hZ (y := (⟨OwnK0, "closed", "(II)V"⟩ : MethodName)) (z := (⟨OwnK0, "closed", "(II)V"⟩ : MethodName)) hown (own_w hw 39 rfl) (own_w hw 40 rfl) (notFace_of_selects (args := #[]) (mvT hZ (own_w hw 42 rfl))) (own_w hw 42 rfl) (own_w hw 41 rfl) (own_w hw 3 rfl) (own_w hw 43 rfl) (by decide) (sp18 l Z a0 hw [] b1 w1_2 w2_2 w0_2 y1 s0 s1 s2 kw1_2 kw2_2 kw0_2 T125.heap n0 Z_125 fq1_125 fq4_125 fq6_125 fq7_125 cf131 cf128 cf130 ne_b1_w1_2 fq4_2 (Ne.symm fq0_2) g_w1_2 hc112_133 hc112_217) rfl cf126 0 (argsL := [(.int 1), (.int y1)]) (rest := []) (Ls := #[iv x0, iv x1, iv x2, iv x3, iv x4, iv x5, iv s0, iv s1, iv s2, iv y2, iv y1, iv en, rv b1, iv 1, iv 2, .unset, .unset, .unset, .unset, .unset, .unset]) (by rw [hml]; rfl) (lenOf pd__II_V rfl) rfl rfl (Nat.le_of_eq rfl) (hb hby at_112) (by decide) (by decide) (by decide) (by decide)
          have N218 := Fr.app N125 Nq218
          have cf219 := cf126.keep Kq218
          have cf220 := cf127.keep Kq218 (ninS (Ne.symm fq5_2) nin0)
          have cf221 := cf128.keep Kq218 (ninS (Ne.symm fq4_2) nin0)
          have cf222 := cf129.keep Kq218 (ninS (Ne.symm fq6_2) nin0)
          have cf223 := cf130.keep Kq218 (ninS fq0_2 nin0)
          have cf224 := fq0_125.keep Kq218 (ninS ne_b1_w1_2 nin0)
          have cf225 := fq1_125.keep Kq218 (ninS ne_b1_w1_2 nin0)
          have cf226 := fq2_125.keep Kq218 (ninS ne_b1_w1_2 nin0)
          have cf227 := fq3_125.keep Kq218 (ninS ne_b1_w1_2 nin0)
          have cf228 := fq4_125.keep Kq218 (ninS ne_b1_w1_2 nin0)
          have cf229 := fq5_125.keep Kq218 (ninS ne_b1_w1_2 nin0)
          have cf230 := fq6_125.keep Kq218 (ninS ne_b1_w1_2 nin0)
          have cf231 := fq7_125.keep Kq218 (ninS ne_b1_w1_2 nin0)
          have cf232 := fq8_125.keep Kq218 (ninS ne_b1_w1_2 nin0)
          have Z_218 : n0 ≤ T218.heap.size := Nat.le_trans Z_125 Kq218.1
          refine own_go T218 m 115 #[iv x0, iv x1, iv x2, iv x3, iv x4, iv x5, iv s0, iv s1, iv s2, iv y2, iv y1, iv en, rv b1, iv 1, iv 2, .unset, .unset, .unset, .unset, .unset, .unset] [] (st218) ?_
          refine own_go T218 m 117 #[iv x0, iv x1, iv x2, iv x3, iv x4, iv x5, iv s0, iv s1, iv s2, iv y2, iv y1, iv en, rv b1, iv 1, iv 2, .unset, .unset, .unset, .unset, .unset, .unset] [(.ref b1)] (fun t k => XS.aload X218.here hx rfl (hb hby at_115) rfl rfl k) ?_
          refine own_go T218 m 119 #[iv x0, iv x1, iv x2, iv x3, iv x4, iv x5, iv s0, iv s1, iv s2, iv y2, iv y1, iv en, rv b1, iv 1, iv 2, .unset, .unset, .unset, .unset, .unset, .unset] [(.int en), (.ref b1)] (fun t k => XS.iload X218.here hx rfl (hb hby at_117) rfl k) ?_
          obtain ⟨_, T233, L233, X233, ⟨rfl, Nq233, Kq233, fq0_233⟩, st233⟩ := own_virtual X218 hx hZ (y := (⟨OwnK0, "endRead", "(I)V"⟩ : MethodName)) (z := (⟨OwnK0, "endRead", "(I)V"⟩ : MethodName)) hown (own_w hw 44 rfl) (own_w hw 45 rfl) (notFace_of_selects (args := #[]) (mvT hZ (own_w hw 47 rfl))) (own_w hw 47 rfl) (own_w hw 46 rfl) (own_w hw 3 rfl) (own_w hw 48 rfl) (by decide) (sp8 l Z a0 hw [] b1 w3_2 w2_2 en kw3_2 kw2_2 T218.heap n0 Z_218 cf232 cf227 cf228 cf230 cf220 cf221 ne_b1_w3_2 (Ne.symm fq7_2) g_w3_2) rfl cf219 0 (argsL := [(.int en)]) (rest := []) (Ls := #[iv x0, iv x1, iv x2, iv x3, iv x4, iv x5, iv s0, iv s1, iv s2, iv y2, iv y1, iv en, rv b1, iv 1, iv 2, .unset, .unset, .unset, .unset, .unset, .unset]) (by rw [hml]; rfl) (lenOf pd__I_V rfl) rfl rfl (Nat.le_of_eq rfl) (hb hby at_119) (by decide) (by decide) (by decide) (by decide)
          have N233 := Fr.app N218 Nq233
          have cf234 := cf219.keep Kq233
          have cf235 := cf221.keep Kq233 (ninS fq7_2 nin0)
          have cf236 := cf222.keep Kq233 (ninS (Ne.symm fq9_2) nin0)
          have cf237 := cf223.keep Kq233 (ninS fq2_2 nin0)
          have cf238 := cf224.keep Kq233 (ninS ne_b1_w3_2 nin0)
          have cf239 := cf225.keep Kq233 (ninS ne_b1_w3_2 nin0)
          have cf240 := cf226.keep Kq233 (ninS ne_b1_w3_2 nin0)
          have cf241 := cf227.keep Kq233 (ninS ne_b1_w3_2 nin0)
          have cf242 := cf228.keep Kq233 (ninS ne_b1_w3_2 nin0)
          have cf243 := cf229.keep Kq233 (ninS ne_b1_w3_2 nin0)
          have cf244 := cf230.keep Kq233 (ninS ne_b1_w3_2 nin0)
          have cf245 := cf231.keep Kq233 (ninS ne_b1_w3_2 nin0)
          have cf246 := cf232.keep Kq233 (ninS ne_b1_w3_2 nin0)
          have cf247 := fq0_218.keep Kq233 (ninS fq5_2 nin0)
          have Z_233 : n0 ≤ T233.heap.size := Nat.le_trans Z_218 Kq233.1
          refine own_go T233 m 122 #[iv x0, iv x1, iv x2, iv x3, iv x4, iv x5, iv s0, iv s1, iv s2, iv y2, iv y1, iv en, rv b1, iv 1, iv 2, .unset, .unset, .unset, .unset, .unset, .unset] [] (st233) ?_
          refine own_go T233 m 124 #[iv x0, iv x1, iv x2, iv x3, iv x4, iv x5, iv s0, iv s1, iv s2, iv y2, iv y1, iv en, rv b1, iv 1, iv 2, .unset, .unset, .unset, .unset, .unset, .unset] [(.ref b1)] (fun t k => XS.aload X233.here hx rfl (hb hby at_122) rfl rfl k) ?_
          refine own_go T233 m 126 #[iv x0, iv x1, iv x2, iv x3, iv x4, iv x5, iv s0, iv s1, iv s2, iv y2, iv y1, iv en, rv b1, iv 1, iv 2, .unset, .unset, .unset, .unset, .unset, .unset] [(.int s1), (.ref b1)] (fun t k => XS.iload X233.here hx rfl (hb hby at_124) rfl k) ?_
          refine own_go T233 m 128 #[iv x0, iv x1, iv x2, iv x3, iv x4, iv x5, iv s0, iv s1, iv s2, iv y2, iv y1, iv en, rv b1, iv 1, iv 2, .unset, .unset, .unset, .unset, .unset, .unset] [(.int x5), (.int s1), (.ref b1)] (fun t k => XS.iload X233.here hx rfl (hb hby at_126) rfl k) ?_
          obtain ⟨_, T248, L248, X248, ⟨rfl, Nq248, Kq248, fq0_248, fq1_248, fq2_248, fq3_248, fq4_248, fq5_248, fq6_248, fq7_248, fq8_248⟩, st248⟩ := own_virtual X233 hx hZ (y := (⟨OwnK0, "find", "(II)I"⟩ : MethodName)) (z := (⟨OwnK0, "find", "(II)I"⟩ : MethodName)) hown (own_w hw 49 rfl) (own_w hw 50 rfl) (notFace_of_selects (args := #[]) (mvT hZ (own_w hw 52 rfl))) (own_w hw 52 rfl) (own_w hw 51 rfl) (own_w hw 3 rfl) (own_w hw 53 rfl) (by decide) (sp9 l Z a0 hw [] b1 w1_2 w3_2 w2_2 w4_2 w0_2 s1 x5 y1 en s0 s2 kw1_2 kw3_2 kw2_2 kw0_2 T233.heap n0 Z_233 cf234 cf246 cf238 cf239 cf240 cf241 cf242 cf243 cf244 cf245 cf247 fq0_233 cf235 cf237 ne_b1_w1_2 ne_b1_w3_2 ne_b1_w2_2 ne_b1_w4_2 ne_b1_w0_2 g_b1 (own_db58 s0 s1 s2 y2 y1 en (y2 - s2) (y1 - s1) (s1 - s0) (s2 - s0) o1 o2 o3 o4 o5 o6 o7 o8 hc103_25 hc103_27 hc112_133 hc112_217) (own_db59 s0 s1 s2 y2 y1 en (y2 - s2) (y1 - s1) (s1 - s0) (s2 - s0) o1 o2 o3 o4 o5 o6 o7 o8 hc103_25 hc103_27 hc112_133 hc112_217) o2 (own_db60 s0 s1 s2 y2 y1 en (y2 - s2) (y1 - s1) (s1 - s0) (s2 - s0) o1 o2 o3 o4 o5 o6 o7 o8 hc103_25 hc103_27 hc112_133 hc112_217) (own_db61 s0 s1 s2 y2 y1 en (y2 - s2) (y1 - s1) (s1 - s0) (s2 - s0) o1 o2 o3 o4 o5 o6 o7 o8 hc103_25 hc103_27 hc112_133 hc112_217)) rfl cf234 0 (argsL := [(.int s1), (.int x5)]) (rest := []) (Ls := #[iv x0, iv x1, iv x2, iv x3, iv x4, iv x5, iv s0, iv s1, iv s2, iv y2, iv y1, iv en, rv b1, iv 1, iv 2, .unset, .unset, .unset, .unset, .unset, .unset]) (by rw [hml]; rfl) (lenOf pd__II_I rfl) rfl rfl (Nat.le_of_eq rfl) (hb hby at_128) (by decide) (by decide) (by decide) (by decide)
          have N248 := Fr.app N233 Nq248
          have cf249 := cf234.keep Kq248
          have cf250 := cf235.keep Kq248 (ninS (Ne.symm ne_b1_w2_2) nin0)
          have cf251 := cf236.keep Kq248 (ninS (Ne.symm ne_b1_w4_2) nin0)
          have cf252 := cf237.keep Kq248 (ninS (Ne.symm ne_b1_w0_2) nin0)
          have cf253 := cf247.keep Kq248 (ninS (Ne.symm ne_b1_w1_2) nin0)
          have cf254 := fq0_233.keep Kq248 (ninS (Ne.symm ne_b1_w3_2) nin0)
          have Z_248 : n0 ≤ T248.heap.size := Nat.le_trans Z_233 Kq248.1
          refine own_go T248 m 131 #[iv x0, iv x1, iv x2, iv x3, iv x4, iv x5, iv s0, iv s1, iv s2, iv y2, iv y1, iv en, rv b1, iv 1, iv 2, .unset, .unset, .unset, .unset, .unset, .unset] [(.int y1)] (st248) ?_
          refine own_go T248 m 133 #[iv x0, iv x1, iv x2, iv x3, iv x4, iv x5, iv s0, iv s1, iv s2, iv y2, iv y1, iv en, rv b1, iv 1, iv 2, iv y1, .unset, .unset, .unset, .unset, .unset] [] (fun t k => XS.istore X248.here hx rfl (hb hby at_131) rfl rfl k) ?_
          refine own_go T248 m 135 #[iv x0, iv x1, iv x2, iv x3, iv x4, iv x5, iv s0, iv s1, iv s2, iv y2, iv y1, iv en, rv b1, iv 1, iv 2, iv y1, .unset, .unset, .unset, .unset, .unset] [(.ref b1)] (fun t k => XS.aload X248.here hx rfl (hb hby at_133) rfl rfl k) ?_
          refine own_go T248 m 137 #[iv x0, iv x1, iv x2, iv x3, iv x4, iv x5, iv s0, iv s1, iv s2, iv y2, iv y1, iv en, rv b1, iv 1, iv 2, iv y1, .unset, .unset, .unset, .unset, .unset] [(.int s2), (.ref b1)] (fun t k => XS.iload X248.here hx rfl (hb hby at_135) rfl k) ?_
          refine own_go T248 m 139 #[iv x0, iv x1, iv x2, iv x3, iv x4, iv x5, iv s0, iv s1, iv s2, iv y2, iv y1, iv en, rv b1, iv 1, iv 2, iv y1, .unset, .unset, .unset, .unset, .unset] [(.int x5), (.int s2), (.ref b1)] (fun t k => XS.iload X248.here hx rfl (hb hby at_137) rfl k) ?_
          obtain ⟨_, T255, L255, X255, ⟨rfl, Nq255, Kq255, fq0_255, fq1_255, fq2_255, fq3_255, fq4_255, fq5_255, fq6_255, fq7_255, fq8_255⟩, st255⟩ := own_virtual X248 hx hZ (y := (⟨OwnK0, "find", "(II)I"⟩ : MethodName)) (z := (⟨OwnK0, "find", "(II)I"⟩ : MethodName)) hown (own_w hw 49 rfl) (own_w hw 50 rfl) (notFace_of_selects (args := #[]) (mvT hZ (own_w hw 52 rfl))) (own_w hw 52 rfl) (own_w hw 51 rfl) (own_w hw 3 rfl) (own_w hw 53 rfl) (by decide) (sp15 l Z a0 hw [] b1 w1_2 w3_2 w2_2 w4_2 w0_2 s2 x5 en s0 s1 kw3_2 kw2_2 kw0_2 T248.heap n0 Z_248 cf249 fq0_248 fq8_248 fq1_248 fq2_248 fq3_248 fq4_248 fq5_248 fq6_248 fq7_248 cf254 cf250 cf252 ne_b1_w1_2 ne_b1_w3_2 ne_b1_w2_2 ne_b1_w4_2 ne_b1_w0_2 g_b1 (own_db66 s0 s1 s2 y2 y1 en (y2 - s2) (y1 - s1) (s1 - s0) (s2 - s0) o1 o2 o3 o4 o5 o6 o7 o8 hc103_25 hc103_27 hc112_133 hc112_217) (own_db67 s0 s1 s2 y2 y1 en (y2 - s2) (y1 - s1) (s1 - s0) (s2 - s0) o1 o2 o3 o4 o5 o6 o7 o8 hc103_25 hc103_27 hc112_133 hc112_217) (own_db68 s0 s1 s2 y2 y1 en (y2 - s2) (y1 - s1) (s1 - s0) (s2 - s0) o1 o2 o3 o4 o5 o6 o7 o8 hc103_25 hc103_27 hc112_133 hc112_217) o3) rfl cf249 0 (argsL := [(.int s2), (.int x5)]) (rest := []) (Ls := #[iv x0, iv x1, iv x2, iv x3, iv x4, iv x5, iv s0, iv s1, iv s2, iv y2, iv y1, iv en, rv b1, iv 1, iv 2, iv y1, .unset, .unset, .unset, .unset, .unset]) (by rw [hml]; rfl) (lenOf pd__II_I rfl) rfl rfl (Nat.le_of_eq rfl) (hb hby at_139) (by decide) (by decide) (by decide) (by decide)
          have N255 := Fr.app N248 Nq255
          have cf256 := cf249.keep Kq255
          have cf257 := cf250.keep Kq255 (ninS (Ne.symm ne_b1_w2_2) nin0)
          have cf258 := cf251.keep Kq255 (ninS (Ne.symm ne_b1_w4_2) nin0)
          have cf259 := cf252.keep Kq255 (ninS (Ne.symm ne_b1_w0_2) nin0)
          have cf260 := cf253.keep Kq255 (ninS (Ne.symm ne_b1_w1_2) nin0)
          have cf261 := cf254.keep Kq255 (ninS (Ne.symm ne_b1_w3_2) nin0)
          have Z_255 : n0 ≤ T255.heap.size := Nat.le_trans Z_248 Kq255.1
          refine own_go T255 m 142 #[iv x0, iv x1, iv x2, iv x3, iv x4, iv x5, iv s0, iv s1, iv s2, iv y2, iv y1, iv en, rv b1, iv 1, iv 2, iv y1, .unset, .unset, .unset, .unset, .unset] [(.int (-1))] (st255) ?_
          refine own_go T255 m 144 #[iv x0, iv x1, iv x2, iv x3, iv x4, iv x5, iv s0, iv s1, iv s2, iv y2, iv y1, iv en, rv b1, iv 1, iv 2, iv y1, iv (-1), .unset, .unset, .unset, .unset] [] (fun t k => XS.istore X255.here hx rfl (hb hby at_142) rfl rfl k) ?_
          refine own_go T255 m 146 #[iv x0, iv x1, iv x2, iv x3, iv x4, iv x5, iv s0, iv s1, iv s2, iv y2, iv y1, iv en, rv b1, iv 1, iv 2, iv y1, iv (-1), .unset, .unset, .unset, .unset] [(.int y2)] (fun t k => XS.iload X255.here hx rfl (hb hby at_144) rfl k) ?_
          refine own_go T255 m 148 #[iv x0, iv x1, iv x2, iv x3, iv x4, iv x5, iv s0, iv s1, iv s2, iv y2, iv y1, iv en, rv b1, iv 1, iv 2, iv y1, iv (-1), .unset, .unset, .unset, .unset] [(.int s2), (.int y2)] (fun t k => XS.iload X255.here hx rfl (hb hby at_146) rfl k) ?_
          refine own_go T255 m 149 #[iv x0, iv x1, iv x2, iv x3, iv x4, iv x5, iv s0, iv s1, iv s2, iv y2, iv y1, iv en, rv b1, iv 1, iv 2, iv y1, iv (-1), .unset, .unset, .unset, .unset] [(.int (y2 - s2))] (fun t k => XS.isub X255.here hx rfl (hb hby at_148) rfl k) ?_
          refine own_go T255 m 151 #[iv x0, iv x1, iv x2, iv x3, iv x4, iv x5, iv s0, iv s1, iv s2, iv y2, iv y1, iv en, rv b1, iv 1, iv 2, iv y1, iv (-1), .unset, .unset, .unset, .unset] [(.int 64), (.int (y2 - s2))] (fun t k => XS.bipush X255.here hx rfl (hb hby at_149) k) ?_
          refine own_go T255 m 158 #[iv x0, iv x1, iv x2, iv x3, iv x4, iv x5, iv s0, iv s1, iv s2, iv y2, iv y1, iv en, rv b1, iv 1, iv 2, iv y1, iv (-1), .unset, .unset, .unset, .unset] [] (fun t k => XS.icmpYes X255.here hx rfl (pc0 := 151) (pc' := 158) rfl (hb hby at_151) rfl (tlt hc103_25).1 (by decide) (by decide) k) ?_
          refine own_go T255 m 159 #[iv x0, iv x1, iv x2, iv x3, iv x4, iv x5, iv s0, iv s1, iv s2, iv y2, iv y1, iv en, rv b1, iv 1, iv 2, iv y1, iv (-1), .unset, .unset, .unset, .unset] [(.int 0)] (fun t k => XS.iconst X255.here hx rfl (hb hby at_158) k) ?_
          refine own_go T255 m 161 #[iv x0, iv x1, iv x2, iv x3, iv x4, iv x5, iv s0, iv s1, iv s2, iv y2, iv y1, iv en, rv b1, iv 1, iv 2, iv y1, iv (-1), iv 0, .unset, .unset, .unset] [] (fun t k => XS.istore X255.here hx rfl (hb hby at_159) rfl rfl k) ?_
          refine own_go T255 m 163 #[iv x0, iv x1, iv x2, iv x3, iv x4, iv x5, iv s0, iv s1, iv s2, iv y2, iv y1, iv en, rv b1, iv 1, iv 2, iv y1, iv (-1), iv 0, .unset, .unset, .unset] [(.int y1)] (fun t k => XS.iload X255.here hx rfl (hb hby at_161) rfl k) ?_
          refine own_go T255 m 165 #[iv x0, iv x1, iv x2, iv x3, iv x4, iv x5, iv s0, iv s1, iv s2, iv y2, iv y1, iv en, rv b1, iv 1, iv 2, iv y1, iv (-1), iv 0, .unset, .unset, .unset] [(.int s1), (.int y1)] (fun t k => XS.iload X255.here hx rfl (hb hby at_163) rfl k) ?_
          refine own_go T255 m 166 #[iv x0, iv x1, iv x2, iv x3, iv x4, iv x5, iv s0, iv s1, iv s2, iv y2, iv y1, iv en, rv b1, iv 1, iv 2, iv y1, iv (-1), iv 0, .unset, .unset, .unset] [(.int (y1 - s1))] (fun t k => XS.isub X255.here hx rfl (hb hby at_165) rfl k) ?_
          refine own_go T255 m 168 #[iv x0, iv x1, iv x2, iv x3, iv x4, iv x5, iv s0, iv s1, iv s2, iv y2, iv y1, iv en, rv b1, iv 1, iv 2, iv y1, iv (-1), iv 0, .unset, .unset, .unset] [(.int 64), (.int (y1 - s1))] (fun t k => XS.bipush X255.here hx rfl (hb hby at_166) k) ?_
          refine own_go T255 m 181 #[iv x0, iv x1, iv x2, iv x3, iv x4, iv x5, iv s0, iv s1, iv s2, iv y2, iv y1, iv en, rv b1, iv 1, iv 2, iv y1, iv (-1), iv 0, .unset, .unset, .unset] [] (fun t k => XS.icmpYes X255.here hx rfl (pc0 := 168) (pc' := 181) rfl (hb hby at_168) rfl (flt hc112_133).2.1 (by decide) (by decide) k) ?_
          refine own_go T255 m 182 #[iv x0, iv x1, iv x2, iv x3, iv x4, iv x5, iv s0, iv s1, iv s2, iv y2, iv y1, iv en, rv b1, iv 1, iv 2, iv y1, iv (-1), iv 0, .unset, .unset, .unset] [(.int 1)] (fun t k => XS.iconst X255.here hx rfl (hb hby at_181) k) ?_
          refine own_go T255 m 186 #[iv x0, iv x1, iv x2, iv x3, iv x4, iv x5, iv s0, iv s1, iv s2, iv y2, iv y1, iv en, rv b1, iv 1, iv 2, iv y1, iv (-1), iv 0, .unset, .unset, .unset] [(.int 1)] (fun t k => XS.goto X255.here hx rfl (pc0 := 182) (pc' := 186) rfl (hb hby at_182) (by decide) (by decide) k) ?_
          refine own_go T255 m 188 #[iv x0, iv x1, iv x2, iv x3, iv x4, iv x5, iv s0, iv s1, iv s2, iv y2, iv y1, iv en, rv b1, iv 1, iv 2, iv y1, iv (-1), iv 0, iv 1, .unset, .unset] [] (fun t k => XS.istore X255.here hx rfl (hb hby at_186) rfl rfl k) ?_
          refine own_go T255 m 190 #[iv x0, iv x1, iv x2, iv x3, iv x4, iv x5, iv s0, iv s1, iv s2, iv y2, iv y1, iv en, rv b1, iv 1, iv 2, iv y1, iv (-1), iv 0, iv 1, .unset, .unset] [(.int 1)] (fun t k => XS.iload X255.here hx rfl (hb hby at_188) rfl k) ?_
          refine own_go T255 m 193 #[iv x0, iv x1, iv x2, iv x3, iv x4, iv x5, iv s0, iv s1, iv s2, iv y2, iv y1, iv en, rv b1, iv 1, iv 2, iv y1, iv (-1), iv 0, iv 1, .unset, .unset] [] (fun t k => XS.ifNo X255.here hx rfl (hb hby at_190) rfl ((if0 _ _).trans (feq (by decide)).1) k) ?_
          refine own_go T255 m 195 #[iv x0, iv x1, iv x2, iv x3, iv x4, iv x5, iv s0, iv s1, iv s2, iv y2, iv y1, iv en, rv b1, iv 1, iv 2, iv y1, iv (-1), iv 0, iv 1, .unset, .unset] [(.int y1)] (fun t k => XS.iload X255.here hx rfl (hb hby at_193) rfl k) ?_
          refine own_go T255 m 199 #[iv x0, iv x1, iv x2, iv x3, iv x4, iv x5, iv s0, iv s1, iv s2, iv y2, iv y1, iv en, rv b1, iv 1, iv 2, iv y1, iv (-1), iv 0, iv 1, .unset, .unset] [(.int y1)] (fun t k => XS.goto X255.here hx rfl (pc0 := 195) (pc' := 199) rfl (hb hby at_195) (by decide) (by decide) k) ?_
          refine own_go T255 m 201 #[iv x0, iv x1, iv x2, iv x3, iv x4, iv x5, iv s0, iv s1, iv s2, iv y2, iv y1, iv en, rv b1, iv 1, iv 2, iv y1, iv (-1), iv 0, iv 1, iv y1, .unset] [] (fun t k => XS.istore X255.here hx rfl (hb hby at_199) rfl rfl k) ?_
          refine own_go T255 m 203 #[iv x0, iv x1, iv x2, iv x3, iv x4, iv x5, iv s0, iv s1, iv s2, iv y2, iv y1, iv en, rv b1, iv 1, iv 2, iv y1, iv (-1), iv 0, iv 1, iv y1, .unset] [(.int 0)] (fun t k => XS.iload X255.here hx rfl (hb hby at_201) rfl k) ?_
          refine own_go T255 m 211 #[iv x0, iv x1, iv x2, iv x3, iv x4, iv x5, iv s0, iv s1, iv s2, iv y2, iv y1, iv en, rv b1, iv 1, iv 2, iv y1, iv (-1), iv 0, iv 1, iv y1, .unset] [] (fun t k => XS.ifYes X255.here hx rfl (pc0 := 203) (pc' := 211) rfl (hb hby at_203) rfl ((if0 _ _).trans (teq (by decide)).1) (by decide) (by decide) k) ?_
          refine own_go T255 m 212 #[iv x0, iv x1, iv x2, iv x3, iv x4, iv x5, iv s0, iv s1, iv s2, iv y2, iv y1, iv en, rv b1, iv 1, iv 2, iv y1, iv (-1), iv 0, iv 1, iv y1, .unset] [(.int (-1))] (fun t k => XS.iconst X255.here hx rfl (hb hby at_211) k) ?_
          refine own_go T255 m 214 #[iv x0, iv x1, iv x2, iv x3, iv x4, iv x5, iv s0, iv s1, iv s2, iv y2, iv y1, iv en, rv b1, iv 1, iv 2, iv y1, iv (-1), iv 0, iv 1, iv y1, iv (-1)] [] (fun t k => XS.istore X255.here hx rfl (hb hby at_212) rfl rfl k) ?_
          refine own_go T255 m 216 #[iv x0, iv x1, iv x2, iv x3, iv x4, iv x5, iv s0, iv s1, iv s2, iv y2, iv y1, iv en, rv b1, iv 1, iv 2, iv y1, iv (-1), iv 0, iv 1, iv y1, iv (-1)] [(.int y1)] (fun t k => XS.iload X255.here hx rfl (hb hby at_214) rfl k) ?_
          refine own_go T255 m 218 #[iv x0, iv x1, iv x2, iv x3, iv x4, iv x5, iv s0, iv s1, iv s2, iv y2, iv y1, iv en, rv b1, iv 1, iv 2, iv y1, iv (-1), iv 0, iv 1, iv y1, iv (-1)] [(.int y1), (.int y1)] (fun t k => XS.iload X255.here hx rfl (hb hby at_216) rfl k) ?_
          refine own_go T255 m 221 #[iv x0, iv x1, iv x2, iv x3, iv x4, iv x5, iv s0, iv s1, iv s2, iv y2, iv y1, iv en, rv b1, iv 1, iv 2, iv y1, iv (-1), iv 0, iv 1, iv y1, iv (-1)] [] (fun t k => XS.icmpNo X255.here hx rfl (hb hby at_218) rfl (teq rfl).2 k) ?_
          refine own_go T255 m 223 #[iv x0, iv x1, iv x2, iv x3, iv x4, iv x5, iv s0, iv s1, iv s2, iv y2, iv y1, iv en, rv b1, iv 1, iv 2, iv y1, iv (-1), iv 0, iv 1, iv y1, iv (-1)] [(.int (-1))] (fun t k => XS.iload X255.here hx rfl (hb hby at_221) rfl k) ?_
          refine own_go T255 m 225 #[iv x0, iv x1, iv x2, iv x3, iv x4, iv x5, iv s0, iv s1, iv s2, iv y2, iv y1, iv en, rv b1, iv 1, iv 2, iv y1, iv (-1), iv 0, iv 1, iv y1, iv (-1)] [(.int (-1)), (.int (-1))] (fun t k => XS.iload X255.here hx rfl (hb hby at_223) rfl k) ?_
          refine own_go T255 m 228 #[iv x0, iv x1, iv x2, iv x3, iv x4, iv x5, iv s0, iv s1, iv s2, iv y2, iv y1, iv en, rv b1, iv 1, iv 2, iv y1, iv (-1), iv 0, iv 1, iv y1, iv (-1)] [] (fun t k => XS.icmpNo X255.here hx rfl (hb hby at_225) rfl (teq (by decide)).2 k) ?_
          refine own_go T255 m 229 #[iv x0, iv x1, iv x2, iv x3, iv x4, iv x5, iv s0, iv s1, iv s2, iv y2, iv y1, iv en, rv b1, iv 1, iv 2, iv y1, iv (-1), iv 0, iv 1, iv y1, iv (-1)] [(.int 1)] (fun t k => XS.iconst X255.here hx rfl (hb hby at_228) k) ?_
          refine own_go T255 m 233 #[iv x0, iv x1, iv x2, iv x3, iv x4, iv x5, iv s0, iv s1, iv s2, iv y2, iv y1, iv en, rv b1, iv 1, iv 2, iv y1, iv (-1), iv 0, iv 1, iv y1, iv (-1)] [(.int 1)] (fun t k => XS.goto X255.here hx rfl (pc0 := 229) (pc' := 233) rfl (hb hby at_229) (by decide) (by decide) k) ?_
          refine own_retZ X255 hx hlk hret (by decide) (hb hby at_233) (by decide) (by decide) ?_
          exact ⟨rfl, N255⟩
        · obtain ⟨_, T262, L262, X262, ⟨rfl, Nq262, Kq262, fq0_262⟩, st262⟩ := own_virtual X125 hx hZ (y := (⟨OwnK0, "closed", "(II)V"⟩ : MethodName)) (z := (⟨OwnK0, "closed", "(II)V"⟩ : MethodName)) hown (own_w hw 39 rfl) (own_w hw 40 rfl) (notFace_of_selects (args := #[]) (mvT hZ (own_w hw 42 rfl))) (own_w hw 42 rfl) (own_w hw 41 rfl) (own_w hw 3 rfl) (own_w hw 43 rfl) (by decide) (sp29 l Z a0 hw [] b1 w1_2 w2_2 w0_2 y1 s0 s1 s2 kw1_2 kw2_2 kw0_2 T125.heap n0 Z_125 fq1_125 fq4_125 fq6_125 fq7_125 cf131 cf128 cf130 ne_b1_w1_2 fq4_2 (Ne.symm fq0_2) g_w1_2 hc112_133 hc112_217) rfl cf126 0 (argsL := [(.int 1), (.int y1)]) (rest := []) (Ls := #[iv x0, iv x1, iv x2, iv x3, iv x4, iv x5, iv s0, iv s1, iv s2, iv y2, iv y1, iv en, rv b1, iv 1, iv 2, .unset, .unset, .unset, .unset, .unset, .unset]) (by rw [hml]; rfl) (lenOf pd__II_V rfl) rfl rfl (Nat.le_of_eq rfl) (hb hby at_112) (by decide) (by decide) (by decide) (by decide)
          have N262 := Fr.app N125 Nq262
          have cf263 := cf126.keep Kq262
          have cf264 := cf127.keep Kq262 (ninS (Ne.symm fq5_2) nin0)
          have cf265 := cf128.keep Kq262 (ninS (Ne.symm fq4_2) nin0)
          have cf266 := cf129.keep Kq262 (ninS (Ne.symm fq6_2) nin0)
          have cf267 := cf130.keep Kq262 (ninS fq0_2 nin0)
          have cf268 := fq0_125.keep Kq262 (ninS ne_b1_w1_2 nin0)
          have cf269 := fq1_125.keep Kq262 (ninS ne_b1_w1_2 nin0)
          have cf270 := fq2_125.keep Kq262 (ninS ne_b1_w1_2 nin0)
          have cf271 := fq3_125.keep Kq262 (ninS ne_b1_w1_2 nin0)
          have cf272 := fq4_125.keep Kq262 (ninS ne_b1_w1_2 nin0)
          have cf273 := fq5_125.keep Kq262 (ninS ne_b1_w1_2 nin0)
          have cf274 := fq6_125.keep Kq262 (ninS ne_b1_w1_2 nin0)
          have cf275 := fq7_125.keep Kq262 (ninS ne_b1_w1_2 nin0)
          have cf276 := fq8_125.keep Kq262 (ninS ne_b1_w1_2 nin0)
          have Z_262 : n0 ≤ T262.heap.size := Nat.le_trans Z_125 Kq262.1
          refine own_go T262 m 115 #[iv x0, iv x1, iv x2, iv x3, iv x4, iv x5, iv s0, iv s1, iv s2, iv y2, iv y1, iv en, rv b1, iv 1, iv 2, .unset, .unset, .unset, .unset, .unset, .unset] [] (st262) ?_
          refine own_go T262 m 117 #[iv x0, iv x1, iv x2, iv x3, iv x4, iv x5, iv s0, iv s1, iv s2, iv y2, iv y1, iv en, rv b1, iv 1, iv 2, .unset, .unset, .unset, .unset, .unset, .unset] [(.ref b1)] (fun t k => XS.aload X262.here hx rfl (hb hby at_115) rfl rfl k) ?_
          refine own_go T262 m 119 #[iv x0, iv x1, iv x2, iv x3, iv x4, iv x5, iv s0, iv s1, iv s2, iv y2, iv y1, iv en, rv b1, iv 1, iv 2, .unset, .unset, .unset, .unset, .unset, .unset] [(.int en), (.ref b1)] (fun t k => XS.iload X262.here hx rfl (hb hby at_117) rfl k) ?_
          obtain ⟨_, T277, L277, X277, ⟨rfl, Nq277, Kq277, fq0_277⟩, st277⟩ := own_virtual X262 hx hZ (y := (⟨OwnK0, "endRead", "(I)V"⟩ : MethodName)) (z := (⟨OwnK0, "endRead", "(I)V"⟩ : MethodName)) hown (own_w hw 44 rfl) (own_w hw 45 rfl) (notFace_of_selects (args := #[]) (mvT hZ (own_w hw 47 rfl))) (own_w hw 47 rfl) (own_w hw 46 rfl) (own_w hw 3 rfl) (own_w hw 48 rfl) (by decide) (sp8 l Z a0 hw [] b1 w3_2 w2_2 en kw3_2 kw2_2 T262.heap n0 Z_262 cf276 cf271 cf272 cf274 cf264 cf265 ne_b1_w3_2 (Ne.symm fq7_2) g_w3_2) rfl cf263 0 (argsL := [(.int en)]) (rest := []) (Ls := #[iv x0, iv x1, iv x2, iv x3, iv x4, iv x5, iv s0, iv s1, iv s2, iv y2, iv y1, iv en, rv b1, iv 1, iv 2, .unset, .unset, .unset, .unset, .unset, .unset]) (by rw [hml]; rfl) (lenOf pd__I_V rfl) rfl rfl (Nat.le_of_eq rfl) (hb hby at_119) (by decide) (by decide) (by decide) (by decide)
          have N277 := Fr.app N262 Nq277
          have cf278 := cf263.keep Kq277
          have cf279 := cf265.keep Kq277 (ninS fq7_2 nin0)
          have cf280 := cf266.keep Kq277 (ninS (Ne.symm fq9_2) nin0)
          have cf281 := cf267.keep Kq277 (ninS fq2_2 nin0)
          have cf282 := cf268.keep Kq277 (ninS ne_b1_w3_2 nin0)
          have cf283 := cf269.keep Kq277 (ninS ne_b1_w3_2 nin0)
          have cf284 := cf270.keep Kq277 (ninS ne_b1_w3_2 nin0)
          have cf285 := cf271.keep Kq277 (ninS ne_b1_w3_2 nin0)
          have cf286 := cf272.keep Kq277 (ninS ne_b1_w3_2 nin0)
          have cf287 := cf273.keep Kq277 (ninS ne_b1_w3_2 nin0)
          have cf288 := cf274.keep Kq277 (ninS ne_b1_w3_2 nin0)
          have cf289 := cf275.keep Kq277 (ninS ne_b1_w3_2 nin0)
          have cf290 := cf276.keep Kq277 (ninS ne_b1_w3_2 nin0)
          have cf291 := fq0_262.keep Kq277 (ninS fq5_2 nin0)
          have Z_277 : n0 ≤ T277.heap.size := Nat.le_trans Z_262 Kq277.1
          refine own_go T277 m 122 #[iv x0, iv x1, iv x2, iv x3, iv x4, iv x5, iv s0, iv s1, iv s2, iv y2, iv y1, iv en, rv b1, iv 1, iv 2, .unset, .unset, .unset, .unset, .unset, .unset] [] (st277) ?_
          refine own_go T277 m 124 #[iv x0, iv x1, iv x2, iv x3, iv x4, iv x5, iv s0, iv s1, iv s2, iv y2, iv y1, iv en, rv b1, iv 1, iv 2, .unset, .unset, .unset, .unset, .unset, .unset] [(.ref b1)] (fun t k => XS.aload X277.here hx rfl (hb hby at_122) rfl rfl k) ?_
          refine own_go T277 m 126 #[iv x0, iv x1, iv x2, iv x3, iv x4, iv x5, iv s0, iv s1, iv s2, iv y2, iv y1, iv en, rv b1, iv 1, iv 2, .unset, .unset, .unset, .unset, .unset, .unset] [(.int s1), (.ref b1)] (fun t k => XS.iload X277.here hx rfl (hb hby at_124) rfl k) ?_
          refine own_go T277 m 128 #[iv x0, iv x1, iv x2, iv x3, iv x4, iv x5, iv s0, iv s1, iv s2, iv y2, iv y1, iv en, rv b1, iv 1, iv 2, .unset, .unset, .unset, .unset, .unset, .unset] [(.int x5), (.int s1), (.ref b1)] (fun t k => XS.iload X277.here hx rfl (hb hby at_126) rfl k) ?_
          obtain ⟨_, T292, L292, X292, ⟨rfl, Nq292, Kq292, fq0_292, fq1_292, fq2_292, fq3_292, fq4_292, fq5_292, fq6_292, fq7_292, fq8_292⟩, st292⟩ := own_virtual X277 hx hZ (y := (⟨OwnK0, "find", "(II)I"⟩ : MethodName)) (z := (⟨OwnK0, "find", "(II)I"⟩ : MethodName)) hown (own_w hw 49 rfl) (own_w hw 50 rfl) (notFace_of_selects (args := #[]) (mvT hZ (own_w hw 52 rfl))) (own_w hw 52 rfl) (own_w hw 51 rfl) (own_w hw 3 rfl) (own_w hw 53 rfl) (by decide) (sp9 l Z a0 hw [] b1 w1_2 w3_2 w2_2 w4_2 w0_2 s1 x5 y1 en s0 s2 kw1_2 kw3_2 kw2_2 kw0_2 T277.heap n0 Z_277 cf278 cf290 cf282 cf283 cf284 cf285 cf286 cf287 cf288 cf289 cf291 fq0_277 cf279 cf281 ne_b1_w1_2 ne_b1_w3_2 ne_b1_w2_2 ne_b1_w4_2 ne_b1_w0_2 g_b1 (own_db72 s0 s1 s2 y2 y1 en (y2 - s2) (y1 - s1) (s1 - s0) (s2 - s0) o1 o2 o3 o4 o5 o6 o7 o8 hc103_25 hc103_27 hc112_133 hc112_217) (own_db73 s0 s1 s2 y2 y1 en (y2 - s2) (y1 - s1) (s1 - s0) (s2 - s0) o1 o2 o3 o4 o5 o6 o7 o8 hc103_25 hc103_27 hc112_133 hc112_217) o2 (own_db74 s0 s1 s2 y2 y1 en (y2 - s2) (y1 - s1) (s1 - s0) (s2 - s0) o1 o2 o3 o4 o5 o6 o7 o8 hc103_25 hc103_27 hc112_133 hc112_217) (own_db75 s0 s1 s2 y2 y1 en (y2 - s2) (y1 - s1) (s1 - s0) (s2 - s0) o1 o2 o3 o4 o5 o6 o7 o8 hc103_25 hc103_27 hc112_133 hc112_217)) rfl cf278 0 (argsL := [(.int s1), (.int x5)]) (rest := []) (Ls := #[iv x0, iv x1, iv x2, iv x3, iv x4, iv x5, iv s0, iv s1, iv s2, iv y2, iv y1, iv en, rv b1, iv 1, iv 2, .unset, .unset, .unset, .unset, .unset, .unset]) (by rw [hml]; rfl) (lenOf pd__II_I rfl) rfl rfl (Nat.le_of_eq rfl) (hb hby at_128) (by decide) (by decide) (by decide) (by decide)
          have N292 := Fr.app N277 Nq292
          have cf293 := cf278.keep Kq292
          have cf294 := cf279.keep Kq292 (ninS (Ne.symm ne_b1_w2_2) nin0)
          have cf295 := cf280.keep Kq292 (ninS (Ne.symm ne_b1_w4_2) nin0)
          have cf296 := cf281.keep Kq292 (ninS (Ne.symm ne_b1_w0_2) nin0)
          have cf297 := cf291.keep Kq292 (ninS (Ne.symm ne_b1_w1_2) nin0)
          have cf298 := fq0_277.keep Kq292 (ninS (Ne.symm ne_b1_w3_2) nin0)
          have Z_292 : n0 ≤ T292.heap.size := Nat.le_trans Z_277 Kq292.1
          refine own_go T292 m 131 #[iv x0, iv x1, iv x2, iv x3, iv x4, iv x5, iv s0, iv s1, iv s2, iv y2, iv y1, iv en, rv b1, iv 1, iv 2, .unset, .unset, .unset, .unset, .unset, .unset] [(.int y1)] (st292) ?_
          refine own_go T292 m 133 #[iv x0, iv x1, iv x2, iv x3, iv x4, iv x5, iv s0, iv s1, iv s2, iv y2, iv y1, iv en, rv b1, iv 1, iv 2, iv y1, .unset, .unset, .unset, .unset, .unset] [] (fun t k => XS.istore X292.here hx rfl (hb hby at_131) rfl rfl k) ?_
          refine own_go T292 m 135 #[iv x0, iv x1, iv x2, iv x3, iv x4, iv x5, iv s0, iv s1, iv s2, iv y2, iv y1, iv en, rv b1, iv 1, iv 2, iv y1, .unset, .unset, .unset, .unset, .unset] [(.ref b1)] (fun t k => XS.aload X292.here hx rfl (hb hby at_133) rfl rfl k) ?_
          refine own_go T292 m 137 #[iv x0, iv x1, iv x2, iv x3, iv x4, iv x5, iv s0, iv s1, iv s2, iv y2, iv y1, iv en, rv b1, iv 1, iv 2, iv y1, .unset, .unset, .unset, .unset, .unset] [(.int s2), (.ref b1)] (fun t k => XS.iload X292.here hx rfl (hb hby at_135) rfl k) ?_
          refine own_go T292 m 139 #[iv x0, iv x1, iv x2, iv x3, iv x4, iv x5, iv s0, iv s1, iv s2, iv y2, iv y1, iv en, rv b1, iv 1, iv 2, iv y1, .unset, .unset, .unset, .unset, .unset] [(.int x5), (.int s2), (.ref b1)] (fun t k => XS.iload X292.here hx rfl (hb hby at_137) rfl k) ?_
          obtain ⟨_, T299, L299, X299, ⟨rfl, Nq299, Kq299, fq0_299, fq1_299, fq2_299, fq3_299, fq4_299, fq5_299, fq6_299, fq7_299, fq8_299⟩, st299⟩ := own_virtual X292 hx hZ (y := (⟨OwnK0, "find", "(II)I"⟩ : MethodName)) (z := (⟨OwnK0, "find", "(II)I"⟩ : MethodName)) hown (own_w hw 49 rfl) (own_w hw 50 rfl) (notFace_of_selects (args := #[]) (mvT hZ (own_w hw 52 rfl))) (own_w hw 52 rfl) (own_w hw 51 rfl) (own_w hw 3 rfl) (own_w hw 53 rfl) (by decide) (sp15 l Z a0 hw [] b1 w1_2 w3_2 w2_2 w4_2 w0_2 s2 x5 en s0 s1 kw3_2 kw2_2 kw0_2 T292.heap n0 Z_292 cf293 fq0_292 fq8_292 fq1_292 fq2_292 fq3_292 fq4_292 fq5_292 fq6_292 fq7_292 cf298 cf294 cf296 ne_b1_w1_2 ne_b1_w3_2 ne_b1_w2_2 ne_b1_w4_2 ne_b1_w0_2 g_b1 (own_db80 s0 s1 s2 y2 y1 en (y2 - s2) (y1 - s1) (s1 - s0) (s2 - s0) o1 o2 o3 o4 o5 o6 o7 o8 hc103_25 hc103_27 hc112_133 hc112_217) (own_db81 s0 s1 s2 y2 y1 en (y2 - s2) (y1 - s1) (s1 - s0) (s2 - s0) o1 o2 o3 o4 o5 o6 o7 o8 hc103_25 hc103_27 hc112_133 hc112_217) (own_db82 s0 s1 s2 y2 y1 en (y2 - s2) (y1 - s1) (s1 - s0) (s2 - s0) o1 o2 o3 o4 o5 o6 o7 o8 hc103_25 hc103_27 hc112_133 hc112_217) o3) rfl cf293 0 (argsL := [(.int s2), (.int x5)]) (rest := []) (Ls := #[iv x0, iv x1, iv x2, iv x3, iv x4, iv x5, iv s0, iv s1, iv s2, iv y2, iv y1, iv en, rv b1, iv 1, iv 2, iv y1, .unset, .unset, .unset, .unset, .unset]) (by rw [hml]; rfl) (lenOf pd__II_I rfl) rfl rfl (Nat.le_of_eq rfl) (hb hby at_139) (by decide) (by decide) (by decide) (by decide)
          have N299 := Fr.app N292 Nq299
          have cf300 := cf293.keep Kq299
          have cf301 := cf294.keep Kq299 (ninS (Ne.symm ne_b1_w2_2) nin0)
          have cf302 := cf295.keep Kq299 (ninS (Ne.symm ne_b1_w4_2) nin0)
          have cf303 := cf296.keep Kq299 (ninS (Ne.symm ne_b1_w0_2) nin0)
          have cf304 := cf297.keep Kq299 (ninS (Ne.symm ne_b1_w1_2) nin0)
          have cf305 := cf298.keep Kq299 (ninS (Ne.symm ne_b1_w3_2) nin0)
          have Z_299 : n0 ≤ T299.heap.size := Nat.le_trans Z_292 Kq299.1
          refine own_go T299 m 142 #[iv x0, iv x1, iv x2, iv x3, iv x4, iv x5, iv s0, iv s1, iv s2, iv y2, iv y1, iv en, rv b1, iv 1, iv 2, iv y1, .unset, .unset, .unset, .unset, .unset] [(.int (-1))] (st299) ?_
          refine own_go T299 m 144 #[iv x0, iv x1, iv x2, iv x3, iv x4, iv x5, iv s0, iv s1, iv s2, iv y2, iv y1, iv en, rv b1, iv 1, iv 2, iv y1, iv (-1), .unset, .unset, .unset, .unset] [] (fun t k => XS.istore X299.here hx rfl (hb hby at_142) rfl rfl k) ?_
          refine own_go T299 m 146 #[iv x0, iv x1, iv x2, iv x3, iv x4, iv x5, iv s0, iv s1, iv s2, iv y2, iv y1, iv en, rv b1, iv 1, iv 2, iv y1, iv (-1), .unset, .unset, .unset, .unset] [(.int y2)] (fun t k => XS.iload X299.here hx rfl (hb hby at_144) rfl k) ?_
          refine own_go T299 m 148 #[iv x0, iv x1, iv x2, iv x3, iv x4, iv x5, iv s0, iv s1, iv s2, iv y2, iv y1, iv en, rv b1, iv 1, iv 2, iv y1, iv (-1), .unset, .unset, .unset, .unset] [(.int s2), (.int y2)] (fun t k => XS.iload X299.here hx rfl (hb hby at_146) rfl k) ?_
          refine own_go T299 m 149 #[iv x0, iv x1, iv x2, iv x3, iv x4, iv x5, iv s0, iv s1, iv s2, iv y2, iv y1, iv en, rv b1, iv 1, iv 2, iv y1, iv (-1), .unset, .unset, .unset, .unset] [(.int (y2 - s2))] (fun t k => XS.isub X299.here hx rfl (hb hby at_148) rfl k) ?_
          refine own_go T299 m 151 #[iv x0, iv x1, iv x2, iv x3, iv x4, iv x5, iv s0, iv s1, iv s2, iv y2, iv y1, iv en, rv b1, iv 1, iv 2, iv y1, iv (-1), .unset, .unset, .unset, .unset] [(.int 64), (.int (y2 - s2))] (fun t k => XS.bipush X299.here hx rfl (hb hby at_149) k) ?_
          refine own_go T299 m 158 #[iv x0, iv x1, iv x2, iv x3, iv x4, iv x5, iv s0, iv s1, iv s2, iv y2, iv y1, iv en, rv b1, iv 1, iv 2, iv y1, iv (-1), .unset, .unset, .unset, .unset] [] (fun t k => XS.icmpYes X299.here hx rfl (pc0 := 151) (pc' := 158) rfl (hb hby at_151) rfl (tlt hc103_25).1 (by decide) (by decide) k) ?_
          refine own_go T299 m 159 #[iv x0, iv x1, iv x2, iv x3, iv x4, iv x5, iv s0, iv s1, iv s2, iv y2, iv y1, iv en, rv b1, iv 1, iv 2, iv y1, iv (-1), .unset, .unset, .unset, .unset] [(.int 0)] (fun t k => XS.iconst X299.here hx rfl (hb hby at_158) k) ?_
          refine own_go T299 m 161 #[iv x0, iv x1, iv x2, iv x3, iv x4, iv x5, iv s0, iv s1, iv s2, iv y2, iv y1, iv en, rv b1, iv 1, iv 2, iv y1, iv (-1), iv 0, .unset, .unset, .unset] [] (fun t k => XS.istore X299.here hx rfl (hb hby at_159) rfl rfl k) ?_
          refine own_go T299 m 163 #[iv x0, iv x1, iv x2, iv x3, iv x4, iv x5, iv s0, iv s1, iv s2, iv y2, iv y1, iv en, rv b1, iv 1, iv 2, iv y1, iv (-1), iv 0, .unset, .unset, .unset] [(.int y1)] (fun t k => XS.iload X299.here hx rfl (hb hby at_161) rfl k) ?_
          refine own_go T299 m 165 #[iv x0, iv x1, iv x2, iv x3, iv x4, iv x5, iv s0, iv s1, iv s2, iv y2, iv y1, iv en, rv b1, iv 1, iv 2, iv y1, iv (-1), iv 0, .unset, .unset, .unset] [(.int s1), (.int y1)] (fun t k => XS.iload X299.here hx rfl (hb hby at_163) rfl k) ?_
          refine own_go T299 m 166 #[iv x0, iv x1, iv x2, iv x3, iv x4, iv x5, iv s0, iv s1, iv s2, iv y2, iv y1, iv en, rv b1, iv 1, iv 2, iv y1, iv (-1), iv 0, .unset, .unset, .unset] [(.int (y1 - s1))] (fun t k => XS.isub X299.here hx rfl (hb hby at_165) rfl k) ?_
          refine own_go T299 m 168 #[iv x0, iv x1, iv x2, iv x3, iv x4, iv x5, iv s0, iv s1, iv s2, iv y2, iv y1, iv en, rv b1, iv 1, iv 2, iv y1, iv (-1), iv 0, .unset, .unset, .unset] [(.int 64), (.int (y1 - s1))] (fun t k => XS.bipush X299.here hx rfl (hb hby at_166) k) ?_
          refine own_go T299 m 181 #[iv x0, iv x1, iv x2, iv x3, iv x4, iv x5, iv s0, iv s1, iv s2, iv y2, iv y1, iv en, rv b1, iv 1, iv 2, iv y1, iv (-1), iv 0, .unset, .unset, .unset] [] (fun t k => XS.icmpYes X299.here hx rfl (pc0 := 168) (pc' := 181) rfl (hb hby at_168) rfl (flt hc112_133).2.1 (by decide) (by decide) k) ?_
          refine own_go T299 m 182 #[iv x0, iv x1, iv x2, iv x3, iv x4, iv x5, iv s0, iv s1, iv s2, iv y2, iv y1, iv en, rv b1, iv 1, iv 2, iv y1, iv (-1), iv 0, .unset, .unset, .unset] [(.int 1)] (fun t k => XS.iconst X299.here hx rfl (hb hby at_181) k) ?_
          refine own_go T299 m 186 #[iv x0, iv x1, iv x2, iv x3, iv x4, iv x5, iv s0, iv s1, iv s2, iv y2, iv y1, iv en, rv b1, iv 1, iv 2, iv y1, iv (-1), iv 0, .unset, .unset, .unset] [(.int 1)] (fun t k => XS.goto X299.here hx rfl (pc0 := 182) (pc' := 186) rfl (hb hby at_182) (by decide) (by decide) k) ?_
          refine own_go T299 m 188 #[iv x0, iv x1, iv x2, iv x3, iv x4, iv x5, iv s0, iv s1, iv s2, iv y2, iv y1, iv en, rv b1, iv 1, iv 2, iv y1, iv (-1), iv 0, iv 1, .unset, .unset] [] (fun t k => XS.istore X299.here hx rfl (hb hby at_186) rfl rfl k) ?_
          refine own_go T299 m 190 #[iv x0, iv x1, iv x2, iv x3, iv x4, iv x5, iv s0, iv s1, iv s2, iv y2, iv y1, iv en, rv b1, iv 1, iv 2, iv y1, iv (-1), iv 0, iv 1, .unset, .unset] [(.int 1)] (fun t k => XS.iload X299.here hx rfl (hb hby at_188) rfl k) ?_
          refine own_go T299 m 193 #[iv x0, iv x1, iv x2, iv x3, iv x4, iv x5, iv s0, iv s1, iv s2, iv y2, iv y1, iv en, rv b1, iv 1, iv 2, iv y1, iv (-1), iv 0, iv 1, .unset, .unset] [] (fun t k => XS.ifNo X299.here hx rfl (hb hby at_190) rfl ((if0 _ _).trans (feq (by decide)).1) k) ?_
          refine own_go T299 m 195 #[iv x0, iv x1, iv x2, iv x3, iv x4, iv x5, iv s0, iv s1, iv s2, iv y2, iv y1, iv en, rv b1, iv 1, iv 2, iv y1, iv (-1), iv 0, iv 1, .unset, .unset] [(.int y1)] (fun t k => XS.iload X299.here hx rfl (hb hby at_193) rfl k) ?_
          refine own_go T299 m 199 #[iv x0, iv x1, iv x2, iv x3, iv x4, iv x5, iv s0, iv s1, iv s2, iv y2, iv y1, iv en, rv b1, iv 1, iv 2, iv y1, iv (-1), iv 0, iv 1, .unset, .unset] [(.int y1)] (fun t k => XS.goto X299.here hx rfl (pc0 := 195) (pc' := 199) rfl (hb hby at_195) (by decide) (by decide) k) ?_
          refine own_go T299 m 201 #[iv x0, iv x1, iv x2, iv x3, iv x4, iv x5, iv s0, iv s1, iv s2, iv y2, iv y1, iv en, rv b1, iv 1, iv 2, iv y1, iv (-1), iv 0, iv 1, iv y1, .unset] [] (fun t k => XS.istore X299.here hx rfl (hb hby at_199) rfl rfl k) ?_
          refine own_go T299 m 203 #[iv x0, iv x1, iv x2, iv x3, iv x4, iv x5, iv s0, iv s1, iv s2, iv y2, iv y1, iv en, rv b1, iv 1, iv 2, iv y1, iv (-1), iv 0, iv 1, iv y1, .unset] [(.int 0)] (fun t k => XS.iload X299.here hx rfl (hb hby at_201) rfl k) ?_
          refine own_go T299 m 211 #[iv x0, iv x1, iv x2, iv x3, iv x4, iv x5, iv s0, iv s1, iv s2, iv y2, iv y1, iv en, rv b1, iv 1, iv 2, iv y1, iv (-1), iv 0, iv 1, iv y1, .unset] [] (fun t k => XS.ifYes X299.here hx rfl (pc0 := 203) (pc' := 211) rfl (hb hby at_203) rfl ((if0 _ _).trans (teq (by decide)).1) (by decide) (by decide) k) ?_
          refine own_go T299 m 212 #[iv x0, iv x1, iv x2, iv x3, iv x4, iv x5, iv s0, iv s1, iv s2, iv y2, iv y1, iv en, rv b1, iv 1, iv 2, iv y1, iv (-1), iv 0, iv 1, iv y1, .unset] [(.int (-1))] (fun t k => XS.iconst X299.here hx rfl (hb hby at_211) k) ?_
          refine own_go T299 m 214 #[iv x0, iv x1, iv x2, iv x3, iv x4, iv x5, iv s0, iv s1, iv s2, iv y2, iv y1, iv en, rv b1, iv 1, iv 2, iv y1, iv (-1), iv 0, iv 1, iv y1, iv (-1)] [] (fun t k => XS.istore X299.here hx rfl (hb hby at_212) rfl rfl k) ?_
          refine own_go T299 m 216 #[iv x0, iv x1, iv x2, iv x3, iv x4, iv x5, iv s0, iv s1, iv s2, iv y2, iv y1, iv en, rv b1, iv 1, iv 2, iv y1, iv (-1), iv 0, iv 1, iv y1, iv (-1)] [(.int y1)] (fun t k => XS.iload X299.here hx rfl (hb hby at_214) rfl k) ?_
          refine own_go T299 m 218 #[iv x0, iv x1, iv x2, iv x3, iv x4, iv x5, iv s0, iv s1, iv s2, iv y2, iv y1, iv en, rv b1, iv 1, iv 2, iv y1, iv (-1), iv 0, iv 1, iv y1, iv (-1)] [(.int y1), (.int y1)] (fun t k => XS.iload X299.here hx rfl (hb hby at_216) rfl k) ?_
          refine own_go T299 m 221 #[iv x0, iv x1, iv x2, iv x3, iv x4, iv x5, iv s0, iv s1, iv s2, iv y2, iv y1, iv en, rv b1, iv 1, iv 2, iv y1, iv (-1), iv 0, iv 1, iv y1, iv (-1)] [] (fun t k => XS.icmpNo X299.here hx rfl (hb hby at_218) rfl (teq rfl).2 k) ?_
          refine own_go T299 m 223 #[iv x0, iv x1, iv x2, iv x3, iv x4, iv x5, iv s0, iv s1, iv s2, iv y2, iv y1, iv en, rv b1, iv 1, iv 2, iv y1, iv (-1), iv 0, iv 1, iv y1, iv (-1)] [(.int (-1))] (fun t k => XS.iload X299.here hx rfl (hb hby at_221) rfl k) ?_
          refine own_go T299 m 225 #[iv x0, iv x1, iv x2, iv x3, iv x4, iv x5, iv s0, iv s1, iv s2, iv y2, iv y1, iv en, rv b1, iv 1, iv 2, iv y1, iv (-1), iv 0, iv 1, iv y1, iv (-1)] [(.int (-1)), (.int (-1))] (fun t k => XS.iload X299.here hx rfl (hb hby at_223) rfl k) ?_
          refine own_go T299 m 228 #[iv x0, iv x1, iv x2, iv x3, iv x4, iv x5, iv s0, iv s1, iv s2, iv y2, iv y1, iv en, rv b1, iv 1, iv 2, iv y1, iv (-1), iv 0, iv 1, iv y1, iv (-1)] [] (fun t k => XS.icmpNo X299.here hx rfl (hb hby at_225) rfl (teq (by decide)).2 k) ?_
          refine own_go T299 m 229 #[iv x0, iv x1, iv x2, iv x3, iv x4, iv x5, iv s0, iv s1, iv s2, iv y2, iv y1, iv en, rv b1, iv 1, iv 2, iv y1, iv (-1), iv 0, iv 1, iv y1, iv (-1)] [(.int 1)] (fun t k => XS.iconst X299.here hx rfl (hb hby at_228) k) ?_
          refine own_go T299 m 233 #[iv x0, iv x1, iv x2, iv x3, iv x4, iv x5, iv s0, iv s1, iv s2, iv y2, iv y1, iv en, rv b1, iv 1, iv 2, iv y1, iv (-1), iv 0, iv 1, iv y1, iv (-1)] [(.int 1)] (fun t k => XS.goto X299.here hx rfl (pc0 := 229) (pc' := 233) rfl (hb hby at_229) (by decide) (by decide) k) ?_
          refine own_retZ X299 hx hlk hret (by decide) (hb hby at_233) (by decide) (by decide) ?_
          exact ⟨rfl, N299⟩
  · by_cases hc103_307 : (s2 - s0) < (64 : Int32)
    · obtain ⟨_, T308, L308, X308, ⟨rfl, Nq308, Kq308, fq0_308⟩, st308⟩ := own_virtual X19 hx hZ (y := (⟨OwnK0, "closed", "(II)V"⟩ : MethodName)) (z := (⟨OwnK0, "closed", "(II)V"⟩ : MethodName)) hown (own_w hw 39 rfl) (own_w hw 40 rfl) (notFace_of_selects (args := #[]) (mvT hZ (own_w hw 42 rfl))) (own_w hw 42 rfl) (own_w hw 41 rfl) (own_w hw 3 rfl) (own_w hw 43 rfl) (by decide) (sp30 l Z a0 hw [] b1 w1_2 w2_2 w0_2 y2 s0 s1 s2 kw1_2 kw2_2 kw0_2 T19.heap n0 Z_19 fq1_19 fq3_19 fq5_19 fq6_19 fq8_19 cf22 fq7_19 ne_b1_w1_2 fq4_2 (Ne.symm fq0_2) g_w1_2 hc103_25 hc103_307) rfl cf20 0 (argsL := [(.int 2), (.int y2)]) (rest := []) (Ls := #[iv x0, iv x1, iv x2, iv x3, iv x4, iv x5, iv s0, iv s1, iv s2, iv y2, iv y1, iv en, rv b1, iv 1, iv 2, .unset, .unset, .unset, .unset, .unset, .unset]) (by rw [hml]; rfl) (lenOf pd__II_V rfl) rfl rfl (Nat.le_of_eq rfl) (hb hby at_103) (by decide) (by decide) (by decide) (by decide)
      have N308 := Fr.app N19 Nq308
      have cf309 := cf20.keep Kq308
      have cf310 := cf21.keep Kq308 (ninS (Ne.symm fq5_2) nin0)
      have cf311 := cf22.keep Kq308 (ninS (Ne.symm fq4_2) nin0)
      have cf312 := cf23.keep Kq308 (ninS (Ne.symm fq6_2) nin0)
      have cf313 := fq0_19.keep Kq308 (ninS ne_b1_w1_2 nin0)
      have cf314 := fq1_19.keep Kq308 (ninS ne_b1_w1_2 nin0)
      have cf315 := fq2_19.keep Kq308 (ninS ne_b1_w1_2 nin0)
      have cf316 := fq3_19.keep Kq308 (ninS ne_b1_w1_2 nin0)
      have cf317 := fq4_19.keep Kq308 (ninS ne_b1_w1_2 nin0)
      have cf318 := fq5_19.keep Kq308 (ninS ne_b1_w1_2 nin0)
      have cf319 := fq6_19.keep Kq308 (ninS ne_b1_w1_2 nin0)
      have cf320 := fq7_19.keep Kq308 (ninS fq0_2 nin0)
      have cf321 := fq9_19.keep Kq308 (ninS ne_b1_w1_2 nin0)
      have cf322 := fq10_19.keep Kq308 (ninS ne_b1_w1_2 nin0)
      have Z_308 : n0 ≤ T308.heap.size := Nat.le_trans Z_19 Kq308.1
      refine own_go T308 m 106 #[iv x0, iv x1, iv x2, iv x3, iv x4, iv x5, iv s0, iv s1, iv s2, iv y2, iv y1, iv en, rv b1, iv 1, iv 2, .unset, .unset, .unset, .unset, .unset, .unset] [] (st308) ?_
      refine own_go T308 m 108 #[iv x0, iv x1, iv x2, iv x3, iv x4, iv x5, iv s0, iv s1, iv s2, iv y2, iv y1, iv en, rv b1, iv 1, iv 2, .unset, .unset, .unset, .unset, .unset, .unset] [(.ref b1)] (fun t k => XS.aload X308.here hx rfl (hb hby at_106) rfl rfl k) ?_
      refine own_go T308 m 110 #[iv x0, iv x1, iv x2, iv x3, iv x4, iv x5, iv s0, iv s1, iv s2, iv y2, iv y1, iv en, rv b1, iv 1, iv 2, .unset, .unset, .unset, .unset, .unset, .unset] [(.int 1), (.ref b1)] (fun t k => XS.iload X308.here hx rfl (hb hby at_108) rfl k) ?_
      refine own_go T308 m 112 #[iv x0, iv x1, iv x2, iv x3, iv x4, iv x5, iv s0, iv s1, iv s2, iv y2, iv y1, iv en, rv b1, iv 1, iv 2, .unset, .unset, .unset, .unset, .unset, .unset] [(.int y1), (.int 1), (.ref b1)] (fun t k => XS.iload X308.here hx rfl (hb hby at_110) rfl k) ?_
      obtain ⟨_, T323, L323, X323, ⟨rfl, Nq323, Kq323, fq0_323⟩, st323⟩ := own_virtual X308 hx hZ (y := (⟨OwnK0, "closed", "(II)V"⟩ : MethodName)) (z := (⟨OwnK0, "closed", "(II)V"⟩ : MethodName)) hown (own_w hw 39 rfl) (own_w hw 40 rfl) (notFace_of_selects (args := #[]) (mvT hZ (own_w hw 42 rfl))) (own_w hw 42 rfl) (own_w hw 41 rfl) (own_w hw 3 rfl) (own_w hw 43 rfl) (by decide) (sp31 l Z a0 hw [] b1 w1_2 w2_2 w0_2 y1 y2 s0 s1 s2 kw1_2 kw2_2 kw0_2 T308.heap n0 Z_308 cf314 cf316 cf318 cf319 fq0_308 cf311 cf320 ne_b1_w1_2 fq4_2 (Ne.symm fq0_2) g_w1_2 (own_db86 s0 s1 s2 y2 y1 en (y2 - s2) (y1 - s1) (s1 - s0) (s2 - s0) o1 o2 o3 o4 o5 o6 o7 o8 hc103_25 hc103_307) (own_db87 s0 s1 s2 y2 y1 en (y2 - s2) (y1 - s1) (s1 - s0) (s2 - s0) o1 o2 o3 o4 o5 o6 o7 o8 hc103_25 hc103_307)) rfl cf309 0 (argsL := [(.int 1), (.int y1)]) (rest := []) (Ls := #[iv x0, iv x1, iv x2, iv x3, iv x4, iv x5, iv s0, iv s1, iv s2, iv y2, iv y1, iv en, rv b1, iv 1, iv 2, .unset, .unset, .unset, .unset, .unset, .unset]) (by rw [hml]; rfl) (lenOf pd__II_V rfl) rfl rfl (Nat.le_of_eq rfl) (hb hby at_112) (by decide) (by decide) (by decide) (by decide)
      have N323 := Fr.app N308 Nq323
      have cf324 := cf309.keep Kq323
      have cf325 := cf310.keep Kq323 (ninS (Ne.symm fq5_2) nin0)
      have cf326 := cf311.keep Kq323 (ninS (Ne.symm fq4_2) nin0)
      have cf327 := cf312.keep Kq323 (ninS (Ne.symm fq6_2) nin0)
      have cf328 := cf313.keep Kq323 (ninS ne_b1_w1_2 nin0)
      have cf329 := cf314.keep Kq323 (ninS ne_b1_w1_2 nin0)
      have cf330 := cf315.keep Kq323 (ninS ne_b1_w1_2 nin0)
      have cf331 := cf316.keep Kq323 (ninS ne_b1_w1_2 nin0)
      have cf332 := cf317.keep Kq323 (ninS ne_b1_w1_2 nin0)
      have cf333 := cf318.keep Kq323 (ninS ne_b1_w1_2 nin0)
      have cf334 := cf319.keep Kq323 (ninS ne_b1_w1_2 nin0)
      have cf335 := cf320.keep Kq323 (ninS fq0_2 nin0)
      have cf336 := cf321.keep Kq323 (ninS ne_b1_w1_2 nin0)
      have cf337 := cf322.keep Kq323 (ninS ne_b1_w1_2 nin0)
      have Z_323 : n0 ≤ T323.heap.size := Nat.le_trans Z_308 Kq323.1
      refine own_go T323 m 115 #[iv x0, iv x1, iv x2, iv x3, iv x4, iv x5, iv s0, iv s1, iv s2, iv y2, iv y1, iv en, rv b1, iv 1, iv 2, .unset, .unset, .unset, .unset, .unset, .unset] [] (st323) ?_
      refine own_go T323 m 117 #[iv x0, iv x1, iv x2, iv x3, iv x4, iv x5, iv s0, iv s1, iv s2, iv y2, iv y1, iv en, rv b1, iv 1, iv 2, .unset, .unset, .unset, .unset, .unset, .unset] [(.ref b1)] (fun t k => XS.aload X323.here hx rfl (hb hby at_115) rfl rfl k) ?_
      refine own_go T323 m 119 #[iv x0, iv x1, iv x2, iv x3, iv x4, iv x5, iv s0, iv s1, iv s2, iv y2, iv y1, iv en, rv b1, iv 1, iv 2, .unset, .unset, .unset, .unset, .unset, .unset] [(.int en), (.ref b1)] (fun t k => XS.iload X323.here hx rfl (hb hby at_117) rfl k) ?_
      obtain ⟨_, T338, L338, X338, ⟨rfl, Nq338, Kq338, fq0_338⟩, st338⟩ := own_virtual X323 hx hZ (y := (⟨OwnK0, "endRead", "(I)V"⟩ : MethodName)) (z := (⟨OwnK0, "endRead", "(I)V"⟩ : MethodName)) hown (own_w hw 44 rfl) (own_w hw 45 rfl) (notFace_of_selects (args := #[]) (mvT hZ (own_w hw 47 rfl))) (own_w hw 47 rfl) (own_w hw 46 rfl) (own_w hw 3 rfl) (own_w hw 48 rfl) (by decide) (sp32 l Z a0 hw [] b1 w3_2 w2_2 en kw3_2 kw2_2 T323.heap n0 Z_323 cf337 cf330 cf331 cf333 cf325 cf326 ne_b1_w3_2 (Ne.symm fq7_2) g_w3_2) rfl cf324 0 (argsL := [(.int en)]) (rest := []) (Ls := #[iv x0, iv x1, iv x2, iv x3, iv x4, iv x5, iv s0, iv s1, iv s2, iv y2, iv y1, iv en, rv b1, iv 1, iv 2, .unset, .unset, .unset, .unset, .unset, .unset]) (by rw [hml]; rfl) (lenOf pd__I_V rfl) rfl rfl (Nat.le_of_eq rfl) (hb hby at_119) (by decide) (by decide) (by decide) (by decide)
      have N338 := Fr.app N323 Nq338
      have cf339 := cf324.keep Kq338
      have cf340 := cf326.keep Kq338 (ninS fq7_2 nin0)
      have cf341 := cf327.keep Kq338 (ninS (Ne.symm fq9_2) nin0)
      have cf342 := cf328.keep Kq338 (ninS ne_b1_w3_2 nin0)
      have cf343 := cf329.keep Kq338 (ninS ne_b1_w3_2 nin0)
      have cf344 := cf330.keep Kq338 (ninS ne_b1_w3_2 nin0)
      have cf345 := cf331.keep Kq338 (ninS ne_b1_w3_2 nin0)
      have cf346 := cf332.keep Kq338 (ninS ne_b1_w3_2 nin0)
      have cf347 := cf333.keep Kq338 (ninS ne_b1_w3_2 nin0)
      have cf348 := cf334.keep Kq338 (ninS ne_b1_w3_2 nin0)
      have cf349 := cf335.keep Kq338 (ninS fq2_2 nin0)
      have cf350 := cf336.keep Kq338 (ninS ne_b1_w3_2 nin0)
      have cf351 := cf337.keep Kq338 (ninS ne_b1_w3_2 nin0)
      have cf352 := fq0_323.keep Kq338 (ninS fq5_2 nin0)
      have Z_338 : n0 ≤ T338.heap.size := Nat.le_trans Z_323 Kq338.1
      refine own_go T338 m 122 #[iv x0, iv x1, iv x2, iv x3, iv x4, iv x5, iv s0, iv s1, iv s2, iv y2, iv y1, iv en, rv b1, iv 1, iv 2, .unset, .unset, .unset, .unset, .unset, .unset] [] (st338) ?_
      refine own_go T338 m 124 #[iv x0, iv x1, iv x2, iv x3, iv x4, iv x5, iv s0, iv s1, iv s2, iv y2, iv y1, iv en, rv b1, iv 1, iv 2, .unset, .unset, .unset, .unset, .unset, .unset] [(.ref b1)] (fun t k => XS.aload X338.here hx rfl (hb hby at_122) rfl rfl k) ?_
      refine own_go T338 m 126 #[iv x0, iv x1, iv x2, iv x3, iv x4, iv x5, iv s0, iv s1, iv s2, iv y2, iv y1, iv en, rv b1, iv 1, iv 2, .unset, .unset, .unset, .unset, .unset, .unset] [(.int s1), (.ref b1)] (fun t k => XS.iload X338.here hx rfl (hb hby at_124) rfl k) ?_
      refine own_go T338 m 128 #[iv x0, iv x1, iv x2, iv x3, iv x4, iv x5, iv s0, iv s1, iv s2, iv y2, iv y1, iv en, rv b1, iv 1, iv 2, .unset, .unset, .unset, .unset, .unset, .unset] [(.int x5), (.int s1), (.ref b1)] (fun t k => XS.iload X338.here hx rfl (hb hby at_126) rfl k) ?_
      obtain ⟨_, T353, L353, X353, ⟨rfl, Nq353, Kq353, fq0_353, fq1_353, fq2_353, fq3_353, fq4_353, fq5_353, fq6_353, fq7_353, fq8_353⟩, st353⟩ := own_virtual X338 hx hZ (y := (⟨OwnK0, "find", "(II)I"⟩ : MethodName)) (z := (⟨OwnK0, "find", "(II)I"⟩ : MethodName)) hown (own_w hw 49 rfl) (own_w hw 50 rfl) (notFace_of_selects (args := #[]) (mvT hZ (own_w hw 52 rfl))) (own_w hw 52 rfl) (own_w hw 51 rfl) (own_w hw 3 rfl) (own_w hw 53 rfl) (by decide) (sp33 l Z a0 hw [] b1 w1_2 w3_2 w2_2 w4_2 w0_2 s1 x5 y1 y2 en s0 s2 kw1_2 kw3_2 kw2_2 kw0_2 T338.heap n0 Z_338 cf339 cf351 cf342 cf343 cf350 cf344 cf345 cf346 cf347 cf348 cf352 fq0_338 cf340 cf349 ne_b1_w1_2 ne_b1_w3_2 ne_b1_w2_2 ne_b1_w4_2 ne_b1_w0_2 g_b1 (own_db90 s0 s1 s2 y2 y1 en (y2 - s2) (y1 - s1) (s1 - s0) (s2 - s0) o1 o2 o3 o4 o5 o6 o7 o8 hc103_25 hc103_307) (own_db91 s0 s1 s2 y2 y1 en (y2 - s2) (y1 - s1) (s1 - s0) (s2 - s0) o1 o2 o3 o4 o5 o6 o7 o8 hc103_25 hc103_307) (own_db92 s0 s1 s2 y2 y1 en (y2 - s2) (y1 - s1) (s1 - s0) (s2 - s0) o1 o2 o3 o4 o5 o6 o7 o8 hc103_25 hc103_307) (own_db93 s0 s1 s2 y2 y1 en (y2 - s2) (y1 - s1) (s1 - s0) (s2 - s0) o1 o2 o3 o4 o5 o6 o7 o8 hc103_25 hc103_307)) rfl cf339 0 (argsL := [(.int s1), (.int x5)]) (rest := []) (Ls := #[iv x0, iv x1, iv x2, iv x3, iv x4, iv x5, iv s0, iv s1, iv s2, iv y2, iv y1, iv en, rv b1, iv 1, iv 2, .unset, .unset, .unset, .unset, .unset, .unset]) (by rw [hml]; rfl) (lenOf pd__II_I rfl) rfl rfl (Nat.le_of_eq rfl) (hb hby at_128) (by decide) (by decide) (by decide) (by decide)
      have N353 := Fr.app N338 Nq353
      have cf354 := cf339.keep Kq353
      have cf355 := cf340.keep Kq353 (ninS (Ne.symm ne_b1_w2_2) nin0)
      have cf356 := cf341.keep Kq353 (ninS (Ne.symm ne_b1_w4_2) nin0)
      have cf357 := cf349.keep Kq353 (ninS (Ne.symm ne_b1_w0_2) nin0)
      have cf358 := cf352.keep Kq353 (ninS (Ne.symm ne_b1_w1_2) nin0)
      have cf359 := fq0_338.keep Kq353 (ninS (Ne.symm ne_b1_w3_2) nin0)
      have Z_353 : n0 ≤ T353.heap.size := Nat.le_trans Z_338 Kq353.1
      refine own_go T353 m 131 #[iv x0, iv x1, iv x2, iv x3, iv x4, iv x5, iv s0, iv s1, iv s2, iv y2, iv y1, iv en, rv b1, iv 1, iv 2, .unset, .unset, .unset, .unset, .unset, .unset] [(.int y1)] (st353) ?_
      refine own_go T353 m 133 #[iv x0, iv x1, iv x2, iv x3, iv x4, iv x5, iv s0, iv s1, iv s2, iv y2, iv y1, iv en, rv b1, iv 1, iv 2, iv y1, .unset, .unset, .unset, .unset, .unset] [] (fun t k => XS.istore X353.here hx rfl (hb hby at_131) rfl rfl k) ?_
      refine own_go T353 m 135 #[iv x0, iv x1, iv x2, iv x3, iv x4, iv x5, iv s0, iv s1, iv s2, iv y2, iv y1, iv en, rv b1, iv 1, iv 2, iv y1, .unset, .unset, .unset, .unset, .unset] [(.ref b1)] (fun t k => XS.aload X353.here hx rfl (hb hby at_133) rfl rfl k) ?_
      refine own_go T353 m 137 #[iv x0, iv x1, iv x2, iv x3, iv x4, iv x5, iv s0, iv s1, iv s2, iv y2, iv y1, iv en, rv b1, iv 1, iv 2, iv y1, .unset, .unset, .unset, .unset, .unset] [(.int s2), (.ref b1)] (fun t k => XS.iload X353.here hx rfl (hb hby at_135) rfl k) ?_
      refine own_go T353 m 139 #[iv x0, iv x1, iv x2, iv x3, iv x4, iv x5, iv s0, iv s1, iv s2, iv y2, iv y1, iv en, rv b1, iv 1, iv 2, iv y1, .unset, .unset, .unset, .unset, .unset] [(.int x5), (.int s2), (.ref b1)] (fun t k => XS.iload X353.here hx rfl (hb hby at_137) rfl k) ?_
      obtain ⟨_, T360, L360, X360, ⟨rfl, Nq360, Kq360, fq0_360, fq1_360, fq2_360, fq3_360, fq4_360, fq5_360, fq6_360, fq7_360, fq8_360⟩, st360⟩ := own_virtual X353 hx hZ (y := (⟨OwnK0, "find", "(II)I"⟩ : MethodName)) (z := (⟨OwnK0, "find", "(II)I"⟩ : MethodName)) hown (own_w hw 49 rfl) (own_w hw 50 rfl) (notFace_of_selects (args := #[]) (mvT hZ (own_w hw 52 rfl))) (own_w hw 52 rfl) (own_w hw 51 rfl) (own_w hw 3 rfl) (own_w hw 53 rfl) (by decide) (sp38 l Z a0 hw [] b1 w1_2 w3_2 w2_2 w4_2 w0_2 s2 x5 y1 y2 en s0 s1 kw1_2 kw3_2 kw2_2 kw0_2 T353.heap n0 Z_353 cf354 fq0_353 fq8_353 fq1_353 fq2_353 fq3_353 fq4_353 fq5_353 fq6_353 fq7_353 cf358 cf359 cf355 cf357 ne_b1_w1_2 ne_b1_w3_2 ne_b1_w2_2 ne_b1_w4_2 ne_b1_w0_2 g_b1 (own_db98 s0 s1 s2 y2 y1 en (y2 - s2) (y1 - s1) (s1 - s0) (s2 - s0) o1 o2 o3 o4 o5 o6 o7 o8 hc103_25 hc103_307) (own_db99 s0 s1 s2 y2 y1 en (y2 - s2) (y1 - s1) (s1 - s0) (s2 - s0) o1 o2 o3 o4 o5 o6 o7 o8 hc103_25 hc103_307) (own_db100 s0 s1 s2 y2 y1 en (y2 - s2) (y1 - s1) (s1 - s0) (s2 - s0) o1 o2 o3 o4 o5 o6 o7 o8 hc103_25 hc103_307) o3 (own_db101 s0 s1 s2 y2 y1 en (y2 - s2) (y1 - s1) (s1 - s0) (s2 - s0) o1 o2 o3 o4 o5 o6 o7 o8 hc103_25 hc103_307) (own_db102 s0 s1 s2 y2 y1 en (y2 - s2) (y1 - s1) (s1 - s0) (s2 - s0) o1 o2 o3 o4 o5 o6 o7 o8 hc103_25 hc103_307)) rfl cf354 0 (argsL := [(.int s2), (.int x5)]) (rest := []) (Ls := #[iv x0, iv x1, iv x2, iv x3, iv x4, iv x5, iv s0, iv s1, iv s2, iv y2, iv y1, iv en, rv b1, iv 1, iv 2, iv y1, .unset, .unset, .unset, .unset, .unset]) (by rw [hml]; rfl) (lenOf pd__II_I rfl) rfl rfl (Nat.le_of_eq rfl) (hb hby at_139) (by decide) (by decide) (by decide) (by decide)
      have N360 := Fr.app N353 Nq360
      have cf361 := cf354.keep Kq360
      have cf362 := cf355.keep Kq360 (ninS (Ne.symm ne_b1_w2_2) nin0)
      have cf363 := cf356.keep Kq360 (ninS (Ne.symm ne_b1_w4_2) nin0)
      have cf364 := cf357.keep Kq360 (ninS (Ne.symm ne_b1_w0_2) nin0)
      have cf365 := cf358.keep Kq360 (ninS (Ne.symm ne_b1_w1_2) nin0)
      have cf366 := cf359.keep Kq360 (ninS (Ne.symm ne_b1_w3_2) nin0)
      have Z_360 : n0 ≤ T360.heap.size := Nat.le_trans Z_353 Kq360.1
      refine own_go T360 m 142 #[iv x0, iv x1, iv x2, iv x3, iv x4, iv x5, iv s0, iv s1, iv s2, iv y2, iv y1, iv en, rv b1, iv 1, iv 2, iv y1, .unset, .unset, .unset, .unset, .unset] [(.int y2)] (st360) ?_
      refine own_go T360 m 144 #[iv x0, iv x1, iv x2, iv x3, iv x4, iv x5, iv s0, iv s1, iv s2, iv y2, iv y1, iv en, rv b1, iv 1, iv 2, iv y1, iv y2, .unset, .unset, .unset, .unset] [] (fun t k => XS.istore X360.here hx rfl (hb hby at_142) rfl rfl k) ?_
      refine own_go T360 m 146 #[iv x0, iv x1, iv x2, iv x3, iv x4, iv x5, iv s0, iv s1, iv s2, iv y2, iv y1, iv en, rv b1, iv 1, iv 2, iv y1, iv y2, .unset, .unset, .unset, .unset] [(.int y2)] (fun t k => XS.iload X360.here hx rfl (hb hby at_144) rfl k) ?_
      refine own_go T360 m 148 #[iv x0, iv x1, iv x2, iv x3, iv x4, iv x5, iv s0, iv s1, iv s2, iv y2, iv y1, iv en, rv b1, iv 1, iv 2, iv y1, iv y2, .unset, .unset, .unset, .unset] [(.int s2), (.int y2)] (fun t k => XS.iload X360.here hx rfl (hb hby at_146) rfl k) ?_
      refine own_go T360 m 149 #[iv x0, iv x1, iv x2, iv x3, iv x4, iv x5, iv s0, iv s1, iv s2, iv y2, iv y1, iv en, rv b1, iv 1, iv 2, iv y1, iv y2, .unset, .unset, .unset, .unset] [(.int (y2 - s2))] (fun t k => XS.isub X360.here hx rfl (hb hby at_148) rfl k) ?_
      refine own_go T360 m 151 #[iv x0, iv x1, iv x2, iv x3, iv x4, iv x5, iv s0, iv s1, iv s2, iv y2, iv y1, iv en, rv b1, iv 1, iv 2, iv y1, iv y2, .unset, .unset, .unset, .unset] [(.int 64), (.int (y2 - s2))] (fun t k => XS.bipush X360.here hx rfl (hb hby at_149) k) ?_
      refine own_go T360 m 154 #[iv x0, iv x1, iv x2, iv x3, iv x4, iv x5, iv s0, iv s1, iv s2, iv y2, iv y1, iv en, rv b1, iv 1, iv 2, iv y1, iv y2, .unset, .unset, .unset, .unset] [] (fun t k => XS.icmpNo X360.here hx rfl (hb hby at_151) rfl (flt hc103_25).1 k) ?_
      refine own_go T360 m 155 #[iv x0, iv x1, iv x2, iv x3, iv x4, iv x5, iv s0, iv s1, iv s2, iv y2, iv y1, iv en, rv b1, iv 1, iv 2, iv y1, iv y2, .unset, .unset, .unset, .unset] [(.int 1)] (fun t k => XS.iconst X360.here hx rfl (hb hby at_154) k) ?_
      refine own_go T360 m 159 #[iv x0, iv x1, iv x2, iv x3, iv x4, iv x5, iv s0, iv s1, iv s2, iv y2, iv y1, iv en, rv b1, iv 1, iv 2, iv y1, iv y2, .unset, .unset, .unset, .unset] [(.int 1)] (fun t k => XS.goto X360.here hx rfl (pc0 := 155) (pc' := 159) rfl (hb hby at_155) (by decide) (by decide) k) ?_
      refine own_go T360 m 161 #[iv x0, iv x1, iv x2, iv x3, iv x4, iv x5, iv s0, iv s1, iv s2, iv y2, iv y1, iv en, rv b1, iv 1, iv 2, iv y1, iv y2, iv 1, .unset, .unset, .unset] [] (fun t k => XS.istore X360.here hx rfl (hb hby at_159) rfl rfl k) ?_
      refine own_go T360 m 163 #[iv x0, iv x1, iv x2, iv x3, iv x4, iv x5, iv s0, iv s1, iv s2, iv y2, iv y1, iv en, rv b1, iv 1, iv 2, iv y1, iv y2, iv 1, .unset, .unset, .unset] [(.int y1)] (fun t k => XS.iload X360.here hx rfl (hb hby at_161) rfl k) ?_
      refine own_go T360 m 165 #[iv x0, iv x1, iv x2, iv x3, iv x4, iv x5, iv s0, iv s1, iv s2, iv y2, iv y1, iv en, rv b1, iv 1, iv 2, iv y1, iv y2, iv 1, .unset, .unset, .unset] [(.int s1), (.int y1)] (fun t k => XS.iload X360.here hx rfl (hb hby at_163) rfl k) ?_
      refine own_go T360 m 166 #[iv x0, iv x1, iv x2, iv x3, iv x4, iv x5, iv s0, iv s1, iv s2, iv y2, iv y1, iv en, rv b1, iv 1, iv 2, iv y1, iv y2, iv 1, .unset, .unset, .unset] [(.int (y1 - s1))] (fun t k => XS.isub X360.here hx rfl (hb hby at_165) rfl k) ?_
      refine own_go T360 m 168 #[iv x0, iv x1, iv x2, iv x3, iv x4, iv x5, iv s0, iv s1, iv s2, iv y2, iv y1, iv en, rv b1, iv 1, iv 2, iv y1, iv y2, iv 1, .unset, .unset, .unset] [(.int 64), (.int (y1 - s1))] (fun t k => XS.bipush X360.here hx rfl (hb hby at_166) k) ?_
      refine own_go T360 m 181 #[iv x0, iv x1, iv x2, iv x3, iv x4, iv x5, iv s0, iv s1, iv s2, iv y2, iv y1, iv en, rv b1, iv 1, iv 2, iv y1, iv y2, iv 1, .unset, .unset, .unset] [] (fun t k => XS.icmpYes X360.here hx rfl (pc0 := 168) (pc' := 181) rfl (hb hby at_168) rfl (flt (own_db86 s0 s1 s2 y2 y1 en (y2 - s2) (y1 - s1) (s1 - s0) (s2 - s0) o1 o2 o3 o4 o5 o6 o7 o8 hc103_25 hc103_307)).2.1 (by decide) (by decide) k) ?_
      refine own_go T360 m 182 #[iv x0, iv x1, iv x2, iv x3, iv x4, iv x5, iv s0, iv s1, iv s2, iv y2, iv y1, iv en, rv b1, iv 1, iv 2, iv y1, iv y2, iv 1, .unset, .unset, .unset] [(.int 1)] (fun t k => XS.iconst X360.here hx rfl (hb hby at_181) k) ?_
      refine own_go T360 m 186 #[iv x0, iv x1, iv x2, iv x3, iv x4, iv x5, iv s0, iv s1, iv s2, iv y2, iv y1, iv en, rv b1, iv 1, iv 2, iv y1, iv y2, iv 1, .unset, .unset, .unset] [(.int 1)] (fun t k => XS.goto X360.here hx rfl (pc0 := 182) (pc' := 186) rfl (hb hby at_182) (by decide) (by decide) k) ?_
      refine own_go T360 m 188 #[iv x0, iv x1, iv x2, iv x3, iv x4, iv x5, iv s0, iv s1, iv s2, iv y2, iv y1, iv en, rv b1, iv 1, iv 2, iv y1, iv y2, iv 1, iv 1, .unset, .unset] [] (fun t k => XS.istore X360.here hx rfl (hb hby at_186) rfl rfl k) ?_
      refine own_go T360 m 190 #[iv x0, iv x1, iv x2, iv x3, iv x4, iv x5, iv s0, iv s1, iv s2, iv y2, iv y1, iv en, rv b1, iv 1, iv 2, iv y1, iv y2, iv 1, iv 1, .unset, .unset] [(.int 1)] (fun t k => XS.iload X360.here hx rfl (hb hby at_188) rfl k) ?_
      refine own_go T360 m 193 #[iv x0, iv x1, iv x2, iv x3, iv x4, iv x5, iv s0, iv s1, iv s2, iv y2, iv y1, iv en, rv b1, iv 1, iv 2, iv y1, iv y2, iv 1, iv 1, .unset, .unset] [] (fun t k => XS.ifNo X360.here hx rfl (hb hby at_190) rfl ((if0 _ _).trans (feq (by decide)).1) k) ?_
      refine own_go T360 m 195 #[iv x0, iv x1, iv x2, iv x3, iv x4, iv x5, iv s0, iv s1, iv s2, iv y2, iv y1, iv en, rv b1, iv 1, iv 2, iv y1, iv y2, iv 1, iv 1, .unset, .unset] [(.int y1)] (fun t k => XS.iload X360.here hx rfl (hb hby at_193) rfl k) ?_
      refine own_go T360 m 199 #[iv x0, iv x1, iv x2, iv x3, iv x4, iv x5, iv s0, iv s1, iv s2, iv y2, iv y1, iv en, rv b1, iv 1, iv 2, iv y1, iv y2, iv 1, iv 1, .unset, .unset] [(.int y1)] (fun t k => XS.goto X360.here hx rfl (pc0 := 195) (pc' := 199) rfl (hb hby at_195) (by decide) (by decide) k) ?_
      refine own_go T360 m 201 #[iv x0, iv x1, iv x2, iv x3, iv x4, iv x5, iv s0, iv s1, iv s2, iv y2, iv y1, iv en, rv b1, iv 1, iv 2, iv y1, iv y2, iv 1, iv 1, iv y1, .unset] [] (fun t k => XS.istore X360.here hx rfl (hb hby at_199) rfl rfl k) ?_
      refine own_go T360 m 203 #[iv x0, iv x1, iv x2, iv x3, iv x4, iv x5, iv s0, iv s1, iv s2, iv y2, iv y1, iv en, rv b1, iv 1, iv 2, iv y1, iv y2, iv 1, iv 1, iv y1, .unset] [(.int 1)] (fun t k => XS.iload X360.here hx rfl (hb hby at_201) rfl k) ?_
      refine own_go T360 m 206 #[iv x0, iv x1, iv x2, iv x3, iv x4, iv x5, iv s0, iv s1, iv s2, iv y2, iv y1, iv en, rv b1, iv 1, iv 2, iv y1, iv y2, iv 1, iv 1, iv y1, .unset] [] (fun t k => XS.ifNo X360.here hx rfl (hb hby at_203) rfl ((if0 _ _).trans (feq (by decide)).1) k) ?_
      refine own_go T360 m 208 #[iv x0, iv x1, iv x2, iv x3, iv x4, iv x5, iv s0, iv s1, iv s2, iv y2, iv y1, iv en, rv b1, iv 1, iv 2, iv y1, iv y2, iv 1, iv 1, iv y1, .unset] [(.int y2)] (fun t k => XS.iload X360.here hx rfl (hb hby at_206) rfl k) ?_
      refine own_go T360 m 212 #[iv x0, iv x1, iv x2, iv x3, iv x4, iv x5, iv s0, iv s1, iv s2, iv y2, iv y1, iv en, rv b1, iv 1, iv 2, iv y1, iv y2, iv 1, iv 1, iv y1, .unset] [(.int y2)] (fun t k => XS.goto X360.here hx rfl (pc0 := 208) (pc' := 212) rfl (hb hby at_208) (by decide) (by decide) k) ?_
      refine own_go T360 m 214 #[iv x0, iv x1, iv x2, iv x3, iv x4, iv x5, iv s0, iv s1, iv s2, iv y2, iv y1, iv en, rv b1, iv 1, iv 2, iv y1, iv y2, iv 1, iv 1, iv y1, iv y2] [] (fun t k => XS.istore X360.here hx rfl (hb hby at_212) rfl rfl k) ?_
      refine own_go T360 m 216 #[iv x0, iv x1, iv x2, iv x3, iv x4, iv x5, iv s0, iv s1, iv s2, iv y2, iv y1, iv en, rv b1, iv 1, iv 2, iv y1, iv y2, iv 1, iv 1, iv y1, iv y2] [(.int y1)] (fun t k => XS.iload X360.here hx rfl (hb hby at_214) rfl k) ?_
      refine own_go T360 m 218 #[iv x0, iv x1, iv x2, iv x3, iv x4, iv x5, iv s0, iv s1, iv s2, iv y2, iv y1, iv en, rv b1, iv 1, iv 2, iv y1, iv y2, iv 1, iv 1, iv y1, iv y2] [(.int y1), (.int y1)] (fun t k => XS.iload X360.here hx rfl (hb hby at_216) rfl k) ?_
      refine own_go T360 m 221 #[iv x0, iv x1, iv x2, iv x3, iv x4, iv x5, iv s0, iv s1, iv s2, iv y2, iv y1, iv en, rv b1, iv 1, iv 2, iv y1, iv y2, iv 1, iv 1, iv y1, iv y2] [] (fun t k => XS.icmpNo X360.here hx rfl (hb hby at_218) rfl (teq rfl).2 k) ?_
      refine own_go T360 m 223 #[iv x0, iv x1, iv x2, iv x3, iv x4, iv x5, iv s0, iv s1, iv s2, iv y2, iv y1, iv en, rv b1, iv 1, iv 2, iv y1, iv y2, iv 1, iv 1, iv y1, iv y2] [(.int y2)] (fun t k => XS.iload X360.here hx rfl (hb hby at_221) rfl k) ?_
      refine own_go T360 m 225 #[iv x0, iv x1, iv x2, iv x3, iv x4, iv x5, iv s0, iv s1, iv s2, iv y2, iv y1, iv en, rv b1, iv 1, iv 2, iv y1, iv y2, iv 1, iv 1, iv y1, iv y2] [(.int y2), (.int y2)] (fun t k => XS.iload X360.here hx rfl (hb hby at_223) rfl k) ?_
      refine own_go T360 m 228 #[iv x0, iv x1, iv x2, iv x3, iv x4, iv x5, iv s0, iv s1, iv s2, iv y2, iv y1, iv en, rv b1, iv 1, iv 2, iv y1, iv y2, iv 1, iv 1, iv y1, iv y2] [] (fun t k => XS.icmpNo X360.here hx rfl (hb hby at_225) rfl (teq rfl).2 k) ?_
      refine own_go T360 m 229 #[iv x0, iv x1, iv x2, iv x3, iv x4, iv x5, iv s0, iv s1, iv s2, iv y2, iv y1, iv en, rv b1, iv 1, iv 2, iv y1, iv y2, iv 1, iv 1, iv y1, iv y2] [(.int 1)] (fun t k => XS.iconst X360.here hx rfl (hb hby at_228) k) ?_
      refine own_go T360 m 233 #[iv x0, iv x1, iv x2, iv x3, iv x4, iv x5, iv s0, iv s1, iv s2, iv y2, iv y1, iv en, rv b1, iv 1, iv 2, iv y1, iv y2, iv 1, iv 1, iv y1, iv y2] [(.int 1)] (fun t k => XS.goto X360.here hx rfl (pc0 := 229) (pc' := 233) rfl (hb hby at_229) (by decide) (by decide) k) ?_
      refine own_retZ X360 hx hlk hret (by decide) (hb hby at_233) (by decide) (by decide) ?_
      exact ⟨rfl, N360⟩
    · obtain ⟨_, T367, L367, X367, ⟨rfl, Nq367, Kq367, fq0_367⟩, st367⟩ := own_virtual X19 hx hZ (y := (⟨OwnK0, "closed", "(II)V"⟩ : MethodName)) (z := (⟨OwnK0, "closed", "(II)V"⟩ : MethodName)) hown (own_w hw 39 rfl) (own_w hw 40 rfl) (notFace_of_selects (args := #[]) (mvT hZ (own_w hw 42 rfl))) (own_w hw 42 rfl) (own_w hw 41 rfl) (own_w hw 3 rfl) (own_w hw 43 rfl) (by decide) (sp40 l Z a0 hw [] b1 w1_2 w2_2 w0_2 y2 s0 s1 s2 kw1_2 kw2_2 kw0_2 T19.heap n0 Z_19 fq1_19 fq3_19 fq5_19 fq6_19 fq8_19 cf22 fq7_19 ne_b1_w1_2 fq4_2 (Ne.symm fq0_2) g_w1_2 hc103_25 hc103_307) rfl cf20 0 (argsL := [(.int 2), (.int y2)]) (rest := []) (Ls := #[iv x0, iv x1, iv x2, iv x3, iv x4, iv x5, iv s0, iv s1, iv s2, iv y2, iv y1, iv en, rv b1, iv 1, iv 2, .unset, .unset, .unset, .unset, .unset, .unset]) (by rw [hml]; rfl) (lenOf pd__II_V rfl) rfl rfl (Nat.le_of_eq rfl) (hb hby at_103) (by decide) (by decide) (by decide) (by decide)
      have N367 := Fr.app N19 Nq367
      have cf368 := cf20.keep Kq367
      have cf369 := cf21.keep Kq367 (ninS (Ne.symm fq5_2) nin0)
      have cf370 := cf22.keep Kq367 (ninS (Ne.symm fq4_2) nin0)
      have cf371 := cf23.keep Kq367 (ninS (Ne.symm fq6_2) nin0)
      have cf372 := fq0_19.keep Kq367 (ninS ne_b1_w1_2 nin0)
      have cf373 := fq1_19.keep Kq367 (ninS ne_b1_w1_2 nin0)
      have cf374 := fq2_19.keep Kq367 (ninS ne_b1_w1_2 nin0)
      have cf375 := fq3_19.keep Kq367 (ninS ne_b1_w1_2 nin0)
      have cf376 := fq4_19.keep Kq367 (ninS ne_b1_w1_2 nin0)
      have cf377 := fq5_19.keep Kq367 (ninS ne_b1_w1_2 nin0)
      have cf378 := fq6_19.keep Kq367 (ninS ne_b1_w1_2 nin0)
      have cf379 := fq7_19.keep Kq367 (ninS fq0_2 nin0)
      have cf380 := fq9_19.keep Kq367 (ninS ne_b1_w1_2 nin0)
      have cf381 := fq10_19.keep Kq367 (ninS ne_b1_w1_2 nin0)
      have Z_367 : n0 ≤ T367.heap.size := Nat.le_trans Z_19 Kq367.1
      refine own_go T367 m 106 #[iv x0, iv x1, iv x2, iv x3, iv x4, iv x5, iv s0, iv s1, iv s2, iv y2, iv y1, iv en, rv b1, iv 1, iv 2, .unset, .unset, .unset, .unset, .unset, .unset] [] (st367) ?_
      refine own_go T367 m 108 #[iv x0, iv x1, iv x2, iv x3, iv x4, iv x5, iv s0, iv s1, iv s2, iv y2, iv y1, iv en, rv b1, iv 1, iv 2, .unset, .unset, .unset, .unset, .unset, .unset] [(.ref b1)] (fun t k => XS.aload X367.here hx rfl (hb hby at_106) rfl rfl k) ?_
      refine own_go T367 m 110 #[iv x0, iv x1, iv x2, iv x3, iv x4, iv x5, iv s0, iv s1, iv s2, iv y2, iv y1, iv en, rv b1, iv 1, iv 2, .unset, .unset, .unset, .unset, .unset, .unset] [(.int 1), (.ref b1)] (fun t k => XS.iload X367.here hx rfl (hb hby at_108) rfl k) ?_
      refine own_go T367 m 112 #[iv x0, iv x1, iv x2, iv x3, iv x4, iv x5, iv s0, iv s1, iv s2, iv y2, iv y1, iv en, rv b1, iv 1, iv 2, .unset, .unset, .unset, .unset, .unset, .unset] [(.int y1), (.int 1), (.ref b1)] (fun t k => XS.iload X367.here hx rfl (hb hby at_110) rfl k) ?_
      by_cases hc112_383 : (s1 - s0) < (64 : Int32)
      · obtain ⟨_, T384, L384, X384, ⟨rfl, Nq384, Kq384, fq0_384⟩, st384⟩ := own_virtual X367 hx hZ (y := (⟨OwnK0, "closed", "(II)V"⟩ : MethodName)) (z := (⟨OwnK0, "closed", "(II)V"⟩ : MethodName)) hown (own_w hw 39 rfl) (own_w hw 40 rfl) (notFace_of_selects (args := #[]) (mvT hZ (own_w hw 42 rfl))) (own_w hw 42 rfl) (own_w hw 41 rfl) (own_w hw 3 rfl) (own_w hw 43 rfl) (by decide) (sp31 l Z a0 hw [] b1 w1_2 w2_2 w0_2 y1 y2 s0 s1 s2 kw1_2 kw2_2 kw0_2 T367.heap n0 Z_367 cf373 cf375 cf377 cf378 fq0_367 cf370 cf379 ne_b1_w1_2 fq4_2 (Ne.symm fq0_2) g_w1_2 (own_db111 s0 s1 s2 y2 y1 en (y2 - s2) (y1 - s1) (s1 - s0) (s2 - s0) o1 o2 o3 o4 o5 o6 o7 o8 hc103_25 hc103_307 hc112_383) hc112_383) rfl cf368 0 (argsL := [(.int 1), (.int y1)]) (rest := []) (Ls := #[iv x0, iv x1, iv x2, iv x3, iv x4, iv x5, iv s0, iv s1, iv s2, iv y2, iv y1, iv en, rv b1, iv 1, iv 2, .unset, .unset, .unset, .unset, .unset, .unset]) (by rw [hml]; rfl) (lenOf pd__II_V rfl) rfl rfl (Nat.le_of_eq rfl) (hb hby at_112) (by decide) (by decide) (by decide) (by decide)
        have N384 := Fr.app N367 Nq384
        have cf385 := cf368.keep Kq384
        have cf386 := cf369.keep Kq384 (ninS (Ne.symm fq5_2) nin0)
        have cf387 := cf370.keep Kq384 (ninS (Ne.symm fq4_2) nin0)
        have cf388 := cf371.keep Kq384 (ninS (Ne.symm fq6_2) nin0)
        have cf389 := cf372.keep Kq384 (ninS ne_b1_w1_2 nin0)
        have cf390 := cf373.keep Kq384 (ninS ne_b1_w1_2 nin0)
        have cf391 := cf374.keep Kq384 (ninS ne_b1_w1_2 nin0)
        have cf392 := cf375.keep Kq384 (ninS ne_b1_w1_2 nin0)
        have cf393 := cf376.keep Kq384 (ninS ne_b1_w1_2 nin0)
        have cf394 := cf377.keep Kq384 (ninS ne_b1_w1_2 nin0)
        have cf395 := cf378.keep Kq384 (ninS ne_b1_w1_2 nin0)
        have cf396 := cf379.keep Kq384 (ninS fq0_2 nin0)
        have cf397 := cf380.keep Kq384 (ninS ne_b1_w1_2 nin0)
        have cf398 := cf381.keep Kq384 (ninS ne_b1_w1_2 nin0)
        have Z_384 : n0 ≤ T384.heap.size := Nat.le_trans Z_367 Kq384.1
        refine own_go T384 m 115 #[iv x0, iv x1, iv x2, iv x3, iv x4, iv x5, iv s0, iv s1, iv s2, iv y2, iv y1, iv en, rv b1, iv 1, iv 2, .unset, .unset, .unset, .unset, .unset, .unset] [] (st384) ?_
        refine own_go T384 m 117 #[iv x0, iv x1, iv x2, iv x3, iv x4, iv x5, iv s0, iv s1, iv s2, iv y2, iv y1, iv en, rv b1, iv 1, iv 2, .unset, .unset, .unset, .unset, .unset, .unset] [(.ref b1)] (fun t k => XS.aload X384.here hx rfl (hb hby at_115) rfl rfl k) ?_
        refine own_go T384 m 119 #[iv x0, iv x1, iv x2, iv x3, iv x4, iv x5, iv s0, iv s1, iv s2, iv y2, iv y1, iv en, rv b1, iv 1, iv 2, .unset, .unset, .unset, .unset, .unset, .unset] [(.int en), (.ref b1)] (fun t k => XS.iload X384.here hx rfl (hb hby at_117) rfl k) ?_
        obtain ⟨_, T399, L399, X399, ⟨rfl, Nq399, Kq399, fq0_399⟩, st399⟩ := own_virtual X384 hx hZ (y := (⟨OwnK0, "endRead", "(I)V"⟩ : MethodName)) (z := (⟨OwnK0, "endRead", "(I)V"⟩ : MethodName)) hown (own_w hw 44 rfl) (own_w hw 45 rfl) (notFace_of_selects (args := #[]) (mvT hZ (own_w hw 47 rfl))) (own_w hw 47 rfl) (own_w hw 46 rfl) (own_w hw 3 rfl) (own_w hw 48 rfl) (by decide) (sp32 l Z a0 hw [] b1 w3_2 w2_2 en kw3_2 kw2_2 T384.heap n0 Z_384 cf398 cf391 cf392 cf394 cf386 cf387 ne_b1_w3_2 (Ne.symm fq7_2) g_w3_2) rfl cf385 0 (argsL := [(.int en)]) (rest := []) (Ls := #[iv x0, iv x1, iv x2, iv x3, iv x4, iv x5, iv s0, iv s1, iv s2, iv y2, iv y1, iv en, rv b1, iv 1, iv 2, .unset, .unset, .unset, .unset, .unset, .unset]) (by rw [hml]; rfl) (lenOf pd__I_V rfl) rfl rfl (Nat.le_of_eq rfl) (hb hby at_119) (by decide) (by decide) (by decide) (by decide)
        have N399 := Fr.app N384 Nq399
        have cf400 := cf385.keep Kq399
        have cf401 := cf387.keep Kq399 (ninS fq7_2 nin0)
        have cf402 := cf388.keep Kq399 (ninS (Ne.symm fq9_2) nin0)
        have cf403 := cf389.keep Kq399 (ninS ne_b1_w3_2 nin0)
        have cf404 := cf390.keep Kq399 (ninS ne_b1_w3_2 nin0)
        have cf405 := cf391.keep Kq399 (ninS ne_b1_w3_2 nin0)
        have cf406 := cf392.keep Kq399 (ninS ne_b1_w3_2 nin0)
        have cf407 := cf393.keep Kq399 (ninS ne_b1_w3_2 nin0)
        have cf408 := cf394.keep Kq399 (ninS ne_b1_w3_2 nin0)
        have cf409 := cf395.keep Kq399 (ninS ne_b1_w3_2 nin0)
        have cf410 := cf396.keep Kq399 (ninS fq2_2 nin0)
        have cf411 := cf397.keep Kq399 (ninS ne_b1_w3_2 nin0)
        have cf412 := cf398.keep Kq399 (ninS ne_b1_w3_2 nin0)
        have cf413 := fq0_384.keep Kq399 (ninS fq5_2 nin0)
        have Z_399 : n0 ≤ T399.heap.size := Nat.le_trans Z_384 Kq399.1
        refine own_go T399 m 122 #[iv x0, iv x1, iv x2, iv x3, iv x4, iv x5, iv s0, iv s1, iv s2, iv y2, iv y1, iv en, rv b1, iv 1, iv 2, .unset, .unset, .unset, .unset, .unset, .unset] [] (st399) ?_
        refine own_go T399 m 124 #[iv x0, iv x1, iv x2, iv x3, iv x4, iv x5, iv s0, iv s1, iv s2, iv y2, iv y1, iv en, rv b1, iv 1, iv 2, .unset, .unset, .unset, .unset, .unset, .unset] [(.ref b1)] (fun t k => XS.aload X399.here hx rfl (hb hby at_122) rfl rfl k) ?_
        refine own_go T399 m 126 #[iv x0, iv x1, iv x2, iv x3, iv x4, iv x5, iv s0, iv s1, iv s2, iv y2, iv y1, iv en, rv b1, iv 1, iv 2, .unset, .unset, .unset, .unset, .unset, .unset] [(.int s1), (.ref b1)] (fun t k => XS.iload X399.here hx rfl (hb hby at_124) rfl k) ?_
        refine own_go T399 m 128 #[iv x0, iv x1, iv x2, iv x3, iv x4, iv x5, iv s0, iv s1, iv s2, iv y2, iv y1, iv en, rv b1, iv 1, iv 2, .unset, .unset, .unset, .unset, .unset, .unset] [(.int x5), (.int s1), (.ref b1)] (fun t k => XS.iload X399.here hx rfl (hb hby at_126) rfl k) ?_
        obtain ⟨_, T414, L414, X414, ⟨rfl, Nq414, Kq414, fq0_414, fq1_414, fq2_414, fq3_414, fq4_414, fq5_414, fq6_414, fq7_414, fq8_414⟩, st414⟩ := own_virtual X399 hx hZ (y := (⟨OwnK0, "find", "(II)I"⟩ : MethodName)) (z := (⟨OwnK0, "find", "(II)I"⟩ : MethodName)) hown (own_w hw 49 rfl) (own_w hw 50 rfl) (notFace_of_selects (args := #[]) (mvT hZ (own_w hw 52 rfl))) (own_w hw 52 rfl) (own_w hw 51 rfl) (own_w hw 3 rfl) (own_w hw 53 rfl) (by decide) (sp33 l Z a0 hw [] b1 w1_2 w3_2 w2_2 w4_2 w0_2 s1 x5 y1 y2 en s0 s2 kw1_2 kw3_2 kw2_2 kw0_2 T399.heap n0 Z_399 cf400 cf412 cf403 cf404 cf411 cf405 cf406 cf407 cf408 cf409 cf413 fq0_399 cf401 cf410 ne_b1_w1_2 ne_b1_w3_2 ne_b1_w2_2 ne_b1_w4_2 ne_b1_w0_2 g_b1 (own_db113 s0 s1 s2 y2 y1 en (y2 - s2) (y1 - s1) (s1 - s0) (s2 - s0) o1 o2 o3 o4 o5 o6 o7 o8 hc103_25 hc103_307 hc112_383) (own_db114 s0 s1 s2 y2 y1 en (y2 - s2) (y1 - s1) (s1 - s0) (s2 - s0) o1 o2 o3 o4 o5 o6 o7 o8 hc103_25 hc103_307 hc112_383) (own_db115 s0 s1 s2 y2 y1 en (y2 - s2) (y1 - s1) (s1 - s0) (s2 - s0) o1 o2 o3 o4 o5 o6 o7 o8 hc103_25 hc103_307 hc112_383) (own_db116 s0 s1 s2 y2 y1 en (y2 - s2) (y1 - s1) (s1 - s0) (s2 - s0) o1 o2 o3 o4 o5 o6 o7 o8 hc103_25 hc103_307 hc112_383)) rfl cf400 0 (argsL := [(.int s1), (.int x5)]) (rest := []) (Ls := #[iv x0, iv x1, iv x2, iv x3, iv x4, iv x5, iv s0, iv s1, iv s2, iv y2, iv y1, iv en, rv b1, iv 1, iv 2, .unset, .unset, .unset, .unset, .unset, .unset]) (by rw [hml]; rfl) (lenOf pd__II_I rfl) rfl rfl (Nat.le_of_eq rfl) (hb hby at_128) (by decide) (by decide) (by decide) (by decide)
        have N414 := Fr.app N399 Nq414
        have cf415 := cf400.keep Kq414
        have cf416 := cf401.keep Kq414 (ninS (Ne.symm ne_b1_w2_2) nin0)
        have cf417 := cf402.keep Kq414 (ninS (Ne.symm ne_b1_w4_2) nin0)
        have cf418 := cf410.keep Kq414 (ninS (Ne.symm ne_b1_w0_2) nin0)
        have cf419 := cf413.keep Kq414 (ninS (Ne.symm ne_b1_w1_2) nin0)
        have cf420 := fq0_399.keep Kq414 (ninS (Ne.symm ne_b1_w3_2) nin0)
        have Z_414 : n0 ≤ T414.heap.size := Nat.le_trans Z_399 Kq414.1
        refine own_go T414 m 131 #[iv x0, iv x1, iv x2, iv x3, iv x4, iv x5, iv s0, iv s1, iv s2, iv y2, iv y1, iv en, rv b1, iv 1, iv 2, .unset, .unset, .unset, .unset, .unset, .unset] [(.int y1)] (st414) ?_
        refine own_go T414 m 133 #[iv x0, iv x1, iv x2, iv x3, iv x4, iv x5, iv s0, iv s1, iv s2, iv y2, iv y1, iv en, rv b1, iv 1, iv 2, iv y1, .unset, .unset, .unset, .unset, .unset] [] (fun t k => XS.istore X414.here hx rfl (hb hby at_131) rfl rfl k) ?_
        refine own_go T414 m 135 #[iv x0, iv x1, iv x2, iv x3, iv x4, iv x5, iv s0, iv s1, iv s2, iv y2, iv y1, iv en, rv b1, iv 1, iv 2, iv y1, .unset, .unset, .unset, .unset, .unset] [(.ref b1)] (fun t k => XS.aload X414.here hx rfl (hb hby at_133) rfl rfl k) ?_
        refine own_go T414 m 137 #[iv x0, iv x1, iv x2, iv x3, iv x4, iv x5, iv s0, iv s1, iv s2, iv y2, iv y1, iv en, rv b1, iv 1, iv 2, iv y1, .unset, .unset, .unset, .unset, .unset] [(.int s2), (.ref b1)] (fun t k => XS.iload X414.here hx rfl (hb hby at_135) rfl k) ?_
        refine own_go T414 m 139 #[iv x0, iv x1, iv x2, iv x3, iv x4, iv x5, iv s0, iv s1, iv s2, iv y2, iv y1, iv en, rv b1, iv 1, iv 2, iv y1, .unset, .unset, .unset, .unset, .unset] [(.int x5), (.int s2), (.ref b1)] (fun t k => XS.iload X414.here hx rfl (hb hby at_137) rfl k) ?_
        obtain ⟨_, T421, L421, X421, ⟨rfl, Nq421, Kq421, fq0_421, fq1_421, fq2_421, fq3_421, fq4_421, fq5_421, fq6_421, fq7_421, fq8_421⟩, st421⟩ := own_virtual X414 hx hZ (y := (⟨OwnK0, "find", "(II)I"⟩ : MethodName)) (z := (⟨OwnK0, "find", "(II)I"⟩ : MethodName)) hown (own_w hw 49 rfl) (own_w hw 50 rfl) (notFace_of_selects (args := #[]) (mvT hZ (own_w hw 52 rfl))) (own_w hw 52 rfl) (own_w hw 51 rfl) (own_w hw 3 rfl) (own_w hw 53 rfl) (by decide) (sp38 l Z a0 hw [] b1 w1_2 w3_2 w2_2 w4_2 w0_2 s2 x5 y1 y2 en s0 s1 kw1_2 kw3_2 kw2_2 kw0_2 T414.heap n0 Z_414 cf415 fq0_414 fq8_414 fq1_414 fq2_414 fq3_414 fq4_414 fq5_414 fq6_414 fq7_414 cf419 cf420 cf416 cf418 ne_b1_w1_2 ne_b1_w3_2 ne_b1_w2_2 ne_b1_w4_2 ne_b1_w0_2 g_b1 (own_db121 s0 s1 s2 y2 y1 en (y2 - s2) (y1 - s1) (s1 - s0) (s2 - s0) o1 o2 o3 o4 o5 o6 o7 o8 hc103_25 hc103_307 hc112_383) (own_db122 s0 s1 s2 y2 y1 en (y2 - s2) (y1 - s1) (s1 - s0) (s2 - s0) o1 o2 o3 o4 o5 o6 o7 o8 hc103_25 hc103_307 hc112_383) (own_db123 s0 s1 s2 y2 y1 en (y2 - s2) (y1 - s1) (s1 - s0) (s2 - s0) o1 o2 o3 o4 o5 o6 o7 o8 hc103_25 hc103_307 hc112_383) o3 (own_db124 s0 s1 s2 y2 y1 en (y2 - s2) (y1 - s1) (s1 - s0) (s2 - s0) o1 o2 o3 o4 o5 o6 o7 o8 hc103_25 hc103_307 hc112_383) (own_db125 s0 s1 s2 y2 y1 en (y2 - s2) (y1 - s1) (s1 - s0) (s2 - s0) o1 o2 o3 o4 o5 o6 o7 o8 hc103_25 hc103_307 hc112_383)) rfl cf415 0 (argsL := [(.int s2), (.int x5)]) (rest := []) (Ls := #[iv x0, iv x1, iv x2, iv x3, iv x4, iv x5, iv s0, iv s1, iv s2, iv y2, iv y1, iv en, rv b1, iv 1, iv 2, iv y1, .unset, .unset, .unset, .unset, .unset]) (by rw [hml]; rfl) (lenOf pd__II_I rfl) rfl rfl (Nat.le_of_eq rfl) (hb hby at_139) (by decide) (by decide) (by decide) (by decide)
        have N421 := Fr.app N414 Nq421
        have cf422 := cf415.keep Kq421
        have cf423 := cf416.keep Kq421 (ninS (Ne.symm ne_b1_w2_2) nin0)
        have cf424 := cf417.keep Kq421 (ninS (Ne.symm ne_b1_w4_2) nin0)
        have cf425 := cf418.keep Kq421 (ninS (Ne.symm ne_b1_w0_2) nin0)
        have cf426 := cf419.keep Kq421 (ninS (Ne.symm ne_b1_w1_2) nin0)
        have cf427 := cf420.keep Kq421 (ninS (Ne.symm ne_b1_w3_2) nin0)
        have Z_421 : n0 ≤ T421.heap.size := Nat.le_trans Z_414 Kq421.1
        refine own_go T421 m 142 #[iv x0, iv x1, iv x2, iv x3, iv x4, iv x5, iv s0, iv s1, iv s2, iv y2, iv y1, iv en, rv b1, iv 1, iv 2, iv y1, .unset, .unset, .unset, .unset, .unset] [(.int y2)] (st421) ?_
        refine own_go T421 m 144 #[iv x0, iv x1, iv x2, iv x3, iv x4, iv x5, iv s0, iv s1, iv s2, iv y2, iv y1, iv en, rv b1, iv 1, iv 2, iv y1, iv y2, .unset, .unset, .unset, .unset] [] (fun t k => XS.istore X421.here hx rfl (hb hby at_142) rfl rfl k) ?_
        refine own_go T421 m 146 #[iv x0, iv x1, iv x2, iv x3, iv x4, iv x5, iv s0, iv s1, iv s2, iv y2, iv y1, iv en, rv b1, iv 1, iv 2, iv y1, iv y2, .unset, .unset, .unset, .unset] [(.int y2)] (fun t k => XS.iload X421.here hx rfl (hb hby at_144) rfl k) ?_
        refine own_go T421 m 148 #[iv x0, iv x1, iv x2, iv x3, iv x4, iv x5, iv s0, iv s1, iv s2, iv y2, iv y1, iv en, rv b1, iv 1, iv 2, iv y1, iv y2, .unset, .unset, .unset, .unset] [(.int s2), (.int y2)] (fun t k => XS.iload X421.here hx rfl (hb hby at_146) rfl k) ?_
        refine own_go T421 m 149 #[iv x0, iv x1, iv x2, iv x3, iv x4, iv x5, iv s0, iv s1, iv s2, iv y2, iv y1, iv en, rv b1, iv 1, iv 2, iv y1, iv y2, .unset, .unset, .unset, .unset] [(.int (y2 - s2))] (fun t k => XS.isub X421.here hx rfl (hb hby at_148) rfl k) ?_
        refine own_go T421 m 151 #[iv x0, iv x1, iv x2, iv x3, iv x4, iv x5, iv s0, iv s1, iv s2, iv y2, iv y1, iv en, rv b1, iv 1, iv 2, iv y1, iv y2, .unset, .unset, .unset, .unset] [(.int 64), (.int (y2 - s2))] (fun t k => XS.bipush X421.here hx rfl (hb hby at_149) k) ?_
        refine own_go T421 m 154 #[iv x0, iv x1, iv x2, iv x3, iv x4, iv x5, iv s0, iv s1, iv s2, iv y2, iv y1, iv en, rv b1, iv 1, iv 2, iv y1, iv y2, .unset, .unset, .unset, .unset] [] (fun t k => XS.icmpNo X421.here hx rfl (hb hby at_151) rfl (flt hc103_25).1 k) ?_
        refine own_go T421 m 155 #[iv x0, iv x1, iv x2, iv x3, iv x4, iv x5, iv s0, iv s1, iv s2, iv y2, iv y1, iv en, rv b1, iv 1, iv 2, iv y1, iv y2, .unset, .unset, .unset, .unset] [(.int 1)] (fun t k => XS.iconst X421.here hx rfl (hb hby at_154) k) ?_
        refine own_go T421 m 159 #[iv x0, iv x1, iv x2, iv x3, iv x4, iv x5, iv s0, iv s1, iv s2, iv y2, iv y1, iv en, rv b1, iv 1, iv 2, iv y1, iv y2, .unset, .unset, .unset, .unset] [(.int 1)] (fun t k => XS.goto X421.here hx rfl (pc0 := 155) (pc' := 159) rfl (hb hby at_155) (by decide) (by decide) k) ?_
        refine own_go T421 m 161 #[iv x0, iv x1, iv x2, iv x3, iv x4, iv x5, iv s0, iv s1, iv s2, iv y2, iv y1, iv en, rv b1, iv 1, iv 2, iv y1, iv y2, iv 1, .unset, .unset, .unset] [] (fun t k => XS.istore X421.here hx rfl (hb hby at_159) rfl rfl k) ?_
        refine own_go T421 m 163 #[iv x0, iv x1, iv x2, iv x3, iv x4, iv x5, iv s0, iv s1, iv s2, iv y2, iv y1, iv en, rv b1, iv 1, iv 2, iv y1, iv y2, iv 1, .unset, .unset, .unset] [(.int y1)] (fun t k => XS.iload X421.here hx rfl (hb hby at_161) rfl k) ?_
        refine own_go T421 m 165 #[iv x0, iv x1, iv x2, iv x3, iv x4, iv x5, iv s0, iv s1, iv s2, iv y2, iv y1, iv en, rv b1, iv 1, iv 2, iv y1, iv y2, iv 1, .unset, .unset, .unset] [(.int s1), (.int y1)] (fun t k => XS.iload X421.here hx rfl (hb hby at_163) rfl k) ?_
        refine own_go T421 m 166 #[iv x0, iv x1, iv x2, iv x3, iv x4, iv x5, iv s0, iv s1, iv s2, iv y2, iv y1, iv en, rv b1, iv 1, iv 2, iv y1, iv y2, iv 1, .unset, .unset, .unset] [(.int (y1 - s1))] (fun t k => XS.isub X421.here hx rfl (hb hby at_165) rfl k) ?_
        refine own_go T421 m 168 #[iv x0, iv x1, iv x2, iv x3, iv x4, iv x5, iv s0, iv s1, iv s2, iv y2, iv y1, iv en, rv b1, iv 1, iv 2, iv y1, iv y2, iv 1, .unset, .unset, .unset] [(.int 64), (.int (y1 - s1))] (fun t k => XS.bipush X421.here hx rfl (hb hby at_166) k) ?_
        refine own_go T421 m 181 #[iv x0, iv x1, iv x2, iv x3, iv x4, iv x5, iv s0, iv s1, iv s2, iv y2, iv y1, iv en, rv b1, iv 1, iv 2, iv y1, iv y2, iv 1, .unset, .unset, .unset] [] (fun t k => XS.icmpYes X421.here hx rfl (pc0 := 168) (pc' := 181) rfl (hb hby at_168) rfl (flt (own_db111 s0 s1 s2 y2 y1 en (y2 - s2) (y1 - s1) (s1 - s0) (s2 - s0) o1 o2 o3 o4 o5 o6 o7 o8 hc103_25 hc103_307 hc112_383)).2.1 (by decide) (by decide) k) ?_
        refine own_go T421 m 182 #[iv x0, iv x1, iv x2, iv x3, iv x4, iv x5, iv s0, iv s1, iv s2, iv y2, iv y1, iv en, rv b1, iv 1, iv 2, iv y1, iv y2, iv 1, .unset, .unset, .unset] [(.int 1)] (fun t k => XS.iconst X421.here hx rfl (hb hby at_181) k) ?_
        refine own_go T421 m 186 #[iv x0, iv x1, iv x2, iv x3, iv x4, iv x5, iv s0, iv s1, iv s2, iv y2, iv y1, iv en, rv b1, iv 1, iv 2, iv y1, iv y2, iv 1, .unset, .unset, .unset] [(.int 1)] (fun t k => XS.goto X421.here hx rfl (pc0 := 182) (pc' := 186) rfl (hb hby at_182) (by decide) (by decide) k) ?_
        refine own_go T421 m 188 #[iv x0, iv x1, iv x2, iv x3, iv x4, iv x5, iv s0, iv s1, iv s2, iv y2, iv y1, iv en, rv b1, iv 1, iv 2, iv y1, iv y2, iv 1, iv 1, .unset, .unset] [] (fun t k => XS.istore X421.here hx rfl (hb hby at_186) rfl rfl k) ?_
        refine own_go T421 m 190 #[iv x0, iv x1, iv x2, iv x3, iv x4, iv x5, iv s0, iv s1, iv s2, iv y2, iv y1, iv en, rv b1, iv 1, iv 2, iv y1, iv y2, iv 1, iv 1, .unset, .unset] [(.int 1)] (fun t k => XS.iload X421.here hx rfl (hb hby at_188) rfl k) ?_
        refine own_go T421 m 193 #[iv x0, iv x1, iv x2, iv x3, iv x4, iv x5, iv s0, iv s1, iv s2, iv y2, iv y1, iv en, rv b1, iv 1, iv 2, iv y1, iv y2, iv 1, iv 1, .unset, .unset] [] (fun t k => XS.ifNo X421.here hx rfl (hb hby at_190) rfl ((if0 _ _).trans (feq (by decide)).1) k) ?_
        refine own_go T421 m 195 #[iv x0, iv x1, iv x2, iv x3, iv x4, iv x5, iv s0, iv s1, iv s2, iv y2, iv y1, iv en, rv b1, iv 1, iv 2, iv y1, iv y2, iv 1, iv 1, .unset, .unset] [(.int y1)] (fun t k => XS.iload X421.here hx rfl (hb hby at_193) rfl k) ?_
        refine own_go T421 m 199 #[iv x0, iv x1, iv x2, iv x3, iv x4, iv x5, iv s0, iv s1, iv s2, iv y2, iv y1, iv en, rv b1, iv 1, iv 2, iv y1, iv y2, iv 1, iv 1, .unset, .unset] [(.int y1)] (fun t k => XS.goto X421.here hx rfl (pc0 := 195) (pc' := 199) rfl (hb hby at_195) (by decide) (by decide) k) ?_
        refine own_go T421 m 201 #[iv x0, iv x1, iv x2, iv x3, iv x4, iv x5, iv s0, iv s1, iv s2, iv y2, iv y1, iv en, rv b1, iv 1, iv 2, iv y1, iv y2, iv 1, iv 1, iv y1, .unset] [] (fun t k => XS.istore X421.here hx rfl (hb hby at_199) rfl rfl k) ?_
        refine own_go T421 m 203 #[iv x0, iv x1, iv x2, iv x3, iv x4, iv x5, iv s0, iv s1, iv s2, iv y2, iv y1, iv en, rv b1, iv 1, iv 2, iv y1, iv y2, iv 1, iv 1, iv y1, .unset] [(.int 1)] (fun t k => XS.iload X421.here hx rfl (hb hby at_201) rfl k) ?_
        refine own_go T421 m 206 #[iv x0, iv x1, iv x2, iv x3, iv x4, iv x5, iv s0, iv s1, iv s2, iv y2, iv y1, iv en, rv b1, iv 1, iv 2, iv y1, iv y2, iv 1, iv 1, iv y1, .unset] [] (fun t k => XS.ifNo X421.here hx rfl (hb hby at_203) rfl ((if0 _ _).trans (feq (by decide)).1) k) ?_
        refine own_go T421 m 208 #[iv x0, iv x1, iv x2, iv x3, iv x4, iv x5, iv s0, iv s1, iv s2, iv y2, iv y1, iv en, rv b1, iv 1, iv 2, iv y1, iv y2, iv 1, iv 1, iv y1, .unset] [(.int y2)] (fun t k => XS.iload X421.here hx rfl (hb hby at_206) rfl k) ?_
        refine own_go T421 m 212 #[iv x0, iv x1, iv x2, iv x3, iv x4, iv x5, iv s0, iv s1, iv s2, iv y2, iv y1, iv en, rv b1, iv 1, iv 2, iv y1, iv y2, iv 1, iv 1, iv y1, .unset] [(.int y2)] (fun t k => XS.goto X421.here hx rfl (pc0 := 208) (pc' := 212) rfl (hb hby at_208) (by decide) (by decide) k) ?_
        refine own_go T421 m 214 #[iv x0, iv x1, iv x2, iv x3, iv x4, iv x5, iv s0, iv s1, iv s2, iv y2, iv y1, iv en, rv b1, iv 1, iv 2, iv y1, iv y2, iv 1, iv 1, iv y1, iv y2] [] (fun t k => XS.istore X421.here hx rfl (hb hby at_212) rfl rfl k) ?_
        refine own_go T421 m 216 #[iv x0, iv x1, iv x2, iv x3, iv x4, iv x5, iv s0, iv s1, iv s2, iv y2, iv y1, iv en, rv b1, iv 1, iv 2, iv y1, iv y2, iv 1, iv 1, iv y1, iv y2] [(.int y1)] (fun t k => XS.iload X421.here hx rfl (hb hby at_214) rfl k) ?_
        refine own_go T421 m 218 #[iv x0, iv x1, iv x2, iv x3, iv x4, iv x5, iv s0, iv s1, iv s2, iv y2, iv y1, iv en, rv b1, iv 1, iv 2, iv y1, iv y2, iv 1, iv 1, iv y1, iv y2] [(.int y1), (.int y1)] (fun t k => XS.iload X421.here hx rfl (hb hby at_216) rfl k) ?_
        refine own_go T421 m 221 #[iv x0, iv x1, iv x2, iv x3, iv x4, iv x5, iv s0, iv s1, iv s2, iv y2, iv y1, iv en, rv b1, iv 1, iv 2, iv y1, iv y2, iv 1, iv 1, iv y1, iv y2] [] (fun t k => XS.icmpNo X421.here hx rfl (hb hby at_218) rfl (teq rfl).2 k) ?_
        refine own_go T421 m 223 #[iv x0, iv x1, iv x2, iv x3, iv x4, iv x5, iv s0, iv s1, iv s2, iv y2, iv y1, iv en, rv b1, iv 1, iv 2, iv y1, iv y2, iv 1, iv 1, iv y1, iv y2] [(.int y2)] (fun t k => XS.iload X421.here hx rfl (hb hby at_221) rfl k) ?_
        refine own_go T421 m 225 #[iv x0, iv x1, iv x2, iv x3, iv x4, iv x5, iv s0, iv s1, iv s2, iv y2, iv y1, iv en, rv b1, iv 1, iv 2, iv y1, iv y2, iv 1, iv 1, iv y1, iv y2] [(.int y2), (.int y2)] (fun t k => XS.iload X421.here hx rfl (hb hby at_223) rfl k) ?_
        refine own_go T421 m 228 #[iv x0, iv x1, iv x2, iv x3, iv x4, iv x5, iv s0, iv s1, iv s2, iv y2, iv y1, iv en, rv b1, iv 1, iv 2, iv y1, iv y2, iv 1, iv 1, iv y1, iv y2] [] (fun t k => XS.icmpNo X421.here hx rfl (hb hby at_225) rfl (teq rfl).2 k) ?_
        refine own_go T421 m 229 #[iv x0, iv x1, iv x2, iv x3, iv x4, iv x5, iv s0, iv s1, iv s2, iv y2, iv y1, iv en, rv b1, iv 1, iv 2, iv y1, iv y2, iv 1, iv 1, iv y1, iv y2] [(.int 1)] (fun t k => XS.iconst X421.here hx rfl (hb hby at_228) k) ?_
        refine own_go T421 m 233 #[iv x0, iv x1, iv x2, iv x3, iv x4, iv x5, iv s0, iv s1, iv s2, iv y2, iv y1, iv en, rv b1, iv 1, iv 2, iv y1, iv y2, iv 1, iv 1, iv y1, iv y2] [(.int 1)] (fun t k => XS.goto X421.here hx rfl (pc0 := 229) (pc' := 233) rfl (hb hby at_229) (by decide) (by decide) k) ?_
        refine own_retZ X421 hx hlk hret (by decide) (hb hby at_233) (by decide) (by decide) ?_
        exact ⟨rfl, N421⟩
      · obtain ⟨_, T428, L428, X428, ⟨rfl, Nq428, Kq428, fq0_428⟩, st428⟩ := own_virtual X367 hx hZ (y := (⟨OwnK0, "closed", "(II)V"⟩ : MethodName)) (z := (⟨OwnK0, "closed", "(II)V"⟩ : MethodName)) hown (own_w hw 39 rfl) (own_w hw 40 rfl) (notFace_of_selects (args := #[]) (mvT hZ (own_w hw 42 rfl))) (own_w hw 42 rfl) (own_w hw 41 rfl) (own_w hw 3 rfl) (own_w hw 43 rfl) (by decide) (sp41 l Z a0 hw [] b1 w1_2 w2_2 w0_2 y1 y2 s0 s1 s2 kw1_2 kw2_2 kw0_2 T367.heap n0 Z_367 cf373 cf375 cf377 cf378 fq0_367 cf370 cf379 ne_b1_w1_2 fq4_2 (Ne.symm fq0_2) g_w1_2 (own_db132 s0 s1 s2 y2 y1 en (y2 - s2) (y1 - s1) (s1 - s0) (s2 - s0) o1 o2 o3 o4 o5 o6 o7 o8 hc103_25 hc103_307 hc112_383) hc112_383) rfl cf368 0 (argsL := [(.int 1), (.int y1)]) (rest := []) (Ls := #[iv x0, iv x1, iv x2, iv x3, iv x4, iv x5, iv s0, iv s1, iv s2, iv y2, iv y1, iv en, rv b1, iv 1, iv 2, .unset, .unset, .unset, .unset, .unset, .unset]) (by rw [hml]; rfl) (lenOf pd__II_V rfl) rfl rfl (Nat.le_of_eq rfl) (hb hby at_112) (by decide) (by decide) (by decide) (by decide)
        have N428 := Fr.app N367 Nq428
        have cf429 := cf368.keep Kq428
        have cf430 := cf369.keep Kq428 (ninS (Ne.symm fq5_2) nin0)
        have cf431 := cf370.keep Kq428 (ninS (Ne.symm fq4_2) nin0)
        have cf432 := cf371.keep Kq428 (ninS (Ne.symm fq6_2) nin0)
        have cf433 := cf372.keep Kq428 (ninS ne_b1_w1_2 nin0)
        have cf434 := cf373.keep Kq428 (ninS ne_b1_w1_2 nin0)
        have cf435 := cf374.keep Kq428 (ninS ne_b1_w1_2 nin0)
        have cf436 := cf375.keep Kq428 (ninS ne_b1_w1_2 nin0)
        have cf437 := cf376.keep Kq428 (ninS ne_b1_w1_2 nin0)
        have cf438 := cf377.keep Kq428 (ninS ne_b1_w1_2 nin0)
        have cf439 := cf378.keep Kq428 (ninS ne_b1_w1_2 nin0)
        have cf440 := cf379.keep Kq428 (ninS fq0_2 nin0)
        have cf441 := cf380.keep Kq428 (ninS ne_b1_w1_2 nin0)
        have cf442 := cf381.keep Kq428 (ninS ne_b1_w1_2 nin0)
        have Z_428 : n0 ≤ T428.heap.size := Nat.le_trans Z_367 Kq428.1
        refine own_go T428 m 115 #[iv x0, iv x1, iv x2, iv x3, iv x4, iv x5, iv s0, iv s1, iv s2, iv y2, iv y1, iv en, rv b1, iv 1, iv 2, .unset, .unset, .unset, .unset, .unset, .unset] [] (st428) ?_
        refine own_go T428 m 117 #[iv x0, iv x1, iv x2, iv x3, iv x4, iv x5, iv s0, iv s1, iv s2, iv y2, iv y1, iv en, rv b1, iv 1, iv 2, .unset, .unset, .unset, .unset, .unset, .unset] [(.ref b1)] (fun t k => XS.aload X428.here hx rfl (hb hby at_115) rfl rfl k) ?_
        refine own_go T428 m 119 #[iv x0, iv x1, iv x2, iv x3, iv x4, iv x5, iv s0, iv s1, iv s2, iv y2, iv y1, iv en, rv b1, iv 1, iv 2, .unset, .unset, .unset, .unset, .unset, .unset] [(.int en), (.ref b1)] (fun t k => XS.iload X428.here hx rfl (hb hby at_117) rfl k) ?_
        obtain ⟨_, T443, L443, X443, ⟨rfl, Nq443, Kq443, fq0_443⟩, st443⟩ := own_virtual X428 hx hZ (y := (⟨OwnK0, "endRead", "(I)V"⟩ : MethodName)) (z := (⟨OwnK0, "endRead", "(I)V"⟩ : MethodName)) hown (own_w hw 44 rfl) (own_w hw 45 rfl) (notFace_of_selects (args := #[]) (mvT hZ (own_w hw 47 rfl))) (own_w hw 47 rfl) (own_w hw 46 rfl) (own_w hw 3 rfl) (own_w hw 48 rfl) (by decide) (sp32 l Z a0 hw [] b1 w3_2 w2_2 en kw3_2 kw2_2 T428.heap n0 Z_428 cf442 cf435 cf436 cf438 cf430 cf431 ne_b1_w3_2 (Ne.symm fq7_2) g_w3_2) rfl cf429 0 (argsL := [(.int en)]) (rest := []) (Ls := #[iv x0, iv x1, iv x2, iv x3, iv x4, iv x5, iv s0, iv s1, iv s2, iv y2, iv y1, iv en, rv b1, iv 1, iv 2, .unset, .unset, .unset, .unset, .unset, .unset]) (by rw [hml]; rfl) (lenOf pd__I_V rfl) rfl rfl (Nat.le_of_eq rfl) (hb hby at_119) (by decide) (by decide) (by decide) (by decide)
        have N443 := Fr.app N428 Nq443
        have cf444 := cf429.keep Kq443
        have cf445 := cf431.keep Kq443 (ninS fq7_2 nin0)
        have cf446 := cf432.keep Kq443 (ninS (Ne.symm fq9_2) nin0)
        have cf447 := cf433.keep Kq443 (ninS ne_b1_w3_2 nin0)
        have cf448 := cf434.keep Kq443 (ninS ne_b1_w3_2 nin0)
        have cf449 := cf435.keep Kq443 (ninS ne_b1_w3_2 nin0)
        have cf450 := cf436.keep Kq443 (ninS ne_b1_w3_2 nin0)
        have cf451 := cf437.keep Kq443 (ninS ne_b1_w3_2 nin0)
        have cf452 := cf438.keep Kq443 (ninS ne_b1_w3_2 nin0)
        have cf453 := cf439.keep Kq443 (ninS ne_b1_w3_2 nin0)
        have cf454 := cf440.keep Kq443 (ninS fq2_2 nin0)
        have cf455 := cf441.keep Kq443 (ninS ne_b1_w3_2 nin0)
        have cf456 := cf442.keep Kq443 (ninS ne_b1_w3_2 nin0)
        have cf457 := fq0_428.keep Kq443 (ninS fq5_2 nin0)
        have Z_443 : n0 ≤ T443.heap.size := Nat.le_trans Z_428 Kq443.1
        refine own_go T443 m 122 #[iv x0, iv x1, iv x2, iv x3, iv x4, iv x5, iv s0, iv s1, iv s2, iv y2, iv y1, iv en, rv b1, iv 1, iv 2, .unset, .unset, .unset, .unset, .unset, .unset] [] (st443) ?_
        refine own_go T443 m 124 #[iv x0, iv x1, iv x2, iv x3, iv x4, iv x5, iv s0, iv s1, iv s2, iv y2, iv y1, iv en, rv b1, iv 1, iv 2, .unset, .unset, .unset, .unset, .unset, .unset] [(.ref b1)] (fun t k => XS.aload X443.here hx rfl (hb hby at_122) rfl rfl k) ?_
        refine own_go T443 m 126 #[iv x0, iv x1, iv x2, iv x3, iv x4, iv x5, iv s0, iv s1, iv s2, iv y2, iv y1, iv en, rv b1, iv 1, iv 2, .unset, .unset, .unset, .unset, .unset, .unset] [(.int s1), (.ref b1)] (fun t k => XS.iload X443.here hx rfl (hb hby at_124) rfl k) ?_
        refine own_go T443 m 128 #[iv x0, iv x1, iv x2, iv x3, iv x4, iv x5, iv s0, iv s1, iv s2, iv y2, iv y1, iv en, rv b1, iv 1, iv 2, .unset, .unset, .unset, .unset, .unset, .unset] [(.int x5), (.int s1), (.ref b1)] (fun t k => XS.iload X443.here hx rfl (hb hby at_126) rfl k) ?_
        obtain ⟨_, T458, L458, X458, ⟨rfl, Nq458, Kq458, fq0_458, fq1_458, fq2_458, fq3_458, fq4_458, fq5_458, fq6_458, fq7_458, fq8_458⟩, st458⟩ := own_virtual X443 hx hZ (y := (⟨OwnK0, "find", "(II)I"⟩ : MethodName)) (z := (⟨OwnK0, "find", "(II)I"⟩ : MethodName)) hown (own_w hw 49 rfl) (own_w hw 50 rfl) (notFace_of_selects (args := #[]) (mvT hZ (own_w hw 52 rfl))) (own_w hw 52 rfl) (own_w hw 51 rfl) (own_w hw 3 rfl) (own_w hw 53 rfl) (by decide) (sp33 l Z a0 hw [] b1 w1_2 w3_2 w2_2 w4_2 w0_2 s1 x5 y1 y2 en s0 s2 kw1_2 kw3_2 kw2_2 kw0_2 T443.heap n0 Z_443 cf444 cf456 cf447 cf448 cf455 cf449 cf450 cf451 cf452 cf453 cf457 fq0_443 cf445 cf454 ne_b1_w1_2 ne_b1_w3_2 ne_b1_w2_2 ne_b1_w4_2 ne_b1_w0_2 g_b1 (own_db136 s0 s1 s2 y2 y1 en (y2 - s2) (y1 - s1) (s1 - s0) (s2 - s0) o1 o2 o3 o4 o5 o6 o7 o8 hc103_25 hc103_307 hc112_383) (own_db137 s0 s1 s2 y2 y1 en (y2 - s2) (y1 - s1) (s1 - s0) (s2 - s0) o1 o2 o3 o4 o5 o6 o7 o8 hc103_25 hc103_307 hc112_383) (own_db138 s0 s1 s2 y2 y1 en (y2 - s2) (y1 - s1) (s1 - s0) (s2 - s0) o1 o2 o3 o4 o5 o6 o7 o8 hc103_25 hc103_307 hc112_383) (own_db139 s0 s1 s2 y2 y1 en (y2 - s2) (y1 - s1) (s1 - s0) (s2 - s0) o1 o2 o3 o4 o5 o6 o7 o8 hc103_25 hc103_307 hc112_383)) rfl cf444 0 (argsL := [(.int s1), (.int x5)]) (rest := []) (Ls := #[iv x0, iv x1, iv x2, iv x3, iv x4, iv x5, iv s0, iv s1, iv s2, iv y2, iv y1, iv en, rv b1, iv 1, iv 2, .unset, .unset, .unset, .unset, .unset, .unset]) (by rw [hml]; rfl) (lenOf pd__II_I rfl) rfl rfl (Nat.le_of_eq rfl) (hb hby at_128) (by decide) (by decide) (by decide) (by decide)
        have N458 := Fr.app N443 Nq458
        have cf459 := cf444.keep Kq458
        have cf460 := cf445.keep Kq458 (ninS (Ne.symm ne_b1_w2_2) nin0)
        have cf461 := cf446.keep Kq458 (ninS (Ne.symm ne_b1_w4_2) nin0)
        have cf462 := cf454.keep Kq458 (ninS (Ne.symm ne_b1_w0_2) nin0)
        have cf463 := cf457.keep Kq458 (ninS (Ne.symm ne_b1_w1_2) nin0)
        have cf464 := fq0_443.keep Kq458 (ninS (Ne.symm ne_b1_w3_2) nin0)
        have Z_458 : n0 ≤ T458.heap.size := Nat.le_trans Z_443 Kq458.1
        refine own_go T458 m 131 #[iv x0, iv x1, iv x2, iv x3, iv x4, iv x5, iv s0, iv s1, iv s2, iv y2, iv y1, iv en, rv b1, iv 1, iv 2, .unset, .unset, .unset, .unset, .unset, .unset] [(.int y1)] (st458) ?_
        refine own_go T458 m 133 #[iv x0, iv x1, iv x2, iv x3, iv x4, iv x5, iv s0, iv s1, iv s2, iv y2, iv y1, iv en, rv b1, iv 1, iv 2, iv y1, .unset, .unset, .unset, .unset, .unset] [] (fun t k => XS.istore X458.here hx rfl (hb hby at_131) rfl rfl k) ?_
        refine own_go T458 m 135 #[iv x0, iv x1, iv x2, iv x3, iv x4, iv x5, iv s0, iv s1, iv s2, iv y2, iv y1, iv en, rv b1, iv 1, iv 2, iv y1, .unset, .unset, .unset, .unset, .unset] [(.ref b1)] (fun t k => XS.aload X458.here hx rfl (hb hby at_133) rfl rfl k) ?_
        refine own_go T458 m 137 #[iv x0, iv x1, iv x2, iv x3, iv x4, iv x5, iv s0, iv s1, iv s2, iv y2, iv y1, iv en, rv b1, iv 1, iv 2, iv y1, .unset, .unset, .unset, .unset, .unset] [(.int s2), (.ref b1)] (fun t k => XS.iload X458.here hx rfl (hb hby at_135) rfl k) ?_
        refine own_go T458 m 139 #[iv x0, iv x1, iv x2, iv x3, iv x4, iv x5, iv s0, iv s1, iv s2, iv y2, iv y1, iv en, rv b1, iv 1, iv 2, iv y1, .unset, .unset, .unset, .unset, .unset] [(.int x5), (.int s2), (.ref b1)] (fun t k => XS.iload X458.here hx rfl (hb hby at_137) rfl k) ?_
        obtain ⟨_, T465, L465, X465, ⟨rfl, Nq465, Kq465, fq0_465, fq1_465, fq2_465, fq3_465, fq4_465, fq5_465, fq6_465, fq7_465, fq8_465⟩, st465⟩ := own_virtual X458 hx hZ (y := (⟨OwnK0, "find", "(II)I"⟩ : MethodName)) (z := (⟨OwnK0, "find", "(II)I"⟩ : MethodName)) hown (own_w hw 49 rfl) (own_w hw 50 rfl) (notFace_of_selects (args := #[]) (mvT hZ (own_w hw 52 rfl))) (own_w hw 52 rfl) (own_w hw 51 rfl) (own_w hw 3 rfl) (own_w hw 53 rfl) (by decide) (sp38 l Z a0 hw [] b1 w1_2 w3_2 w2_2 w4_2 w0_2 s2 x5 y1 y2 en s0 s1 kw1_2 kw3_2 kw2_2 kw0_2 T458.heap n0 Z_458 cf459 fq0_458 fq8_458 fq1_458 fq2_458 fq3_458 fq4_458 fq5_458 fq6_458 fq7_458 cf463 cf464 cf460 cf462 ne_b1_w1_2 ne_b1_w3_2 ne_b1_w2_2 ne_b1_w4_2 ne_b1_w0_2 g_b1 (own_db144 s0 s1 s2 y2 y1 en (y2 - s2) (y1 - s1) (s1 - s0) (s2 - s0) o1 o2 o3 o4 o5 o6 o7 o8 hc103_25 hc103_307 hc112_383) (own_db145 s0 s1 s2 y2 y1 en (y2 - s2) (y1 - s1) (s1 - s0) (s2 - s0) o1 o2 o3 o4 o5 o6 o7 o8 hc103_25 hc103_307 hc112_383) (own_db146 s0 s1 s2 y2 y1 en (y2 - s2) (y1 - s1) (s1 - s0) (s2 - s0) o1 o2 o3 o4 o5 o6 o7 o8 hc103_25 hc103_307 hc112_383) o3 (own_db147 s0 s1 s2 y2 y1 en (y2 - s2) (y1 - s1) (s1 - s0) (s2 - s0) o1 o2 o3 o4 o5 o6 o7 o8 hc103_25 hc103_307 hc112_383) (own_db148 s0 s1 s2 y2 y1 en (y2 - s2) (y1 - s1) (s1 - s0) (s2 - s0) o1 o2 o3 o4 o5 o6 o7 o8 hc103_25 hc103_307 hc112_383)) rfl cf459 0 (argsL := [(.int s2), (.int x5)]) (rest := []) (Ls := #[iv x0, iv x1, iv x2, iv x3, iv x4, iv x5, iv s0, iv s1, iv s2, iv y2, iv y1, iv en, rv b1, iv 1, iv 2, iv y1, .unset, .unset, .unset, .unset, .unset]) (by rw [hml]; rfl) (lenOf pd__II_I rfl) rfl rfl (Nat.le_of_eq rfl) (hb hby at_139) (by decide) (by decide) (by decide) (by decide)
        have N465 := Fr.app N458 Nq465
        have cf466 := cf459.keep Kq465
        have cf467 := cf460.keep Kq465 (ninS (Ne.symm ne_b1_w2_2) nin0)
        have cf468 := cf461.keep Kq465 (ninS (Ne.symm ne_b1_w4_2) nin0)
        have cf469 := cf462.keep Kq465 (ninS (Ne.symm ne_b1_w0_2) nin0)
        have cf470 := cf463.keep Kq465 (ninS (Ne.symm ne_b1_w1_2) nin0)
        have cf471 := cf464.keep Kq465 (ninS (Ne.symm ne_b1_w3_2) nin0)
        have Z_465 : n0 ≤ T465.heap.size := Nat.le_trans Z_458 Kq465.1
        refine own_go T465 m 142 #[iv x0, iv x1, iv x2, iv x3, iv x4, iv x5, iv s0, iv s1, iv s2, iv y2, iv y1, iv en, rv b1, iv 1, iv 2, iv y1, .unset, .unset, .unset, .unset, .unset] [(.int y2)] (st465) ?_
        refine own_go T465 m 144 #[iv x0, iv x1, iv x2, iv x3, iv x4, iv x5, iv s0, iv s1, iv s2, iv y2, iv y1, iv en, rv b1, iv 1, iv 2, iv y1, iv y2, .unset, .unset, .unset, .unset] [] (fun t k => XS.istore X465.here hx rfl (hb hby at_142) rfl rfl k) ?_
        refine own_go T465 m 146 #[iv x0, iv x1, iv x2, iv x3, iv x4, iv x5, iv s0, iv s1, iv s2, iv y2, iv y1, iv en, rv b1, iv 1, iv 2, iv y1, iv y2, .unset, .unset, .unset, .unset] [(.int y2)] (fun t k => XS.iload X465.here hx rfl (hb hby at_144) rfl k) ?_
        refine own_go T465 m 148 #[iv x0, iv x1, iv x2, iv x3, iv x4, iv x5, iv s0, iv s1, iv s2, iv y2, iv y1, iv en, rv b1, iv 1, iv 2, iv y1, iv y2, .unset, .unset, .unset, .unset] [(.int s2), (.int y2)] (fun t k => XS.iload X465.here hx rfl (hb hby at_146) rfl k) ?_
        refine own_go T465 m 149 #[iv x0, iv x1, iv x2, iv x3, iv x4, iv x5, iv s0, iv s1, iv s2, iv y2, iv y1, iv en, rv b1, iv 1, iv 2, iv y1, iv y2, .unset, .unset, .unset, .unset] [(.int (y2 - s2))] (fun t k => XS.isub X465.here hx rfl (hb hby at_148) rfl k) ?_
        refine own_go T465 m 151 #[iv x0, iv x1, iv x2, iv x3, iv x4, iv x5, iv s0, iv s1, iv s2, iv y2, iv y1, iv en, rv b1, iv 1, iv 2, iv y1, iv y2, .unset, .unset, .unset, .unset] [(.int 64), (.int (y2 - s2))] (fun t k => XS.bipush X465.here hx rfl (hb hby at_149) k) ?_
        refine own_go T465 m 154 #[iv x0, iv x1, iv x2, iv x3, iv x4, iv x5, iv s0, iv s1, iv s2, iv y2, iv y1, iv en, rv b1, iv 1, iv 2, iv y1, iv y2, .unset, .unset, .unset, .unset] [] (fun t k => XS.icmpNo X465.here hx rfl (hb hby at_151) rfl (flt hc103_25).1 k) ?_
        refine own_go T465 m 155 #[iv x0, iv x1, iv x2, iv x3, iv x4, iv x5, iv s0, iv s1, iv s2, iv y2, iv y1, iv en, rv b1, iv 1, iv 2, iv y1, iv y2, .unset, .unset, .unset, .unset] [(.int 1)] (fun t k => XS.iconst X465.here hx rfl (hb hby at_154) k) ?_
        refine own_go T465 m 159 #[iv x0, iv x1, iv x2, iv x3, iv x4, iv x5, iv s0, iv s1, iv s2, iv y2, iv y1, iv en, rv b1, iv 1, iv 2, iv y1, iv y2, .unset, .unset, .unset, .unset] [(.int 1)] (fun t k => XS.goto X465.here hx rfl (pc0 := 155) (pc' := 159) rfl (hb hby at_155) (by decide) (by decide) k) ?_
        refine own_go T465 m 161 #[iv x0, iv x1, iv x2, iv x3, iv x4, iv x5, iv s0, iv s1, iv s2, iv y2, iv y1, iv en, rv b1, iv 1, iv 2, iv y1, iv y2, iv 1, .unset, .unset, .unset] [] (fun t k => XS.istore X465.here hx rfl (hb hby at_159) rfl rfl k) ?_
        refine own_go T465 m 163 #[iv x0, iv x1, iv x2, iv x3, iv x4, iv x5, iv s0, iv s1, iv s2, iv y2, iv y1, iv en, rv b1, iv 1, iv 2, iv y1, iv y2, iv 1, .unset, .unset, .unset] [(.int y1)] (fun t k => XS.iload X465.here hx rfl (hb hby at_161) rfl k) ?_
        refine own_go T465 m 165 #[iv x0, iv x1, iv x2, iv x3, iv x4, iv x5, iv s0, iv s1, iv s2, iv y2, iv y1, iv en, rv b1, iv 1, iv 2, iv y1, iv y2, iv 1, .unset, .unset, .unset] [(.int s1), (.int y1)] (fun t k => XS.iload X465.here hx rfl (hb hby at_163) rfl k) ?_
        refine own_go T465 m 166 #[iv x0, iv x1, iv x2, iv x3, iv x4, iv x5, iv s0, iv s1, iv s2, iv y2, iv y1, iv en, rv b1, iv 1, iv 2, iv y1, iv y2, iv 1, .unset, .unset, .unset] [(.int (y1 - s1))] (fun t k => XS.isub X465.here hx rfl (hb hby at_165) rfl k) ?_
        refine own_go T465 m 168 #[iv x0, iv x1, iv x2, iv x3, iv x4, iv x5, iv s0, iv s1, iv s2, iv y2, iv y1, iv en, rv b1, iv 1, iv 2, iv y1, iv y2, iv 1, .unset, .unset, .unset] [(.int 64), (.int (y1 - s1))] (fun t k => XS.bipush X465.here hx rfl (hb hby at_166) k) ?_
        refine own_go T465 m 181 #[iv x0, iv x1, iv x2, iv x3, iv x4, iv x5, iv s0, iv s1, iv s2, iv y2, iv y1, iv en, rv b1, iv 1, iv 2, iv y1, iv y2, iv 1, .unset, .unset, .unset] [] (fun t k => XS.icmpYes X465.here hx rfl (pc0 := 168) (pc' := 181) rfl (hb hby at_168) rfl (flt (own_db132 s0 s1 s2 y2 y1 en (y2 - s2) (y1 - s1) (s1 - s0) (s2 - s0) o1 o2 o3 o4 o5 o6 o7 o8 hc103_25 hc103_307 hc112_383)).2.1 (by decide) (by decide) k) ?_
        refine own_go T465 m 182 #[iv x0, iv x1, iv x2, iv x3, iv x4, iv x5, iv s0, iv s1, iv s2, iv y2, iv y1, iv en, rv b1, iv 1, iv 2, iv y1, iv y2, iv 1, .unset, .unset, .unset] [(.int 1)] (fun t k => XS.iconst X465.here hx rfl (hb hby at_181) k) ?_
        refine own_go T465 m 186 #[iv x0, iv x1, iv x2, iv x3, iv x4, iv x5, iv s0, iv s1, iv s2, iv y2, iv y1, iv en, rv b1, iv 1, iv 2, iv y1, iv y2, iv 1, .unset, .unset, .unset] [(.int 1)] (fun t k => XS.goto X465.here hx rfl (pc0 := 182) (pc' := 186) rfl (hb hby at_182) (by decide) (by decide) k) ?_
        refine own_go T465 m 188 #[iv x0, iv x1, iv x2, iv x3, iv x4, iv x5, iv s0, iv s1, iv s2, iv y2, iv y1, iv en, rv b1, iv 1, iv 2, iv y1, iv y2, iv 1, iv 1, .unset, .unset] [] (fun t k => XS.istore X465.here hx rfl (hb hby at_186) rfl rfl k) ?_
        refine own_go T465 m 190 #[iv x0, iv x1, iv x2, iv x3, iv x4, iv x5, iv s0, iv s1, iv s2, iv y2, iv y1, iv en, rv b1, iv 1, iv 2, iv y1, iv y2, iv 1, iv 1, .unset, .unset] [(.int 1)] (fun t k => XS.iload X465.here hx rfl (hb hby at_188) rfl k) ?_
        refine own_go T465 m 193 #[iv x0, iv x1, iv x2, iv x3, iv x4, iv x5, iv s0, iv s1, iv s2, iv y2, iv y1, iv en, rv b1, iv 1, iv 2, iv y1, iv y2, iv 1, iv 1, .unset, .unset] [] (fun t k => XS.ifNo X465.here hx rfl (hb hby at_190) rfl ((if0 _ _).trans (feq (by decide)).1) k) ?_
        refine own_go T465 m 195 #[iv x0, iv x1, iv x2, iv x3, iv x4, iv x5, iv s0, iv s1, iv s2, iv y2, iv y1, iv en, rv b1, iv 1, iv 2, iv y1, iv y2, iv 1, iv 1, .unset, .unset] [(.int y1)] (fun t k => XS.iload X465.here hx rfl (hb hby at_193) rfl k) ?_
        refine own_go T465 m 199 #[iv x0, iv x1, iv x2, iv x3, iv x4, iv x5, iv s0, iv s1, iv s2, iv y2, iv y1, iv en, rv b1, iv 1, iv 2, iv y1, iv y2, iv 1, iv 1, .unset, .unset] [(.int y1)] (fun t k => XS.goto X465.here hx rfl (pc0 := 195) (pc' := 199) rfl (hb hby at_195) (by decide) (by decide) k) ?_
        refine own_go T465 m 201 #[iv x0, iv x1, iv x2, iv x3, iv x4, iv x5, iv s0, iv s1, iv s2, iv y2, iv y1, iv en, rv b1, iv 1, iv 2, iv y1, iv y2, iv 1, iv 1, iv y1, .unset] [] (fun t k => XS.istore X465.here hx rfl (hb hby at_199) rfl rfl k) ?_
        refine own_go T465 m 203 #[iv x0, iv x1, iv x2, iv x3, iv x4, iv x5, iv s0, iv s1, iv s2, iv y2, iv y1, iv en, rv b1, iv 1, iv 2, iv y1, iv y2, iv 1, iv 1, iv y1, .unset] [(.int 1)] (fun t k => XS.iload X465.here hx rfl (hb hby at_201) rfl k) ?_
        refine own_go T465 m 206 #[iv x0, iv x1, iv x2, iv x3, iv x4, iv x5, iv s0, iv s1, iv s2, iv y2, iv y1, iv en, rv b1, iv 1, iv 2, iv y1, iv y2, iv 1, iv 1, iv y1, .unset] [] (fun t k => XS.ifNo X465.here hx rfl (hb hby at_203) rfl ((if0 _ _).trans (feq (by decide)).1) k) ?_
        refine own_go T465 m 208 #[iv x0, iv x1, iv x2, iv x3, iv x4, iv x5, iv s0, iv s1, iv s2, iv y2, iv y1, iv en, rv b1, iv 1, iv 2, iv y1, iv y2, iv 1, iv 1, iv y1, .unset] [(.int y2)] (fun t k => XS.iload X465.here hx rfl (hb hby at_206) rfl k) ?_
        refine own_go T465 m 212 #[iv x0, iv x1, iv x2, iv x3, iv x4, iv x5, iv s0, iv s1, iv s2, iv y2, iv y1, iv en, rv b1, iv 1, iv 2, iv y1, iv y2, iv 1, iv 1, iv y1, .unset] [(.int y2)] (fun t k => XS.goto X465.here hx rfl (pc0 := 208) (pc' := 212) rfl (hb hby at_208) (by decide) (by decide) k) ?_
        refine own_go T465 m 214 #[iv x0, iv x1, iv x2, iv x3, iv x4, iv x5, iv s0, iv s1, iv s2, iv y2, iv y1, iv en, rv b1, iv 1, iv 2, iv y1, iv y2, iv 1, iv 1, iv y1, iv y2] [] (fun t k => XS.istore X465.here hx rfl (hb hby at_212) rfl rfl k) ?_
        refine own_go T465 m 216 #[iv x0, iv x1, iv x2, iv x3, iv x4, iv x5, iv s0, iv s1, iv s2, iv y2, iv y1, iv en, rv b1, iv 1, iv 2, iv y1, iv y2, iv 1, iv 1, iv y1, iv y2] [(.int y1)] (fun t k => XS.iload X465.here hx rfl (hb hby at_214) rfl k) ?_
        refine own_go T465 m 218 #[iv x0, iv x1, iv x2, iv x3, iv x4, iv x5, iv s0, iv s1, iv s2, iv y2, iv y1, iv en, rv b1, iv 1, iv 2, iv y1, iv y2, iv 1, iv 1, iv y1, iv y2] [(.int y1), (.int y1)] (fun t k => XS.iload X465.here hx rfl (hb hby at_216) rfl k) ?_
        refine own_go T465 m 221 #[iv x0, iv x1, iv x2, iv x3, iv x4, iv x5, iv s0, iv s1, iv s2, iv y2, iv y1, iv en, rv b1, iv 1, iv 2, iv y1, iv y2, iv 1, iv 1, iv y1, iv y2] [] (fun t k => XS.icmpNo X465.here hx rfl (hb hby at_218) rfl (teq rfl).2 k) ?_
        refine own_go T465 m 223 #[iv x0, iv x1, iv x2, iv x3, iv x4, iv x5, iv s0, iv s1, iv s2, iv y2, iv y1, iv en, rv b1, iv 1, iv 2, iv y1, iv y2, iv 1, iv 1, iv y1, iv y2] [(.int y2)] (fun t k => XS.iload X465.here hx rfl (hb hby at_221) rfl k) ?_
        refine own_go T465 m 225 #[iv x0, iv x1, iv x2, iv x3, iv x4, iv x5, iv s0, iv s1, iv s2, iv y2, iv y1, iv en, rv b1, iv 1, iv 2, iv y1, iv y2, iv 1, iv 1, iv y1, iv y2] [(.int y2), (.int y2)] (fun t k => XS.iload X465.here hx rfl (hb hby at_223) rfl k) ?_
        refine own_go T465 m 228 #[iv x0, iv x1, iv x2, iv x3, iv x4, iv x5, iv s0, iv s1, iv s2, iv y2, iv y1, iv en, rv b1, iv 1, iv 2, iv y1, iv y2, iv 1, iv 1, iv y1, iv y2] [] (fun t k => XS.icmpNo X465.here hx rfl (hb hby at_225) rfl (teq rfl).2 k) ?_
        refine own_go T465 m 229 #[iv x0, iv x1, iv x2, iv x3, iv x4, iv x5, iv s0, iv s1, iv s2, iv y2, iv y1, iv en, rv b1, iv 1, iv 2, iv y1, iv y2, iv 1, iv 1, iv y1, iv y2] [(.int 1)] (fun t k => XS.iconst X465.here hx rfl (hb hby at_228) k) ?_
        refine own_go T465 m 233 #[iv x0, iv x1, iv x2, iv x3, iv x4, iv x5, iv s0, iv s1, iv s2, iv y2, iv y1, iv en, rv b1, iv 1, iv 2, iv y1, iv y2, iv 1, iv 1, iv y1, iv y2] [(.int 1)] (fun t k => XS.goto X465.here hx rfl (pc0 := 229) (pc' := 233) rfl (hb hby at_229) (by decide) (by decide) k) ?_
        refine own_retZ X465 hx hlk hret (by decide) (hb hby at_233) (by decide) (by decide) ?_
        exact ⟨rfl, N465⟩
set_option maxRecDepth 65536 in
set_option maxHeartbeats 40000000 in
theorem comes_1 {Post : Tables → Env → Array Value → State → Outcome → State → Prop} (hpost : ∀ tb e args s v u, (limb_1_1.after args s (.returned v) u = true ∧ limb_1_2.after args s (.returned v) u = true ∧ True) → FrameEnd s (.returned v) u (Jvm.fieldLocs frame_1_writes args s ++ Jvm.arrayLocs frame_1_arrays args s ++ Jvm.staticLocs frame_1_statics s) 24 192 → Post tb e args s (.returned v) u) :
    ArmFor flags0 classFile x code maxLocals ret World_1 tables_1 room_1 Calls_1 rest_1 Pre_1 Post := by
  intro l hfl _ _ p e ha hc hk s m args below hf hA hF happ hP
  obtain ⟨hcalls, hrest, hpre⟩ := hP
  obtain ⟨-, -, -, hnamed, -, -, -, hat⟩ := (Spec.applies_iff hf).mp happ
  obtain ⟨hg, hn⟩ := and_e (Cond.before_iff.mp (show (Jvm.Cond.and given_1 narrow_1).before args s = true from hpre))
  obtain ⟨gg1, gg2⟩ := and_e hg
  obtain ⟨gg3, gg4⟩ := and_e gg2
  obtain ⟨gg5, gg6⟩ := and_e gg4
  obtain ⟨gg7, gg8⟩ := and_e gg6
  obtain ⟨gg9, gg10⟩ := and_e gg8
  obtain ⟨gg11, gg12⟩ := and_e gg10
  obtain ⟨w0, w1, w2, w3, w4, w5, rfl⟩ : ∃ w0 w1 w2 w3 w4 w5 : Value, args = #[w0, w1, w2, w3, w4, w5] := by
    have hs : args.size = 6 := by simpa [Cond.value, given_1] using gg1
    obtain ⟨L⟩ := args
    match L, hs with
    | [w0, w1, w2, w3, w4, w5], _ => exact ⟨w0, w1, w2, w3, w4, w5, rfl⟩
  have hw := fun d (hd : d ∈ tables_1) => atoms_spec (ws := Jvm.Cond.code x code maxLocals ret :: tables_1) hat d (List.mem_cons_of_mem _ hd)
  have hfit : Fit s := fun {y c} hc i hi => by
    obtain ⟨ha, rfl⟩ := Array.getElem?_eq_some_iff.mp hc
    have q := List.all_eq_true.mp ((Array.all_eq_true_iff_forall_mem.mp hF) _ (Array.getElem_mem ha)) i (List.mem_range.mpr hi)
    simpa [Array.getElem?_eq_getElem hi] using q
  obtain ⟨i0, ei0⟩ := is_v gg3
  obtain rfl : w0 = (.int i0) := Option.some.inj ei0
  obtain ⟨i1, ei1⟩ := is_v gg5
  obtain rfl : w1 = (.int i1) := Option.some.inj ei1
  obtain ⟨i2, ei2⟩ := is_v gg7
  obtain rfl : w2 = (.int i2) := Option.some.inj ei2
  obtain ⟨i3, ei3⟩ := is_v gg9
  obtain rfl : w3 = (.int i3) := Option.some.inj ei3
  obtain ⟨i4, ei4⟩ := is_v gg11
  obtain rfl : w4 = (.int i4) := Option.some.inj ei4
  obtain ⟨i5, ei5⟩ := is_v gg12
  obtain rfl : w5 = (.int i5) := Option.some.inj ei5
  obtain ⟨n, o, h1, h2, h3, _, L, rfl, ⟨rfl, N⟩, hq⟩ := rm0 l s _ hw tables_1 i0 i1 i2 i3 i4 i5 s.heap s.heap.size (Nat.le_refl _) p e ha hc hk s m _ below hf ((Spec.applies_iff_loose hf).mp happ).1 ⟨rfl, State.Warmed39.refl s, rfl⟩ trivial
  refine ⟨n, _, h1, h2, h3, hpost _ _ _ _ _ _ ⟨Cond.after_iff.mpr rfl, Cond.after_iff.mpr (eq_i res_at (Term.int_eval (1)) rfl), trivial⟩ ⟨hq.1, hq.2.1, (hq.2.2.sift fun y hy => Or.inr (N y hy)).mono (by decide) (by decide)⟩⟩
theorem main_1_1 : Claimed_1_1 := comes_1 fun _ _ _ _ _ _ h hF => ⟨h.1, hF⟩
theorem main_1_2 : Claimed_1_2 := comes_1 fun _ _ _ _ _ _ h hF => ⟨h.2.1, hF⟩
end Jvm.Pilot.@@N@@
namespace Jvm.Pilot.@@N@@
open Jvm Jvm.ClassFile Sem Op Lib Jvm.Free Jvm.Stand Jvm.Pilot.@@N@@.Jvm.D
/-! MADE BY PROGRAM (witnessworld.py) out of the Statement's table words and the real class files: 10 classes; the members and pool entries that the words name. The judged class is class 1, her method 1. -/
namespace start1
open Jvm.ClassFile
def u (s : String) : CpInfo := .utf8 (stringToUtf16 s)
/-- a pool by its gaps: so many unusable entries, then the entry; so many at the end -/
def gap : Nat → List CpInfo → List CpInfo
  | 0, r => r
  | n + 1, r => .unusable :: gap n r
def poolList (es : List (Nat × CpInfo)) (last : Nat) : List CpInfo := es.foldr (fun e r => gap e.1 (e.2 :: r)) (gap last [])
def pool (es : List (Nat × CpInfo)) (last : Nat) : Array CpInfo := ⟨poolList es last⟩
def fileOf (pool : Array CpInfo) (this : Nat) (attrs : Array Attribute := #[]) (ms : Array MethodInfo := #[]) (fl : Nat := 33) (sup : Nat := 0) (ifs : Array Nat := #[]) (fds : Array FieldInfo := #[]) : ClassFile where
  minorVersion := 0
  majorVersion := 65
  constantPool := pool
  accessFlags := fl
  thisClass := this
  superClass := sup
  interfaces := ifs
  fields := fds
  methods := ms
  attributes := attrs
def plain (name : String) (sup : Option ClassId) : Class where
  name := name
  kind := .ordinary
  loader := none
  accessFlags := 33
  super := sup
  interfaces := #[]
  cf := none
  fields := #[]
  methods := #[]
  instanceTypes := #[]
  staticTypes := #[]
  resolved := #[]
  callSites := []
  init := .initialized
  statics := none
  mirror := none

def pool0 : Array CpInfo := pool [(5, u "<init>"), (0, u "()V"), (1, .class_ 10), (1, u "java/lang/Object")] 113

def k0c0 : Code := { maxStack := 0, maxLocals := 1, code := object_method_1_code, exceptionTable := #[], attributes := #[] }
def k0m0 : Method := { name := "<init>", desc := "()V", sig := { parameters := [], returnType := none }, accessFlags := 1, code := some k0c0 }
/-- java/lang/Object -/
def k0 : Class := { plain "java/lang/Object" none with
  accessFlags := 33
  interfaces := #[]
  cf := some (fileOf pool0 8 #[] #[{ accessFlags := 1, nameIndex := 5, descriptorIndex := 6, attributes := #[] }] 33 0 #[] #[])
  fields := #[]
  methods := #[k0m0]
  instanceTypes := #[]
  staticTypes := #[]
  resolved := Array.replicate 124 none
  statics := none }

def pool1 : Array CpInfo := pool [(2, .class_ 4), (0, .nameAndType 5 6), (0, u "java/lang/Object"), (0, u "<init>"), (0, u "()V"), (0, .integer 268435455), (0, .class_ 9), (0, u "com/example/wirelens/wirelens/wire/GroupEnds"), (0, .methodref 8 3), (0, .methodref 8 12), (0, .nameAndType 13 14), (0, u "beginRead"), (0, u "(I)V"), (0, .methodref 8 16), (0, .nameAndType 17 18), (0, u "opened"), (0, u "(I)I"), (0, .methodref 8 20), (0, .nameAndType 21 22), (0, u "closed"), (0, u "(II)V"), (0, .methodref 8 24), (0, .nameAndType 25 14), (0, u "endRead"), (0, .methodref 8 27), (0, .nameAndType 28 29), (0, u "find"), (0, u "(II)I"), (0, .class_ 31), (0, u "com/example/wirelens/wirelens/wire/GroupEndsClosedPinLaw"), (2, u "law"), (0, u "(IIIIII)Z")] 3

def k1m0 : Method := { name := "<init>", desc := "()V", sig := { parameters := [], returnType := none }, accessFlags := 1, code := none }
def k1c1 : Code := { maxStack := 3, maxLocals := 21, code := code, exceptionTable := #[], attributes := #[] }
def k1m1 : Method := { name := "law", desc := "(IIIIII)Z", sig := { parameters := [.int, .int, .int, .int, .int, .int], returnType := some .boolean }, accessFlags := 9, code := some k1c1 }
/-- com/example/wirelens/wirelens/wire/GroupEndsClosedPinLaw -/
def k1 : Class := { plain "com/example/wirelens/wirelens/wire/GroupEndsClosedPinLaw" (some 0) with
  accessFlags := 49
  interfaces := #[]
  cf := some (fileOf pool1 30 #[] #[{ accessFlags := 1, nameIndex := 5, descriptorIndex := 6, attributes := #[] }, { accessFlags := 9, nameIndex := 34, descriptorIndex := 35, attributes := #[] }] 49 2 #[] #[])
  fields := #[]
  methods := #[k1m0, k1m1]
  instanceTypes := #[]
  staticTypes := #[]
  resolved := Array.replicate 39 none
  statics := none }

def pool2 : Array CpInfo := pool [(1, .methodref 2 3), (0, .class_ 4), (0, .nameAndType 5 6), (0, u "java/lang/Object"), (0, u "<init>"), (0, u "()V"), (0, .class_ 8), (0, u "com/example/wirelens/wirelens/wire/GroupEnds"), (0, .fieldref 7 10), (0, .nameAndType 11 12), (0, u "starts"), (0, u "[I"), (0, .fieldref 7 14), (0, .nameAndType 15 12), (0, u "ends"), (0, .fieldref 7 17), (0, .nameAndType 18 12), (0, u "segmentFirst"), (0, .fieldref 7 20), (0, .nameAndType 21 12), (0, u "segmentEnd"), (0, .fieldref 7 23), (0, .nameAndType 24 12), (0, u "segmentLimit"), (0, .fieldref 7 26), (0, .nameAndType 27 28), (0, u "cursor"), (0, u "I"), (0, .fieldref 7 30), (0, .nameAndType 31 28), (0, u "segments"), (0, .methodref 7 33), (0, .nameAndType 34 35), (0, u "newestCovers"), (0, u "(I)Z"), (0, .fieldref 7 37), (0, .nameAndType 38 28), (0, u "count"), (0, .methodref 7 40), (0, .nameAndType 41 42), (0, u "search"), (0, u "(I)I"), (0, .methodref 44 45), (0, .class_ 46), (0, .nameAndType 47 48), (0, u "java/util/Arrays"), (0, u "binarySearch"), (0, u "([IIII)I"), (4, .fieldref 7 54), (0, .nameAndType 55 28), (0, u "lastOpened"), (0, u "UNKNOWN"), (2, u "NOT_CLOSED"), (1, u "SMALL"), (1, u "FIRST_SIZE"), (3, u "find"), (0, u "(II)I"), (1, u "beginRead"), (0, u "(I)V"), (0, u "opened"), (0, u "closed"), (0, u "(II)V"), (0, u "endRead")] 2

def k2c0 : Code := { maxStack := 2, maxLocals := 1, code := prog_48_method_1_code, exceptionTable := #[], attributes := #[] }
def k2m0 : Method := { name := "<init>", desc := "()V", sig := { parameters := [], returnType := none }, accessFlags := 0, code := some k2c0 }
def k2c1 : Code := { maxStack := 4, maxLocals := 5, code := prog_48_method_2_code, exceptionTable := #[], attributes := #[] }
def k2m1 : Method := { name := "find", desc := "(II)I", sig := { parameters := [.int, .int], returnType := some .int }, accessFlags := 0, code := some k2c1 }
def k2c2 : Code := { maxStack := 4, maxLocals := 3, code := prog_48_method_3_code, exceptionTable := #[], attributes := #[] }
def k2m2 : Method := { name := "newestCovers", desc := "(I)Z", sig := { parameters := [.int], returnType := some .boolean }, accessFlags := 2, code := some k2c2 }
def k2c3 : Code := { maxStack := 4, maxLocals := 4, code := prog_48_method_4_code, exceptionTable := #[], attributes := #[] }
def k2m3 : Method := { name := "search", desc := "(I)I", sig := { parameters := [.int], returnType := some .int }, accessFlags := 2, code := some k2c3 }
def k2c4 : Code := { maxStack := 4, maxLocals := 2, code := prog_48_method_5_code, exceptionTable := #[], attributes := #[] }
def k2m4 : Method := { name := "beginRead", desc := "(I)V", sig := { parameters := [.int], returnType := none }, accessFlags := 0, code := some k2c4 }
def k2c5 : Code := { maxStack := 4, maxLocals := 2, code := prog_48_method_6_code, exceptionTable := #[], attributes := #[] }
def k2m5 : Method := { name := "opened", desc := "(I)I", sig := { parameters := [.int], returnType := some .int }, accessFlags := 0, code := some k2c5 }
def k2c6 : Code := { maxStack := 4, maxLocals := 6, code := prog_48_method_7_code, exceptionTable := #[], attributes := #[] }
def k2m6 : Method := { name := "closed", desc := "(II)V", sig := { parameters := [.int, .int], returnType := none }, accessFlags := 0, code := some k2c6 }
def k2c7 : Code := { maxStack := 3, maxLocals := 3, code := prog_48_method_8_code, exceptionTable := #[], attributes := #[] }
def k2m7 : Method := { name := "endRead", desc := "(I)V", sig := { parameters := [.int], returnType := none }, accessFlags := 0, code := some k2c7 }
/-- com/example/wirelens/wirelens/wire/GroupEnds -/
def k2 : Class := { plain "com/example/wirelens/wirelens/wire/GroupEnds" (some 0) with
  accessFlags := 48
  interfaces := #[]
  cf := some (fileOf pool2 7 #[] #[{ accessFlags := 0, nameIndex := 5, descriptorIndex := 6, attributes := #[] }, { accessFlags := 0, nameIndex := 67, descriptorIndex := 68, attributes := #[] }, { accessFlags := 2, nameIndex := 34, descriptorIndex := 35, attributes := #[] }, { accessFlags := 2, nameIndex := 41, descriptorIndex := 42, attributes := #[] }, { accessFlags := 0, nameIndex := 70, descriptorIndex := 71, attributes := #[] }, { accessFlags := 0, nameIndex := 72, descriptorIndex := 42, attributes := #[] }, { accessFlags := 0, nameIndex := 73, descriptorIndex := 74, attributes := #[] }, { accessFlags := 0, nameIndex := 75, descriptorIndex := 71, attributes := #[] }] 48 2 #[] #[{ accessFlags := 24, nameIndex := 56, descriptorIndex := 28, attributes := #[] }, { accessFlags := 24, nameIndex := 59, descriptorIndex := 28, attributes := #[] }, { accessFlags := 26, nameIndex := 61, descriptorIndex := 28, attributes := #[] }, { accessFlags := 26, nameIndex := 63, descriptorIndex := 28, attributes := #[] }, { accessFlags := 2, nameIndex := 11, descriptorIndex := 12, attributes := #[] }, { accessFlags := 2, nameIndex := 15, descriptorIndex := 12, attributes := #[] }, { accessFlags := 2, nameIndex := 38, descriptorIndex := 28, attributes := #[] }, { accessFlags := 2, nameIndex := 55, descriptorIndex := 28, attributes := #[] }, { accessFlags := 2, nameIndex := 18, descriptorIndex := 12, attributes := #[] }, { accessFlags := 2, nameIndex := 21, descriptorIndex := 12, attributes := #[] }, { accessFlags := 2, nameIndex := 24, descriptorIndex := 12, attributes := #[] }, { accessFlags := 2, nameIndex := 31, descriptorIndex := 28, attributes := #[] }, { accessFlags := 2, nameIndex := 27, descriptorIndex := 28, attributes := #[] }])
  fields := #[{ name := "UNKNOWN", type := .int, accessFlags := 24, slot := 0, constantValue := 0 }, { name := "NOT_CLOSED", type := .int, accessFlags := 24, slot := 1, constantValue := 0 }, { name := "SMALL", type := .int, accessFlags := 26, slot := 2, constantValue := 0 }, { name := "FIRST_SIZE", type := .int, accessFlags := 26, slot := 3, constantValue := 0 }, { name := "starts", type := (.array .int), accessFlags := 2, slot := 0, constantValue := 0 }, { name := "ends", type := (.array .int), accessFlags := 2, slot := 1, constantValue := 0 }, { name := "count", type := .int, accessFlags := 2, slot := 2, constantValue := 0 }, { name := "lastOpened", type := .int, accessFlags := 2, slot := 3, constantValue := 0 }, { name := "segmentFirst", type := (.array .int), accessFlags := 2, slot := 4, constantValue := 0 }, { name := "segmentEnd", type := (.array .int), accessFlags := 2, slot := 5, constantValue := 0 }, { name := "segmentLimit", type := (.array .int), accessFlags := 2, slot := 6, constantValue := 0 }, { name := "segments", type := .int, accessFlags := 2, slot := 7, constantValue := 0 }, { name := "cursor", type := .int, accessFlags := 2, slot := 8, constantValue := 0 }]
  methods := #[k2m0, k2m1, k2m2, k2m3, k2m4, k2m5, k2m6, k2m7]
  instanceTypes := #[(.array .int), (.array .int), .int, .int, (.array .int), (.array .int), (.array .int), .int, .int]
  staticTypes := #[.int, .int, .int, .int]
  resolved := Array.replicate 78 none
  statics := none }

def pool3 : Array CpInfo := pool [(2, .class_ 4), (1, u "java/lang/Object"), (0, u "<init>"), (0, u "()V"), (6, .methodref 14 15), (0, .class_ 16), (0, .nameAndType 17 18), (0, u "java/util/Arrays"), (0, u "rangeCheck"), (0, u "(III)V"), (55, .class_ 76), (1, u "java/util/Arrays$NaturalOrder"), (36, .class_ 115), (1, u "java/util/Arrays$LegacyMergeSort"), (1, u "Z"), (89, u "binarySearch0"), (1, .methodref 14 210), (0, .nameAndType 207 211), (0, u "([IIII)I"), (163, .class_ 376), (0, u "java/util/Arrays$ArrayList"), (68, u "$assertionsDisabled"), (269, u "MIN_ARRAY_SORT_GRAN"), (0, u "I"), (2, u "INSERTIONSORT_THRESHOLD"), (74, u "binarySearch"), (180, .class_ 976), (0, u "java/util/Arrays$ArrayItr")] 52

def k3m0 : Method := { name := "<init>", desc := "()V", sig := { parameters := [], returnType := none }, accessFlags := 2, code := none }
def k3c1 : Code := { maxStack := 4, maxLocals := 3, code := jdk_65_method_30_code, exceptionTable := #[], attributes := #[] }
def k3m1 : Method := { name := "rangeCheck", desc := "(III)V", sig := { parameters := [.int, .int, .int], returnType := none }, accessFlags := 8, code := some k3c1 }
def k3c2 : Code := { maxStack := 4, maxLocals := 4, code := jdk_65_method_58_code, exceptionTable := #[], attributes := #[] }
def k3m2 : Method := { name := "binarySearch", desc := "([IIII)I", sig := { parameters := [(.array .int), .int, .int, .int], returnType := some .int }, accessFlags := 9, code := some k3c2 }
def k3c3 : Code := { maxStack := 2, maxLocals := 8, code := jdk_65_method_59_code, exceptionTable := #[], attributes := #[] }
def k3m3 : Method := { name := "binarySearch0", desc := "([IIII)I", sig := { parameters := [(.array .int), .int, .int, .int], returnType := some .int }, accessFlags := 10, code := some k3c3 }
/-- java/util/Arrays -/
def k3 : Class := { plain "java/util/Arrays" (some 0) with
  accessFlags := 49
  interfaces := #[]
  cf := some (fileOf pool3 14 #[.nestMembers #[975, 375, 113, 74]] #[{ accessFlags := 2, nameIndex := 5, descriptorIndex := 6, attributes := #[] }, { accessFlags := 8, nameIndex := 17, descriptorIndex := 18, attributes := #[] }, { accessFlags := 9, nameIndex := 794, descriptorIndex := 211, attributes := #[] }, { accessFlags := 10, nameIndex := 207, descriptorIndex := 211, attributes := #[] }] 49 2 #[] #[{ accessFlags := 26, nameIndex := 715, descriptorIndex := 716, attributes := #[] }, { accessFlags := 26, nameIndex := 719, descriptorIndex := 716, attributes := #[] }, { accessFlags := 4120, nameIndex := 445, descriptorIndex := 117, attributes := #[] }])
  fields := #[{ name := "MIN_ARRAY_SORT_GRAN", type := .int, accessFlags := 26, slot := 0, constantValue := 0 }, { name := "INSERTIONSORT_THRESHOLD", type := .int, accessFlags := 26, slot := 1, constantValue := 0 }, { name := "$assertionsDisabled", type := .boolean, accessFlags := 4120, slot := 2, constantValue := 0 }]
  methods := #[k3m0, k3m1, k3m2, k3m3]
  instanceTypes := #[]
  staticTypes := #[.int, .int, .boolean]
  resolved := Array.replicate 1029 none
  statics := none }

def pool4 : Array CpInfo := pool [(1, u "java/lang/Cloneable"), (0, .class_ 1), (0, u "java/lang/Object"), (0, .class_ 3)] 3

/-- java/lang/Cloneable -/
def k4 : Class := { plain "java/lang/Cloneable" (some 0) with
  accessFlags := 1537
  interfaces := #[]
  cf := some (fileOf pool4 2 #[] #[] 1537 4 #[] #[])
  fields := #[]
  methods := #[]
  instanceTypes := #[]
  staticTypes := #[]
  resolved := Array.replicate 8 none
  statics := none }

def pool5 : Array CpInfo := pool [(1, u "java/io/Serializable"), (0, .class_ 1), (0, u "java/lang/Object"), (0, .class_ 3)] 3

/-- java/io/Serializable -/
def k5 : Class := { plain "java/io/Serializable" (some 0) with
  accessFlags := 1537
  interfaces := #[]
  cf := some (fileOf pool5 2 #[] #[] 1537 4 #[] #[])
  fields := #[]
  methods := #[]
  instanceTypes := #[]
  staticTypes := #[]
  resolved := Array.replicate 8 none
  statics := none }

/-- the primitive byte -/
def k6 : Class := { plain "byte" none with kind := .primitive 'B', accessFlags := 0x411 }
/-- [B -/
def k7 : Class := { plain "[B" (some 0) with kind := .array 6 .byte, interfaces := #[4, 5], accessFlags := 1041 }

/-- the primitive int -/
def k8 : Class := { plain "int" none with kind := .primitive 'I', accessFlags := 0x411 }
/-- [I -/
def k9 : Class := { plain "[I" (some 0) with kind := .array 8 .int, interfaces := #[4, 5], accessFlags := 1041 }

def heap : Heap := #[]
def classes : Array Class := #[k0, k1, k2, k3, k4, k5, k6, k7, k8, k9]
def interned : List (Array UInt16 × Addr) := []
def slotsUsed : Nat := 0
def theMethod : MethodId := ⟨1, 1⟩
def args0 : Array Value := #[.int 0, .int 0, .int 0, .int 0, .int 0, .int 0]
def aboutOver (below : List Frame) : State where
  vm := { classes := classes, interned := interned.toArray }
  heap := heap
  slotsUsed := slotsUsed
  threads := #[{ frames := .invoking theMethod args0 :: below }]
def below0 : List Frame := [.native { method := ⟨0, 0⟩, args := #[] }]
def about1 : State := aboutOver below0
def p0 : Program := .bare "" "" ""
def e0 : Env := launch0.env 0 0 0
theorem w_frames : about1.frames = Frame.invoking theMethod args0 :: below0 := rfl
set_option maxRecDepth 65536 in
theorem w_args : argsFit about1.vm theMethod args0 = true := by decide +kernel
set_option maxRecDepth 65536 in
theorem w_heap : heapFits about1 = true := by decide +kernel
set_option maxRecDepth 65536 in
theorem w_runnable : about1.curStatus? = some .runnable := by decide +kernel
set_option maxRecDepth 65536 in
theorem w_alone : about1.alone = true := by decide +kernel
set_option maxRecDepth 65536 in
theorem w_named : about1.methodNamed? x = some theMethod := by decide +kernel
set_option maxRecDepth 65536 in
theorem w_hears : about1.hears theMethod below0 = true := by decide +kernel
set_option maxRecDepth 65536 in
theorem w_ripe : about1.ripe theMethod args0 below0 = true := by decide +kernel
theorem w_running : about1.status = .running := rfl
set_option maxRecDepth 65536 in
theorem w_room : about1.hasRoom e0.platform room_1 = true :=
  launch0.hasRoom_least _ room_1 (by decide +kernel) (by decide +kernel) (by decide +kernel) (by decide +kernel) (by decide +kernel) (by decide +kernel)
theorem allAtoms_all (ts : List Jvm.Cond) (a : Array Jvm.Value) (st : Jvm.State) : (allAtoms ts).before a st = ts.all (fun c => c.before a st) := by
  induction ts with
  | nil => rfl
  | cons c t ih =>
    show (Jvm.Cond.and c (allAtoms t)).before a st = _
    rw [Jvm.Cond.before_and, ih, List.all_cons]
def words1 : List Jvm.Cond := Jvm.Cond.code x code maxLocals ret :: tables_1
/-- a 'code' word, met by the world's own term for the bytes: nothing is compared byte by byte -/
theorem code_word {y : MethodName} {bytes : ByteArray} {mx : Nat} {rt : Option FieldType} {a : Array Value} {s : State} {m : MethodId} {meth : Method} {c : Code} (h1 : s.methodNamed? y = some m) (h2 : s.vm.method? m = some meth) (h3 : meth.code = some c) (h4 : c.code = bytes)
    (h5 : (c.maxLocals == mx && c.exceptionTable.isEmpty && decide (c.maxStack ≤ mostOperands) && decide (meth.sig.returnType = rt) && !meth.locks && decide (parseMethodDescriptor y.desc = some meth.sig)) = true) : (Jvm.Cond.code y bytes mx rt).before a s = true := by
  simp only [Bool.and_eq_true, beq_iff_eq, Bool.not_eq_true', decide_eq_true_eq] at h5
  obtain ⟨⟨⟨⟨⟨g1, g2⟩, g3⟩, g4⟩, g5⟩, g6⟩ := h5
  simp [Cond.before, Cond.holds, Cond.value, h1, h2, h3, h4, g1, g2, g3, g4, g5, g6]
def isCode : Jvm.Cond → Bool
  | .code _ _ _ _ => true
  | _ => false
theorem all_split {L : List Jvm.Cond} {P : Jvm.Cond → Bool} (h1 : L.all (fun c => isCode c || P c) = true) (h2 : ∀ c ∈ L.filter isCode, P c = true) : L.all P = true := by
  refine List.all_eq_true.mpr fun c hc => ?_
  have h := List.all_eq_true.mp h1 c hc
  rcases Bool.eq_false_or_eq_true (isCode c) with hi | hi
  · exact h2 c (List.mem_filter.mpr ⟨hc, hi⟩)
  · simpa [hi] using h
set_option maxRecDepth 65536 in
theorem w_c0 : (Jvm.Cond.code x code maxLocals ret).before args0 about1 = true := code_word (m := ⟨1, 1⟩) (meth := k1m1) (c := k1c1) (by decide +kernel) rfl rfl rfl (by decide +kernel)
set_option maxRecDepth 65536 in
theorem w_c1 : (Jvm.Cond.code ({ cls := "com/example/wirelens/wirelens/wire/GroupEnds", name := "<init>", desc := "()V" } : Jvm.MethodName) prog_48_method_1_code (1 : Nat) (Option.none : Option Jvm.ClassFile.FieldType)).before args0 about1 = true := code_word (m := ⟨2, 0⟩) (meth := k2m0) (c := k2c0) (by decide +kernel) rfl rfl rfl (by decide +kernel)
set_option maxRecDepth 65536 in
theorem w_c2 : (Jvm.Cond.code ({ cls := "java/lang/Object", name := "<init>", desc := "()V" } : Jvm.MethodName) object_method_1_code (1 : Nat) (Option.none : Option Jvm.ClassFile.FieldType)).before args0 about1 = true := code_word (m := ⟨0, 0⟩) (meth := k0m0) (c := k0c0) (by decide +kernel) rfl rfl rfl (by decide +kernel)
set_option maxRecDepth 65536 in
theorem w_c3 : (Jvm.Cond.code ({ cls := "com/example/wirelens/wirelens/wire/GroupEnds", name := "beginRead", desc := "(I)V" } : Jvm.MethodName) prog_48_method_5_code (2 : Nat) (Option.none : Option Jvm.ClassFile.FieldType)).before args0 about1 = true := code_word (m := ⟨2, 4⟩) (meth := k2m4) (c := k2c4) (by decide +kernel) rfl rfl rfl (by decide +kernel)
set_option maxRecDepth 65536 in
theorem w_c4 : (Jvm.Cond.code ({ cls := "com/example/wirelens/wirelens/wire/GroupEnds", name := "opened", desc := "(I)I" } : Jvm.MethodName) prog_48_method_6_code (2 : Nat) (Option.some Jvm.ClassFile.FieldType.int)).before args0 about1 = true := code_word (m := ⟨2, 5⟩) (meth := k2m5) (c := k2c5) (by decide +kernel) rfl rfl rfl (by decide +kernel)
set_option maxRecDepth 65536 in
theorem w_c5 : (Jvm.Cond.code ({ cls := "com/example/wirelens/wirelens/wire/GroupEnds", name := "closed", desc := "(II)V" } : Jvm.MethodName) prog_48_method_7_code (6 : Nat) (Option.none : Option Jvm.ClassFile.FieldType)).before args0 about1 = true := code_word (m := ⟨2, 6⟩) (meth := k2m6) (c := k2c6) (by decide +kernel) rfl rfl rfl (by decide +kernel)
set_option maxRecDepth 65536 in
theorem w_c6 : (Jvm.Cond.code ({ cls := "com/example/wirelens/wirelens/wire/GroupEnds", name := "endRead", desc := "(I)V" } : Jvm.MethodName) prog_48_method_8_code (3 : Nat) (Option.none : Option Jvm.ClassFile.FieldType)).before args0 about1 = true := code_word (m := ⟨2, 7⟩) (meth := k2m7) (c := k2c7) (by decide +kernel) rfl rfl rfl (by decide +kernel)
set_option maxRecDepth 65536 in
theorem w_c7 : (Jvm.Cond.code ({ cls := "com/example/wirelens/wirelens/wire/GroupEnds", name := "find", desc := "(II)I" } : Jvm.MethodName) prog_48_method_2_code (5 : Nat) (Option.some Jvm.ClassFile.FieldType.int)).before args0 about1 = true := code_word (m := ⟨2, 1⟩) (meth := k2m1) (c := k2c1) (by decide +kernel) rfl rfl rfl (by decide +kernel)
set_option maxRecDepth 65536 in
theorem w_c8 : (Jvm.Cond.code ({ cls := "com/example/wirelens/wirelens/wire/GroupEnds", name := "newestCovers", desc := "(I)Z" } : Jvm.MethodName) prog_48_method_3_code (3 : Nat) (Option.some Jvm.ClassFile.FieldType.boolean)).before args0 about1 = true := code_word (m := ⟨2, 2⟩) (meth := k2m2) (c := k2c2) (by decide +kernel) rfl rfl rfl (by decide +kernel)
set_option maxRecDepth 65536 in
theorem w_c9 : (Jvm.Cond.code ({ cls := "com/example/wirelens/wirelens/wire/GroupEnds", name := "search", desc := "(I)I" } : Jvm.MethodName) prog_48_method_4_code (4 : Nat) (Option.some Jvm.ClassFile.FieldType.int)).before args0 about1 = true := code_word (m := ⟨2, 3⟩) (meth := k2m3) (c := k2c3) (by decide +kernel) rfl rfl rfl (by decide +kernel)
set_option maxRecDepth 65536 in
theorem w_c10 : (Jvm.Cond.code ({ cls := "java/util/Arrays", name := "binarySearch", desc := "([IIII)I" } : Jvm.MethodName) jdk_65_method_58_code (4 : Nat) (Option.some Jvm.ClassFile.FieldType.int)).before args0 about1 = true := code_word (m := ⟨3, 2⟩) (meth := k3m2) (c := k3c2) (by decide +kernel) rfl rfl rfl (by decide +kernel)
set_option maxRecDepth 65536 in
theorem w_c11 : (Jvm.Cond.code ({ cls := "java/util/Arrays", name := "rangeCheck", desc := "(III)V" } : Jvm.MethodName) jdk_65_method_30_code (3 : Nat) (Option.none : Option Jvm.ClassFile.FieldType)).before args0 about1 = true := code_word (m := ⟨3, 1⟩) (meth := k3m1) (c := k3c1) (by decide +kernel) rfl rfl rfl (by decide +kernel)
set_option maxRecDepth 65536 in
theorem w_c12 : (Jvm.Cond.code ({ cls := "java/util/Arrays", name := "binarySearch0", desc := "([IIII)I" } : Jvm.MethodName) jdk_65_method_59_code (8 : Nat) (Option.some Jvm.ClassFile.FieldType.int)).before args0 about1 = true := code_word (m := ⟨3, 3⟩) (meth := k3m3) (c := k3c3) (by decide +kernel) rfl rfl rfl (by decide +kernel)
def codes1 : List Jvm.Cond := [Jvm.Cond.code x code maxLocals ret, Jvm.Cond.code ({ cls := "com/example/wirelens/wirelens/wire/GroupEnds", name := "<init>", desc := "()V" } : Jvm.MethodName) prog_48_method_1_code (1 : Nat) (Option.none : Option Jvm.ClassFile.FieldType), Jvm.Cond.code ({ cls := "java/lang/Object", name := "<init>", desc := "()V" } : Jvm.MethodName) object_method_1_code (1 : Nat) (Option.none : Option Jvm.ClassFile.FieldType), Jvm.Cond.code ({ cls := "com/example/wirelens/wirelens/wire/GroupEnds", name := "beginRead", desc := "(I)V" } : Jvm.MethodName) prog_48_method_5_code (2 : Nat) (Option.none : Option Jvm.ClassFile.FieldType), Jvm.Cond.code ({ cls := "com/example/wirelens/wirelens/wire/GroupEnds", name := "opened", desc := "(I)I" } : Jvm.MethodName) prog_48_method_6_code (2 : Nat) (Option.some Jvm.ClassFile.FieldType.int), Jvm.Cond.code ({ cls := "com/example/wirelens/wirelens/wire/GroupEnds", name := "closed", desc := "(II)V" } : Jvm.MethodName) prog_48_method_7_code (6 : Nat) (Option.none : Option Jvm.ClassFile.FieldType), Jvm.Cond.code ({ cls := "com/example/wirelens/wirelens/wire/GroupEnds", name := "endRead", desc := "(I)V" } : Jvm.MethodName) prog_48_method_8_code (3 : Nat) (Option.none : Option Jvm.ClassFile.FieldType), Jvm.Cond.code ({ cls := "com/example/wirelens/wirelens/wire/GroupEnds", name := "find", desc := "(II)I" } : Jvm.MethodName) prog_48_method_2_code (5 : Nat) (Option.some Jvm.ClassFile.FieldType.int), Jvm.Cond.code ({ cls := "com/example/wirelens/wirelens/wire/GroupEnds", name := "newestCovers", desc := "(I)Z" } : Jvm.MethodName) prog_48_method_3_code (3 : Nat) (Option.some Jvm.ClassFile.FieldType.boolean), Jvm.Cond.code ({ cls := "com/example/wirelens/wirelens/wire/GroupEnds", name := "search", desc := "(I)I" } : Jvm.MethodName) prog_48_method_4_code (4 : Nat) (Option.some Jvm.ClassFile.FieldType.int), Jvm.Cond.code ({ cls := "java/util/Arrays", name := "binarySearch", desc := "([IIII)I" } : Jvm.MethodName) jdk_65_method_58_code (4 : Nat) (Option.some Jvm.ClassFile.FieldType.int), Jvm.Cond.code ({ cls := "java/util/Arrays", name := "rangeCheck", desc := "(III)V" } : Jvm.MethodName) jdk_65_method_30_code (3 : Nat) (Option.none : Option Jvm.ClassFile.FieldType), Jvm.Cond.code ({ cls := "java/util/Arrays", name := "binarySearch0", desc := "([IIII)I" } : Jvm.MethodName) jdk_65_method_59_code (8 : Nat) (Option.some Jvm.ClassFile.FieldType.int)]
set_option maxRecDepth 65536 in
theorem codes_eq : words1.filter isCode = codes1 := rfl
theorem w_codes : ∀ c ∈ words1.filter isCode, c.before args0 about1 = true := by
  rw [codes_eq]
  intro c hc
  simp only [codes1, List.mem_cons, List.not_mem_nil, or_false] at hc
  rcases hc with rfl | rfl | rfl | rfl | rfl | rfl | rfl | rfl | rfl | rfl | rfl | rfl | rfl
  · exact w_c0
  · exact w_c1
  · exact w_c2
  · exact w_c3
  · exact w_c4
  · exact w_c5
  · exact w_c6
  · exact w_c7
  · exact w_c8
  · exact w_c9
  · exact w_c10
  · exact w_c11
  · exact w_c12
set_option maxRecDepth 65536 in
theorem w_t1 : (words1.take 24).all (fun c => isCode c || c.before args0 about1) = true := by decide +kernel
set_option maxRecDepth 65536 in
theorem w_t2 : ((words1.drop 24).take 24).all (fun c => isCode c || c.before args0 about1) = true := by decide +kernel
set_option maxRecDepth 65536 in
theorem w_t3 : (((words1.drop 24).drop 24).take 24).all (fun c => isCode c || c.before args0 about1) = true := by decide +kernel
set_option maxRecDepth 65536 in
theorem w_t4 : (((words1.drop 24).drop 24).drop 24).all (fun c => isCode c || c.before args0 about1) = true := by decide +kernel
theorem w_tables : (allAtoms (Jvm.Cond.code x code maxLocals ret :: tables_1)).before args0 about1 = true := by
  rw [allAtoms_all]
  show words1.all (fun c => c.before args0 about1) = true
  refine all_split ?_ w_codes
  rw [← List.take_append_drop 24 words1, List.all_append, w_t1, ← List.take_append_drop 24 (words1.drop 24), List.all_append, w_t2, ← List.take_append_drop 24 ((words1.drop 24).drop 24), List.all_append, w_t3, w_t4]
  rfl
set_option maxRecDepth 65536 in
theorem w_case : (Jvm.Cond.and given_1 narrow_1).before args0 about1 = true := by decide +kernel
theorem w_applies : (headSpec (Jvm.Cond.code x code maxLocals ret :: tables_1) room_1).applies x e0.platform about1 = true :=
  (Spec.applies_iff w_frames).mpr ⟨w_running, w_runnable, w_alone, w_named, w_hears, w_ripe, w_room, w_tables⟩
theorem atStart : AtStart classFile x code maxLocals ret World_1 tables_1 room_1 Calls_1 rest_1 Pre_1 launch0 p0 e0 about1 theMethod args0 below0 :=
  ⟨lists_1, trivial, launch0.admits_env _ _ _, launch0.least_env, fairChoices_fair.cas, fairChoices_fair.clock, w_frames, w_args, w_heap, w_applies, trivial, trivial, w_case⟩
end start1
theorem witness_1 : WitnessClaimed_1 := ⟨start1.p0, start1.e0, start1.about1, start1.theMethod, start1.args0, start1.below0, start1.atStart⟩
end Jvm.Pilot.@@N@@
