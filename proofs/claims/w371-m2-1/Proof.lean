import JvmDerived
import JvmDerived.Pilot.@@N@@Statement
import JvmDerived.Pilot.@@N@@Code
set_option linter.unusedVariables false
set_option linter.unusedSimpArgs false
namespace Jvm.RoadKit
open Sem ClassFile Op Lib Jvm.Stand Jvm.Free Jvm.LawKit
section OwnKit
variable {p : Program} {l : Launch} {e : Env} {R : Room} {s : State} {m : MethodId} {args : Array Value} {below : List Frame} {meth : Method} {c : Code} {T : State} {locs : List Loc} {cells slots : Nat} {Z : State} {a0 : Array Value} {h : Heap}
abbrev OwnP : Type := Option Value → Heap → List Loc → Prop
/-- from the state A the run comes back with what P says -/
def OwnG (tb : Tables) (e : Env) (below : List Frame) (s : State) (P : OwnP) (rc rs : Nat) (A : State) : Prop :=
  ∃ s₂ o, Steps tb e below A s₂ ∧ s₂.status = .running ∧ Ended s₂ below o ∧ ∃ v L, o = .returned v ∧ P v s₂.heap L ∧ FrameEnd s o s₂ L rc rs
theorem own_go {tb : Tables} {P : OwnP} {rc rs : Nat} {A : State} (T' : State) (m' : MethodId) (pc : Nat) (Ls : Array Slot) (st : List Value) (f : ∀ t, Steps tb e below (T'.setTop (mkF m' pc Ls st)) t → Steps tb e below A t) (k : OwnG tb e below s P rc rs (T'.setTop (mkF m' pc Ls st))) : OwnG tb e below s P rc rs A := by
  obtain ⟨s₂, o, h1, h2⟩ := k
  exact ⟨s₂, o, f _ h1, h2⟩
theorem own_mono {tb : Tables} {P P' : OwnP} {rc rs : Nat} {A : State} (f : ∀ v h L, P v h L → P' v h L) (k : OwnG tb e below s P rc rs A) : OwnG tb e below s P' rc rs A := by
  obtain ⟨s₂, o, h1, h2, h3, v, L, h4, h5, h6⟩ := k
  exact ⟨s₂, o, h1, h2, h3, v, L, h4, f _ _ _ h5, h6⟩
/-- what a walk knows of the body -/
def OwnX (Z : State) (p : Program) (s : State) (m : MethodId) (meth : Method) (c : Code) (bytes : ByteArray) (maxL : Nat) (ret : Option FieldType) (own nm : String) : Prop :=
  p.tables.exec = Jvm.exec ∧ c.code = bytes ∧ c.maxLocals = maxL ∧ s.vm.findClass own = some m.cls ∧ meth.name = nm ∧ meth.sig.returnType = ret ∧ meth.locks = false ∧ Z.Warmed39 s.vm
/-- a body's contract -/
abbrev OwnC (l : Launch) (Z : State) (y : MethodName) (bytes : ByteArray) (maxL : Nat) (ret : Option FieldType) (ws : List Cond) (rm : Room) (as' : Array Value) (h0 : Heap) (P : OwnP) : Prop :=
  MetFree l y (head1 (Cond.code y bytes maxL ret :: ws) rm) (fun a U => a = as' ∧ Z.Warmed39 U.vm ∧ U.heap = h0) (fun _ _ _ _ _ => True) (fun _ U o U' => ∃ v L, o = .returned v ∧ P v U'.heap L ∧ FrameEnd U o U' L rm.cells rm.slots)
theorem own_entry {y : MethodName} {bytes : ByteArray} {maxL : Nat} {ret : Option FieldType} {ws : List Cond} {rm : Room} {as' : Array Value} {h0 : Heap} {P : OwnP} {Ls : Array Slot} (hpl : plainFor y = true) (ef : ∀ m, entryFrame m as' maxL = mkF m 0 Ls [])
    (body : ∀ (p : Program) (e : Env) (s : State) (m : MethodId) (below : List Frame) (meth : Method) (c : Code) (T : State), Stand p l e rm s m as' below meth c T [] 0 0 → OwnX Z p s m meth c bytes maxL ret y.cls y.name → T.heap = h0 → OwnG p.tables e below s P rm.cells rm.slots (T.setTop (mkF m 0 Ls []))) :
    OwnC l Z y bytes maxL ret ws rm as' h0 P := by
  refine MetFree.of_bodySF hpl hisR ?_
  intro p e s m args below meth c s₁ Bd hml0 hP hK
  obtain ⟨rfl, hZ, hh⟩ := hP
  have e0 : s₁.heap = h0 := by rw [← hh, Bd.state]; rfl
  obtain ⟨s₂, o, h1, h2⟩ := body p e s m below meth c s₁ (Stand.of_body Bd) ⟨Bd.exec, Bd.bytes, hml0, findClass_of_methodNamed Bd.named, (name_of_methodNamed Bd.named Bd.method).1, Bd.returns, Bd.notSynchronized, hZ⟩ e0
  exact ⟨s₂, o, castTop (ef m) h1, h2⟩
theorem own_ret {P : OwnP} {rc rs : Nat} (X : Stand p l e R s m args below meth c T locs cells slots) (hx : p.tables.exec = Jvm.exec) (hlk : meth.locks = false) {pc : Nat} {Ls : Array Slot} {w : Value} {t : FieldType} {i : Instr} {rest : List Value} (hret : meth.sig.returnType = some t) (hn : narrow t w = w)
    (hi : (i = .ireturn ∧ (t = .int ∨ t = .boolean ∨ t = .byte ∨ t = .char ∨ t = .short) ∧ ∃ z, w = .int z) ∨ (i = .lreturn ∧ t = .long ∧ ∃ z, w = .long z) ∨ (i = .dreturn ∧ t = .double ∧ ∃ z, w = .double z) ∨ (i = .freturn ∧ t = .float ∧ ∃ z, w = .float z) ∨ (i = .areturn ∧ t.isReference = true ∧ w.isRef = true))
    (hd : decode c.code pc = .ok (i, 1)) (hc : cells ≤ rc) (hs : slots ≤ rs) (hP : P (some w) T.heap locs) : OwnG p.tables e below s P rc rs (T.setTop (mkF m pc Ls (w :: rest))) := by
  obtain ⟨fs, hr, hrun, hended, hW, hsame⟩ := X.leave (v := some w) (fun h => by rw [hret] at h; cases h) hlk
  exact ⟨_, _, retOut X hx hret hn hi hd hr, hrun, hended, _, _, rfl, hP, ⟨_, rfl⟩, hW, hsame.mono hc hs⟩
theorem own_retI {P : OwnP} {rc rs : Nat} (X : Stand p l e R s m args below meth c T locs cells slots) (hx : p.tables.exec = Jvm.exec) (hlk : meth.locks = false) {pc : Nat} {Ls : Array Slot} {z : Int32} {rest : List Value} (hret : meth.sig.returnType = some .int)
    (hd : decode c.code pc = .ok (.ireturn, 1)) (hc : cells ≤ rc) (hs : slots ≤ rs) (hP : P (some (.int z)) T.heap locs) : OwnG p.tables e below s P rc rs (T.setTop (mkF m pc Ls (.int z :: rest))) :=
  own_ret X hx hlk hret rfl (Or.inl ⟨rfl, Or.inl rfl, z, rfl⟩) hd hc hs hP
theorem own_retZ {P : OwnP} {rc rs : Nat} (X : Stand p l e R s m args below meth c T locs cells slots) (hx : p.tables.exec = Jvm.exec) (hlk : meth.locks = false) {pc : Nat} {Ls : Array Slot} {z : Int32} {rest : List Value} (hret : meth.sig.returnType = some .boolean) (hz : z = 0 ∨ z = 1)
    (hd : decode c.code pc = .ok (.ireturn, 1)) (hc : cells ≤ rc) (hs : slots ≤ rs) (hP : P (some (.int z)) T.heap locs) : OwnG p.tables e below s P rc rs (T.setTop (mkF m pc Ls (.int z :: rest))) :=
  own_ret X hx hlk hret (by rcases hz with rfl | rfl <;> rfl) (Or.inl ⟨rfl, Or.inr (Or.inl rfl), z, rfl⟩) hd hc hs hP
theorem own_retB {P : OwnP} {rc rs : Nat} (X : Stand p l e R s m args below meth c T locs cells slots) (hx : p.tables.exec = Jvm.exec) (hlk : meth.locks = false) {pc : Nat} {Ls : Array Slot} {z : Int32} {rest : List Value} (hret : meth.sig.returnType = some .byte) (hz : narrow .byte (.int z) = .int z)
    (hd : decode c.code pc = .ok (.ireturn, 1)) (hc : cells ≤ rc) (hs : slots ≤ rs) (hP : P (some (.int z)) T.heap locs) : OwnG p.tables e below s P rc rs (T.setTop (mkF m pc Ls (.int z :: rest))) :=
  own_ret X hx hlk hret hz (Or.inl ⟨rfl, Or.inr (Or.inr (Or.inl rfl)), z, rfl⟩) hd hc hs hP
theorem own_retJ {P : OwnP} {rc rs : Nat} (X : Stand p l e R s m args below meth c T locs cells slots) (hx : p.tables.exec = Jvm.exec) (hlk : meth.locks = false) {pc : Nat} {Ls : Array Slot} {z : Int64} {rest : List Value} (hret : meth.sig.returnType = some .long)
    (hd : decode c.code pc = .ok (.lreturn, 1)) (hc : cells ≤ rc) (hs : slots ≤ rs) (hP : P (some (.long z)) T.heap locs) : OwnG p.tables e below s P rc rs (T.setTop (mkF m pc Ls (.long z :: rest))) :=
  own_ret X hx hlk hret rfl (Or.inr (Or.inl ⟨rfl, rfl, z, rfl⟩)) hd hc hs hP
theorem own_retA {P : OwnP} {rc rs : Nat} (X : Stand p l e R s m args below meth c T locs cells slots) (hx : p.tables.exec = Jvm.exec) (hlk : meth.locks = false) {pc : Nat} {Ls : Array Slot} {w : Value} {t : FieldType} {rest : List Value} (hret : meth.sig.returnType = some t) (hn : narrow t w = w) (ht : t.isReference = true) (hw : w.isRef = true)
    (hd : decode c.code pc = .ok (.areturn, 1)) (hc : cells ≤ rc) (hs : slots ≤ rs) (hP : P (some w) T.heap locs) : OwnG p.tables e below s P rc rs (T.setTop (mkF m pc Ls (w :: rest))) :=
  own_ret X hx hlk hret hn (Or.inr (Or.inr (Or.inr (Or.inr ⟨rfl, ht, hw⟩)))) hd hc hs hP
theorem own_retV {P : OwnP} {rc rs : Nat} (X : Stand p l e R s m args below meth c T locs cells slots) (hx : p.tables.exec = Jvm.exec) (hlk : meth.locks = false) {pc : Nat} {Ls : Array Slot} (hret : meth.sig.returnType = none)
    (hd : decode c.code pc = .ok (.return_, 1)) (hc : cells ≤ rc) (hs : slots ≤ rs) (hP : P none T.heap locs) : OwnG p.tables e below s P rc rs (T.setTop (mkF m pc Ls [])) := by
  obtain ⟨fs, hr, hrun, hended, hW, hsame⟩ := X.leave (v := none) (fun _ => rfl) hlk
  exact ⟨_, _, X.returnOut hx hret hd hr, hrun, hended, _, _, rfl, hP, ⟨_, rfl⟩, hW, hsame.mono hc hs⟩
theorem own_static (X : Stand p l e R s m args below meth c T locs cells slots) (hx : p.tables.exec = Jvm.exec) (hZ : Z.Warmed39 s.vm) {own : String} {index : Nat} {y : MethodName} {bytes : ByteArray} {maxL : Nat} {ret : Option FieldType} {rm : Room} {as' : Array Value} {P : OwnP}
    (hown : s.vm.findClass own = some m.cls) (w1 : (Cond.methodLink own index y).before a0 Z = true) (w2 : (Cond.static y).before a0 Z = true) (w3 : (Cond.initialized y.cls).before a0 Z = true) (w4 : (Cond.code y bytes maxL ret).before a0 Z = true) (hy : y.cls ≠ "java/lang/invoke/MethodHandle" ∧ y.cls ≠ "java/lang/invoke/VarHandle")
    (hM : OwnC l Z y bytes maxL ret [] rm as' h P) (eT : T.heap = h) {pc : Nat} {Ls : Array Slot} {argsL rest : List Value} (W : Nat) {st : List Value} (hsz : Ls.size = c.maxLocals) (hlen : ∀ sig, parseMethodDescriptor y.desc = some sig → argsL.length = sig.parameters.length) (has : argsL.toArray = as') (hst : st = argsL.reverse ++ rest) (hW : (rest.map fun v => v.category).sum ≤ W)
    (hd : decode c.code pc = .ok (.invokestatic index, 3)) (hf : rm.frames + 1 ≤ R.frames) (hl : W + (maxL + 11) + rm.locals ≤ R.locals) (hc : cells + rm.cells ≤ R.cells) (hs : slots + rm.slots ≤ R.slots) :
    ∃ v T' L, Stand p l e R s m args below meth c T' (locs ++ L) (cells + rm.cells) (slots + rm.slots) ∧ P v T'.heap L ∧ ∀ t, Steps p.tables e below (T'.setTop (mkF m (pc + 3) Ls (v.toList ++ rest))) t → Steps p.tables e below (T.setTop (mkF m pc Ls st)) t := by
  obtain ⟨v, vm₁, ⟨T', L', k', n'⟩, -, X', ⟨L, hQ, l1, l2, l3⟩, stp⟩ := Jvm.LawKit.callS X hx hown (mvT hZ w1) (mvT hZ w2) (mvT hZ w3) (mvT hZ w4) hy (backOf (W := W) hM hZ w4 w3 hf hl) (g := mkF m pc Ls st) rfl hsz (argsL := argsL) (rest := rest) hlen hst (by show 2 * 0 + _ ≤ _; omega) hd (fun _ _ => ⟨has, eT, hc, hs⟩)
  dsimp only [Pt.U, Pt.locs, Pt.cells, Pt.slots] at X' l1 l2 l3 stp hQ
  subst l1 l2 l3
  exact ⟨v, T', L, X', hQ, stp⟩
theorem own_init (X : Stand p l e R s m args below meth c T locs cells slots) (hx : p.tables.exec = Jvm.exec) (hZ : Z.Warmed39 s.vm) {own : String} {index : Nat} {y : MethodName} {bytes : ByteArray} {maxL : Nat} {rm : Room} {as' : Array Value} {P : OwnP} (hy1 : y.name = "<init>")
    (hown : s.vm.findClass own = some m.cls) (w1 : (Cond.methodLink own index y).before a0 Z = true) (w2 : (Cond.instanceMethod y).before a0 Z = true) (w3 : (Cond.initialized y.cls).before a0 Z = true) (w4 : (Cond.code y bytes maxL none).before a0 Z = true) (hy : y.cls ≠ "java/lang/invoke/MethodHandle" ∧ y.cls ≠ "java/lang/invoke/VarHandle")
    (hM : OwnC l Z y bytes maxL none [] rm as' h P) (eT : T.heap = h) {pc : Nat} {Ls : Array Slot} {a : Addr} {argsL rest : List Value} (W : Nat) {st : List Value} (hsz : Ls.size = c.maxLocals) (hlen : ∀ sig, parseMethodDescriptor y.desc = some sig → argsL.length = sig.parameters.length) (has : (.ref a :: argsL).toArray = as') (hst : st = argsL.reverse ++ .ref a :: rest) (hW : (rest.map fun v => v.category).sum ≤ W)
    (hd : decode c.code pc = .ok (.invokespecial index, 3)) (hf : rm.frames + 1 ≤ R.frames) (hl : W + (maxL + 11) + rm.locals ≤ R.locals) (hc : cells + rm.cells ≤ R.cells) (hs : slots + rm.slots ≤ R.slots) :
    ∃ v T' L, Stand p l e R s m args below meth c T' (locs ++ L) (cells + rm.cells) (slots + rm.slots) ∧ P v T'.heap L ∧ ∀ t, Steps p.tables e below (T'.setTop (mkF m (pc + 3) Ls (v.toList ++ rest))) t → Steps p.tables e below (T.setTop (mkF m pc Ls st)) t := by
  obtain ⟨v, vm₁, ⟨T', L', k', n'⟩, -, X', ⟨L, hQ, l1, l2, l3⟩, stp⟩ := X.specialBack hx hy1 hown (mvT hZ w1) (mvT hZ w2) (mvT hZ w4) hy (backOf (W := W) hM hZ w4 w3 hf hl) (g := mkF m pc Ls st) rfl hsz (Steps.refl _) (a := a) (argsL := argsL) (rest := rest) hlen hst (by show 2 * 0 + _ ≤ _; omega) hd (fun _ _ => ⟨has, eT, hc, hs⟩)
  dsimp only [Pt.U, Pt.locs, Pt.cells, Pt.slots] at X' l1 l2 l3 stp hQ
  subst l1 l2 l3
  exact ⟨v, T', L, X', hQ, fun t k => stp.trans k⟩
theorem own_virtual (X : Stand p l e R s m args below meth c T locs cells slots) (hx : p.tables.exec = Jvm.exec) (hZ : Z.Warmed39 s.vm) {own C : String} {index : Nat} {y z : MethodName} {bytes : ByteArray} {maxL : Nat} {ret : Option FieldType} {rm : Room} {as' : Array Value} {P : OwnP}
    (hown : s.vm.findClass own = some m.cls) (w1 : (Cond.methodLink own index y).before a0 Z = true) (w2 : (Cond.declares y).before a0 Z = true) (hnf : NotFace s y) (w5 : (Cond.selects C y z).before a0 Z = true) (w6 : (Cond.instanceMethod z).before a0 Z = true) (w3 : (Cond.initialized z.cls).before a0 Z = true) (w4 : (Cond.code z bytes maxL ret).before a0 Z = true) (hy : y.cls ≠ "java/lang/invoke/MethodHandle" ∧ y.cls ≠ "java/lang/invoke/VarHandle")
    (hM : OwnC l Z z bytes maxL ret [] rm as' h P) (eT : T.heap = h) {a : Addr} (E : Exa Z h a C) {pc : Nat} {Ls : Array Slot} {argsL rest : List Value} (W : Nat) {st : List Value} (hsz : Ls.size = c.maxLocals) (hlen : ∀ sig, parseMethodDescriptor y.desc = some sig → argsL.length = sig.parameters.length) (has : (.ref a :: argsL).toArray = as') (hst : st = argsL.reverse ++ .ref a :: rest) (hW : (rest.map fun v => v.category).sum ≤ W)
    (hd : decode c.code pc = .ok (.invokevirtual index, 3)) (hf : rm.frames + 1 ≤ R.frames) (hl : W + (maxL + 11) + rm.locals ≤ R.locals) (hc : cells + rm.cells ≤ R.cells) (hs : slots + rm.slots ≤ R.slots) :
    ∃ v T' L, Stand p l e R s m args below meth c T' (locs ++ L) (cells + rm.cells) (slots + rm.slots) ∧ P v T'.heap L ∧ ∀ t, Steps p.tables e below (T'.setTop (mkF m (pc + 3) Ls (v.toList ++ rest))) t → Steps p.tables e below (T.setTop (mkF m pc Ls st)) t := by
  obtain ⟨cq, kq, qa, qb, qc⟩ := isOf hZ eT E
  obtain ⟨v, vm₁, ⟨T', L', k', n'⟩, -, X', ⟨L, hQ, l1, l2, l3⟩, stp⟩ := X.virtualBack hx (y := y) (z := z) hown (mvT hZ w1) (mvT hZ w2) hnf (mvT hZ w5) (mvT hZ w6) hy (backOf (W := W) hM hZ w4 w3 hf hl) qa qc (g := mkF m pc Ls st) rfl hsz (Steps.refl _) (argsL := argsL) (rest := rest) hlen hst (by show 2 * 0 + _ ≤ _; omega) hd (fun _ _ => ⟨has, eT, hc, hs⟩)
  dsimp only [Pt.U, Pt.locs, Pt.cells, Pt.slots] at X' l1 l2 l3 stp hQ
  subst l1 l2 l3
  exact ⟨v, T', L, X', hQ, fun t k => stp.trans k⟩
/-- a body that writes nothing and makes nothing -/
def OwnPure (w : Value) (h0 : Heap) : OwnP := fun v h L => v = some w ∧ h = h0 ∧ L = []
theorem own_nil (X : Stand p l e R s m args below meth c T (locs ++ []) cells slots) : Stand p l e R s m args below meth c T locs cells slots := by rwa [List.append_nil] at X
theorem own_iaload (X : Stand p l e R s m args below meth c T locs cells slots) (hx : p.tables.exec = Jvm.exec) (hZ : Z.Warmed39 s.vm) (eT : T.heap = h) {a : Addr} {k : ClassId} {n : Int32} {vs : List Value} {dv : Value} (V : Arv Z h a k .int n vs dv) {j x : Int32} (hj : ¬ j < 0 ∧ j < n) (hv : vs.getD j.toNatClampNeg dv = .int x)
    {pc : Nat} {Ls : Array Slot} {rest : List Value} (hd : decode c.code pc = .ok (.iaload, 1)) : ∀ t, Steps p.tables e below (T.setTop (mkF m (pc + 1) Ls (.int x :: rest))) t → Steps p.tables e below (T.setTop (mkF m pc Ls (.int j :: .ref a :: rest))) t := by
  obtain ⟨cl, A, -, S, -, H, -⟩ := V
  exact fun t k => X.iaload hx (by rw [eT]; exact A.1) (State.isArrayOf_alike hZ.alike A.2.1) A.2.2 (inb_of S hj) (H.at (inb_of S hj) hv) (g := mkF m pc Ls (.int j :: .ref a :: rest)) rfl rfl hd t k
theorem own_baload (X : Stand p l e R s m args below meth c T locs cells slots) (hx : p.tables.exec = Jvm.exec) (hZ : Z.Warmed39 s.vm) (eT : T.heap = h) {a : Addr} {k : ClassId} {n : Int32} {vs : List Value} {dv : Value} (V : Arv Z h a k .byte n vs dv) {j x : Int32} (hj : ¬ j < 0 ∧ j < n) (hv : vs.getD j.toNatClampNeg dv = .int x)
    {pc : Nat} {Ls : Array Slot} {rest : List Value} (hd : decode c.code pc = .ok (.baload, 1)) : ∀ t, Steps p.tables e below (T.setTop (mkF m (pc + 1) Ls (.int x :: rest))) t → Steps p.tables e below (T.setTop (mkF m pc Ls (.int j :: .ref a :: rest))) t := by
  obtain ⟨cl, A, -, S, -, H, -⟩ := V
  exact fun t k => X.baloadBytes hx (by rw [eT]; exact A.1) (State.isArrayOf_alike hZ.alike A.2.1) A.2.2 (inb_of S hj) (H.at (inb_of S hj) hv) (g := mkF m pc Ls (.int j :: .ref a :: rest)) rfl rfl hd t k
theorem own_aaload (X : Stand p l e R s m args below meth c T locs cells slots) (hx : p.tables.exec = Jvm.exec) (hZ : Z.Warmed39 s.vm) (eT : T.heap = h) {a : Addr} {k : ClassId} {ty : FieldType} {n : Int32} {vs : List Value} {dv : Value} (V : Arv Z h a k ty n vs dv) (hty : ty.isReference = true) {j : Int32} {w : Value} (hj : ¬ j < 0 ∧ j < n) (hv : vs.getD j.toNatClampNeg dv = w)
    {pc : Nat} {Ls : Array Slot} {rest : List Value} (hd : decode c.code pc = .ok (.aaload, 1)) : ∀ t, Steps p.tables e below (T.setTop (mkF m (pc + 1) Ls (w :: rest))) t → Steps p.tables e below (T.setTop (mkF m pc Ls (.int j :: .ref a :: rest))) t := by
  obtain ⟨cl, A, -, S, -, H, -⟩ := V
  exact fun t k => X.aaload hx (by rw [eT]; exact A.1) (State.isArrayOf_alike hZ.alike A.2.1) hty A.2.2 (inb_of S hj) (H.at (inb_of S hj) hv) (g := mkF m pc Ls (.int j :: .ref a :: rest)) rfl rfl hd t k
theorem own_alen (X : Stand p l e R s m args below meth c T locs cells slots) (hx : p.tables.exec = Jvm.exec) (hZ : Z.Warmed39 s.vm) (eT : T.heap = h) {a : Addr} {k : ClassId} {ty : FieldType} {n : Int32} {vs : List Value} {dv : Value} (V : Arv Z h a k ty n vs dv)
    {pc : Nat} {Ls : Array Slot} {rest : List Value} (hd : decode c.code pc = .ok (.arraylength, 1)) : ∀ t, Steps p.tables e below (T.setTop (mkF m (pc + 1) Ls (.int n :: rest))) t → Steps p.tables e below (T.setTop (mkF m pc Ls (.ref a :: rest))) t := by
  obtain ⟨cl, A, -, S, N, H, -⟩ := V
  intro t q
  refine X.arraylength hx (by rw [eT]; exact A.1) (State.isArrayOf_alike hZ.alike A.2.1) (g := mkF m pc Ls (.ref a :: rest)) rfl rfl hd t ?_
  rw [len_of S N]
  exact q
theorem own_iastore (X : Stand p l e R s m args below meth c T locs cells slots) (hx : p.tables.exec = Jvm.exec) (hZ : Z.Warmed39 s.vm) (eT : T.heap = h) {a : Addr} {k : ClassId} {n : Int32} {vs : List Value} {dv : Value} (V : Arv Z h a k .int n vs dv) {j x : Int32} (hj : ¬ j < 0 ∧ j < n) (i : Nat) (hi : j.toNatClampNeg = i) (hl : i < vs.length)
    {pc : Nat} {Ls : Array Slot} {rest : List Value} (hd : decode c.code pc = .ok (.iastore, 1)) : ∃ T' h', Stand p l e R s m args below meth c T' (locs ++ [⟨a, i⟩]) cells slots ∧ T'.heap = h' ∧ Wr h h' a i (.int x) ∧ Arv Z h' a k .int n (vs.set i (.int x)) dv ∧ ∀ t, Steps p.tables e below (T'.setTop (mkF m (pc + 1) Ls rest)) t → Steps p.tables e below (T.setTop (mkF m pc Ls (.int x :: .int j :: .ref a :: rest))) t := by
  obtain ⟨cl, A, q1, S, N, H, G⟩ := V
  obtain ⟨T', h', X', e', W', st⟩ := stI X hx hZ eT A (j := j) (x := x) (inb_of S hj) (g := mkF m pc Ls (.int x :: .int j :: .ref a :: rest)) rfl rfl hd
  have V' := Arv.set A q1 S N H G (v := .int x) rfl W' i hi hl
  rw [hi] at X' W'
  exact ⟨T', h', X', e', W', V', st⟩
theorem own_bastore (X : Stand p l e R s m args below meth c T locs cells slots) (hx : p.tables.exec = Jvm.exec) (hZ : Z.Warmed39 s.vm) (eT : T.heap = h) {a : Addr} {k : ClassId} {n : Int32} {vs : List Value} {dv : Value} (V : Arv Z h a k .byte n vs dv) {j x : Int32} (hj : ¬ j < 0 ∧ j < n) (i : Nat) (hi : j.toNatClampNeg = i) (hl : i < vs.length)
    {pc : Nat} {Ls : Array Slot} {rest : List Value} (hd : decode c.code pc = .ok (.bastore, 1)) : ∃ T' h', Stand p l e R s m args below meth c T' (locs ++ [⟨a, i⟩]) cells slots ∧ T'.heap = h' ∧ Wr h h' a i (.int x.toInt8.toInt32) ∧ Arv Z h' a k .byte n (vs.set i (.int x.toInt8.toInt32)) dv ∧ ∀ t, Steps p.tables e below (T'.setTop (mkF m (pc + 1) Ls rest)) t → Steps p.tables e below (T.setTop (mkF m pc Ls (.int x :: .int j :: .ref a :: rest))) t := by
  obtain ⟨cl, A, q1, S, N, H, G⟩ := V
  obtain ⟨T', h', X', e', W', st⟩ := stB X hx hZ eT A (j := j) (x := x) (inb_of S hj) (g := mkF m pc Ls (.int x :: .int j :: .ref a :: rest)) rfl rfl hd
  have V' := Arv.set A q1 S N H G (v := .int x.toInt8.toInt32) (fits_nar_byte x) W' i hi hl
  rw [hi] at X' W'
  exact ⟨T', h', X', e', W', V', st⟩
theorem own_aastore (X : Stand p l e R s m args below meth c T locs cells slots) (hx : p.tables.exec = Jvm.exec) (hZ : Z.Warmed39 s.vm) (eT : T.heap = h) {a : Addr} {k : ClassId} {ty : FieldType} {n : Int32} {vs : List Value} {dv : Value} (V : Arv Z h a k ty n vs dv) (hty : ty.isReference = true) {C : String} (O : Ovr Z k C) {y : Addr} (I : Ins Z h y C true) {j : Int32} (hj : ¬ j < 0 ∧ j < n) (i : Nat) (hi : j.toNatClampNeg = i) (hl : i < vs.length)
    {pc : Nat} {Ls : Array Slot} {rest : List Value} (hd : decode c.code pc = .ok (.aastore, 1)) : ∃ T' h', Stand p l e R s m args below meth c T' (locs ++ [⟨a, i⟩]) cells slots ∧ T'.heap = h' ∧ Wr h h' a i (.ref y) ∧ Arv Z h' a k ty n (vs.set i (.ref y)) dv ∧ ∀ t, Steps p.tables e below (T'.setTop (mkF m (pc + 1) Ls rest)) t → Steps p.tables e below (T.setTop (mkF m pc Ls (.ref y :: .int j :: .ref a :: rest))) t := by
  obtain ⟨cl, A, q1, S, N, H, G⟩ := V
  obtain ⟨T', h', X', e', W', st⟩ := stR X hx hZ eT A (j := j) (v := .ref y) (inb_of S hj) hty (Sto.ofV A q1 O I) (g := mkF m pc Ls (.ref y :: .int j :: .ref a :: rest)) rfl rfl hd
  have V' := Arv.set A q1 S N H G (v := .ref y) (by cases ty <;> first | rfl | (simp [FieldType.isReference] at hty)) W' i hi hl
  rw [hi] at X' W'
  exact ⟨T', h', X', e', W', V', st⟩
theorem own_lt_eq {x y : Int64} (h : x = y) : lcmpW x y = 0 := (lw_eq x y).mpr h
theorem own_rem_ne {x y : Int32} {target : State} {g : JFrame} (X : Stand p l e R s m args below meth c T locs cells slots) (hx : p.tables.exec = Jvm.exec) (hg : g.method = m) {rest : List Value} (hd : decode c.code g.pc = .ok (.irem, 1)) (hs : g.stack = .int y :: .int x :: rest) (hy : y ≠ 0)
    (hr : Steps p.tables e below (T.setTop { g with pc := g.pc + 1, stack := .int (x % y) :: rest }) target) : Steps p.tables e below (T.setTop g) target := iremM X hx hg hd hs hy hr
theorem own_lrem {x y : Int64} {target : State} {g : JFrame} (X : Stand p l e R s m args below meth c T locs cells slots) (hx : p.tables.exec = Jvm.exec) (hg : g.method = m) {rest : List Value} (hd : decode c.code g.pc = .ok (.lrem, 1)) (hs : g.stack = .long y :: .long x :: rest) (hy : y ≠ 0)
    (hr : Steps p.tables e below (T.setTop { g with pc := g.pc + 1, stack := .long (x % y) :: rest }) target) : Steps p.tables e below (T.setTop g) target := by
  refine XS.lrem X.here hx hg hd hs hy ?_
  rw [lrem_mod]
  exact hr
theorem own_fld_int {args : Array Value} {t : Term} {C n d : String} {k : Int32} {a : Addr} (ev : t.eval args Z none [] Z = some (.ref a)) (h : (Cond.eq (Term.field t C n d) (Term.int k)).value args Z none Z [] = some true) : Fld Z Z.heap a C n d (.int k) := by
  obtain ⟨x, y, h1, h2, h3, h4⟩ := cmp_v (Or.inl h)
  have hy : y = .int k := by rw [Term.int_eval] at h2; exact (Option.some.inj h2).symm
  subst hy
  obtain ⟨z, rfl⟩ : ∃ z, x = .int z := h4
  have hz : z = k := by simpa [Cond.value, h1, h2] using h
  subst hz
  rw [fld_at ev] at h1
  exact Fld.start h1
theorem own_sta_keep {C n d : String} {v : Value} {h' : Heap} (F : Sta Z h C n d v) (K : Keep h h' []) : Sta Z h' C n d v := by
  obtain ⟨cf, i, k, f, st, cell, h1, h2, h3, h4, h5, h6⟩ := F
  exact ⟨cf, i, k, f, st, cell, h1, h2, h3, h4, K.2.1 _ _ h5 nin0, h6⟩
/-- the objects of C are no K: C's superclasses are named, K is a class that has objects -/
theorem own_nsroot {O K : String} {n : Nat} (w : (Cond.noSuperclass O).before a0 Z = true) (wk : (Cond.instantiable K n).before a0 Z = true) (hn : O ≠ K) : NS Z O K := by
  obtain ⟨c, k, h1, h2, h3, -, -⟩ := Cond.noSuperclass_spec w
  obtain ⟨t, kt, g1, -⟩ := Cond.instantiable_spec wk
  have ne := ids_ne h1 g1 hn
  refine ⟨c, t, h1, g1, fun fuel => ?_⟩
  cases fuel with
  | zero => rfl
  | succ f => simp [Vm.isSubclassAux, ne, h2, h3]
theorem own_nsno {C S K : String} {n : Nat} (w : (Cond.superclass C S).before a0 Z = true) (wk : (Cond.instantiable K n).before a0 Z = true) (q : NS Z C K) (hn : C ≠ K) : ∃ c t, Z.vm.findClass C = some c ∧ Z.vm.findClass K = some t ∧ Z.vm.assignable c t = false := by
  obtain ⟨c, t, h0, g0, n3⟩ := q
  obtain ⟨p, k, kp, h1, h2, h3, h4, h5, -, h7⟩ := Cond.superclass_spec h0 w
  obtain ⟨t', kt, g1, g2, g3, g4, -⟩ := Cond.instantiable_spec wk
  cases g0.symm.trans g1
  have g5 : kt.isInterface = false := by
    cases hq : kt.isInterface with
    | false => rfl
    | true => rw [hq] at g4; simp at g4
  have ne := ids_ne h0 g0 hn
  refine ⟨c, t, h0, g0, ?_⟩
  show Z.vm.assignableAux (255 + 1) c t = false
  simp [Vm.assignableAux, ne, h2, g2, h5, g3, g5, Vm.isSubclass, n3]
theorem own_s16 (x : Int32) : x.toInt16.toInt32.toInt16.toInt32 = x.toInt16.toInt32 := by simp
theorem own_virtualUp (X : Stand p l e R s m args below meth c T locs cells slots) (hx : p.tables.exec = Jvm.exec) (hZ : Z.Warmed39 s.vm) {own C owner : String} {index : Nat} {x y : MethodName} {bytes : ByteArray} {maxL : Nat} {ret : Option FieldType} {rm : Room} {as' : Array Value} {P : OwnP}
    (hown : s.vm.findClass own = some m.cls) (w1 : (Cond.methodLink own index x).before a0 Z = true) (w2 : (Cond.sameMethod x.cls owner x.name x.desc).before a0 Z = true) (w7 : (Cond.declares ⟨owner, x.name, x.desc⟩).before a0 Z = true) (hy : owner ≠ "java/lang/invoke/MethodHandle" ∧ owner ≠ "java/lang/invoke/VarHandle") (w5 : (Cond.selects C x y).before a0 Z = true) (w6 : (Cond.instanceMethod y).before a0 Z = true) (w3 : (Cond.initialized y.cls).before a0 Z = true) (w4 : (Cond.code y bytes maxL ret).before a0 Z = true)
    (hM : OwnC l Z y bytes maxL ret [] rm as' h P) (eT : T.heap = h) {a : Addr} (E : Exa Z h a C) {pc : Nat} {Ls : Array Slot} {argsL rest : List Value} (W : Nat) {st : List Value} (hsz : Ls.size = c.maxLocals) (hlen : ∀ sig, parseMethodDescriptor x.desc = some sig → argsL.length = sig.parameters.length) (has : (.ref a :: argsL).toArray = as') (hst : st = argsL.reverse ++ .ref a :: rest) (hW : (rest.map fun v => v.category).sum ≤ W)
    (hd : decode c.code pc = .ok (.invokevirtual index, 3)) (hf : rm.frames + 1 ≤ R.frames) (hl : W + (maxL + 11) + rm.locals ≤ R.locals) (hc : cells + rm.cells ≤ R.cells) (hs : slots + rm.slots ≤ R.slots) :
    ∃ v T' L, Stand p l e R s m args below meth c T' (locs ++ L) (cells + rm.cells) (slots + rm.slots) ∧ P v T'.heap L ∧ ∀ t, Steps p.tables e below (T'.setTop (mkF m (pc + 3) Ls (v.toList ++ rest))) t → Steps p.tables e below (T.setTop (mkF m pc Ls st)) t := by
  obtain ⟨cq, kq, qa, qb, qc⟩ := isOf hZ eT E
  obtain ⟨v, vm₁, ⟨T', L', k', n'⟩, -, X', ⟨L, hQ, l1, l2, l3⟩, stp⟩ := X.virtualBackUp hx (x := x) (y := y) hown (mvT hZ w1) (mvT hZ w2) (mvT hZ w7) hy (mvT hZ w5) (mvT hZ w6) (backOf (W := W) hM hZ w4 w3 hf hl) qa qc (g := mkF m pc Ls st) rfl hsz (Steps.refl _) (argsL := argsL) (rest := rest) hlen hst (by show 2 * 0 + _ ≤ _; omega) hd (fun _ _ => ⟨has, eT, hc, hs⟩)
  dsimp only [Pt.U, Pt.locs, Pt.cells, Pt.slots] at X' l1 l2 l3 stp hQ
  subst l1 l2 l3
  exact ⟨v, T', L, X', hQ, fun t k => stp.trans k⟩
theorem own_castore (X : Stand p l e R s m args below meth c T locs cells slots) (hx : p.tables.exec = Jvm.exec) (hZ : Z.Warmed39 s.vm) (eT : T.heap = h) {a : Addr} {k : ClassId} {n : Int32} {vs : List Value} {dv : Value} (V : Arv Z h a k .char n vs dv) {j x : Int32} (hj : ¬ j < 0 ∧ j < n) (i : Nat) (hi : j.toNatClampNeg = i) (hl : i < vs.length)
    {pc : Nat} {Ls : Array Slot} {rest : List Value} (hd : decode c.code pc = .ok (.castore, 1)) : ∃ T' h', Stand p l e R s m args below meth c T' (locs ++ [⟨a, i⟩]) cells slots ∧ T'.heap = h' ∧ Wr h h' a i (.int x.toUInt32.toUInt16.toUInt32.toInt32) ∧ Arv Z h' a k .char n (vs.set i (.int x.toUInt32.toUInt16.toUInt32.toInt32)) dv ∧ ∀ t, Steps p.tables e below (T'.setTop (mkF m (pc + 1) Ls rest)) t → Steps p.tables e below (T.setTop (mkF m pc Ls (.int x :: .int j :: .ref a :: rest))) t := by
  obtain ⟨cl, A, q1, S, N, H, G⟩ := V
  obtain ⟨T', h', X', e', W', st⟩ := stC X hx hZ eT A (j := j) (x := x) (inb_of S hj) (g := mkF m pc Ls (.int x :: .int j :: .ref a :: rest)) rfl rfl hd
  have V' := Arv.set A q1 S N H G (v := .int x.toUInt32.toUInt16.toUInt32.toInt32) (fits_nar_char x) W' i hi hl
  rw [hi] at X' W'
  exact ⟨T', h', X', e', W', V', st⟩
theorem own_sta_keep1 {C n d C' : String} {v : Value} {h' : Heap} {a : Addr} (F : Sta Z h C n d v) (K : Keep h h' [a]) (E : Exa Z h a C') : Sta Z h' C n d v := by
  obtain ⟨cf, i, k, f, st, cell, h1, h2, h3, h4, h5, h6, h7⟩ := F
  obtain ⟨cell', k', e1, -, -, e4, -⟩ := E
  have hne : st ≠ a := fun q => by
    subst q
    cases h5.symm.trans e1
    rw [h6] at e4
    cases e4
  exact ⟨cf, i, k, f, st, cell, h1, h2, h3, h4, K.2.1 _ _ h5 (ninS hne nin0), h6, h7⟩
theorem own_private (X : Stand p l e R s m args below meth c T locs cells slots) (hx : p.tables.exec = Jvm.exec) (hZ : Z.Warmed39 s.vm) {own C : String} {index n : Nat} {y : MethodName} {bytes : ByteArray} {maxL : Nat} {ret : Option FieldType} {rm : Room} {as' : Array Value} {P : OwnP}
    (hown : s.vm.findClass own = some m.cls) (w1 : (Cond.methodLink own index y).before a0 Z = true) (w2 : (Cond.instanceMethod y).before a0 Z = true) (wp : (Cond.privateMethod y).before a0 Z = true) (wi : (Cond.instantiable y.cls n).before a0 Z = true) (w3 : (Cond.initialized y.cls).before a0 Z = true) (w4 : (Cond.code y bytes maxL ret).before a0 Z = true) (hy : y.cls ≠ "java/lang/invoke/MethodHandle" ∧ y.cls ≠ "java/lang/invoke/VarHandle")
    (hM : OwnC l Z y bytes maxL ret [] rm as' h P) (eT : T.heap = h) {a : Addr} (E : Exa Z h a C) {pc : Nat} {Ls : Array Slot} {argsL rest : List Value} (W : Nat) {st : List Value} (hsz : Ls.size = c.maxLocals) (hlen : ∀ sig, parseMethodDescriptor y.desc = some sig → argsL.length = sig.parameters.length) (has : (.ref a :: argsL).toArray = as') (hst : st = argsL.reverse ++ .ref a :: rest) (hW : (rest.map fun v => v.category).sum ≤ W)
    (hd : decode c.code pc = .ok (.invokevirtual index, 3)) (hf : rm.frames + 1 ≤ R.frames) (hl : W + (maxL + 11) + rm.locals ≤ R.locals) (hc : cells + rm.cells ≤ R.cells) (hs : slots + rm.slots ≤ R.slots) :
    ∃ v T' L, Stand p l e R s m args below meth c T' (locs ++ L) (cells + rm.cells) (slots + rm.slots) ∧ P v T'.heap L ∧ ∀ t, Steps p.tables e below (T'.setTop (mkF m (pc + 3) Ls (v.toList ++ rest))) t → Steps p.tables e below (T.setTop (mkF m pc Ls st)) t := by
  obtain ⟨cell, hcell, hobj⟩ := E.cell
  have hpriv := Cond.privateMethod_at (mvP hZ wp (args := args))
  obtain ⟨ci, ki, i1, i2, i3, i4, -⟩ := Cond.instantiable_spec (show (Cond.instantiable y.cls n).before args s = true from mvT hZ wi)
  have hni : ki.isInterface = false := by
    cases hq : ki.isInterface with
    | false => rfl
    | true => rw [hq] at i4; simp at i4
  have hsel := selects_self_of_private (args := args) i1 i2 hni hpriv (mvT hZ w2) hy
  obtain ⟨v, vm₁, ⟨T', L', k', n'⟩, -, X', ⟨L, hQ, l1, l2, l3⟩, stp⟩ := X.privateBack hx (y := y) hown (mvT hZ w1) (mvT hZ w2) hsel hpriv (mvT hZ w4) hy (backOf (W := W) hM hZ w4 w3 hf hl) (g := mkF m pc Ls st) rfl hsz (Steps.refl _) (a := a) (by rw [eT]; exact hcell) hobj (argsL := argsL) (rest := rest) hlen hst (by show 2 * 0 + _ ≤ _; omega) hd (fun _ _ => ⟨has, eT, hc, hs⟩)
  dsimp only [Pt.U, Pt.locs, Pt.cells, Pt.slots] at X' l1 l2 l3 stp hQ
  subst l1 l2 l3
  exact ⟨v, T', L, X', hQ, fun t k => stp.trans k⟩
theorem own_interface (X : Stand p l e R s m args below meth c T locs cells slots) (hx : p.tables.exec = Jvm.exec) (hZ : Z.Warmed39 s.vm) {own C : String} {index count : Nat} {xi y : MethodName} {bytes : ByteArray} {maxL : Nat} {ret : Option FieldType} {rm : Room} {as' : Array Value} {P : OwnP}
    (hown : s.vm.findClass own = some m.cls) (w1 : (Cond.methodLink own index xi).before a0 Z = true) (w2 : (Cond.declares xi).before a0 Z = true) (w7 : (Cond.interfaceMethod xi.cls xi.cls xi.name xi.desc).before args s = true) (w5 : (Cond.selects C xi y).before a0 Z = true) (w6 : (Cond.instanceMethod y).before a0 Z = true) (w8 : (Cond.publicMethod y).before a0 Z = true) (w9 : (Cond.unhidden C xi.name xi.desc).before a0 Z = true) (w10 : (Cond.castable C xi.cls).before a0 Z = true) (w3 : (Cond.initialized y.cls).before a0 Z = true) (w4 : (Cond.code y bytes maxL ret).before a0 Z = true) (hy : xi.cls ≠ "java/lang/invoke/MethodHandle" ∧ xi.cls ≠ "java/lang/invoke/VarHandle")
    (hM : OwnC l Z y bytes maxL ret [] rm as' h P) (eT : T.heap = h) {a : Addr} (E : Exa Z h a C) {pc : Nat} {Ls : Array Slot} {argsL rest : List Value} (W : Nat) {st : List Value} (hsz : Ls.size = c.maxLocals) (hlen : ∀ sig, parseMethodDescriptor xi.desc = some sig → argsL.length = sig.parameters.length) (has : (.ref a :: argsL).toArray = as') (hst : st = argsL.reverse ++ .ref a :: rest) (hW : (rest.map fun v => v.category).sum ≤ W)
    (hd : decode c.code pc = .ok (.invokeinterface index count, 5)) (hf : rm.frames + 1 ≤ R.frames) (hl : W + (maxL + 11) + rm.locals ≤ R.locals) (hc : cells + rm.cells ≤ R.cells) (hs : slots + rm.slots ≤ R.slots) :
    ∃ v T' L, Stand p l e R s m args below meth c T' (locs ++ L) (cells + rm.cells) (slots + rm.slots) ∧ P v T'.heap L ∧ ∀ t, Steps p.tables e below (T'.setTop (mkF m (pc + 5) Ls (v.toList ++ rest))) t → Steps p.tables e below (T.setTop (mkF m pc Ls st)) t := by
  obtain ⟨cq, kq, qa, qb, qc⟩ := isOf hZ eT E
  obtain ⟨v, vm₁, ⟨T', L', k', n'⟩, -, X', ⟨L, hQ, l1, l2, l3⟩, stp⟩ := X.interfaceBack hx (xi := xi) (y := y) hown (mvT hZ w1) (mvT hZ w2) w7 (mvT hZ w5) (mvT hZ w6) (mvT hZ w8) (mvT hZ w9) (mvT hZ w10) hy (backOf (W := W) hM hZ w4 w3 hf hl) qa qb qc (g := mkF m pc Ls st) rfl hsz (Steps.refl _) (argsL := argsL) (rest := rest) hlen hst (by show 2 * 0 + _ ≤ _; omega) hd (fun _ _ => ⟨has, eT, hc, hs⟩)
  dsimp only [Pt.U, Pt.locs, Pt.cells, Pt.slots] at X' l1 l2 l3 stp hQ
  subst l1 l2 l3
  exact ⟨v, T', L, X', hQ, fun t k => stp.trans k⟩
theorem own_staticUp (X : Stand p l e R s m args below meth c T locs cells slots) (hx : p.tables.exec = Jvm.exec) (hZ : Z.Warmed39 s.vm) {own owner : String} {index : Nat} {x : MethodName} {bytes : ByteArray} {maxL : Nat} {ret : Option FieldType} {rm : Room} {as' : Array Value} {P : OwnP}
    (hown : s.vm.findClass own = some m.cls) (w1 : (Cond.methodLink own index x).before a0 Z = true) (w2 : (Cond.sameMethod x.cls owner x.name x.desc).before a0 Z = true) (hy : owner ≠ "java/lang/invoke/MethodHandle" ∧ owner ≠ "java/lang/invoke/VarHandle") (w5 : (Cond.static ⟨owner, x.name, x.desc⟩).before a0 Z = true) (w3 : (Cond.initialized owner).before a0 Z = true) (w4 : (Cond.code ⟨owner, x.name, x.desc⟩ bytes maxL ret).before a0 Z = true)
    (hM : OwnC l Z ⟨owner, x.name, x.desc⟩ bytes maxL ret [] rm as' h P) (eT : T.heap = h) {pc : Nat} {Ls : Array Slot} {argsL rest : List Value} (W : Nat) {st : List Value} (hsz : Ls.size = c.maxLocals) (hlen : ∀ sig, parseMethodDescriptor x.desc = some sig → argsL.length = sig.parameters.length) (has : argsL.toArray = as') (hst : st = argsL.reverse ++ rest) (hW : (rest.map fun v => v.category).sum ≤ W)
    (hd : decode c.code pc = .ok (.invokestatic index, 3)) (hf : rm.frames + 1 ≤ R.frames) (hl : W + (maxL + 11) + rm.locals ≤ R.locals) (hc : cells + rm.cells ≤ R.cells) (hs : slots + rm.slots ≤ R.slots) :
    ∃ v T' L, Stand p l e R s m args below meth c T' (locs ++ L) (cells + rm.cells) (slots + rm.slots) ∧ P v T'.heap L ∧ ∀ t, Steps p.tables e below (T'.setTop (mkF m (pc + 3) Ls (v.toList ++ rest))) t → Steps p.tables e below (T.setTop (mkF m pc Ls st)) t := by
  have c4 : (Cond.code ⟨owner, x.name, x.desc⟩ bytes maxL ret).before args s = true := mvT hZ w4
  obtain ⟨mk, hnamed⟩ := Cond.code_named c4
  obtain ⟨methM, cM, hmethM, -, -, -, -, -, -, hsigM⟩ := Cond.code_spec hnamed c4
  have hstatic : methM.isStatic = true := Cond.static_spec hnamed hmethM (mvT (args := args) hZ w5)
  obtain ⟨kP, hkP, -⟩ := className_of_methodNamed hnamed
  have hinitP : kP.init = .initialized := Cond.initialized_spec (findClass_of_methodNamed hnamed) hkP (mvT (args := args) hZ w3)
  obtain ⟨vm₁, X₁, hstep₁⟩ := X.invokestaticUp hx hown (mvT hZ w1) (mvT hZ w2) hy hnamed hmethM hstatic hkP hinitP (g := mkF m pc Ls st) rfl (argsL := argsL) (rest := rest) (hlen _ hsigM) hst hd
  obtain ⟨v, ⟨T', L', k', n'⟩, X', ⟨L, hQ, l1, l2, l3⟩, hsteps⟩ := (backOf (len := 3) (W := W) hM hZ w4 w3 hf hl) m meth c ⟨T.setVm vm₁, locs, cells, slots⟩ { mkF m pc Ls st with stack := rest } (.invokestatic index) mk argsL.toArray X₁ rfl hsz hd (by show 2 * 0 + (rest.map fun v => v.category).sum ≤ W; rw [Nat.mul_zero, Nat.zero_add]; exact hW) (X₁.named hnamed) ⟨has, eT, hc, hs⟩
  dsimp only [Pt.U, Pt.locs, Pt.cells, Pt.slots] at X' l1 l2 l3 hsteps hQ
  subst l1 l2 l3
  exact ⟨v, T', L, X', hQ, fun t k => ((hstep₁ _ fun acts => by rw [doInvoke_state]; exact Steps.refl _).trans hsteps).trans k⟩
theorem own_getfRef (X : Stand p l e R s m args below meth c T locs cells slots) (hx : p.tables.exec = Jvm.exec) (hZ : Z.Warmed39 s.vm) {own O n d : String} {index : Nat} (hown : s.vm.findClass own = some m.cls) (w : (Cond.fieldRef own index O n d).before a0 Z = true) (eT : T.heap = h) {a : Addr} {v : Value} (F : Fld Z h a O n d v)
    {pc : Nat} {Ls : Array Slot} {rest : List Value} (hd : decode c.code pc = .ok (.getfield index, 3)) : ∀ t, Steps p.tables e below (T.setTop (mkF m (pc + 3) Ls (v :: rest))) t → Steps p.tables e below (T.setTop (mkF m pc Ls (.ref a :: rest))) t := by
  obtain ⟨cell, cf, k, i, f, h1, h2, h3, h4, -, -, h7⟩ := F
  have hW : Z.Warmed39 T.vm := wtrans hZ X.warmed
  have hw := Cond.fieldRef_warmed39 hW w
  have hcur : (Z.setVm T.vm).vm.findClass own = some m.cls := by
    show T.vm.findClass own = _
    rw [X.warmed.alike.findClass]
    exact hown
  obtain ⟨c', k', i', f', q1, q2⟩ := Cond.fieldRef_spec hcur hw
  obtain ⟨k2, hi, -⟩ := State.fieldFound?_setVm (s := Z) hW.alike h2
  rw [hi] at q1
  cases q1
  exact fun t kk => (X.getfieldR hx (g := mkF m pc Ls (.ref a :: rest)) rfl q2 h3 rfl (by rw [eT]; exact h1) h4 h7 hd (Steps.refl _)).trans kk
theorem own_sneE {a b : Addr} {cell : Cell} {C : String} (h1 : h[a]? = some cell) (h2 : cell.vm.isStatics = true) (E : Exa Z h b C) : a ≠ b := fun q => by
  obtain ⟨cell', k', e1, -, -, e4, -⟩ := E
  subst q
  cases h1.symm.trans e1
  rw [h2] at e4
  cases e4
theorem own_sneA {a b : Addr} {cell : Cell} {k : ClassId} {ty : FieldType} {n : Int32} {vs : List Value} {dv : Value} (h1 : h[a]? = some cell) (h2 : cell.vm.isStatics = true) (V : Arv Z h b k ty n vs dv) : a ≠ b := fun q => by
  obtain ⟨cl, A, -⟩ := V
  subst q
  cases h1.symm.trans A.1
  have := A.plain
  rw [h2] at this
  cases this
theorem own_sta_keepL {C n d : String} {v : Value} {h' : Heap} {ws : List Addr} (F : Sta Z h C n d v) (K : Keep h h' ws) (q : ∀ (a : Addr) (cell : Cell), h[a]? = some cell → cell.vm.isStatics = true → a ∉ ws) : Sta Z h' C n d v := by
  obtain ⟨cf, i, k, f, st, cell, h1, h2, h3, h4, h5, h6, h7⟩ := F
  exact ⟨cf, i, k, f, st, cell, h1, h2, h3, h4, K.2.1 _ _ h5 (q _ _ h5 h6), h6, h7⟩
theorem own_nf {args : Array Value} {s : State} {C : String} {x y z : MethodName} (hsel : (Cond.selects C x z).before args s = true) (hc : y.cls = z.cls) : NotFace s y := fun r0 h0 => by
  obtain ⟨c2, r2, m2, q1, q2, q3, q4, kP, hkP, hkPi⟩ := Cond.selects_spec hsel
  have e1 := findClass_of_methodNamed h0
  have e2 := findClass_of_methodNamed q3
  rw [hc] at e1
  have e3 : r0.cls = m2.cls := Option.some.inj (e1.symm.trans e2)
  exact ⟨kP, by rw [e3]; exact hkP, hkPi⟩
end OwnKit
end Jvm.RoadKit
namespace Jvm.Pilot.@@N@@
open Jvm Jvm.ClassFile Sem Op Lib Jvm.Free Jvm.Stand Jvm.LawKit Jvm.RoadKit Bundle Jvm.Pilot.@@N@@.Jvm.D
theorem own_w {Z : State} {a0 : Array Value} (hw : ∀ d ∈ tables_1, d.before a0 Z = true) (i : Nat) {d : Jvm.Cond} (h : tables_1[i]? = some d) : d.before a0 Z = true := hw _ (List.mem_of_getElem? h)
theorem own_i {a : Addr} {L : List Addr} {Q : Prop} (i : Nat) (h : L[i]? = some a) : a ∈ L ∨ Q := Or.inl (List.mem_of_getElem? h)
theorem pd__JJI_B : parseMethodDescriptor "(JJI)B" = some ⟨[.long, .long, .int], some .byte⟩ := by decide +kernel
theorem pd___BIJII_V : parseMethodDescriptor "([BIJII)V" = some ⟨[(.array .byte), .int, .long, .int, .int], none⟩ := by decide +kernel
theorem pd___BII_J : parseMethodDescriptor "([BII)J" = some ⟨[(.array .byte), .int, .int], some .long⟩ := by decide +kernel
def own_G (w : Int64) (i : Nat) : Int64 := ((w.toUInt64 >>> (((7 : Int32) * (Int32.ofNat i)) &&& 0x3f).toInt64.toUInt64).toInt64)
def own_byte (w : Int64) (Ln i : Nat) : Int32 := (if i + 1 < Ln then ((own_G w i &&& (127 : Int64)) ||| (128 : Int64)).toInt32.toInt8.toInt32 else (own_G w i).toInt32.toInt8.toInt32).toInt8.toInt32
def own_putv (vs : List Value) (on : Nat) (w : Int64) (Ln i : Nat) : List Value := if i < Ln then vs.set (on + i) (.int (own_byte w Ln i)) else vs
def own_puts (vs : List Value) (on : Nat) (w : Int64) (Ln : Nat) : Nat → List Value
  | 0 => vs
  | k + 1 => own_putv (own_puts vs on w Ln k) on w Ln k
def own_acc (f : Nat → Int32) : Nat → Int64
  | 0 => 0
  | n + 1 => own_acc f n ||| ((f n &&& (127 : Int32)).toInt64 <<< ((Int32.ofNat (7 * n)) &&& 0x3f).toInt64)
theorem own_putv_len (vs : List Value) (on : Nat) (w : Int64) (Ln i : Nat) : (own_putv vs on w Ln i).length = vs.length := by
  unfold own_putv
  split <;> simp
theorem own_puts_len (vs : List Value) (on : Nat) (w : Int64) (Ln : Nat) : ∀ k, (own_puts vs on w Ln k).length = vs.length
  | 0 => rfl
  | k + 1 => (own_putv_len _ on w Ln k).trans (own_puts_len vs on w Ln k)
theorem own_puts_at (vs : List Value) (on : Nat) (w : Int64) (Ln : Nat) (d : Value) : ∀ k, on + k ≤ vs.length → ∀ n, n < k → n < Ln → (own_puts vs on w Ln k).getD (on + n) d = .int (own_byte w Ln n)
  | 0, _, n, h, _ => absurd h (Nat.not_lt_zero n)
  | k + 1, hk, n, h, hL => by
    show (own_putv (own_puts vs on w Ln k) on w Ln k).getD (on + n) d = _
    have hl := own_puts_len vs on w Ln k
    unfold own_putv
    by_cases hn : n = k
    · subst hn
      rw [if_pos hL]
      simp [List.getD, hl]
      rw [List.getElem?_set_self (by omega)]
      rfl
    · have ih := own_puts_at vs on w Ln d k (by omega) n (by omega) hL
      split
      · simp only [List.getD] at ih ⊢
        rw [List.getElem?_set_ne (by omega)]
        exact ih
      · exact ih
theorem own_tI (a : Nat) (h : a < 2147483648) : (Int32.ofNat a).toInt = (a : Int) := toInt_of rfl (by omega)
theorem own_lt (a b : Nat) (ha : a < 2147483648) (hb : b < 2147483648) : Int32.ofNat a < Int32.ofNat b ↔ a < b := by
  rw [Int32.lt_iff_toInt_lt, own_tI a ha, own_tI b hb]
  omega
theorem own_in16 (a : Nat) (h : a < 16) : ¬ Int32.ofNat a < 0 ∧ Int32.ofNat a < 16 := by
  refine ⟨?_, ?_⟩
  · rw [Int32.lt_iff_toInt_lt, own_tI a (by omega)]
    have : (0 : Int32).toInt = 0 := by decide
    omega
  · rw [Int32.lt_iff_toInt_lt, own_tI a (by omega)]
    have : (16 : Int32).toInt = 16 := by decide
    omega
theorem own_i7 (n : Nat) : Int32.ofNat (7 * n) + 7 = Int32.ofNat (7 * (n + 1)) := by
  rw [show 7 * (n + 1) = 7 * n + 7 from by omega, Int32.ofNat_add]
  rfl
theorem own_i1 (a n : Nat) : Int32.ofNat (a + n) + 1 = Int32.ofNat (a + (n + 1)) := (inc_ofNat (a + n)).symm
theorem own_add (a b : Nat) : Int32.ofNat a + Int32.ofNat b = Int32.ofNat (a + b) := (Int32.ofNat_add a b).symm
theorem own_one (a : Nat) (ha : a < 100) (h : Int32.ofNat a = 1) : a = 1 := by
  have q := own_tI a (by omega)
  rw [h] at q
  have : (1 : Int32).toInt = 1 := by decide
  omega
theorem own_pred (i Ln : Nat) (h1 : i < 100) (h2 : 1 ≤ Ln) (h3 : Ln < 100) : Int32.ofNat i < Int32.ofNat Ln - 1 ↔ i + 1 < Ln := by
  have k := c_isub (Int32.ofNat Ln) 1
  have k2 := rng32 (Int32.ofNat Ln - 1)
  rw [own_tI Ln (by omega)] at k
  rw [Int32.lt_iff_toInt_lt, own_tI i (by omega)]
  have : (1 : Int32).toInt = 1 := by decide
  omega
theorem own_exL (x : Int32) : ∃ Ln : Nat, (1 ≤ Ln ∧ Ln ≤ 10) ∧ (x &&& 2147483647) % 10 + 1 = Int32.ofNat Ln := by
  have h1 := c_mask x 2147483647 31 (by decide) (by decide)
  have h2 := (c_irem (x &&& 2147483647) 10 10 (by decide)).1
  have h3 : 0 ≤ (x &&& 2147483647).toInt := by omega
  have h4 := h2 h3
  have h5 := c_iadd ((x &&& 2147483647) % 10) 1
  have h6 := rng32 ((x &&& 2147483647) % 10 + 1)
  have e1 : (1 : Int32).toInt = 1 := by decide
  refine ⟨((x &&& 2147483647) % 10 + 1).toInt.toNat, by omega, ?_⟩
  apply Int32.toInt_inj.mp
  rw [own_tI _ (by omega)]
  omega
theorem own_exO (x : Int32) : ∃ on : Nat, on ≤ 3 ∧ x &&& 3 = Int32.ofNat on := by
  have h1 := c_mask x 3 2 (by decide) (by decide)
  refine ⟨(x &&& 3).toInt.toNat, by omega, ?_⟩
  apply Int32.toInt_inj.mp
  rw [own_tI _ (by omega)]
  omega
theorem own_b7 (w : Int64) (Ln i : Nat) : (own_byte w Ln i &&& 127).toInt64 = own_G w i &&& 127 := by
  unfold own_byte
  generalize own_G w i = g
  apply Int64.toInt_inj.mp
  have m0 := c_maskL g 127 7 (by decide) (by decide)
  split
  · have o1 := c_orL' (g &&& 127) 128 7 (by decide) 128 (by decide) (by decide) (by omega) (by omega)
    have r1 := rng64 ((g &&& 127) ||| 128)
    have e1 : (128 : Int64).toInt = 128 := by decide
    have l1 := c_l2i ((g &&& 127) ||| 128)
    have b1 := c_i2b ((g &&& 127) ||| 128).toInt32
    have b2 := c_i2b ((g &&& 127) ||| 128).toInt32.toInt8.toInt32
    have m1 := c_mask ((g &&& 127) ||| 128).toInt32.toInt8.toInt32.toInt8.toInt32 127 7 (by decide) (by decide)
    have i1 := c_i2l (((g &&& 127) ||| 128).toInt32.toInt8.toInt32.toInt8.toInt32 &&& 127)
    omega
  · have l1 := c_l2i g
    have b1 := c_i2b g.toInt32
    have b2 := c_i2b g.toInt32.toInt8.toInt32
    have m1 := c_mask g.toInt32.toInt8.toInt32.toInt8.toInt32 127 7 (by decide) (by decide)
    have i1 := c_i2l (g.toInt32.toInt8.toInt32.toInt8.toInt32 &&& 127)
    omega
theorem own_G0 (w : Int64) : own_G w 0 = w := by
  unfold own_G
  rw [show (((7 : Int32) * (Int32.ofNat 0)) &&& 0x3f).toInt64.toUInt64 = 0 from by decide]
  simp
theorem own_ac1 (w : Int64) (Ln : Nat) : (own_acc (own_byte w Ln) 1).toInt = (w.toInt % 18446744073709551616) % 128 := by
  have e : own_acc (own_byte w Ln) 1 = own_acc (own_byte w Ln) 0 ||| ((own_byte w Ln 0 &&& (127 : Int32)).toInt64 <<< ((Int32.ofNat (7 * 0)) &&& 0x3f).toInt64) := rfl
  rw [e, own_b7]
  have p0 : (own_acc (own_byte w Ln) 0).toInt = 0 := (show ((0 : Int64)).toInt = 0 from by decide)
  generalize own_acc (own_byte w Ln) 0 = ac at p0 ⊢
  rw [own_G0]
  have g0 := rng64 w
  have m0 := c_maskL w 127 7 (by decide) (by decide)
  have s0 := c_lshl (w &&& 127) (Int32.ofNat (7 * 0)) 0 (by decide)
  have s1 := rng64 ((w &&& 127) <<< ((Int32.ofNat (7 * 0)) &&& 0x3f).toInt64)
  have o := c_orL' ac ((w &&& 127) <<< ((Int32.ofNat (7 * 0)) &&& 0x3f).toInt64) 0 (by decide) 1 (by decide) (by omega) (by omega) (by omega)
  have r := rng64 (ac ||| ((w &&& 127) <<< ((Int32.ofNat (7 * 0)) &&& 0x3f).toInt64))
  rw [show ((2 ^ 0 : Nat) : Int) = 1 from by decide] at s0
  rw [show ((2 ^ 7 : Nat) : Int) = 128 from by decide] at m0
  omega
theorem own_ac2 (w : Int64) (Ln : Nat) : (own_acc (own_byte w Ln) 2).toInt = (w.toInt % 18446744073709551616) % 16384 := by
  have e : own_acc (own_byte w Ln) 2 = own_acc (own_byte w Ln) 1 ||| ((own_byte w Ln 1 &&& (127 : Int32)).toInt64 <<< ((Int32.ofNat (7 * 1)) &&& 0x3f).toInt64) := rfl
  rw [e, own_b7]
  have p0 : (own_acc (own_byte w Ln) 1).toInt = (w.toInt % 18446744073709551616) % 128 := own_ac1 w Ln
  generalize own_acc (own_byte w Ln) 1 = ac at p0 ⊢
  have g1 : (own_G w 1).toInt = (w.toInt % 18446744073709551616) / (2 ^ 7 : Nat) := c_lushr w ((7 : Int32) * (Int32.ofNat 1)) 7 (by decide) (by decide)
  have g0 := rng64 w
  rw [show ((2 ^ 7 : Nat) : Int) = 128 from by decide] at g1
  generalize own_G w 1 = g at g1 ⊢
  have m0 := c_maskL g 127 7 (by decide) (by decide)
  rw [show ((2 ^ 7 : Nat) : Int) = 128 from by decide] at m0
  have s0 := c_lshl (g &&& 127) (Int32.ofNat (7 * 1)) 7 (by decide)
  rw [show ((2 ^ 7 : Nat) : Int) = 128 from by decide] at s0
  generalize (g &&& 127) <<< ((Int32.ofNat (7 * 1)) &&& 0x3f).toInt64 = b at s0 ⊢
  have s1 := rng64 b
  have o := c_orL' ac b 7 (by decide) 128 (by decide) (by omega) (by omega) (by omega)
  have r := rng64 (ac ||| b)
  omega
theorem own_ac3 (w : Int64) (Ln : Nat) : (own_acc (own_byte w Ln) 3).toInt = (w.toInt % 18446744073709551616) % 2097152 := by
  have e : own_acc (own_byte w Ln) 3 = own_acc (own_byte w Ln) 2 ||| ((own_byte w Ln 2 &&& (127 : Int32)).toInt64 <<< ((Int32.ofNat (7 * 2)) &&& 0x3f).toInt64) := rfl
  rw [e, own_b7]
  have p0 : (own_acc (own_byte w Ln) 2).toInt = (w.toInt % 18446744073709551616) % 16384 := own_ac2 w Ln
  generalize own_acc (own_byte w Ln) 2 = ac at p0 ⊢
  have g1 : (own_G w 2).toInt = (w.toInt % 18446744073709551616) / (2 ^ 14 : Nat) := c_lushr w ((7 : Int32) * (Int32.ofNat 2)) 14 (by decide) (by decide)
  have g0 := rng64 w
  rw [show ((2 ^ 14 : Nat) : Int) = 16384 from by decide] at g1
  generalize own_G w 2 = g at g1 ⊢
  have m0 := c_maskL g 127 7 (by decide) (by decide)
  rw [show ((2 ^ 7 : Nat) : Int) = 128 from by decide] at m0
  have s0 := c_lshl (g &&& 127) (Int32.ofNat (7 * 2)) 14 (by decide)
  rw [show ((2 ^ 14 : Nat) : Int) = 16384 from by decide] at s0
  generalize (g &&& 127) <<< ((Int32.ofNat (7 * 2)) &&& 0x3f).toInt64 = b at s0 ⊢
  have s1 := rng64 b
  have o := c_orL' ac b 14 (by decide) 16384 (by decide) (by omega) (by omega) (by omega)
  have r := rng64 (ac ||| b)
  omega
theorem own_ac4 (w : Int64) (Ln : Nat) : (own_acc (own_byte w Ln) 4).toInt = (w.toInt % 18446744073709551616) % 268435456 := by
  have e : own_acc (own_byte w Ln) 4 = own_acc (own_byte w Ln) 3 ||| ((own_byte w Ln 3 &&& (127 : Int32)).toInt64 <<< ((Int32.ofNat (7 * 3)) &&& 0x3f).toInt64) := rfl
  rw [e, own_b7]
  have p0 : (own_acc (own_byte w Ln) 3).toInt = (w.toInt % 18446744073709551616) % 2097152 := own_ac3 w Ln
  generalize own_acc (own_byte w Ln) 3 = ac at p0 ⊢
  have g1 : (own_G w 3).toInt = (w.toInt % 18446744073709551616) / (2 ^ 21 : Nat) := c_lushr w ((7 : Int32) * (Int32.ofNat 3)) 21 (by decide) (by decide)
  have g0 := rng64 w
  rw [show ((2 ^ 21 : Nat) : Int) = 2097152 from by decide] at g1
  generalize own_G w 3 = g at g1 ⊢
  have m0 := c_maskL g 127 7 (by decide) (by decide)
  rw [show ((2 ^ 7 : Nat) : Int) = 128 from by decide] at m0
  have s0 := c_lshl (g &&& 127) (Int32.ofNat (7 * 3)) 21 (by decide)
  rw [show ((2 ^ 21 : Nat) : Int) = 2097152 from by decide] at s0
  generalize (g &&& 127) <<< ((Int32.ofNat (7 * 3)) &&& 0x3f).toInt64 = b at s0 ⊢
  have s1 := rng64 b
  have o := c_orL' ac b 21 (by decide) 2097152 (by decide) (by omega) (by omega) (by omega)
  have r := rng64 (ac ||| b)
  omega
theorem own_ac5 (w : Int64) (Ln : Nat) : (own_acc (own_byte w Ln) 5).toInt = (w.toInt % 18446744073709551616) % 34359738368 := by
  have e : own_acc (own_byte w Ln) 5 = own_acc (own_byte w Ln) 4 ||| ((own_byte w Ln 4 &&& (127 : Int32)).toInt64 <<< ((Int32.ofNat (7 * 4)) &&& 0x3f).toInt64) := rfl
  rw [e, own_b7]
  have p0 : (own_acc (own_byte w Ln) 4).toInt = (w.toInt % 18446744073709551616) % 268435456 := own_ac4 w Ln
  generalize own_acc (own_byte w Ln) 4 = ac at p0 ⊢
  have g1 : (own_G w 4).toInt = (w.toInt % 18446744073709551616) / (2 ^ 28 : Nat) := c_lushr w ((7 : Int32) * (Int32.ofNat 4)) 28 (by decide) (by decide)
  have g0 := rng64 w
  rw [show ((2 ^ 28 : Nat) : Int) = 268435456 from by decide] at g1
  generalize own_G w 4 = g at g1 ⊢
  have m0 := c_maskL g 127 7 (by decide) (by decide)
  rw [show ((2 ^ 7 : Nat) : Int) = 128 from by decide] at m0
  have s0 := c_lshl (g &&& 127) (Int32.ofNat (7 * 4)) 28 (by decide)
  rw [show ((2 ^ 28 : Nat) : Int) = 268435456 from by decide] at s0
  generalize (g &&& 127) <<< ((Int32.ofNat (7 * 4)) &&& 0x3f).toInt64 = b at s0 ⊢
  have s1 := rng64 b
  have o := c_orL' ac b 28 (by decide) 268435456 (by decide) (by omega) (by omega) (by omega)
  have r := rng64 (ac ||| b)
  omega
theorem own_ac6 (w : Int64) (Ln : Nat) : (own_acc (own_byte w Ln) 6).toInt = (w.toInt % 18446744073709551616) % 4398046511104 := by
  have e : own_acc (own_byte w Ln) 6 = own_acc (own_byte w Ln) 5 ||| ((own_byte w Ln 5 &&& (127 : Int32)).toInt64 <<< ((Int32.ofNat (7 * 5)) &&& 0x3f).toInt64) := rfl
  rw [e, own_b7]
  have p0 : (own_acc (own_byte w Ln) 5).toInt = (w.toInt % 18446744073709551616) % 34359738368 := own_ac5 w Ln
  generalize own_acc (own_byte w Ln) 5 = ac at p0 ⊢
  have g1 : (own_G w 5).toInt = (w.toInt % 18446744073709551616) / (2 ^ 35 : Nat) := c_lushr w ((7 : Int32) * (Int32.ofNat 5)) 35 (by decide) (by decide)
  have g0 := rng64 w
  rw [show ((2 ^ 35 : Nat) : Int) = 34359738368 from by decide] at g1
  generalize own_G w 5 = g at g1 ⊢
  have m0 := c_maskL g 127 7 (by decide) (by decide)
  rw [show ((2 ^ 7 : Nat) : Int) = 128 from by decide] at m0
  have s0 := c_lshl (g &&& 127) (Int32.ofNat (7 * 5)) 35 (by decide)
  rw [show ((2 ^ 35 : Nat) : Int) = 34359738368 from by decide] at s0
  generalize (g &&& 127) <<< ((Int32.ofNat (7 * 5)) &&& 0x3f).toInt64 = b at s0 ⊢
  have s1 := rng64 b
  have o := c_orL' ac b 35 (by decide) 34359738368 (by decide) (by omega) (by omega) (by omega)
  have r := rng64 (ac ||| b)
  omega
theorem own_ac7 (w : Int64) (Ln : Nat) : (own_acc (own_byte w Ln) 7).toInt = (w.toInt % 18446744073709551616) % 562949953421312 := by
  have e : own_acc (own_byte w Ln) 7 = own_acc (own_byte w Ln) 6 ||| ((own_byte w Ln 6 &&& (127 : Int32)).toInt64 <<< ((Int32.ofNat (7 * 6)) &&& 0x3f).toInt64) := rfl
  rw [e, own_b7]
  have p0 : (own_acc (own_byte w Ln) 6).toInt = (w.toInt % 18446744073709551616) % 4398046511104 := own_ac6 w Ln
  generalize own_acc (own_byte w Ln) 6 = ac at p0 ⊢
  have g1 : (own_G w 6).toInt = (w.toInt % 18446744073709551616) / (2 ^ 42 : Nat) := c_lushr w ((7 : Int32) * (Int32.ofNat 6)) 42 (by decide) (by decide)
  have g0 := rng64 w
  rw [show ((2 ^ 42 : Nat) : Int) = 4398046511104 from by decide] at g1
  generalize own_G w 6 = g at g1 ⊢
  have m0 := c_maskL g 127 7 (by decide) (by decide)
  rw [show ((2 ^ 7 : Nat) : Int) = 128 from by decide] at m0
  have s0 := c_lshl (g &&& 127) (Int32.ofNat (7 * 6)) 42 (by decide)
  rw [show ((2 ^ 42 : Nat) : Int) = 4398046511104 from by decide] at s0
  generalize (g &&& 127) <<< ((Int32.ofNat (7 * 6)) &&& 0x3f).toInt64 = b at s0 ⊢
  have s1 := rng64 b
  have o := c_orL' ac b 42 (by decide) 4398046511104 (by decide) (by omega) (by omega) (by omega)
  have r := rng64 (ac ||| b)
  omega
theorem own_ac8 (w : Int64) (Ln : Nat) : (own_acc (own_byte w Ln) 8).toInt = (w.toInt % 18446744073709551616) % 72057594037927936 := by
  have e : own_acc (own_byte w Ln) 8 = own_acc (own_byte w Ln) 7 ||| ((own_byte w Ln 7 &&& (127 : Int32)).toInt64 <<< ((Int32.ofNat (7 * 7)) &&& 0x3f).toInt64) := rfl
  rw [e, own_b7]
  have p0 : (own_acc (own_byte w Ln) 7).toInt = (w.toInt % 18446744073709551616) % 562949953421312 := own_ac7 w Ln
  generalize own_acc (own_byte w Ln) 7 = ac at p0 ⊢
  have g1 : (own_G w 7).toInt = (w.toInt % 18446744073709551616) / (2 ^ 49 : Nat) := c_lushr w ((7 : Int32) * (Int32.ofNat 7)) 49 (by decide) (by decide)
  have g0 := rng64 w
  rw [show ((2 ^ 49 : Nat) : Int) = 562949953421312 from by decide] at g1
  generalize own_G w 7 = g at g1 ⊢
  have m0 := c_maskL g 127 7 (by decide) (by decide)
  rw [show ((2 ^ 7 : Nat) : Int) = 128 from by decide] at m0
  have s0 := c_lshl (g &&& 127) (Int32.ofNat (7 * 7)) 49 (by decide)
  rw [show ((2 ^ 49 : Nat) : Int) = 562949953421312 from by decide] at s0
  generalize (g &&& 127) <<< ((Int32.ofNat (7 * 7)) &&& 0x3f).toInt64 = b at s0 ⊢
  have s1 := rng64 b
  have o := c_orL' ac b 49 (by decide) 562949953421312 (by decide) (by omega) (by omega) (by omega)
  have r := rng64 (ac ||| b)
  omega
theorem own_ac9 (w : Int64) (Ln : Nat) : (own_acc (own_byte w Ln) 9).toInt = (w.toInt % 18446744073709551616) % 9223372036854775808 := by
  have e : own_acc (own_byte w Ln) 9 = own_acc (own_byte w Ln) 8 ||| ((own_byte w Ln 8 &&& (127 : Int32)).toInt64 <<< ((Int32.ofNat (7 * 8)) &&& 0x3f).toInt64) := rfl
  rw [e, own_b7]
  have p0 : (own_acc (own_byte w Ln) 8).toInt = (w.toInt % 18446744073709551616) % 72057594037927936 := own_ac8 w Ln
  generalize own_acc (own_byte w Ln) 8 = ac at p0 ⊢
  have g1 : (own_G w 8).toInt = (w.toInt % 18446744073709551616) / (2 ^ 56 : Nat) := c_lushr w ((7 : Int32) * (Int32.ofNat 8)) 56 (by decide) (by decide)
  have g0 := rng64 w
  rw [show ((2 ^ 56 : Nat) : Int) = 72057594037927936 from by decide] at g1
  generalize own_G w 8 = g at g1 ⊢
  have m0 := c_maskL g 127 7 (by decide) (by decide)
  rw [show ((2 ^ 7 : Nat) : Int) = 128 from by decide] at m0
  have s0 := c_lshl (g &&& 127) (Int32.ofNat (7 * 8)) 56 (by decide)
  rw [show ((2 ^ 56 : Nat) : Int) = 72057594037927936 from by decide] at s0
  generalize (g &&& 127) <<< ((Int32.ofNat (7 * 8)) &&& 0x3f).toInt64 = b at s0 ⊢
  have s1 := rng64 b
  have o := c_orL' ac b 56 (by decide) 72057594037927936 (by decide) (by omega) (by omega) (by omega)
  have r := rng64 (ac ||| b)
  omega
theorem own_ac10 (w : Int64) (Ln : Nat) : (own_acc (own_byte w Ln) 10).toInt = w.toInt := by
  have e : own_acc (own_byte w Ln) 10 = own_acc (own_byte w Ln) 9 ||| ((own_byte w Ln 9 &&& (127 : Int32)).toInt64 <<< ((Int32.ofNat (7 * 9)) &&& 0x3f).toInt64) := rfl
  rw [e, own_b7]
  have p0 : (own_acc (own_byte w Ln) 9).toInt = (w.toInt % 18446744073709551616) % 9223372036854775808 := own_ac9 w Ln
  generalize own_acc (own_byte w Ln) 9 = ac at p0 ⊢
  have g1 : (own_G w 9).toInt = (w.toInt % 18446744073709551616) / (2 ^ 63 : Nat) := c_lushr w ((7 : Int32) * (Int32.ofNat 9)) 63 (by decide) (by decide)
  have g0 := rng64 w
  rw [show ((2 ^ 63 : Nat) : Int) = 9223372036854775808 from by decide] at g1
  generalize own_G w 9 = g at g1 ⊢
  have m0 := c_maskL g 127 7 (by decide) (by decide)
  rw [show ((2 ^ 7 : Nat) : Int) = 128 from by decide] at m0
  have s0 := c_lshl (g &&& 127) (Int32.ofNat (7 * 9)) 63 (by decide)
  rw [show ((2 ^ 63 : Nat) : Int) = 9223372036854775808 from by decide] at s0
  generalize (g &&& 127) <<< ((Int32.ofNat (7 * 9)) &&& 0x3f).toInt64 = b at s0 ⊢
  have s1 := rng64 b
  have o := c_orL' ac b 63 (by decide) 9223372036854775808 (by decide) (by omega) (by omega) (by omega)
  have r := rng64 (ac ||| b)
  omega
def own_res (f : Nat → Int32) (Ln : Nat) : Int64 := if Ln = 1 then (f 0).toInt64 else own_acc f Ln
theorem own_fin (w : Int64) (Ln : Nat) (hL : 1 ≤ Ln ∧ Ln ≤ 10) (hw : Ln < 10 → 0 ≤ w.toInt ∧ w.toInt < (2 ^ (7 * Ln) : Nat)) : own_res (own_byte w Ln) Ln = w := by
  have hc : Ln = 1 ∨ Ln = 2 ∨ Ln = 3 ∨ Ln = 4 ∨ Ln = 5 ∨ Ln = 6 ∨ Ln = 7 ∨ Ln = 8 ∨ Ln = 9 ∨ Ln = 10 := by omega
  apply Int64.toInt_inj.mp
  rcases hc with rfl | rfl | rfl | rfl | rfl | rfl | rfl | rfl | rfl | rfl
  · have h := hw (by decide)
    rw [show ((2 ^ (7 * 1) : Nat) : Int) = 128 from by decide] at h
    show (own_byte w 1 0).toInt64.toInt = w.toInt
    unfold own_byte
    rw [if_neg (by decide), own_G0]
    have l1 := c_l2i w
    have l2 := rng32 w.toInt32
    have b1 := c_i2b w.toInt32
    have b2 := c_i2b w.toInt32.toInt8.toInt32
    have i1 := c_i2l w.toInt32.toInt8.toInt32.toInt8.toInt32
    omega
  · have h := hw (by decide)
    rw [show ((2 ^ (7 * 2) : Nat) : Int) = 16384 from by decide] at h
    show (own_acc (own_byte w 2) 2).toInt = w.toInt
    rw [own_ac2]
    omega
  · have h := hw (by decide)
    rw [show ((2 ^ (7 * 3) : Nat) : Int) = 2097152 from by decide] at h
    show (own_acc (own_byte w 3) 3).toInt = w.toInt
    rw [own_ac3]
    omega
  · have h := hw (by decide)
    rw [show ((2 ^ (7 * 4) : Nat) : Int) = 268435456 from by decide] at h
    show (own_acc (own_byte w 4) 4).toInt = w.toInt
    rw [own_ac4]
    omega
  · have h := hw (by decide)
    rw [show ((2 ^ (7 * 5) : Nat) : Int) = 34359738368 from by decide] at h
    show (own_acc (own_byte w 5) 5).toInt = w.toInt
    rw [own_ac5]
    omega
  · have h := hw (by decide)
    rw [show ((2 ^ (7 * 6) : Nat) : Int) = 4398046511104 from by decide] at h
    show (own_acc (own_byte w 6) 6).toInt = w.toInt
    rw [own_ac6]
    omega
  · have h := hw (by decide)
    rw [show ((2 ^ (7 * 7) : Nat) : Int) = 562949953421312 from by decide] at h
    show (own_acc (own_byte w 7) 7).toInt = w.toInt
    rw [own_ac7]
    omega
  · have h := hw (by decide)
    rw [show ((2 ^ (7 * 8) : Nat) : Int) = 72057594037927936 from by decide] at h
    show (own_acc (own_byte w 8) 8).toInt = w.toInt
    rw [own_ac8]
    omega
  · have h := hw (by decide)
    rw [show ((2 ^ (7 * 9) : Nat) : Int) = 9223372036854775808 from by decide] at h
    show (own_acc (own_byte w 9) 9).toInt = w.toInt
    rw [own_ac9]
    omega
  · exact own_ac10 w 10
theorem own_wb (v : Int64) (Ln : Nat) (h1 : 1 ≤ Ln) (h2 : Ln < 10) : 0 ≤ (v &&& (((1 : Int64) <<< (((7 : Int32) * Int32.ofNat Ln) &&& 0x3f).toInt64) - 1)).toInt ∧ (v &&& (((1 : Int64) <<< (((7 : Int32) * Int32.ofNat Ln) &&& 0x3f).toInt64) - 1)).toInt < (2 ^ (7 * Ln) : Nat) := by
  have hc : Ln = 1 ∨ Ln = 2 ∨ Ln = 3 ∨ Ln = 4 ∨ Ln = 5 ∨ Ln = 6 ∨ Ln = 7 ∨ Ln = 8 ∨ Ln = 9 := by omega
  rcases hc with rfl | rfl | rfl | rfl | rfl | rfl | rfl | rfl | rfl
  · have m := c_maskL v (((1 : Int64) <<< (((7 : Int32) * Int32.ofNat 1) &&& 0x3f).toInt64) - 1) 7 (by decide) (by decide)
    rw [m, show ((2 ^ 7 : Nat) : Int) = 128 from by decide]
    omega
  · have m := c_maskL v (((1 : Int64) <<< (((7 : Int32) * Int32.ofNat 2) &&& 0x3f).toInt64) - 1) 14 (by decide) (by decide)
    rw [m, show ((2 ^ 14 : Nat) : Int) = 16384 from by decide]
    omega
  · have m := c_maskL v (((1 : Int64) <<< (((7 : Int32) * Int32.ofNat 3) &&& 0x3f).toInt64) - 1) 21 (by decide) (by decide)
    rw [m, show ((2 ^ 21 : Nat) : Int) = 2097152 from by decide]
    omega
  · have m := c_maskL v (((1 : Int64) <<< (((7 : Int32) * Int32.ofNat 4) &&& 0x3f).toInt64) - 1) 28 (by decide) (by decide)
    rw [m, show ((2 ^ 28 : Nat) : Int) = 268435456 from by decide]
    omega
  · have m := c_maskL v (((1 : Int64) <<< (((7 : Int32) * Int32.ofNat 5) &&& 0x3f).toInt64) - 1) 35 (by decide) (by decide)
    rw [m, show ((2 ^ 35 : Nat) : Int) = 34359738368 from by decide]
    omega
  · have m := c_maskL v (((1 : Int64) <<< (((7 : Int32) * Int32.ofNat 6) &&& 0x3f).toInt64) - 1) 42 (by decide) (by decide)
    rw [m, show ((2 ^ 42 : Nat) : Int) = 4398046511104 from by decide]
    omega
  · have m := c_maskL v (((1 : Int64) <<< (((7 : Int32) * Int32.ofNat 7) &&& 0x3f).toInt64) - 1) 49 (by decide) (by decide)
    rw [m, show ((2 ^ 49 : Nat) : Int) = 562949953421312 from by decide]
    omega
  · have m := c_maskL v (((1 : Int64) <<< (((7 : Int32) * Int32.ofNat 8) &&& 0x3f).toInt64) - 1) 56 (by decide) (by decide)
    rw [m, show ((2 ^ 56 : Nat) : Int) = 72057594037927936 from by decide]
    omega
  · have m := c_maskL v (((1 : Int64) <<< (((7 : Int32) * Int32.ofNat 9) &&& 0x3f).toInt64) - 1) 63 (by decide) (by decide)
    rw [m, show ((2 ^ 63 : Nat) : Int) = 9223372036854775808 from by decide]
    omega
theorem d1_0 : decode method_3_code 0 = .ok (.iload 4, 2) := by decide +kernel
theorem d1_2 : decode method_3_code 2 = .ok (.bipush 8, 2) := by decide +kernel
theorem d1_4 : decode method_3_code 4 = .ok (.if_icmp .ge 13, 3) := by decide +kernel
theorem d1_7 : decode method_3_code 7 = .ok (.lload_n 0, 1) := by decide +kernel
theorem d1_8 : decode method_3_code 8 = .ok (.bipush 8, 2) := by decide +kernel
theorem d1_10 : decode method_3_code 10 = .ok (.iload 4, 2) := by decide +kernel
theorem d1_12 : decode method_3_code 12 = .ok (.imul, 1) := by decide +kernel
theorem d1_13 : decode method_3_code 13 = .ok (.lushr, 1) := by decide +kernel
theorem d1_14 : decode method_3_code 14 = .ok (.goto 13, 3) := by decide +kernel
theorem d1_17 : decode method_3_code 17 = .ok (.lload_n 2, 1) := by decide +kernel
theorem d1_18 : decode method_3_code 18 = .ok (.bipush 8, 2) := by decide +kernel
theorem d1_20 : decode method_3_code 20 = .ok (.iload 4, 2) := by decide +kernel
theorem d1_22 : decode method_3_code 22 = .ok (.bipush 8, 2) := by decide +kernel
theorem d1_24 : decode method_3_code 24 = .ok (.isub, 1) := by decide +kernel
theorem d1_25 : decode method_3_code 25 = .ok (.imul, 1) := by decide +kernel
theorem d1_26 : decode method_3_code 26 = .ok (.lushr, 1) := by decide +kernel
theorem d1_27 : decode method_3_code 27 = .ok (.l2i, 1) := by decide +kernel
theorem d1_28 : decode method_3_code 28 = .ok (.i2b, 1) := by decide +kernel
theorem d1_29 : decode method_3_code 29 = .ok (.ireturn, 1) := by decide +kernel
theorem pf_com_example_wirelens_wirelens_wire_VarintValuePinLaw_junk__JJI_B : plainFor (⟨"com/example/wirelens/wirelens/wire/VarintValuePinLaw", "junk", "(JJI)B"⟩ : MethodName) = true := by first | exact plainFor_of_name (by first | (simp [plainName, overriddenIn]; done) | decide +kernel) | exact Jvm.Free.JP.mathPlain rfl (by decide +kernel) | decide +kernel
theorem ef_rm1 (m : MethodId) (q0 : Int64) (q1 : Int64) (q2 : Int32) : entryFrame m #[(.long q0), (.long q1), (.int q2)] 5 = mkF m 0 #[.val (.long q0), .second, .val (.long q1), .second, iv q2] [] := by first | (simp [entryFrame, mkF, argsToLocals, Value.category]; done) | rfl
set_option maxRecDepth 65536 in
set_option maxHeartbeats 40000000 in
theorem rm1 (l : Launch) (Z : State) (a0 : Array Value) (hw : ∀ d ∈ tables_1, d.before a0 Z = true) (ws : List Jvm.Cond) (x0 : Int64) (x1 : Int64) (x2 : Int32) (h0 : Heap) :
    OwnC l Z (⟨"com/example/wirelens/wirelens/wire/VarintValuePinLaw", "junk", "(JJI)B"⟩ : MethodName) method_3_code 5 (some .byte) ws ({ frames := 0, cells := 0, slots := 0, locals := 0 } : Room) #[(.long x0), (.long x1), (.int x2)] h0 (fun v h L => (∃ z : Int32, v = some (.int z)) ∧ h = h0 ∧ L = []) := by
  refine own_entry pf_com_example_wirelens_wirelens_wire_VarintValuePinLaw_junk__JJI_B (fun m => ef_rm1 m x0 x1 x2) ?_
  intro p e s m below meth c T0 X0 hC e0
  obtain ⟨hx, hby, hml, hown, hnm, hret, hlk, hZ⟩ := hC
  refine own_go T0 m 2 #[.val (.long x0), .second, .val (.long x1), .second, iv x2] [(.int x2)] (fun t k => XS.iload X0.here hx rfl (hb hby d1_0) rfl k) ?_
  refine own_go T0 m 4 #[.val (.long x0), .second, .val (.long x1), .second, iv x2] [(.int 8), (.int x2)] (fun t k => XS.bipush X0.here hx rfl (hb hby d1_2) k) ?_
  by_cases hc4_1 : x2 < (8 : Int32)
  · refine own_go T0 m 7 #[.val (.long x0), .second, .val (.long x1), .second, iv x2] [] (fun t k => XS.icmpNo X0.here hx rfl (hb hby d1_4) rfl (tlt hc4_1).2.1 k) ?_
    refine own_go T0 m 8 #[.val (.long x0), .second, .val (.long x1), .second, iv x2] [(.long x0)] (fun t k => XS.lloadN X0.here hx rfl (hb hby d1_7) rfl k) ?_
    refine own_go T0 m 10 #[.val (.long x0), .second, .val (.long x1), .second, iv x2] [(.int 8), (.long x0)] (fun t k => XS.bipush X0.here hx rfl (hb hby d1_8) k) ?_
    refine own_go T0 m 12 #[.val (.long x0), .second, .val (.long x1), .second, iv x2] [(.int x2), (.int 8), (.long x0)] (fun t k => XS.iload X0.here hx rfl (hb hby d1_10) rfl k) ?_
    refine own_go T0 m 13 #[.val (.long x0), .second, .val (.long x1), .second, iv x2] [(.int ((8 : Int32) * x2)), (.long x0)] (fun t k => XS.imul X0.here hx rfl (hb hby d1_12) rfl k) ?_
    refine own_go T0 m 14 #[.val (.long x0), .second, .val (.long x1), .second, iv x2] [(.long ((x0.toUInt64 >>> (((8 : Int32) * x2) &&& 0x3f).toInt64.toUInt64).toInt64))] (fun t k => XS.lushr X0.here hx rfl (hb hby d1_13) rfl k) ?_
    refine own_go T0 m 27 #[.val (.long x0), .second, .val (.long x1), .second, iv x2] [(.long ((x0.toUInt64 >>> (((8 : Int32) * x2) &&& 0x3f).toInt64.toUInt64).toInt64))] (fun t k => XS.goto X0.here hx rfl (pc0 := 14) (pc' := 27) rfl (hb hby d1_14) (by decide) (by decide) k) ?_
    refine own_go T0 m 28 #[.val (.long x0), .second, .val (.long x1), .second, iv x2] [(.int ((x0.toUInt64 >>> (((8 : Int32) * x2) &&& 0x3f).toInt64.toUInt64).toInt64).toInt32)] (fun t k => XS.l2i X0.here hx rfl (hb hby d1_27) rfl k) ?_
    refine own_go T0 m 29 #[.val (.long x0), .second, .val (.long x1), .second, iv x2] [(.int ((x0.toUInt64 >>> (((8 : Int32) * x2) &&& 0x3f).toInt64.toUInt64).toInt64).toInt32.toInt8.toInt32)] (fun t k => XS.i2b X0.here hx rfl (hb hby d1_28) rfl k) ?_
    refine own_retB X0 hx hlk hret (XT.narrow_b _) (hb hby d1_29) (by decide) (by decide) ?_
    exact ⟨⟨_, rfl⟩, e0, rfl⟩
  · refine own_go T0 m 17 #[.val (.long x0), .second, .val (.long x1), .second, iv x2] [] (fun t k => XS.icmpYes X0.here hx rfl (pc0 := 4) (pc' := 17) rfl (hb hby d1_4) rfl (flt hc4_1).2.1 (by decide) (by decide) k) ?_
    refine own_go T0 m 18 #[.val (.long x0), .second, .val (.long x1), .second, iv x2] [(.long x1)] (fun t k => XS.lloadN X0.here hx rfl (hb hby d1_17) rfl k) ?_
    refine own_go T0 m 20 #[.val (.long x0), .second, .val (.long x1), .second, iv x2] [(.int 8), (.long x1)] (fun t k => XS.bipush X0.here hx rfl (hb hby d1_18) k) ?_
    refine own_go T0 m 22 #[.val (.long x0), .second, .val (.long x1), .second, iv x2] [(.int x2), (.int 8), (.long x1)] (fun t k => XS.iload X0.here hx rfl (hb hby d1_20) rfl k) ?_
    refine own_go T0 m 24 #[.val (.long x0), .second, .val (.long x1), .second, iv x2] [(.int 8), (.int x2), (.int 8), (.long x1)] (fun t k => XS.bipush X0.here hx rfl (hb hby d1_22) k) ?_
    refine own_go T0 m 25 #[.val (.long x0), .second, .val (.long x1), .second, iv x2] [(.int (x2 - (8 : Int32))), (.int 8), (.long x1)] (fun t k => XS.isub X0.here hx rfl (hb hby d1_24) rfl k) ?_
    refine own_go T0 m 26 #[.val (.long x0), .second, .val (.long x1), .second, iv x2] [(.int ((8 : Int32) * (x2 - (8 : Int32)))), (.long x1)] (fun t k => XS.imul X0.here hx rfl (hb hby d1_25) rfl k) ?_
    refine own_go T0 m 27 #[.val (.long x0), .second, .val (.long x1), .second, iv x2] [(.long ((x1.toUInt64 >>> (((8 : Int32) * (x2 - (8 : Int32))) &&& 0x3f).toInt64.toUInt64).toInt64))] (fun t k => XS.lushr X0.here hx rfl (hb hby d1_26) rfl k) ?_
    refine own_go T0 m 28 #[.val (.long x0), .second, .val (.long x1), .second, iv x2] [(.int ((x1.toUInt64 >>> (((8 : Int32) * (x2 - (8 : Int32))) &&& 0x3f).toInt64.toUInt64).toInt64).toInt32)] (fun t k => XS.l2i X0.here hx rfl (hb hby d1_27) rfl k) ?_
    refine own_go T0 m 29 #[.val (.long x0), .second, .val (.long x1), .second, iv x2] [(.int ((x1.toUInt64 >>> (((8 : Int32) * (x2 - (8 : Int32))) &&& 0x3f).toInt64.toUInt64).toInt64).toInt32.toInt8.toInt32)] (fun t k => XS.i2b X0.here hx rfl (hb hby d1_28) rfl k) ?_
    refine own_retB X0 hx hlk hret (XT.narrow_b _) (hb hby d1_29) (by decide) (by decide) ?_
    exact ⟨⟨_, rfl⟩, e0, rfl⟩
theorem d2_0 : decode method_4_code 0 = .ok (.iload 5, 2) := by decide +kernel
theorem d2_2 : decode method_4_code 2 = .ok (.iload 4, 2) := by decide +kernel
theorem d2_4 : decode method_4_code 4 = .ok (.if_icmp .ge 46, 3) := by decide +kernel
theorem d2_7 : decode method_4_code 7 = .ok (.lload_n 2, 1) := by decide +kernel
theorem d2_8 : decode method_4_code 8 = .ok (.bipush 7, 2) := by decide +kernel
theorem d2_10 : decode method_4_code 10 = .ok (.iload 5, 2) := by decide +kernel
theorem d2_12 : decode method_4_code 12 = .ok (.imul, 1) := by decide +kernel
theorem d2_13 : decode method_4_code 13 = .ok (.lushr, 1) := by decide +kernel
theorem d2_14 : decode method_4_code 14 = .ok (.lstore 6, 2) := by decide +kernel
theorem d2_16 : decode method_4_code 16 = .ok (.aload_n 0, 1) := by decide +kernel
theorem d2_17 : decode method_4_code 17 = .ok (.iload_n 1, 1) := by decide +kernel
theorem d2_18 : decode method_4_code 18 = .ok (.iload 5, 2) := by decide +kernel
theorem d2_20 : decode method_4_code 20 = .ok (.iadd, 1) := by decide +kernel
theorem d2_21 : decode method_4_code 21 = .ok (.iload 5, 2) := by decide +kernel
theorem d2_23 : decode method_4_code 23 = .ok (.iload 4, 2) := by decide +kernel
theorem d2_25 : decode method_4_code 25 = .ok (.iconst 1, 1) := by decide +kernel
theorem d2_26 : decode method_4_code 26 = .ok (.isub, 1) := by decide +kernel
theorem d2_27 : decode method_4_code 27 = .ok (.if_icmp .ge 18, 3) := by decide +kernel
theorem d2_30 : decode method_4_code 30 = .ok (.lload 6, 2) := by decide +kernel
theorem d2_32 : decode method_4_code 32 = .ok (.ldc2_w 24, 3) := by decide +kernel
theorem d2_35 : decode method_4_code 35 = .ok (.land, 1) := by decide +kernel
theorem d2_36 : decode method_4_code 36 = .ok (.ldc2_w 26, 3) := by decide +kernel
theorem d2_39 : decode method_4_code 39 = .ok (.lor, 1) := by decide +kernel
theorem d2_40 : decode method_4_code 40 = .ok (.l2i, 1) := by decide +kernel
theorem d2_41 : decode method_4_code 41 = .ok (.i2b, 1) := by decide +kernel
theorem d2_42 : decode method_4_code 42 = .ok (.goto 7, 3) := by decide +kernel
theorem d2_45 : decode method_4_code 45 = .ok (.lload 6, 2) := by decide +kernel
theorem d2_47 : decode method_4_code 47 = .ok (.l2i, 1) := by decide +kernel
theorem d2_48 : decode method_4_code 48 = .ok (.i2b, 1) := by decide +kernel
theorem d2_49 : decode method_4_code 49 = .ok (.bastore, 1) := by decide +kernel
theorem d2_50 : decode method_4_code 50 = .ok (.return_, 1) := by decide +kernel
theorem pf_com_example_wirelens_wirelens_wire_VarintValuePinLaw_put___BIJII_V : plainFor (⟨"com/example/wirelens/wirelens/wire/VarintValuePinLaw", "put", "([BIJII)V"⟩ : MethodName) = true := by first | exact plainFor_of_name (by first | (simp [plainName, overriddenIn]; done) | decide +kernel) | exact Jvm.Free.JP.mathPlain rfl (by decide +kernel) | decide +kernel
theorem ef_rm2 (m : MethodId) (q0 : Addr) (q1 : Int32) (q2 : Int64) (q3 : Int32) (q4 : Int32) : entryFrame m #[(.ref q0), (.int q1), (.long q2), (.int q3), (.int q4)] 8 = mkF m 0 #[rv q0, iv q1, .val (.long q2), .second, iv q3, iv q4, .unset, .unset] [] := by first | (simp [entryFrame, mkF, argsToLocals, Value.category]; done) | rfl
set_option maxRecDepth 65536 in
set_option maxHeartbeats 40000000 in
theorem rm2 (l : Launch) (Z : State) (a0 : Array Value) (hw : ∀ d ∈ tables_1, d.before a0 Z = true) (ws : List Jvm.Cond) (x0 : Addr) (x2 : Int64) (on Ln i : Nat) (kp : ClassId) (vs : List Value) (h0 : Heap) (n0 : Nat) (Z0 : n0 ≤ h0.size) (g_x0 : n0 ≤ x0) (hon : on ≤ 3) (hLn : 1 ≤ Ln ∧ Ln ≤ 10) (hi : i ≤ 9) (hl : vs.length = 16) (Vp : Arv Z h0 x0 kp .byte 16 vs (.int 0)) :
    OwnC l Z (⟨"com/example/wirelens/wirelens/wire/VarintValuePinLaw", "put", "([BIJII)V"⟩ : MethodName) method_4_code 8 none ws ({ frames := 0, cells := 0, slots := 0, locals := 0 } : Room) #[(.ref x0), (.int (Int32.ofNat on)), (.long x2), (.int (Int32.ofNat Ln)), (.int (Int32.ofNat i))] h0 (fun v h L => v = none ∧ Fr n0 L ∧ Keep h0 h [x0] ∧ Arv Z h x0 kp .byte 16 (own_putv vs on x2 Ln i) (.int 0)) := by
  refine own_entry pf_com_example_wirelens_wirelens_wire_VarintValuePinLaw_put___BIJII_V (fun m => ef_rm2 m x0 (Int32.ofNat on) x2 (Int32.ofNat Ln) (Int32.ofNat i)) ?_
  intro p e s m below meth c T0 X0 hC e0
  obtain ⟨hx, hby, hml, hown, hnm, hret, hlk, hZ⟩ := hC
  have N0 := Fr.nil n0
  have K0 := Keep.refl h0 [x0]
  refine own_go T0 m 2 #[rv x0, iv (Int32.ofNat on), .val (.long x2), .second, iv (Int32.ofNat Ln), iv (Int32.ofNat i), .unset, .unset] [(.int (Int32.ofNat i))] (fun t k => XS.iload X0.here hx rfl (hb hby d2_0) rfl k) ?_
  refine own_go T0 m 4 #[rv x0, iv (Int32.ofNat on), .val (.long x2), .second, iv (Int32.ofNat Ln), iv (Int32.ofNat i), .unset, .unset] [(.int (Int32.ofNat Ln)), (.int (Int32.ofNat i))] (fun t k => XS.iload X0.here hx rfl (hb hby d2_2) rfl k) ?_
  by_cases hiL : i < Ln
  · have hq4 := (own_lt i Ln (by omega) (by omega)).mpr hiL
    refine own_go T0 m 7 #[rv x0, iv (Int32.ofNat on), .val (.long x2), .second, iv (Int32.ofNat Ln), iv (Int32.ofNat i), .unset, .unset] [] (fun t k => XS.icmpNo X0.here hx rfl (hb hby d2_4) rfl (tlt hq4).2.1 k) ?_
    refine own_go T0 m 8 #[rv x0, iv (Int32.ofNat on), .val (.long x2), .second, iv (Int32.ofNat Ln), iv (Int32.ofNat i), .unset, .unset] [(.long x2)] (fun t k => XS.lloadN X0.here hx rfl (hb hby d2_7) rfl k) ?_
    refine own_go T0 m 10 #[rv x0, iv (Int32.ofNat on), .val (.long x2), .second, iv (Int32.ofNat Ln), iv (Int32.ofNat i), .unset, .unset] [(.int 7), (.long x2)] (fun t k => XS.bipush X0.here hx rfl (hb hby d2_8) k) ?_
    refine own_go T0 m 12 #[rv x0, iv (Int32.ofNat on), .val (.long x2), .second, iv (Int32.ofNat Ln), iv (Int32.ofNat i), .unset, .unset] [(.int (Int32.ofNat i)), (.int 7), (.long x2)] (fun t k => XS.iload X0.here hx rfl (hb hby d2_10) rfl k) ?_
    refine own_go T0 m 13 #[rv x0, iv (Int32.ofNat on), .val (.long x2), .second, iv (Int32.ofNat Ln), iv (Int32.ofNat i), .unset, .unset] [(.int ((7 : Int32) * (Int32.ofNat i))), (.long x2)] (fun t k => XS.imul X0.here hx rfl (hb hby d2_12) rfl k) ?_
    refine own_go T0 m 14 #[rv x0, iv (Int32.ofNat on), .val (.long x2), .second, iv (Int32.ofNat Ln), iv (Int32.ofNat i), .unset, .unset] [(.long ((x2.toUInt64 >>> (((7 : Int32) * (Int32.ofNat i)) &&& 0x3f).toInt64.toUInt64).toInt64))] (fun t k => XS.lushr X0.here hx rfl (hb hby d2_13) rfl k) ?_
    refine own_go T0 m 16 #[rv x0, iv (Int32.ofNat on), .val (.long x2), .second, iv (Int32.ofNat Ln), iv (Int32.ofNat i), .val (.long ((x2.toUInt64 >>> (((7 : Int32) * (Int32.ofNat i)) &&& 0x3f).toInt64.toUInt64).toInt64)), .second] [] (fun t k => XS.lstore X0.here hx rfl (hb hby d2_14) rfl rfl k) ?_
    refine own_go T0 m 17 #[rv x0, iv (Int32.ofNat on), .val (.long x2), .second, iv (Int32.ofNat Ln), iv (Int32.ofNat i), .val (.long ((x2.toUInt64 >>> (((7 : Int32) * (Int32.ofNat i)) &&& 0x3f).toInt64.toUInt64).toInt64)), .second] [(.ref x0)] (fun t k => XS.aloadN X0.here hx rfl (hb hby d2_16) rfl rfl k) ?_
    refine own_go T0 m 18 #[rv x0, iv (Int32.ofNat on), .val (.long x2), .second, iv (Int32.ofNat Ln), iv (Int32.ofNat i), .val (.long ((x2.toUInt64 >>> (((7 : Int32) * (Int32.ofNat i)) &&& 0x3f).toInt64.toUInt64).toInt64)), .second] [(.int (Int32.ofNat on)), (.ref x0)] (fun t k => XS.iloadN X0.here hx rfl (hb hby d2_17) rfl k) ?_
    refine own_go T0 m 20 #[rv x0, iv (Int32.ofNat on), .val (.long x2), .second, iv (Int32.ofNat Ln), iv (Int32.ofNat i), .val (.long ((x2.toUInt64 >>> (((7 : Int32) * (Int32.ofNat i)) &&& 0x3f).toInt64.toUInt64).toInt64)), .second] [(.int (Int32.ofNat i)), (.int (Int32.ofNat on)), (.ref x0)] (fun t k => XS.iload X0.here hx rfl (hb hby d2_18) rfl k) ?_
    refine own_go T0 m 21 #[rv x0, iv (Int32.ofNat on), .val (.long x2), .second, iv (Int32.ofNat Ln), iv (Int32.ofNat i), .val (.long ((x2.toUInt64 >>> (((7 : Int32) * (Int32.ofNat i)) &&& 0x3f).toInt64.toUInt64).toInt64)), .second] [(.int ((Int32.ofNat on) + (Int32.ofNat i))), (.ref x0)] (fun t k => XS.iadd X0.here hx rfl (hb hby d2_20) rfl k) ?_
    refine own_go T0 m 23 #[rv x0, iv (Int32.ofNat on), .val (.long x2), .second, iv (Int32.ofNat Ln), iv (Int32.ofNat i), .val (.long ((x2.toUInt64 >>> (((7 : Int32) * (Int32.ofNat i)) &&& 0x3f).toInt64.toUInt64).toInt64)), .second] [(.int (Int32.ofNat i)), (.int ((Int32.ofNat on) + (Int32.ofNat i))), (.ref x0)] (fun t k => XS.iload X0.here hx rfl (hb hby d2_21) rfl k) ?_
    refine own_go T0 m 25 #[rv x0, iv (Int32.ofNat on), .val (.long x2), .second, iv (Int32.ofNat Ln), iv (Int32.ofNat i), .val (.long ((x2.toUInt64 >>> (((7 : Int32) * (Int32.ofNat i)) &&& 0x3f).toInt64.toUInt64).toInt64)), .second] [(.int (Int32.ofNat Ln)), (.int (Int32.ofNat i)), (.int ((Int32.ofNat on) + (Int32.ofNat i))), (.ref x0)] (fun t k => XS.iload X0.here hx rfl (hb hby d2_23) rfl k) ?_
    refine own_go T0 m 26 #[rv x0, iv (Int32.ofNat on), .val (.long x2), .second, iv (Int32.ofNat Ln), iv (Int32.ofNat i), .val (.long ((x2.toUInt64 >>> (((7 : Int32) * (Int32.ofNat i)) &&& 0x3f).toInt64.toUInt64).toInt64)), .second] [(.int 1), (.int (Int32.ofNat Ln)), (.int (Int32.ofNat i)), (.int ((Int32.ofNat on) + (Int32.ofNat i))), (.ref x0)] (fun t k => XS.iconst X0.here hx rfl (hb hby d2_25) k) ?_
    refine own_go T0 m 27 #[rv x0, iv (Int32.ofNat on), .val (.long x2), .second, iv (Int32.ofNat Ln), iv (Int32.ofNat i), .val (.long ((x2.toUInt64 >>> (((7 : Int32) * (Int32.ofNat i)) &&& 0x3f).toInt64.toUInt64).toInt64)), .second] [(.int ((Int32.ofNat Ln) - (1 : Int32))), (.int (Int32.ofNat i)), (.int ((Int32.ofNat on) + (Int32.ofNat i))), (.ref x0)] (fun t k => XS.isub X0.here hx rfl (hb hby d2_26) rfl k) ?_
    by_cases hiP : i + 1 < Ln
    · have hq27 := (own_pred i Ln (by omega) (by omega) (by omega)).mpr hiP
      refine own_go T0 m 30 #[rv x0, iv (Int32.ofNat on), .val (.long x2), .second, iv (Int32.ofNat Ln), iv (Int32.ofNat i), .val (.long ((x2.toUInt64 >>> (((7 : Int32) * (Int32.ofNat i)) &&& 0x3f).toInt64.toUInt64).toInt64)), .second] [(.int ((Int32.ofNat on) + (Int32.ofNat i))), (.ref x0)] (fun t k => XS.icmpNo X0.here hx rfl (hb hby d2_27) rfl (tlt hq27).2.1 k) ?_
      refine own_go T0 m 32 #[rv x0, iv (Int32.ofNat on), .val (.long x2), .second, iv (Int32.ofNat Ln), iv (Int32.ofNat i), .val (.long ((x2.toUInt64 >>> (((7 : Int32) * (Int32.ofNat i)) &&& 0x3f).toInt64.toUInt64).toInt64)), .second] [(.long ((x2.toUInt64 >>> (((7 : Int32) * (Int32.ofNat i)) &&& 0x3f).toInt64.toUInt64).toInt64)), (.int ((Int32.ofNat on) + (Int32.ofNat i))), (.ref x0)] (fun t k => XS.lload X0.here hx rfl (hb hby d2_30) rfl k) ?_
      refine own_go T0 m 35 #[rv x0, iv (Int32.ofNat on), .val (.long x2), .second, iv (Int32.ofNat Ln), iv (Int32.ofNat i), .val (.long ((x2.toUInt64 >>> (((7 : Int32) * (Int32.ofNat i)) &&& 0x3f).toInt64.toUInt64).toInt64)), .second] [(.long 127), (.long ((x2.toUInt64 >>> (((7 : Int32) * (Int32.ofNat i)) &&& 0x3f).toInt64.toUInt64).toInt64)), (.int ((Int32.ofNat on) + (Int32.ofNat i))), (.ref x0)] (X0.ldc2Long hx hown (mvT hZ (own_w hw 9 rfl)) (g := (mkF m 32 #[rv x0, iv (Int32.ofNat on), .val (.long x2), .second, iv (Int32.ofNat Ln), iv (Int32.ofNat i), .val (.long ((x2.toUInt64 >>> (((7 : Int32) * (Int32.ofNat i)) &&& 0x3f).toInt64.toUInt64).toInt64)), .second] [(.long ((x2.toUInt64 >>> (((7 : Int32) * (Int32.ofNat i)) &&& 0x3f).toInt64.toUInt64).toInt64)), (.int ((Int32.ofNat on) + (Int32.ofNat i))), (.ref x0)])) rfl (hb hby d2_32)) ?_
      refine own_go T0 m 36 #[rv x0, iv (Int32.ofNat on), .val (.long x2), .second, iv (Int32.ofNat Ln), iv (Int32.ofNat i), .val (.long ((x2.toUInt64 >>> (((7 : Int32) * (Int32.ofNat i)) &&& 0x3f).toInt64.toUInt64).toInt64)), .second] [(.long (((x2.toUInt64 >>> (((7 : Int32) * (Int32.ofNat i)) &&& 0x3f).toInt64.toUInt64).toInt64) &&& (127 : Int64))), (.int ((Int32.ofNat on) + (Int32.ofNat i))), (.ref x0)] (fun t k => XS.land X0.here hx rfl (hb hby d2_35) rfl k) ?_
      refine own_go T0 m 39 #[rv x0, iv (Int32.ofNat on), .val (.long x2), .second, iv (Int32.ofNat Ln), iv (Int32.ofNat i), .val (.long ((x2.toUInt64 >>> (((7 : Int32) * (Int32.ofNat i)) &&& 0x3f).toInt64.toUInt64).toInt64)), .second] [(.long 128), (.long (((x2.toUInt64 >>> (((7 : Int32) * (Int32.ofNat i)) &&& 0x3f).toInt64.toUInt64).toInt64) &&& (127 : Int64))), (.int ((Int32.ofNat on) + (Int32.ofNat i))), (.ref x0)] (X0.ldc2Long hx hown (mvT hZ (own_w hw 10 rfl)) (g := (mkF m 36 #[rv x0, iv (Int32.ofNat on), .val (.long x2), .second, iv (Int32.ofNat Ln), iv (Int32.ofNat i), .val (.long ((x2.toUInt64 >>> (((7 : Int32) * (Int32.ofNat i)) &&& 0x3f).toInt64.toUInt64).toInt64)), .second] [(.long (((x2.toUInt64 >>> (((7 : Int32) * (Int32.ofNat i)) &&& 0x3f).toInt64.toUInt64).toInt64) &&& (127 : Int64))), (.int ((Int32.ofNat on) + (Int32.ofNat i))), (.ref x0)])) rfl (hb hby d2_36)) ?_
      refine own_go T0 m 40 #[rv x0, iv (Int32.ofNat on), .val (.long x2), .second, iv (Int32.ofNat Ln), iv (Int32.ofNat i), .val (.long ((x2.toUInt64 >>> (((7 : Int32) * (Int32.ofNat i)) &&& 0x3f).toInt64.toUInt64).toInt64)), .second] [(.long ((((x2.toUInt64 >>> (((7 : Int32) * (Int32.ofNat i)) &&& 0x3f).toInt64.toUInt64).toInt64) &&& (127 : Int64)) ||| (128 : Int64))), (.int ((Int32.ofNat on) + (Int32.ofNat i))), (.ref x0)] (fun t k => XS.lor X0.here hx rfl (hb hby d2_39) rfl k) ?_
      refine own_go T0 m 41 #[rv x0, iv (Int32.ofNat on), .val (.long x2), .second, iv (Int32.ofNat Ln), iv (Int32.ofNat i), .val (.long ((x2.toUInt64 >>> (((7 : Int32) * (Int32.ofNat i)) &&& 0x3f).toInt64.toUInt64).toInt64)), .second] [(.int ((((x2.toUInt64 >>> (((7 : Int32) * (Int32.ofNat i)) &&& 0x3f).toInt64.toUInt64).toInt64) &&& (127 : Int64)) ||| (128 : Int64)).toInt32), (.int ((Int32.ofNat on) + (Int32.ofNat i))), (.ref x0)] (fun t k => XS.l2i X0.here hx rfl (hb hby d2_40) rfl k) ?_
      refine own_go T0 m 42 #[rv x0, iv (Int32.ofNat on), .val (.long x2), .second, iv (Int32.ofNat Ln), iv (Int32.ofNat i), .val (.long ((x2.toUInt64 >>> (((7 : Int32) * (Int32.ofNat i)) &&& 0x3f).toInt64.toUInt64).toInt64)), .second] [(.int ((((x2.toUInt64 >>> (((7 : Int32) * (Int32.ofNat i)) &&& 0x3f).toInt64.toUInt64).toInt64) &&& (127 : Int64)) ||| (128 : Int64)).toInt32.toInt8.toInt32), (.int ((Int32.ofNat on) + (Int32.ofNat i))), (.ref x0)] (fun t k => XS.i2b X0.here hx rfl (hb hby d2_41) rfl k) ?_
      refine own_go T0 m 49 #[rv x0, iv (Int32.ofNat on), .val (.long x2), .second, iv (Int32.ofNat Ln), iv (Int32.ofNat i), .val (.long ((x2.toUInt64 >>> (((7 : Int32) * (Int32.ofNat i)) &&& 0x3f).toInt64.toUInt64).toInt64)), .second] [(.int ((((x2.toUInt64 >>> (((7 : Int32) * (Int32.ofNat i)) &&& 0x3f).toInt64.toUInt64).toInt64) &&& (127 : Int64)) ||| (128 : Int64)).toInt32.toInt8.toInt32), (.int ((Int32.ofNat on) + (Int32.ofNat i))), (.ref x0)] (fun t k => XS.goto X0.here hx rfl (pc0 := 42) (pc' := 49) rfl (hb hby d2_42) (by decide) (by decide) k) ?_
      rw [own_add on i]
      obtain ⟨T1, h1, X1, e1, W1, V1, st1⟩ := own_bastore X0 hx hZ e0 Vp (j := (Int32.ofNat (on + i))) (own_in16 (on + i) (by omega)) (on + i) (clamp_of rfl (by omega)) (by omega) (Ls := #[rv x0, iv (Int32.ofNat on), .val (.long x2), .second, iv (Int32.ofNat Ln), iv (Int32.ofNat i), .val (.long ((x2.toUInt64 >>> (((7 : Int32) * (Int32.ofNat i)) &&& 0x3f).toInt64.toUInt64).toInt64)), .second]) (rest := []) (x := ((((x2.toUInt64 >>> (((7 : Int32) * (Int32.ofNat i)) &&& 0x3f).toInt64.toUInt64).toInt64) &&& (127 : Int64)) ||| (128 : Int64)).toInt32.toInt8.toInt32) (hb hby d2_49)
      replace V1 : Arv Z h1 x0 kp .byte 16 (own_putv vs on x2 Ln i) (.int 0) := by
        rw [show own_putv vs on x2 Ln i = vs.set (on + i) (.int (own_byte x2 Ln i)) from if_pos hiL]
        rw [show own_byte x2 Ln i = ((((x2.toUInt64 >>> (((7 : Int32) * (Int32.ofNat i)) &&& 0x3f).toInt64.toUInt64).toInt64) &&& (127 : Int64)) ||| (128 : Int64)).toInt32.toInt8.toInt32.toInt8.toInt32 from congrArg (fun q : Int32 => q.toInt8.toInt32) (if_pos hiP)]
        exact V1
      have Z_1 : n0 ≤ h1.size := Nat.le_trans Z0 (Keep.of_wr W1).1
      have K_1 : Keep h0 h1 [x0] := K0.wr W1 (own_i 0 rfl)
      have N1 := Fr.snoc X1 N0 g_x0
      refine own_go T1 m 50 #[rv x0, iv (Int32.ofNat on), .val (.long x2), .second, iv (Int32.ofNat Ln), iv (Int32.ofNat i), .val (.long ((x2.toUInt64 >>> (((7 : Int32) * (Int32.ofNat i)) &&& 0x3f).toInt64.toUInt64).toInt64)), .second] [] (st1) ?_
      refine own_retV X1 hx hlk hret (hb hby d2_50) (by decide) (by decide) ?_
      rw [e1]
      exact ⟨rfl, N1, K_1, V1⟩
    · have hq27 := mt (own_pred i Ln (by omega) (by omega) (by omega)).mp hiP
      refine own_go T0 m 45 #[rv x0, iv (Int32.ofNat on), .val (.long x2), .second, iv (Int32.ofNat Ln), iv (Int32.ofNat i), .val (.long ((x2.toUInt64 >>> (((7 : Int32) * (Int32.ofNat i)) &&& 0x3f).toInt64.toUInt64).toInt64)), .second] [(.int ((Int32.ofNat on) + (Int32.ofNat i))), (.ref x0)] (fun t k => XS.icmpYes X0.here hx rfl (pc0 := 27) (pc' := 45) rfl (hb hby d2_27) rfl (flt hq27).2.1 (by decide) (by decide) k) ?_
      refine own_go T0 m 47 #[rv x0, iv (Int32.ofNat on), .val (.long x2), .second, iv (Int32.ofNat Ln), iv (Int32.ofNat i), .val (.long ((x2.toUInt64 >>> (((7 : Int32) * (Int32.ofNat i)) &&& 0x3f).toInt64.toUInt64).toInt64)), .second] [(.long ((x2.toUInt64 >>> (((7 : Int32) * (Int32.ofNat i)) &&& 0x3f).toInt64.toUInt64).toInt64)), (.int ((Int32.ofNat on) + (Int32.ofNat i))), (.ref x0)] (fun t k => XS.lload X0.here hx rfl (hb hby d2_45) rfl k) ?_
      refine own_go T0 m 48 #[rv x0, iv (Int32.ofNat on), .val (.long x2), .second, iv (Int32.ofNat Ln), iv (Int32.ofNat i), .val (.long ((x2.toUInt64 >>> (((7 : Int32) * (Int32.ofNat i)) &&& 0x3f).toInt64.toUInt64).toInt64)), .second] [(.int ((x2.toUInt64 >>> (((7 : Int32) * (Int32.ofNat i)) &&& 0x3f).toInt64.toUInt64).toInt64).toInt32), (.int ((Int32.ofNat on) + (Int32.ofNat i))), (.ref x0)] (fun t k => XS.l2i X0.here hx rfl (hb hby d2_47) rfl k) ?_
      refine own_go T0 m 49 #[rv x0, iv (Int32.ofNat on), .val (.long x2), .second, iv (Int32.ofNat Ln), iv (Int32.ofNat i), .val (.long ((x2.toUInt64 >>> (((7 : Int32) * (Int32.ofNat i)) &&& 0x3f).toInt64.toUInt64).toInt64)), .second] [(.int ((x2.toUInt64 >>> (((7 : Int32) * (Int32.ofNat i)) &&& 0x3f).toInt64.toUInt64).toInt64).toInt32.toInt8.toInt32), (.int ((Int32.ofNat on) + (Int32.ofNat i))), (.ref x0)] (fun t k => XS.i2b X0.here hx rfl (hb hby d2_48) rfl k) ?_
      rw [own_add on i]
      obtain ⟨T2, h2, X2, e2, W2, V2, st2⟩ := own_bastore X0 hx hZ e0 Vp (j := (Int32.ofNat (on + i))) (own_in16 (on + i) (by omega)) (on + i) (clamp_of rfl (by omega)) (by omega) (Ls := #[rv x0, iv (Int32.ofNat on), .val (.long x2), .second, iv (Int32.ofNat Ln), iv (Int32.ofNat i), .val (.long ((x2.toUInt64 >>> (((7 : Int32) * (Int32.ofNat i)) &&& 0x3f).toInt64.toUInt64).toInt64)), .second]) (rest := []) (x := ((x2.toUInt64 >>> (((7 : Int32) * (Int32.ofNat i)) &&& 0x3f).toInt64.toUInt64).toInt64).toInt32.toInt8.toInt32) (hb hby d2_49)
      replace V2 : Arv Z h2 x0 kp .byte 16 (own_putv vs on x2 Ln i) (.int 0) := by
        rw [show own_putv vs on x2 Ln i = vs.set (on + i) (.int (own_byte x2 Ln i)) from if_pos hiL]
        rw [show own_byte x2 Ln i = ((x2.toUInt64 >>> (((7 : Int32) * (Int32.ofNat i)) &&& 0x3f).toInt64.toUInt64).toInt64).toInt32.toInt8.toInt32.toInt8.toInt32 from congrArg (fun q : Int32 => q.toInt8.toInt32) (if_neg hiP)]
        exact V2
      have Z_2 : n0 ≤ h2.size := Nat.le_trans Z0 (Keep.of_wr W2).1
      have K_2 : Keep h0 h2 [x0] := K0.wr W2 (own_i 0 rfl)
      have N2 := Fr.snoc X2 N0 g_x0
      refine own_go T2 m 50 #[rv x0, iv (Int32.ofNat on), .val (.long x2), .second, iv (Int32.ofNat Ln), iv (Int32.ofNat i), .val (.long ((x2.toUInt64 >>> (((7 : Int32) * (Int32.ofNat i)) &&& 0x3f).toInt64.toUInt64).toInt64)), .second] [] (st2) ?_
      refine own_retV X2 hx hlk hret (hb hby d2_50) (by decide) (by decide) ?_
      rw [e2]
      exact ⟨rfl, N2, K_2, V2⟩
  · have hq4 := mt (own_lt i Ln (by omega) (by omega)).mp hiL
    refine own_go T0 m 50 #[rv x0, iv (Int32.ofNat on), .val (.long x2), .second, iv (Int32.ofNat Ln), iv (Int32.ofNat i), .unset, .unset] [] (fun t k => XS.icmpYes X0.here hx rfl (pc0 := 4) (pc' := 50) rfl (hb hby d2_4) rfl (flt hq4).2.1 (by decide) (by decide) k) ?_
    refine own_retV X0 hx hlk hret (hb hby d2_50) (by decide) (by decide) ?_
    rw [e0]
    exact ⟨rfl, N0, K0, by rw [show own_putv vs on x2 Ln i = vs from if_neg hiL]; exact Vp⟩
theorem d3_0 : decode prog_57_method_9_code 0 = .ok (.lconst 0, 1) := by decide +kernel
theorem d3_1 : decode prog_57_method_9_code 1 = .ok (.lstore_n 3, 1) := by decide +kernel
theorem d3_2 : decode prog_57_method_9_code 2 = .ok (.iload_n 2, 1) := by decide +kernel
theorem d3_3 : decode prog_57_method_9_code 3 = .ok (.iconst 1, 1) := by decide +kernel
theorem d3_4 : decode prog_57_method_9_code 4 = .ok (.if_icmp .ne 11, 3) := by decide +kernel
theorem d3_7 : decode prog_57_method_9_code 7 = .ok (.aload_n 0, 1) := by decide +kernel
theorem d3_8 : decode prog_57_method_9_code 8 = .ok (.iload_n 1, 1) := by decide +kernel
theorem d3_9 : decode prog_57_method_9_code 9 = .ok (.baload, 1) := by decide +kernel
theorem d3_10 : decode prog_57_method_9_code 10 = .ok (.i2l, 1) := by decide +kernel
theorem d3_11 : decode prog_57_method_9_code 11 = .ok (.lstore_n 3, 1) := by decide +kernel
theorem d3_12 : decode prog_57_method_9_code 12 = .ok (.goto 40, 3) := by decide +kernel
theorem d3_15 : decode prog_57_method_9_code 15 = .ok (.iconst 0, 1) := by decide +kernel
theorem d3_16 : decode prog_57_method_9_code 16 = .ok (.istore 5, 2) := by decide +kernel
theorem d3_18 : decode prog_57_method_9_code 18 = .ok (.iload_n 1, 1) := by decide +kernel
theorem d3_19 : decode prog_57_method_9_code 19 = .ok (.istore 6, 2) := by decide +kernel
theorem d3_21 : decode prog_57_method_9_code 21 = .ok (.iload 6, 2) := by decide +kernel
theorem d3_23 : decode prog_57_method_9_code 23 = .ok (.iload_n 1, 1) := by decide +kernel
theorem d3_24 : decode prog_57_method_9_code 24 = .ok (.iload_n 2, 1) := by decide +kernel
theorem d3_25 : decode prog_57_method_9_code 25 = .ok (.iadd, 1) := by decide +kernel
theorem d3_26 : decode prog_57_method_9_code 26 = .ok (.if_icmp .ge 26, 3) := by decide +kernel
theorem d3_29 : decode prog_57_method_9_code 29 = .ok (.lload_n 3, 1) := by decide +kernel
theorem d3_30 : decode prog_57_method_9_code 30 = .ok (.aload_n 0, 1) := by decide +kernel
theorem d3_31 : decode prog_57_method_9_code 31 = .ok (.iload 6, 2) := by decide +kernel
theorem d3_33 : decode prog_57_method_9_code 33 = .ok (.baload, 1) := by decide +kernel
theorem d3_34 : decode prog_57_method_9_code 34 = .ok (.bipush 127, 2) := by decide +kernel
theorem d3_36 : decode prog_57_method_9_code 36 = .ok (.iand, 1) := by decide +kernel
theorem d3_37 : decode prog_57_method_9_code 37 = .ok (.i2l, 1) := by decide +kernel
theorem d3_38 : decode prog_57_method_9_code 38 = .ok (.iload 5, 2) := by decide +kernel
theorem d3_40 : decode prog_57_method_9_code 40 = .ok (.lshl, 1) := by decide +kernel
theorem d3_41 : decode prog_57_method_9_code 41 = .ok (.lor, 1) := by decide +kernel
theorem d3_42 : decode prog_57_method_9_code 42 = .ok (.lstore_n 3, 1) := by decide +kernel
theorem d3_43 : decode prog_57_method_9_code 43 = .ok (.iinc 5 7, 3) := by decide +kernel
theorem d3_46 : decode prog_57_method_9_code 46 = .ok (.iinc 6 1, 3) := by decide +kernel
theorem d3_49 : decode prog_57_method_9_code 49 = .ok (.goto (-28), 3) := by decide +kernel
theorem d3_52 : decode prog_57_method_9_code 52 = .ok (.lload_n 3, 1) := by decide +kernel
theorem d3_53 : decode prog_57_method_9_code 53 = .ok (.lreturn, 1) := by decide +kernel
theorem pf_com_example_wirelens_wirelens_wire_Varint_value___BII_J : plainFor (⟨"com/example/wirelens/wirelens/wire/Varint", "value", "([BII)J"⟩ : MethodName) = true := by first | exact plainFor_of_name (by first | (simp [plainName, overriddenIn]; done) | decide +kernel) | exact Jvm.Free.JP.mathPlain rfl (by decide +kernel) | decide +kernel
theorem ef_rm3 (m : MethodId) (q0 : Addr) (q1 : Int32) (q2 : Int32) : entryFrame m #[(.ref q0), (.int q1), (.int q2)] 7 = mkF m 0 #[rv q0, iv q1, iv q2, .unset, .unset, .unset, .unset] [] := by first | (simp [entryFrame, mkF, argsToLocals, Value.category]; done) | rfl
set_option maxRecDepth 65536 in
set_option maxHeartbeats 40000000 in
theorem rm3 (l : Launch) (Z : State) (a0 : Array Value) (hw : ∀ d ∈ tables_1, d.before a0 Z = true) (ws : List Jvm.Cond) (x0 : Addr) (on Ln : Nat) (kp : ClassId) (vs : List Value) (f : Nat → Int32) (h0 : Heap) (hon : on ≤ 3) (hLn : 1 ≤ Ln ∧ Ln ≤ 10) (Vp : Arv Z h0 x0 kp .byte 16 vs (.int 0)) (hf : ∀ n, n < Ln → vs.getD (on + n) (.int 0) = .int (f n)) :
    OwnC l Z (⟨"com/example/wirelens/wirelens/wire/Varint", "value", "([BII)J"⟩ : MethodName) prog_57_method_9_code 7 (some .long) ws ({ frames := 0, cells := 0, slots := 0, locals := 0 } : Room) #[(.ref x0), (.int (Int32.ofNat on)), (.int (Int32.ofNat Ln))] h0 (OwnPure (.long (own_res f Ln)) h0) := by
  refine own_entry pf_com_example_wirelens_wirelens_wire_Varint_value___BII_J (fun m => ef_rm3 m x0 (Int32.ofNat on) (Int32.ofNat Ln)) ?_
  intro p e s m below meth c T0 X0 hC e0
  obtain ⟨hx, hby, hml, hown, hnm, hret, hlk, hZ⟩ := hC
  refine own_go T0 m 1 #[rv x0, iv (Int32.ofNat on), iv (Int32.ofNat Ln), .unset, .unset, .unset, .unset] [(.long 0)] (fun t k => XS.lconst X0.here hx rfl (hb hby d3_0) k) ?_
  refine own_go T0 m 2 #[rv x0, iv (Int32.ofNat on), iv (Int32.ofNat Ln), .val (.long 0), .second, .unset, .unset] [] (fun t k => XS.lstoreN X0.here hx rfl (hb hby d3_1) rfl rfl k) ?_
  refine own_go T0 m 3 #[rv x0, iv (Int32.ofNat on), iv (Int32.ofNat Ln), .val (.long 0), .second, .unset, .unset] [(.int (Int32.ofNat Ln))] (fun t k => XS.iloadN X0.here hx rfl (hb hby d3_2) rfl k) ?_
  refine own_go T0 m 4 #[rv x0, iv (Int32.ofNat on), iv (Int32.ofNat Ln), .val (.long 0), .second, .unset, .unset] [(.int 1), (.int (Int32.ofNat Ln))] (fun t k => XS.iconst X0.here hx rfl (hb hby d3_3) k) ?_
  by_cases hL1 : Ln = 1
  · have hq4 : (Int32.ofNat Ln) = (1 : Int32) := by rw [hL1]; rfl
    refine own_go T0 m 7 #[rv x0, iv (Int32.ofNat on), iv (Int32.ofNat Ln), .val (.long 0), .second, .unset, .unset] [] (fun t k => XS.icmpNo X0.here hx rfl (hb hby d3_4) rfl (teq hq4).2 k) ?_
    refine own_go T0 m 8 #[rv x0, iv (Int32.ofNat on), iv (Int32.ofNat Ln), .val (.long 0), .second, .unset, .unset] [(.ref x0)] (fun t k => XS.aloadN X0.here hx rfl (hb hby d3_7) rfl rfl k) ?_
    refine own_go T0 m 9 #[rv x0, iv (Int32.ofNat on), iv (Int32.ofNat Ln), .val (.long 0), .second, .unset, .unset] [(.int (Int32.ofNat on)), (.ref x0)] (fun t k => XS.iloadN X0.here hx rfl (hb hby d3_8) rfl k) ?_
    refine own_go T0 m 10 #[rv x0, iv (Int32.ofNat on), iv (Int32.ofNat Ln), .val (.long 0), .second, .unset, .unset] [(.int (f 0))] (own_baload X0 hx hZ e0 Vp (j := (Int32.ofNat on)) (own_in16 on (by omega)) (by rw [clamp_of rfl (by omega)]; exact hf 0 (by omega)) (hb hby d3_9)) ?_
    refine own_go T0 m 11 #[rv x0, iv (Int32.ofNat on), iv (Int32.ofNat Ln), .val (.long 0), .second, .unset, .unset] [(.long (f 0).toInt64)] (fun t k => XS.i2l X0.here hx rfl (hb hby d3_10) rfl k) ?_
    refine own_go T0 m 12 #[rv x0, iv (Int32.ofNat on), iv (Int32.ofNat Ln), .val (.long (f 0).toInt64), .second, .unset, .unset] [] (fun t k => XS.lstoreN X0.here hx rfl (hb hby d3_11) rfl rfl k) ?_
    refine own_go T0 m 52 #[rv x0, iv (Int32.ofNat on), iv (Int32.ofNat Ln), .val (.long (f 0).toInt64), .second, .unset, .unset] [] (fun t k => XS.goto X0.here hx rfl (pc0 := 12) (pc' := 52) rfl (hb hby d3_12) (by decide) (by decide) k) ?_
    refine own_go T0 m 53 #[rv x0, iv (Int32.ofNat on), iv (Int32.ofNat Ln), .val (.long (f 0).toInt64), .second, .unset, .unset] [(.long (f 0).toInt64)] (fun t k => XS.lloadN X0.here hx rfl (hb hby d3_52) rfl k) ?_
    refine own_retJ X0 hx hlk hret (hb hby d3_53) (by decide) (by decide) ?_
    refine ⟨?_, e0, rfl⟩
    rw [show own_res f Ln = (f 0).toInt64 from if_pos hL1]
  · have hq4 : ¬ (Int32.ofNat Ln) = (1 : Int32) := fun q => hL1 (own_one Ln (by omega) q)
    refine own_go T0 m 15 #[rv x0, iv (Int32.ofNat on), iv (Int32.ofNat Ln), .val (.long 0), .second, .unset, .unset] [] (fun t k => XS.icmpYes X0.here hx rfl (pc0 := 4) (pc' := 15) rfl (hb hby d3_4) rfl (feq hq4).2 (by decide) (by decide) k) ?_
    refine own_go T0 m 16 #[rv x0, iv (Int32.ofNat on), iv (Int32.ofNat Ln), .val (.long 0), .second, .unset, .unset] [(.int 0)] (fun t k => XS.iconst X0.here hx rfl (hb hby d3_15) k) ?_
    refine own_go T0 m 18 #[rv x0, iv (Int32.ofNat on), iv (Int32.ofNat Ln), .val (.long 0), .second, iv 0, .unset] [] (fun t k => XS.istore X0.here hx rfl (hb hby d3_16) rfl rfl k) ?_
    refine own_go T0 m 19 #[rv x0, iv (Int32.ofNat on), iv (Int32.ofNat Ln), .val (.long 0), .second, iv 0, .unset] [(.int (Int32.ofNat on))] (fun t k => XS.iloadN X0.here hx rfl (hb hby d3_18) rfl k) ?_
    refine own_go T0 m 21 #[rv x0, iv (Int32.ofNat on), iv (Int32.ofNat Ln), .val (.long 0), .second, iv 0, iv (Int32.ofNat on)] [] (fun t k => XS.istore X0.here hx rfl (hb hby d3_19) rfl rfl k) ?_
    have loop : ∀ (k n : Nat), n + k = Ln → OwnG p.tables e below s (OwnPure (.long (own_res f Ln)) h0) ({ frames := 0, cells := 0, slots := 0, locals := 0 } : Room).cells ({ frames := 0, cells := 0, slots := 0, locals := 0 } : Room).slots (T0.setTop (mkF m 21 #[rv x0, iv (Int32.ofNat on), iv (Int32.ofNat Ln), .val (.long (own_acc f n)), .second, iv (Int32.ofNat (7 * n)), iv (Int32.ofNat (on + n))] [])) := by
      intro k
      induction k with
      | zero =>
        intro n hn
        refine own_go T0 m 23 #[rv x0, iv (Int32.ofNat on), iv (Int32.ofNat Ln), .val (.long (own_acc f n)), .second, iv (Int32.ofNat (7 * n)), iv (Int32.ofNat (on + n))] [(.int (Int32.ofNat (on + n)))] (fun t k => XS.iload X0.here hx rfl (hb hby d3_21) rfl k) ?_
        refine own_go T0 m 24 #[rv x0, iv (Int32.ofNat on), iv (Int32.ofNat Ln), .val (.long (own_acc f n)), .second, iv (Int32.ofNat (7 * n)), iv (Int32.ofNat (on + n))] [(.int (Int32.ofNat on)), (.int (Int32.ofNat (on + n)))] (fun t k => XS.iloadN X0.here hx rfl (hb hby d3_23) rfl k) ?_
        refine own_go T0 m 25 #[rv x0, iv (Int32.ofNat on), iv (Int32.ofNat Ln), .val (.long (own_acc f n)), .second, iv (Int32.ofNat (7 * n)), iv (Int32.ofNat (on + n))] [(.int (Int32.ofNat Ln)), (.int (Int32.ofNat on)), (.int (Int32.ofNat (on + n)))] (fun t k => XS.iloadN X0.here hx rfl (hb hby d3_24) rfl k) ?_
        refine own_go T0 m 26 #[rv x0, iv (Int32.ofNat on), iv (Int32.ofNat Ln), .val (.long (own_acc f n)), .second, iv (Int32.ofNat (7 * n)), iv (Int32.ofNat (on + n))] [(.int ((Int32.ofNat on) + (Int32.ofNat Ln))), (.int (Int32.ofNat (on + n)))] (fun t k => XS.iadd X0.here hx rfl (hb hby d3_25) rfl k) ?_
        rw [own_add on Ln]
        have hq26 := mt (own_lt (on + n) (on + Ln) (by omega) (by omega)).mp (by omega)
        refine own_go T0 m 52 #[rv x0, iv (Int32.ofNat on), iv (Int32.ofNat Ln), .val (.long (own_acc f n)), .second, iv (Int32.ofNat (7 * n)), iv (Int32.ofNat (on + n))] [] (fun t k => XS.icmpYes X0.here hx rfl (pc0 := 26) (pc' := 52) rfl (hb hby d3_26) rfl (flt hq26).2.1 (by decide) (by decide) k) ?_
        refine own_go T0 m 53 #[rv x0, iv (Int32.ofNat on), iv (Int32.ofNat Ln), .val (.long (own_acc f n)), .second, iv (Int32.ofNat (7 * n)), iv (Int32.ofNat (on + n))] [(.long (own_acc f n))] (fun t k => XS.lloadN X0.here hx rfl (hb hby d3_52) rfl k) ?_
        refine own_retJ X0 hx hlk hret (hb hby d3_53) (by decide) (by decide) ?_
        refine ⟨?_, e0, rfl⟩
        rw [show own_res f Ln = own_acc f Ln from if_neg hL1, show n = Ln from by omega]
      | succ k ih =>
        intro n hn
        refine own_go T0 m 23 #[rv x0, iv (Int32.ofNat on), iv (Int32.ofNat Ln), .val (.long (own_acc f n)), .second, iv (Int32.ofNat (7 * n)), iv (Int32.ofNat (on + n))] [(.int (Int32.ofNat (on + n)))] (fun t k => XS.iload X0.here hx rfl (hb hby d3_21) rfl k) ?_
        refine own_go T0 m 24 #[rv x0, iv (Int32.ofNat on), iv (Int32.ofNat Ln), .val (.long (own_acc f n)), .second, iv (Int32.ofNat (7 * n)), iv (Int32.ofNat (on + n))] [(.int (Int32.ofNat on)), (.int (Int32.ofNat (on + n)))] (fun t k => XS.iloadN X0.here hx rfl (hb hby d3_23) rfl k) ?_
        refine own_go T0 m 25 #[rv x0, iv (Int32.ofNat on), iv (Int32.ofNat Ln), .val (.long (own_acc f n)), .second, iv (Int32.ofNat (7 * n)), iv (Int32.ofNat (on + n))] [(.int (Int32.ofNat Ln)), (.int (Int32.ofNat on)), (.int (Int32.ofNat (on + n)))] (fun t k => XS.iloadN X0.here hx rfl (hb hby d3_24) rfl k) ?_
        refine own_go T0 m 26 #[rv x0, iv (Int32.ofNat on), iv (Int32.ofNat Ln), .val (.long (own_acc f n)), .second, iv (Int32.ofNat (7 * n)), iv (Int32.ofNat (on + n))] [(.int ((Int32.ofNat on) + (Int32.ofNat Ln))), (.int (Int32.ofNat (on + n)))] (fun t k => XS.iadd X0.here hx rfl (hb hby d3_25) rfl k) ?_
        rw [own_add on Ln]
        have hq26 := (own_lt (on + n) (on + Ln) (by omega) (by omega)).mpr (by omega)
        refine own_go T0 m 29 #[rv x0, iv (Int32.ofNat on), iv (Int32.ofNat Ln), .val (.long (own_acc f n)), .second, iv (Int32.ofNat (7 * n)), iv (Int32.ofNat (on + n))] [] (fun t k => XS.icmpNo X0.here hx rfl (hb hby d3_26) rfl (tlt hq26).2.1 k) ?_
        refine own_go T0 m 30 #[rv x0, iv (Int32.ofNat on), iv (Int32.ofNat Ln), .val (.long (own_acc f n)), .second, iv (Int32.ofNat (7 * n)), iv (Int32.ofNat (on + n))] [(.long (own_acc f n))] (fun t k => XS.lloadN X0.here hx rfl (hb hby d3_29) rfl k) ?_
        refine own_go T0 m 31 #[rv x0, iv (Int32.ofNat on), iv (Int32.ofNat Ln), .val (.long (own_acc f n)), .second, iv (Int32.ofNat (7 * n)), iv (Int32.ofNat (on + n))] [(.ref x0), (.long (own_acc f n))] (fun t k => XS.aloadN X0.here hx rfl (hb hby d3_30) rfl rfl k) ?_
        refine own_go T0 m 33 #[rv x0, iv (Int32.ofNat on), iv (Int32.ofNat Ln), .val (.long (own_acc f n)), .second, iv (Int32.ofNat (7 * n)), iv (Int32.ofNat (on + n))] [(.int (Int32.ofNat (on + n))), (.ref x0), (.long (own_acc f n))] (fun t k => XS.iload X0.here hx rfl (hb hby d3_31) rfl k) ?_
        refine own_go T0 m 34 #[rv x0, iv (Int32.ofNat on), iv (Int32.ofNat Ln), .val (.long (own_acc f n)), .second, iv (Int32.ofNat (7 * n)), iv (Int32.ofNat (on + n))] [(.int (f n)), (.long (own_acc f n))] (own_baload X0 hx hZ e0 Vp (j := (Int32.ofNat (on + n))) (own_in16 (on + n) (by omega)) (by rw [clamp_of rfl (by omega)]; exact hf n (by omega)) (hb hby d3_33)) ?_
        refine own_go T0 m 36 #[rv x0, iv (Int32.ofNat on), iv (Int32.ofNat Ln), .val (.long (own_acc f n)), .second, iv (Int32.ofNat (7 * n)), iv (Int32.ofNat (on + n))] [(.int 127), (.int (f n)), (.long (own_acc f n))] (fun t k => XS.bipush X0.here hx rfl (hb hby d3_34) k) ?_
        refine own_go T0 m 37 #[rv x0, iv (Int32.ofNat on), iv (Int32.ofNat Ln), .val (.long (own_acc f n)), .second, iv (Int32.ofNat (7 * n)), iv (Int32.ofNat (on + n))] [(.int ((f n) &&& (127 : Int32))), (.long (own_acc f n))] (fun t k => XS.iand X0.here hx rfl (hb hby d3_36) rfl k) ?_
        refine own_go T0 m 38 #[rv x0, iv (Int32.ofNat on), iv (Int32.ofNat Ln), .val (.long (own_acc f n)), .second, iv (Int32.ofNat (7 * n)), iv (Int32.ofNat (on + n))] [(.long ((f n) &&& (127 : Int32)).toInt64), (.long (own_acc f n))] (fun t k => XS.i2l X0.here hx rfl (hb hby d3_37) rfl k) ?_
        refine own_go T0 m 40 #[rv x0, iv (Int32.ofNat on), iv (Int32.ofNat Ln), .val (.long (own_acc f n)), .second, iv (Int32.ofNat (7 * n)), iv (Int32.ofNat (on + n))] [(.int (Int32.ofNat (7 * n))), (.long ((f n) &&& (127 : Int32)).toInt64), (.long (own_acc f n))] (fun t k => XS.iload X0.here hx rfl (hb hby d3_38) rfl k) ?_
        refine own_go T0 m 41 #[rv x0, iv (Int32.ofNat on), iv (Int32.ofNat Ln), .val (.long (own_acc f n)), .second, iv (Int32.ofNat (7 * n)), iv (Int32.ofNat (on + n))] [(.long (((f n) &&& (127 : Int32)).toInt64 <<< ((Int32.ofNat (7 * n)) &&& 0x3f).toInt64)), (.long (own_acc f n))] (fun t k => XS.lshl X0.here hx rfl (hb hby d3_40) rfl k) ?_
        refine own_go T0 m 42 #[rv x0, iv (Int32.ofNat on), iv (Int32.ofNat Ln), .val (.long (own_acc f n)), .second, iv (Int32.ofNat (7 * n)), iv (Int32.ofNat (on + n))] [(.long ((own_acc f n) ||| (((f n) &&& (127 : Int32)).toInt64 <<< ((Int32.ofNat (7 * n)) &&& 0x3f).toInt64)))] (fun t k => XS.lor X0.here hx rfl (hb hby d3_41) rfl k) ?_
        refine own_go T0 m 43 #[rv x0, iv (Int32.ofNat on), iv (Int32.ofNat Ln), .val (.long ((own_acc f n) ||| (((f n) &&& (127 : Int32)).toInt64 <<< ((Int32.ofNat (7 * n)) &&& 0x3f).toInt64))), .second, iv (Int32.ofNat (7 * n)), iv (Int32.ofNat (on + n))] [] (fun t k => XS.lstoreN X0.here hx rfl (hb hby d3_42) rfl rfl k) ?_
        refine own_go T0 m 46 #[rv x0, iv (Int32.ofNat on), iv (Int32.ofNat Ln), .val (.long ((own_acc f n) ||| (((f n) &&& (127 : Int32)).toInt64 <<< ((Int32.ofNat (7 * n)) &&& 0x3f).toInt64))), .second, iv ((Int32.ofNat (7 * n)) + (7 : Int32)), iv (Int32.ofNat (on + n))] [] (fun t k => XS.iinc X0.here hx rfl (hb hby d3_43) rfl rfl k) ?_
        refine own_go T0 m 49 #[rv x0, iv (Int32.ofNat on), iv (Int32.ofNat Ln), .val (.long ((own_acc f n) ||| (((f n) &&& (127 : Int32)).toInt64 <<< ((Int32.ofNat (7 * n)) &&& 0x3f).toInt64))), .second, iv ((Int32.ofNat (7 * n)) + (7 : Int32)), iv ((Int32.ofNat (on + n)) + (1 : Int32))] [] (fun t k => XS.iinc X0.here hx rfl (hb hby d3_46) rfl rfl k) ?_
        refine own_go T0 m 21 #[rv x0, iv (Int32.ofNat on), iv (Int32.ofNat Ln), .val (.long ((own_acc f n) ||| (((f n) &&& (127 : Int32)).toInt64 <<< ((Int32.ofNat (7 * n)) &&& 0x3f).toInt64))), .second, iv ((Int32.ofNat (7 * n)) + (7 : Int32)), iv ((Int32.ofNat (on + n)) + (1 : Int32))] [] (fun t k => XS.goto X0.here hx rfl (pc0 := 49) (pc' := 21) rfl (hb hby d3_49) (by decide) (by decide) k) ?_
        rw [own_i7 n, own_i1 on n]
        exact ih (n + 1) (by omega)
    exact loop Ln 0 (by omega)
theorem pf_com_example_wirelens_wirelens_wire_VarintValuePinLaw_law__JIIJJ_Z : plainFor (⟨"com/example/wirelens/wirelens/wire/VarintValuePinLaw", "law", "(JIIJJ)Z"⟩ : MethodName) = true := by first | exact plainFor_of_name (by first | (simp [plainName, overriddenIn]; done) | decide +kernel) | exact Jvm.Free.JP.mathPlain rfl (by decide +kernel) | decide +kernel
theorem ef_rm0 (m : MethodId) (q0 : Int64) (q1 : Int32) (q2 : Int32) (q3 : Int64) (q4 : Int64) : entryFrame m #[(.long q0), (.int q1), (.int q2), (.long q3), (.long q4)] maxLocals = mkF m 0 #[.val (.long q0), .second, iv q1, iv q2, .val (.long q3), .second, .val (.long q4), .second, .unset, .unset, .unset, .unset, .unset] [] := by first | (simp [entryFrame, mkF, argsToLocals, Value.category, maxLocals]; done) | rfl
set_option maxRecDepth 65536 in
set_option maxHeartbeats 40000000 in
theorem rm0 (l : Launch) (Z : State) (a0 : Array Value) (hw : ∀ d ∈ tables_1, d.before a0 Z = true) (ws : List Jvm.Cond) (x0 : Int64) (x1 : Int32) (x2 : Int32) (x3 : Int64) (x4 : Int64) (h0 : Heap) (n0 : Nat) (Z0 : n0 ≤ h0.size) :
    OwnC l Z x code maxLocals ret ws room_1 #[(.long x0), (.int x1), (.int x2), (.long x3), (.long x4)] h0 (fun v h L => v = some (.int 1) ∧ Fr n0 L) := by
  refine own_entry pf_com_example_wirelens_wirelens_wire_VarintValuePinLaw_law__JIIJJ_Z (fun m => ef_rm0 m x0 x1 x2 x3 x4) ?_
  intro p e s m below meth c T0 X0 hC e0
  obtain ⟨hx, hby, hml, hown, hnm, hret, hlk, hZ⟩ := hC
  have hml : c.maxLocals = 13 := hml
  have N0 := Fr.nil n0
  refine own_go T0 m 1 #[.val (.long x0), .second, iv x1, iv x2, .val (.long x3), .second, .val (.long x4), .second, .unset, .unset, .unset, .unset, .unset] [(.int x1)] (fun t k => XS.iloadN X0.here hx rfl (hb hby at_0) rfl k) ?_
  refine own_go T0 m 3 #[.val (.long x0), .second, iv x1, iv x2, .val (.long x3), .second, .val (.long x4), .second, .unset, .unset, .unset, .unset, .unset] [(.int 2147483647), (.int x1)] (X0.ldcInt hx hown (mvT hZ (own_w hw 0 rfl)) (g := (mkF m 1 #[.val (.long x0), .second, iv x1, iv x2, .val (.long x3), .second, .val (.long x4), .second, .unset, .unset, .unset, .unset, .unset] [(.int x1)])) rfl (hb hby at_1)) ?_
  refine own_go T0 m 4 #[.val (.long x0), .second, iv x1, iv x2, .val (.long x3), .second, .val (.long x4), .second, .unset, .unset, .unset, .unset, .unset] [(.int (x1 &&& (2147483647 : Int32)))] (fun t k => XS.iand X0.here hx rfl (hb hby at_3) rfl k) ?_
  refine own_go T0 m 6 #[.val (.long x0), .second, iv x1, iv x2, .val (.long x3), .second, .val (.long x4), .second, .unset, .unset, .unset, .unset, .unset] [(.int 10), (.int (x1 &&& (2147483647 : Int32)))] (fun t k => XS.bipush X0.here hx rfl (hb hby at_4) k) ?_
  refine own_go T0 m 7 #[.val (.long x0), .second, iv x1, iv x2, .val (.long x3), .second, .val (.long x4), .second, .unset, .unset, .unset, .unset, .unset] [(.int ((x1 &&& (2147483647 : Int32)) % (10 : Int32)))] (fun t k => own_rem_ne X0 hx rfl (hb hby at_6) rfl (by decide) k) ?_
  refine own_go T0 m 8 #[.val (.long x0), .second, iv x1, iv x2, .val (.long x3), .second, .val (.long x4), .second, .unset, .unset, .unset, .unset, .unset] [(.int 1), (.int ((x1 &&& (2147483647 : Int32)) % (10 : Int32)))] (fun t k => XS.iconst X0.here hx rfl (hb hby at_7) k) ?_
  refine own_go T0 m 9 #[.val (.long x0), .second, iv x1, iv x2, .val (.long x3), .second, .val (.long x4), .second, .unset, .unset, .unset, .unset, .unset] [(.int (((x1 &&& (2147483647 : Int32)) % (10 : Int32)) + (1 : Int32)))] (fun t k => XS.iadd X0.here hx rfl (hb hby at_8) rfl k) ?_
  refine own_go T0 m 11 #[.val (.long x0), .second, iv x1, iv x2, .val (.long x3), .second, .val (.long x4), .second, iv (((x1 &&& (2147483647 : Int32)) % (10 : Int32)) + (1 : Int32)), .unset, .unset, .unset, .unset] [] (fun t k => XS.istore X0.here hx rfl (hb hby at_9) rfl rfl k) ?_
  obtain ⟨Ln, hLn, hL8⟩ := own_exL x1
  rw [hL8]
  refine own_go T0 m 12 #[.val (.long x0), .second, iv x1, iv x2, .val (.long x3), .second, .val (.long x4), .second, iv (Int32.ofNat Ln), .unset, .unset, .unset, .unset] [(.int x2)] (fun t k => XS.iloadN X0.here hx rfl (hb hby at_11) rfl k) ?_
  refine own_go T0 m 13 #[.val (.long x0), .second, iv x1, iv x2, .val (.long x3), .second, .val (.long x4), .second, iv (Int32.ofNat Ln), .unset, .unset, .unset, .unset] [(.int 3), (.int x2)] (fun t k => XS.iconst X0.here hx rfl (hb hby at_12) k) ?_
  refine own_go T0 m 14 #[.val (.long x0), .second, iv x1, iv x2, .val (.long x3), .second, .val (.long x4), .second, iv (Int32.ofNat Ln), .unset, .unset, .unset, .unset] [(.int (x2 &&& (3 : Int32)))] (fun t k => XS.iand X0.here hx rfl (hb hby at_13) rfl k) ?_
  refine own_go T0 m 16 #[.val (.long x0), .second, iv x1, iv x2, .val (.long x3), .second, .val (.long x4), .second, iv (Int32.ofNat Ln), iv (x2 &&& (3 : Int32)), .unset, .unset, .unset] [] (fun t k => XS.istore X0.here hx rfl (hb hby at_14) rfl rfl k) ?_
  obtain ⟨on, hon, hO9⟩ := own_exO x2
  rw [hO9]
  refine own_go T0 m 18 #[.val (.long x0), .second, iv x1, iv x2, .val (.long x3), .second, .val (.long x4), .second, iv (Int32.ofNat Ln), iv (Int32.ofNat on), .unset, .unset, .unset] [(.int (Int32.ofNat Ln))] (fun t k => XS.iload X0.here hx rfl (hb hby at_16) rfl k) ?_
  refine own_go T0 m 20 #[.val (.long x0), .second, iv x1, iv x2, .val (.long x3), .second, .val (.long x4), .second, iv (Int32.ofNat Ln), iv (Int32.ofNat on), .unset, .unset, .unset] [(.int 10), (.int (Int32.ofNat Ln))] (fun t k => XS.bipush X0.here hx rfl (hb hby at_18) k) ?_
  have seg40 : ∀ (w10 : Int64), (Ln < 10 → 0 ≤ w10.toInt ∧ w10.toInt < (2 ^ (7 * Ln) : Nat)) → OwnG p.tables e below s (fun v h L => v = some (.int 1) ∧ Fr n0 L) room_1.cells room_1.slots (T0.setTop (mkF m 40 #[.val (.long x0), .second, iv x1, iv x2, .val (.long x3), .second, .val (.long x4), .second, iv (Int32.ofNat Ln), iv (Int32.ofNat on), .val (.long w10), .second, .unset] [])) := by
    intro w10 hw10
    refine own_go T0 m 42 #[.val (.long x0), .second, iv x1, iv x2, .val (.long x3), .second, .val (.long x4), .second, iv (Int32.ofNat Ln), iv (Int32.ofNat on), .val (.long w10), .second, .unset] [(.int 16)] (fun t k => XS.bipush X0.here hx rfl (hb hby at_40) k) ?_
    obtain ⟨T2, h2, k2, X2, e2, E2, A2, st2⟩ := newP X0 hx hZ (own_w hw 1 rfl) e0 (g := (mkF m 42 #[.val (.long x0), .second, iv x1, iv x2, .val (.long x3), .second, .val (.long x4), .second, iv (Int32.ofNat Ln), iv (Int32.ofNat on), .val (.long w10), .second, .unset] [(.int 16)])) rfl (hb hby at_42) rfl (by decide) (cap := 16) (by decide) (by decide) (by decide) (by decide)
    obtain ⟨b2, g2⟩ : ∃ z, z = h0.size := ⟨_, rfl⟩
    rw [← g2] at A2 st2
    have g_b2 : n0 ≤ b2 := Nat.le_trans Z0 (Nat.le_of_eq g2.symm)
    have Z_2 : n0 ≤ h2.size := Nat.le_trans Z0 E2.1
    have V_b2 : Arv Z h2 b2 k2 .byte (16 : Int32) [(.int 0), (.int 0), (.int 0), (.int 0), (.int 0), (.int 0), (.int 0), (.int 0), (.int 0), (.int 0), (.int 0), (.int 0), (.int 0), (.int 0), (.int 0), (.int 0)] (.int 0) := (Arv.new A2 (by decide)).pad (pad_rep [] (.int 0) 16)
    refine own_go T2 m 44 #[.val (.long x0), .second, iv x1, iv x2, .val (.long x3), .second, .val (.long x4), .second, iv (Int32.ofNat Ln), iv (Int32.ofNat on), .val (.long w10), .second, .unset] [(.ref b2)] (st2) ?_
    refine own_go T2 m 46 #[.val (.long x0), .second, iv x1, iv x2, .val (.long x3), .second, .val (.long x4), .second, iv (Int32.ofNat Ln), iv (Int32.ofNat on), .val (.long w10), .second, rv b2] [] (fun t k => XS.astore X2.here hx rfl (hb hby at_44) rfl rfl rfl k) ?_
    refine own_go T2 m 48 #[.val (.long x0), .second, iv x1, iv x2, .val (.long x3), .second, .val (.long x4), .second, iv (Int32.ofNat Ln), iv (Int32.ofNat on), .val (.long w10), .second, rv b2] [(.ref b2)] (fun t k => XS.aload X2.here hx rfl (hb hby at_46) rfl rfl k) ?_
    refine own_go T2 m 49 #[.val (.long x0), .second, iv x1, iv x2, .val (.long x3), .second, .val (.long x4), .second, iv (Int32.ofNat Ln), iv (Int32.ofNat on), .val (.long w10), .second, rv b2] [(.int 0), (.ref b2)] (fun t k => XS.iconst X2.here hx rfl (hb hby at_48) k) ?_
    refine own_go T2 m 51 #[.val (.long x0), .second, iv x1, iv x2, .val (.long x3), .second, .val (.long x4), .second, iv (Int32.ofNat Ln), iv (Int32.ofNat on), .val (.long w10), .second, rv b2] [(.long x3), (.int 0), (.ref b2)] (fun t k => XS.lload X2.here hx rfl (hb hby at_49) rfl k) ?_
    refine own_go T2 m 53 #[.val (.long x0), .second, iv x1, iv x2, .val (.long x3), .second, .val (.long x4), .second, iv (Int32.ofNat Ln), iv (Int32.ofNat on), .val (.long w10), .second, rv b2] [(.long x4), (.long x3), (.int 0), (.ref b2)] (fun t k => XS.lload X2.here hx rfl (hb hby at_51) rfl k) ?_
    refine own_go T2 m 54 #[.val (.long x0), .second, iv x1, iv x2, .val (.long x3), .second, .val (.long x4), .second, iv (Int32.ofNat Ln), iv (Int32.ofNat on), .val (.long w10), .second, rv b2] [(.int 0), (.long x4), (.long x3), (.int 0), (.ref b2)] (fun t k => XS.iconst X2.here hx rfl (hb hby at_53) k) ?_
    obtain ⟨_, T3, L3, X3, ⟨⟨z3, rfl⟩, e3, rfl⟩, st3⟩ := own_static X2 hx hZ (y := (⟨"com/example/wirelens/wirelens/wire/VarintValuePinLaw", "junk", "(JJI)B"⟩ : MethodName)) hown (own_w hw 2 rfl) (own_w hw 3 rfl) (own_w hw 4 rfl) (own_w hw 5 rfl) (by decide) (rm1 l Z a0 hw [] x3 x4 (0 : Int32) h2) e2 2 (argsL := [(.long x3), (.long x4), (.int 0)]) (rest := [(.int 0), (.ref b2)]) (Ls := #[.val (.long x0), .second, iv x1, iv x2, .val (.long x3), .second, .val (.long x4), .second, iv (Int32.ofNat Ln), iv (Int32.ofNat on), .val (.long w10), .second, rv b2]) (by rw [hml]; rfl) (lenOf pd__JJI_B rfl) rfl rfl (Nat.le_of_eq rfl) (hb hby at_54) (by decide) (by decide) (by decide) (by decide)
    replace X3 := own_nil X3
    refine own_go T3 m 57 #[.val (.long x0), .second, iv x1, iv x2, .val (.long x3), .second, .val (.long x4), .second, iv (Int32.ofNat Ln), iv (Int32.ofNat on), .val (.long w10), .second, rv b2] [(.int z3), (.int 0), (.ref b2)] (st3) ?_
    obtain ⟨T4, h4, X4, e4, W4, V4, st4⟩ := own_bastore X3 hx hZ e3 V_b2 (j := (0 : Int32)) ⟨by decide, by decide⟩ 0 rfl (Nat.le_of_ble_eq_true rfl) (Ls := #[.val (.long x0), .second, iv x1, iv x2, .val (.long x3), .second, .val (.long x4), .second, iv (Int32.ofNat Ln), iv (Int32.ofNat on), .val (.long w10), .second, rv b2]) (rest := []) (x := z3) (hb hby at_57)
    replace V4 : Arv Z h4 b2 k2 .byte (16 : Int32) [(.int z3.toInt8.toInt32), (.int 0), (.int 0), (.int 0), (.int 0), (.int 0), (.int 0), (.int 0), (.int 0), (.int 0), (.int 0), (.int 0), (.int 0), (.int 0), (.int 0), (.int 0)] (.int 0) := V4
    have Z_4 : n0 ≤ h4.size := Nat.le_trans Z_2 (Keep.of_wr W4).1
    have N4 := Fr.snoc X4 N0 g_b2
    refine own_go T4 m 58 #[.val (.long x0), .second, iv x1, iv x2, .val (.long x3), .second, .val (.long x4), .second, iv (Int32.ofNat Ln), iv (Int32.ofNat on), .val (.long w10), .second, rv b2] [] (st4) ?_
    refine own_go T4 m 60 #[.val (.long x0), .second, iv x1, iv x2, .val (.long x3), .second, .val (.long x4), .second, iv (Int32.ofNat Ln), iv (Int32.ofNat on), .val (.long w10), .second, rv b2] [(.ref b2)] (fun t k => XS.aload X4.here hx rfl (hb hby at_58) rfl rfl k) ?_
    refine own_go T4 m 61 #[.val (.long x0), .second, iv x1, iv x2, .val (.long x3), .second, .val (.long x4), .second, iv (Int32.ofNat Ln), iv (Int32.ofNat on), .val (.long w10), .second, rv b2] [(.int 1), (.ref b2)] (fun t k => XS.iconst X4.here hx rfl (hb hby at_60) k) ?_
    refine own_go T4 m 63 #[.val (.long x0), .second, iv x1, iv x2, .val (.long x3), .second, .val (.long x4), .second, iv (Int32.ofNat Ln), iv (Int32.ofNat on), .val (.long w10), .second, rv b2] [(.long x3), (.int 1), (.ref b2)] (fun t k => XS.lload X4.here hx rfl (hb hby at_61) rfl k) ?_
    refine own_go T4 m 65 #[.val (.long x0), .second, iv x1, iv x2, .val (.long x3), .second, .val (.long x4), .second, iv (Int32.ofNat Ln), iv (Int32.ofNat on), .val (.long w10), .second, rv b2] [(.long x4), (.long x3), (.int 1), (.ref b2)] (fun t k => XS.lload X4.here hx rfl (hb hby at_63) rfl k) ?_
    refine own_go T4 m 66 #[.val (.long x0), .second, iv x1, iv x2, .val (.long x3), .second, .val (.long x4), .second, iv (Int32.ofNat Ln), iv (Int32.ofNat on), .val (.long w10), .second, rv b2] [(.int 1), (.long x4), (.long x3), (.int 1), (.ref b2)] (fun t k => XS.iconst X4.here hx rfl (hb hby at_65) k) ?_
    obtain ⟨_, T5, L5, X5, ⟨⟨z5, rfl⟩, e5, rfl⟩, st5⟩ := own_static X4 hx hZ (y := (⟨"com/example/wirelens/wirelens/wire/VarintValuePinLaw", "junk", "(JJI)B"⟩ : MethodName)) hown (own_w hw 2 rfl) (own_w hw 3 rfl) (own_w hw 4 rfl) (own_w hw 5 rfl) (by decide) (rm1 l Z a0 hw [] x3 x4 (1 : Int32) h4) e4 2 (argsL := [(.long x3), (.long x4), (.int 1)]) (rest := [(.int 1), (.ref b2)]) (Ls := #[.val (.long x0), .second, iv x1, iv x2, .val (.long x3), .second, .val (.long x4), .second, iv (Int32.ofNat Ln), iv (Int32.ofNat on), .val (.long w10), .second, rv b2]) (by rw [hml]; rfl) (lenOf pd__JJI_B rfl) rfl rfl (Nat.le_of_eq rfl) (hb hby at_66) (by decide) (by decide) (by decide) (by decide)
    replace X5 := own_nil X5
    refine own_go T5 m 69 #[.val (.long x0), .second, iv x1, iv x2, .val (.long x3), .second, .val (.long x4), .second, iv (Int32.ofNat Ln), iv (Int32.ofNat on), .val (.long w10), .second, rv b2] [(.int z5), (.int 1), (.ref b2)] (st5) ?_
    obtain ⟨T6, h6, X6, e6, W6, V6, st6⟩ := own_bastore X5 hx hZ e5 V4 (j := (1 : Int32)) ⟨by decide, by decide⟩ 1 rfl (Nat.le_of_ble_eq_true rfl) (Ls := #[.val (.long x0), .second, iv x1, iv x2, .val (.long x3), .second, .val (.long x4), .second, iv (Int32.ofNat Ln), iv (Int32.ofNat on), .val (.long w10), .second, rv b2]) (rest := []) (x := z5) (hb hby at_69)
    replace V6 : Arv Z h6 b2 k2 .byte (16 : Int32) [(.int z3.toInt8.toInt32), (.int z5.toInt8.toInt32), (.int 0), (.int 0), (.int 0), (.int 0), (.int 0), (.int 0), (.int 0), (.int 0), (.int 0), (.int 0), (.int 0), (.int 0), (.int 0), (.int 0)] (.int 0) := V6
    have Z_6 : n0 ≤ h6.size := Nat.le_trans Z_4 (Keep.of_wr W6).1
    have N6 := Fr.snoc X6 N4 g_b2
    refine own_go T6 m 70 #[.val (.long x0), .second, iv x1, iv x2, .val (.long x3), .second, .val (.long x4), .second, iv (Int32.ofNat Ln), iv (Int32.ofNat on), .val (.long w10), .second, rv b2] [] (st6) ?_
    refine own_go T6 m 72 #[.val (.long x0), .second, iv x1, iv x2, .val (.long x3), .second, .val (.long x4), .second, iv (Int32.ofNat Ln), iv (Int32.ofNat on), .val (.long w10), .second, rv b2] [(.ref b2)] (fun t k => XS.aload X6.here hx rfl (hb hby at_70) rfl rfl k) ?_
    refine own_go T6 m 73 #[.val (.long x0), .second, iv x1, iv x2, .val (.long x3), .second, .val (.long x4), .second, iv (Int32.ofNat Ln), iv (Int32.ofNat on), .val (.long w10), .second, rv b2] [(.int 2), (.ref b2)] (fun t k => XS.iconst X6.here hx rfl (hb hby at_72) k) ?_
    refine own_go T6 m 75 #[.val (.long x0), .second, iv x1, iv x2, .val (.long x3), .second, .val (.long x4), .second, iv (Int32.ofNat Ln), iv (Int32.ofNat on), .val (.long w10), .second, rv b2] [(.long x3), (.int 2), (.ref b2)] (fun t k => XS.lload X6.here hx rfl (hb hby at_73) rfl k) ?_
    refine own_go T6 m 77 #[.val (.long x0), .second, iv x1, iv x2, .val (.long x3), .second, .val (.long x4), .second, iv (Int32.ofNat Ln), iv (Int32.ofNat on), .val (.long w10), .second, rv b2] [(.long x4), (.long x3), (.int 2), (.ref b2)] (fun t k => XS.lload X6.here hx rfl (hb hby at_75) rfl k) ?_
    refine own_go T6 m 78 #[.val (.long x0), .second, iv x1, iv x2, .val (.long x3), .second, .val (.long x4), .second, iv (Int32.ofNat Ln), iv (Int32.ofNat on), .val (.long w10), .second, rv b2] [(.int 2), (.long x4), (.long x3), (.int 2), (.ref b2)] (fun t k => XS.iconst X6.here hx rfl (hb hby at_77) k) ?_
    obtain ⟨_, T7, L7, X7, ⟨⟨z7, rfl⟩, e7, rfl⟩, st7⟩ := own_static X6 hx hZ (y := (⟨"com/example/wirelens/wirelens/wire/VarintValuePinLaw", "junk", "(JJI)B"⟩ : MethodName)) hown (own_w hw 2 rfl) (own_w hw 3 rfl) (own_w hw 4 rfl) (own_w hw 5 rfl) (by decide) (rm1 l Z a0 hw [] x3 x4 (2 : Int32) h6) e6 2 (argsL := [(.long x3), (.long x4), (.int 2)]) (rest := [(.int 2), (.ref b2)]) (Ls := #[.val (.long x0), .second, iv x1, iv x2, .val (.long x3), .second, .val (.long x4), .second, iv (Int32.ofNat Ln), iv (Int32.ofNat on), .val (.long w10), .second, rv b2]) (by rw [hml]; rfl) (lenOf pd__JJI_B rfl) rfl rfl (Nat.le_of_eq rfl) (hb hby at_78) (by decide) (by decide) (by decide) (by decide)
    replace X7 := own_nil X7
    refine own_go T7 m 81 #[.val (.long x0), .second, iv x1, iv x2, .val (.long x3), .second, .val (.long x4), .second, iv (Int32.ofNat Ln), iv (Int32.ofNat on), .val (.long w10), .second, rv b2] [(.int z7), (.int 2), (.ref b2)] (st7) ?_
    obtain ⟨T8, h8, X8, e8, W8, V8, st8⟩ := own_bastore X7 hx hZ e7 V6 (j := (2 : Int32)) ⟨by decide, by decide⟩ 2 rfl (Nat.le_of_ble_eq_true rfl) (Ls := #[.val (.long x0), .second, iv x1, iv x2, .val (.long x3), .second, .val (.long x4), .second, iv (Int32.ofNat Ln), iv (Int32.ofNat on), .val (.long w10), .second, rv b2]) (rest := []) (x := z7) (hb hby at_81)
    replace V8 : Arv Z h8 b2 k2 .byte (16 : Int32) [(.int z3.toInt8.toInt32), (.int z5.toInt8.toInt32), (.int z7.toInt8.toInt32), (.int 0), (.int 0), (.int 0), (.int 0), (.int 0), (.int 0), (.int 0), (.int 0), (.int 0), (.int 0), (.int 0), (.int 0), (.int 0)] (.int 0) := V8
    have Z_8 : n0 ≤ h8.size := Nat.le_trans Z_6 (Keep.of_wr W8).1
    have N8 := Fr.snoc X8 N6 g_b2
    refine own_go T8 m 82 #[.val (.long x0), .second, iv x1, iv x2, .val (.long x3), .second, .val (.long x4), .second, iv (Int32.ofNat Ln), iv (Int32.ofNat on), .val (.long w10), .second, rv b2] [] (st8) ?_
    refine own_go T8 m 84 #[.val (.long x0), .second, iv x1, iv x2, .val (.long x3), .second, .val (.long x4), .second, iv (Int32.ofNat Ln), iv (Int32.ofNat on), .val (.long w10), .second, rv b2] [(.ref b2)] (fun t k => XS.aload X8.here hx rfl (hb hby at_82) rfl rfl k) ?_
    refine own_go T8 m 85 #[.val (.long x0), .second, iv x1, iv x2, .val (.long x3), .second, .val (.long x4), .second, iv (Int32.ofNat Ln), iv (Int32.ofNat on), .val (.long w10), .second, rv b2] [(.int 3), (.ref b2)] (fun t k => XS.iconst X8.here hx rfl (hb hby at_84) k) ?_
    refine own_go T8 m 87 #[.val (.long x0), .second, iv x1, iv x2, .val (.long x3), .second, .val (.long x4), .second, iv (Int32.ofNat Ln), iv (Int32.ofNat on), .val (.long w10), .second, rv b2] [(.long x3), (.int 3), (.ref b2)] (fun t k => XS.lload X8.here hx rfl (hb hby at_85) rfl k) ?_
    refine own_go T8 m 89 #[.val (.long x0), .second, iv x1, iv x2, .val (.long x3), .second, .val (.long x4), .second, iv (Int32.ofNat Ln), iv (Int32.ofNat on), .val (.long w10), .second, rv b2] [(.long x4), (.long x3), (.int 3), (.ref b2)] (fun t k => XS.lload X8.here hx rfl (hb hby at_87) rfl k) ?_
    refine own_go T8 m 90 #[.val (.long x0), .second, iv x1, iv x2, .val (.long x3), .second, .val (.long x4), .second, iv (Int32.ofNat Ln), iv (Int32.ofNat on), .val (.long w10), .second, rv b2] [(.int 3), (.long x4), (.long x3), (.int 3), (.ref b2)] (fun t k => XS.iconst X8.here hx rfl (hb hby at_89) k) ?_
    obtain ⟨_, T9, L9, X9, ⟨⟨z9, rfl⟩, e9, rfl⟩, st9⟩ := own_static X8 hx hZ (y := (⟨"com/example/wirelens/wirelens/wire/VarintValuePinLaw", "junk", "(JJI)B"⟩ : MethodName)) hown (own_w hw 2 rfl) (own_w hw 3 rfl) (own_w hw 4 rfl) (own_w hw 5 rfl) (by decide) (rm1 l Z a0 hw [] x3 x4 (3 : Int32) h8) e8 2 (argsL := [(.long x3), (.long x4), (.int 3)]) (rest := [(.int 3), (.ref b2)]) (Ls := #[.val (.long x0), .second, iv x1, iv x2, .val (.long x3), .second, .val (.long x4), .second, iv (Int32.ofNat Ln), iv (Int32.ofNat on), .val (.long w10), .second, rv b2]) (by rw [hml]; rfl) (lenOf pd__JJI_B rfl) rfl rfl (Nat.le_of_eq rfl) (hb hby at_90) (by decide) (by decide) (by decide) (by decide)
    replace X9 := own_nil X9
    refine own_go T9 m 93 #[.val (.long x0), .second, iv x1, iv x2, .val (.long x3), .second, .val (.long x4), .second, iv (Int32.ofNat Ln), iv (Int32.ofNat on), .val (.long w10), .second, rv b2] [(.int z9), (.int 3), (.ref b2)] (st9) ?_
    obtain ⟨T10, h10, X10, e10, W10, V10, st10⟩ := own_bastore X9 hx hZ e9 V8 (j := (3 : Int32)) ⟨by decide, by decide⟩ 3 rfl (Nat.le_of_ble_eq_true rfl) (Ls := #[.val (.long x0), .second, iv x1, iv x2, .val (.long x3), .second, .val (.long x4), .second, iv (Int32.ofNat Ln), iv (Int32.ofNat on), .val (.long w10), .second, rv b2]) (rest := []) (x := z9) (hb hby at_93)
    replace V10 : Arv Z h10 b2 k2 .byte (16 : Int32) [(.int z3.toInt8.toInt32), (.int z5.toInt8.toInt32), (.int z7.toInt8.toInt32), (.int z9.toInt8.toInt32), (.int 0), (.int 0), (.int 0), (.int 0), (.int 0), (.int 0), (.int 0), (.int 0), (.int 0), (.int 0), (.int 0), (.int 0)] (.int 0) := V10
    have Z_10 : n0 ≤ h10.size := Nat.le_trans Z_8 (Keep.of_wr W10).1
    have N10 := Fr.snoc X10 N8 g_b2
    refine own_go T10 m 94 #[.val (.long x0), .second, iv x1, iv x2, .val (.long x3), .second, .val (.long x4), .second, iv (Int32.ofNat Ln), iv (Int32.ofNat on), .val (.long w10), .second, rv b2] [] (st10) ?_
    refine own_go T10 m 96 #[.val (.long x0), .second, iv x1, iv x2, .val (.long x3), .second, .val (.long x4), .second, iv (Int32.ofNat Ln), iv (Int32.ofNat on), .val (.long w10), .second, rv b2] [(.ref b2)] (fun t k => XS.aload X10.here hx rfl (hb hby at_94) rfl rfl k) ?_
    refine own_go T10 m 97 #[.val (.long x0), .second, iv x1, iv x2, .val (.long x3), .second, .val (.long x4), .second, iv (Int32.ofNat Ln), iv (Int32.ofNat on), .val (.long w10), .second, rv b2] [(.int 4), (.ref b2)] (fun t k => XS.iconst X10.here hx rfl (hb hby at_96) k) ?_
    refine own_go T10 m 99 #[.val (.long x0), .second, iv x1, iv x2, .val (.long x3), .second, .val (.long x4), .second, iv (Int32.ofNat Ln), iv (Int32.ofNat on), .val (.long w10), .second, rv b2] [(.long x3), (.int 4), (.ref b2)] (fun t k => XS.lload X10.here hx rfl (hb hby at_97) rfl k) ?_
    refine own_go T10 m 101 #[.val (.long x0), .second, iv x1, iv x2, .val (.long x3), .second, .val (.long x4), .second, iv (Int32.ofNat Ln), iv (Int32.ofNat on), .val (.long w10), .second, rv b2] [(.long x4), (.long x3), (.int 4), (.ref b2)] (fun t k => XS.lload X10.here hx rfl (hb hby at_99) rfl k) ?_
    refine own_go T10 m 102 #[.val (.long x0), .second, iv x1, iv x2, .val (.long x3), .second, .val (.long x4), .second, iv (Int32.ofNat Ln), iv (Int32.ofNat on), .val (.long w10), .second, rv b2] [(.int 4), (.long x4), (.long x3), (.int 4), (.ref b2)] (fun t k => XS.iconst X10.here hx rfl (hb hby at_101) k) ?_
    obtain ⟨_, T11, L11, X11, ⟨⟨z11, rfl⟩, e11, rfl⟩, st11⟩ := own_static X10 hx hZ (y := (⟨"com/example/wirelens/wirelens/wire/VarintValuePinLaw", "junk", "(JJI)B"⟩ : MethodName)) hown (own_w hw 2 rfl) (own_w hw 3 rfl) (own_w hw 4 rfl) (own_w hw 5 rfl) (by decide) (rm1 l Z a0 hw [] x3 x4 (4 : Int32) h10) e10 2 (argsL := [(.long x3), (.long x4), (.int 4)]) (rest := [(.int 4), (.ref b2)]) (Ls := #[.val (.long x0), .second, iv x1, iv x2, .val (.long x3), .second, .val (.long x4), .second, iv (Int32.ofNat Ln), iv (Int32.ofNat on), .val (.long w10), .second, rv b2]) (by rw [hml]; rfl) (lenOf pd__JJI_B rfl) rfl rfl (Nat.le_of_eq rfl) (hb hby at_102) (by decide) (by decide) (by decide) (by decide)
    replace X11 := own_nil X11
    refine own_go T11 m 105 #[.val (.long x0), .second, iv x1, iv x2, .val (.long x3), .second, .val (.long x4), .second, iv (Int32.ofNat Ln), iv (Int32.ofNat on), .val (.long w10), .second, rv b2] [(.int z11), (.int 4), (.ref b2)] (st11) ?_
    obtain ⟨T12, h12, X12, e12, W12, V12, st12⟩ := own_bastore X11 hx hZ e11 V10 (j := (4 : Int32)) ⟨by decide, by decide⟩ 4 rfl (Nat.le_of_ble_eq_true rfl) (Ls := #[.val (.long x0), .second, iv x1, iv x2, .val (.long x3), .second, .val (.long x4), .second, iv (Int32.ofNat Ln), iv (Int32.ofNat on), .val (.long w10), .second, rv b2]) (rest := []) (x := z11) (hb hby at_105)
    replace V12 : Arv Z h12 b2 k2 .byte (16 : Int32) [(.int z3.toInt8.toInt32), (.int z5.toInt8.toInt32), (.int z7.toInt8.toInt32), (.int z9.toInt8.toInt32), (.int z11.toInt8.toInt32), (.int 0), (.int 0), (.int 0), (.int 0), (.int 0), (.int 0), (.int 0), (.int 0), (.int 0), (.int 0), (.int 0)] (.int 0) := V12
    have Z_12 : n0 ≤ h12.size := Nat.le_trans Z_10 (Keep.of_wr W12).1
    have N12 := Fr.snoc X12 N10 g_b2
    refine own_go T12 m 106 #[.val (.long x0), .second, iv x1, iv x2, .val (.long x3), .second, .val (.long x4), .second, iv (Int32.ofNat Ln), iv (Int32.ofNat on), .val (.long w10), .second, rv b2] [] (st12) ?_
    refine own_go T12 m 108 #[.val (.long x0), .second, iv x1, iv x2, .val (.long x3), .second, .val (.long x4), .second, iv (Int32.ofNat Ln), iv (Int32.ofNat on), .val (.long w10), .second, rv b2] [(.ref b2)] (fun t k => XS.aload X12.here hx rfl (hb hby at_106) rfl rfl k) ?_
    refine own_go T12 m 109 #[.val (.long x0), .second, iv x1, iv x2, .val (.long x3), .second, .val (.long x4), .second, iv (Int32.ofNat Ln), iv (Int32.ofNat on), .val (.long w10), .second, rv b2] [(.int 5), (.ref b2)] (fun t k => XS.iconst X12.here hx rfl (hb hby at_108) k) ?_
    refine own_go T12 m 111 #[.val (.long x0), .second, iv x1, iv x2, .val (.long x3), .second, .val (.long x4), .second, iv (Int32.ofNat Ln), iv (Int32.ofNat on), .val (.long w10), .second, rv b2] [(.long x3), (.int 5), (.ref b2)] (fun t k => XS.lload X12.here hx rfl (hb hby at_109) rfl k) ?_
    refine own_go T12 m 113 #[.val (.long x0), .second, iv x1, iv x2, .val (.long x3), .second, .val (.long x4), .second, iv (Int32.ofNat Ln), iv (Int32.ofNat on), .val (.long w10), .second, rv b2] [(.long x4), (.long x3), (.int 5), (.ref b2)] (fun t k => XS.lload X12.here hx rfl (hb hby at_111) rfl k) ?_
    refine own_go T12 m 114 #[.val (.long x0), .second, iv x1, iv x2, .val (.long x3), .second, .val (.long x4), .second, iv (Int32.ofNat Ln), iv (Int32.ofNat on), .val (.long w10), .second, rv b2] [(.int 5), (.long x4), (.long x3), (.int 5), (.ref b2)] (fun t k => XS.iconst X12.here hx rfl (hb hby at_113) k) ?_
    obtain ⟨_, T13, L13, X13, ⟨⟨z13, rfl⟩, e13, rfl⟩, st13⟩ := own_static X12 hx hZ (y := (⟨"com/example/wirelens/wirelens/wire/VarintValuePinLaw", "junk", "(JJI)B"⟩ : MethodName)) hown (own_w hw 2 rfl) (own_w hw 3 rfl) (own_w hw 4 rfl) (own_w hw 5 rfl) (by decide) (rm1 l Z a0 hw [] x3 x4 (5 : Int32) h12) e12 2 (argsL := [(.long x3), (.long x4), (.int 5)]) (rest := [(.int 5), (.ref b2)]) (Ls := #[.val (.long x0), .second, iv x1, iv x2, .val (.long x3), .second, .val (.long x4), .second, iv (Int32.ofNat Ln), iv (Int32.ofNat on), .val (.long w10), .second, rv b2]) (by rw [hml]; rfl) (lenOf pd__JJI_B rfl) rfl rfl (Nat.le_of_eq rfl) (hb hby at_114) (by decide) (by decide) (by decide) (by decide)
    replace X13 := own_nil X13
    refine own_go T13 m 117 #[.val (.long x0), .second, iv x1, iv x2, .val (.long x3), .second, .val (.long x4), .second, iv (Int32.ofNat Ln), iv (Int32.ofNat on), .val (.long w10), .second, rv b2] [(.int z13), (.int 5), (.ref b2)] (st13) ?_
    obtain ⟨T14, h14, X14, e14, W14, V14, st14⟩ := own_bastore X13 hx hZ e13 V12 (j := (5 : Int32)) ⟨by decide, by decide⟩ 5 rfl (Nat.le_of_ble_eq_true rfl) (Ls := #[.val (.long x0), .second, iv x1, iv x2, .val (.long x3), .second, .val (.long x4), .second, iv (Int32.ofNat Ln), iv (Int32.ofNat on), .val (.long w10), .second, rv b2]) (rest := []) (x := z13) (hb hby at_117)
    replace V14 : Arv Z h14 b2 k2 .byte (16 : Int32) [(.int z3.toInt8.toInt32), (.int z5.toInt8.toInt32), (.int z7.toInt8.toInt32), (.int z9.toInt8.toInt32), (.int z11.toInt8.toInt32), (.int z13.toInt8.toInt32), (.int 0), (.int 0), (.int 0), (.int 0), (.int 0), (.int 0), (.int 0), (.int 0), (.int 0), (.int 0)] (.int 0) := V14
    have Z_14 : n0 ≤ h14.size := Nat.le_trans Z_12 (Keep.of_wr W14).1
    have N14 := Fr.snoc X14 N12 g_b2
    refine own_go T14 m 118 #[.val (.long x0), .second, iv x1, iv x2, .val (.long x3), .second, .val (.long x4), .second, iv (Int32.ofNat Ln), iv (Int32.ofNat on), .val (.long w10), .second, rv b2] [] (st14) ?_
    refine own_go T14 m 120 #[.val (.long x0), .second, iv x1, iv x2, .val (.long x3), .second, .val (.long x4), .second, iv (Int32.ofNat Ln), iv (Int32.ofNat on), .val (.long w10), .second, rv b2] [(.ref b2)] (fun t k => XS.aload X14.here hx rfl (hb hby at_118) rfl rfl k) ?_
    refine own_go T14 m 122 #[.val (.long x0), .second, iv x1, iv x2, .val (.long x3), .second, .val (.long x4), .second, iv (Int32.ofNat Ln), iv (Int32.ofNat on), .val (.long w10), .second, rv b2] [(.int 6), (.ref b2)] (fun t k => XS.bipush X14.here hx rfl (hb hby at_120) k) ?_
    refine own_go T14 m 124 #[.val (.long x0), .second, iv x1, iv x2, .val (.long x3), .second, .val (.long x4), .second, iv (Int32.ofNat Ln), iv (Int32.ofNat on), .val (.long w10), .second, rv b2] [(.long x3), (.int 6), (.ref b2)] (fun t k => XS.lload X14.here hx rfl (hb hby at_122) rfl k) ?_
    refine own_go T14 m 126 #[.val (.long x0), .second, iv x1, iv x2, .val (.long x3), .second, .val (.long x4), .second, iv (Int32.ofNat Ln), iv (Int32.ofNat on), .val (.long w10), .second, rv b2] [(.long x4), (.long x3), (.int 6), (.ref b2)] (fun t k => XS.lload X14.here hx rfl (hb hby at_124) rfl k) ?_
    refine own_go T14 m 128 #[.val (.long x0), .second, iv x1, iv x2, .val (.long x3), .second, .val (.long x4), .second, iv (Int32.ofNat Ln), iv (Int32.ofNat on), .val (.long w10), .second, rv b2] [(.int 6), (.long x4), (.long x3), (.int 6), (.ref b2)] (fun t k => XS.bipush X14.here hx rfl (hb hby at_126) k) ?_
    obtain ⟨_, T15, L15, X15, ⟨⟨z15, rfl⟩, e15, rfl⟩, st15⟩ := own_static X14 hx hZ (y := (⟨"com/example/wirelens/wirelens/wire/VarintValuePinLaw", "junk", "(JJI)B"⟩ : MethodName)) hown (own_w hw 2 rfl) (own_w hw 3 rfl) (own_w hw 4 rfl) (own_w hw 5 rfl) (by decide) (rm1 l Z a0 hw [] x3 x4 (6 : Int32) h14) e14 2 (argsL := [(.long x3), (.long x4), (.int 6)]) (rest := [(.int 6), (.ref b2)]) (Ls := #[.val (.long x0), .second, iv x1, iv x2, .val (.long x3), .second, .val (.long x4), .second, iv (Int32.ofNat Ln), iv (Int32.ofNat on), .val (.long w10), .second, rv b2]) (by rw [hml]; rfl) (lenOf pd__JJI_B rfl) rfl rfl (Nat.le_of_eq rfl) (hb hby at_128) (by decide) (by decide) (by decide) (by decide)
    replace X15 := own_nil X15
    refine own_go T15 m 131 #[.val (.long x0), .second, iv x1, iv x2, .val (.long x3), .second, .val (.long x4), .second, iv (Int32.ofNat Ln), iv (Int32.ofNat on), .val (.long w10), .second, rv b2] [(.int z15), (.int 6), (.ref b2)] (st15) ?_
    obtain ⟨T16, h16, X16, e16, W16, V16, st16⟩ := own_bastore X15 hx hZ e15 V14 (j := (6 : Int32)) ⟨by decide, by decide⟩ 6 rfl (Nat.le_of_ble_eq_true rfl) (Ls := #[.val (.long x0), .second, iv x1, iv x2, .val (.long x3), .second, .val (.long x4), .second, iv (Int32.ofNat Ln), iv (Int32.ofNat on), .val (.long w10), .second, rv b2]) (rest := []) (x := z15) (hb hby at_131)
    replace V16 : Arv Z h16 b2 k2 .byte (16 : Int32) [(.int z3.toInt8.toInt32), (.int z5.toInt8.toInt32), (.int z7.toInt8.toInt32), (.int z9.toInt8.toInt32), (.int z11.toInt8.toInt32), (.int z13.toInt8.toInt32), (.int z15.toInt8.toInt32), (.int 0), (.int 0), (.int 0), (.int 0), (.int 0), (.int 0), (.int 0), (.int 0), (.int 0)] (.int 0) := V16
    have Z_16 : n0 ≤ h16.size := Nat.le_trans Z_14 (Keep.of_wr W16).1
    have N16 := Fr.snoc X16 N14 g_b2
    refine own_go T16 m 132 #[.val (.long x0), .second, iv x1, iv x2, .val (.long x3), .second, .val (.long x4), .second, iv (Int32.ofNat Ln), iv (Int32.ofNat on), .val (.long w10), .second, rv b2] [] (st16) ?_
    refine own_go T16 m 134 #[.val (.long x0), .second, iv x1, iv x2, .val (.long x3), .second, .val (.long x4), .second, iv (Int32.ofNat Ln), iv (Int32.ofNat on), .val (.long w10), .second, rv b2] [(.ref b2)] (fun t k => XS.aload X16.here hx rfl (hb hby at_132) rfl rfl k) ?_
    refine own_go T16 m 136 #[.val (.long x0), .second, iv x1, iv x2, .val (.long x3), .second, .val (.long x4), .second, iv (Int32.ofNat Ln), iv (Int32.ofNat on), .val (.long w10), .second, rv b2] [(.int 7), (.ref b2)] (fun t k => XS.bipush X16.here hx rfl (hb hby at_134) k) ?_
    refine own_go T16 m 138 #[.val (.long x0), .second, iv x1, iv x2, .val (.long x3), .second, .val (.long x4), .second, iv (Int32.ofNat Ln), iv (Int32.ofNat on), .val (.long w10), .second, rv b2] [(.long x3), (.int 7), (.ref b2)] (fun t k => XS.lload X16.here hx rfl (hb hby at_136) rfl k) ?_
    refine own_go T16 m 140 #[.val (.long x0), .second, iv x1, iv x2, .val (.long x3), .second, .val (.long x4), .second, iv (Int32.ofNat Ln), iv (Int32.ofNat on), .val (.long w10), .second, rv b2] [(.long x4), (.long x3), (.int 7), (.ref b2)] (fun t k => XS.lload X16.here hx rfl (hb hby at_138) rfl k) ?_
    refine own_go T16 m 142 #[.val (.long x0), .second, iv x1, iv x2, .val (.long x3), .second, .val (.long x4), .second, iv (Int32.ofNat Ln), iv (Int32.ofNat on), .val (.long w10), .second, rv b2] [(.int 7), (.long x4), (.long x3), (.int 7), (.ref b2)] (fun t k => XS.bipush X16.here hx rfl (hb hby at_140) k) ?_
    obtain ⟨_, T17, L17, X17, ⟨⟨z17, rfl⟩, e17, rfl⟩, st17⟩ := own_static X16 hx hZ (y := (⟨"com/example/wirelens/wirelens/wire/VarintValuePinLaw", "junk", "(JJI)B"⟩ : MethodName)) hown (own_w hw 2 rfl) (own_w hw 3 rfl) (own_w hw 4 rfl) (own_w hw 5 rfl) (by decide) (rm1 l Z a0 hw [] x3 x4 (7 : Int32) h16) e16 2 (argsL := [(.long x3), (.long x4), (.int 7)]) (rest := [(.int 7), (.ref b2)]) (Ls := #[.val (.long x0), .second, iv x1, iv x2, .val (.long x3), .second, .val (.long x4), .second, iv (Int32.ofNat Ln), iv (Int32.ofNat on), .val (.long w10), .second, rv b2]) (by rw [hml]; rfl) (lenOf pd__JJI_B rfl) rfl rfl (Nat.le_of_eq rfl) (hb hby at_142) (by decide) (by decide) (by decide) (by decide)
    replace X17 := own_nil X17
    refine own_go T17 m 145 #[.val (.long x0), .second, iv x1, iv x2, .val (.long x3), .second, .val (.long x4), .second, iv (Int32.ofNat Ln), iv (Int32.ofNat on), .val (.long w10), .second, rv b2] [(.int z17), (.int 7), (.ref b2)] (st17) ?_
    obtain ⟨T18, h18, X18, e18, W18, V18, st18⟩ := own_bastore X17 hx hZ e17 V16 (j := (7 : Int32)) ⟨by decide, by decide⟩ 7 rfl (Nat.le_of_ble_eq_true rfl) (Ls := #[.val (.long x0), .second, iv x1, iv x2, .val (.long x3), .second, .val (.long x4), .second, iv (Int32.ofNat Ln), iv (Int32.ofNat on), .val (.long w10), .second, rv b2]) (rest := []) (x := z17) (hb hby at_145)
    replace V18 : Arv Z h18 b2 k2 .byte (16 : Int32) [(.int z3.toInt8.toInt32), (.int z5.toInt8.toInt32), (.int z7.toInt8.toInt32), (.int z9.toInt8.toInt32), (.int z11.toInt8.toInt32), (.int z13.toInt8.toInt32), (.int z15.toInt8.toInt32), (.int z17.toInt8.toInt32), (.int 0), (.int 0), (.int 0), (.int 0), (.int 0), (.int 0), (.int 0), (.int 0)] (.int 0) := V18
    have Z_18 : n0 ≤ h18.size := Nat.le_trans Z_16 (Keep.of_wr W18).1
    have N18 := Fr.snoc X18 N16 g_b2
    refine own_go T18 m 146 #[.val (.long x0), .second, iv x1, iv x2, .val (.long x3), .second, .val (.long x4), .second, iv (Int32.ofNat Ln), iv (Int32.ofNat on), .val (.long w10), .second, rv b2] [] (st18) ?_
    refine own_go T18 m 148 #[.val (.long x0), .second, iv x1, iv x2, .val (.long x3), .second, .val (.long x4), .second, iv (Int32.ofNat Ln), iv (Int32.ofNat on), .val (.long w10), .second, rv b2] [(.ref b2)] (fun t k => XS.aload X18.here hx rfl (hb hby at_146) rfl rfl k) ?_
    refine own_go T18 m 150 #[.val (.long x0), .second, iv x1, iv x2, .val (.long x3), .second, .val (.long x4), .second, iv (Int32.ofNat Ln), iv (Int32.ofNat on), .val (.long w10), .second, rv b2] [(.int 8), (.ref b2)] (fun t k => XS.bipush X18.here hx rfl (hb hby at_148) k) ?_
    refine own_go T18 m 152 #[.val (.long x0), .second, iv x1, iv x2, .val (.long x3), .second, .val (.long x4), .second, iv (Int32.ofNat Ln), iv (Int32.ofNat on), .val (.long w10), .second, rv b2] [(.long x3), (.int 8), (.ref b2)] (fun t k => XS.lload X18.here hx rfl (hb hby at_150) rfl k) ?_
    refine own_go T18 m 154 #[.val (.long x0), .second, iv x1, iv x2, .val (.long x3), .second, .val (.long x4), .second, iv (Int32.ofNat Ln), iv (Int32.ofNat on), .val (.long w10), .second, rv b2] [(.long x4), (.long x3), (.int 8), (.ref b2)] (fun t k => XS.lload X18.here hx rfl (hb hby at_152) rfl k) ?_
    refine own_go T18 m 156 #[.val (.long x0), .second, iv x1, iv x2, .val (.long x3), .second, .val (.long x4), .second, iv (Int32.ofNat Ln), iv (Int32.ofNat on), .val (.long w10), .second, rv b2] [(.int 8), (.long x4), (.long x3), (.int 8), (.ref b2)] (fun t k => XS.bipush X18.here hx rfl (hb hby at_154) k) ?_
    obtain ⟨_, T19, L19, X19, ⟨⟨z19, rfl⟩, e19, rfl⟩, st19⟩ := own_static X18 hx hZ (y := (⟨"com/example/wirelens/wirelens/wire/VarintValuePinLaw", "junk", "(JJI)B"⟩ : MethodName)) hown (own_w hw 2 rfl) (own_w hw 3 rfl) (own_w hw 4 rfl) (own_w hw 5 rfl) (by decide) (rm1 l Z a0 hw [] x3 x4 (8 : Int32) h18) e18 2 (argsL := [(.long x3), (.long x4), (.int 8)]) (rest := [(.int 8), (.ref b2)]) (Ls := #[.val (.long x0), .second, iv x1, iv x2, .val (.long x3), .second, .val (.long x4), .second, iv (Int32.ofNat Ln), iv (Int32.ofNat on), .val (.long w10), .second, rv b2]) (by rw [hml]; rfl) (lenOf pd__JJI_B rfl) rfl rfl (Nat.le_of_eq rfl) (hb hby at_156) (by decide) (by decide) (by decide) (by decide)
    replace X19 := own_nil X19
    refine own_go T19 m 159 #[.val (.long x0), .second, iv x1, iv x2, .val (.long x3), .second, .val (.long x4), .second, iv (Int32.ofNat Ln), iv (Int32.ofNat on), .val (.long w10), .second, rv b2] [(.int z19), (.int 8), (.ref b2)] (st19) ?_
    obtain ⟨T20, h20, X20, e20, W20, V20, st20⟩ := own_bastore X19 hx hZ e19 V18 (j := (8 : Int32)) ⟨by decide, by decide⟩ 8 rfl (Nat.le_of_ble_eq_true rfl) (Ls := #[.val (.long x0), .second, iv x1, iv x2, .val (.long x3), .second, .val (.long x4), .second, iv (Int32.ofNat Ln), iv (Int32.ofNat on), .val (.long w10), .second, rv b2]) (rest := []) (x := z19) (hb hby at_159)
    replace V20 : Arv Z h20 b2 k2 .byte (16 : Int32) [(.int z3.toInt8.toInt32), (.int z5.toInt8.toInt32), (.int z7.toInt8.toInt32), (.int z9.toInt8.toInt32), (.int z11.toInt8.toInt32), (.int z13.toInt8.toInt32), (.int z15.toInt8.toInt32), (.int z17.toInt8.toInt32), (.int z19.toInt8.toInt32), (.int 0), (.int 0), (.int 0), (.int 0), (.int 0), (.int 0), (.int 0)] (.int 0) := V20
    have Z_20 : n0 ≤ h20.size := Nat.le_trans Z_18 (Keep.of_wr W20).1
    have N20 := Fr.snoc X20 N18 g_b2
    refine own_go T20 m 160 #[.val (.long x0), .second, iv x1, iv x2, .val (.long x3), .second, .val (.long x4), .second, iv (Int32.ofNat Ln), iv (Int32.ofNat on), .val (.long w10), .second, rv b2] [] (st20) ?_
    refine own_go T20 m 162 #[.val (.long x0), .second, iv x1, iv x2, .val (.long x3), .second, .val (.long x4), .second, iv (Int32.ofNat Ln), iv (Int32.ofNat on), .val (.long w10), .second, rv b2] [(.ref b2)] (fun t k => XS.aload X20.here hx rfl (hb hby at_160) rfl rfl k) ?_
    refine own_go T20 m 164 #[.val (.long x0), .second, iv x1, iv x2, .val (.long x3), .second, .val (.long x4), .second, iv (Int32.ofNat Ln), iv (Int32.ofNat on), .val (.long w10), .second, rv b2] [(.int 9), (.ref b2)] (fun t k => XS.bipush X20.here hx rfl (hb hby at_162) k) ?_
    refine own_go T20 m 166 #[.val (.long x0), .second, iv x1, iv x2, .val (.long x3), .second, .val (.long x4), .second, iv (Int32.ofNat Ln), iv (Int32.ofNat on), .val (.long w10), .second, rv b2] [(.long x3), (.int 9), (.ref b2)] (fun t k => XS.lload X20.here hx rfl (hb hby at_164) rfl k) ?_
    refine own_go T20 m 168 #[.val (.long x0), .second, iv x1, iv x2, .val (.long x3), .second, .val (.long x4), .second, iv (Int32.ofNat Ln), iv (Int32.ofNat on), .val (.long w10), .second, rv b2] [(.long x4), (.long x3), (.int 9), (.ref b2)] (fun t k => XS.lload X20.here hx rfl (hb hby at_166) rfl k) ?_
    refine own_go T20 m 170 #[.val (.long x0), .second, iv x1, iv x2, .val (.long x3), .second, .val (.long x4), .second, iv (Int32.ofNat Ln), iv (Int32.ofNat on), .val (.long w10), .second, rv b2] [(.int 9), (.long x4), (.long x3), (.int 9), (.ref b2)] (fun t k => XS.bipush X20.here hx rfl (hb hby at_168) k) ?_
    obtain ⟨_, T21, L21, X21, ⟨⟨z21, rfl⟩, e21, rfl⟩, st21⟩ := own_static X20 hx hZ (y := (⟨"com/example/wirelens/wirelens/wire/VarintValuePinLaw", "junk", "(JJI)B"⟩ : MethodName)) hown (own_w hw 2 rfl) (own_w hw 3 rfl) (own_w hw 4 rfl) (own_w hw 5 rfl) (by decide) (rm1 l Z a0 hw [] x3 x4 (9 : Int32) h20) e20 2 (argsL := [(.long x3), (.long x4), (.int 9)]) (rest := [(.int 9), (.ref b2)]) (Ls := #[.val (.long x0), .second, iv x1, iv x2, .val (.long x3), .second, .val (.long x4), .second, iv (Int32.ofNat Ln), iv (Int32.ofNat on), .val (.long w10), .second, rv b2]) (by rw [hml]; rfl) (lenOf pd__JJI_B rfl) rfl rfl (Nat.le_of_eq rfl) (hb hby at_170) (by decide) (by decide) (by decide) (by decide)
    replace X21 := own_nil X21
    refine own_go T21 m 173 #[.val (.long x0), .second, iv x1, iv x2, .val (.long x3), .second, .val (.long x4), .second, iv (Int32.ofNat Ln), iv (Int32.ofNat on), .val (.long w10), .second, rv b2] [(.int z21), (.int 9), (.ref b2)] (st21) ?_
    obtain ⟨T22, h22, X22, e22, W22, V22, st22⟩ := own_bastore X21 hx hZ e21 V20 (j := (9 : Int32)) ⟨by decide, by decide⟩ 9 rfl (Nat.le_of_ble_eq_true rfl) (Ls := #[.val (.long x0), .second, iv x1, iv x2, .val (.long x3), .second, .val (.long x4), .second, iv (Int32.ofNat Ln), iv (Int32.ofNat on), .val (.long w10), .second, rv b2]) (rest := []) (x := z21) (hb hby at_173)
    replace V22 : Arv Z h22 b2 k2 .byte (16 : Int32) [(.int z3.toInt8.toInt32), (.int z5.toInt8.toInt32), (.int z7.toInt8.toInt32), (.int z9.toInt8.toInt32), (.int z11.toInt8.toInt32), (.int z13.toInt8.toInt32), (.int z15.toInt8.toInt32), (.int z17.toInt8.toInt32), (.int z19.toInt8.toInt32), (.int z21.toInt8.toInt32), (.int 0), (.int 0), (.int 0), (.int 0), (.int 0), (.int 0)] (.int 0) := V22
    have Z_22 : n0 ≤ h22.size := Nat.le_trans Z_20 (Keep.of_wr W22).1
    have N22 := Fr.snoc X22 N20 g_b2
    refine own_go T22 m 174 #[.val (.long x0), .second, iv x1, iv x2, .val (.long x3), .second, .val (.long x4), .second, iv (Int32.ofNat Ln), iv (Int32.ofNat on), .val (.long w10), .second, rv b2] [] (st22) ?_
    refine own_go T22 m 176 #[.val (.long x0), .second, iv x1, iv x2, .val (.long x3), .second, .val (.long x4), .second, iv (Int32.ofNat Ln), iv (Int32.ofNat on), .val (.long w10), .second, rv b2] [(.ref b2)] (fun t k => XS.aload X22.here hx rfl (hb hby at_174) rfl rfl k) ?_
    refine own_go T22 m 178 #[.val (.long x0), .second, iv x1, iv x2, .val (.long x3), .second, .val (.long x4), .second, iv (Int32.ofNat Ln), iv (Int32.ofNat on), .val (.long w10), .second, rv b2] [(.int 10), (.ref b2)] (fun t k => XS.bipush X22.here hx rfl (hb hby at_176) k) ?_
    refine own_go T22 m 180 #[.val (.long x0), .second, iv x1, iv x2, .val (.long x3), .second, .val (.long x4), .second, iv (Int32.ofNat Ln), iv (Int32.ofNat on), .val (.long w10), .second, rv b2] [(.long x3), (.int 10), (.ref b2)] (fun t k => XS.lload X22.here hx rfl (hb hby at_178) rfl k) ?_
    refine own_go T22 m 182 #[.val (.long x0), .second, iv x1, iv x2, .val (.long x3), .second, .val (.long x4), .second, iv (Int32.ofNat Ln), iv (Int32.ofNat on), .val (.long w10), .second, rv b2] [(.long x4), (.long x3), (.int 10), (.ref b2)] (fun t k => XS.lload X22.here hx rfl (hb hby at_180) rfl k) ?_
    refine own_go T22 m 184 #[.val (.long x0), .second, iv x1, iv x2, .val (.long x3), .second, .val (.long x4), .second, iv (Int32.ofNat Ln), iv (Int32.ofNat on), .val (.long w10), .second, rv b2] [(.int 10), (.long x4), (.long x3), (.int 10), (.ref b2)] (fun t k => XS.bipush X22.here hx rfl (hb hby at_182) k) ?_
    obtain ⟨_, T23, L23, X23, ⟨⟨z23, rfl⟩, e23, rfl⟩, st23⟩ := own_static X22 hx hZ (y := (⟨"com/example/wirelens/wirelens/wire/VarintValuePinLaw", "junk", "(JJI)B"⟩ : MethodName)) hown (own_w hw 2 rfl) (own_w hw 3 rfl) (own_w hw 4 rfl) (own_w hw 5 rfl) (by decide) (rm1 l Z a0 hw [] x3 x4 (10 : Int32) h22) e22 2 (argsL := [(.long x3), (.long x4), (.int 10)]) (rest := [(.int 10), (.ref b2)]) (Ls := #[.val (.long x0), .second, iv x1, iv x2, .val (.long x3), .second, .val (.long x4), .second, iv (Int32.ofNat Ln), iv (Int32.ofNat on), .val (.long w10), .second, rv b2]) (by rw [hml]; rfl) (lenOf pd__JJI_B rfl) rfl rfl (Nat.le_of_eq rfl) (hb hby at_184) (by decide) (by decide) (by decide) (by decide)
    replace X23 := own_nil X23
    refine own_go T23 m 187 #[.val (.long x0), .second, iv x1, iv x2, .val (.long x3), .second, .val (.long x4), .second, iv (Int32.ofNat Ln), iv (Int32.ofNat on), .val (.long w10), .second, rv b2] [(.int z23), (.int 10), (.ref b2)] (st23) ?_
    obtain ⟨T24, h24, X24, e24, W24, V24, st24⟩ := own_bastore X23 hx hZ e23 V22 (j := (10 : Int32)) ⟨by decide, by decide⟩ 10 rfl (Nat.le_of_ble_eq_true rfl) (Ls := #[.val (.long x0), .second, iv x1, iv x2, .val (.long x3), .second, .val (.long x4), .second, iv (Int32.ofNat Ln), iv (Int32.ofNat on), .val (.long w10), .second, rv b2]) (rest := []) (x := z23) (hb hby at_187)
    replace V24 : Arv Z h24 b2 k2 .byte (16 : Int32) [(.int z3.toInt8.toInt32), (.int z5.toInt8.toInt32), (.int z7.toInt8.toInt32), (.int z9.toInt8.toInt32), (.int z11.toInt8.toInt32), (.int z13.toInt8.toInt32), (.int z15.toInt8.toInt32), (.int z17.toInt8.toInt32), (.int z19.toInt8.toInt32), (.int z21.toInt8.toInt32), (.int z23.toInt8.toInt32), (.int 0), (.int 0), (.int 0), (.int 0), (.int 0)] (.int 0) := V24
    have Z_24 : n0 ≤ h24.size := Nat.le_trans Z_22 (Keep.of_wr W24).1
    have N24 := Fr.snoc X24 N22 g_b2
    refine own_go T24 m 188 #[.val (.long x0), .second, iv x1, iv x2, .val (.long x3), .second, .val (.long x4), .second, iv (Int32.ofNat Ln), iv (Int32.ofNat on), .val (.long w10), .second, rv b2] [] (st24) ?_
    refine own_go T24 m 190 #[.val (.long x0), .second, iv x1, iv x2, .val (.long x3), .second, .val (.long x4), .second, iv (Int32.ofNat Ln), iv (Int32.ofNat on), .val (.long w10), .second, rv b2] [(.ref b2)] (fun t k => XS.aload X24.here hx rfl (hb hby at_188) rfl rfl k) ?_
    refine own_go T24 m 192 #[.val (.long x0), .second, iv x1, iv x2, .val (.long x3), .second, .val (.long x4), .second, iv (Int32.ofNat Ln), iv (Int32.ofNat on), .val (.long w10), .second, rv b2] [(.int 11), (.ref b2)] (fun t k => XS.bipush X24.here hx rfl (hb hby at_190) k) ?_
    refine own_go T24 m 194 #[.val (.long x0), .second, iv x1, iv x2, .val (.long x3), .second, .val (.long x4), .second, iv (Int32.ofNat Ln), iv (Int32.ofNat on), .val (.long w10), .second, rv b2] [(.long x3), (.int 11), (.ref b2)] (fun t k => XS.lload X24.here hx rfl (hb hby at_192) rfl k) ?_
    refine own_go T24 m 196 #[.val (.long x0), .second, iv x1, iv x2, .val (.long x3), .second, .val (.long x4), .second, iv (Int32.ofNat Ln), iv (Int32.ofNat on), .val (.long w10), .second, rv b2] [(.long x4), (.long x3), (.int 11), (.ref b2)] (fun t k => XS.lload X24.here hx rfl (hb hby at_194) rfl k) ?_
    refine own_go T24 m 198 #[.val (.long x0), .second, iv x1, iv x2, .val (.long x3), .second, .val (.long x4), .second, iv (Int32.ofNat Ln), iv (Int32.ofNat on), .val (.long w10), .second, rv b2] [(.int 11), (.long x4), (.long x3), (.int 11), (.ref b2)] (fun t k => XS.bipush X24.here hx rfl (hb hby at_196) k) ?_
    obtain ⟨_, T25, L25, X25, ⟨⟨z25, rfl⟩, e25, rfl⟩, st25⟩ := own_static X24 hx hZ (y := (⟨"com/example/wirelens/wirelens/wire/VarintValuePinLaw", "junk", "(JJI)B"⟩ : MethodName)) hown (own_w hw 2 rfl) (own_w hw 3 rfl) (own_w hw 4 rfl) (own_w hw 5 rfl) (by decide) (rm1 l Z a0 hw [] x3 x4 (11 : Int32) h24) e24 2 (argsL := [(.long x3), (.long x4), (.int 11)]) (rest := [(.int 11), (.ref b2)]) (Ls := #[.val (.long x0), .second, iv x1, iv x2, .val (.long x3), .second, .val (.long x4), .second, iv (Int32.ofNat Ln), iv (Int32.ofNat on), .val (.long w10), .second, rv b2]) (by rw [hml]; rfl) (lenOf pd__JJI_B rfl) rfl rfl (Nat.le_of_eq rfl) (hb hby at_198) (by decide) (by decide) (by decide) (by decide)
    replace X25 := own_nil X25
    refine own_go T25 m 201 #[.val (.long x0), .second, iv x1, iv x2, .val (.long x3), .second, .val (.long x4), .second, iv (Int32.ofNat Ln), iv (Int32.ofNat on), .val (.long w10), .second, rv b2] [(.int z25), (.int 11), (.ref b2)] (st25) ?_
    obtain ⟨T26, h26, X26, e26, W26, V26, st26⟩ := own_bastore X25 hx hZ e25 V24 (j := (11 : Int32)) ⟨by decide, by decide⟩ 11 rfl (Nat.le_of_ble_eq_true rfl) (Ls := #[.val (.long x0), .second, iv x1, iv x2, .val (.long x3), .second, .val (.long x4), .second, iv (Int32.ofNat Ln), iv (Int32.ofNat on), .val (.long w10), .second, rv b2]) (rest := []) (x := z25) (hb hby at_201)
    replace V26 : Arv Z h26 b2 k2 .byte (16 : Int32) [(.int z3.toInt8.toInt32), (.int z5.toInt8.toInt32), (.int z7.toInt8.toInt32), (.int z9.toInt8.toInt32), (.int z11.toInt8.toInt32), (.int z13.toInt8.toInt32), (.int z15.toInt8.toInt32), (.int z17.toInt8.toInt32), (.int z19.toInt8.toInt32), (.int z21.toInt8.toInt32), (.int z23.toInt8.toInt32), (.int z25.toInt8.toInt32), (.int 0), (.int 0), (.int 0), (.int 0)] (.int 0) := V26
    have Z_26 : n0 ≤ h26.size := Nat.le_trans Z_24 (Keep.of_wr W26).1
    have N26 := Fr.snoc X26 N24 g_b2
    refine own_go T26 m 202 #[.val (.long x0), .second, iv x1, iv x2, .val (.long x3), .second, .val (.long x4), .second, iv (Int32.ofNat Ln), iv (Int32.ofNat on), .val (.long w10), .second, rv b2] [] (st26) ?_
    refine own_go T26 m 204 #[.val (.long x0), .second, iv x1, iv x2, .val (.long x3), .second, .val (.long x4), .second, iv (Int32.ofNat Ln), iv (Int32.ofNat on), .val (.long w10), .second, rv b2] [(.ref b2)] (fun t k => XS.aload X26.here hx rfl (hb hby at_202) rfl rfl k) ?_
    refine own_go T26 m 206 #[.val (.long x0), .second, iv x1, iv x2, .val (.long x3), .second, .val (.long x4), .second, iv (Int32.ofNat Ln), iv (Int32.ofNat on), .val (.long w10), .second, rv b2] [(.int 12), (.ref b2)] (fun t k => XS.bipush X26.here hx rfl (hb hby at_204) k) ?_
    refine own_go T26 m 208 #[.val (.long x0), .second, iv x1, iv x2, .val (.long x3), .second, .val (.long x4), .second, iv (Int32.ofNat Ln), iv (Int32.ofNat on), .val (.long w10), .second, rv b2] [(.long x3), (.int 12), (.ref b2)] (fun t k => XS.lload X26.here hx rfl (hb hby at_206) rfl k) ?_
    refine own_go T26 m 210 #[.val (.long x0), .second, iv x1, iv x2, .val (.long x3), .second, .val (.long x4), .second, iv (Int32.ofNat Ln), iv (Int32.ofNat on), .val (.long w10), .second, rv b2] [(.long x4), (.long x3), (.int 12), (.ref b2)] (fun t k => XS.lload X26.here hx rfl (hb hby at_208) rfl k) ?_
    refine own_go T26 m 212 #[.val (.long x0), .second, iv x1, iv x2, .val (.long x3), .second, .val (.long x4), .second, iv (Int32.ofNat Ln), iv (Int32.ofNat on), .val (.long w10), .second, rv b2] [(.int 12), (.long x4), (.long x3), (.int 12), (.ref b2)] (fun t k => XS.bipush X26.here hx rfl (hb hby at_210) k) ?_
    obtain ⟨_, T27, L27, X27, ⟨⟨z27, rfl⟩, e27, rfl⟩, st27⟩ := own_static X26 hx hZ (y := (⟨"com/example/wirelens/wirelens/wire/VarintValuePinLaw", "junk", "(JJI)B"⟩ : MethodName)) hown (own_w hw 2 rfl) (own_w hw 3 rfl) (own_w hw 4 rfl) (own_w hw 5 rfl) (by decide) (rm1 l Z a0 hw [] x3 x4 (12 : Int32) h26) e26 2 (argsL := [(.long x3), (.long x4), (.int 12)]) (rest := [(.int 12), (.ref b2)]) (Ls := #[.val (.long x0), .second, iv x1, iv x2, .val (.long x3), .second, .val (.long x4), .second, iv (Int32.ofNat Ln), iv (Int32.ofNat on), .val (.long w10), .second, rv b2]) (by rw [hml]; rfl) (lenOf pd__JJI_B rfl) rfl rfl (Nat.le_of_eq rfl) (hb hby at_212) (by decide) (by decide) (by decide) (by decide)
    replace X27 := own_nil X27
    refine own_go T27 m 215 #[.val (.long x0), .second, iv x1, iv x2, .val (.long x3), .second, .val (.long x4), .second, iv (Int32.ofNat Ln), iv (Int32.ofNat on), .val (.long w10), .second, rv b2] [(.int z27), (.int 12), (.ref b2)] (st27) ?_
    obtain ⟨T28, h28, X28, e28, W28, V28, st28⟩ := own_bastore X27 hx hZ e27 V26 (j := (12 : Int32)) ⟨by decide, by decide⟩ 12 rfl (Nat.le_of_ble_eq_true rfl) (Ls := #[.val (.long x0), .second, iv x1, iv x2, .val (.long x3), .second, .val (.long x4), .second, iv (Int32.ofNat Ln), iv (Int32.ofNat on), .val (.long w10), .second, rv b2]) (rest := []) (x := z27) (hb hby at_215)
    replace V28 : Arv Z h28 b2 k2 .byte (16 : Int32) [(.int z3.toInt8.toInt32), (.int z5.toInt8.toInt32), (.int z7.toInt8.toInt32), (.int z9.toInt8.toInt32), (.int z11.toInt8.toInt32), (.int z13.toInt8.toInt32), (.int z15.toInt8.toInt32), (.int z17.toInt8.toInt32), (.int z19.toInt8.toInt32), (.int z21.toInt8.toInt32), (.int z23.toInt8.toInt32), (.int z25.toInt8.toInt32), (.int z27.toInt8.toInt32), (.int 0), (.int 0), (.int 0)] (.int 0) := V28
    have Z_28 : n0 ≤ h28.size := Nat.le_trans Z_26 (Keep.of_wr W28).1
    have N28 := Fr.snoc X28 N26 g_b2
    refine own_go T28 m 216 #[.val (.long x0), .second, iv x1, iv x2, .val (.long x3), .second, .val (.long x4), .second, iv (Int32.ofNat Ln), iv (Int32.ofNat on), .val (.long w10), .second, rv b2] [] (st28) ?_
    refine own_go T28 m 218 #[.val (.long x0), .second, iv x1, iv x2, .val (.long x3), .second, .val (.long x4), .second, iv (Int32.ofNat Ln), iv (Int32.ofNat on), .val (.long w10), .second, rv b2] [(.ref b2)] (fun t k => XS.aload X28.here hx rfl (hb hby at_216) rfl rfl k) ?_
    refine own_go T28 m 220 #[.val (.long x0), .second, iv x1, iv x2, .val (.long x3), .second, .val (.long x4), .second, iv (Int32.ofNat Ln), iv (Int32.ofNat on), .val (.long w10), .second, rv b2] [(.int 13), (.ref b2)] (fun t k => XS.bipush X28.here hx rfl (hb hby at_218) k) ?_
    refine own_go T28 m 222 #[.val (.long x0), .second, iv x1, iv x2, .val (.long x3), .second, .val (.long x4), .second, iv (Int32.ofNat Ln), iv (Int32.ofNat on), .val (.long w10), .second, rv b2] [(.long x3), (.int 13), (.ref b2)] (fun t k => XS.lload X28.here hx rfl (hb hby at_220) rfl k) ?_
    refine own_go T28 m 224 #[.val (.long x0), .second, iv x1, iv x2, .val (.long x3), .second, .val (.long x4), .second, iv (Int32.ofNat Ln), iv (Int32.ofNat on), .val (.long w10), .second, rv b2] [(.long x4), (.long x3), (.int 13), (.ref b2)] (fun t k => XS.lload X28.here hx rfl (hb hby at_222) rfl k) ?_
    refine own_go T28 m 226 #[.val (.long x0), .second, iv x1, iv x2, .val (.long x3), .second, .val (.long x4), .second, iv (Int32.ofNat Ln), iv (Int32.ofNat on), .val (.long w10), .second, rv b2] [(.int 13), (.long x4), (.long x3), (.int 13), (.ref b2)] (fun t k => XS.bipush X28.here hx rfl (hb hby at_224) k) ?_
    obtain ⟨_, T29, L29, X29, ⟨⟨z29, rfl⟩, e29, rfl⟩, st29⟩ := own_static X28 hx hZ (y := (⟨"com/example/wirelens/wirelens/wire/VarintValuePinLaw", "junk", "(JJI)B"⟩ : MethodName)) hown (own_w hw 2 rfl) (own_w hw 3 rfl) (own_w hw 4 rfl) (own_w hw 5 rfl) (by decide) (rm1 l Z a0 hw [] x3 x4 (13 : Int32) h28) e28 2 (argsL := [(.long x3), (.long x4), (.int 13)]) (rest := [(.int 13), (.ref b2)]) (Ls := #[.val (.long x0), .second, iv x1, iv x2, .val (.long x3), .second, .val (.long x4), .second, iv (Int32.ofNat Ln), iv (Int32.ofNat on), .val (.long w10), .second, rv b2]) (by rw [hml]; rfl) (lenOf pd__JJI_B rfl) rfl rfl (Nat.le_of_eq rfl) (hb hby at_226) (by decide) (by decide) (by decide) (by decide)
    replace X29 := own_nil X29
    refine own_go T29 m 229 #[.val (.long x0), .second, iv x1, iv x2, .val (.long x3), .second, .val (.long x4), .second, iv (Int32.ofNat Ln), iv (Int32.ofNat on), .val (.long w10), .second, rv b2] [(.int z29), (.int 13), (.ref b2)] (st29) ?_
    obtain ⟨T30, h30, X30, e30, W30, V30, st30⟩ := own_bastore X29 hx hZ e29 V28 (j := (13 : Int32)) ⟨by decide, by decide⟩ 13 rfl (Nat.le_of_ble_eq_true rfl) (Ls := #[.val (.long x0), .second, iv x1, iv x2, .val (.long x3), .second, .val (.long x4), .second, iv (Int32.ofNat Ln), iv (Int32.ofNat on), .val (.long w10), .second, rv b2]) (rest := []) (x := z29) (hb hby at_229)
    replace V30 : Arv Z h30 b2 k2 .byte (16 : Int32) [(.int z3.toInt8.toInt32), (.int z5.toInt8.toInt32), (.int z7.toInt8.toInt32), (.int z9.toInt8.toInt32), (.int z11.toInt8.toInt32), (.int z13.toInt8.toInt32), (.int z15.toInt8.toInt32), (.int z17.toInt8.toInt32), (.int z19.toInt8.toInt32), (.int z21.toInt8.toInt32), (.int z23.toInt8.toInt32), (.int z25.toInt8.toInt32), (.int z27.toInt8.toInt32), (.int z29.toInt8.toInt32), (.int 0), (.int 0)] (.int 0) := V30
    have Z_30 : n0 ≤ h30.size := Nat.le_trans Z_28 (Keep.of_wr W30).1
    have N30 := Fr.snoc X30 N28 g_b2
    refine own_go T30 m 230 #[.val (.long x0), .second, iv x1, iv x2, .val (.long x3), .second, .val (.long x4), .second, iv (Int32.ofNat Ln), iv (Int32.ofNat on), .val (.long w10), .second, rv b2] [] (st30) ?_
    refine own_go T30 m 232 #[.val (.long x0), .second, iv x1, iv x2, .val (.long x3), .second, .val (.long x4), .second, iv (Int32.ofNat Ln), iv (Int32.ofNat on), .val (.long w10), .second, rv b2] [(.ref b2)] (fun t k => XS.aload X30.here hx rfl (hb hby at_230) rfl rfl k) ?_
    refine own_go T30 m 234 #[.val (.long x0), .second, iv x1, iv x2, .val (.long x3), .second, .val (.long x4), .second, iv (Int32.ofNat Ln), iv (Int32.ofNat on), .val (.long w10), .second, rv b2] [(.int 14), (.ref b2)] (fun t k => XS.bipush X30.here hx rfl (hb hby at_232) k) ?_
    refine own_go T30 m 236 #[.val (.long x0), .second, iv x1, iv x2, .val (.long x3), .second, .val (.long x4), .second, iv (Int32.ofNat Ln), iv (Int32.ofNat on), .val (.long w10), .second, rv b2] [(.long x3), (.int 14), (.ref b2)] (fun t k => XS.lload X30.here hx rfl (hb hby at_234) rfl k) ?_
    refine own_go T30 m 238 #[.val (.long x0), .second, iv x1, iv x2, .val (.long x3), .second, .val (.long x4), .second, iv (Int32.ofNat Ln), iv (Int32.ofNat on), .val (.long w10), .second, rv b2] [(.long x4), (.long x3), (.int 14), (.ref b2)] (fun t k => XS.lload X30.here hx rfl (hb hby at_236) rfl k) ?_
    refine own_go T30 m 240 #[.val (.long x0), .second, iv x1, iv x2, .val (.long x3), .second, .val (.long x4), .second, iv (Int32.ofNat Ln), iv (Int32.ofNat on), .val (.long w10), .second, rv b2] [(.int 14), (.long x4), (.long x3), (.int 14), (.ref b2)] (fun t k => XS.bipush X30.here hx rfl (hb hby at_238) k) ?_
    obtain ⟨_, T31, L31, X31, ⟨⟨z31, rfl⟩, e31, rfl⟩, st31⟩ := own_static X30 hx hZ (y := (⟨"com/example/wirelens/wirelens/wire/VarintValuePinLaw", "junk", "(JJI)B"⟩ : MethodName)) hown (own_w hw 2 rfl) (own_w hw 3 rfl) (own_w hw 4 rfl) (own_w hw 5 rfl) (by decide) (rm1 l Z a0 hw [] x3 x4 (14 : Int32) h30) e30 2 (argsL := [(.long x3), (.long x4), (.int 14)]) (rest := [(.int 14), (.ref b2)]) (Ls := #[.val (.long x0), .second, iv x1, iv x2, .val (.long x3), .second, .val (.long x4), .second, iv (Int32.ofNat Ln), iv (Int32.ofNat on), .val (.long w10), .second, rv b2]) (by rw [hml]; rfl) (lenOf pd__JJI_B rfl) rfl rfl (Nat.le_of_eq rfl) (hb hby at_240) (by decide) (by decide) (by decide) (by decide)
    replace X31 := own_nil X31
    refine own_go T31 m 243 #[.val (.long x0), .second, iv x1, iv x2, .val (.long x3), .second, .val (.long x4), .second, iv (Int32.ofNat Ln), iv (Int32.ofNat on), .val (.long w10), .second, rv b2] [(.int z31), (.int 14), (.ref b2)] (st31) ?_
    obtain ⟨T32, h32, X32, e32, W32, V32, st32⟩ := own_bastore X31 hx hZ e31 V30 (j := (14 : Int32)) ⟨by decide, by decide⟩ 14 rfl (Nat.le_of_ble_eq_true rfl) (Ls := #[.val (.long x0), .second, iv x1, iv x2, .val (.long x3), .second, .val (.long x4), .second, iv (Int32.ofNat Ln), iv (Int32.ofNat on), .val (.long w10), .second, rv b2]) (rest := []) (x := z31) (hb hby at_243)
    replace V32 : Arv Z h32 b2 k2 .byte (16 : Int32) [(.int z3.toInt8.toInt32), (.int z5.toInt8.toInt32), (.int z7.toInt8.toInt32), (.int z9.toInt8.toInt32), (.int z11.toInt8.toInt32), (.int z13.toInt8.toInt32), (.int z15.toInt8.toInt32), (.int z17.toInt8.toInt32), (.int z19.toInt8.toInt32), (.int z21.toInt8.toInt32), (.int z23.toInt8.toInt32), (.int z25.toInt8.toInt32), (.int z27.toInt8.toInt32), (.int z29.toInt8.toInt32), (.int z31.toInt8.toInt32), (.int 0)] (.int 0) := V32
    have Z_32 : n0 ≤ h32.size := Nat.le_trans Z_30 (Keep.of_wr W32).1
    have N32 := Fr.snoc X32 N30 g_b2
    refine own_go T32 m 244 #[.val (.long x0), .second, iv x1, iv x2, .val (.long x3), .second, .val (.long x4), .second, iv (Int32.ofNat Ln), iv (Int32.ofNat on), .val (.long w10), .second, rv b2] [] (st32) ?_
    refine own_go T32 m 246 #[.val (.long x0), .second, iv x1, iv x2, .val (.long x3), .second, .val (.long x4), .second, iv (Int32.ofNat Ln), iv (Int32.ofNat on), .val (.long w10), .second, rv b2] [(.ref b2)] (fun t k => XS.aload X32.here hx rfl (hb hby at_244) rfl rfl k) ?_
    refine own_go T32 m 248 #[.val (.long x0), .second, iv x1, iv x2, .val (.long x3), .second, .val (.long x4), .second, iv (Int32.ofNat Ln), iv (Int32.ofNat on), .val (.long w10), .second, rv b2] [(.int 15), (.ref b2)] (fun t k => XS.bipush X32.here hx rfl (hb hby at_246) k) ?_
    refine own_go T32 m 250 #[.val (.long x0), .second, iv x1, iv x2, .val (.long x3), .second, .val (.long x4), .second, iv (Int32.ofNat Ln), iv (Int32.ofNat on), .val (.long w10), .second, rv b2] [(.long x3), (.int 15), (.ref b2)] (fun t k => XS.lload X32.here hx rfl (hb hby at_248) rfl k) ?_
    refine own_go T32 m 252 #[.val (.long x0), .second, iv x1, iv x2, .val (.long x3), .second, .val (.long x4), .second, iv (Int32.ofNat Ln), iv (Int32.ofNat on), .val (.long w10), .second, rv b2] [(.long x4), (.long x3), (.int 15), (.ref b2)] (fun t k => XS.lload X32.here hx rfl (hb hby at_250) rfl k) ?_
    refine own_go T32 m 254 #[.val (.long x0), .second, iv x1, iv x2, .val (.long x3), .second, .val (.long x4), .second, iv (Int32.ofNat Ln), iv (Int32.ofNat on), .val (.long w10), .second, rv b2] [(.int 15), (.long x4), (.long x3), (.int 15), (.ref b2)] (fun t k => XS.bipush X32.here hx rfl (hb hby at_252) k) ?_
    obtain ⟨_, T33, L33, X33, ⟨⟨z33, rfl⟩, e33, rfl⟩, st33⟩ := own_static X32 hx hZ (y := (⟨"com/example/wirelens/wirelens/wire/VarintValuePinLaw", "junk", "(JJI)B"⟩ : MethodName)) hown (own_w hw 2 rfl) (own_w hw 3 rfl) (own_w hw 4 rfl) (own_w hw 5 rfl) (by decide) (rm1 l Z a0 hw [] x3 x4 (15 : Int32) h32) e32 2 (argsL := [(.long x3), (.long x4), (.int 15)]) (rest := [(.int 15), (.ref b2)]) (Ls := #[.val (.long x0), .second, iv x1, iv x2, .val (.long x3), .second, .val (.long x4), .second, iv (Int32.ofNat Ln), iv (Int32.ofNat on), .val (.long w10), .second, rv b2]) (by rw [hml]; rfl) (lenOf pd__JJI_B rfl) rfl rfl (Nat.le_of_eq rfl) (hb hby at_254) (by decide) (by decide) (by decide) (by decide)
    replace X33 := own_nil X33
    refine own_go T33 m 257 #[.val (.long x0), .second, iv x1, iv x2, .val (.long x3), .second, .val (.long x4), .second, iv (Int32.ofNat Ln), iv (Int32.ofNat on), .val (.long w10), .second, rv b2] [(.int z33), (.int 15), (.ref b2)] (st33) ?_
    obtain ⟨T34, h34, X34, e34, W34, V34, st34⟩ := own_bastore X33 hx hZ e33 V32 (j := (15 : Int32)) ⟨by decide, by decide⟩ 15 rfl (Nat.le_of_ble_eq_true rfl) (Ls := #[.val (.long x0), .second, iv x1, iv x2, .val (.long x3), .second, .val (.long x4), .second, iv (Int32.ofNat Ln), iv (Int32.ofNat on), .val (.long w10), .second, rv b2]) (rest := []) (x := z33) (hb hby at_257)
    replace V34 : Arv Z h34 b2 k2 .byte (16 : Int32) [(.int z3.toInt8.toInt32), (.int z5.toInt8.toInt32), (.int z7.toInt8.toInt32), (.int z9.toInt8.toInt32), (.int z11.toInt8.toInt32), (.int z13.toInt8.toInt32), (.int z15.toInt8.toInt32), (.int z17.toInt8.toInt32), (.int z19.toInt8.toInt32), (.int z21.toInt8.toInt32), (.int z23.toInt8.toInt32), (.int z25.toInt8.toInt32), (.int z27.toInt8.toInt32), (.int z29.toInt8.toInt32), (.int z31.toInt8.toInt32), (.int z33.toInt8.toInt32)] (.int 0) := V34
    have Z_34 : n0 ≤ h34.size := Nat.le_trans Z_32 (Keep.of_wr W34).1
    have N34 := Fr.snoc X34 N32 g_b2
    refine own_go T34 m 258 #[.val (.long x0), .second, iv x1, iv x2, .val (.long x3), .second, .val (.long x4), .second, iv (Int32.ofNat Ln), iv (Int32.ofNat on), .val (.long w10), .second, rv b2] [] (st34) ?_
    obtain ⟨vs0, hvs0⟩ : ∃ z : List Value, z = [(.int z3.toInt8.toInt32), (.int z5.toInt8.toInt32), (.int z7.toInt8.toInt32), (.int z9.toInt8.toInt32), (.int z11.toInt8.toInt32), (.int z13.toInt8.toInt32), (.int z15.toInt8.toInt32), (.int z17.toInt8.toInt32), (.int z19.toInt8.toInt32), (.int z21.toInt8.toInt32), (.int z23.toInt8.toInt32), (.int z25.toInt8.toInt32), (.int z27.toInt8.toInt32), (.int z29.toInt8.toInt32), (.int z31.toInt8.toInt32), (.int z33.toInt8.toInt32)] := ⟨_, rfl⟩
    rw [← hvs0] at V34
    have hl0 : vs0.length = 16 := by rw [hvs0]; rfl
    refine own_go T34 m 260 #[.val (.long x0), .second, iv x1, iv x2, .val (.long x3), .second, .val (.long x4), .second, iv (Int32.ofNat Ln), iv (Int32.ofNat on), .val (.long w10), .second, rv b2] [(.ref b2)] (fun t k => XS.aload X34.here hx rfl (hb hby at_258) rfl rfl k) ?_
    refine own_go T34 m 262 #[.val (.long x0), .second, iv x1, iv x2, .val (.long x3), .second, .val (.long x4), .second, iv (Int32.ofNat Ln), iv (Int32.ofNat on), .val (.long w10), .second, rv b2] [(.int (Int32.ofNat on)), (.ref b2)] (fun t k => XS.iload X34.here hx rfl (hb hby at_260) rfl k) ?_
    refine own_go T34 m 264 #[.val (.long x0), .second, iv x1, iv x2, .val (.long x3), .second, .val (.long x4), .second, iv (Int32.ofNat Ln), iv (Int32.ofNat on), .val (.long w10), .second, rv b2] [(.long w10), (.int (Int32.ofNat on)), (.ref b2)] (fun t k => XS.lload X34.here hx rfl (hb hby at_262) rfl k) ?_
    refine own_go T34 m 266 #[.val (.long x0), .second, iv x1, iv x2, .val (.long x3), .second, .val (.long x4), .second, iv (Int32.ofNat Ln), iv (Int32.ofNat on), .val (.long w10), .second, rv b2] [(.int (Int32.ofNat Ln)), (.long w10), (.int (Int32.ofNat on)), (.ref b2)] (fun t k => XS.iload X34.here hx rfl (hb hby at_264) rfl k) ?_
    refine own_go T34 m 267 #[.val (.long x0), .second, iv x1, iv x2, .val (.long x3), .second, .val (.long x4), .second, iv (Int32.ofNat Ln), iv (Int32.ofNat on), .val (.long w10), .second, rv b2] [(.int 0), (.int (Int32.ofNat Ln)), (.long w10), (.int (Int32.ofNat on)), (.ref b2)] (fun t k => XS.iconst X34.here hx rfl (hb hby at_266) k) ?_
    obtain ⟨_, T35, L35, X35, ⟨rfl, Nq35, Kq35, Vq35⟩, st35⟩ := own_static X34 hx hZ (y := (⟨"com/example/wirelens/wirelens/wire/VarintValuePinLaw", "put", "([BIJII)V"⟩ : MethodName)) hown (own_w hw 6 rfl) (own_w hw 7 rfl) (own_w hw 4 rfl) (own_w hw 8 rfl) (by decide) (rm2 l Z a0 hw [] b2 w10 on Ln 0 k2 (own_puts vs0 on w10 Ln 0) h34 n0 Z_34 g_b2 hon hLn (by decide) (by rw [own_puts_len]; exact hl0) V34) e34 0 (argsL := [(.ref b2), (.int (Int32.ofNat on)), (.long w10), (.int (Int32.ofNat Ln)), (.int 0)]) (rest := []) (Ls := #[.val (.long x0), .second, iv x1, iv x2, .val (.long x3), .second, .val (.long x4), .second, iv (Int32.ofNat Ln), iv (Int32.ofNat on), .val (.long w10), .second, rv b2]) (by rw [hml]; rfl) (lenOf pd___BIJII_V rfl) rfl rfl (Nat.le_of_eq rfl) (hb hby at_267) (by decide) (by decide) (by decide) (by decide)
    have N35 := Fr.app N34 Nq35
    have Z_35 : n0 ≤ T35.heap.size := Nat.le_trans Z_34 Kq35.1
    have V35 : Arv Z T35.heap b2 k2 .byte 16 (own_puts vs0 on w10 Ln 1) (.int 0) := Vq35
    refine own_go T35 m 270 #[.val (.long x0), .second, iv x1, iv x2, .val (.long x3), .second, .val (.long x4), .second, iv (Int32.ofNat Ln), iv (Int32.ofNat on), .val (.long w10), .second, rv b2] [] (st35) ?_
    refine own_go T35 m 272 #[.val (.long x0), .second, iv x1, iv x2, .val (.long x3), .second, .val (.long x4), .second, iv (Int32.ofNat Ln), iv (Int32.ofNat on), .val (.long w10), .second, rv b2] [(.ref b2)] (fun t k => XS.aload X35.here hx rfl (hb hby at_270) rfl rfl k) ?_
    refine own_go T35 m 274 #[.val (.long x0), .second, iv x1, iv x2, .val (.long x3), .second, .val (.long x4), .second, iv (Int32.ofNat Ln), iv (Int32.ofNat on), .val (.long w10), .second, rv b2] [(.int (Int32.ofNat on)), (.ref b2)] (fun t k => XS.iload X35.here hx rfl (hb hby at_272) rfl k) ?_
    refine own_go T35 m 276 #[.val (.long x0), .second, iv x1, iv x2, .val (.long x3), .second, .val (.long x4), .second, iv (Int32.ofNat Ln), iv (Int32.ofNat on), .val (.long w10), .second, rv b2] [(.long w10), (.int (Int32.ofNat on)), (.ref b2)] (fun t k => XS.lload X35.here hx rfl (hb hby at_274) rfl k) ?_
    refine own_go T35 m 278 #[.val (.long x0), .second, iv x1, iv x2, .val (.long x3), .second, .val (.long x4), .second, iv (Int32.ofNat Ln), iv (Int32.ofNat on), .val (.long w10), .second, rv b2] [(.int (Int32.ofNat Ln)), (.long w10), (.int (Int32.ofNat on)), (.ref b2)] (fun t k => XS.iload X35.here hx rfl (hb hby at_276) rfl k) ?_
    refine own_go T35 m 279 #[.val (.long x0), .second, iv x1, iv x2, .val (.long x3), .second, .val (.long x4), .second, iv (Int32.ofNat Ln), iv (Int32.ofNat on), .val (.long w10), .second, rv b2] [(.int 1), (.int (Int32.ofNat Ln)), (.long w10), (.int (Int32.ofNat on)), (.ref b2)] (fun t k => XS.iconst X35.here hx rfl (hb hby at_278) k) ?_
    obtain ⟨_, T36, L36, X36, ⟨rfl, Nq36, Kq36, Vq36⟩, st36⟩ := own_static X35 hx hZ (y := (⟨"com/example/wirelens/wirelens/wire/VarintValuePinLaw", "put", "([BIJII)V"⟩ : MethodName)) hown (own_w hw 6 rfl) (own_w hw 7 rfl) (own_w hw 4 rfl) (own_w hw 8 rfl) (by decide) (rm2 l Z a0 hw [] b2 w10 on Ln 1 k2 (own_puts vs0 on w10 Ln 1) T35.heap n0 Z_35 g_b2 hon hLn (by decide) (by rw [own_puts_len]; exact hl0) V35) rfl 0 (argsL := [(.ref b2), (.int (Int32.ofNat on)), (.long w10), (.int (Int32.ofNat Ln)), (.int 1)]) (rest := []) (Ls := #[.val (.long x0), .second, iv x1, iv x2, .val (.long x3), .second, .val (.long x4), .second, iv (Int32.ofNat Ln), iv (Int32.ofNat on), .val (.long w10), .second, rv b2]) (by rw [hml]; rfl) (lenOf pd___BIJII_V rfl) rfl rfl (Nat.le_of_eq rfl) (hb hby at_279) (by decide) (by decide) (by decide) (by decide)
    have N36 := Fr.app N35 Nq36
    have Z_36 : n0 ≤ T36.heap.size := Nat.le_trans Z_35 Kq36.1
    have V36 : Arv Z T36.heap b2 k2 .byte 16 (own_puts vs0 on w10 Ln 2) (.int 0) := Vq36
    refine own_go T36 m 282 #[.val (.long x0), .second, iv x1, iv x2, .val (.long x3), .second, .val (.long x4), .second, iv (Int32.ofNat Ln), iv (Int32.ofNat on), .val (.long w10), .second, rv b2] [] (st36) ?_
    refine own_go T36 m 284 #[.val (.long x0), .second, iv x1, iv x2, .val (.long x3), .second, .val (.long x4), .second, iv (Int32.ofNat Ln), iv (Int32.ofNat on), .val (.long w10), .second, rv b2] [(.ref b2)] (fun t k => XS.aload X36.here hx rfl (hb hby at_282) rfl rfl k) ?_
    refine own_go T36 m 286 #[.val (.long x0), .second, iv x1, iv x2, .val (.long x3), .second, .val (.long x4), .second, iv (Int32.ofNat Ln), iv (Int32.ofNat on), .val (.long w10), .second, rv b2] [(.int (Int32.ofNat on)), (.ref b2)] (fun t k => XS.iload X36.here hx rfl (hb hby at_284) rfl k) ?_
    refine own_go T36 m 288 #[.val (.long x0), .second, iv x1, iv x2, .val (.long x3), .second, .val (.long x4), .second, iv (Int32.ofNat Ln), iv (Int32.ofNat on), .val (.long w10), .second, rv b2] [(.long w10), (.int (Int32.ofNat on)), (.ref b2)] (fun t k => XS.lload X36.here hx rfl (hb hby at_286) rfl k) ?_
    refine own_go T36 m 290 #[.val (.long x0), .second, iv x1, iv x2, .val (.long x3), .second, .val (.long x4), .second, iv (Int32.ofNat Ln), iv (Int32.ofNat on), .val (.long w10), .second, rv b2] [(.int (Int32.ofNat Ln)), (.long w10), (.int (Int32.ofNat on)), (.ref b2)] (fun t k => XS.iload X36.here hx rfl (hb hby at_288) rfl k) ?_
    refine own_go T36 m 291 #[.val (.long x0), .second, iv x1, iv x2, .val (.long x3), .second, .val (.long x4), .second, iv (Int32.ofNat Ln), iv (Int32.ofNat on), .val (.long w10), .second, rv b2] [(.int 2), (.int (Int32.ofNat Ln)), (.long w10), (.int (Int32.ofNat on)), (.ref b2)] (fun t k => XS.iconst X36.here hx rfl (hb hby at_290) k) ?_
    obtain ⟨_, T37, L37, X37, ⟨rfl, Nq37, Kq37, Vq37⟩, st37⟩ := own_static X36 hx hZ (y := (⟨"com/example/wirelens/wirelens/wire/VarintValuePinLaw", "put", "([BIJII)V"⟩ : MethodName)) hown (own_w hw 6 rfl) (own_w hw 7 rfl) (own_w hw 4 rfl) (own_w hw 8 rfl) (by decide) (rm2 l Z a0 hw [] b2 w10 on Ln 2 k2 (own_puts vs0 on w10 Ln 2) T36.heap n0 Z_36 g_b2 hon hLn (by decide) (by rw [own_puts_len]; exact hl0) V36) rfl 0 (argsL := [(.ref b2), (.int (Int32.ofNat on)), (.long w10), (.int (Int32.ofNat Ln)), (.int 2)]) (rest := []) (Ls := #[.val (.long x0), .second, iv x1, iv x2, .val (.long x3), .second, .val (.long x4), .second, iv (Int32.ofNat Ln), iv (Int32.ofNat on), .val (.long w10), .second, rv b2]) (by rw [hml]; rfl) (lenOf pd___BIJII_V rfl) rfl rfl (Nat.le_of_eq rfl) (hb hby at_291) (by decide) (by decide) (by decide) (by decide)
    have N37 := Fr.app N36 Nq37
    have Z_37 : n0 ≤ T37.heap.size := Nat.le_trans Z_36 Kq37.1
    have V37 : Arv Z T37.heap b2 k2 .byte 16 (own_puts vs0 on w10 Ln 3) (.int 0) := Vq37
    refine own_go T37 m 294 #[.val (.long x0), .second, iv x1, iv x2, .val (.long x3), .second, .val (.long x4), .second, iv (Int32.ofNat Ln), iv (Int32.ofNat on), .val (.long w10), .second, rv b2] [] (st37) ?_
    refine own_go T37 m 296 #[.val (.long x0), .second, iv x1, iv x2, .val (.long x3), .second, .val (.long x4), .second, iv (Int32.ofNat Ln), iv (Int32.ofNat on), .val (.long w10), .second, rv b2] [(.ref b2)] (fun t k => XS.aload X37.here hx rfl (hb hby at_294) rfl rfl k) ?_
    refine own_go T37 m 298 #[.val (.long x0), .second, iv x1, iv x2, .val (.long x3), .second, .val (.long x4), .second, iv (Int32.ofNat Ln), iv (Int32.ofNat on), .val (.long w10), .second, rv b2] [(.int (Int32.ofNat on)), (.ref b2)] (fun t k => XS.iload X37.here hx rfl (hb hby at_296) rfl k) ?_
    refine own_go T37 m 300 #[.val (.long x0), .second, iv x1, iv x2, .val (.long x3), .second, .val (.long x4), .second, iv (Int32.ofNat Ln), iv (Int32.ofNat on), .val (.long w10), .second, rv b2] [(.long w10), (.int (Int32.ofNat on)), (.ref b2)] (fun t k => XS.lload X37.here hx rfl (hb hby at_298) rfl k) ?_
    refine own_go T37 m 302 #[.val (.long x0), .second, iv x1, iv x2, .val (.long x3), .second, .val (.long x4), .second, iv (Int32.ofNat Ln), iv (Int32.ofNat on), .val (.long w10), .second, rv b2] [(.int (Int32.ofNat Ln)), (.long w10), (.int (Int32.ofNat on)), (.ref b2)] (fun t k => XS.iload X37.here hx rfl (hb hby at_300) rfl k) ?_
    refine own_go T37 m 303 #[.val (.long x0), .second, iv x1, iv x2, .val (.long x3), .second, .val (.long x4), .second, iv (Int32.ofNat Ln), iv (Int32.ofNat on), .val (.long w10), .second, rv b2] [(.int 3), (.int (Int32.ofNat Ln)), (.long w10), (.int (Int32.ofNat on)), (.ref b2)] (fun t k => XS.iconst X37.here hx rfl (hb hby at_302) k) ?_
    obtain ⟨_, T38, L38, X38, ⟨rfl, Nq38, Kq38, Vq38⟩, st38⟩ := own_static X37 hx hZ (y := (⟨"com/example/wirelens/wirelens/wire/VarintValuePinLaw", "put", "([BIJII)V"⟩ : MethodName)) hown (own_w hw 6 rfl) (own_w hw 7 rfl) (own_w hw 4 rfl) (own_w hw 8 rfl) (by decide) (rm2 l Z a0 hw [] b2 w10 on Ln 3 k2 (own_puts vs0 on w10 Ln 3) T37.heap n0 Z_37 g_b2 hon hLn (by decide) (by rw [own_puts_len]; exact hl0) V37) rfl 0 (argsL := [(.ref b2), (.int (Int32.ofNat on)), (.long w10), (.int (Int32.ofNat Ln)), (.int 3)]) (rest := []) (Ls := #[.val (.long x0), .second, iv x1, iv x2, .val (.long x3), .second, .val (.long x4), .second, iv (Int32.ofNat Ln), iv (Int32.ofNat on), .val (.long w10), .second, rv b2]) (by rw [hml]; rfl) (lenOf pd___BIJII_V rfl) rfl rfl (Nat.le_of_eq rfl) (hb hby at_303) (by decide) (by decide) (by decide) (by decide)
    have N38 := Fr.app N37 Nq38
    have Z_38 : n0 ≤ T38.heap.size := Nat.le_trans Z_37 Kq38.1
    have V38 : Arv Z T38.heap b2 k2 .byte 16 (own_puts vs0 on w10 Ln 4) (.int 0) := Vq38
    refine own_go T38 m 306 #[.val (.long x0), .second, iv x1, iv x2, .val (.long x3), .second, .val (.long x4), .second, iv (Int32.ofNat Ln), iv (Int32.ofNat on), .val (.long w10), .second, rv b2] [] (st38) ?_
    refine own_go T38 m 308 #[.val (.long x0), .second, iv x1, iv x2, .val (.long x3), .second, .val (.long x4), .second, iv (Int32.ofNat Ln), iv (Int32.ofNat on), .val (.long w10), .second, rv b2] [(.ref b2)] (fun t k => XS.aload X38.here hx rfl (hb hby at_306) rfl rfl k) ?_
    refine own_go T38 m 310 #[.val (.long x0), .second, iv x1, iv x2, .val (.long x3), .second, .val (.long x4), .second, iv (Int32.ofNat Ln), iv (Int32.ofNat on), .val (.long w10), .second, rv b2] [(.int (Int32.ofNat on)), (.ref b2)] (fun t k => XS.iload X38.here hx rfl (hb hby at_308) rfl k) ?_
    refine own_go T38 m 312 #[.val (.long x0), .second, iv x1, iv x2, .val (.long x3), .second, .val (.long x4), .second, iv (Int32.ofNat Ln), iv (Int32.ofNat on), .val (.long w10), .second, rv b2] [(.long w10), (.int (Int32.ofNat on)), (.ref b2)] (fun t k => XS.lload X38.here hx rfl (hb hby at_310) rfl k) ?_
    refine own_go T38 m 314 #[.val (.long x0), .second, iv x1, iv x2, .val (.long x3), .second, .val (.long x4), .second, iv (Int32.ofNat Ln), iv (Int32.ofNat on), .val (.long w10), .second, rv b2] [(.int (Int32.ofNat Ln)), (.long w10), (.int (Int32.ofNat on)), (.ref b2)] (fun t k => XS.iload X38.here hx rfl (hb hby at_312) rfl k) ?_
    refine own_go T38 m 315 #[.val (.long x0), .second, iv x1, iv x2, .val (.long x3), .second, .val (.long x4), .second, iv (Int32.ofNat Ln), iv (Int32.ofNat on), .val (.long w10), .second, rv b2] [(.int 4), (.int (Int32.ofNat Ln)), (.long w10), (.int (Int32.ofNat on)), (.ref b2)] (fun t k => XS.iconst X38.here hx rfl (hb hby at_314) k) ?_
    obtain ⟨_, T39, L39, X39, ⟨rfl, Nq39, Kq39, Vq39⟩, st39⟩ := own_static X38 hx hZ (y := (⟨"com/example/wirelens/wirelens/wire/VarintValuePinLaw", "put", "([BIJII)V"⟩ : MethodName)) hown (own_w hw 6 rfl) (own_w hw 7 rfl) (own_w hw 4 rfl) (own_w hw 8 rfl) (by decide) (rm2 l Z a0 hw [] b2 w10 on Ln 4 k2 (own_puts vs0 on w10 Ln 4) T38.heap n0 Z_38 g_b2 hon hLn (by decide) (by rw [own_puts_len]; exact hl0) V38) rfl 0 (argsL := [(.ref b2), (.int (Int32.ofNat on)), (.long w10), (.int (Int32.ofNat Ln)), (.int 4)]) (rest := []) (Ls := #[.val (.long x0), .second, iv x1, iv x2, .val (.long x3), .second, .val (.long x4), .second, iv (Int32.ofNat Ln), iv (Int32.ofNat on), .val (.long w10), .second, rv b2]) (by rw [hml]; rfl) (lenOf pd___BIJII_V rfl) rfl rfl (Nat.le_of_eq rfl) (hb hby at_315) (by decide) (by decide) (by decide) (by decide)
    have N39 := Fr.app N38 Nq39
    have Z_39 : n0 ≤ T39.heap.size := Nat.le_trans Z_38 Kq39.1
    have V39 : Arv Z T39.heap b2 k2 .byte 16 (own_puts vs0 on w10 Ln 5) (.int 0) := Vq39
    refine own_go T39 m 318 #[.val (.long x0), .second, iv x1, iv x2, .val (.long x3), .second, .val (.long x4), .second, iv (Int32.ofNat Ln), iv (Int32.ofNat on), .val (.long w10), .second, rv b2] [] (st39) ?_
    refine own_go T39 m 320 #[.val (.long x0), .second, iv x1, iv x2, .val (.long x3), .second, .val (.long x4), .second, iv (Int32.ofNat Ln), iv (Int32.ofNat on), .val (.long w10), .second, rv b2] [(.ref b2)] (fun t k => XS.aload X39.here hx rfl (hb hby at_318) rfl rfl k) ?_
    refine own_go T39 m 322 #[.val (.long x0), .second, iv x1, iv x2, .val (.long x3), .second, .val (.long x4), .second, iv (Int32.ofNat Ln), iv (Int32.ofNat on), .val (.long w10), .second, rv b2] [(.int (Int32.ofNat on)), (.ref b2)] (fun t k => XS.iload X39.here hx rfl (hb hby at_320) rfl k) ?_
    refine own_go T39 m 324 #[.val (.long x0), .second, iv x1, iv x2, .val (.long x3), .second, .val (.long x4), .second, iv (Int32.ofNat Ln), iv (Int32.ofNat on), .val (.long w10), .second, rv b2] [(.long w10), (.int (Int32.ofNat on)), (.ref b2)] (fun t k => XS.lload X39.here hx rfl (hb hby at_322) rfl k) ?_
    refine own_go T39 m 326 #[.val (.long x0), .second, iv x1, iv x2, .val (.long x3), .second, .val (.long x4), .second, iv (Int32.ofNat Ln), iv (Int32.ofNat on), .val (.long w10), .second, rv b2] [(.int (Int32.ofNat Ln)), (.long w10), (.int (Int32.ofNat on)), (.ref b2)] (fun t k => XS.iload X39.here hx rfl (hb hby at_324) rfl k) ?_
    refine own_go T39 m 327 #[.val (.long x0), .second, iv x1, iv x2, .val (.long x3), .second, .val (.long x4), .second, iv (Int32.ofNat Ln), iv (Int32.ofNat on), .val (.long w10), .second, rv b2] [(.int 5), (.int (Int32.ofNat Ln)), (.long w10), (.int (Int32.ofNat on)), (.ref b2)] (fun t k => XS.iconst X39.here hx rfl (hb hby at_326) k) ?_
    obtain ⟨_, T40, L40, X40, ⟨rfl, Nq40, Kq40, Vq40⟩, st40⟩ := own_static X39 hx hZ (y := (⟨"com/example/wirelens/wirelens/wire/VarintValuePinLaw", "put", "([BIJII)V"⟩ : MethodName)) hown (own_w hw 6 rfl) (own_w hw 7 rfl) (own_w hw 4 rfl) (own_w hw 8 rfl) (by decide) (rm2 l Z a0 hw [] b2 w10 on Ln 5 k2 (own_puts vs0 on w10 Ln 5) T39.heap n0 Z_39 g_b2 hon hLn (by decide) (by rw [own_puts_len]; exact hl0) V39) rfl 0 (argsL := [(.ref b2), (.int (Int32.ofNat on)), (.long w10), (.int (Int32.ofNat Ln)), (.int 5)]) (rest := []) (Ls := #[.val (.long x0), .second, iv x1, iv x2, .val (.long x3), .second, .val (.long x4), .second, iv (Int32.ofNat Ln), iv (Int32.ofNat on), .val (.long w10), .second, rv b2]) (by rw [hml]; rfl) (lenOf pd___BIJII_V rfl) rfl rfl (Nat.le_of_eq rfl) (hb hby at_327) (by decide) (by decide) (by decide) (by decide)
    have N40 := Fr.app N39 Nq40
    have Z_40 : n0 ≤ T40.heap.size := Nat.le_trans Z_39 Kq40.1
    have V40 : Arv Z T40.heap b2 k2 .byte 16 (own_puts vs0 on w10 Ln 6) (.int 0) := Vq40
    refine own_go T40 m 330 #[.val (.long x0), .second, iv x1, iv x2, .val (.long x3), .second, .val (.long x4), .second, iv (Int32.ofNat Ln), iv (Int32.ofNat on), .val (.long w10), .second, rv b2] [] (st40) ?_
    refine own_go T40 m 332 #[.val (.long x0), .second, iv x1, iv x2, .val (.long x3), .second, .val (.long x4), .second, iv (Int32.ofNat Ln), iv (Int32.ofNat on), .val (.long w10), .second, rv b2] [(.ref b2)] (fun t k => XS.aload X40.here hx rfl (hb hby at_330) rfl rfl k) ?_
    refine own_go T40 m 334 #[.val (.long x0), .second, iv x1, iv x2, .val (.long x3), .second, .val (.long x4), .second, iv (Int32.ofNat Ln), iv (Int32.ofNat on), .val (.long w10), .second, rv b2] [(.int (Int32.ofNat on)), (.ref b2)] (fun t k => XS.iload X40.here hx rfl (hb hby at_332) rfl k) ?_
    refine own_go T40 m 336 #[.val (.long x0), .second, iv x1, iv x2, .val (.long x3), .second, .val (.long x4), .second, iv (Int32.ofNat Ln), iv (Int32.ofNat on), .val (.long w10), .second, rv b2] [(.long w10), (.int (Int32.ofNat on)), (.ref b2)] (fun t k => XS.lload X40.here hx rfl (hb hby at_334) rfl k) ?_
    refine own_go T40 m 338 #[.val (.long x0), .second, iv x1, iv x2, .val (.long x3), .second, .val (.long x4), .second, iv (Int32.ofNat Ln), iv (Int32.ofNat on), .val (.long w10), .second, rv b2] [(.int (Int32.ofNat Ln)), (.long w10), (.int (Int32.ofNat on)), (.ref b2)] (fun t k => XS.iload X40.here hx rfl (hb hby at_336) rfl k) ?_
    refine own_go T40 m 340 #[.val (.long x0), .second, iv x1, iv x2, .val (.long x3), .second, .val (.long x4), .second, iv (Int32.ofNat Ln), iv (Int32.ofNat on), .val (.long w10), .second, rv b2] [(.int 6), (.int (Int32.ofNat Ln)), (.long w10), (.int (Int32.ofNat on)), (.ref b2)] (fun t k => XS.bipush X40.here hx rfl (hb hby at_338) k) ?_
    obtain ⟨_, T41, L41, X41, ⟨rfl, Nq41, Kq41, Vq41⟩, st41⟩ := own_static X40 hx hZ (y := (⟨"com/example/wirelens/wirelens/wire/VarintValuePinLaw", "put", "([BIJII)V"⟩ : MethodName)) hown (own_w hw 6 rfl) (own_w hw 7 rfl) (own_w hw 4 rfl) (own_w hw 8 rfl) (by decide) (rm2 l Z a0 hw [] b2 w10 on Ln 6 k2 (own_puts vs0 on w10 Ln 6) T40.heap n0 Z_40 g_b2 hon hLn (by decide) (by rw [own_puts_len]; exact hl0) V40) rfl 0 (argsL := [(.ref b2), (.int (Int32.ofNat on)), (.long w10), (.int (Int32.ofNat Ln)), (.int 6)]) (rest := []) (Ls := #[.val (.long x0), .second, iv x1, iv x2, .val (.long x3), .second, .val (.long x4), .second, iv (Int32.ofNat Ln), iv (Int32.ofNat on), .val (.long w10), .second, rv b2]) (by rw [hml]; rfl) (lenOf pd___BIJII_V rfl) rfl rfl (Nat.le_of_eq rfl) (hb hby at_340) (by decide) (by decide) (by decide) (by decide)
    have N41 := Fr.app N40 Nq41
    have Z_41 : n0 ≤ T41.heap.size := Nat.le_trans Z_40 Kq41.1
    have V41 : Arv Z T41.heap b2 k2 .byte 16 (own_puts vs0 on w10 Ln 7) (.int 0) := Vq41
    refine own_go T41 m 343 #[.val (.long x0), .second, iv x1, iv x2, .val (.long x3), .second, .val (.long x4), .second, iv (Int32.ofNat Ln), iv (Int32.ofNat on), .val (.long w10), .second, rv b2] [] (st41) ?_
    refine own_go T41 m 345 #[.val (.long x0), .second, iv x1, iv x2, .val (.long x3), .second, .val (.long x4), .second, iv (Int32.ofNat Ln), iv (Int32.ofNat on), .val (.long w10), .second, rv b2] [(.ref b2)] (fun t k => XS.aload X41.here hx rfl (hb hby at_343) rfl rfl k) ?_
    refine own_go T41 m 347 #[.val (.long x0), .second, iv x1, iv x2, .val (.long x3), .second, .val (.long x4), .second, iv (Int32.ofNat Ln), iv (Int32.ofNat on), .val (.long w10), .second, rv b2] [(.int (Int32.ofNat on)), (.ref b2)] (fun t k => XS.iload X41.here hx rfl (hb hby at_345) rfl k) ?_
    refine own_go T41 m 349 #[.val (.long x0), .second, iv x1, iv x2, .val (.long x3), .second, .val (.long x4), .second, iv (Int32.ofNat Ln), iv (Int32.ofNat on), .val (.long w10), .second, rv b2] [(.long w10), (.int (Int32.ofNat on)), (.ref b2)] (fun t k => XS.lload X41.here hx rfl (hb hby at_347) rfl k) ?_
    refine own_go T41 m 351 #[.val (.long x0), .second, iv x1, iv x2, .val (.long x3), .second, .val (.long x4), .second, iv (Int32.ofNat Ln), iv (Int32.ofNat on), .val (.long w10), .second, rv b2] [(.int (Int32.ofNat Ln)), (.long w10), (.int (Int32.ofNat on)), (.ref b2)] (fun t k => XS.iload X41.here hx rfl (hb hby at_349) rfl k) ?_
    refine own_go T41 m 353 #[.val (.long x0), .second, iv x1, iv x2, .val (.long x3), .second, .val (.long x4), .second, iv (Int32.ofNat Ln), iv (Int32.ofNat on), .val (.long w10), .second, rv b2] [(.int 7), (.int (Int32.ofNat Ln)), (.long w10), (.int (Int32.ofNat on)), (.ref b2)] (fun t k => XS.bipush X41.here hx rfl (hb hby at_351) k) ?_
    obtain ⟨_, T42, L42, X42, ⟨rfl, Nq42, Kq42, Vq42⟩, st42⟩ := own_static X41 hx hZ (y := (⟨"com/example/wirelens/wirelens/wire/VarintValuePinLaw", "put", "([BIJII)V"⟩ : MethodName)) hown (own_w hw 6 rfl) (own_w hw 7 rfl) (own_w hw 4 rfl) (own_w hw 8 rfl) (by decide) (rm2 l Z a0 hw [] b2 w10 on Ln 7 k2 (own_puts vs0 on w10 Ln 7) T41.heap n0 Z_41 g_b2 hon hLn (by decide) (by rw [own_puts_len]; exact hl0) V41) rfl 0 (argsL := [(.ref b2), (.int (Int32.ofNat on)), (.long w10), (.int (Int32.ofNat Ln)), (.int 7)]) (rest := []) (Ls := #[.val (.long x0), .second, iv x1, iv x2, .val (.long x3), .second, .val (.long x4), .second, iv (Int32.ofNat Ln), iv (Int32.ofNat on), .val (.long w10), .second, rv b2]) (by rw [hml]; rfl) (lenOf pd___BIJII_V rfl) rfl rfl (Nat.le_of_eq rfl) (hb hby at_353) (by decide) (by decide) (by decide) (by decide)
    have N42 := Fr.app N41 Nq42
    have Z_42 : n0 ≤ T42.heap.size := Nat.le_trans Z_41 Kq42.1
    have V42 : Arv Z T42.heap b2 k2 .byte 16 (own_puts vs0 on w10 Ln 8) (.int 0) := Vq42
    refine own_go T42 m 356 #[.val (.long x0), .second, iv x1, iv x2, .val (.long x3), .second, .val (.long x4), .second, iv (Int32.ofNat Ln), iv (Int32.ofNat on), .val (.long w10), .second, rv b2] [] (st42) ?_
    refine own_go T42 m 358 #[.val (.long x0), .second, iv x1, iv x2, .val (.long x3), .second, .val (.long x4), .second, iv (Int32.ofNat Ln), iv (Int32.ofNat on), .val (.long w10), .second, rv b2] [(.ref b2)] (fun t k => XS.aload X42.here hx rfl (hb hby at_356) rfl rfl k) ?_
    refine own_go T42 m 360 #[.val (.long x0), .second, iv x1, iv x2, .val (.long x3), .second, .val (.long x4), .second, iv (Int32.ofNat Ln), iv (Int32.ofNat on), .val (.long w10), .second, rv b2] [(.int (Int32.ofNat on)), (.ref b2)] (fun t k => XS.iload X42.here hx rfl (hb hby at_358) rfl k) ?_
    refine own_go T42 m 362 #[.val (.long x0), .second, iv x1, iv x2, .val (.long x3), .second, .val (.long x4), .second, iv (Int32.ofNat Ln), iv (Int32.ofNat on), .val (.long w10), .second, rv b2] [(.long w10), (.int (Int32.ofNat on)), (.ref b2)] (fun t k => XS.lload X42.here hx rfl (hb hby at_360) rfl k) ?_
    refine own_go T42 m 364 #[.val (.long x0), .second, iv x1, iv x2, .val (.long x3), .second, .val (.long x4), .second, iv (Int32.ofNat Ln), iv (Int32.ofNat on), .val (.long w10), .second, rv b2] [(.int (Int32.ofNat Ln)), (.long w10), (.int (Int32.ofNat on)), (.ref b2)] (fun t k => XS.iload X42.here hx rfl (hb hby at_362) rfl k) ?_
    refine own_go T42 m 366 #[.val (.long x0), .second, iv x1, iv x2, .val (.long x3), .second, .val (.long x4), .second, iv (Int32.ofNat Ln), iv (Int32.ofNat on), .val (.long w10), .second, rv b2] [(.int 8), (.int (Int32.ofNat Ln)), (.long w10), (.int (Int32.ofNat on)), (.ref b2)] (fun t k => XS.bipush X42.here hx rfl (hb hby at_364) k) ?_
    obtain ⟨_, T43, L43, X43, ⟨rfl, Nq43, Kq43, Vq43⟩, st43⟩ := own_static X42 hx hZ (y := (⟨"com/example/wirelens/wirelens/wire/VarintValuePinLaw", "put", "([BIJII)V"⟩ : MethodName)) hown (own_w hw 6 rfl) (own_w hw 7 rfl) (own_w hw 4 rfl) (own_w hw 8 rfl) (by decide) (rm2 l Z a0 hw [] b2 w10 on Ln 8 k2 (own_puts vs0 on w10 Ln 8) T42.heap n0 Z_42 g_b2 hon hLn (by decide) (by rw [own_puts_len]; exact hl0) V42) rfl 0 (argsL := [(.ref b2), (.int (Int32.ofNat on)), (.long w10), (.int (Int32.ofNat Ln)), (.int 8)]) (rest := []) (Ls := #[.val (.long x0), .second, iv x1, iv x2, .val (.long x3), .second, .val (.long x4), .second, iv (Int32.ofNat Ln), iv (Int32.ofNat on), .val (.long w10), .second, rv b2]) (by rw [hml]; rfl) (lenOf pd___BIJII_V rfl) rfl rfl (Nat.le_of_eq rfl) (hb hby at_366) (by decide) (by decide) (by decide) (by decide)
    have N43 := Fr.app N42 Nq43
    have Z_43 : n0 ≤ T43.heap.size := Nat.le_trans Z_42 Kq43.1
    have V43 : Arv Z T43.heap b2 k2 .byte 16 (own_puts vs0 on w10 Ln 9) (.int 0) := Vq43
    refine own_go T43 m 369 #[.val (.long x0), .second, iv x1, iv x2, .val (.long x3), .second, .val (.long x4), .second, iv (Int32.ofNat Ln), iv (Int32.ofNat on), .val (.long w10), .second, rv b2] [] (st43) ?_
    refine own_go T43 m 371 #[.val (.long x0), .second, iv x1, iv x2, .val (.long x3), .second, .val (.long x4), .second, iv (Int32.ofNat Ln), iv (Int32.ofNat on), .val (.long w10), .second, rv b2] [(.ref b2)] (fun t k => XS.aload X43.here hx rfl (hb hby at_369) rfl rfl k) ?_
    refine own_go T43 m 373 #[.val (.long x0), .second, iv x1, iv x2, .val (.long x3), .second, .val (.long x4), .second, iv (Int32.ofNat Ln), iv (Int32.ofNat on), .val (.long w10), .second, rv b2] [(.int (Int32.ofNat on)), (.ref b2)] (fun t k => XS.iload X43.here hx rfl (hb hby at_371) rfl k) ?_
    refine own_go T43 m 375 #[.val (.long x0), .second, iv x1, iv x2, .val (.long x3), .second, .val (.long x4), .second, iv (Int32.ofNat Ln), iv (Int32.ofNat on), .val (.long w10), .second, rv b2] [(.long w10), (.int (Int32.ofNat on)), (.ref b2)] (fun t k => XS.lload X43.here hx rfl (hb hby at_373) rfl k) ?_
    refine own_go T43 m 377 #[.val (.long x0), .second, iv x1, iv x2, .val (.long x3), .second, .val (.long x4), .second, iv (Int32.ofNat Ln), iv (Int32.ofNat on), .val (.long w10), .second, rv b2] [(.int (Int32.ofNat Ln)), (.long w10), (.int (Int32.ofNat on)), (.ref b2)] (fun t k => XS.iload X43.here hx rfl (hb hby at_375) rfl k) ?_
    refine own_go T43 m 379 #[.val (.long x0), .second, iv x1, iv x2, .val (.long x3), .second, .val (.long x4), .second, iv (Int32.ofNat Ln), iv (Int32.ofNat on), .val (.long w10), .second, rv b2] [(.int 9), (.int (Int32.ofNat Ln)), (.long w10), (.int (Int32.ofNat on)), (.ref b2)] (fun t k => XS.bipush X43.here hx rfl (hb hby at_377) k) ?_
    obtain ⟨_, T44, L44, X44, ⟨rfl, Nq44, Kq44, Vq44⟩, st44⟩ := own_static X43 hx hZ (y := (⟨"com/example/wirelens/wirelens/wire/VarintValuePinLaw", "put", "([BIJII)V"⟩ : MethodName)) hown (own_w hw 6 rfl) (own_w hw 7 rfl) (own_w hw 4 rfl) (own_w hw 8 rfl) (by decide) (rm2 l Z a0 hw [] b2 w10 on Ln 9 k2 (own_puts vs0 on w10 Ln 9) T43.heap n0 Z_43 g_b2 hon hLn (by decide) (by rw [own_puts_len]; exact hl0) V43) rfl 0 (argsL := [(.ref b2), (.int (Int32.ofNat on)), (.long w10), (.int (Int32.ofNat Ln)), (.int 9)]) (rest := []) (Ls := #[.val (.long x0), .second, iv x1, iv x2, .val (.long x3), .second, .val (.long x4), .second, iv (Int32.ofNat Ln), iv (Int32.ofNat on), .val (.long w10), .second, rv b2]) (by rw [hml]; rfl) (lenOf pd___BIJII_V rfl) rfl rfl (Nat.le_of_eq rfl) (hb hby at_379) (by decide) (by decide) (by decide) (by decide)
    have N44 := Fr.app N43 Nq44
    have Z_44 : n0 ≤ T44.heap.size := Nat.le_trans Z_43 Kq44.1
    have V44 : Arv Z T44.heap b2 k2 .byte 16 (own_puts vs0 on w10 Ln 10) (.int 0) := Vq44
    refine own_go T44 m 382 #[.val (.long x0), .second, iv x1, iv x2, .val (.long x3), .second, .val (.long x4), .second, iv (Int32.ofNat Ln), iv (Int32.ofNat on), .val (.long w10), .second, rv b2] [] (st44) ?_
    refine own_go T44 m 384 #[.val (.long x0), .second, iv x1, iv x2, .val (.long x3), .second, .val (.long x4), .second, iv (Int32.ofNat Ln), iv (Int32.ofNat on), .val (.long w10), .second, rv b2] [(.ref b2)] (fun t k => XS.aload X44.here hx rfl (hb hby at_382) rfl rfl k) ?_
    refine own_go T44 m 386 #[.val (.long x0), .second, iv x1, iv x2, .val (.long x3), .second, .val (.long x4), .second, iv (Int32.ofNat Ln), iv (Int32.ofNat on), .val (.long w10), .second, rv b2] [(.int (Int32.ofNat on)), (.ref b2)] (fun t k => XS.iload X44.here hx rfl (hb hby at_384) rfl k) ?_
    refine own_go T44 m 388 #[.val (.long x0), .second, iv x1, iv x2, .val (.long x3), .second, .val (.long x4), .second, iv (Int32.ofNat Ln), iv (Int32.ofNat on), .val (.long w10), .second, rv b2] [(.int (Int32.ofNat Ln)), (.int (Int32.ofNat on)), (.ref b2)] (fun t k => XS.iload X44.here hx rfl (hb hby at_386) rfl k) ?_
    obtain ⟨_, T45, L45, X45, ⟨rfl, e45, rfl⟩, st45⟩ := own_static X44 hx hZ (y := (⟨"com/example/wirelens/wirelens/wire/Varint", "value", "([BII)J"⟩ : MethodName)) hown (own_w hw 11 rfl) (own_w hw 12 rfl) (own_w hw 13 rfl) (own_w hw 14 rfl) (by decide) (rm3 l Z a0 hw [] b2 on Ln k2 (own_puts vs0 on w10 Ln 10) (own_byte w10 Ln) T44.heap hon hLn V44 (fun n hn => own_puts_at vs0 on w10 Ln _ 10 (by omega) n (by omega) hn)) rfl 0 (argsL := [(.ref b2), (.int (Int32.ofNat on)), (.int (Int32.ofNat Ln))]) (rest := []) (Ls := #[.val (.long x0), .second, iv x1, iv x2, .val (.long x3), .second, .val (.long x4), .second, iv (Int32.ofNat Ln), iv (Int32.ofNat on), .val (.long w10), .second, rv b2]) (by rw [hml]; rfl) (lenOf pd___BII_J rfl) rfl rfl (Nat.le_of_eq rfl) (hb hby at_388) (by decide) (by decide) (by decide) (by decide)
    replace X45 := own_nil X45
    refine own_go T45 m 391 #[.val (.long x0), .second, iv x1, iv x2, .val (.long x3), .second, .val (.long x4), .second, iv (Int32.ofNat Ln), iv (Int32.ofNat on), .val (.long w10), .second, rv b2] [(.long (own_res (own_byte w10 Ln) Ln))] (st45) ?_
    rw [own_fin w10 Ln hLn hw10]
    refine own_go T45 m 393 #[.val (.long x0), .second, iv x1, iv x2, .val (.long x3), .second, .val (.long x4), .second, iv (Int32.ofNat Ln), iv (Int32.ofNat on), .val (.long w10), .second, rv b2] [(.long w10), (.long w10)] (fun t k => XS.lload X45.here hx rfl (hb hby at_391) rfl k) ?_
    refine own_go T45 m 394 #[.val (.long x0), .second, iv x1, iv x2, .val (.long x3), .second, .val (.long x4), .second, iv (Int32.ofNat Ln), iv (Int32.ofNat on), .val (.long w10), .second, rv b2] [(.int (lcmpW w10 w10))] (fun t k => XS.lcmp X45.here hx rfl (hb hby at_393) rfl k) ?_
    refine own_go T45 m 397 #[.val (.long x0), .second, iv x1, iv x2, .val (.long x3), .second, .val (.long x4), .second, iv (Int32.ofNat Ln), iv (Int32.ofNat on), .val (.long w10), .second, rv b2] [] (fun t k => XS.ifNo X45.here hx rfl (hb hby at_394) rfl ((if0 _ _).trans (teq ((lw_eq w10 w10).mpr rfl)).2) k) ?_
    refine own_go T45 m 398 #[.val (.long x0), .second, iv x1, iv x2, .val (.long x3), .second, .val (.long x4), .second, iv (Int32.ofNat Ln), iv (Int32.ofNat on), .val (.long w10), .second, rv b2] [(.int 1)] (fun t k => XS.iconst X45.here hx rfl (hb hby at_397) k) ?_
    refine own_go T45 m 402 #[.val (.long x0), .second, iv x1, iv x2, .val (.long x3), .second, .val (.long x4), .second, iv (Int32.ofNat Ln), iv (Int32.ofNat on), .val (.long w10), .second, rv b2] [(.int 1)] (fun t k => XS.goto X45.here hx rfl (pc0 := 398) (pc' := 402) rfl (hb hby at_398) (by decide) (by decide) k) ?_
    refine own_retZ X45 hx hlk hret (by decide) (hb hby at_402) (by decide) (by decide) ?_
    exact ⟨rfl, N44⟩
  by_cases hc20_46 : (Int32.ofNat Ln) < (10 : Int32)
  · refine own_go T0 m 23 #[.val (.long x0), .second, iv x1, iv x2, .val (.long x3), .second, .val (.long x4), .second, iv (Int32.ofNat Ln), iv (Int32.ofNat on), .unset, .unset, .unset] [] (fun t k => XS.icmpNo X0.here hx rfl (hb hby at_20) rfl (tlt hc20_46).2.1 k) ?_
    refine own_go T0 m 24 #[.val (.long x0), .second, iv x1, iv x2, .val (.long x3), .second, .val (.long x4), .second, iv (Int32.ofNat Ln), iv (Int32.ofNat on), .unset, .unset, .unset] [(.long x0)] (fun t k => XS.lloadN X0.here hx rfl (hb hby at_23) rfl k) ?_
    refine own_go T0 m 25 #[.val (.long x0), .second, iv x1, iv x2, .val (.long x3), .second, .val (.long x4), .second, iv (Int32.ofNat Ln), iv (Int32.ofNat on), .unset, .unset, .unset] [(.long 1), (.long x0)] (fun t k => XS.lconst X0.here hx rfl (hb hby at_24) k) ?_
    refine own_go T0 m 27 #[.val (.long x0), .second, iv x1, iv x2, .val (.long x3), .second, .val (.long x4), .second, iv (Int32.ofNat Ln), iv (Int32.ofNat on), .unset, .unset, .unset] [(.int 7), (.long 1), (.long x0)] (fun t k => XS.bipush X0.here hx rfl (hb hby at_25) k) ?_
    refine own_go T0 m 29 #[.val (.long x0), .second, iv x1, iv x2, .val (.long x3), .second, .val (.long x4), .second, iv (Int32.ofNat Ln), iv (Int32.ofNat on), .unset, .unset, .unset] [(.int (Int32.ofNat Ln)), (.int 7), (.long 1), (.long x0)] (fun t k => XS.iload X0.here hx rfl (hb hby at_27) rfl k) ?_
    refine own_go T0 m 30 #[.val (.long x0), .second, iv x1, iv x2, .val (.long x3), .second, .val (.long x4), .second, iv (Int32.ofNat Ln), iv (Int32.ofNat on), .unset, .unset, .unset] [(.int ((7 : Int32) * (Int32.ofNat Ln))), (.long 1), (.long x0)] (fun t k => XS.imul X0.here hx rfl (hb hby at_29) rfl k) ?_
    refine own_go T0 m 31 #[.val (.long x0), .second, iv x1, iv x2, .val (.long x3), .second, .val (.long x4), .second, iv (Int32.ofNat Ln), iv (Int32.ofNat on), .unset, .unset, .unset] [(.long ((1 : Int64) <<< (((7 : Int32) * (Int32.ofNat Ln)) &&& 0x3f).toInt64)), (.long x0)] (fun t k => XS.lshl X0.here hx rfl (hb hby at_30) rfl k) ?_
    refine own_go T0 m 32 #[.val (.long x0), .second, iv x1, iv x2, .val (.long x3), .second, .val (.long x4), .second, iv (Int32.ofNat Ln), iv (Int32.ofNat on), .unset, .unset, .unset] [(.long 1), (.long ((1 : Int64) <<< (((7 : Int32) * (Int32.ofNat Ln)) &&& 0x3f).toInt64)), (.long x0)] (fun t k => XS.lconst X0.here hx rfl (hb hby at_31) k) ?_
    refine own_go T0 m 33 #[.val (.long x0), .second, iv x1, iv x2, .val (.long x3), .second, .val (.long x4), .second, iv (Int32.ofNat Ln), iv (Int32.ofNat on), .unset, .unset, .unset] [(.long (((1 : Int64) <<< (((7 : Int32) * (Int32.ofNat Ln)) &&& 0x3f).toInt64) - (1 : Int64))), (.long x0)] (fun t k => XS.lsub X0.here hx rfl (hb hby at_32) rfl k) ?_
    refine own_go T0 m 34 #[.val (.long x0), .second, iv x1, iv x2, .val (.long x3), .second, .val (.long x4), .second, iv (Int32.ofNat Ln), iv (Int32.ofNat on), .unset, .unset, .unset] [(.long (x0 &&& (((1 : Int64) <<< (((7 : Int32) * (Int32.ofNat Ln)) &&& 0x3f).toInt64) - (1 : Int64))))] (fun t k => XS.land X0.here hx rfl (hb hby at_33) rfl k) ?_
    refine own_go T0 m 38 #[.val (.long x0), .second, iv x1, iv x2, .val (.long x3), .second, .val (.long x4), .second, iv (Int32.ofNat Ln), iv (Int32.ofNat on), .unset, .unset, .unset] [(.long (x0 &&& (((1 : Int64) <<< (((7 : Int32) * (Int32.ofNat Ln)) &&& 0x3f).toInt64) - (1 : Int64))))] (fun t k => XS.goto X0.here hx rfl (pc0 := 34) (pc' := 38) rfl (hb hby at_34) (by decide) (by decide) k) ?_
    refine own_go T0 m 40 #[.val (.long x0), .second, iv x1, iv x2, .val (.long x3), .second, .val (.long x4), .second, iv (Int32.ofNat Ln), iv (Int32.ofNat on), .val (.long (x0 &&& (((1 : Int64) <<< (((7 : Int32) * (Int32.ofNat Ln)) &&& 0x3f).toInt64) - (1 : Int64)))), .second, .unset] [] (fun t k => XS.lstore X0.here hx rfl (hb hby at_38) rfl rfl k) ?_
    exact seg40 (x0 &&& (((1 : Int64) <<< (((7 : Int32) * (Int32.ofNat Ln)) &&& 0x3f).toInt64) - (1 : Int64))) (fun q => own_wb x0 Ln hLn.1 q)
  · refine own_go T0 m 37 #[.val (.long x0), .second, iv x1, iv x2, .val (.long x3), .second, .val (.long x4), .second, iv (Int32.ofNat Ln), iv (Int32.ofNat on), .unset, .unset, .unset] [] (fun t k => XS.icmpYes X0.here hx rfl (pc0 := 20) (pc' := 37) rfl (hb hby at_20) rfl (flt hc20_46).2.1 (by decide) (by decide) k) ?_
    refine own_go T0 m 38 #[.val (.long x0), .second, iv x1, iv x2, .val (.long x3), .second, .val (.long x4), .second, iv (Int32.ofNat Ln), iv (Int32.ofNat on), .unset, .unset, .unset] [(.long x0)] (fun t k => XS.lloadN X0.here hx rfl (hb hby at_37) rfl k) ?_
    refine own_go T0 m 40 #[.val (.long x0), .second, iv x1, iv x2, .val (.long x3), .second, .val (.long x4), .second, iv (Int32.ofNat Ln), iv (Int32.ofNat on), .val (.long x0), .second, .unset] [] (fun t k => XS.lstore X0.here hx rfl (hb hby at_38) rfl rfl k) ?_
    exact seg40 x0 (fun q => absurd ((own_lt Ln 10 (by omega) (by omega)).mpr q) hc20_46)
set_option maxRecDepth 65536 in
set_option maxHeartbeats 40000000 in
theorem comes_1 {Post : Tables → Env → Array Value → State → Outcome → State → Prop} (hpost : ∀ tb e args s v u, (limb_1_1.after args s (.returned v) u = true ∧ limb_1_2.after args s (.returned v) u = true ∧ True) → FrameEnd s (.returned v) u (Jvm.fieldLocs frame_1_writes args s ++ Jvm.arrayLocs frame_1_arrays args s ++ Jvm.staticLocs frame_1_statics s) 16 128 → Post tb e args s (.returned v) u) :
    ArmFor flags0 classFile x code maxLocals ret World_1 tables_1 room_1 Calls_1 rest_1 Pre_1 Post := by
  intro l hfl _ _ p e ha hc hk s m args below hf hA hF happ hP
  obtain ⟨hcalls, hrest, hpre⟩ := hP
  obtain ⟨-, -, -, hnamed, -, -, -, hat⟩ := (Spec.applies_iff hf).mp happ
  obtain ⟨hg, hn⟩ := and_e (Cond.before_iff.mp (show (Jvm.Cond.and given_1 narrow_1).before args s = true from hpre))
  obtain ⟨gg1, gg2⟩ := and_e hg
  obtain ⟨gg3, gg4⟩ := and_e gg2
  obtain ⟨gg5, gg6⟩ := and_e gg4
  obtain ⟨gg7, gg8⟩ := and_e gg6
  obtain ⟨gg9, gg10⟩ := and_e gg8
  obtain ⟨w0, w1, w2, w3, w4, rfl⟩ : ∃ w0 w1 w2 w3 w4 : Value, args = #[w0, w1, w2, w3, w4] := by
    have hs : args.size = 5 := by simpa [Cond.value, given_1] using gg1
    obtain ⟨L⟩ := args
    match L, hs with
    | [w0, w1, w2, w3, w4], _ => exact ⟨w0, w1, w2, w3, w4, rfl⟩
  have hw := fun d (hd : d ∈ tables_1) => atoms_spec (ws := Jvm.Cond.code x code maxLocals ret :: tables_1) hat d (List.mem_cons_of_mem _ hd)
  have hfit : Fit s := fun {y c} hc i hi => by
    obtain ⟨ha, rfl⟩ := Array.getElem?_eq_some_iff.mp hc
    have q := List.all_eq_true.mp ((Array.all_eq_true_iff_forall_mem.mp hF) _ (Array.getElem_mem ha)) i (List.mem_range.mpr hi)
    simpa [Array.getElem?_eq_getElem hi] using q
  obtain ⟨i0, ei0⟩ := isL_v gg3
  obtain rfl : w0 = (.long i0) := Option.some.inj ei0
  obtain ⟨i1, ei1⟩ := is_v gg5
  obtain rfl : w1 = (.int i1) := Option.some.inj ei1
  obtain ⟨i2, ei2⟩ := is_v gg7
  obtain rfl : w2 = (.int i2) := Option.some.inj ei2
  obtain ⟨i3, ei3⟩ := isL_v gg9
  obtain rfl : w3 = (.long i3) := Option.some.inj ei3
  obtain ⟨i4, ei4⟩ := isL_v gg10
  obtain rfl : w4 = (.long i4) := Option.some.inj ei4
  obtain ⟨n, o, h1, h2, h3, _, L, rfl, ⟨rfl, N⟩, hq⟩ := rm0 l s _ hw tables_1 i0 i1 i2 i3 i4 s.heap s.heap.size (Nat.le_refl _) p e ha hc hk s m _ below hf ((Spec.applies_iff_loose hf).mp happ).1 ⟨rfl, State.Warmed39.refl s, rfl⟩ trivial
  refine ⟨n, _, h1, h2, h3, hpost _ _ _ _ _ _ ⟨Cond.after_iff.mpr rfl, Cond.after_iff.mpr (eq_i res_at (Term.int_eval (1)) rfl), trivial⟩ ⟨hq.1, hq.2.1, (hq.2.2.sift fun y hy => Or.inr (N y hy)).mono (by decide) (by decide)⟩⟩
theorem main_1_1 : Claimed_1_1 := comes_1 fun _ _ _ _ _ _ h hF => ⟨h.1, hF⟩
theorem main_1_2 : Claimed_1_2 := comes_1 fun _ _ _ _ _ _ h hF => ⟨h.2.1, hF⟩
end Jvm.Pilot.@@N@@
namespace Jvm.Pilot.@@N@@
open Jvm Jvm.ClassFile Sem Op Lib Jvm.Free Jvm.Stand Jvm.Pilot.@@N@@.Jvm.D
/-! MADE BY PROGRAM (witnessworld.py) out of the Statement's table words and the real class files: 9 classes; the members and pool entries that the words name. The judged class is class 1, her method 1. -/
namespace start1
open Jvm.ClassFile
def u (s : String) : CpInfo := .utf8 (stringToUtf16 s)
/-- a pool by its gaps: so many unusable entries, then the entry; so many at the end -/
def gap : Nat → List CpInfo → List CpInfo
  | 0, r => r
  | n + 1, r => .unusable :: gap n r
def poolList (es : List (Nat × CpInfo)) (last : Nat) : List CpInfo := es.foldr (fun e r => gap e.1 (e.2 :: r)) (gap last [])
def pool (es : List (Nat × CpInfo)) (last : Nat) : Array CpInfo := ⟨poolList es last⟩
def fileOf (pool : Array CpInfo) (this : Nat) (attrs : Array Attribute := #[]) (ms : Array MethodInfo := #[]) (fl : Nat := 33) (sup : Nat := 0) (ifs : Array Nat := #[]) (fds : Array FieldInfo := #[]) : ClassFile where
  minorVersion := 0
  majorVersion := 65
  constantPool := pool
  accessFlags := fl
  thisClass := this
  superClass := sup
  interfaces := ifs
  fields := fds
  methods := ms
  attributes := attrs
def plain (name : String) (sup : Option ClassId) : Class where
  name := name
  kind := .ordinary
  loader := none
  accessFlags := 33
  super := sup
  interfaces := #[]
  cf := none
  fields := #[]
  methods := #[]
  instanceTypes := #[]
  staticTypes := #[]
  resolved := #[]
  callSites := []
  init := .initialized
  statics := none
  mirror := none

def pool0 : Array CpInfo := pool [(5, u "<init>"), (0, u "()V"), (1, .class_ 10), (1, u "java/lang/Object")] 113

def k0m0 : Method := { name := "<init>", desc := "()V", sig := { parameters := [], returnType := none }, accessFlags := 1, code := none }
/-- java/lang/Object -/
def k0 : Class := { plain "java/lang/Object" none with
  accessFlags := 33
  interfaces := #[]
  cf := some (fileOf pool0 8 #[] #[{ accessFlags := 1, nameIndex := 5, descriptorIndex := 6, attributes := #[] }] 33 0 #[] #[])
  fields := #[]
  methods := #[k0m0]
  instanceTypes := #[]
  staticTypes := #[]
  resolved := Array.replicate 124 none
  statics := none }

def pool1 : Array CpInfo := pool [(2, .class_ 4), (1, u "java/lang/Object"), (0, u "<init>"), (0, u "()V"), (0, .integer 2147483647), (0, .methodref 9 10), (0, .class_ 11), (0, .nameAndType 12 13), (0, u "com/example/wirelens/wirelens/wire/VarintValuePinLaw"), (0, u "junk"), (0, u "(JJI)B"), (0, .methodref 9 15), (0, .nameAndType 16 17), (0, u "put"), (0, u "([BIJII)V"), (0, .methodref 19 20), (0, .class_ 21), (0, .nameAndType 22 23), (0, u "com/example/wirelens/wirelens/wire/Varint"), (0, u "value"), (0, u "([BII)J"), (0, .long 127), (1, .long 128), (3, u "law"), (0, u "(JIIJJ)Z")] 5

def k1m0 : Method := { name := "<init>", desc := "()V", sig := { parameters := [], returnType := none }, accessFlags := 1, code := none }
def k1c1 : Code := { maxStack := 7, maxLocals := 13, code := code, exceptionTable := #[], attributes := #[] }
def k1m1 : Method := { name := "law", desc := "(JIIJJ)Z", sig := { parameters := [.long, .int, .int, .long, .long], returnType := some .boolean }, accessFlags := 9, code := some k1c1 }
def k1c2 : Code := { maxStack := 5, maxLocals := 5, code := method_3_code, exceptionTable := #[], attributes := #[] }
def k1m2 : Method := { name := "junk", desc := "(JJI)B", sig := { parameters := [.long, .long, .int], returnType := some .byte }, accessFlags := 10, code := some k1c2 }
def k1c3 : Code := { maxStack := 6, maxLocals := 8, code := method_4_code, exceptionTable := #[], attributes := #[] }
def k1m3 : Method := { name := "put", desc := "([BIJII)V", sig := { parameters := [(.array .byte), .int, .long, .int, .int], returnType := none }, accessFlags := 10, code := some k1c3 }
/-- com/example/wirelens/wirelens/wire/VarintValuePinLaw -/
def k1 : Class := { plain "com/example/wirelens/wirelens/wire/VarintValuePinLaw" (some 0) with
  accessFlags := 49
  interfaces := #[]
  cf := some (fileOf pool1 9 #[] #[{ accessFlags := 1, nameIndex := 5, descriptorIndex := 6, attributes := #[] }, { accessFlags := 9, nameIndex := 30, descriptorIndex := 31, attributes := #[] }, { accessFlags := 10, nameIndex := 12, descriptorIndex := 13, attributes := #[] }, { accessFlags := 10, nameIndex := 16, descriptorIndex := 17, attributes := #[] }] 49 2 #[] #[])
  fields := #[]
  methods := #[k1m0, k1m1, k1m2, k1m3]
  instanceTypes := #[]
  staticTypes := #[]
  resolved := Array.replicate 37 none
  statics := none }

def pool2 : Array CpInfo := pool [(2, .class_ 4), (1, u "java/lang/Object"), (0, u "<init>"), (0, u "()V"), (7, .class_ 16), (1, u "com/example/wirelens/wirelens/wire/Varint"), (32, u "value"), (0, u "([BII)J"), (16, u "MAX_LENGTH"), (0, u "I"), (2, u "PAYLOAD_BITS"), (1, u "PAYLOAD_MASK"), (1, u "CONTINUATION_BIT"), (1, u "LAST_BYTE_MAX")] 19

def k2m0 : Method := { name := "<init>", desc := "()V", sig := { parameters := [], returnType := none }, accessFlags := 2, code := none }
def k2c1 : Code := { maxStack := 5, maxLocals := 7, code := prog_57_method_9_code, exceptionTable := #[], attributes := #[] }
def k2m1 : Method := { name := "value", desc := "([BII)J", sig := { parameters := [(.array .byte), .int, .int], returnType := some .long }, accessFlags := 9, code := some k2c1 }
/-- com/example/wirelens/wirelens/wire/Varint -/
def k2 : Class := { plain "com/example/wirelens/wirelens/wire/Varint" (some 0) with
  accessFlags := 49
  interfaces := #[]
  cf := some (fileOf pool2 14 #[] #[{ accessFlags := 2, nameIndex := 5, descriptorIndex := 6, attributes := #[] }, { accessFlags := 9, nameIndex := 49, descriptorIndex := 50, attributes := #[] }] 49 2 #[] #[{ accessFlags := 25, nameIndex := 67, descriptorIndex := 68, attributes := #[] }, { accessFlags := 26, nameIndex := 71, descriptorIndex := 68, attributes := #[] }, { accessFlags := 26, nameIndex := 73, descriptorIndex := 68, attributes := #[] }, { accessFlags := 26, nameIndex := 75, descriptorIndex := 68, attributes := #[] }, { accessFlags := 26, nameIndex := 77, descriptorIndex := 68, attributes := #[] }])
  fields := #[{ name := "MAX_LENGTH", type := .int, accessFlags := 25, slot := 0, constantValue := 0 }, { name := "PAYLOAD_BITS", type := .int, accessFlags := 26, slot := 1, constantValue := 0 }, { name := "PAYLOAD_MASK", type := .int, accessFlags := 26, slot := 2, constantValue := 0 }, { name := "CONTINUATION_BIT", type := .int, accessFlags := 26, slot := 3, constantValue := 0 }, { name := "LAST_BYTE_MAX", type := .int, accessFlags := 26, slot := 4, constantValue := 0 }]
  methods := #[k2m0, k2m1]
  instanceTypes := #[]
  staticTypes := #[.int, .int, .int, .int, .int]
  resolved := Array.replicate 97 none
  statics := none }

def pool3 : Array CpInfo := pool [(1, u "java/lang/Cloneable"), (0, .class_ 1), (0, u "java/lang/Object"), (0, .class_ 3)] 3

/-- java/lang/Cloneable -/
def k3 : Class := { plain "java/lang/Cloneable" (some 0) with
  accessFlags := 1537
  interfaces := #[]
  cf := some (fileOf pool3 2 #[] #[] 1537 4 #[] #[])
  fields := #[]
  methods := #[]
  instanceTypes := #[]
  staticTypes := #[]
  resolved := Array.replicate 8 none
  statics := none }

def pool4 : Array CpInfo := pool [(1, u "java/io/Serializable"), (0, .class_ 1), (0, u "java/lang/Object"), (0, .class_ 3)] 3

/-- java/io/Serializable -/
def k4 : Class := { plain "java/io/Serializable" (some 0) with
  accessFlags := 1537
  interfaces := #[]
  cf := some (fileOf pool4 2 #[] #[] 1537 4 #[] #[])
  fields := #[]
  methods := #[]
  instanceTypes := #[]
  staticTypes := #[]
  resolved := Array.replicate 8 none
  statics := none }

/-- the primitive byte -/
def k5 : Class := { plain "byte" none with kind := .primitive 'B', accessFlags := 0x411 }
/-- [B -/
def k6 : Class := { plain "[B" (some 0) with kind := .array 5 .byte, interfaces := #[3, 4], accessFlags := 1041 }

/-- the primitive int -/
def k7 : Class := { plain "int" none with kind := .primitive 'I', accessFlags := 0x411 }
/-- [I -/
def k8 : Class := { plain "[I" (some 0) with kind := .array 7 .int, interfaces := #[3, 4], accessFlags := 1041 }

def heap : Heap := #[]
def classes : Array Class := #[k0, k1, k2, k3, k4, k5, k6, k7, k8]
def interned : List (Array UInt16 × Addr) := []
def slotsUsed : Nat := 0
def theMethod : MethodId := ⟨1, 1⟩
def args0 : Array Value := #[.long 0, .int 0, .int 0, .long 0, .long 0]
def aboutOver (below : List Frame) : State where
  vm := { classes := classes, interned := interned.toArray }
  heap := heap
  slotsUsed := slotsUsed
  threads := #[{ frames := .invoking theMethod args0 :: below }]
def below0 : List Frame := [.native { method := ⟨0, 0⟩, args := #[] }]
def about1 : State := aboutOver below0
def p0 : Program := .bare "" "" ""
def e0 : Env := launch0.env 0 0 0
theorem w_frames : about1.frames = Frame.invoking theMethod args0 :: below0 := rfl
set_option maxRecDepth 65536 in
theorem w_args : argsFit about1.vm theMethod args0 = true := by decide +kernel
set_option maxRecDepth 65536 in
theorem w_heap : heapFits about1 = true := by decide +kernel
set_option maxRecDepth 65536 in
theorem w_runnable : about1.curStatus? = some .runnable := by decide +kernel
set_option maxRecDepth 65536 in
theorem w_alone : about1.alone = true := by decide +kernel
set_option maxRecDepth 65536 in
theorem w_named : about1.methodNamed? x = some theMethod := by decide +kernel
set_option maxRecDepth 65536 in
theorem w_hears : about1.hears theMethod below0 = true := by decide +kernel
set_option maxRecDepth 65536 in
theorem w_ripe : about1.ripe theMethod args0 below0 = true := by decide +kernel
theorem w_running : about1.status = .running := rfl
set_option maxRecDepth 65536 in
theorem w_room : about1.hasRoom e0.platform room_1 = true :=
  launch0.hasRoom_least _ room_1 (by decide +kernel) (by decide +kernel) (by decide +kernel) (by decide +kernel) (by decide +kernel) (by decide +kernel)
theorem allAtoms_all (ts : List Jvm.Cond) (a : Array Jvm.Value) (st : Jvm.State) : (allAtoms ts).before a st = ts.all (fun c => c.before a st) := by
  induction ts with
  | nil => rfl
  | cons c t ih =>
    show (Jvm.Cond.and c (allAtoms t)).before a st = _
    rw [Jvm.Cond.before_and, ih, List.all_cons]
def words1 : List Jvm.Cond := Jvm.Cond.code x code maxLocals ret :: tables_1
/-- a 'code' word, met by the world's own term for the bytes: nothing is compared byte by byte -/
theorem code_word {y : MethodName} {bytes : ByteArray} {mx : Nat} {rt : Option FieldType} {a : Array Value} {s : State} {m : MethodId} {meth : Method} {c : Code} (h1 : s.methodNamed? y = some m) (h2 : s.vm.method? m = some meth) (h3 : meth.code = some c) (h4 : c.code = bytes)
    (h5 : (c.maxLocals == mx && c.exceptionTable.isEmpty && decide (c.maxStack ≤ mostOperands) && decide (meth.sig.returnType = rt) && !meth.locks && decide (parseMethodDescriptor y.desc = some meth.sig)) = true) : (Jvm.Cond.code y bytes mx rt).before a s = true := by
  simp only [Bool.and_eq_true, beq_iff_eq, Bool.not_eq_true', decide_eq_true_eq] at h5
  obtain ⟨⟨⟨⟨⟨g1, g2⟩, g3⟩, g4⟩, g5⟩, g6⟩ := h5
  simp [Cond.before, Cond.holds, Cond.value, h1, h2, h3, h4, g1, g2, g3, g4, g5, g6]
def isCode : Jvm.Cond → Bool
  | .code _ _ _ _ => true
  | _ => false
theorem all_split {L : List Jvm.Cond} {P : Jvm.Cond → Bool} (h1 : L.all (fun c => isCode c || P c) = true) (h2 : ∀ c ∈ L.filter isCode, P c = true) : L.all P = true := by
  refine List.all_eq_true.mpr fun c hc => ?_
  have h := List.all_eq_true.mp h1 c hc
  rcases Bool.eq_false_or_eq_true (isCode c) with hi | hi
  · exact h2 c (List.mem_filter.mpr ⟨hc, hi⟩)
  · simpa [hi] using h
set_option maxRecDepth 65536 in
theorem w_c0 : (Jvm.Cond.code x code maxLocals ret).before args0 about1 = true := code_word (m := ⟨1, 1⟩) (meth := k1m1) (c := k1c1) (by decide +kernel) rfl rfl rfl (by decide +kernel)
set_option maxRecDepth 65536 in
theorem w_c1 : (Jvm.Cond.code ({ cls := "com/example/wirelens/wirelens/wire/VarintValuePinLaw", name := "junk", desc := "(JJI)B" } : Jvm.MethodName) method_3_code (5 : Nat) (Option.some Jvm.ClassFile.FieldType.byte)).before args0 about1 = true := code_word (m := ⟨1, 2⟩) (meth := k1m2) (c := k1c2) (by decide +kernel) rfl rfl rfl (by decide +kernel)
set_option maxRecDepth 65536 in
theorem w_c2 : (Jvm.Cond.code ({ cls := "com/example/wirelens/wirelens/wire/VarintValuePinLaw", name := "put", desc := "([BIJII)V" } : Jvm.MethodName) method_4_code (8 : Nat) (Option.none : Option Jvm.ClassFile.FieldType)).before args0 about1 = true := code_word (m := ⟨1, 3⟩) (meth := k1m3) (c := k1c3) (by decide +kernel) rfl rfl rfl (by decide +kernel)
set_option maxRecDepth 65536 in
theorem w_c3 : (Jvm.Cond.code ({ cls := "com/example/wirelens/wirelens/wire/Varint", name := "value", desc := "([BII)J" } : Jvm.MethodName) prog_57_method_9_code (7 : Nat) (Option.some Jvm.ClassFile.FieldType.long)).before args0 about1 = true := code_word (m := ⟨2, 1⟩) (meth := k2m1) (c := k2c1) (by decide +kernel) rfl rfl rfl (by decide +kernel)
def codes1 : List Jvm.Cond := [Jvm.Cond.code x code maxLocals ret, Jvm.Cond.code ({ cls := "com/example/wirelens/wirelens/wire/VarintValuePinLaw", name := "junk", desc := "(JJI)B" } : Jvm.MethodName) method_3_code (5 : Nat) (Option.some Jvm.ClassFile.FieldType.byte), Jvm.Cond.code ({ cls := "com/example/wirelens/wirelens/wire/VarintValuePinLaw", name := "put", desc := "([BIJII)V" } : Jvm.MethodName) method_4_code (8 : Nat) (Option.none : Option Jvm.ClassFile.FieldType), Jvm.Cond.code ({ cls := "com/example/wirelens/wirelens/wire/Varint", name := "value", desc := "([BII)J" } : Jvm.MethodName) prog_57_method_9_code (7 : Nat) (Option.some Jvm.ClassFile.FieldType.long)]
set_option maxRecDepth 65536 in
theorem codes_eq : words1.filter isCode = codes1 := rfl
theorem w_codes : ∀ c ∈ words1.filter isCode, c.before args0 about1 = true := by
  rw [codes_eq]
  intro c hc
  simp only [codes1, List.mem_cons, List.not_mem_nil, or_false] at hc
  rcases hc with rfl | rfl | rfl | rfl
  · exact w_c0
  · exact w_c1
  · exact w_c2
  · exact w_c3
set_option maxRecDepth 65536 in
theorem w_t1 : words1.all (fun c => isCode c || c.before args0 about1) = true := by decide +kernel
theorem w_tables : (allAtoms (Jvm.Cond.code x code maxLocals ret :: tables_1)).before args0 about1 = true := by
  rw [allAtoms_all]
  show words1.all (fun c => c.before args0 about1) = true
  refine all_split ?_ w_codes
  rw [w_t1]
set_option maxRecDepth 65536 in
theorem w_case : (Jvm.Cond.and given_1 narrow_1).before args0 about1 = true := by decide +kernel
theorem w_applies : (headSpec (Jvm.Cond.code x code maxLocals ret :: tables_1) room_1).applies x e0.platform about1 = true :=
  (Spec.applies_iff w_frames).mpr ⟨w_running, w_runnable, w_alone, w_named, w_hears, w_ripe, w_room, w_tables⟩
theorem atStart : AtStart classFile x code maxLocals ret World_1 tables_1 room_1 Calls_1 rest_1 Pre_1 launch0 p0 e0 about1 theMethod args0 below0 :=
  ⟨lists_1, trivial, launch0.admits_env _ _ _, launch0.least_env, fairChoices_fair.cas, fairChoices_fair.clock, w_frames, w_args, w_heap, w_applies, trivial, trivial, w_case⟩
end start1
theorem witness_1 : WitnessClaimed_1 := ⟨start1.p0, start1.e0, start1.about1, start1.theMethod, start1.args0, start1.below0, start1.atStart⟩
end Jvm.Pilot.@@N@@
