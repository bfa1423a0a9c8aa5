import JvmDerived
import JvmDerived.Pilot.@@N@@Statement
import JvmDerived.Pilot.@@N@@Code
set_option linter.unusedVariables false
set_option linter.unusedSimpArgs false
namespace Jvm.RoadKit
open Sem ClassFile Op Lib Jvm.Stand Jvm.Free Jvm.LawKit
section OwnKit
variable {p : Program} {l : Launch} {e : Env} {R : Room} {s : State} {m : MethodId} {args : Array Value} {below : List Frame} {meth : Method} {c : Code} {T : State} {locs : List Loc} {cells slots : Nat} {Z : State} {a0 : Array Value} {h : Heap}
abbrev OwnP : Type := Option Value → Heap → List Loc → Prop
/-- from the state A the run comes back with what P says -/
def OwnG (tb : Tables) (e : Env) (below : List Frame) (s : State) (P : OwnP) (rc rs : Nat) (A : State) : Prop :=
  ∃ s₂ o, Steps tb e below A s₂ ∧ s₂.status = .running ∧ Ended s₂ below o ∧ ∃ v L, o = .returned v ∧ P v s₂.heap L ∧ FrameEnd s o s₂ L rc rs
theorem own_go {tb : Tables} {P : OwnP} {rc rs : Nat} {A : State} (T' : State) (m' : MethodId) (pc : Nat) (Ls : Array Slot) (st : List Value) (f : ∀ t, Steps tb e below (T'.setTop (mkF m' pc Ls st)) t → Steps tb e below A t) (k : OwnG tb e below s P rc rs (T'.setTop (mkF m' pc Ls st))) : OwnG tb e below s P rc rs A := by
  obtain ⟨s₂, o, h1, h2⟩ := k
  exact ⟨s₂, o, f _ h1, h2⟩
theorem own_mono {tb : Tables} {P P' : OwnP} {rc rs : Nat} {A : State} (f : ∀ v h L, P v h L → P' v h L) (k : OwnG tb e below s P rc rs A) : OwnG tb e below s P' rc rs A := by
  obtain ⟨s₂, o, h1, h2, h3, v, L, h4, h5, h6⟩ := k
  exact ⟨s₂, o, h1, h2, h3, v, L, h4, f _ _ _ h5, h6⟩
/-- what a walk knows of the body -/
def OwnX (Z : State) (p : Program) (s : State) (m : MethodId) (meth : Method) (c : Code) (bytes : ByteArray) (maxL : Nat) (ret : Option FieldType) (own nm : String) : Prop :=
  p.tables.exec = Jvm.exec ∧ c.code = bytes ∧ c.maxLocals = maxL ∧ s.vm.findClass own = some m.cls ∧ meth.name = nm ∧ meth.sig.returnType = ret ∧ meth.locks = false ∧ Z.Warmed39 s.vm
/-- a body's contract -/
abbrev OwnC (l : Launch) (Z : State) (y : MethodName) (bytes : ByteArray) (maxL : Nat) (ret : Option FieldType) (ws : List Cond) (rm : Room) (as' : Array Value) (h0 : Heap) (P : OwnP) : Prop :=
  MetFree l y (head1 (Cond.code y bytes maxL ret :: ws) rm) (fun a U => a = as' ∧ Z.Warmed39 U.vm ∧ U.heap = h0) (fun _ _ _ _ _ => True) (fun _ U o U' => ∃ v L, o = .returned v ∧ P v U'.heap L ∧ FrameEnd U o U' L rm.cells rm.slots)
theorem own_entry {y : MethodName} {bytes : ByteArray} {maxL : Nat} {ret : Option FieldType} {ws : List Cond} {rm : Room} {as' : Array Value} {h0 : Heap} {P : OwnP} {Ls : Array Slot} (hpl : plainFor y = true) (ef : ∀ m, entryFrame m as' maxL = mkF m 0 Ls [])
    (body : ∀ (p : Program) (e : Env) (s : State) (m : MethodId) (below : List Frame) (meth : Method) (c : Code) (T : State), Stand p l e rm s m as' below meth c T [] 0 0 → OwnX Z p s m meth c bytes maxL ret y.cls y.name → T.heap = h0 → OwnG p.tables e below s P rm.cells rm.slots (T.setTop (mkF m 0 Ls []))) :
    OwnC l Z y bytes maxL ret ws rm as' h0 P := by
  refine MetFree.of_bodySF hpl hisR ?_
  intro p e s m args below meth c s₁ Bd hml0 hP hK
  obtain ⟨rfl, hZ, hh⟩ := hP
  have e0 : s₁.heap = h0 := by rw [← hh, Bd.state]; rfl
  obtain ⟨s₂, o, h1, h2⟩ := body p e s m below meth c s₁ (Stand.of_body Bd) ⟨Bd.exec, Bd.bytes, hml0, findClass_of_methodNamed Bd.named, (name_of_methodNamed Bd.named Bd.method).1, Bd.returns, Bd.notSynchronized, hZ⟩ e0
  exact ⟨s₂, o, castTop (ef m) h1, h2⟩
theorem own_ret {P : OwnP} {rc rs : Nat} (X : Stand p l e R s m args below meth c T locs cells slots) (hx : p.tables.exec = Jvm.exec) (hlk : meth.locks = false) {pc : Nat} {Ls : Array Slot} {w : Value} {t : FieldType} {i : Instr} {rest : List Value} (hret : meth.sig.returnType = some t) (hn : narrow t w = w)
    (hi : (i = .ireturn ∧ (t = .int ∨ t = .boolean ∨ t = .byte ∨ t = .char ∨ t = .short) ∧ ∃ z, w = .int z) ∨ (i = .lreturn ∧ t = .long ∧ ∃ z, w = .long z) ∨ (i = .dreturn ∧ t = .double ∧ ∃ z, w = .double z) ∨ (i = .freturn ∧ t = .float ∧ ∃ z, w = .float z) ∨ (i = .areturn ∧ t.isReference = true ∧ w.isRef = true))
    (hd : decode c.code pc = .ok (i, 1)) (hc : cells ≤ rc) (hs : slots ≤ rs) (hP : P (some w) T.heap locs) : OwnG p.tables e below s P rc rs (T.setTop (mkF m pc Ls (w :: rest))) := by
  obtain ⟨fs, hr, hrun, hended, hW, hsame⟩ := X.leave (v := some w) (fun h => by rw [hret] at h; cases h) hlk
  exact ⟨_, _, retOut X hx hret hn hi hd hr, hrun, hended, _, _, rfl, hP, ⟨_, rfl⟩, hW, hsame.mono hc hs⟩
theorem own_retI {P : OwnP} {rc rs : Nat} (X : Stand p l e R s m args below meth c T locs cells slots) (hx : p.tables.exec = Jvm.exec) (hlk : meth.locks = false) {pc : Nat} {Ls : Array Slot} {z : Int32} {rest : List Value} (hret : meth.sig.returnType = some .int)
    (hd : decode c.code pc = .ok (.ireturn, 1)) (hc : cells ≤ rc) (hs : slots ≤ rs) (hP : P (some (.int z)) T.heap locs) : OwnG p.tables e below s P rc rs (T.setTop (mkF m pc Ls (.int z :: rest))) :=
  own_ret X hx hlk hret rfl (Or.inl ⟨rfl, Or.inl rfl, z, rfl⟩) hd hc hs hP
theorem own_retZ {P : OwnP} {rc rs : Nat} (X : Stand p l e R s m args below meth c T locs cells slots) (hx : p.tables.exec = Jvm.exec) (hlk : meth.locks = false) {pc : Nat} {Ls : Array Slot} {z : Int32} {rest : List Value} (hret : meth.sig.returnType = some .boolean) (hz : z = 0 ∨ z = 1)
    (hd : decode c.code pc = .ok (.ireturn, 1)) (hc : cells ≤ rc) (hs : slots ≤ rs) (hP : P (some (.int z)) T.heap locs) : OwnG p.tables e below s P rc rs (T.setTop (mkF m pc Ls (.int z :: rest))) :=
  own_ret X hx hlk hret (by rcases hz with rfl | rfl <;> rfl) (Or.inl ⟨rfl, Or.inr (Or.inl rfl), z, rfl⟩) hd hc hs hP
theorem own_retB {P : OwnP} {rc rs : Nat} (X : Stand p l e R s m args below meth c T locs cells slots) (hx : p.tables.exec = Jvm.exec) (hlk : meth.locks = false) {pc : Nat} {Ls : Array Slot} {z : Int32} {rest : List Value} (hret : meth.sig.returnType = some .byte) (hz : narrow .byte (.int z) = .int z)
    (hd : decode c.code pc = .ok (.ireturn, 1)) (hc : cells ≤ rc) (hs : slots ≤ rs) (hP : P (some (.int z)) T.heap locs) : OwnG p.tables e below s P rc rs (T.setTop (mkF m pc Ls (.int z :: rest))) :=
  own_ret X hx hlk hret hz (Or.inl ⟨rfl, Or.inr (Or.inr (Or.inl rfl)), z, rfl⟩) hd hc hs hP
theorem own_retJ {P : OwnP} {rc rs : Nat} (X : Stand p l e R s m args below meth c T locs cells slots) (hx : p.tables.exec = Jvm.exec) (hlk : meth.locks = false) {pc : Nat} {Ls : Array Slot} {z : Int64} {rest : List Value} (hret : meth.sig.returnType = some .long)
    (hd : decode c.code pc = .ok (.lreturn, 1)) (hc : cells ≤ rc) (hs : slots ≤ rs) (hP : P (some (.long z)) T.heap locs) : OwnG p.tables e below s P rc rs (T.setTop (mkF m pc Ls (.long z :: rest))) :=
  own_ret X hx hlk hret rfl (Or.inr (Or.inl ⟨rfl, rfl, z, rfl⟩)) hd hc hs hP
theorem own_retA {P : OwnP} {rc rs : Nat} (X : Stand p l e R s m args below meth c T locs cells slots) (hx : p.tables.exec = Jvm.exec) (hlk : meth.locks = false) {pc : Nat} {Ls : Array Slot} {w : Value} {t : FieldType} {rest : List Value} (hret : meth.sig.returnType = some t) (hn : narrow t w = w) (ht : t.isReference = true) (hw : w.isRef = true)
    (hd : decode c.code pc = .ok (.areturn, 1)) (hc : cells ≤ rc) (hs : slots ≤ rs) (hP : P (some w) T.heap locs) : OwnG p.tables e below s P rc rs (T.setTop (mkF m pc Ls (w :: rest))) :=
  own_ret X hx hlk hret hn (Or.inr (Or.inr (Or.inr (Or.inr ⟨rfl, ht, hw⟩)))) hd hc hs hP
theorem own_retV {P : OwnP} {rc rs : Nat} (X : Stand p l e R s m args below meth c T locs cells slots) (hx : p.tables.exec = Jvm.exec) (hlk : meth.locks = false) {pc : Nat} {Ls : Array Slot} (hret : meth.sig.returnType = none)
    (hd : decode c.code pc = .ok (.return_, 1)) (hc : cells ≤ rc) (hs : slots ≤ rs) (hP : P none T.heap locs) : OwnG p.tables e below s P rc rs (T.setTop (mkF m pc Ls [])) := by
  obtain ⟨fs, hr, hrun, hended, hW, hsame⟩ := X.leave (v := none) (fun _ => rfl) hlk
  exact ⟨_, _, X.returnOut hx hret hd hr, hrun, hended, _, _, rfl, hP, ⟨_, rfl⟩, hW, hsame.mono hc hs⟩
theorem own_static (X : Stand p l e R s m args below meth c T locs cells slots) (hx : p.tables.exec = Jvm.exec) (hZ : Z.Warmed39 s.vm) {own : String} {index : Nat} {y : MethodName} {bytes : ByteArray} {maxL : Nat} {ret : Option FieldType} {rm : Room} {as' : Array Value} {P : OwnP}
    (hown : s.vm.findClass own = some m.cls) (w1 : (Cond.methodLink own index y).before a0 Z = true) (w2 : (Cond.static y).before a0 Z = true) (w3 : (Cond.initialized y.cls).before a0 Z = true) (w4 : (Cond.code y bytes maxL ret).before a0 Z = true) (hy : y.cls ≠ "java/lang/invoke/MethodHandle" ∧ y.cls ≠ "java/lang/invoke/VarHandle")
    (hM : OwnC l Z y bytes maxL ret [] rm as' h P) (eT : T.heap = h) {pc : Nat} {Ls : Array Slot} {argsL rest : List Value} (W : Nat) {st : List Value} (hsz : Ls.size = c.maxLocals) (hlen : ∀ sig, parseMethodDescriptor y.desc = some sig → argsL.length = sig.parameters.length) (has : argsL.toArray = as') (hst : st = argsL.reverse ++ rest) (hW : (rest.map fun v => v.category).sum ≤ W)
    (hd : decode c.code pc = .ok (.invokestatic index, 3)) (hf : rm.frames + 1 ≤ R.frames) (hl : W + (maxL + 11) + rm.locals ≤ R.locals) (hc : cells + rm.cells ≤ R.cells) (hs : slots + rm.slots ≤ R.slots) :
    ∃ v T' L, Stand p l e R s m args below meth c T' (locs ++ L) (cells + rm.cells) (slots + rm.slots) ∧ P v T'.heap L ∧ ∀ t, Steps p.tables e below (T'.setTop (mkF m (pc + 3) Ls (v.toList ++ rest))) t → Steps p.tables e below (T.setTop (mkF m pc Ls st)) t := by
  obtain ⟨v, vm₁, ⟨T', L', k', n'⟩, -, X', ⟨L, hQ, l1, l2, l3⟩, stp⟩ := Jvm.LawKit.callS X hx hown (mvT hZ w1) (mvT hZ w2) (mvT hZ w3) (mvT hZ w4) hy (backOf (W := W) hM hZ w4 w3 hf hl) (g := mkF m pc Ls st) rfl hsz (argsL := argsL) (rest := rest) hlen hst (by show 2 * 0 + _ ≤ _; omega) hd (fun _ _ => ⟨has, eT, hc, hs⟩)
  dsimp only [Pt.U, Pt.locs, Pt.cells, Pt.slots] at X' l1 l2 l3 stp hQ
  subst l1 l2 l3
  exact ⟨v, T', L, X', hQ, stp⟩
theorem own_init (X : Stand p l e R s m args below meth c T locs cells slots) (hx : p.tables.exec = Jvm.exec) (hZ : Z.Warmed39 s.vm) {own : String} {index : Nat} {y : MethodName} {bytes : ByteArray} {maxL : Nat} {rm : Room} {as' : Array Value} {P : OwnP} (hy1 : y.name = "<init>")
    (hown : s.vm.findClass own = some m.cls) (w1 : (Cond.methodLink own index y).before a0 Z = true) (w2 : (Cond.instanceMethod y).before a0 Z = true) (w3 : (Cond.initialized y.cls).before a0 Z = true) (w4 : (Cond.code y bytes maxL none).before a0 Z = true) (hy : y.cls ≠ "java/lang/invoke/MethodHandle" ∧ y.cls ≠ "java/lang/invoke/VarHandle")
    (hM : OwnC l Z y bytes maxL none [] rm as' h P) (eT : T.heap = h) {pc : Nat} {Ls : Array Slot} {a : Addr} {argsL rest : List Value} (W : Nat) {st : List Value} (hsz : Ls.size = c.maxLocals) (hlen : ∀ sig, parseMethodDescriptor y.desc = some sig → argsL.length = sig.parameters.length) (has : (.ref a :: argsL).toArray = as') (hst : st = argsL.reverse ++ .ref a :: rest) (hW : (rest.map fun v => v.category).sum ≤ W)
    (hd : decode c.code pc = .ok (.invokespecial index, 3)) (hf : rm.frames + 1 ≤ R.frames) (hl : W + (maxL + 11) + rm.locals ≤ R.locals) (hc : cells + rm.cells ≤ R.cells) (hs : slots + rm.slots ≤ R.slots) :
    ∃ v T' L, Stand p l e R s m args below meth c T' (locs ++ L) (cells + rm.cells) (slots + rm.slots) ∧ P v T'.heap L ∧ ∀ t, Steps p.tables e below (T'.setTop (mkF m (pc + 3) Ls (v.toList ++ rest))) t → Steps p.tables e below (T.setTop (mkF m pc Ls st)) t := by
  obtain ⟨v, vm₁, ⟨T', L', k', n'⟩, -, X', ⟨L, hQ, l1, l2, l3⟩, stp⟩ := X.specialBack hx hy1 hown (mvT hZ w1) (mvT hZ w2) (mvT hZ w4) hy (backOf (W := W) hM hZ w4 w3 hf hl) (g := mkF m pc Ls st) rfl hsz (Steps.refl _) (a := a) (argsL := argsL) (rest := rest) hlen hst (by show 2 * 0 + _ ≤ _; omega) hd (fun _ _ => ⟨has, eT, hc, hs⟩)
  dsimp only [Pt.U, Pt.locs, Pt.cells, Pt.slots] at X' l1 l2 l3 stp hQ
  subst l1 l2 l3
  exact ⟨v, T', L, X', hQ, fun t k => stp.trans k⟩
theorem own_virtual (X : Stand p l e R s m args below meth c T locs cells slots) (hx : p.tables.exec = Jvm.exec) (hZ : Z.Warmed39 s.vm) {own C : String} {index : Nat} {y z : MethodName} {bytes : ByteArray} {maxL : Nat} {ret : Option FieldType} {rm : Room} {as' : Array Value} {P : OwnP}
    (hown : s.vm.findClass own = some m.cls) (w1 : (Cond.methodLink own index y).before a0 Z = true) (w2 : (Cond.declares y).before a0 Z = true) (hnf : NotFace s y) (w5 : (Cond.selects C y z).before a0 Z = true) (w6 : (Cond.instanceMethod z).before a0 Z = true) (w3 : (Cond.initialized z.cls).before a0 Z = true) (w4 : (Cond.code z bytes maxL ret).before a0 Z = true) (hy : y.cls ≠ "java/lang/invoke/MethodHandle" ∧ y.cls ≠ "java/lang/invoke/VarHandle")
    (hM : OwnC l Z z bytes maxL ret [] rm as' h P) (eT : T.heap = h) {a : Addr} (E : Exa Z h a C) {pc : Nat} {Ls : Array Slot} {argsL rest : List Value} (W : Nat) {st : List Value} (hsz : Ls.size = c.maxLocals) (hlen : ∀ sig, parseMethodDescriptor y.desc = some sig → argsL.length = sig.parameters.length) (has : (.ref a :: argsL).toArray = as') (hst : st = argsL.reverse ++ .ref a :: rest) (hW : (rest.map fun v => v.category).sum ≤ W)
    (hd : decode c.code pc = .ok (.invokevirtual index, 3)) (hf : rm.frames + 1 ≤ R.frames) (hl : W + (maxL + 11) + rm.locals ≤ R.locals) (hc : cells + rm.cells ≤ R.cells) (hs : slots + rm.slots ≤ R.slots) :
    ∃ v T' L, Stand p l e R s m args below meth c T' (locs ++ L) (cells + rm.cells) (slots + rm.slots) ∧ P v T'.heap L ∧ ∀ t, Steps p.tables e below (T'.setTop (mkF m (pc + 3) Ls (v.toList ++ rest))) t → Steps p.tables e below (T.setTop (mkF m pc Ls st)) t := by
  obtain ⟨cq, kq, qa, qb, qc⟩ := isOf hZ eT E
  obtain ⟨v, vm₁, ⟨T', L', k', n'⟩, -, X', ⟨L, hQ, l1, l2, l3⟩, stp⟩ := X.virtualBack hx (y := y) (z := z) hown (mvT hZ w1) (mvT hZ w2) hnf (mvT hZ w5) (mvT hZ w6) hy (backOf (W := W) hM hZ w4 w3 hf hl) qa qc (g := mkF m pc Ls st) rfl hsz (Steps.refl _) (argsL := argsL) (rest := rest) hlen hst (by show 2 * 0 + _ ≤ _; omega) hd (fun _ _ => ⟨has, eT, hc, hs⟩)
  dsimp only [Pt.U, Pt.locs, Pt.cells, Pt.slots] at X' l1 l2 l3 stp hQ
  subst l1 l2 l3
  exact ⟨v, T', L, X', hQ, fun t k => stp.trans k⟩
/-- a body that writes nothing and makes nothing -/
def OwnPure (w : Value) (h0 : Heap) : OwnP := fun v h L => v = some w ∧ h = h0 ∧ L = []
theorem own_nil (X : Stand p l e R s m args below meth c T (locs ++ []) cells slots) : Stand p l e R s m args below meth c T locs cells slots := by rwa [List.append_nil] at X
theorem own_iaload (X : Stand p l e R s m args below meth c T locs cells slots) (hx : p.tables.exec = Jvm.exec) (hZ : Z.Warmed39 s.vm) (eT : T.heap = h) {a : Addr} {k : ClassId} {n : Int32} {vs : List Value} {dv : Value} (V : Arv Z h a k .int n vs dv) {j x : Int32} (hj : ¬ j < 0 ∧ j < n) (hv : vs.getD j.toNatClampNeg dv = .int x)
    {pc : Nat} {Ls : Array Slot} {rest : List Value} (hd : decode c.code pc = .ok (.iaload, 1)) : ∀ t, Steps p.tables e below (T.setTop (mkF m (pc + 1) Ls (.int x :: rest))) t → Steps p.tables e below (T.setTop (mkF m pc Ls (.int j :: .ref a :: rest))) t := by
  obtain ⟨cl, A, -, S, -, H, -⟩ := V
  exact fun t k => X.iaload hx (by rw [eT]; exact A.1) (State.isArrayOf_alike hZ.alike A.2.1) A.2.2 (inb_of S hj) (H.at (inb_of S hj) hv) (g := mkF m pc Ls (.int j :: .ref a :: rest)) rfl rfl hd t k
theorem own_baload (X : Stand p l e R s m args below meth c T locs cells slots) (hx : p.tables.exec = Jvm.exec) (hZ : Z.Warmed39 s.vm) (eT : T.heap = h) {a : Addr} {k : ClassId} {n : Int32} {vs : List Value} {dv : Value} (V : Arv Z h a k .byte n vs dv) {j x : Int32} (hj : ¬ j < 0 ∧ j < n) (hv : vs.getD j.toNatClampNeg dv = .int x)
    {pc : Nat} {Ls : Array Slot} {rest : List Value} (hd : decode c.code pc = .ok (.baload, 1)) : ∀ t, Steps p.tables e below (T.setTop (mkF m (pc + 1) Ls (.int x :: rest))) t → Steps p.tables e below (T.setTop (mkF m pc Ls (.int j :: .ref a :: rest))) t := by
  obtain ⟨cl, A, -, S, -, H, -⟩ := V
  exact fun t k => X.baloadBytes hx (by rw [eT]; exact A.1) (State.isArrayOf_alike hZ.alike A.2.1) A.2.2 (inb_of S hj) (H.at (inb_of S hj) hv) (g := mkF m pc Ls (.int j :: .ref a :: rest)) rfl rfl hd t k
theorem own_aaload (X : Stand p l e R s m args below meth c T locs cells slots) (hx : p.tables.exec = Jvm.exec) (hZ : Z.Warmed39 s.vm) (eT : T.heap = h) {a : Addr} {k : ClassId} {ty : FieldType} {n : Int32} {vs : List Value} {dv : Value} (V : Arv Z h a k ty n vs dv) (hty : ty.isReference = true) {j : Int32} {w : Value} (hj : ¬ j < 0 ∧ j < n) (hv : vs.getD j.toNatClampNeg dv = w)
    {pc : Nat} {Ls : Array Slot} {rest : List Value} (hd : decode c.code pc = .ok (.aaload, 1)) : ∀ t, Steps p.tables e below (T.setTop (mkF m (pc + 1) Ls (w :: rest))) t → Steps p.tables e below (T.setTop (mkF m pc Ls (.int j :: .ref a :: rest))) t := by
  obtain ⟨cl, A, -, S, -, H, -⟩ := V
  exact fun t k => X.aaload hx (by rw [eT]; exact A.1) (State.isArrayOf_alike hZ.alike A.2.1) hty A.2.2 (inb_of S hj) (H.at (inb_of S hj) hv) (g := mkF m pc Ls (.int j :: .ref a :: rest)) rfl rfl hd t k
theorem own_alen (X : Stand p l e R s m args below meth c T locs cells slots) (hx : p.tables.exec = Jvm.exec) (hZ : Z.Warmed39 s.vm) (eT : T.heap = h) {a : Addr} {k : ClassId} {ty : FieldType} {n : Int32} {vs : List Value} {dv : Value} (V : Arv Z h a k ty n vs dv)
    {pc : Nat} {Ls : Array Slot} {rest : List Value} (hd : decode c.code pc = .ok (.arraylength, 1)) : ∀ t, Steps p.tables e below (T.setTop (mkF m (pc + 1) Ls (.int n :: rest))) t → Steps p.tables e below (T.setTop (mkF m pc Ls (.ref a :: rest))) t := by
  obtain ⟨cl, A, -, S, N, H, -⟩ := V
  intro t q
  refine X.arraylength hx (by rw [eT]; exact A.1) (State.isArrayOf_alike hZ.alike A.2.1) (g := mkF m pc Ls (.ref a :: rest)) rfl rfl hd t ?_
  rw [len_of S N]
  exact q
theorem own_iastore (X : Stand p l e R s m args below meth c T locs cells slots) (hx : p.tables.exec = Jvm.exec) (hZ : Z.Warmed39 s.vm) (eT : T.heap = h) {a : Addr} {k : ClassId} {n : Int32} {vs : List Value} {dv : Value} (V : Arv Z h a k .int n vs dv) {j x : Int32} (hj : ¬ j < 0 ∧ j < n) (i : Nat) (hi : j.toNatClampNeg = i) (hl : i < vs.length)
    {pc : Nat} {Ls : Array Slot} {rest : List Value} (hd : decode c.code pc = .ok (.iastore, 1)) : ∃ T' h', Stand p l e R s m args below meth c T' (locs ++ [⟨a, i⟩]) cells slots ∧ T'.heap = h' ∧ Wr h h' a i (.int x) ∧ Arv Z h' a k .int n (vs.set i (.int x)) dv ∧ ∀ t, Steps p.tables e below (T'.setTop (mkF m (pc + 1) Ls rest)) t → Steps p.tables e below (T.setTop (mkF m pc Ls (.int x :: .int j :: .ref a :: rest))) t := by
  obtain ⟨cl, A, q1, S, N, H, G⟩ := V
  obtain ⟨T', h', X', e', W', st⟩ := stI X hx hZ eT A (j := j) (x := x) (inb_of S hj) (g := mkF m pc Ls (.int x :: .int j :: .ref a :: rest)) rfl rfl hd
  have V' := Arv.set A q1 S N H G (v := .int x) rfl W' i hi hl
  rw [hi] at X' W'
  exact ⟨T', h', X', e', W', V', st⟩
theorem own_bastore (X : Stand p l e R s m args below meth c T locs cells slots) (hx : p.tables.exec = Jvm.exec) (hZ : Z.Warmed39 s.vm) (eT : T.heap = h) {a : Addr} {k : ClassId} {n : Int32} {vs : List Value} {dv : Value} (V : Arv Z h a k .byte n vs dv) {j x : Int32} (hj : ¬ j < 0 ∧ j < n) (i : Nat) (hi : j.toNatClampNeg = i) (hl : i < vs.length)
    {pc : Nat} {Ls : Array Slot} {rest : List Value} (hd : decode c.code pc = .ok (.bastore, 1)) : ∃ T' h', Stand p l e R s m args below meth c T' (locs ++ [⟨a, i⟩]) cells slots ∧ T'.heap = h' ∧ Wr h h' a i (.int x.toInt8.toInt32) ∧ Arv Z h' a k .byte n (vs.set i (.int x.toInt8.toInt32)) dv ∧ ∀ t, Steps p.tables e below (T'.setTop (mkF m (pc + 1) Ls rest)) t → Steps p.tables e below (T.setTop (mkF m pc Ls (.int x :: .int j :: .ref a :: rest))) t := by
  obtain ⟨cl, A, q1, S, N, H, G⟩ := V
  obtain ⟨T', h', X', e', W', st⟩ := stB X hx hZ eT A (j := j) (x := x) (inb_of S hj) (g := mkF m pc Ls (.int x :: .int j :: .ref a :: rest)) rfl rfl hd
  have V' := Arv.set A q1 S N H G (v := .int x.toInt8.toInt32) (fits_nar_byte x) W' i hi hl
  rw [hi] at X' W'
  exact ⟨T', h', X', e', W', V', st⟩
theorem own_aastore (X : Stand p l e R s m args below meth c T locs cells slots) (hx : p.tables.exec = Jvm.exec) (hZ : Z.Warmed39 s.vm) (eT : T.heap = h) {a : Addr} {k : ClassId} {ty : FieldType} {n : Int32} {vs : List Value} {dv : Value} (V : Arv Z h a k ty n vs dv) (hty : ty.isReference = true) {C : String} (O : Ovr Z k C) {y : Addr} (I : Ins Z h y C true) {j : Int32} (hj : ¬ j < 0 ∧ j < n) (i : Nat) (hi : j.toNatClampNeg = i) (hl : i < vs.length)
    {pc : Nat} {Ls : Array Slot} {rest : List Value} (hd : decode c.code pc = .ok (.aastore, 1)) : ∃ T' h', Stand p l e R s m args below meth c T' (locs ++ [⟨a, i⟩]) cells slots ∧ T'.heap = h' ∧ Wr h h' a i (.ref y) ∧ Arv Z h' a k ty n (vs.set i (.ref y)) dv ∧ ∀ t, Steps p.tables e below (T'.setTop (mkF m (pc + 1) Ls rest)) t → Steps p.tables e below (T.setTop (mkF m pc Ls (.ref y :: .int j :: .ref a :: rest))) t := by
  obtain ⟨cl, A, q1, S, N, H, G⟩ := V
  obtain ⟨T', h', X', e', W', st⟩ := stR X hx hZ eT A (j := j) (v := .ref y) (inb_of S hj) hty (Sto.ofV A q1 O I) (g := mkF m pc Ls (.ref y :: .int j :: .ref a :: rest)) rfl rfl hd
  have V' := Arv.set A q1 S N H G (v := .ref y) (by cases ty <;> first | rfl | (simp [FieldType.isReference] at hty)) W' i hi hl
  rw [hi] at X' W'
  exact ⟨T', h', X', e', W', V', st⟩
theorem own_lt_eq {x y : Int64} (h : x = y) : lcmpW x y = 0 := (lw_eq x y).mpr h
theorem own_rem_ne {x y : Int32} {target : State} {g : JFrame} (X : Stand p l e R s m args below meth c T locs cells slots) (hx : p.tables.exec = Jvm.exec) (hg : g.method = m) {rest : List Value} (hd : decode c.code g.pc = .ok (.irem, 1)) (hs : g.stack = .int y :: .int x :: rest) (hy : y ≠ 0)
    (hr : Steps p.tables e below (T.setTop { g with pc := g.pc + 1, stack := .int (x % y) :: rest }) target) : Steps p.tables e below (T.setTop g) target := iremM X hx hg hd hs hy hr
theorem own_lrem {x y : Int64} {target : State} {g : JFrame} (X : Stand p l e R s m args below meth c T locs cells slots) (hx : p.tables.exec = Jvm.exec) (hg : g.method = m) {rest : List Value} (hd : decode c.code g.pc = .ok (.lrem, 1)) (hs : g.stack = .long y :: .long x :: rest) (hy : y ≠ 0)
    (hr : Steps p.tables e below (T.setTop { g with pc := g.pc + 1, stack := .long (x % y) :: rest }) target) : Steps p.tables e below (T.setTop g) target := by
  refine XS.lrem X.here hx hg hd hs hy ?_
  rw [lrem_mod]
  exact hr
theorem own_fld_int {args : Array Value} {t : Term} {C n d : String} {k : Int32} {a : Addr} (ev : t.eval args Z none [] Z = some (.ref a)) (h : (Cond.eq (Term.field t C n d) (Term.int k)).value args Z none Z [] = some true) : Fld Z Z.heap a C n d (.int k) := by
  obtain ⟨x, y, h1, h2, h3, h4⟩ := cmp_v (Or.inl h)
  have hy : y = .int k := by rw [Term.int_eval] at h2; exact (Option.some.inj h2).symm
  subst hy
  obtain ⟨z, rfl⟩ : ∃ z, x = .int z := h4
  have hz : z = k := by simpa [Cond.value, h1, h2] using h
  subst hz
  rw [fld_at ev] at h1
  exact Fld.start h1
theorem own_sta_keep {C n d : String} {v : Value} {h' : Heap} (F : Sta Z h C n d v) (K : Keep h h' []) : Sta Z h' C n d v := by
  obtain ⟨cf, i, k, f, st, cell, h1, h2, h3, h4, h5, h6⟩ := F
  exact ⟨cf, i, k, f, st, cell, h1, h2, h3, h4, K.2.1 _ _ h5 nin0, h6⟩
/-- the objects of C are no K: C's superclasses are named, K is a class that has objects -/
theorem own_nsroot {O K : String} {n : Nat} (w : (Cond.noSuperclass O).before a0 Z = true) (wk : (Cond.instantiable K n).before a0 Z = true) (hn : O ≠ K) : NS Z O K := by
  obtain ⟨c, k, h1, h2, h3, -, -⟩ := Cond.noSuperclass_spec w
  obtain ⟨t, kt, g1, -⟩ := Cond.instantiable_spec wk
  have ne := ids_ne h1 g1 hn
  refine ⟨c, t, h1, g1, fun fuel => ?_⟩
  cases fuel with
  | zero => rfl
  | succ f => simp [Vm.isSubclassAux, ne, h2, h3]
theorem own_nsno {C S K : String} {n : Nat} (w : (Cond.superclass C S).before a0 Z = true) (wk : (Cond.instantiable K n).before a0 Z = true) (q : NS Z C K) (hn : C ≠ K) : ∃ c t, Z.vm.findClass C = some c ∧ Z.vm.findClass K = some t ∧ Z.vm.assignable c t = false := by
  obtain ⟨c, t, h0, g0, n3⟩ := q
  obtain ⟨p, k, kp, h1, h2, h3, h4, h5, -, h7⟩ := Cond.superclass_spec h0 w
  obtain ⟨t', kt, g1, g2, g3, g4, -⟩ := Cond.instantiable_spec wk
  cases g0.symm.trans g1
  have g5 : kt.isInterface = false := by
    cases hq : kt.isInterface with
    | false => rfl
    | true => rw [hq] at g4; simp at g4
  have ne := ids_ne h0 g0 hn
  refine ⟨c, t, h0, g0, ?_⟩
  show Z.vm.assignableAux (255 + 1) c t = false
  simp [Vm.assignableAux, ne, h2, g2, h5, g3, g5, Vm.isSubclass, n3]
theorem own_s16 (x : Int32) : x.toInt16.toInt32.toInt16.toInt32 = x.toInt16.toInt32 := by simp
theorem own_virtualUp (X : Stand p l e R s m args below meth c T locs cells slots) (hx : p.tables.exec = Jvm.exec) (hZ : Z.Warmed39 s.vm) {own C owner : String} {index : Nat} {x y : MethodName} {bytes : ByteArray} {maxL : Nat} {ret : Option FieldType} {rm : Room} {as' : Array Value} {P : OwnP}
    (hown : s.vm.findClass own = some m.cls) (w1 : (Cond.methodLink own index x).before a0 Z = true) (w2 : (Cond.sameMethod x.cls owner x.name x.desc).before a0 Z = true) (w7 : (Cond.declares ⟨owner, x.name, x.desc⟩).before a0 Z = true) (hy : owner ≠ "java/lang/invoke/MethodHandle" ∧ owner ≠ "java/lang/invoke/VarHandle") (w5 : (Cond.selects C x y).before a0 Z = true) (w6 : (Cond.instanceMethod y).before a0 Z = true) (w3 : (Cond.initialized y.cls).before a0 Z = true) (w4 : (Cond.code y bytes maxL ret).before a0 Z = true)
    (hM : OwnC l Z y bytes maxL ret [] rm as' h P) (eT : T.heap = h) {a : Addr} (E : Exa Z h a C) {pc : Nat} {Ls : Array Slot} {argsL rest : List Value} (W : Nat) {st : List Value} (hsz : Ls.size = c.maxLocals) (hlen : ∀ sig, parseMethodDescriptor x.desc = some sig → argsL.length = sig.parameters.length) (has : (.ref a :: argsL).toArray = as') (hst : st = argsL.reverse ++ .ref a :: rest) (hW : (rest.map fun v => v.category).sum ≤ W)
    (hd : decode c.code pc = .ok (.invokevirtual index, 3)) (hf : rm.frames + 1 ≤ R.frames) (hl : W + (maxL + 11) + rm.locals ≤ R.locals) (hc : cells + rm.cells ≤ R.cells) (hs : slots + rm.slots ≤ R.slots) :
    ∃ v T' L, Stand p l e R s m args below meth c T' (locs ++ L) (cells + rm.cells) (slots + rm.slots) ∧ P v T'.heap L ∧ ∀ t, Steps p.tables e below (T'.setTop (mkF m (pc + 3) Ls (v.toList ++ rest))) t → Steps p.tables e below (T.setTop (mkF m pc Ls st)) t := by
  obtain ⟨cq, kq, qa, qb, qc⟩ := isOf hZ eT E
  obtain ⟨v, vm₁, ⟨T', L', k', n'⟩, -, X', ⟨L, hQ, l1, l2, l3⟩, stp⟩ := X.virtualBackUp hx (x := x) (y := y) hown (mvT hZ w1) (mvT hZ w2) (mvT hZ w7) hy (mvT hZ w5) (mvT hZ w6) (backOf (W := W) hM hZ w4 w3 hf hl) qa qc (g := mkF m pc Ls st) rfl hsz (Steps.refl _) (argsL := argsL) (rest := rest) hlen hst (by show 2 * 0 + _ ≤ _; omega) hd (fun _ _ => ⟨has, eT, hc, hs⟩)
  dsimp only [Pt.U, Pt.locs, Pt.cells, Pt.slots] at X' l1 l2 l3 stp hQ
  subst l1 l2 l3
  exact ⟨v, T', L, X', hQ, fun t k => stp.trans k⟩
theorem own_castore (X : Stand p l e R s m args below meth c T locs cells slots) (hx : p.tables.exec = Jvm.exec) (hZ : Z.Warmed39 s.vm) (eT : T.heap = h) {a : Addr} {k : ClassId} {n : Int32} {vs : List Value} {dv : Value} (V : Arv Z h a k .char n vs dv) {j x : Int32} (hj : ¬ j < 0 ∧ j < n) (i : Nat) (hi : j.toNatClampNeg = i) (hl : i < vs.length)
    {pc : Nat} {Ls : Array Slot} {rest : List Value} (hd : decode c.code pc = .ok (.castore, 1)) : ∃ T' h', Stand p l e R s m args below meth c T' (locs ++ [⟨a, i⟩]) cells slots ∧ T'.heap = h' ∧ Wr h h' a i (.int x.toUInt32.toUInt16.toUInt32.toInt32) ∧ Arv Z h' a k .char n (vs.set i (.int x.toUInt32.toUInt16.toUInt32.toInt32)) dv ∧ ∀ t, Steps p.tables e below (T'.setTop (mkF m (pc + 1) Ls rest)) t → Steps p.tables e below (T.setTop (mkF m pc Ls (.int x :: .int j :: .ref a :: rest))) t := by
  obtain ⟨cl, A, q1, S, N, H, G⟩ := V
  obtain ⟨T', h', X', e', W', st⟩ := stC X hx hZ eT A (j := j) (x := x) (inb_of S hj) (g := mkF m pc Ls (.int x :: .int j :: .ref a :: rest)) rfl rfl hd
  have V' := Arv.set A q1 S N H G (v := .int x.toUInt32.toUInt16.toUInt32.toInt32) (fits_nar_char x) W' i hi hl
  rw [hi] at X' W'
  exact ⟨T', h', X', e', W', V', st⟩
theorem own_sta_keep1 {C n d C' : String} {v : Value} {h' : Heap} {a : Addr} (F : Sta Z h C n d v) (K : Keep h h' [a]) (E : Exa Z h a C') : Sta Z h' C n d v := by
  obtain ⟨cf, i, k, f, st, cell, h1, h2, h3, h4, h5, h6, h7⟩ := F
  obtain ⟨cell', k', e1, -, -, e4, -⟩ := E
  have hne : st ≠ a := fun q => by
    subst q
    cases h5.symm.trans e1
    rw [h6] at e4
    cases e4
  exact ⟨cf, i, k, f, st, cell, h1, h2, h3, h4, K.2.1 _ _ h5 (ninS hne nin0), h6, h7⟩
theorem own_private (X : Stand p l e R s m args below meth c T locs cells slots) (hx : p.tables.exec = Jvm.exec) (hZ : Z.Warmed39 s.vm) {own C : String} {index n : Nat} {y : MethodName} {bytes : ByteArray} {maxL : Nat} {ret : Option FieldType} {rm : Room} {as' : Array Value} {P : OwnP}
    (hown : s.vm.findClass own = some m.cls) (w1 : (Cond.methodLink own index y).before a0 Z = true) (w2 : (Cond.instanceMethod y).before a0 Z = true) (wp : (Cond.privateMethod y).before a0 Z = true) (wi : (Cond.instantiable y.cls n).before a0 Z = true) (w3 : (Cond.initialized y.cls).before a0 Z = true) (w4 : (Cond.code y bytes maxL ret).before a0 Z = true) (hy : y.cls ≠ "java/lang/invoke/MethodHandle" ∧ y.cls ≠ "java/lang/invoke/VarHandle")
    (hM : OwnC l Z y bytes maxL ret [] rm as' h P) (eT : T.heap = h) {a : Addr} (E : Exa Z h a C) {pc : Nat} {Ls : Array Slot} {argsL rest : List Value} (W : Nat) {st : List Value} (hsz : Ls.size = c.maxLocals) (hlen : ∀ sig, parseMethodDescriptor y.desc = some sig → argsL.length = sig.parameters.length) (has : (.ref a :: argsL).toArray = as') (hst : st = argsL.reverse ++ .ref a :: rest) (hW : (rest.map fun v => v.category).sum ≤ W)
    (hd : decode c.code pc = .ok (.invokevirtual index, 3)) (hf : rm.frames + 1 ≤ R.frames) (hl : W + (maxL + 11) + rm.locals ≤ R.locals) (hc : cells + rm.cells ≤ R.cells) (hs : slots + rm.slots ≤ R.slots) :
    ∃ v T' L, Stand p l e R s m args below meth c T' (locs ++ L) (cells + rm.cells) (slots + rm.slots) ∧ P v T'.heap L ∧ ∀ t, Steps p.tables e below (T'.setTop (mkF m (pc + 3) Ls (v.toList ++ rest))) t → Steps p.tables e below (T.setTop (mkF m pc Ls st)) t := by
  obtain ⟨cell, hcell, hobj⟩ := E.cell
  have hpriv := Cond.privateMethod_at (mvP hZ wp (args := args))
  obtain ⟨ci, ki, i1, i2, i3, i4, -⟩ := Cond.instantiable_spec (show (Cond.instantiable y.cls n).before args s = true from mvT hZ wi)
  have hni : ki.isInterface = false := by
    cases hq : ki.isInterface with
    | false => rfl
    | true => rw [hq] at i4; simp at i4
  have hsel := selects_self_of_private (args := args) i1 i2 hni hpriv (mvT hZ w2) hy
  obtain ⟨v, vm₁, ⟨T', L', k', n'⟩, -, X', ⟨L, hQ, l1, l2, l3⟩, stp⟩ := X.privateBack hx (y := y) hown (mvT hZ w1) (mvT hZ w2) hsel hpriv (mvT hZ w4) hy (backOf (W := W) hM hZ w4 w3 hf hl) (g := mkF m pc Ls st) rfl hsz (Steps.refl _) (a := a) (by rw [eT]; exact hcell) hobj (argsL := argsL) (rest := rest) hlen hst (by show 2 * 0 + _ ≤ _; omega) hd (fun _ _ => ⟨has, eT, hc, hs⟩)
  dsimp only [Pt.U, Pt.locs, Pt.cells, Pt.slots] at X' l1 l2 l3 stp hQ
  subst l1 l2 l3
  exact ⟨v, T', L, X', hQ, fun t k => stp.trans k⟩
theorem own_interface (X : Stand p l e R s m args below meth c T locs cells slots) (hx : p.tables.exec = Jvm.exec) (hZ : Z.Warmed39 s.vm) {own C : String} {index count : Nat} {xi y : MethodName} {bytes : ByteArray} {maxL : Nat} {ret : Option FieldType} {rm : Room} {as' : Array Value} {P : OwnP}
    (hown : s.vm.findClass own = some m.cls) (w1 : (Cond.methodLink own index xi).before a0 Z = true) (w2 : (Cond.declares xi).before a0 Z = true) (w7 : (Cond.interfaceMethod xi.cls xi.cls xi.name xi.desc).before args s = true) (w5 : (Cond.selects C xi y).before a0 Z = true) (w6 : (Cond.instanceMethod y).before a0 Z = true) (w8 : (Cond.publicMethod y).before a0 Z = true) (w9 : (Cond.unhidden C xi.name xi.desc).before a0 Z = true) (w10 : (Cond.castable C xi.cls).before a0 Z = true) (w3 : (Cond.initialized y.cls).before a0 Z = true) (w4 : (Cond.code y bytes maxL ret).before a0 Z = true) (hy : xi.cls ≠ "java/lang/invoke/MethodHandle" ∧ xi.cls ≠ "java/lang/invoke/VarHandle")
    (hM : OwnC l Z y bytes maxL ret [] rm as' h P) (eT : T.heap = h) {a : Addr} (E : Exa Z h a C) {pc : Nat} {Ls : Array Slot} {argsL rest : List Value} (W : Nat) {st : List Value} (hsz : Ls.size = c.maxLocals) (hlen : ∀ sig, parseMethodDescriptor xi.desc = some sig → argsL.length = sig.parameters.length) (has : (.ref a :: argsL).toArray = as') (hst : st = argsL.reverse ++ .ref a :: rest) (hW : (rest.map fun v => v.category).sum ≤ W)
    (hd : decode c.code pc = .ok (.invokeinterface index count, 5)) (hf : rm.frames + 1 ≤ R.frames) (hl : W + (maxL + 11) + rm.locals ≤ R.locals) (hc : cells + rm.cells ≤ R.cells) (hs : slots + rm.slots ≤ R.slots) :
    ∃ v T' L, Stand p l e R s m args below meth c T' (locs ++ L) (cells + rm.cells) (slots + rm.slots) ∧ P v T'.heap L ∧ ∀ t, Steps p.tables e below (T'.setTop (mkF m (pc + 5) Ls (v.toList ++ rest))) t → Steps p.tables e below (T.setTop (mkF m pc Ls st)) t := by
  obtain ⟨cq, kq, qa, qb, qc⟩ := isOf hZ eT E
  obtain ⟨v, vm₁, ⟨T', L', k', n'⟩, -, X', ⟨L, hQ, l1, l2, l3⟩, stp⟩ := X.interfaceBack hx (xi := xi) (y := y) hown (mvT hZ w1) (mvT hZ w2) w7 (mvT hZ w5) (mvT hZ w6) (mvT hZ w8) (mvT hZ w9) (mvT hZ w10) hy (backOf (W := W) hM hZ w4 w3 hf hl) qa qb qc (g := mkF m pc Ls st) rfl hsz (Steps.refl _) (argsL := argsL) (rest := rest) hlen hst (by show 2 * 0 + _ ≤ _; omega) hd (fun _ _ => ⟨has, eT, hc, hs⟩)
  dsimp only [Pt.U, Pt.locs, Pt.cells, Pt.slots] at X' l1 l2 l3 stp hQ
  subst l1 l2 l3
  exact ⟨v, T', L, X', hQ, fun t k => stp.trans k⟩
theorem own_staticUp (X : Stand p l e R s m args below meth c T locs cells slots) (hx : p.tables.exec = Jvm.exec) (hZ : Z.Warmed39 s.vm) {own owner : String} {index : Nat} {x : MethodName} {bytes : ByteArray} {maxL : Nat} {ret : Option FieldType} {rm : Room} {as' : Array Value} {P : OwnP}
    (hown : s.vm.findClass own = some m.cls) (w1 : (Cond.methodLink own index x).before a0 Z = true) (w2 : (Cond.sameMethod x.cls owner x.name x.desc).before a0 Z = true) (hy : owner ≠ "java/lang/invoke/MethodHandle" ∧ owner ≠ "java/lang/invoke/VarHandle") (w5 : (Cond.static ⟨owner, x.name, x.desc⟩).before a0 Z = true) (w3 : (Cond.initialized owner).before a0 Z = true) (w4 : (Cond.code ⟨owner, x.name, x.desc⟩ bytes maxL ret).before a0 Z = true)
    (hM : OwnC l Z ⟨owner, x.name, x.desc⟩ bytes maxL ret [] rm as' h P) (eT : T.heap = h) {pc : Nat} {Ls : Array Slot} {argsL rest : List Value} (W : Nat) {st : List Value} (hsz : Ls.size = c.maxLocals) (hlen : ∀ sig, parseMethodDescriptor x.desc = some sig → argsL.length = sig.parameters.length) (has : argsL.toArray = as') (hst : st = argsL.reverse ++ rest) (hW : (rest.map fun v => v.category).sum ≤ W)
    (hd : decode c.code pc = .ok (.invokestatic index, 3)) (hf : rm.frames + 1 ≤ R.frames) (hl : W + (maxL + 11) + rm.locals ≤ R.locals) (hc : cells + rm.cells ≤ R.cells) (hs : slots + rm.slots ≤ R.slots) :
    ∃ v T' L, Stand p l e R s m args below meth c T' (locs ++ L) (cells + rm.cells) (slots + rm.slots) ∧ P v T'.heap L ∧ ∀ t, Steps p.tables e below (T'.setTop (mkF m (pc + 3) Ls (v.toList ++ rest))) t → Steps p.tables e below (T.setTop (mkF m pc Ls st)) t := by
  have c4 : (Cond.code ⟨owner, x.name, x.desc⟩ bytes maxL ret).before args s = true := mvT hZ w4
  obtain ⟨mk, hnamed⟩ := Cond.code_named c4
  obtain ⟨methM, cM, hmethM, -, -, -, -, -, -, hsigM⟩ := Cond.code_spec hnamed c4
  have hstatic : methM.isStatic = true := Cond.static_spec hnamed hmethM (mvT (args := args) hZ w5)
  obtain ⟨kP, hkP, -⟩ := className_of_methodNamed hnamed
  have hinitP : kP.init = .initialized := Cond.initialized_spec (findClass_of_methodNamed hnamed) hkP (mvT (args := args) hZ w3)
  obtain ⟨vm₁, X₁, hstep₁⟩ := X.invokestaticUp hx hown (mvT hZ w1) (mvT hZ w2) hy hnamed hmethM hstatic hkP hinitP (g := mkF m pc Ls st) rfl (argsL := argsL) (rest := rest) (hlen _ hsigM) hst hd
  obtain ⟨v, ⟨T', L', k', n'⟩, X', ⟨L, hQ, l1, l2, l3⟩, hsteps⟩ := (backOf (len := 3) (W := W) hM hZ w4 w3 hf hl) m meth c ⟨T.setVm vm₁, locs, cells, slots⟩ { mkF m pc Ls st with stack := rest } (.invokestatic index) mk argsL.toArray X₁ rfl hsz hd (by show 2 * 0 + (rest.map fun v => v.category).sum ≤ W; rw [Nat.mul_zero, Nat.zero_add]; exact hW) (X₁.named hnamed) ⟨has, eT, hc, hs⟩
  dsimp only [Pt.U, Pt.locs, Pt.cells, Pt.slots] at X' l1 l2 l3 hsteps hQ
  subst l1 l2 l3
  exact ⟨v, T', L, X', hQ, fun t k => ((hstep₁ _ fun acts => by rw [doInvoke_state]; exact Steps.refl _).trans hsteps).trans k⟩
theorem own_getfRef (X : Stand p l e R s m args below meth c T locs cells slots) (hx : p.tables.exec = Jvm.exec) (hZ : Z.Warmed39 s.vm) {own O n d : String} {index : Nat} (hown : s.vm.findClass own = some m.cls) (w : (Cond.fieldRef own index O n d).before a0 Z = true) (eT : T.heap = h) {a : Addr} {v : Value} (F : Fld Z h a O n d v)
    {pc : Nat} {Ls : Array Slot} {rest : List Value} (hd : decode c.code pc = .ok (.getfield index, 3)) : ∀ t, Steps p.tables e below (T.setTop (mkF m (pc + 3) Ls (v :: rest))) t → Steps p.tables e below (T.setTop (mkF m pc Ls (.ref a :: rest))) t := by
  obtain ⟨cell, cf, k, i, f, h1, h2, h3, h4, -, -, h7⟩ := F
  have hW : Z.Warmed39 T.vm := wtrans hZ X.warmed
  have hw := Cond.fieldRef_warmed39 hW w
  have hcur : (Z.setVm T.vm).vm.findClass own = some m.cls := by
    show T.vm.findClass own = _
    rw [X.warmed.alike.findClass]
    exact hown
  obtain ⟨c', k', i', f', q1, q2⟩ := Cond.fieldRef_spec hcur hw
  obtain ⟨k2, hi, -⟩ := State.fieldFound?_setVm (s := Z) hW.alike h2
  rw [hi] at q1
  cases q1
  exact fun t kk => (X.getfieldR hx (g := mkF m pc Ls (.ref a :: rest)) rfl q2 h3 rfl (by rw [eT]; exact h1) h4 h7 hd (Steps.refl _)).trans kk
theorem own_sneE {a b : Addr} {cell : Cell} {C : String} (h1 : h[a]? = some cell) (h2 : cell.vm.isStatics = true) (E : Exa Z h b C) : a ≠ b := fun q => by
  obtain ⟨cell', k', e1, -, -, e4, -⟩ := E
  subst q
  cases h1.symm.trans e1
  rw [h2] at e4
  cases e4
theorem own_sneA {a b : Addr} {cell : Cell} {k : ClassId} {ty : FieldType} {n : Int32} {vs : List Value} {dv : Value} (h1 : h[a]? = some cell) (h2 : cell.vm.isStatics = true) (V : Arv Z h b k ty n vs dv) : a ≠ b := fun q => by
  obtain ⟨cl, A, -⟩ := V
  subst q
  cases h1.symm.trans A.1
  have := A.plain
  rw [h2] at this
  cases this
theorem own_sta_keepL {C n d : String} {v : Value} {h' : Heap} {ws : List Addr} (F : Sta Z h C n d v) (K : Keep h h' ws) (q : ∀ (a : Addr) (cell : Cell), h[a]? = some cell → cell.vm.isStatics = true → a ∉ ws) : Sta Z h' C n d v := by
  obtain ⟨cf, i, k, f, st, cell, h1, h2, h3, h4, h5, h6, h7⟩ := F
  exact ⟨cf, i, k, f, st, cell, h1, h2, h3, h4, K.2.1 _ _ h5 (q _ _ h5 h6), h6, h7⟩
theorem own_nf {args : Array Value} {s : State} {C : String} {x y z : MethodName} (hsel : (Cond.selects C x z).before args s = true) (hc : y.cls = z.cls) : NotFace s y := fun r0 h0 => by
  obtain ⟨c2, r2, m2, q1, q2, q3, q4, kP, hkP, hkPi⟩ := Cond.selects_spec hsel
  have e1 := findClass_of_methodNamed h0
  have e2 := findClass_of_methodNamed q3
  rw [hc] at e1
  have e3 : r0.cls = m2.cls := Option.some.inj (e1.symm.trans e2)
  exact ⟨kP, by rw [e3]; exact hkP, hkPi⟩
end OwnKit
end Jvm.RoadKit
namespace Jvm.Pilot.@@N@@
open Jvm Jvm.ClassFile Sem Op Lib Jvm.Free Jvm.Stand Jvm.LawKit Jvm.RoadKit Bundle Jvm.Pilot.@@N@@.Jvm.D
abbrev OwnK0 : String := "com/example/wirelens/wirelens/wire/GroupEnds"
theorem own_w {Z : State} {a0 : Array Value} (hw : ∀ d ∈ tables_1, d.before a0 Z = true) (i : Nat) {d : Jvm.Cond} (h : tables_1[i]? = some d) : d.before a0 Z = true := hw _ (List.mem_of_getElem? h)
theorem own_i {a : Addr} {L : List Addr} {Q : Prop} (i : Nat) (h : L[i]? = some a) : a ∈ L ∨ Q := Or.inl (List.mem_of_getElem? h)
theorem pd___V : parseMethodDescriptor "()V" = some ⟨[], none⟩ := by decide +kernel
theorem pd__I_V : parseMethodDescriptor "(I)V" = some ⟨[.int], none⟩ := by decide +kernel
theorem pd__I_I : parseMethodDescriptor "(I)I" = some ⟨[.int], some .int⟩ := by decide +kernel
theorem pd__II_I : parseMethodDescriptor "(II)I" = some ⟨[.int, .int], some .int⟩ := by decide +kernel
theorem pd__I_Z : parseMethodDescriptor "(I)Z" = some ⟨[.int], some .boolean⟩ := by decide +kernel
theorem pd___IIII_I : parseMethodDescriptor "([IIII)I" = some ⟨[(.array .int), .int, .int, .int], some .int⟩ := by decide +kernel
theorem pd__III_V : parseMethodDescriptor "(III)V" = some ⟨[.int, .int, .int], none⟩ := by decide +kernel
theorem pf_com_example_wirelens_wirelens_wire_GroupEndsEndReadPinLaw_law__IIIIII_Z : plainFor (⟨"com/example/wirelens/wirelens/wire/GroupEndsEndReadPinLaw", "law", "(IIIIII)Z"⟩ : MethodName) = true := by first | exact plainFor_of_name (by first | (simp [plainName, overriddenIn]; done) | decide +kernel) | exact Jvm.Free.JP.mathPlain rfl (by decide +kernel) | decide +kernel
theorem d1_0 : decode prog_48_method_1_code 0 = .ok (.aload_n 0, 1) := by decide +kernel
theorem d1_1 : decode prog_48_method_1_code 1 = .ok (.invokespecial 1, 3) := by decide +kernel
theorem d1_4 : decode prog_48_method_1_code 4 = .ok (.aload_n 0, 1) := by decide +kernel
theorem d1_5 : decode prog_48_method_1_code 5 = .ok (.bipush 8, 2) := by decide +kernel
theorem d1_7 : decode prog_48_method_1_code 7 = .ok (.newarray .int, 2) := by decide +kernel
theorem d1_9 : decode prog_48_method_1_code 9 = .ok (.putfield 9, 3) := by decide +kernel
theorem d1_12 : decode prog_48_method_1_code 12 = .ok (.aload_n 0, 1) := by decide +kernel
theorem d1_13 : decode prog_48_method_1_code 13 = .ok (.bipush 8, 2) := by decide +kernel
theorem d1_15 : decode prog_48_method_1_code 15 = .ok (.newarray .int, 2) := by decide +kernel
theorem d1_17 : decode prog_48_method_1_code 17 = .ok (.putfield 13, 3) := by decide +kernel
theorem d1_20 : decode prog_48_method_1_code 20 = .ok (.aload_n 0, 1) := by decide +kernel
theorem d1_21 : decode prog_48_method_1_code 21 = .ok (.bipush 8, 2) := by decide +kernel
theorem d1_23 : decode prog_48_method_1_code 23 = .ok (.newarray .int, 2) := by decide +kernel
theorem d1_25 : decode prog_48_method_1_code 25 = .ok (.putfield 16, 3) := by decide +kernel
theorem d1_28 : decode prog_48_method_1_code 28 = .ok (.aload_n 0, 1) := by decide +kernel
theorem d1_29 : decode prog_48_method_1_code 29 = .ok (.bipush 8, 2) := by decide +kernel
theorem d1_31 : decode prog_48_method_1_code 31 = .ok (.newarray .int, 2) := by decide +kernel
theorem d1_33 : decode prog_48_method_1_code 33 = .ok (.putfield 19, 3) := by decide +kernel
theorem d1_36 : decode prog_48_method_1_code 36 = .ok (.aload_n 0, 1) := by decide +kernel
theorem d1_37 : decode prog_48_method_1_code 37 = .ok (.bipush 8, 2) := by decide +kernel
theorem d1_39 : decode prog_48_method_1_code 39 = .ok (.newarray .int, 2) := by decide +kernel
theorem d1_41 : decode prog_48_method_1_code 41 = .ok (.putfield 22, 3) := by decide +kernel
theorem d1_44 : decode prog_48_method_1_code 44 = .ok (.aload_n 0, 1) := by decide +kernel
theorem d1_45 : decode prog_48_method_1_code 45 = .ok (.iconst (-1), 1) := by decide +kernel
theorem d1_46 : decode prog_48_method_1_code 46 = .ok (.putfield 25, 3) := by decide +kernel
theorem d1_49 : decode prog_48_method_1_code 49 = .ok (.return_, 1) := by decide +kernel
theorem pf_com_example_wirelens_wirelens_wire_GroupEnds__init____V : plainFor (⟨OwnK0, "<init>", "()V"⟩ : MethodName) = true := by first | exact plainFor_of_name (by first | (simp [plainName, overriddenIn]; done) | decide +kernel) | exact Jvm.Free.JP.mathPlain rfl (by decide +kernel) | decide +kernel
theorem ef_sp1 (m : MethodId) (q0 : Addr) : entryFrame m #[(.ref q0)] 1 = mkF m 0 #[rv q0] [] := by first | (simp [entryFrame, mkF, argsToLocals, Value.category]; done) | rfl
set_option maxRecDepth 65536 in
set_option maxHeartbeats 40000000 in
theorem sp1 (l : Launch) (Z : State) (a0 : Array Value) (hw : ∀ d ∈ tables_1, d.before a0 Z = true) (ws : List Jvm.Cond) (o0 : Addr) (h0 : Heap) (n0 : Nat) (Z0 : n0 ≤ h0.size) (E_o0 : Exa Z h0 o0 OwnK0) (F_count_o0 : Fld Z h0 o0 OwnK0 "count" "I" (.int 0)) (F_cursor_o0 : Fld Z h0 o0 OwnK0 "cursor" "I" (.int 0)) (F_ends_o0 : Fld Z h0 o0 OwnK0 "ends" "[I" .null) (F_lastOpened_o0 : Fld Z h0 o0 OwnK0 "lastOpened" "I" (.int 0)) (F_segmentEnd_o0 : Fld Z h0 o0 OwnK0 "segmentEnd" "[I" .null) (F_segmentFirst_o0 : Fld Z h0 o0 OwnK0 "segmentFirst" "[I" .null) (F_segmentLimit_o0 : Fld Z h0 o0 OwnK0 "segmentLimit" "[I" .null) (F_segments_o0 : Fld Z h0 o0 OwnK0 "segments" "I" (.int 0)) (F_starts_o0 : Fld Z h0 o0 OwnK0 "starts" "[I" .null) (g_o0 : n0 ≤ o0) :
    OwnC l Z (⟨OwnK0, "<init>", "()V"⟩ : MethodName) prog_48_method_1_code 1 none ws ({ frames := 1, cells := 5, slots := 40, locals := 12 } : Room) #[(.ref o0)] h0 (fun v h L => ∃ (w0 : Addr) (w1 : Addr) (w2 : Addr) (w3 : Addr) (w4 : Addr), ∃ (kw0 : ClassId) (kw1 : ClassId) (kw2 : ClassId) (kw3 : ClassId) (kw4 : ClassId), v = none ∧ Fr n0 L ∧ Keep h0 h [o0] ∧ (h0.size ≤ w0 ∧ n0 ≤ w0) ∧ (h0.size ≤ w1 ∧ n0 ≤ w1) ∧ (h0.size ≤ w2 ∧ n0 ≤ w2) ∧ (h0.size ≤ w3 ∧ n0 ≤ w3) ∧ (h0.size ≤ w4 ∧ n0 ≤ w4) ∧ w0 ≠ w1 ∧ w0 ≠ w2 ∧ w0 ≠ w3 ∧ w0 ≠ w4 ∧ w1 ≠ w2 ∧ w1 ≠ w3 ∧ w1 ≠ w4 ∧ w2 ≠ w3 ∧ w2 ≠ w4 ∧ w3 ≠ w4 ∧ Fld Z h o0 OwnK0 "count" "I" (.int 0) ∧ Fld Z h o0 OwnK0 "lastOpened" "I" (.int 0) ∧ Fld Z h o0 OwnK0 "segments" "I" (.int 0) ∧ Arv Z h w0 kw0 .int (8 : Int32) [(.int 0), (.int 0), (.int 0), (.int 0), (.int 0), (.int 0), (.int 0), (.int 0)] (.int 0) ∧ Fld Z h o0 OwnK0 "starts" "[I" (.ref w0) ∧ Arv Z h w1 kw1 .int (8 : Int32) [(.int 0), (.int 0), (.int 0), (.int 0), (.int 0), (.int 0), (.int 0), (.int 0)] (.int 0) ∧ Fld Z h o0 OwnK0 "ends" "[I" (.ref w1) ∧ Arv Z h w2 kw2 .int (8 : Int32) [(.int 0), (.int 0), (.int 0), (.int 0), (.int 0), (.int 0), (.int 0), (.int 0)] (.int 0) ∧ Fld Z h o0 OwnK0 "segmentFirst" "[I" (.ref w2) ∧ Arv Z h w3 kw3 .int (8 : Int32) [(.int 0), (.int 0), (.int 0), (.int 0), (.int 0), (.int 0), (.int 0), (.int 0)] (.int 0) ∧ Fld Z h o0 OwnK0 "segmentEnd" "[I" (.ref w3) ∧ Arv Z h w4 kw4 .int (8 : Int32) [(.int 0), (.int 0), (.int 0), (.int 0), (.int 0), (.int 0), (.int 0), (.int 0)] (.int 0) ∧ Fld Z h o0 OwnK0 "segmentLimit" "[I" (.ref w4) ∧ Fld Z h o0 OwnK0 "cursor" "I" (.int (-1))) := by
  refine own_entry pf_com_example_wirelens_wirelens_wire_GroupEnds__init____V (fun m => ef_sp1 m o0) ?_
  intro p e s m below meth c T0 X0 hC e0
  obtain ⟨hx, hby, hml, hown, hnm, hret, hlk, hZ⟩ := hC
  have N0 := Fr.nil n0
  have K0 := Keep.refl h0 [o0]
  refine own_go T0 m 1 #[rv o0] [(.ref o0)] (fun t k => XS.aloadN X0.here hx rfl (hb hby d1_0) rfl rfl k) ?_
  obtain ⟨T1, X1, e1, st1⟩ := initO X0 hx hZ hown (own_w hw 6 rfl) (own_w hw 7 rfl) (own_w hw 8 rfl) e0 (g := (mkF m 1 #[rv o0] [(.ref o0)])) rfl (by rw [hml]; rfl) rfl (hb hby d1_1) (by decide) (W := 0) (by show 2 * 0 + _ ≤ _; exact Nat.le_of_eq rfl) (by decide)
  refine own_go T1 m 4 #[rv o0] [] (st1) ?_
  refine own_go T1 m 5 #[rv o0] [(.ref o0)] (fun t k => XS.aloadN X1.here hx rfl (hb hby d1_4) rfl rfl k) ?_
  refine own_go T1 m 7 #[rv o0] [(.int 8), (.ref o0)] (fun t k => XS.bipush X1.here hx rfl (hb hby d1_5) k) ?_
  obtain ⟨T2, h2, k2, X2, e2, E2, A2, st2⟩ := newP X1 hx hZ (own_w hw 9 rfl) e1 (g := (mkF m 7 #[rv o0] [(.int 8), (.ref o0)])) rfl (hb hby d1_7) rfl (by decide) (cap := 8) (by decide) (by decide) (by decide) (by decide)
  obtain ⟨b2, g2⟩ : ∃ z, z = h0.size := ⟨_, rfl⟩
  rw [← g2] at A2 st2
  have ne_o0_b2 : o0 ≠ b2 := Nat.ne_of_lt (Nat.lt_of_lt_of_eq E_o0.lt g2.symm)
  have g_b2 : n0 ≤ b2 := Nat.le_trans Z0 (Nat.le_of_eq g2.symm)
  have sz_b2 : h0.size ≤ b2 := Nat.le_trans K0.1 (Nat.le_of_eq g2.symm)
  have cf3 := E_o0.ext E2
  have cf4 := F_count_o0.ext E2
  have cf5 := F_cursor_o0.ext E2
  have cf6 := F_ends_o0.ext E2
  have cf7 := F_lastOpened_o0.ext E2
  have cf8 := F_segmentEnd_o0.ext E2
  have cf9 := F_segmentFirst_o0.ext E2
  have cf10 := F_segmentLimit_o0.ext E2
  have cf11 := F_segments_o0.ext E2
  have cf12 := F_starts_o0.ext E2
  have Z_2 : n0 ≤ h2.size := Nat.le_trans Z0 E2.1
  have K_2 : Keep h0 h2 [o0] := K0.ext E2
  have V_b2 : Arv Z h2 b2 k2 .int (8 : Int32) [(.int 0), (.int 0), (.int 0), (.int 0), (.int 0), (.int 0), (.int 0), (.int 0)] (.int 0) := (Arv.new A2 (by decide)).pad (pad_rep [] (.int 0) 8)
  refine own_go T2 m 9 #[rv o0] [(.ref b2), (.ref o0)] (st2) ?_
  obtain ⟨T13, h13, X13, e13, W13, st13⟩ := putF X2 hx hZ hown (host := "") (Or.inl (own_w hw 10 rfl)) Via.refl e2 cf12 cf3 (Or.inl (own_w hw 11 rfl)) (own_w hw 1 rfl) (ty := (.array .int)) (by decide) rfl rfl (g := (mkF m 9 #[rv o0] [(.ref b2), (.ref o0)])) rfl rfl (hb hby d1_9)
  have F13 := cf12.same W13
  have cf14 := cf3.wr W13
  have cf15 := cf4.other W13 (Or.inr (slot_ne (Or.inl (own_w hw 30 rfl)) (Or.inl (own_w hw 11 rfl)) (by decide) (t := .int) (t' := (.array .int)) (by decide) (by decide)))
  have cf16 := cf5.other W13 (Or.inr (slot_ne (Or.inl (own_w hw 21 rfl)) (Or.inl (own_w hw 11 rfl)) (by decide) (t := .int) (t' := (.array .int)) (by decide) (by decide)))
  have cf17 := cf6.other W13 (Or.inr (slot_ne (Or.inl (own_w hw 13 rfl)) (Or.inl (own_w hw 11 rfl)) (by decide) (t := (.array .int)) (t' := (.array .int)) (by decide) (by decide)))
  have cf18 := cf7.other W13 (Or.inr (slot_ne (Or.inl (own_w hw 37 rfl)) (Or.inl (own_w hw 11 rfl)) (by decide) (t := .int) (t' := (.array .int)) (by decide) (by decide)))
  have cf19 := cf8.other W13 (Or.inr (slot_ne (Or.inl (own_w hw 17 rfl)) (Or.inl (own_w hw 11 rfl)) (by decide) (t := (.array .int)) (t' := (.array .int)) (by decide) (by decide)))
  have cf20 := cf9.other W13 (Or.inr (slot_ne (Or.inl (own_w hw 15 rfl)) (Or.inl (own_w hw 11 rfl)) (by decide) (t := (.array .int)) (t' := (.array .int)) (by decide) (by decide)))
  have cf21 := cf10.other W13 (Or.inr (slot_ne (Or.inl (own_w hw 19 rfl)) (Or.inl (own_w hw 11 rfl)) (by decide) (t := (.array .int)) (t' := (.array .int)) (by decide) (by decide)))
  have cf22 := cf11.other W13 (Or.inr (slot_ne (Or.inl (own_w hw 28 rfl)) (Or.inl (own_w hw 11 rfl)) (by decide) (t := .int) (t' := (.array .int)) (by decide) (by decide)))
  have cf23 := V_b2.other W13 (Ne.symm ne_o0_b2)
  have Z_13 : n0 ≤ h13.size := Nat.le_trans Z_2 (Keep.of_wr W13).1
  have K_13 : Keep h0 h13 [o0] := K_2.wr W13 (own_i 0 rfl)
  have N13 := Fr.snoc X13 N0 g_o0
  refine own_go T13 m 12 #[rv o0] [] (st13) ?_
  refine own_go T13 m 13 #[rv o0] [(.ref o0)] (fun t k => XS.aloadN X13.here hx rfl (hb hby d1_12) rfl rfl k) ?_
  refine own_go T13 m 15 #[rv o0] [(.int 8), (.ref o0)] (fun t k => XS.bipush X13.here hx rfl (hb hby d1_13) k) ?_
  obtain ⟨T24, h24, k24, X24, e24, E24, A24, st24⟩ := newP X13 hx hZ (own_w hw 9 rfl) e13 (g := (mkF m 15 #[rv o0] [(.int 8), (.ref o0)])) rfl (hb hby d1_15) rfl (by decide) (cap := 8) (by decide) (by decide) (by decide) (by decide)
  obtain ⟨b24, g24⟩ : ∃ z, z = h13.size := ⟨_, rfl⟩
  rw [← g24] at A24 st24
  have ne_o0_b24 : o0 ≠ b24 := Nat.ne_of_lt (Nat.lt_of_lt_of_eq cf14.lt g24.symm)
  have ne_b2_b24 : b2 ≠ b24 := Nat.ne_of_lt (Nat.lt_of_lt_of_eq cf23.lt g24.symm)
  have g_b24 : n0 ≤ b24 := Nat.le_trans Z_13 (Nat.le_of_eq g24.symm)
  have sz_b24 : h0.size ≤ b24 := Nat.le_trans K_13.1 (Nat.le_of_eq g24.symm)
  have cf25 := cf14.ext E24
  have cf26 := cf15.ext E24
  have cf27 := cf16.ext E24
  have cf28 := cf17.ext E24
  have cf29 := cf18.ext E24
  have cf30 := cf19.ext E24
  have cf31 := cf20.ext E24
  have cf32 := cf21.ext E24
  have cf33 := cf22.ext E24
  have cf34 := cf23.ext E24
  have cf35 := F13.ext E24
  have Z_24 : n0 ≤ h24.size := Nat.le_trans Z_13 E24.1
  have K_24 : Keep h0 h24 [o0] := K_13.ext E24
  have V_b24 : Arv Z h24 b24 k24 .int (8 : Int32) [(.int 0), (.int 0), (.int 0), (.int 0), (.int 0), (.int 0), (.int 0), (.int 0)] (.int 0) := (Arv.new A24 (by decide)).pad (pad_rep [] (.int 0) 8)
  refine own_go T24 m 17 #[rv o0] [(.ref b24), (.ref o0)] (st24) ?_
  obtain ⟨T36, h36, X36, e36, W36, st36⟩ := putF X24 hx hZ hown (host := "") (Or.inl (own_w hw 12 rfl)) Via.refl e24 cf28 cf25 (Or.inl (own_w hw 13 rfl)) (own_w hw 1 rfl) (ty := (.array .int)) (by decide) rfl rfl (g := (mkF m 17 #[rv o0] [(.ref b24), (.ref o0)])) rfl rfl (hb hby d1_17)
  have F36 := cf28.same W36
  have cf37 := cf25.wr W36
  have cf38 := cf26.other W36 (Or.inr (slot_ne (Or.inl (own_w hw 30 rfl)) (Or.inl (own_w hw 13 rfl)) (by decide) (t := .int) (t' := (.array .int)) (by decide) (by decide)))
  have cf39 := cf27.other W36 (Or.inr (slot_ne (Or.inl (own_w hw 21 rfl)) (Or.inl (own_w hw 13 rfl)) (by decide) (t := .int) (t' := (.array .int)) (by decide) (by decide)))
  have cf40 := cf29.other W36 (Or.inr (slot_ne (Or.inl (own_w hw 37 rfl)) (Or.inl (own_w hw 13 rfl)) (by decide) (t := .int) (t' := (.array .int)) (by decide) (by decide)))
  have cf41 := cf30.other W36 (Or.inr (slot_ne (Or.inl (own_w hw 17 rfl)) (Or.inl (own_w hw 13 rfl)) (by decide) (t := (.array .int)) (t' := (.array .int)) (by decide) (by decide)))
  have cf42 := cf31.other W36 (Or.inr (slot_ne (Or.inl (own_w hw 15 rfl)) (Or.inl (own_w hw 13 rfl)) (by decide) (t := (.array .int)) (t' := (.array .int)) (by decide) (by decide)))
  have cf43 := cf32.other W36 (Or.inr (slot_ne (Or.inl (own_w hw 19 rfl)) (Or.inl (own_w hw 13 rfl)) (by decide) (t := (.array .int)) (t' := (.array .int)) (by decide) (by decide)))
  have cf44 := cf33.other W36 (Or.inr (slot_ne (Or.inl (own_w hw 28 rfl)) (Or.inl (own_w hw 13 rfl)) (by decide) (t := .int) (t' := (.array .int)) (by decide) (by decide)))
  have cf45 := cf34.other W36 (Ne.symm ne_o0_b2)
  have cf46 := cf35.other W36 (Or.inr (slot_ne (Or.inl (own_w hw 11 rfl)) (Or.inl (own_w hw 13 rfl)) (by decide) (t := (.array .int)) (t' := (.array .int)) (by decide) (by decide)))
  have cf47 := V_b24.other W36 (Ne.symm ne_o0_b24)
  have Z_36 : n0 ≤ h36.size := Nat.le_trans Z_24 (Keep.of_wr W36).1
  have K_36 : Keep h0 h36 [o0] := K_24.wr W36 (own_i 0 rfl)
  have N36 := Fr.snoc X36 N13 g_o0
  refine own_go T36 m 20 #[rv o0] [] (st36) ?_
  refine own_go T36 m 21 #[rv o0] [(.ref o0)] (fun t k => XS.aloadN X36.here hx rfl (hb hby d1_20) rfl rfl k) ?_
  refine own_go T36 m 23 #[rv o0] [(.int 8), (.ref o0)] (fun t k => XS.bipush X36.here hx rfl (hb hby d1_21) k) ?_
  obtain ⟨T48, h48, k48, X48, e48, E48, A48, st48⟩ := newP X36 hx hZ (own_w hw 9 rfl) e36 (g := (mkF m 23 #[rv o0] [(.int 8), (.ref o0)])) rfl (hb hby d1_23) rfl (by decide) (cap := 8) (by decide) (by decide) (by decide) (by decide)
  obtain ⟨b48, g48⟩ : ∃ z, z = h36.size := ⟨_, rfl⟩
  rw [← g48] at A48 st48
  have ne_o0_b48 : o0 ≠ b48 := Nat.ne_of_lt (Nat.lt_of_lt_of_eq cf37.lt g48.symm)
  have ne_b2_b48 : b2 ≠ b48 := Nat.ne_of_lt (Nat.lt_of_lt_of_eq cf45.lt g48.symm)
  have ne_b24_b48 : b24 ≠ b48 := Nat.ne_of_lt (Nat.lt_of_lt_of_eq cf47.lt g48.symm)
  have g_b48 : n0 ≤ b48 := Nat.le_trans Z_36 (Nat.le_of_eq g48.symm)
  have sz_b48 : h0.size ≤ b48 := Nat.le_trans K_36.1 (Nat.le_of_eq g48.symm)
  have cf49 := cf37.ext E48
  have cf50 := cf38.ext E48
  have cf51 := cf39.ext E48
  have cf52 := cf40.ext E48
  have cf53 := cf41.ext E48
  have cf54 := cf42.ext E48
  have cf55 := cf43.ext E48
  have cf56 := cf44.ext E48
  have cf57 := cf45.ext E48
  have cf58 := cf46.ext E48
  have cf59 := cf47.ext E48
  have cf60 := F36.ext E48
  have Z_48 : n0 ≤ h48.size := Nat.le_trans Z_36 E48.1
  have K_48 : Keep h0 h48 [o0] := K_36.ext E48
  have V_b48 : Arv Z h48 b48 k48 .int (8 : Int32) [(.int 0), (.int 0), (.int 0), (.int 0), (.int 0), (.int 0), (.int 0), (.int 0)] (.int 0) := (Arv.new A48 (by decide)).pad (pad_rep [] (.int 0) 8)
  refine own_go T48 m 25 #[rv o0] [(.ref b48), (.ref o0)] (st48) ?_
  obtain ⟨T61, h61, X61, e61, W61, st61⟩ := putF X48 hx hZ hown (host := "") (Or.inl (own_w hw 14 rfl)) Via.refl e48 cf54 cf49 (Or.inl (own_w hw 15 rfl)) (own_w hw 1 rfl) (ty := (.array .int)) (by decide) rfl rfl (g := (mkF m 25 #[rv o0] [(.ref b48), (.ref o0)])) rfl rfl (hb hby d1_25)
  have F61 := cf54.same W61
  have cf62 := cf49.wr W61
  have cf63 := cf50.other W61 (Or.inr (slot_ne (Or.inl (own_w hw 30 rfl)) (Or.inl (own_w hw 15 rfl)) (by decide) (t := .int) (t' := (.array .int)) (by decide) (by decide)))
  have cf64 := cf51.other W61 (Or.inr (slot_ne (Or.inl (own_w hw 21 rfl)) (Or.inl (own_w hw 15 rfl)) (by decide) (t := .int) (t' := (.array .int)) (by decide) (by decide)))
  have cf65 := cf52.other W61 (Or.inr (slot_ne (Or.inl (own_w hw 37 rfl)) (Or.inl (own_w hw 15 rfl)) (by decide) (t := .int) (t' := (.array .int)) (by decide) (by decide)))
  have cf66 := cf53.other W61 (Or.inr (slot_ne (Or.inl (own_w hw 17 rfl)) (Or.inl (own_w hw 15 rfl)) (by decide) (t := (.array .int)) (t' := (.array .int)) (by decide) (by decide)))
  have cf67 := cf55.other W61 (Or.inr (slot_ne (Or.inl (own_w hw 19 rfl)) (Or.inl (own_w hw 15 rfl)) (by decide) (t := (.array .int)) (t' := (.array .int)) (by decide) (by decide)))
  have cf68 := cf56.other W61 (Or.inr (slot_ne (Or.inl (own_w hw 28 rfl)) (Or.inl (own_w hw 15 rfl)) (by decide) (t := .int) (t' := (.array .int)) (by decide) (by decide)))
  have cf69 := cf57.other W61 (Ne.symm ne_o0_b2)
  have cf70 := cf58.other W61 (Or.inr (slot_ne (Or.inl (own_w hw 11 rfl)) (Or.inl (own_w hw 15 rfl)) (by decide) (t := (.array .int)) (t' := (.array .int)) (by decide) (by decide)))
  have cf71 := cf59.other W61 (Ne.symm ne_o0_b24)
  have cf72 := cf60.other W61 (Or.inr (slot_ne (Or.inl (own_w hw 13 rfl)) (Or.inl (own_w hw 15 rfl)) (by decide) (t := (.array .int)) (t' := (.array .int)) (by decide) (by decide)))
  have cf73 := V_b48.other W61 (Ne.symm ne_o0_b48)
  have Z_61 : n0 ≤ h61.size := Nat.le_trans Z_48 (Keep.of_wr W61).1
  have K_61 : Keep h0 h61 [o0] := K_48.wr W61 (own_i 0 rfl)
  have N61 := Fr.snoc X61 N36 g_o0
  refine own_go T61 m 28 #[rv o0] [] (st61) ?_
  refine own_go T61 m 29 #[rv o0] [(.ref o0)] (fun t k => XS.aloadN X61.here hx rfl (hb hby d1_28) rfl rfl k) ?_
  refine own_go T61 m 31 #[rv o0] [(.int 8), (.ref o0)] (fun t k => XS.bipush X61.here hx rfl (hb hby d1_29) k) ?_
  obtain ⟨T74, h74, k74, X74, e74, E74, A74, st74⟩ := newP X61 hx hZ (own_w hw 9 rfl) e61 (g := (mkF m 31 #[rv o0] [(.int 8), (.ref o0)])) rfl (hb hby d1_31) rfl (by decide) (cap := 8) (by decide) (by decide) (by decide) (by decide)
  obtain ⟨b74, g74⟩ : ∃ z, z = h61.size := ⟨_, rfl⟩
  rw [← g74] at A74 st74
  have ne_o0_b74 : o0 ≠ b74 := Nat.ne_of_lt (Nat.lt_of_lt_of_eq cf62.lt g74.symm)
  have ne_b2_b74 : b2 ≠ b74 := Nat.ne_of_lt (Nat.lt_of_lt_of_eq cf69.lt g74.symm)
  have ne_b24_b74 : b24 ≠ b74 := Nat.ne_of_lt (Nat.lt_of_lt_of_eq cf71.lt g74.symm)
  have ne_b48_b74 : b48 ≠ b74 := Nat.ne_of_lt (Nat.lt_of_lt_of_eq cf73.lt g74.symm)
  have g_b74 : n0 ≤ b74 := Nat.le_trans Z_61 (Nat.le_of_eq g74.symm)
  have sz_b74 : h0.size ≤ b74 := Nat.le_trans K_61.1 (Nat.le_of_eq g74.symm)
  have cf75 := cf62.ext E74
  have cf76 := cf63.ext E74
  have cf77 := cf64.ext E74
  have cf78 := cf65.ext E74
  have cf79 := cf66.ext E74
  have cf80 := cf67.ext E74
  have cf81 := cf68.ext E74
  have cf82 := cf69.ext E74
  have cf83 := cf70.ext E74
  have cf84 := cf71.ext E74
  have cf85 := cf72.ext E74
  have cf86 := cf73.ext E74
  have cf87 := F61.ext E74
  have Z_74 : n0 ≤ h74.size := Nat.le_trans Z_61 E74.1
  have K_74 : Keep h0 h74 [o0] := K_61.ext E74
  have V_b74 : Arv Z h74 b74 k74 .int (8 : Int32) [(.int 0), (.int 0), (.int 0), (.int 0), (.int 0), (.int 0), (.int 0), (.int 0)] (.int 0) := (Arv.new A74 (by decide)).pad (pad_rep [] (.int 0) 8)
  refine own_go T74 m 33 #[rv o0] [(.ref b74), (.ref o0)] (st74) ?_
  obtain ⟨T88, h88, X88, e88, W88, st88⟩ := putF X74 hx hZ hown (host := "") (Or.inl (own_w hw 16 rfl)) Via.refl e74 cf79 cf75 (Or.inl (own_w hw 17 rfl)) (own_w hw 1 rfl) (ty := (.array .int)) (by decide) rfl rfl (g := (mkF m 33 #[rv o0] [(.ref b74), (.ref o0)])) rfl rfl (hb hby d1_33)
  have F88 := cf79.same W88
  have cf89 := cf75.wr W88
  have cf90 := cf76.other W88 (Or.inr (slot_ne (Or.inl (own_w hw 30 rfl)) (Or.inl (own_w hw 17 rfl)) (by decide) (t := .int) (t' := (.array .int)) (by decide) (by decide)))
  have cf91 := cf77.other W88 (Or.inr (slot_ne (Or.inl (own_w hw 21 rfl)) (Or.inl (own_w hw 17 rfl)) (by decide) (t := .int) (t' := (.array .int)) (by decide) (by decide)))
  have cf92 := cf78.other W88 (Or.inr (slot_ne (Or.inl (own_w hw 37 rfl)) (Or.inl (own_w hw 17 rfl)) (by decide) (t := .int) (t' := (.array .int)) (by decide) (by decide)))
  have cf93 := cf80.other W88 (Or.inr (slot_ne (Or.inl (own_w hw 19 rfl)) (Or.inl (own_w hw 17 rfl)) (by decide) (t := (.array .int)) (t' := (.array .int)) (by decide) (by decide)))
  have cf94 := cf81.other W88 (Or.inr (slot_ne (Or.inl (own_w hw 28 rfl)) (Or.inl (own_w hw 17 rfl)) (by decide) (t := .int) (t' := (.array .int)) (by decide) (by decide)))
  have cf95 := cf82.other W88 (Ne.symm ne_o0_b2)
  have cf96 := cf83.other W88 (Or.inr (slot_ne (Or.inl (own_w hw 11 rfl)) (Or.inl (own_w hw 17 rfl)) (by decide) (t := (.array .int)) (t' := (.array .int)) (by decide) (by decide)))
  have cf97 := cf84.other W88 (Ne.symm ne_o0_b24)
  have cf98 := cf85.other W88 (Or.inr (slot_ne (Or.inl (own_w hw 13 rfl)) (Or.inl (own_w hw 17 rfl)) (by decide) (t := (.array .int)) (t' := (.array .int)) (by decide) (by decide)))
  have cf99 := cf86.other W88 (Ne.symm ne_o0_b48)
  have cf100 := cf87.other W88 (Or.inr (slot_ne (Or.inl (own_w hw 15 rfl)) (Or.inl (own_w hw 17 rfl)) (by decide) (t := (.array .int)) (t' := (.array .int)) (by decide) (by decide)))
  have cf101 := V_b74.other W88 (Ne.symm ne_o0_b74)
  have Z_88 : n0 ≤ h88.size := Nat.le_trans Z_74 (Keep.of_wr W88).1
  have K_88 : Keep h0 h88 [o0] := K_74.wr W88 (own_i 0 rfl)
  have N88 := Fr.snoc X88 N61 g_o0
  refine own_go T88 m 36 #[rv o0] [] (st88) ?_
  refine own_go T88 m 37 #[rv o0] [(.ref o0)] (fun t k => XS.aloadN X88.here hx rfl (hb hby d1_36) rfl rfl k) ?_
  refine own_go T88 m 39 #[rv o0] [(.int 8), (.ref o0)] (fun t k => XS.bipush X88.here hx rfl (hb hby d1_37) k) ?_
  obtain ⟨T102, h102, k102, X102, e102, E102, A102, st102⟩ := newP X88 hx hZ (own_w hw 9 rfl) e88 (g := (mkF m 39 #[rv o0] [(.int 8), (.ref o0)])) rfl (hb hby d1_39) rfl (by decide) (cap := 8) (by decide) (by decide) (by decide) (by decide)
  obtain ⟨b102, g102⟩ : ∃ z, z = h88.size := ⟨_, rfl⟩
  rw [← g102] at A102 st102
  have ne_o0_b102 : o0 ≠ b102 := Nat.ne_of_lt (Nat.lt_of_lt_of_eq cf89.lt g102.symm)
  have ne_b2_b102 : b2 ≠ b102 := Nat.ne_of_lt (Nat.lt_of_lt_of_eq cf95.lt g102.symm)
  have ne_b24_b102 : b24 ≠ b102 := Nat.ne_of_lt (Nat.lt_of_lt_of_eq cf97.lt g102.symm)
  have ne_b48_b102 : b48 ≠ b102 := Nat.ne_of_lt (Nat.lt_of_lt_of_eq cf99.lt g102.symm)
  have ne_b74_b102 : b74 ≠ b102 := Nat.ne_of_lt (Nat.lt_of_lt_of_eq cf101.lt g102.symm)
  have g_b102 : n0 ≤ b102 := Nat.le_trans Z_88 (Nat.le_of_eq g102.symm)
  have sz_b102 : h0.size ≤ b102 := Nat.le_trans K_88.1 (Nat.le_of_eq g102.symm)
  have cf103 := cf89.ext E102
  have cf104 := cf90.ext E102
  have cf105 := cf91.ext E102
  have cf106 := cf92.ext E102
  have cf107 := cf93.ext E102
  have cf108 := cf94.ext E102
  have cf109 := cf95.ext E102
  have cf110 := cf96.ext E102
  have cf111 := cf97.ext E102
  have cf112 := cf98.ext E102
  have cf113 := cf99.ext E102
  have cf114 := cf100.ext E102
  have cf115 := cf101.ext E102
  have cf116 := F88.ext E102
  have Z_102 : n0 ≤ h102.size := Nat.le_trans Z_88 E102.1
  have K_102 : Keep h0 h102 [o0] := K_88.ext E102
  have V_b102 : Arv Z h102 b102 k102 .int (8 : Int32) [(.int 0), (.int 0), (.int 0), (.int 0), (.int 0), (.int 0), (.int 0), (.int 0)] (.int 0) := (Arv.new A102 (by decide)).pad (pad_rep [] (.int 0) 8)
  refine own_go T102 m 41 #[rv o0] [(.ref b102), (.ref o0)] (st102) ?_
  obtain ⟨T117, h117, X117, e117, W117, st117⟩ := putF X102 hx hZ hown (host := "") (Or.inl (own_w hw 18 rfl)) Via.refl e102 cf107 cf103 (Or.inl (own_w hw 19 rfl)) (own_w hw 1 rfl) (ty := (.array .int)) (by decide) rfl rfl (g := (mkF m 41 #[rv o0] [(.ref b102), (.ref o0)])) rfl rfl (hb hby d1_41)
  have F117 := cf107.same W117
  have cf118 := cf103.wr W117
  have cf119 := cf104.other W117 (Or.inr (slot_ne (Or.inl (own_w hw 30 rfl)) (Or.inl (own_w hw 19 rfl)) (by decide) (t := .int) (t' := (.array .int)) (by decide) (by decide)))
  have cf120 := cf105.other W117 (Or.inr (slot_ne (Or.inl (own_w hw 21 rfl)) (Or.inl (own_w hw 19 rfl)) (by decide) (t := .int) (t' := (.array .int)) (by decide) (by decide)))
  have cf121 := cf106.other W117 (Or.inr (slot_ne (Or.inl (own_w hw 37 rfl)) (Or.inl (own_w hw 19 rfl)) (by decide) (t := .int) (t' := (.array .int)) (by decide) (by decide)))
  have cf122 := cf108.other W117 (Or.inr (slot_ne (Or.inl (own_w hw 28 rfl)) (Or.inl (own_w hw 19 rfl)) (by decide) (t := .int) (t' := (.array .int)) (by decide) (by decide)))
  have cf123 := cf109.other W117 (Ne.symm ne_o0_b2)
  have cf124 := cf110.other W117 (Or.inr (slot_ne (Or.inl (own_w hw 11 rfl)) (Or.inl (own_w hw 19 rfl)) (by decide) (t := (.array .int)) (t' := (.array .int)) (by decide) (by decide)))
  have cf125 := cf111.other W117 (Ne.symm ne_o0_b24)
  have cf126 := cf112.other W117 (Or.inr (slot_ne (Or.inl (own_w hw 13 rfl)) (Or.inl (own_w hw 19 rfl)) (by decide) (t := (.array .int)) (t' := (.array .int)) (by decide) (by decide)))
  have cf127 := cf113.other W117 (Ne.symm ne_o0_b48)
  have cf128 := cf114.other W117 (Or.inr (slot_ne (Or.inl (own_w hw 15 rfl)) (Or.inl (own_w hw 19 rfl)) (by decide) (t := (.array .int)) (t' := (.array .int)) (by decide) (by decide)))
  have cf129 := cf115.other W117 (Ne.symm ne_o0_b74)
  have cf130 := cf116.other W117 (Or.inr (slot_ne (Or.inl (own_w hw 17 rfl)) (Or.inl (own_w hw 19 rfl)) (by decide) (t := (.array .int)) (t' := (.array .int)) (by decide) (by decide)))
  have cf131 := V_b102.other W117 (Ne.symm ne_o0_b102)
  have Z_117 : n0 ≤ h117.size := Nat.le_trans Z_102 (Keep.of_wr W117).1
  have K_117 : Keep h0 h117 [o0] := K_102.wr W117 (own_i 0 rfl)
  have N117 := Fr.snoc X117 N88 g_o0
  refine own_go T117 m 44 #[rv o0] [] (st117) ?_
  refine own_go T117 m 45 #[rv o0] [(.ref o0)] (fun t k => XS.aloadN X117.here hx rfl (hb hby d1_44) rfl rfl k) ?_
  refine own_go T117 m 46 #[rv o0] [(.int (-1)), (.ref o0)] (fun t k => XS.iconst X117.here hx rfl (hb hby d1_45) k) ?_
  obtain ⟨T132, h132, X132, e132, W132, st132⟩ := putF X117 hx hZ hown (host := "") (Or.inl (own_w hw 20 rfl)) Via.refl e117 cf120 cf118 (Or.inl (own_w hw 21 rfl)) (own_w hw 1 rfl) (ty := .int) (by decide) rfl rfl (g := (mkF m 46 #[rv o0] [(.int (-1)), (.ref o0)])) rfl rfl (hb hby d1_46)
  have F132 := cf120.same W132
  have cf133 := cf118.wr W132
  have cf134 := cf119.other W132 (Or.inr (slot_ne (Or.inl (own_w hw 30 rfl)) (Or.inl (own_w hw 21 rfl)) (by decide) (t := .int) (t' := .int) (by decide) (by decide)))
  have cf135 := cf121.other W132 (Or.inr (slot_ne (Or.inl (own_w hw 37 rfl)) (Or.inl (own_w hw 21 rfl)) (by decide) (t := .int) (t' := .int) (by decide) (by decide)))
  have cf136 := cf122.other W132 (Or.inr (slot_ne (Or.inl (own_w hw 28 rfl)) (Or.inl (own_w hw 21 rfl)) (by decide) (t := .int) (t' := .int) (by decide) (by decide)))
  have cf137 := cf123.other W132 (Ne.symm ne_o0_b2)
  have cf138 := cf124.other W132 (Or.inr (slot_ne (Or.inl (own_w hw 11 rfl)) (Or.inl (own_w hw 21 rfl)) (by decide) (t := (.array .int)) (t' := .int) (by decide) (by decide)))
  have cf139 := cf125.other W132 (Ne.symm ne_o0_b24)
  have cf140 := cf126.other W132 (Or.inr (slot_ne (Or.inl (own_w hw 13 rfl)) (Or.inl (own_w hw 21 rfl)) (by decide) (t := (.array .int)) (t' := .int) (by decide) (by decide)))
  have cf141 := cf127.other W132 (Ne.symm ne_o0_b48)
  have cf142 := cf128.other W132 (Or.inr (slot_ne (Or.inl (own_w hw 15 rfl)) (Or.inl (own_w hw 21 rfl)) (by decide) (t := (.array .int)) (t' := .int) (by decide) (by decide)))
  have cf143 := cf129.other W132 (Ne.symm ne_o0_b74)
  have cf144 := cf130.other W132 (Or.inr (slot_ne (Or.inl (own_w hw 17 rfl)) (Or.inl (own_w hw 21 rfl)) (by decide) (t := (.array .int)) (t' := .int) (by decide) (by decide)))
  have cf145 := cf131.other W132 (Ne.symm ne_o0_b102)
  have cf146 := F117.other W132 (Or.inr (slot_ne (Or.inl (own_w hw 19 rfl)) (Or.inl (own_w hw 21 rfl)) (by decide) (t := (.array .int)) (t' := .int) (by decide) (by decide)))
  have Z_132 : n0 ≤ h132.size := Nat.le_trans Z_117 (Keep.of_wr W132).1
  have K_132 : Keep h0 h132 [o0] := K_117.wr W132 (own_i 0 rfl)
  have N132 := Fr.snoc X132 N117 g_o0
  refine own_go T132 m 49 #[rv o0] [] (st132) ?_
  refine own_retV X132 hx hlk hret (hb hby d1_49) (by decide) (by decide) ?_
  rw [e132]
  exact ⟨b2, b24, b48, b74, b102, k2, k24, k48, k74, k102, rfl, N132, K_132, ⟨sz_b2, g_b2⟩, ⟨sz_b24, g_b24⟩, ⟨sz_b48, g_b48⟩, ⟨sz_b74, g_b74⟩, ⟨sz_b102, g_b102⟩, ne_b2_b24, ne_b2_b48, ne_b2_b74, ne_b2_b102, ne_b24_b48, ne_b24_b74, ne_b24_b102, ne_b48_b74, ne_b48_b102, ne_b74_b102, cf134, cf135, cf136, cf137, cf138, cf139, cf140, cf141, cf142, cf143, cf144, cf145, cf146, F132⟩
theorem d3_0 : decode prog_48_method_5_code 0 = .ok (.aload_n 0, 1) := by decide +kernel
theorem d3_1 : decode prog_48_method_5_code 1 = .ok (.getfield 29, 3) := by decide +kernel
theorem d3_4 : decode prog_48_method_5_code 4 = .ok (.aload_n 0, 1) := by decide +kernel
theorem d3_5 : decode prog_48_method_5_code 5 = .ok (.getfield 16, 3) := by decide +kernel
theorem d3_8 : decode prog_48_method_5_code 8 = .ok (.arraylength, 1) := by decide +kernel
theorem d3_9 : decode prog_48_method_5_code 9 = .ok (.if_icmp .ne 54, 3) := by decide +kernel
theorem d3_12 : decode prog_48_method_5_code 12 = .ok (.aload_n 0, 1) := by decide +kernel
theorem d3_13 : decode prog_48_method_5_code 13 = .ok (.aload_n 0, 1) := by decide +kernel
theorem d3_14 : decode prog_48_method_5_code 14 = .ok (.getfield 16, 3) := by decide +kernel
theorem d3_17 : decode prog_48_method_5_code 17 = .ok (.iconst 2, 1) := by decide +kernel
theorem d3_18 : decode prog_48_method_5_code 18 = .ok (.aload_n 0, 1) := by decide +kernel
theorem d3_19 : decode prog_48_method_5_code 19 = .ok (.getfield 29, 3) := by decide +kernel
theorem d3_22 : decode prog_48_method_5_code 22 = .ok (.imul, 1) := by decide +kernel
theorem d3_23 : decode prog_48_method_5_code 23 = .ok (.invokestatic 49, 3) := by decide +kernel
theorem d3_26 : decode prog_48_method_5_code 26 = .ok (.putfield 16, 3) := by decide +kernel
theorem d3_29 : decode prog_48_method_5_code 29 = .ok (.aload_n 0, 1) := by decide +kernel
theorem d3_30 : decode prog_48_method_5_code 30 = .ok (.aload_n 0, 1) := by decide +kernel
theorem d3_31 : decode prog_48_method_5_code 31 = .ok (.getfield 19, 3) := by decide +kernel
theorem d3_34 : decode prog_48_method_5_code 34 = .ok (.iconst 2, 1) := by decide +kernel
theorem d3_35 : decode prog_48_method_5_code 35 = .ok (.aload_n 0, 1) := by decide +kernel
theorem d3_36 : decode prog_48_method_5_code 36 = .ok (.getfield 29, 3) := by decide +kernel
theorem d3_39 : decode prog_48_method_5_code 39 = .ok (.imul, 1) := by decide +kernel
theorem d3_40 : decode prog_48_method_5_code 40 = .ok (.invokestatic 49, 3) := by decide +kernel
theorem d3_43 : decode prog_48_method_5_code 43 = .ok (.putfield 19, 3) := by decide +kernel
theorem d3_46 : decode prog_48_method_5_code 46 = .ok (.aload_n 0, 1) := by decide +kernel
theorem d3_47 : decode prog_48_method_5_code 47 = .ok (.aload_n 0, 1) := by decide +kernel
theorem d3_48 : decode prog_48_method_5_code 48 = .ok (.getfield 22, 3) := by decide +kernel
theorem d3_51 : decode prog_48_method_5_code 51 = .ok (.iconst 2, 1) := by decide +kernel
theorem d3_52 : decode prog_48_method_5_code 52 = .ok (.aload_n 0, 1) := by decide +kernel
theorem d3_53 : decode prog_48_method_5_code 53 = .ok (.getfield 29, 3) := by decide +kernel
theorem d3_56 : decode prog_48_method_5_code 56 = .ok (.imul, 1) := by decide +kernel
theorem d3_57 : decode prog_48_method_5_code 57 = .ok (.invokestatic 49, 3) := by decide +kernel
theorem d3_60 : decode prog_48_method_5_code 60 = .ok (.putfield 22, 3) := by decide +kernel
theorem d3_63 : decode prog_48_method_5_code 63 = .ok (.aload_n 0, 1) := by decide +kernel
theorem d3_64 : decode prog_48_method_5_code 64 = .ok (.getfield 16, 3) := by decide +kernel
theorem d3_67 : decode prog_48_method_5_code 67 = .ok (.aload_n 0, 1) := by decide +kernel
theorem d3_68 : decode prog_48_method_5_code 68 = .ok (.getfield 29, 3) := by decide +kernel
theorem d3_71 : decode prog_48_method_5_code 71 = .ok (.aload_n 0, 1) := by decide +kernel
theorem d3_72 : decode prog_48_method_5_code 72 = .ok (.getfield 36, 3) := by decide +kernel
theorem d3_75 : decode prog_48_method_5_code 75 = .ok (.iastore, 1) := by decide +kernel
theorem d3_76 : decode prog_48_method_5_code 76 = .ok (.aload_n 0, 1) := by decide +kernel
theorem d3_77 : decode prog_48_method_5_code 77 = .ok (.getfield 22, 3) := by decide +kernel
theorem d3_80 : decode prog_48_method_5_code 80 = .ok (.aload_n 0, 1) := by decide +kernel
theorem d3_81 : decode prog_48_method_5_code 81 = .ok (.getfield 29, 3) := by decide +kernel
theorem d3_84 : decode prog_48_method_5_code 84 = .ok (.iload_n 1, 1) := by decide +kernel
theorem d3_85 : decode prog_48_method_5_code 85 = .ok (.iastore, 1) := by decide +kernel
theorem d3_86 : decode prog_48_method_5_code 86 = .ok (.aload_n 0, 1) := by decide +kernel
theorem d3_87 : decode prog_48_method_5_code 87 = .ok (.dup, 1) := by decide +kernel
theorem d3_88 : decode prog_48_method_5_code 88 = .ok (.getfield 29, 3) := by decide +kernel
theorem d3_91 : decode prog_48_method_5_code 91 = .ok (.iconst 1, 1) := by decide +kernel
theorem d3_92 : decode prog_48_method_5_code 92 = .ok (.iadd, 1) := by decide +kernel
theorem d3_93 : decode prog_48_method_5_code 93 = .ok (.putfield 29, 3) := by decide +kernel
theorem d3_96 : decode prog_48_method_5_code 96 = .ok (.aload_n 0, 1) := by decide +kernel
theorem d3_97 : decode prog_48_method_5_code 97 = .ok (.iconst (-1), 1) := by decide +kernel
theorem d3_98 : decode prog_48_method_5_code 98 = .ok (.putfield 25, 3) := by decide +kernel
theorem d3_101 : decode prog_48_method_5_code 101 = .ok (.return_, 1) := by decide +kernel
theorem pf_com_example_wirelens_wirelens_wire_GroupEnds_beginRead__I_V : plainFor (⟨OwnK0, "beginRead", "(I)V"⟩ : MethodName) = true := by first | exact plainFor_of_name (by first | (simp [plainName, overriddenIn]; done) | decide +kernel) | exact Jvm.Free.JP.mathPlain rfl (by decide +kernel) | decide +kernel
theorem ef_sp2 (m : MethodId) (q0 : Addr) (q1 : Int32) : entryFrame m #[(.ref q0), (.int q1)] 2 = mkF m 0 #[rv q0, iv q1] [] := by first | (simp [entryFrame, mkF, argsToLocals, Value.category]; done) | rfl
set_option maxRecDepth 65536 in
set_option maxHeartbeats 40000000 in
theorem sp2 (l : Launch) (Z : State) (a0 : Array Value) (hw : ∀ d ∈ tables_1, d.before a0 Z = true) (ws : List Jvm.Cond) (o0 o1 o2 o3 o4 o5 : Addr) (u0 : Int32) (c0 : ClassId) (c1 : ClassId) (h0 : Heap) (n0 : Nat) (Z0 : n0 ≤ h0.size) (E_o0 : Exa Z h0 o0 OwnK0) (F_count_o0 : Fld Z h0 o0 OwnK0 "count" "I" (.int 0)) (F_cursor_o0 : Fld Z h0 o0 OwnK0 "cursor" "I" (.int (-1))) (F_ends_o0 : Fld Z h0 o0 OwnK0 "ends" "[I" (.ref o2)) (F_lastOpened_o0 : Fld Z h0 o0 OwnK0 "lastOpened" "I" (.int 0)) (F_segmentEnd_o0 : Fld Z h0 o0 OwnK0 "segmentEnd" "[I" (.ref o4)) (F_segmentFirst_o0 : Fld Z h0 o0 OwnK0 "segmentFirst" "[I" (.ref o3)) (F_segmentLimit_o0 : Fld Z h0 o0 OwnK0 "segmentLimit" "[I" (.ref o5)) (F_segments_o0 : Fld Z h0 o0 OwnK0 "segments" "I" (.int 0)) (F_starts_o0 : Fld Z h0 o0 OwnK0 "starts" "[I" (.ref o1)) (V_o3 : Arv Z h0 o3 c0 .int (8 : Int32) [(.int 0), (.int 0), (.int 0), (.int 0), (.int 0), (.int 0), (.int 0), (.int 0)] (.int 0)) (V_o5 : Arv Z h0 o5 c1 .int (8 : Int32) [(.int 0), (.int 0), (.int 0), (.int 0), (.int 0), (.int 0), (.int 0), (.int 0)] (.int 0)) (ne_o0_o1 : o0 ≠ o1) (ne_o0_o2 : o0 ≠ o2) (ne_o0_o3 : o0 ≠ o3) (ne_o0_o4 : o0 ≠ o4) (ne_o0_o5 : o0 ≠ o5) (ne_o1_o3 : o1 ≠ o3) (ne_o1_o5 : o1 ≠ o5) (ne_o2_o3 : o2 ≠ o3) (ne_o2_o5 : o2 ≠ o5) (ne_o3_o4 : o3 ≠ o4) (ne_o3_o5 : o3 ≠ o5) (ne_o4_o5 : o4 ≠ o5) (g_o0 : n0 ≤ o0) (g_o3 : n0 ≤ o3) (g_o5 : n0 ≤ o5) :
    OwnC l Z (⟨OwnK0, "beginRead", "(I)V"⟩ : MethodName) prog_48_method_5_code 2 none ws ({ frames := 0, cells := 0, slots := 0, locals := 0 } : Room) #[(.ref o0), (.int u0)] h0 (fun v h L => v = none ∧ Fr n0 L ∧ Keep h0 h [o0, o3, o5] ∧ Fld Z h o0 OwnK0 "count" "I" (.int 0) ∧ Fld Z h o0 OwnK0 "ends" "[I" (.ref o2) ∧ Fld Z h o0 OwnK0 "lastOpened" "I" (.int 0) ∧ Fld Z h o0 OwnK0 "segmentEnd" "[I" (.ref o4) ∧ Fld Z h o0 OwnK0 "segmentFirst" "[I" (.ref o3) ∧ Fld Z h o0 OwnK0 "segmentLimit" "[I" (.ref o5) ∧ Fld Z h o0 OwnK0 "starts" "[I" (.ref o1) ∧ Arv Z h o3 c0 .int (8 : Int32) [(.int 0), (.int 0), (.int 0), (.int 0), (.int 0), (.int 0), (.int 0), (.int 0)] (.int 0) ∧ Arv Z h o5 c1 .int (8 : Int32) [(.int u0), (.int 0), (.int 0), (.int 0), (.int 0), (.int 0), (.int 0), (.int 0)] (.int 0) ∧ Fld Z h o0 OwnK0 "segments" "I" (.int 1) ∧ Fld Z h o0 OwnK0 "cursor" "I" (.int (-1))) := by
  refine own_entry pf_com_example_wirelens_wirelens_wire_GroupEnds_beginRead__I_V (fun m => ef_sp2 m o0 u0) ?_
  intro p e s m below meth c T0 X0 hC e0
  obtain ⟨hx, hby, hml, hown, hnm, hret, hlk, hZ⟩ := hC
  have N0 := Fr.nil n0
  have K0 := Keep.refl h0 [o0, o3, o5]
  refine own_go T0 m 1 #[rv o0, iv u0] [(.ref o0)] (fun t k => XS.aloadN X0.here hx rfl (hb hby d3_0) rfl rfl k) ?_
  obtain ⟨T1, X1, e1, st1⟩ := getF X0 hx hZ hown (host := "") (Or.inl (own_w hw 27 rfl)) Via.refl e0 F_segments_o0 (g := (mkF m 1 #[rv o0, iv u0] [(.ref o0)])) rfl rfl (hb hby d3_1)
  refine own_go T1 m 4 #[rv o0, iv u0] [(.int 0)] (st1) ?_
  refine own_go T1 m 5 #[rv o0, iv u0] [(.ref o0), (.int 0)] (fun t k => XS.aloadN X1.here hx rfl (hb hby d3_4) rfl rfl k) ?_
  obtain ⟨T2, X2, e2, st2⟩ := getF X1 hx hZ hown (host := "") (Or.inl (own_w hw 14 rfl)) Via.refl e1 F_segmentFirst_o0 (g := (mkF m 5 #[rv o0, iv u0] [(.ref o0), (.int 0)])) rfl rfl (hb hby d3_5)
  refine own_go T2 m 8 #[rv o0, iv u0] [(.ref o3), (.int 0)] (st2) ?_
  refine own_go T2 m 9 #[rv o0, iv u0] [(.int 8), (.int 0)] (own_alen X2 hx hZ e2 V_o3 (hb hby d3_8)) ?_
  refine own_go T2 m 63 #[rv o0, iv u0] [] (fun t k => XS.icmpYes X2.here hx rfl (pc0 := 9) (pc' := 63) rfl (hb hby d3_9) rfl (feq (by decide)).2 (by decide) (by decide) k) ?_
  refine own_go T2 m 64 #[rv o0, iv u0] [(.ref o0)] (fun t k => XS.aloadN X2.here hx rfl (hb hby d3_63) rfl rfl k) ?_
  obtain ⟨T4, X4, e4, st4⟩ := getF X2 hx hZ hown (host := "") (Or.inl (own_w hw 14 rfl)) Via.refl e2 F_segmentFirst_o0 (g := (mkF m 64 #[rv o0, iv u0] [(.ref o0)])) rfl rfl (hb hby d3_64)
  refine own_go T4 m 67 #[rv o0, iv u0] [(.ref o3)] (st4) ?_
  refine own_go T4 m 68 #[rv o0, iv u0] [(.ref o0), (.ref o3)] (fun t k => XS.aloadN X4.here hx rfl (hb hby d3_67) rfl rfl k) ?_
  obtain ⟨T5, X5, e5, st5⟩ := getF X4 hx hZ hown (host := "") (Or.inl (own_w hw 27 rfl)) Via.refl e4 F_segments_o0 (g := (mkF m 68 #[rv o0, iv u0] [(.ref o0), (.ref o3)])) rfl rfl (hb hby d3_68)
  refine own_go T5 m 71 #[rv o0, iv u0] [(.int 0), (.ref o3)] (st5) ?_
  refine own_go T5 m 72 #[rv o0, iv u0] [(.ref o0), (.int 0), (.ref o3)] (fun t k => XS.aloadN X5.here hx rfl (hb hby d3_71) rfl rfl k) ?_
  obtain ⟨T6, X6, e6, st6⟩ := getF X5 hx hZ hown (host := "") (Or.inl (own_w hw 29 rfl)) Via.refl e5 F_count_o0 (g := (mkF m 72 #[rv o0, iv u0] [(.ref o0), (.int 0), (.ref o3)])) rfl rfl (hb hby d3_72)
  refine own_go T6 m 75 #[rv o0, iv u0] [(.int 0), (.int 0), (.ref o3)] (st6) ?_
  obtain ⟨T7, h7, X7, e7, W7, V7, st7⟩ := own_iastore X6 hx hZ e6 V_o3 (j := (0 : Int32)) ⟨by decide, by decide⟩ 0 rfl (Nat.le_of_ble_eq_true rfl) (Ls := #[rv o0, iv u0]) (rest := []) (x := (0 : Int32)) (hb hby d3_75)
  replace V7 : Arv Z h7 o3 c0 .int (8 : Int32) [(.int 0), (.int 0), (.int 0), (.int 0), (.int 0), (.int 0), (.int 0), (.int 0)] (.int 0) := V7
  have cf8 := E_o0.wr W7
  have cf9 := F_count_o0.other W7 (Or.inl ne_o0_o3)
  have cf10 := F_cursor_o0.other W7 (Or.inl ne_o0_o3)
  have cf11 := F_ends_o0.other W7 (Or.inl ne_o0_o3)
  have cf12 := F_lastOpened_o0.other W7 (Or.inl ne_o0_o3)
  have cf13 := F_segmentEnd_o0.other W7 (Or.inl ne_o0_o3)
  have cf14 := F_segmentFirst_o0.other W7 (Or.inl ne_o0_o3)
  have cf15 := F_segmentLimit_o0.other W7 (Or.inl ne_o0_o3)
  have cf16 := F_segments_o0.other W7 (Or.inl ne_o0_o3)
  have cf17 := F_starts_o0.other W7 (Or.inl ne_o0_o3)
  have cf18 := V_o5.other W7 (Ne.symm ne_o3_o5)
  have Z_7 : n0 ≤ h7.size := Nat.le_trans Z0 (Keep.of_wr W7).1
  have K_7 : Keep h0 h7 [o0, o3, o5] := K0.wr W7 (own_i 1 rfl)
  have N7 := Fr.snoc X7 N0 g_o3
  refine own_go T7 m 76 #[rv o0, iv u0] [] (st7) ?_
  refine own_go T7 m 77 #[rv o0, iv u0] [(.ref o0)] (fun t k => XS.aloadN X7.here hx rfl (hb hby d3_76) rfl rfl k) ?_
  obtain ⟨T19, X19, e19, st19⟩ := getF X7 hx hZ hown (host := "") (Or.inl (own_w hw 18 rfl)) Via.refl e7 cf15 (g := (mkF m 77 #[rv o0, iv u0] [(.ref o0)])) rfl rfl (hb hby d3_77)
  refine own_go T19 m 80 #[rv o0, iv u0] [(.ref o5)] (st19) ?_
  refine own_go T19 m 81 #[rv o0, iv u0] [(.ref o0), (.ref o5)] (fun t k => XS.aloadN X19.here hx rfl (hb hby d3_80) rfl rfl k) ?_
  obtain ⟨T20, X20, e20, st20⟩ := getF X19 hx hZ hown (host := "") (Or.inl (own_w hw 27 rfl)) Via.refl e19 cf16 (g := (mkF m 81 #[rv o0, iv u0] [(.ref o0), (.ref o5)])) rfl rfl (hb hby d3_81)
  refine own_go T20 m 84 #[rv o0, iv u0] [(.int 0), (.ref o5)] (st20) ?_
  refine own_go T20 m 85 #[rv o0, iv u0] [(.int u0), (.int 0), (.ref o5)] (fun t k => XS.iloadN X20.here hx rfl (hb hby d3_84) rfl k) ?_
  obtain ⟨T21, h21, X21, e21, W21, V21, st21⟩ := own_iastore X20 hx hZ e20 cf18 (j := (0 : Int32)) ⟨by decide, by decide⟩ 0 rfl (Nat.le_of_ble_eq_true rfl) (Ls := #[rv o0, iv u0]) (rest := []) (x := u0) (hb hby d3_85)
  replace V21 : Arv Z h21 o5 c1 .int (8 : Int32) [(.int u0), (.int 0), (.int 0), (.int 0), (.int 0), (.int 0), (.int 0), (.int 0)] (.int 0) := V21
  have cf22 := cf8.wr W21
  have cf23 := cf9.other W21 (Or.inl ne_o0_o5)
  have cf24 := cf10.other W21 (Or.inl ne_o0_o5)
  have cf25 := cf11.other W21 (Or.inl ne_o0_o5)
  have cf26 := cf12.other W21 (Or.inl ne_o0_o5)
  have cf27 := cf13.other W21 (Or.inl ne_o0_o5)
  have cf28 := cf14.other W21 (Or.inl ne_o0_o5)
  have cf29 := cf15.other W21 (Or.inl ne_o0_o5)
  have cf30 := cf16.other W21 (Or.inl ne_o0_o5)
  have cf31 := cf17.other W21 (Or.inl ne_o0_o5)
  have cf32 := V7.other W21 ne_o3_o5
  have Z_21 : n0 ≤ h21.size := Nat.le_trans Z_7 (Keep.of_wr W21).1
  have K_21 : Keep h0 h21 [o0, o3, o5] := K_7.wr W21 (own_i 2 rfl)
  have N21 := Fr.snoc X21 N7 g_o5
  refine own_go T21 m 86 #[rv o0, iv u0] [] (st21) ?_
  refine own_go T21 m 87 #[rv o0, iv u0] [(.ref o0)] (fun t k => XS.aloadN X21.here hx rfl (hb hby d3_86) rfl rfl k) ?_
  refine own_go T21 m 88 #[rv o0, iv u0] [(.ref o0), (.ref o0)] (fun t k => XS.dup X21.here hx rfl (hb hby d3_87) rfl rfl k) ?_
  obtain ⟨T33, X33, e33, st33⟩ := getF X21 hx hZ hown (host := "") (Or.inl (own_w hw 27 rfl)) Via.refl e21 cf30 (g := (mkF m 88 #[rv o0, iv u0] [(.ref o0), (.ref o0)])) rfl rfl (hb hby d3_88)
  refine own_go T33 m 91 #[rv o0, iv u0] [(.int 0), (.ref o0)] (st33) ?_
  refine own_go T33 m 92 #[rv o0, iv u0] [(.int 1), (.int 0), (.ref o0)] (fun t k => XS.iconst X33.here hx rfl (hb hby d3_91) k) ?_
  refine own_go T33 m 93 #[rv o0, iv u0] [(.int ((0 : Int32) + (1 : Int32))), (.ref o0)] (fun t k => XS.iadd X33.here hx rfl (hb hby d3_92) rfl k) ?_
  rw [show ((0 : Int32) + (1 : Int32)) = (1 : Int32) from by decide]
  obtain ⟨T34, h34, X34, e34, W34, st34⟩ := putF X33 hx hZ hown (host := "") (Or.inl (own_w hw 27 rfl)) Via.refl e33 cf30 cf22 (Or.inl (own_w hw 28 rfl)) (own_w hw 1 rfl) (ty := .int) (by decide) rfl rfl (g := (mkF m 93 #[rv o0, iv u0] [(.int 1), (.ref o0)])) rfl rfl (hb hby d3_93)
  have F34 := cf30.same W34
  have cf35 := cf22.wr W34
  have cf36 := cf23.other W34 (Or.inr (slot_ne (Or.inl (own_w hw 30 rfl)) (Or.inl (own_w hw 28 rfl)) (by decide) (t := .int) (t' := .int) (by decide) (by decide)))
  have cf37 := cf24.other W34 (Or.inr (slot_ne (Or.inl (own_w hw 21 rfl)) (Or.inl (own_w hw 28 rfl)) (by decide) (t := .int) (t' := .int) (by decide) (by decide)))
  have cf38 := cf25.other W34 (Or.inr (slot_ne (Or.inl (own_w hw 13 rfl)) (Or.inl (own_w hw 28 rfl)) (by decide) (t := (.array .int)) (t' := .int) (by decide) (by decide)))
  have cf39 := cf26.other W34 (Or.inr (slot_ne (Or.inl (own_w hw 37 rfl)) (Or.inl (own_w hw 28 rfl)) (by decide) (t := .int) (t' := .int) (by decide) (by decide)))
  have cf40 := cf27.other W34 (Or.inr (slot_ne (Or.inl (own_w hw 17 rfl)) (Or.inl (own_w hw 28 rfl)) (by decide) (t := (.array .int)) (t' := .int) (by decide) (by decide)))
  have cf41 := cf28.other W34 (Or.inr (slot_ne (Or.inl (own_w hw 15 rfl)) (Or.inl (own_w hw 28 rfl)) (by decide) (t := (.array .int)) (t' := .int) (by decide) (by decide)))
  have cf42 := cf29.other W34 (Or.inr (slot_ne (Or.inl (own_w hw 19 rfl)) (Or.inl (own_w hw 28 rfl)) (by decide) (t := (.array .int)) (t' := .int) (by decide) (by decide)))
  have cf43 := cf31.other W34 (Or.inr (slot_ne (Or.inl (own_w hw 11 rfl)) (Or.inl (own_w hw 28 rfl)) (by decide) (t := (.array .int)) (t' := .int) (by decide) (by decide)))
  have cf44 := cf32.other W34 (Ne.symm ne_o0_o3)
  have cf45 := V21.other W34 (Ne.symm ne_o0_o5)
  have Z_34 : n0 ≤ h34.size := Nat.le_trans Z_21 (Keep.of_wr W34).1
  have K_34 : Keep h0 h34 [o0, o3, o5] := K_21.wr W34 (own_i 0 rfl)
  have N34 := Fr.snoc X34 N21 g_o0
  refine own_go T34 m 96 #[rv o0, iv u0] [] (st34) ?_
  refine own_go T34 m 97 #[rv o0, iv u0] [(.ref o0)] (fun t k => XS.aloadN X34.here hx rfl (hb hby d3_96) rfl rfl k) ?_
  refine own_go T34 m 98 #[rv o0, iv u0] [(.int (-1)), (.ref o0)] (fun t k => XS.iconst X34.here hx rfl (hb hby d3_97) k) ?_
  obtain ⟨T46, h46, X46, e46, W46, st46⟩ := putF X34 hx hZ hown (host := "") (Or.inl (own_w hw 20 rfl)) Via.refl e34 cf37 cf35 (Or.inl (own_w hw 21 rfl)) (own_w hw 1 rfl) (ty := .int) (by decide) rfl rfl (g := (mkF m 98 #[rv o0, iv u0] [(.int (-1)), (.ref o0)])) rfl rfl (hb hby d3_98)
  have F46 := cf37.same W46
  have cf47 := cf35.wr W46
  have cf48 := cf36.other W46 (Or.inr (slot_ne (Or.inl (own_w hw 30 rfl)) (Or.inl (own_w hw 21 rfl)) (by decide) (t := .int) (t' := .int) (by decide) (by decide)))
  have cf49 := cf38.other W46 (Or.inr (slot_ne (Or.inl (own_w hw 13 rfl)) (Or.inl (own_w hw 21 rfl)) (by decide) (t := (.array .int)) (t' := .int) (by decide) (by decide)))
  have cf50 := cf39.other W46 (Or.inr (slot_ne (Or.inl (own_w hw 37 rfl)) (Or.inl (own_w hw 21 rfl)) (by decide) (t := .int) (t' := .int) (by decide) (by decide)))
  have cf51 := cf40.other W46 (Or.inr (slot_ne (Or.inl (own_w hw 17 rfl)) (Or.inl (own_w hw 21 rfl)) (by decide) (t := (.array .int)) (t' := .int) (by decide) (by decide)))
  have cf52 := cf41.other W46 (Or.inr (slot_ne (Or.inl (own_w hw 15 rfl)) (Or.inl (own_w hw 21 rfl)) (by decide) (t := (.array .int)) (t' := .int) (by decide) (by decide)))
  have cf53 := cf42.other W46 (Or.inr (slot_ne (Or.inl (own_w hw 19 rfl)) (Or.inl (own_w hw 21 rfl)) (by decide) (t := (.array .int)) (t' := .int) (by decide) (by decide)))
  have cf54 := cf43.other W46 (Or.inr (slot_ne (Or.inl (own_w hw 11 rfl)) (Or.inl (own_w hw 21 rfl)) (by decide) (t := (.array .int)) (t' := .int) (by decide) (by decide)))
  have cf55 := cf44.other W46 (Ne.symm ne_o0_o3)
  have cf56 := cf45.other W46 (Ne.symm ne_o0_o5)
  have cf57 := F34.other W46 (Or.inr (slot_ne (Or.inl (own_w hw 28 rfl)) (Or.inl (own_w hw 21 rfl)) (by decide) (t := .int) (t' := .int) (by decide) (by decide)))
  have Z_46 : n0 ≤ h46.size := Nat.le_trans Z_34 (Keep.of_wr W46).1
  have K_46 : Keep h0 h46 [o0, o3, o5] := K_34.wr W46 (own_i 0 rfl)
  have N46 := Fr.snoc X46 N34 g_o0
  refine own_go T46 m 101 #[rv o0, iv u0] [] (st46) ?_
  refine own_retV X46 hx hlk hret (hb hby d3_101) (by decide) (by decide) ?_
  rw [e46]
  exact ⟨rfl, N46, K_46, cf48, cf49, cf50, cf51, cf52, cf53, cf54, cf55, cf56, cf57, F46⟩
theorem d5_0 : decode prog_48_method_8_code 0 = .ok (.aload_n 0, 1) := by decide +kernel
theorem d5_1 : decode prog_48_method_8_code 1 = .ok (.getfield 29, 3) := by decide +kernel
theorem d5_4 : decode prog_48_method_8_code 4 = .ok (.iconst 1, 1) := by decide +kernel
theorem d5_5 : decode prog_48_method_8_code 5 = .ok (.isub, 1) := by decide +kernel
theorem d5_6 : decode prog_48_method_8_code 6 = .ok (.istore_n 2, 1) := by decide +kernel
theorem d5_7 : decode prog_48_method_8_code 7 = .ok (.aload_n 0, 1) := by decide +kernel
theorem d5_8 : decode prog_48_method_8_code 8 = .ok (.getfield 36, 3) := by decide +kernel
theorem d5_11 : decode prog_48_method_8_code 11 = .ok (.aload_n 0, 1) := by decide +kernel
theorem d5_12 : decode prog_48_method_8_code 12 = .ok (.getfield 16, 3) := by decide +kernel
theorem d5_15 : decode prog_48_method_8_code 15 = .ok (.iload_n 2, 1) := by decide +kernel
theorem d5_16 : decode prog_48_method_8_code 16 = .ok (.iaload, 1) := by decide +kernel
theorem d5_17 : decode prog_48_method_8_code 17 = .ok (.if_icmp .ne 16, 3) := by decide +kernel
theorem d5_20 : decode prog_48_method_8_code 20 = .ok (.aload_n 0, 1) := by decide +kernel
theorem d5_21 : decode prog_48_method_8_code 21 = .ok (.dup, 1) := by decide +kernel
theorem d5_22 : decode prog_48_method_8_code 22 = .ok (.getfield 29, 3) := by decide +kernel
theorem d5_25 : decode prog_48_method_8_code 25 = .ok (.iconst 1, 1) := by decide +kernel
theorem d5_26 : decode prog_48_method_8_code 26 = .ok (.isub, 1) := by decide +kernel
theorem d5_27 : decode prog_48_method_8_code 27 = .ok (.putfield 29, 3) := by decide +kernel
theorem d5_30 : decode prog_48_method_8_code 30 = .ok (.goto 10, 3) := by decide +kernel
theorem d5_33 : decode prog_48_method_8_code 33 = .ok (.aload_n 0, 1) := by decide +kernel
theorem d5_34 : decode prog_48_method_8_code 34 = .ok (.getfield 19, 3) := by decide +kernel
theorem d5_37 : decode prog_48_method_8_code 37 = .ok (.iload_n 2, 1) := by decide +kernel
theorem d5_38 : decode prog_48_method_8_code 38 = .ok (.iload_n 1, 1) := by decide +kernel
theorem d5_39 : decode prog_48_method_8_code 39 = .ok (.iastore, 1) := by decide +kernel
theorem d5_40 : decode prog_48_method_8_code 40 = .ok (.return_, 1) := by decide +kernel
theorem pf_com_example_wirelens_wirelens_wire_GroupEnds_endRead__I_V : plainFor (⟨OwnK0, "endRead", "(I)V"⟩ : MethodName) = true := by first | exact plainFor_of_name (by first | (simp [plainName, overriddenIn]; done) | decide +kernel) | exact Jvm.Free.JP.mathPlain rfl (by decide +kernel) | decide +kernel
theorem ef_sp3 (m : MethodId) (q0 : Addr) (q1 : Int32) : entryFrame m #[(.ref q0), (.int q1)] 3 = mkF m 0 #[rv q0, iv q1, .unset] [] := by first | (simp [entryFrame, mkF, argsToLocals, Value.category]; done) | rfl
set_option maxRecDepth 65536 in
set_option maxHeartbeats 40000000 in
theorem sp3 (l : Launch) (Z : State) (a0 : Array Value) (hw : ∀ d ∈ tables_1, d.before a0 Z = true) (ws : List Jvm.Cond) (o0 o1 o2 o3 o4 o5 : Addr) (u0 : Int32) (c0 : ClassId) (h0 : Heap) (n0 : Nat) (Z0 : n0 ≤ h0.size) (E_o0 : Exa Z h0 o0 OwnK0) (F_count_o0 : Fld Z h0 o0 OwnK0 "count" "I" (.int 0)) (F_cursor_o0 : Fld Z h0 o0 OwnK0 "cursor" "I" (.int (-1))) (F_ends_o0 : Fld Z h0 o0 OwnK0 "ends" "[I" (.ref o1)) (F_lastOpened_o0 : Fld Z h0 o0 OwnK0 "lastOpened" "I" (.int 0)) (F_segmentEnd_o0 : Fld Z h0 o0 OwnK0 "segmentEnd" "[I" (.ref o2)) (F_segmentFirst_o0 : Fld Z h0 o0 OwnK0 "segmentFirst" "[I" (.ref o3)) (F_segmentLimit_o0 : Fld Z h0 o0 OwnK0 "segmentLimit" "[I" (.ref o4)) (F_segments_o0 : Fld Z h0 o0 OwnK0 "segments" "I" (.int 1)) (F_starts_o0 : Fld Z h0 o0 OwnK0 "starts" "[I" (.ref o5)) (V_o3 : Arv Z h0 o3 c0 .int (8 : Int32) [(.int 0), (.int 0), (.int 0), (.int 0), (.int 0), (.int 0), (.int 0), (.int 0)] (.int 0)) (ne_o0_o1 : o0 ≠ o1) (ne_o0_o2 : o0 ≠ o2) (ne_o0_o3 : o0 ≠ o3) (ne_o0_o4 : o0 ≠ o4) (ne_o0_o5 : o0 ≠ o5) (g_o0 : n0 ≤ o0) :
    OwnC l Z (⟨OwnK0, "endRead", "(I)V"⟩ : MethodName) prog_48_method_8_code 3 none ws ({ frames := 0, cells := 0, slots := 0, locals := 0 } : Room) #[(.ref o0), (.int u0)] h0 (fun v h L => v = none ∧ Fr n0 L ∧ Keep h0 h [o0] ∧ Fld Z h o0 OwnK0 "count" "I" (.int 0) ∧ Fld Z h o0 OwnK0 "cursor" "I" (.int (-1)) ∧ Fld Z h o0 OwnK0 "ends" "[I" (.ref o1) ∧ Fld Z h o0 OwnK0 "lastOpened" "I" (.int 0) ∧ Fld Z h o0 OwnK0 "segmentEnd" "[I" (.ref o2) ∧ Fld Z h o0 OwnK0 "segmentFirst" "[I" (.ref o3) ∧ Fld Z h o0 OwnK0 "segmentLimit" "[I" (.ref o4) ∧ Fld Z h o0 OwnK0 "starts" "[I" (.ref o5) ∧ Fld Z h o0 OwnK0 "segments" "I" (.int 0)) := by
  refine own_entry pf_com_example_wirelens_wirelens_wire_GroupEnds_endRead__I_V (fun m => ef_sp3 m o0 u0) ?_
  intro p e s m below meth c T0 X0 hC e0
  obtain ⟨hx, hby, hml, hown, hnm, hret, hlk, hZ⟩ := hC
  have N0 := Fr.nil n0
  have K0 := Keep.refl h0 [o0]
  refine own_go T0 m 1 #[rv o0, iv u0, .unset] [(.ref o0)] (fun t k => XS.aloadN X0.here hx rfl (hb hby d5_0) rfl rfl k) ?_
  obtain ⟨T1, X1, e1, st1⟩ := getF X0 hx hZ hown (host := "") (Or.inl (own_w hw 27 rfl)) Via.refl e0 F_segments_o0 (g := (mkF m 1 #[rv o0, iv u0, .unset] [(.ref o0)])) rfl rfl (hb hby d5_1)
  refine own_go T1 m 4 #[rv o0, iv u0, .unset] [(.int 1)] (st1) ?_
  refine own_go T1 m 5 #[rv o0, iv u0, .unset] [(.int 1), (.int 1)] (fun t k => XS.iconst X1.here hx rfl (hb hby d5_4) k) ?_
  refine own_go T1 m 6 #[rv o0, iv u0, .unset] [(.int ((1 : Int32) - (1 : Int32)))] (fun t k => XS.isub X1.here hx rfl (hb hby d5_5) rfl k) ?_
  rw [show ((1 : Int32) - (1 : Int32)) = (0 : Int32) from by decide]
  refine own_go T1 m 7 #[rv o0, iv u0, iv 0] [] (fun t k => XS.istoreN X1.here hx rfl (hb hby d5_6) rfl rfl k) ?_
  refine own_go T1 m 8 #[rv o0, iv u0, iv 0] [(.ref o0)] (fun t k => XS.aloadN X1.here hx rfl (hb hby d5_7) rfl rfl k) ?_
  obtain ⟨T2, X2, e2, st2⟩ := getF X1 hx hZ hown (host := "") (Or.inl (own_w hw 29 rfl)) Via.refl e1 F_count_o0 (g := (mkF m 8 #[rv o0, iv u0, iv 0] [(.ref o0)])) rfl rfl (hb hby d5_8)
  refine own_go T2 m 11 #[rv o0, iv u0, iv 0] [(.int 0)] (st2) ?_
  refine own_go T2 m 12 #[rv o0, iv u0, iv 0] [(.ref o0), (.int 0)] (fun t k => XS.aloadN X2.here hx rfl (hb hby d5_11) rfl rfl k) ?_
  obtain ⟨T3, X3, e3, st3⟩ := getF X2 hx hZ hown (host := "") (Or.inl (own_w hw 14 rfl)) Via.refl e2 F_segmentFirst_o0 (g := (mkF m 12 #[rv o0, iv u0, iv 0] [(.ref o0), (.int 0)])) rfl rfl (hb hby d5_12)
  refine own_go T3 m 15 #[rv o0, iv u0, iv 0] [(.ref o3), (.int 0)] (st3) ?_
  refine own_go T3 m 16 #[rv o0, iv u0, iv 0] [(.int 0), (.ref o3), (.int 0)] (fun t k => XS.iloadN X3.here hx rfl (hb hby d5_15) rfl k) ?_
  refine own_go T3 m 17 #[rv o0, iv u0, iv 0] [(.int 0), (.int 0)] (own_iaload X3 hx hZ e3 V_o3 (j := (0 : Int32)) ⟨by decide, by decide⟩ rfl (hb hby d5_16)) ?_
  refine own_go T3 m 20 #[rv o0, iv u0, iv 0] [] (fun t k => XS.icmpNo X3.here hx rfl (hb hby d5_17) rfl (teq (by decide)).2 k) ?_
  refine own_go T3 m 21 #[rv o0, iv u0, iv 0] [(.ref o0)] (fun t k => XS.aloadN X3.here hx rfl (hb hby d5_20) rfl rfl k) ?_
  refine own_go T3 m 22 #[rv o0, iv u0, iv 0] [(.ref o0), (.ref o0)] (fun t k => XS.dup X3.here hx rfl (hb hby d5_21) rfl rfl k) ?_
  obtain ⟨T5, X5, e5, st5⟩ := getF X3 hx hZ hown (host := "") (Or.inl (own_w hw 27 rfl)) Via.refl e3 F_segments_o0 (g := (mkF m 22 #[rv o0, iv u0, iv 0] [(.ref o0), (.ref o0)])) rfl rfl (hb hby d5_22)
  refine own_go T5 m 25 #[rv o0, iv u0, iv 0] [(.int 1), (.ref o0)] (st5) ?_
  refine own_go T5 m 26 #[rv o0, iv u0, iv 0] [(.int 1), (.int 1), (.ref o0)] (fun t k => XS.iconst X5.here hx rfl (hb hby d5_25) k) ?_
  refine own_go T5 m 27 #[rv o0, iv u0, iv 0] [(.int ((1 : Int32) - (1 : Int32))), (.ref o0)] (fun t k => XS.isub X5.here hx rfl (hb hby d5_26) rfl k) ?_
  rw [show ((1 : Int32) - (1 : Int32)) = (0 : Int32) from by decide]
  obtain ⟨T6, h6, X6, e6, W6, st6⟩ := putF X5 hx hZ hown (host := "") (Or.inl (own_w hw 27 rfl)) Via.refl e5 F_segments_o0 E_o0 (Or.inl (own_w hw 28 rfl)) (own_w hw 1 rfl) (ty := .int) (by decide) rfl rfl (g := (mkF m 27 #[rv o0, iv u0, iv 0] [(.int 0), (.ref o0)])) rfl rfl (hb hby d5_27)
  have F6 := F_segments_o0.same W6
  have cf7 := E_o0.wr W6
  have cf8 := F_count_o0.other W6 (Or.inr (slot_ne (Or.inl (own_w hw 30 rfl)) (Or.inl (own_w hw 28 rfl)) (by decide) (t := .int) (t' := .int) (by decide) (by decide)))
  have cf9 := F_cursor_o0.other W6 (Or.inr (slot_ne (Or.inl (own_w hw 21 rfl)) (Or.inl (own_w hw 28 rfl)) (by decide) (t := .int) (t' := .int) (by decide) (by decide)))
  have cf10 := F_ends_o0.other W6 (Or.inr (slot_ne (Or.inl (own_w hw 13 rfl)) (Or.inl (own_w hw 28 rfl)) (by decide) (t := (.array .int)) (t' := .int) (by decide) (by decide)))
  have cf11 := F_lastOpened_o0.other W6 (Or.inr (slot_ne (Or.inl (own_w hw 37 rfl)) (Or.inl (own_w hw 28 rfl)) (by decide) (t := .int) (t' := .int) (by decide) (by decide)))
  have cf12 := F_segmentEnd_o0.other W6 (Or.inr (slot_ne (Or.inl (own_w hw 17 rfl)) (Or.inl (own_w hw 28 rfl)) (by decide) (t := (.array .int)) (t' := .int) (by decide) (by decide)))
  have cf13 := F_segmentFirst_o0.other W6 (Or.inr (slot_ne (Or.inl (own_w hw 15 rfl)) (Or.inl (own_w hw 28 rfl)) (by decide) (t := (.array .int)) (t' := .int) (by decide) (by decide)))
  have cf14 := F_segmentLimit_o0.other W6 (Or.inr (slot_ne (Or.inl (own_w hw 19 rfl)) (Or.inl (own_w hw 28 rfl)) (by decide) (t := (.array .int)) (t' := .int) (by decide) (by decide)))
  have cf15 := F_starts_o0.other W6 (Or.inr (slot_ne (Or.inl (own_w hw 11 rfl)) (Or.inl (own_w hw 28 rfl)) (by decide) (t := (.array .int)) (t' := .int) (by decide) (by decide)))
  have cf16 := V_o3.other W6 (Ne.symm ne_o0_o3)
  have Z_6 : n0 ≤ h6.size := Nat.le_trans Z0 (Keep.of_wr W6).1
  have K_6 : Keep h0 h6 [o0] := K0.wr W6 (own_i 0 rfl)
  have N6 := Fr.snoc X6 N0 g_o0
  refine own_go T6 m 30 #[rv o0, iv u0, iv 0] [] (st6) ?_
  refine own_go T6 m 40 #[rv o0, iv u0, iv 0] [] (fun t k => XS.goto X6.here hx rfl (pc0 := 30) (pc' := 40) rfl (hb hby d5_30) (by decide) (by decide) k) ?_
  refine own_retV X6 hx hlk hret (hb hby d5_40) (by decide) (by decide) ?_
  rw [e6]
  exact ⟨rfl, N6, K_6, cf8, cf9, cf10, cf11, cf12, cf13, cf14, cf15, F6⟩
theorem d6_0 : decode prog_48_method_2_code 0 = .ok (.aload_n 0, 1) := by decide +kernel
theorem d6_1 : decode prog_48_method_2_code 1 = .ok (.getfield 29, 3) := by decide +kernel
theorem d6_4 : decode prog_48_method_2_code 4 = .ok (.ifCond .le 42, 3) := by decide +kernel
theorem d6_7 : decode prog_48_method_2_code 7 = .ok (.aload_n 0, 1) := by decide +kernel
theorem d6_8 : decode prog_48_method_2_code 8 = .ok (.iload_n 1, 1) := by decide +kernel
theorem d6_9 : decode prog_48_method_2_code 9 = .ok (.invokevirtual 32, 3) := by decide +kernel
theorem d6_12 : decode prog_48_method_2_code 12 = .ok (.ifCond .ne 34, 3) := by decide +kernel
theorem d6_15 : decode prog_48_method_2_code 15 = .ok (.aload_n 0, 1) := by decide +kernel
theorem d6_16 : decode prog_48_method_2_code 16 = .ok (.dup, 1) := by decide +kernel
theorem d6_17 : decode prog_48_method_2_code 17 = .ok (.getfield 29, 3) := by decide +kernel
theorem d6_20 : decode prog_48_method_2_code 20 = .ok (.iconst 1, 1) := by decide +kernel
theorem d6_21 : decode prog_48_method_2_code 21 = .ok (.isub, 1) := by decide +kernel
theorem d6_22 : decode prog_48_method_2_code 22 = .ok (.putfield 29, 3) := by decide +kernel
theorem d6_25 : decode prog_48_method_2_code 25 = .ok (.aload_n 0, 1) := by decide +kernel
theorem d6_26 : decode prog_48_method_2_code 26 = .ok (.aload_n 0, 1) := by decide +kernel
theorem d6_27 : decode prog_48_method_2_code 27 = .ok (.getfield 16, 3) := by decide +kernel
theorem d6_30 : decode prog_48_method_2_code 30 = .ok (.aload_n 0, 1) := by decide +kernel
theorem d6_31 : decode prog_48_method_2_code 31 = .ok (.getfield 29, 3) := by decide +kernel
theorem d6_34 : decode prog_48_method_2_code 34 = .ok (.iaload, 1) := by decide +kernel
theorem d6_35 : decode prog_48_method_2_code 35 = .ok (.putfield 36, 3) := by decide +kernel
theorem d6_38 : decode prog_48_method_2_code 38 = .ok (.aload_n 0, 1) := by decide +kernel
theorem d6_39 : decode prog_48_method_2_code 39 = .ok (.iconst (-1), 1) := by decide +kernel
theorem d6_40 : decode prog_48_method_2_code 40 = .ok (.putfield 25, 3) := by decide +kernel
theorem d6_43 : decode prog_48_method_2_code 43 = .ok (.goto (-43), 3) := by decide +kernel
theorem d6_46 : decode prog_48_method_2_code 46 = .ok (.aload_n 0, 1) := by decide +kernel
theorem d6_47 : decode prog_48_method_2_code 47 = .ok (.getfield 29, 3) := by decide +kernel
theorem d6_50 : decode prog_48_method_2_code 50 = .ok (.ifCond .ne 7, 3) := by decide +kernel
theorem d6_53 : decode prog_48_method_2_code 53 = .ok (.iconst (-1), 1) := by decide +kernel
theorem d6_54 : decode prog_48_method_2_code 54 = .ok (.goto 8, 3) := by decide +kernel
theorem d6_57 : decode prog_48_method_2_code 57 = .ok (.aload_n 0, 1) := by decide +kernel
theorem d6_58 : decode prog_48_method_2_code 58 = .ok (.iload_n 1, 1) := by decide +kernel
theorem d6_59 : decode prog_48_method_2_code 59 = .ok (.invokevirtual 39, 3) := by decide +kernel
theorem d6_62 : decode prog_48_method_2_code 62 = .ok (.istore_n 3, 1) := by decide +kernel
theorem d6_63 : decode prog_48_method_2_code 63 = .ok (.iload_n 3, 1) := by decide +kernel
theorem d6_64 : decode prog_48_method_2_code 64 = .ok (.ifCond .ge 9, 3) := by decide +kernel
theorem d6_67 : decode prog_48_method_2_code 67 = .ok (.iconst (-1), 1) := by decide +kernel
theorem d6_68 : decode prog_48_method_2_code 68 = .ok (.istore 4, 2) := by decide +kernel
theorem d6_70 : decode prog_48_method_2_code 70 = .ok (.goto 43, 3) := by decide +kernel
theorem d6_73 : decode prog_48_method_2_code 73 = .ok (.aload_n 0, 1) := by decide +kernel
theorem d6_74 : decode prog_48_method_2_code 74 = .ok (.getfield 13, 3) := by decide +kernel
theorem d6_77 : decode prog_48_method_2_code 77 = .ok (.iload_n 3, 1) := by decide +kernel
theorem d6_78 : decode prog_48_method_2_code 78 = .ok (.iaload, 1) := by decide +kernel
theorem d6_79 : decode prog_48_method_2_code 79 = .ok (.bipush (-2), 2) := by decide +kernel
theorem d6_81 : decode prog_48_method_2_code 81 = .ok (.if_icmp .ne 24, 3) := by decide +kernel
theorem d6_84 : decode prog_48_method_2_code 84 = .ok (.iload_n 2, 1) := by decide +kernel
theorem d6_85 : decode prog_48_method_2_code 85 = .ok (.aload_n 0, 1) := by decide +kernel
theorem d6_86 : decode prog_48_method_2_code 86 = .ok (.getfield 22, 3) := by decide +kernel
theorem d6_89 : decode prog_48_method_2_code 89 = .ok (.aload_n 0, 1) := by decide +kernel
theorem d6_90 : decode prog_48_method_2_code 90 = .ok (.getfield 29, 3) := by decide +kernel
theorem d6_93 : decode prog_48_method_2_code 93 = .ok (.iconst 1, 1) := by decide +kernel
theorem d6_94 : decode prog_48_method_2_code 94 = .ok (.isub, 1) := by decide +kernel
theorem d6_95 : decode prog_48_method_2_code 95 = .ok (.iaload, 1) := by decide +kernel
theorem d6_96 : decode prog_48_method_2_code 96 = .ok (.if_icmp .le 9, 3) := by decide +kernel
theorem d6_99 : decode prog_48_method_2_code 99 = .ok (.iconst (-1), 1) := by decide +kernel
theorem d6_100 : decode prog_48_method_2_code 100 = .ok (.istore 4, 2) := by decide +kernel
theorem d6_102 : decode prog_48_method_2_code 102 = .ok (.goto 11, 3) := by decide +kernel
theorem d6_105 : decode prog_48_method_2_code 105 = .ok (.aload_n 0, 1) := by decide +kernel
theorem d6_106 : decode prog_48_method_2_code 106 = .ok (.getfield 13, 3) := by decide +kernel
theorem d6_109 : decode prog_48_method_2_code 109 = .ok (.iload_n 3, 1) := by decide +kernel
theorem d6_110 : decode prog_48_method_2_code 110 = .ok (.iaload, 1) := by decide +kernel
theorem d6_111 : decode prog_48_method_2_code 111 = .ok (.istore 4, 2) := by decide +kernel
theorem d6_113 : decode prog_48_method_2_code 113 = .ok (.iload 4, 2) := by decide +kernel
theorem d6_115 : decode prog_48_method_2_code 115 = .ok (.ireturn, 1) := by decide +kernel
theorem pf_com_example_wirelens_wirelens_wire_GroupEnds_find__II_I : plainFor (⟨OwnK0, "find", "(II)I"⟩ : MethodName) = true := by first | exact plainFor_of_name (by first | (simp [plainName, overriddenIn]; done) | decide +kernel) | exact Jvm.Free.JP.mathPlain rfl (by decide +kernel) | decide +kernel
theorem ef_sp4 (m : MethodId) (q0 : Addr) (q1 : Int32) (q2 : Int32) : entryFrame m #[(.ref q0), (.int q1), (.int q2)] 5 = mkF m 0 #[rv q0, iv q1, iv q2, .unset, .unset] [] := by first | (simp [entryFrame, mkF, argsToLocals, Value.category]; done) | rfl
set_option maxRecDepth 65536 in
set_option maxHeartbeats 40000000 in
theorem sp4 (l : Launch) (Z : State) (a0 : Array Value) (hw : ∀ d ∈ tables_1, d.before a0 Z = true) (ws : List Jvm.Cond) (o0 : Addr) (u0 : Int32) (u1 : Int32) (h0 : Heap) (n0 : Nat) (Z0 : n0 ≤ h0.size) (F_segments_o0 : Fld Z h0 o0 OwnK0 "segments" "I" (.int 0)) :
    OwnC l Z (⟨OwnK0, "find", "(II)I"⟩ : MethodName) prog_48_method_2_code 5 (some .int) ws ({ frames := 0, cells := 0, slots := 0, locals := 0 } : Room) #[(.ref o0), (.int u0), (.int u1)] h0 (fun v h L => v = some (.int (-1)) ∧ h = h0 ∧ L = []) := by
  refine own_entry pf_com_example_wirelens_wirelens_wire_GroupEnds_find__II_I (fun m => ef_sp4 m o0 u0 u1) ?_
  intro p e s m below meth c T0 X0 hC e0
  obtain ⟨hx, hby, hml, hown, hnm, hret, hlk, hZ⟩ := hC
  have N0 := Fr.nil n0
  have K0 := Keep.refl h0 []
  refine own_go T0 m 1 #[rv o0, iv u0, iv u1, .unset, .unset] [(.ref o0)] (fun t k => XS.aloadN X0.here hx rfl (hb hby d6_0) rfl rfl k) ?_
  obtain ⟨T1, X1, e1, st1⟩ := getF X0 hx hZ hown (host := "") (Or.inl (own_w hw 27 rfl)) Via.refl e0 F_segments_o0 (g := (mkF m 1 #[rv o0, iv u0, iv u1, .unset, .unset] [(.ref o0)])) rfl rfl (hb hby d6_1)
  refine own_go T1 m 4 #[rv o0, iv u0, iv u1, .unset, .unset] [(.int 0)] (st1) ?_
  refine own_go T1 m 46 #[rv o0, iv u0, iv u1, .unset, .unset] [] (fun t k => XS.ifYes X1.here hx rfl (pc0 := 4) (pc' := 46) rfl (hb hby d6_4) rfl ((if0 _ _).trans (flt (by decide)).2.2.2) (by decide) (by decide) k) ?_
  refine own_go T1 m 47 #[rv o0, iv u0, iv u1, .unset, .unset] [(.ref o0)] (fun t k => XS.aloadN X1.here hx rfl (hb hby d6_46) rfl rfl k) ?_
  obtain ⟨T2, X2, e2, st2⟩ := getF X1 hx hZ hown (host := "") (Or.inl (own_w hw 27 rfl)) Via.refl e1 F_segments_o0 (g := (mkF m 47 #[rv o0, iv u0, iv u1, .unset, .unset] [(.ref o0)])) rfl rfl (hb hby d6_47)
  refine own_go T2 m 50 #[rv o0, iv u0, iv u1, .unset, .unset] [(.int 0)] (st2) ?_
  refine own_go T2 m 53 #[rv o0, iv u0, iv u1, .unset, .unset] [] (fun t k => XS.ifNo X2.here hx rfl (hb hby d6_50) rfl ((if0 _ _).trans (teq (by decide)).2) k) ?_
  refine own_go T2 m 54 #[rv o0, iv u0, iv u1, .unset, .unset] [(.int (-1))] (fun t k => XS.iconst X2.here hx rfl (hb hby d6_53) k) ?_
  refine own_go T2 m 62 #[rv o0, iv u0, iv u1, .unset, .unset] [(.int (-1))] (fun t k => XS.goto X2.here hx rfl (pc0 := 54) (pc' := 62) rfl (hb hby d6_54) (by decide) (by decide) k) ?_
  refine own_go T2 m 63 #[rv o0, iv u0, iv u1, iv (-1), .unset] [] (fun t k => XS.istoreN X2.here hx rfl (hb hby d6_62) rfl rfl k) ?_
  refine own_go T2 m 64 #[rv o0, iv u0, iv u1, iv (-1), .unset] [(.int (-1))] (fun t k => XS.iloadN X2.here hx rfl (hb hby d6_63) rfl k) ?_
  refine own_go T2 m 67 #[rv o0, iv u0, iv u1, iv (-1), .unset] [] (fun t k => XS.ifNo X2.here hx rfl (hb hby d6_64) rfl ((if0 _ _).trans (tlt (by decide)).2.1) k) ?_
  refine own_go T2 m 68 #[rv o0, iv u0, iv u1, iv (-1), .unset] [(.int (-1))] (fun t k => XS.iconst X2.here hx rfl (hb hby d6_67) k) ?_
  refine own_go T2 m 70 #[rv o0, iv u0, iv u1, iv (-1), iv (-1)] [] (fun t k => XS.istore X2.here hx rfl (hb hby d6_68) rfl rfl k) ?_
  refine own_go T2 m 113 #[rv o0, iv u0, iv u1, iv (-1), iv (-1)] [] (fun t k => XS.goto X2.here hx rfl (pc0 := 70) (pc' := 113) rfl (hb hby d6_70) (by decide) (by decide) k) ?_
  refine own_go T2 m 115 #[rv o0, iv u0, iv u1, iv (-1), iv (-1)] [(.int (-1))] (fun t k => XS.iload X2.here hx rfl (hb hby d6_113) rfl k) ?_
  refine own_retI X2 hx hlk hret (hb hby d6_115) (by decide) (by decide) ?_
  exact ⟨rfl, e2, rfl⟩
theorem ef_sp5 (m : MethodId) (q0 : Addr) (q1 : Int32) : entryFrame m #[(.ref q0), (.int q1)] 2 = mkF m 0 #[rv q0, iv q1] [] := by first | (simp [entryFrame, mkF, argsToLocals, Value.category]; done) | rfl
set_option maxRecDepth 65536 in
set_option maxHeartbeats 40000000 in
theorem sp5 (l : Launch) (Z : State) (a0 : Array Value) (hw : ∀ d ∈ tables_1, d.before a0 Z = true) (ws : List Jvm.Cond) (o0 o1 o2 o3 o4 o5 : Addr) (u0 : Int32) (u1 : Int32) (c0 : ClassId) (c1 : ClassId) (h0 : Heap) (n0 : Nat) (Z0 : n0 ≤ h0.size) (E_o0 : Exa Z h0 o0 OwnK0) (F_count_o0 : Fld Z h0 o0 OwnK0 "count" "I" (.int 0)) (F_cursor_o0 : Fld Z h0 o0 OwnK0 "cursor" "I" (.int (-1))) (F_ends_o0 : Fld Z h0 o0 OwnK0 "ends" "[I" (.ref o1)) (F_lastOpened_o0 : Fld Z h0 o0 OwnK0 "lastOpened" "I" (.int 0)) (F_segmentEnd_o0 : Fld Z h0 o0 OwnK0 "segmentEnd" "[I" (.ref o2)) (F_segmentFirst_o0 : Fld Z h0 o0 OwnK0 "segmentFirst" "[I" (.ref o3)) (F_segmentLimit_o0 : Fld Z h0 o0 OwnK0 "segmentLimit" "[I" (.ref o4)) (F_segments_o0 : Fld Z h0 o0 OwnK0 "segments" "I" (.int 1)) (F_starts_o0 : Fld Z h0 o0 OwnK0 "starts" "[I" (.ref o5)) (V_o3 : Arv Z h0 o3 c0 .int (8 : Int32) [(.int 0), (.int 0), (.int 0), (.int 0), (.int 0), (.int 0), (.int 0), (.int 0)] (.int 0)) (V_o4 : Arv Z h0 o4 c1 .int (8 : Int32) [(.int u1), (.int 0), (.int 0), (.int 0), (.int 0), (.int 0), (.int 0), (.int 0)] (.int 0)) (ne_o0_o1 : o0 ≠ o1) (ne_o0_o2 : o0 ≠ o2) (ne_o0_o3 : o0 ≠ o3) (ne_o0_o4 : o0 ≠ o4) (ne_o0_o5 : o0 ≠ o5) (ne_o1_o3 : o1 ≠ o3) (ne_o1_o4 : o1 ≠ o4) (ne_o2_o3 : o2 ≠ o3) (ne_o2_o4 : o2 ≠ o4) (ne_o3_o4 : o3 ≠ o4) (ne_o3_o5 : o3 ≠ o5) (ne_o4_o5 : o4 ≠ o5) (g_o0 : n0 ≤ o0) (g_o3 : n0 ≤ o3) (g_o4 : n0 ≤ o4) :
    OwnC l Z (⟨OwnK0, "beginRead", "(I)V"⟩ : MethodName) prog_48_method_5_code 2 none ws ({ frames := 0, cells := 0, slots := 0, locals := 0 } : Room) #[(.ref o0), (.int u0)] h0 (fun v h L => v = none ∧ Fr n0 L ∧ Keep h0 h [o0, o3, o4] ∧ Fld Z h o0 OwnK0 "count" "I" (.int 0) ∧ Fld Z h o0 OwnK0 "ends" "[I" (.ref o1) ∧ Fld Z h o0 OwnK0 "lastOpened" "I" (.int 0) ∧ Fld Z h o0 OwnK0 "segmentEnd" "[I" (.ref o2) ∧ Fld Z h o0 OwnK0 "segmentFirst" "[I" (.ref o3) ∧ Fld Z h o0 OwnK0 "segmentLimit" "[I" (.ref o4) ∧ Fld Z h o0 OwnK0 "starts" "[I" (.ref o5) ∧ Arv Z h o3 c0 .int (8 : Int32) [(.int 0), (.int 0), (.int 0), (.int 0), (.int 0), (.int 0), (.int 0), (.int 0)] (.int 0) ∧ Arv Z h o4 c1 .int (8 : Int32) [(.int u1), (.int u0), (.int 0), (.int 0), (.int 0), (.int 0), (.int 0), (.int 0)] (.int 0) ∧ Fld Z h o0 OwnK0 "segments" "I" (.int 2) ∧ Fld Z h o0 OwnK0 "cursor" "I" (.int (-1))) := by
  refine own_entry pf_com_example_wirelens_wirelens_wire_GroupEnds_beginRead__I_V (fun m => ef_sp5 m o0 u0) ?_
  intro p e s m below meth c T0 X0 hC e0
  obtain ⟨hx, hby, hml, hown, hnm, hret, hlk, hZ⟩ := hC
  have N0 := Fr.nil n0
  have K0 := Keep.refl h0 [o0, o3, o4]
  refine own_go T0 m 1 #[rv o0, iv u0] [(.ref o0)] (fun t k => XS.aloadN X0.here hx rfl (hb hby d3_0) rfl rfl k) ?_
  obtain ⟨T1, X1, e1, st1⟩ := getF X0 hx hZ hown (host := "") (Or.inl (own_w hw 27 rfl)) Via.refl e0 F_segments_o0 (g := (mkF m 1 #[rv o0, iv u0] [(.ref o0)])) rfl rfl (hb hby d3_1)
  refine own_go T1 m 4 #[rv o0, iv u0] [(.int 1)] (st1) ?_
  refine own_go T1 m 5 #[rv o0, iv u0] [(.ref o0), (.int 1)] (fun t k => XS.aloadN X1.here hx rfl (hb hby d3_4) rfl rfl k) ?_
  obtain ⟨T2, X2, e2, st2⟩ := getF X1 hx hZ hown (host := "") (Or.inl (own_w hw 14 rfl)) Via.refl e1 F_segmentFirst_o0 (g := (mkF m 5 #[rv o0, iv u0] [(.ref o0), (.int 1)])) rfl rfl (hb hby d3_5)
  refine own_go T2 m 8 #[rv o0, iv u0] [(.ref o3), (.int 1)] (st2) ?_
  refine own_go T2 m 9 #[rv o0, iv u0] [(.int 8), (.int 1)] (own_alen X2 hx hZ e2 V_o3 (hb hby d3_8)) ?_
  refine own_go T2 m 63 #[rv o0, iv u0] [] (fun t k => XS.icmpYes X2.here hx rfl (pc0 := 9) (pc' := 63) rfl (hb hby d3_9) rfl (feq (by decide)).2 (by decide) (by decide) k) ?_
  refine own_go T2 m 64 #[rv o0, iv u0] [(.ref o0)] (fun t k => XS.aloadN X2.here hx rfl (hb hby d3_63) rfl rfl k) ?_
  obtain ⟨T4, X4, e4, st4⟩ := getF X2 hx hZ hown (host := "") (Or.inl (own_w hw 14 rfl)) Via.refl e2 F_segmentFirst_o0 (g := (mkF m 64 #[rv o0, iv u0] [(.ref o0)])) rfl rfl (hb hby d3_64)
  refine own_go T4 m 67 #[rv o0, iv u0] [(.ref o3)] (st4) ?_
  refine own_go T4 m 68 #[rv o0, iv u0] [(.ref o0), (.ref o3)] (fun t k => XS.aloadN X4.here hx rfl (hb hby d3_67) rfl rfl k) ?_
  obtain ⟨T5, X5, e5, st5⟩ := getF X4 hx hZ hown (host := "") (Or.inl (own_w hw 27 rfl)) Via.refl e4 F_segments_o0 (g := (mkF m 68 #[rv o0, iv u0] [(.ref o0), (.ref o3)])) rfl rfl (hb hby d3_68)
  refine own_go T5 m 71 #[rv o0, iv u0] [(.int 1), (.ref o3)] (st5) ?_
  refine own_go T5 m 72 #[rv o0, iv u0] [(.ref o0), (.int 1), (.ref o3)] (fun t k => XS.aloadN X5.here hx rfl (hb hby d3_71) rfl rfl k) ?_
  obtain ⟨T6, X6, e6, st6⟩ := getF X5 hx hZ hown (host := "") (Or.inl (own_w hw 29 rfl)) Via.refl e5 F_count_o0 (g := (mkF m 72 #[rv o0, iv u0] [(.ref o0), (.int 1), (.ref o3)])) rfl rfl (hb hby d3_72)
  refine own_go T6 m 75 #[rv o0, iv u0] [(.int 0), (.int 1), (.ref o3)] (st6) ?_
  obtain ⟨T7, h7, X7, e7, W7, V7, st7⟩ := own_iastore X6 hx hZ e6 V_o3 (j := (1 : Int32)) ⟨by decide, by decide⟩ 1 rfl (Nat.le_of_ble_eq_true rfl) (Ls := #[rv o0, iv u0]) (rest := []) (x := (0 : Int32)) (hb hby d3_75)
  replace V7 : Arv Z h7 o3 c0 .int (8 : Int32) [(.int 0), (.int 0), (.int 0), (.int 0), (.int 0), (.int 0), (.int 0), (.int 0)] (.int 0) := V7
  have cf8 := E_o0.wr W7
  have cf9 := F_count_o0.other W7 (Or.inl ne_o0_o3)
  have cf10 := F_cursor_o0.other W7 (Or.inl ne_o0_o3)
  have cf11 := F_ends_o0.other W7 (Or.inl ne_o0_o3)
  have cf12 := F_lastOpened_o0.other W7 (Or.inl ne_o0_o3)
  have cf13 := F_segmentEnd_o0.other W7 (Or.inl ne_o0_o3)
  have cf14 := F_segmentFirst_o0.other W7 (Or.inl ne_o0_o3)
  have cf15 := F_segmentLimit_o0.other W7 (Or.inl ne_o0_o3)
  have cf16 := F_segments_o0.other W7 (Or.inl ne_o0_o3)
  have cf17 := F_starts_o0.other W7 (Or.inl ne_o0_o3)
  have cf18 := V_o4.other W7 (Ne.symm ne_o3_o4)
  have Z_7 : n0 ≤ h7.size := Nat.le_trans Z0 (Keep.of_wr W7).1
  have K_7 : Keep h0 h7 [o0, o3, o4] := K0.wr W7 (own_i 1 rfl)
  have N7 := Fr.snoc X7 N0 g_o3
  refine own_go T7 m 76 #[rv o0, iv u0] [] (st7) ?_
  refine own_go T7 m 77 #[rv o0, iv u0] [(.ref o0)] (fun t k => XS.aloadN X7.here hx rfl (hb hby d3_76) rfl rfl k) ?_
  obtain ⟨T19, X19, e19, st19⟩ := getF X7 hx hZ hown (host := "") (Or.inl (own_w hw 18 rfl)) Via.refl e7 cf15 (g := (mkF m 77 #[rv o0, iv u0] [(.ref o0)])) rfl rfl (hb hby d3_77)
  refine own_go T19 m 80 #[rv o0, iv u0] [(.ref o4)] (st19) ?_
  refine own_go T19 m 81 #[rv o0, iv u0] [(.ref o0), (.ref o4)] (fun t k => XS.aloadN X19.here hx rfl (hb hby d3_80) rfl rfl k) ?_
  obtain ⟨T20, X20, e20, st20⟩ := getF X19 hx hZ hown (host := "") (Or.inl (own_w hw 27 rfl)) Via.refl e19 cf16 (g := (mkF m 81 #[rv o0, iv u0] [(.ref o0), (.ref o4)])) rfl rfl (hb hby d3_81)
  refine own_go T20 m 84 #[rv o0, iv u0] [(.int 1), (.ref o4)] (st20) ?_
  refine own_go T20 m 85 #[rv o0, iv u0] [(.int u0), (.int 1), (.ref o4)] (fun t k => XS.iloadN X20.here hx rfl (hb hby d3_84) rfl k) ?_
  obtain ⟨T21, h21, X21, e21, W21, V21, st21⟩ := own_iastore X20 hx hZ e20 cf18 (j := (1 : Int32)) ⟨by decide, by decide⟩ 1 rfl (Nat.le_of_ble_eq_true rfl) (Ls := #[rv o0, iv u0]) (rest := []) (x := u0) (hb hby d3_85)
  replace V21 : Arv Z h21 o4 c1 .int (8 : Int32) [(.int u1), (.int u0), (.int 0), (.int 0), (.int 0), (.int 0), (.int 0), (.int 0)] (.int 0) := V21
  have cf22 := cf8.wr W21
  have cf23 := cf9.other W21 (Or.inl ne_o0_o4)
  have cf24 := cf10.other W21 (Or.inl ne_o0_o4)
  have cf25 := cf11.other W21 (Or.inl ne_o0_o4)
  have cf26 := cf12.other W21 (Or.inl ne_o0_o4)
  have cf27 := cf13.other W21 (Or.inl ne_o0_o4)
  have cf28 := cf14.other W21 (Or.inl ne_o0_o4)
  have cf29 := cf15.other W21 (Or.inl ne_o0_o4)
  have cf30 := cf16.other W21 (Or.inl ne_o0_o4)
  have cf31 := cf17.other W21 (Or.inl ne_o0_o4)
  have cf32 := V7.other W21 ne_o3_o4
  have Z_21 : n0 ≤ h21.size := Nat.le_trans Z_7 (Keep.of_wr W21).1
  have K_21 : Keep h0 h21 [o0, o3, o4] := K_7.wr W21 (own_i 2 rfl)
  have N21 := Fr.snoc X21 N7 g_o4
  refine own_go T21 m 86 #[rv o0, iv u0] [] (st21) ?_
  refine own_go T21 m 87 #[rv o0, iv u0] [(.ref o0)] (fun t k => XS.aloadN X21.here hx rfl (hb hby d3_86) rfl rfl k) ?_
  refine own_go T21 m 88 #[rv o0, iv u0] [(.ref o0), (.ref o0)] (fun t k => XS.dup X21.here hx rfl (hb hby d3_87) rfl rfl k) ?_
  obtain ⟨T33, X33, e33, st33⟩ := getF X21 hx hZ hown (host := "") (Or.inl (own_w hw 27 rfl)) Via.refl e21 cf30 (g := (mkF m 88 #[rv o0, iv u0] [(.ref o0), (.ref o0)])) rfl rfl (hb hby d3_88)
  refine own_go T33 m 91 #[rv o0, iv u0] [(.int 1), (.ref o0)] (st33) ?_
  refine own_go T33 m 92 #[rv o0, iv u0] [(.int 1), (.int 1), (.ref o0)] (fun t k => XS.iconst X33.here hx rfl (hb hby d3_91) k) ?_
  refine own_go T33 m 93 #[rv o0, iv u0] [(.int ((1 : Int32) + (1 : Int32))), (.ref o0)] (fun t k => XS.iadd X33.here hx rfl (hb hby d3_92) rfl k) ?_
  rw [show ((1 : Int32) + (1 : Int32)) = (2 : Int32) from by decide]
  obtain ⟨T34, h34, X34, e34, W34, st34⟩ := putF X33 hx hZ hown (host := "") (Or.inl (own_w hw 27 rfl)) Via.refl e33 cf30 cf22 (Or.inl (own_w hw 28 rfl)) (own_w hw 1 rfl) (ty := .int) (by decide) rfl rfl (g := (mkF m 93 #[rv o0, iv u0] [(.int 2), (.ref o0)])) rfl rfl (hb hby d3_93)
  have F34 := cf30.same W34
  have cf35 := cf22.wr W34
  have cf36 := cf23.other W34 (Or.inr (slot_ne (Or.inl (own_w hw 30 rfl)) (Or.inl (own_w hw 28 rfl)) (by decide) (t := .int) (t' := .int) (by decide) (by decide)))
  have cf37 := cf24.other W34 (Or.inr (slot_ne (Or.inl (own_w hw 21 rfl)) (Or.inl (own_w hw 28 rfl)) (by decide) (t := .int) (t' := .int) (by decide) (by decide)))
  have cf38 := cf25.other W34 (Or.inr (slot_ne (Or.inl (own_w hw 13 rfl)) (Or.inl (own_w hw 28 rfl)) (by decide) (t := (.array .int)) (t' := .int) (by decide) (by decide)))
  have cf39 := cf26.other W34 (Or.inr (slot_ne (Or.inl (own_w hw 37 rfl)) (Or.inl (own_w hw 28 rfl)) (by decide) (t := .int) (t' := .int) (by decide) (by decide)))
  have cf40 := cf27.other W34 (Or.inr (slot_ne (Or.inl (own_w hw 17 rfl)) (Or.inl (own_w hw 28 rfl)) (by decide) (t := (.array .int)) (t' := .int) (by decide) (by decide)))
  have cf41 := cf28.other W34 (Or.inr (slot_ne (Or.inl (own_w hw 15 rfl)) (Or.inl (own_w hw 28 rfl)) (by decide) (t := (.array .int)) (t' := .int) (by decide) (by decide)))
  have cf42 := cf29.other W34 (Or.inr (slot_ne (Or.inl (own_w hw 19 rfl)) (Or.inl (own_w hw 28 rfl)) (by decide) (t := (.array .int)) (t' := .int) (by decide) (by decide)))
  have cf43 := cf31.other W34 (Or.inr (slot_ne (Or.inl (own_w hw 11 rfl)) (Or.inl (own_w hw 28 rfl)) (by decide) (t := (.array .int)) (t' := .int) (by decide) (by decide)))
  have cf44 := cf32.other W34 (Ne.symm ne_o0_o3)
  have cf45 := V21.other W34 (Ne.symm ne_o0_o4)
  have Z_34 : n0 ≤ h34.size := Nat.le_trans Z_21 (Keep.of_wr W34).1
  have K_34 : Keep h0 h34 [o0, o3, o4] := K_21.wr W34 (own_i 0 rfl)
  have N34 := Fr.snoc X34 N21 g_o0
  refine own_go T34 m 96 #[rv o0, iv u0] [] (st34) ?_
  refine own_go T34 m 97 #[rv o0, iv u0] [(.ref o0)] (fun t k => XS.aloadN X34.here hx rfl (hb hby d3_96) rfl rfl k) ?_
  refine own_go T34 m 98 #[rv o0, iv u0] [(.int (-1)), (.ref o0)] (fun t k => XS.iconst X34.here hx rfl (hb hby d3_97) k) ?_
  obtain ⟨T46, h46, X46, e46, W46, st46⟩ := putF X34 hx hZ hown (host := "") (Or.inl (own_w hw 20 rfl)) Via.refl e34 cf37 cf35 (Or.inl (own_w hw 21 rfl)) (own_w hw 1 rfl) (ty := .int) (by decide) rfl rfl (g := (mkF m 98 #[rv o0, iv u0] [(.int (-1)), (.ref o0)])) rfl rfl (hb hby d3_98)
  have F46 := cf37.same W46
  have cf47 := cf35.wr W46
  have cf48 := cf36.other W46 (Or.inr (slot_ne (Or.inl (own_w hw 30 rfl)) (Or.inl (own_w hw 21 rfl)) (by decide) (t := .int) (t' := .int) (by decide) (by decide)))
  have cf49 := cf38.other W46 (Or.inr (slot_ne (Or.inl (own_w hw 13 rfl)) (Or.inl (own_w hw 21 rfl)) (by decide) (t := (.array .int)) (t' := .int) (by decide) (by decide)))
  have cf50 := cf39.other W46 (Or.inr (slot_ne (Or.inl (own_w hw 37 rfl)) (Or.inl (own_w hw 21 rfl)) (by decide) (t := .int) (t' := .int) (by decide) (by decide)))
  have cf51 := cf40.other W46 (Or.inr (slot_ne (Or.inl (own_w hw 17 rfl)) (Or.inl (own_w hw 21 rfl)) (by decide) (t := (.array .int)) (t' := .int) (by decide) (by decide)))
  have cf52 := cf41.other W46 (Or.inr (slot_ne (Or.inl (own_w hw 15 rfl)) (Or.inl (own_w hw 21 rfl)) (by decide) (t := (.array .int)) (t' := .int) (by decide) (by decide)))
  have cf53 := cf42.other W46 (Or.inr (slot_ne (Or.inl (own_w hw 19 rfl)) (Or.inl (own_w hw 21 rfl)) (by decide) (t := (.array .int)) (t' := .int) (by decide) (by decide)))
  have cf54 := cf43.other W46 (Or.inr (slot_ne (Or.inl (own_w hw 11 rfl)) (Or.inl (own_w hw 21 rfl)) (by decide) (t := (.array .int)) (t' := .int) (by decide) (by decide)))
  have cf55 := cf44.other W46 (Ne.symm ne_o0_o3)
  have cf56 := cf45.other W46 (Ne.symm ne_o0_o4)
  have cf57 := F34.other W46 (Or.inr (slot_ne (Or.inl (own_w hw 28 rfl)) (Or.inl (own_w hw 21 rfl)) (by decide) (t := .int) (t' := .int) (by decide) (by decide)))
  have Z_46 : n0 ≤ h46.size := Nat.le_trans Z_34 (Keep.of_wr W46).1
  have K_46 : Keep h0 h46 [o0, o3, o4] := K_34.wr W46 (own_i 0 rfl)
  have N46 := Fr.snoc X46 N34 g_o0
  refine own_go T46 m 101 #[rv o0, iv u0] [] (st46) ?_
  refine own_retV X46 hx hlk hret (hb hby d3_101) (by decide) (by decide) ?_
  rw [e46]
  exact ⟨rfl, N46, K_46, cf48, cf49, cf50, cf51, cf52, cf53, cf54, cf55, cf56, cf57, F46⟩
theorem ef_sp6 (m : MethodId) (q0 : Addr) (q1 : Int32) : entryFrame m #[(.ref q0), (.int q1)] 3 = mkF m 0 #[rv q0, iv q1, .unset] [] := by first | (simp [entryFrame, mkF, argsToLocals, Value.category]; done) | rfl
set_option maxRecDepth 65536 in
set_option maxHeartbeats 40000000 in
theorem sp6 (l : Launch) (Z : State) (a0 : Array Value) (hw : ∀ d ∈ tables_1, d.before a0 Z = true) (ws : List Jvm.Cond) (o0 o1 o2 o3 o4 o5 : Addr) (u0 : Int32) (c0 : ClassId) (h0 : Heap) (n0 : Nat) (Z0 : n0 ≤ h0.size) (E_o0 : Exa Z h0 o0 OwnK0) (F_count_o0 : Fld Z h0 o0 OwnK0 "count" "I" (.int 0)) (F_cursor_o0 : Fld Z h0 o0 OwnK0 "cursor" "I" (.int (-1))) (F_ends_o0 : Fld Z h0 o0 OwnK0 "ends" "[I" (.ref o1)) (F_lastOpened_o0 : Fld Z h0 o0 OwnK0 "lastOpened" "I" (.int 0)) (F_segmentEnd_o0 : Fld Z h0 o0 OwnK0 "segmentEnd" "[I" (.ref o2)) (F_segmentFirst_o0 : Fld Z h0 o0 OwnK0 "segmentFirst" "[I" (.ref o3)) (F_segmentLimit_o0 : Fld Z h0 o0 OwnK0 "segmentLimit" "[I" (.ref o4)) (F_segments_o0 : Fld Z h0 o0 OwnK0 "segments" "I" (.int 2)) (F_starts_o0 : Fld Z h0 o0 OwnK0 "starts" "[I" (.ref o5)) (V_o3 : Arv Z h0 o3 c0 .int (8 : Int32) [(.int 0), (.int 0), (.int 0), (.int 0), (.int 0), (.int 0), (.int 0), (.int 0)] (.int 0)) (ne_o0_o1 : o0 ≠ o1) (ne_o0_o2 : o0 ≠ o2) (ne_o0_o3 : o0 ≠ o3) (ne_o0_o4 : o0 ≠ o4) (ne_o0_o5 : o0 ≠ o5) (g_o0 : n0 ≤ o0) :
    OwnC l Z (⟨OwnK0, "endRead", "(I)V"⟩ : MethodName) prog_48_method_8_code 3 none ws ({ frames := 0, cells := 0, slots := 0, locals := 0 } : Room) #[(.ref o0), (.int u0)] h0 (fun v h L => v = none ∧ Fr n0 L ∧ Keep h0 h [o0] ∧ Fld Z h o0 OwnK0 "count" "I" (.int 0) ∧ Fld Z h o0 OwnK0 "cursor" "I" (.int (-1)) ∧ Fld Z h o0 OwnK0 "ends" "[I" (.ref o1) ∧ Fld Z h o0 OwnK0 "lastOpened" "I" (.int 0) ∧ Fld Z h o0 OwnK0 "segmentEnd" "[I" (.ref o2) ∧ Fld Z h o0 OwnK0 "segmentFirst" "[I" (.ref o3) ∧ Fld Z h o0 OwnK0 "segmentLimit" "[I" (.ref o4) ∧ Fld Z h o0 OwnK0 "starts" "[I" (.ref o5) ∧ Fld Z h o0 OwnK0 "segments" "I" (.int 1)) := by
  refine own_entry pf_com_example_wirelens_wirelens_wire_GroupEnds_endRead__I_V (fun m => ef_sp6 m o0 u0) ?_
  intro p e s m below meth c T0 X0 hC e0
  obtain ⟨hx, hby, hml, hown, hnm, hret, hlk, hZ⟩ := hC
  have N0 := Fr.nil n0
  have K0 := Keep.refl h0 [o0]
  refine own_go T0 m 1 #[rv o0, iv u0, .unset] [(.ref o0)] (fun t k => XS.aloadN X0.here hx rfl (hb hby d5_0) rfl rfl k) ?_
  obtain ⟨T1, X1, e1, st1⟩ := getF X0 hx hZ hown (host := "") (Or.inl (own_w hw 27 rfl)) Via.refl e0 F_segments_o0 (g := (mkF m 1 #[rv o0, iv u0, .unset] [(.ref o0)])) rfl rfl (hb hby d5_1)
  refine own_go T1 m 4 #[rv o0, iv u0, .unset] [(.int 2)] (st1) ?_
  refine own_go T1 m 5 #[rv o0, iv u0, .unset] [(.int 1), (.int 2)] (fun t k => XS.iconst X1.here hx rfl (hb hby d5_4) k) ?_
  refine own_go T1 m 6 #[rv o0, iv u0, .unset] [(.int ((2 : Int32) - (1 : Int32)))] (fun t k => XS.isub X1.here hx rfl (hb hby d5_5) rfl k) ?_
  rw [show ((2 : Int32) - (1 : Int32)) = (1 : Int32) from by decide]
  refine own_go T1 m 7 #[rv o0, iv u0, iv 1] [] (fun t k => XS.istoreN X1.here hx rfl (hb hby d5_6) rfl rfl k) ?_
  refine own_go T1 m 8 #[rv o0, iv u0, iv 1] [(.ref o0)] (fun t k => XS.aloadN X1.here hx rfl (hb hby d5_7) rfl rfl k) ?_
  obtain ⟨T2, X2, e2, st2⟩ := getF X1 hx hZ hown (host := "") (Or.inl (own_w hw 29 rfl)) Via.refl e1 F_count_o0 (g := (mkF m 8 #[rv o0, iv u0, iv 1] [(.ref o0)])) rfl rfl (hb hby d5_8)
  refine own_go T2 m 11 #[rv o0, iv u0, iv 1] [(.int 0)] (st2) ?_
  refine own_go T2 m 12 #[rv o0, iv u0, iv 1] [(.ref o0), (.int 0)] (fun t k => XS.aloadN X2.here hx rfl (hb hby d5_11) rfl rfl k) ?_
  obtain ⟨T3, X3, e3, st3⟩ := getF X2 hx hZ hown (host := "") (Or.inl (own_w hw 14 rfl)) Via.refl e2 F_segmentFirst_o0 (g := (mkF m 12 #[rv o0, iv u0, iv 1] [(.ref o0), (.int 0)])) rfl rfl (hb hby d5_12)
  refine own_go T3 m 15 #[rv o0, iv u0, iv 1] [(.ref o3), (.int 0)] (st3) ?_
  refine own_go T3 m 16 #[rv o0, iv u0, iv 1] [(.int 1), (.ref o3), (.int 0)] (fun t k => XS.iloadN X3.here hx rfl (hb hby d5_15) rfl k) ?_
  refine own_go T3 m 17 #[rv o0, iv u0, iv 1] [(.int 0), (.int 0)] (own_iaload X3 hx hZ e3 V_o3 (j := (1 : Int32)) ⟨by decide, by decide⟩ rfl (hb hby d5_16)) ?_
  refine own_go T3 m 20 #[rv o0, iv u0, iv 1] [] (fun t k => XS.icmpNo X3.here hx rfl (hb hby d5_17) rfl (teq (by decide)).2 k) ?_
  refine own_go T3 m 21 #[rv o0, iv u0, iv 1] [(.ref o0)] (fun t k => XS.aloadN X3.here hx rfl (hb hby d5_20) rfl rfl k) ?_
  refine own_go T3 m 22 #[rv o0, iv u0, iv 1] [(.ref o0), (.ref o0)] (fun t k => XS.dup X3.here hx rfl (hb hby d5_21) rfl rfl k) ?_
  obtain ⟨T5, X5, e5, st5⟩ := getF X3 hx hZ hown (host := "") (Or.inl (own_w hw 27 rfl)) Via.refl e3 F_segments_o0 (g := (mkF m 22 #[rv o0, iv u0, iv 1] [(.ref o0), (.ref o0)])) rfl rfl (hb hby d5_22)
  refine own_go T5 m 25 #[rv o0, iv u0, iv 1] [(.int 2), (.ref o0)] (st5) ?_
  refine own_go T5 m 26 #[rv o0, iv u0, iv 1] [(.int 1), (.int 2), (.ref o0)] (fun t k => XS.iconst X5.here hx rfl (hb hby d5_25) k) ?_
  refine own_go T5 m 27 #[rv o0, iv u0, iv 1] [(.int ((2 : Int32) - (1 : Int32))), (.ref o0)] (fun t k => XS.isub X5.here hx rfl (hb hby d5_26) rfl k) ?_
  rw [show ((2 : Int32) - (1 : Int32)) = (1 : Int32) from by decide]
  obtain ⟨T6, h6, X6, e6, W6, st6⟩ := putF X5 hx hZ hown (host := "") (Or.inl (own_w hw 27 rfl)) Via.refl e5 F_segments_o0 E_o0 (Or.inl (own_w hw 28 rfl)) (own_w hw 1 rfl) (ty := .int) (by decide) rfl rfl (g := (mkF m 27 #[rv o0, iv u0, iv 1] [(.int 1), (.ref o0)])) rfl rfl (hb hby d5_27)
  have F6 := F_segments_o0.same W6
  have cf7 := E_o0.wr W6
  have cf8 := F_count_o0.other W6 (Or.inr (slot_ne (Or.inl (own_w hw 30 rfl)) (Or.inl (own_w hw 28 rfl)) (by decide) (t := .int) (t' := .int) (by decide) (by decide)))
  have cf9 := F_cursor_o0.other W6 (Or.inr (slot_ne (Or.inl (own_w hw 21 rfl)) (Or.inl (own_w hw 28 rfl)) (by decide) (t := .int) (t' := .int) (by decide) (by decide)))
  have cf10 := F_ends_o0.other W6 (Or.inr (slot_ne (Or.inl (own_w hw 13 rfl)) (Or.inl (own_w hw 28 rfl)) (by decide) (t := (.array .int)) (t' := .int) (by decide) (by decide)))
  have cf11 := F_lastOpened_o0.other W6 (Or.inr (slot_ne (Or.inl (own_w hw 37 rfl)) (Or.inl (own_w hw 28 rfl)) (by decide) (t := .int) (t' := .int) (by decide) (by decide)))
  have cf12 := F_segmentEnd_o0.other W6 (Or.inr (slot_ne (Or.inl (own_w hw 17 rfl)) (Or.inl (own_w hw 28 rfl)) (by decide) (t := (.array .int)) (t' := .int) (by decide) (by decide)))
  have cf13 := F_segmentFirst_o0.other W6 (Or.inr (slot_ne (Or.inl (own_w hw 15 rfl)) (Or.inl (own_w hw 28 rfl)) (by decide) (t := (.array .int)) (t' := .int) (by decide) (by decide)))
  have cf14 := F_segmentLimit_o0.other W6 (Or.inr (slot_ne (Or.inl (own_w hw 19 rfl)) (Or.inl (own_w hw 28 rfl)) (by decide) (t := (.array .int)) (t' := .int) (by decide) (by decide)))
  have cf15 := F_starts_o0.other W6 (Or.inr (slot_ne (Or.inl (own_w hw 11 rfl)) (Or.inl (own_w hw 28 rfl)) (by decide) (t := (.array .int)) (t' := .int) (by decide) (by decide)))
  have cf16 := V_o3.other W6 (Ne.symm ne_o0_o3)
  have Z_6 : n0 ≤ h6.size := Nat.le_trans Z0 (Keep.of_wr W6).1
  have K_6 : Keep h0 h6 [o0] := K0.wr W6 (own_i 0 rfl)
  have N6 := Fr.snoc X6 N0 g_o0
  refine own_go T6 m 30 #[rv o0, iv u0, iv 1] [] (st6) ?_
  refine own_go T6 m 40 #[rv o0, iv u0, iv 1] [] (fun t k => XS.goto X6.here hx rfl (pc0 := 30) (pc' := 40) rfl (hb hby d5_30) (by decide) (by decide) k) ?_
  refine own_retV X6 hx hlk hret (hb hby d5_40) (by decide) (by decide) ?_
  rw [e6]
  exact ⟨rfl, N6, K_6, cf8, cf9, cf10, cf11, cf12, cf13, cf14, cf15, F6⟩
theorem d4_0 : decode prog_48_method_6_code 0 = .ok (.aload_n 0, 1) := by decide +kernel
theorem d4_1 : decode prog_48_method_6_code 1 = .ok (.getfield 36, 3) := by decide +kernel
theorem d4_4 : decode prog_48_method_6_code 4 = .ok (.aload_n 0, 1) := by decide +kernel
theorem d4_5 : decode prog_48_method_6_code 5 = .ok (.getfield 9, 3) := by decide +kernel
theorem d4_8 : decode prog_48_method_6_code 8 = .ok (.arraylength, 1) := by decide +kernel
theorem d4_9 : decode prog_48_method_6_code 9 = .ok (.if_icmp .ne 37, 3) := by decide +kernel
theorem d4_12 : decode prog_48_method_6_code 12 = .ok (.aload_n 0, 1) := by decide +kernel
theorem d4_13 : decode prog_48_method_6_code 13 = .ok (.aload_n 0, 1) := by decide +kernel
theorem d4_14 : decode prog_48_method_6_code 14 = .ok (.getfield 9, 3) := by decide +kernel
theorem d4_17 : decode prog_48_method_6_code 17 = .ok (.iconst 2, 1) := by decide +kernel
theorem d4_18 : decode prog_48_method_6_code 18 = .ok (.aload_n 0, 1) := by decide +kernel
theorem d4_19 : decode prog_48_method_6_code 19 = .ok (.getfield 36, 3) := by decide +kernel
theorem d4_22 : decode prog_48_method_6_code 22 = .ok (.imul, 1) := by decide +kernel
theorem d4_23 : decode prog_48_method_6_code 23 = .ok (.invokestatic 49, 3) := by decide +kernel
theorem d4_26 : decode prog_48_method_6_code 26 = .ok (.putfield 9, 3) := by decide +kernel
theorem d4_29 : decode prog_48_method_6_code 29 = .ok (.aload_n 0, 1) := by decide +kernel
theorem d4_30 : decode prog_48_method_6_code 30 = .ok (.aload_n 0, 1) := by decide +kernel
theorem d4_31 : decode prog_48_method_6_code 31 = .ok (.getfield 13, 3) := by decide +kernel
theorem d4_34 : decode prog_48_method_6_code 34 = .ok (.iconst 2, 1) := by decide +kernel
theorem d4_35 : decode prog_48_method_6_code 35 = .ok (.aload_n 0, 1) := by decide +kernel
theorem d4_36 : decode prog_48_method_6_code 36 = .ok (.getfield 36, 3) := by decide +kernel
theorem d4_39 : decode prog_48_method_6_code 39 = .ok (.imul, 1) := by decide +kernel
theorem d4_40 : decode prog_48_method_6_code 40 = .ok (.invokestatic 49, 3) := by decide +kernel
theorem d4_43 : decode prog_48_method_6_code 43 = .ok (.putfield 13, 3) := by decide +kernel
theorem d4_46 : decode prog_48_method_6_code 46 = .ok (.aload_n 0, 1) := by decide +kernel
theorem d4_47 : decode prog_48_method_6_code 47 = .ok (.getfield 9, 3) := by decide +kernel
theorem d4_50 : decode prog_48_method_6_code 50 = .ok (.aload_n 0, 1) := by decide +kernel
theorem d4_51 : decode prog_48_method_6_code 51 = .ok (.getfield 36, 3) := by decide +kernel
theorem d4_54 : decode prog_48_method_6_code 54 = .ok (.iload_n 1, 1) := by decide +kernel
theorem d4_55 : decode prog_48_method_6_code 55 = .ok (.iastore, 1) := by decide +kernel
theorem d4_56 : decode prog_48_method_6_code 56 = .ok (.aload_n 0, 1) := by decide +kernel
theorem d4_57 : decode prog_48_method_6_code 57 = .ok (.getfield 13, 3) := by decide +kernel
theorem d4_60 : decode prog_48_method_6_code 60 = .ok (.aload_n 0, 1) := by decide +kernel
theorem d4_61 : decode prog_48_method_6_code 61 = .ok (.getfield 36, 3) := by decide +kernel
theorem d4_64 : decode prog_48_method_6_code 64 = .ok (.bipush (-2), 2) := by decide +kernel
theorem d4_66 : decode prog_48_method_6_code 66 = .ok (.iastore, 1) := by decide +kernel
theorem d4_67 : decode prog_48_method_6_code 67 = .ok (.aload_n 0, 1) := by decide +kernel
theorem d4_68 : decode prog_48_method_6_code 68 = .ok (.aload_n 0, 1) := by decide +kernel
theorem d4_69 : decode prog_48_method_6_code 69 = .ok (.getfield 36, 3) := by decide +kernel
theorem d4_72 : decode prog_48_method_6_code 72 = .ok (.putfield 53, 3) := by decide +kernel
theorem d4_75 : decode prog_48_method_6_code 75 = .ok (.aload_n 0, 1) := by decide +kernel
theorem d4_76 : decode prog_48_method_6_code 76 = .ok (.dup, 1) := by decide +kernel
theorem d4_77 : decode prog_48_method_6_code 77 = .ok (.getfield 36, 3) := by decide +kernel
theorem d4_80 : decode prog_48_method_6_code 80 = .ok (.iconst 1, 1) := by decide +kernel
theorem d4_81 : decode prog_48_method_6_code 81 = .ok (.iadd, 1) := by decide +kernel
theorem d4_82 : decode prog_48_method_6_code 82 = .ok (.putfield 36, 3) := by decide +kernel
theorem d4_85 : decode prog_48_method_6_code 85 = .ok (.aload_n 0, 1) := by decide +kernel
theorem d4_86 : decode prog_48_method_6_code 86 = .ok (.getfield 53, 3) := by decide +kernel
theorem d4_89 : decode prog_48_method_6_code 89 = .ok (.ireturn, 1) := by decide +kernel
theorem pf_com_example_wirelens_wirelens_wire_GroupEnds_opened__I_I : plainFor (⟨OwnK0, "opened", "(I)I"⟩ : MethodName) = true := by first | exact plainFor_of_name (by first | (simp [plainName, overriddenIn]; done) | decide +kernel) | exact Jvm.Free.JP.mathPlain rfl (by decide +kernel) | decide +kernel
theorem ef_sp7 (m : MethodId) (q0 : Addr) (q1 : Int32) : entryFrame m #[(.ref q0), (.int q1)] 2 = mkF m 0 #[rv q0, iv q1] [] := by first | (simp [entryFrame, mkF, argsToLocals, Value.category]; done) | rfl
set_option maxRecDepth 65536 in
set_option maxHeartbeats 40000000 in
theorem sp7 (l : Launch) (Z : State) (a0 : Array Value) (hw : ∀ d ∈ tables_1, d.before a0 Z = true) (ws : List Jvm.Cond) (o0 o1 o2 o3 o4 o5 : Addr) (u0 : Int32) (c0 : ClassId) (c1 : ClassId) (h0 : Heap) (n0 : Nat) (Z0 : n0 ≤ h0.size) (E_o0 : Exa Z h0 o0 OwnK0) (F_count_o0 : Fld Z h0 o0 OwnK0 "count" "I" (.int 0)) (F_cursor_o0 : Fld Z h0 o0 OwnK0 "cursor" "I" (.int (-1))) (F_ends_o0 : Fld Z h0 o0 OwnK0 "ends" "[I" (.ref o1)) (F_lastOpened_o0 : Fld Z h0 o0 OwnK0 "lastOpened" "I" (.int 0)) (F_segmentEnd_o0 : Fld Z h0 o0 OwnK0 "segmentEnd" "[I" (.ref o2)) (F_segmentFirst_o0 : Fld Z h0 o0 OwnK0 "segmentFirst" "[I" (.ref o3)) (F_segmentLimit_o0 : Fld Z h0 o0 OwnK0 "segmentLimit" "[I" (.ref o4)) (F_segments_o0 : Fld Z h0 o0 OwnK0 "segments" "I" (.int 1)) (F_starts_o0 : Fld Z h0 o0 OwnK0 "starts" "[I" (.ref o5)) (V_o1 : Arv Z h0 o1 c0 .int (8 : Int32) [(.int 0), (.int 0), (.int 0), (.int 0), (.int 0), (.int 0), (.int 0), (.int 0)] (.int 0)) (V_o5 : Arv Z h0 o5 c1 .int (8 : Int32) [(.int 0), (.int 0), (.int 0), (.int 0), (.int 0), (.int 0), (.int 0), (.int 0)] (.int 0)) (ne_o0_o1 : o0 ≠ o1) (ne_o0_o2 : o0 ≠ o2) (ne_o0_o3 : o0 ≠ o3) (ne_o0_o4 : o0 ≠ o4) (ne_o0_o5 : o0 ≠ o5) (ne_o1_o2 : o1 ≠ o2) (ne_o1_o3 : o1 ≠ o3) (ne_o1_o4 : o1 ≠ o4) (ne_o1_o5 : o1 ≠ o5) (ne_o2_o5 : o2 ≠ o5) (ne_o3_o5 : o3 ≠ o5) (ne_o4_o5 : o4 ≠ o5) (g_o0 : n0 ≤ o0) (g_o1 : n0 ≤ o1) (g_o5 : n0 ≤ o5) :
    OwnC l Z (⟨OwnK0, "opened", "(I)I"⟩ : MethodName) prog_48_method_6_code 2 (some .int) ws ({ frames := 0, cells := 0, slots := 0, locals := 0 } : Room) #[(.ref o0), (.int u0)] h0 (fun v h L => v = some (.int 0) ∧ Fr n0 L ∧ Keep h0 h [o0, o1, o5] ∧ Fld Z h o0 OwnK0 "cursor" "I" (.int (-1)) ∧ Fld Z h o0 OwnK0 "ends" "[I" (.ref o1) ∧ Fld Z h o0 OwnK0 "segmentEnd" "[I" (.ref o2) ∧ Fld Z h o0 OwnK0 "segmentFirst" "[I" (.ref o3) ∧ Fld Z h o0 OwnK0 "segmentLimit" "[I" (.ref o4) ∧ Fld Z h o0 OwnK0 "segments" "I" (.int 1) ∧ Fld Z h o0 OwnK0 "starts" "[I" (.ref o5) ∧ Arv Z h o5 c1 .int (8 : Int32) [(.int u0), (.int 0), (.int 0), (.int 0), (.int 0), (.int 0), (.int 0), (.int 0)] (.int 0) ∧ Arv Z h o1 c0 .int (8 : Int32) [(.int (-2)), (.int 0), (.int 0), (.int 0), (.int 0), (.int 0), (.int 0), (.int 0)] (.int 0) ∧ Fld Z h o0 OwnK0 "lastOpened" "I" (.int 0) ∧ Fld Z h o0 OwnK0 "count" "I" (.int 1)) := by
  refine own_entry pf_com_example_wirelens_wirelens_wire_GroupEnds_opened__I_I (fun m => ef_sp7 m o0 u0) ?_
  intro p e s m below meth c T0 X0 hC e0
  obtain ⟨hx, hby, hml, hown, hnm, hret, hlk, hZ⟩ := hC
  have N0 := Fr.nil n0
  have K0 := Keep.refl h0 [o0, o1, o5]
  refine own_go T0 m 1 #[rv o0, iv u0] [(.ref o0)] (fun t k => XS.aloadN X0.here hx rfl (hb hby d4_0) rfl rfl k) ?_
  obtain ⟨T1, X1, e1, st1⟩ := getF X0 hx hZ hown (host := "") (Or.inl (own_w hw 29 rfl)) Via.refl e0 F_count_o0 (g := (mkF m 1 #[rv o0, iv u0] [(.ref o0)])) rfl rfl (hb hby d4_1)
  refine own_go T1 m 4 #[rv o0, iv u0] [(.int 0)] (st1) ?_
  refine own_go T1 m 5 #[rv o0, iv u0] [(.ref o0), (.int 0)] (fun t k => XS.aloadN X1.here hx rfl (hb hby d4_4) rfl rfl k) ?_
  obtain ⟨T2, X2, e2, st2⟩ := getF X1 hx hZ hown (host := "") (Or.inl (own_w hw 10 rfl)) Via.refl e1 F_starts_o0 (g := (mkF m 5 #[rv o0, iv u0] [(.ref o0), (.int 0)])) rfl rfl (hb hby d4_5)
  refine own_go T2 m 8 #[rv o0, iv u0] [(.ref o5), (.int 0)] (st2) ?_
  refine own_go T2 m 9 #[rv o0, iv u0] [(.int 8), (.int 0)] (own_alen X2 hx hZ e2 V_o5 (hb hby d4_8)) ?_
  refine own_go T2 m 46 #[rv o0, iv u0] [] (fun t k => XS.icmpYes X2.here hx rfl (pc0 := 9) (pc' := 46) rfl (hb hby d4_9) rfl (feq (by decide)).2 (by decide) (by decide) k) ?_
  refine own_go T2 m 47 #[rv o0, iv u0] [(.ref o0)] (fun t k => XS.aloadN X2.here hx rfl (hb hby d4_46) rfl rfl k) ?_
  obtain ⟨T4, X4, e4, st4⟩ := getF X2 hx hZ hown (host := "") (Or.inl (own_w hw 10 rfl)) Via.refl e2 F_starts_o0 (g := (mkF m 47 #[rv o0, iv u0] [(.ref o0)])) rfl rfl (hb hby d4_47)
  refine own_go T4 m 50 #[rv o0, iv u0] [(.ref o5)] (st4) ?_
  refine own_go T4 m 51 #[rv o0, iv u0] [(.ref o0), (.ref o5)] (fun t k => XS.aloadN X4.here hx rfl (hb hby d4_50) rfl rfl k) ?_
  obtain ⟨T5, X5, e5, st5⟩ := getF X4 hx hZ hown (host := "") (Or.inl (own_w hw 29 rfl)) Via.refl e4 F_count_o0 (g := (mkF m 51 #[rv o0, iv u0] [(.ref o0), (.ref o5)])) rfl rfl (hb hby d4_51)
  refine own_go T5 m 54 #[rv o0, iv u0] [(.int 0), (.ref o5)] (st5) ?_
  refine own_go T5 m 55 #[rv o0, iv u0] [(.int u0), (.int 0), (.ref o5)] (fun t k => XS.iloadN X5.here hx rfl (hb hby d4_54) rfl k) ?_
  obtain ⟨T6, h6, X6, e6, W6, V6, st6⟩ := own_iastore X5 hx hZ e5 V_o5 (j := (0 : Int32)) ⟨by decide, by decide⟩ 0 rfl (Nat.le_of_ble_eq_true rfl) (Ls := #[rv o0, iv u0]) (rest := []) (x := u0) (hb hby d4_55)
  replace V6 : Arv Z h6 o5 c1 .int (8 : Int32) [(.int u0), (.int 0), (.int 0), (.int 0), (.int 0), (.int 0), (.int 0), (.int 0)] (.int 0) := V6
  have cf7 := E_o0.wr W6
  have cf8 := F_count_o0.other W6 (Or.inl ne_o0_o5)
  have cf9 := F_cursor_o0.other W6 (Or.inl ne_o0_o5)
  have cf10 := F_ends_o0.other W6 (Or.inl ne_o0_o5)
  have cf11 := F_lastOpened_o0.other W6 (Or.inl ne_o0_o5)
  have cf12 := F_segmentEnd_o0.other W6 (Or.inl ne_o0_o5)
  have cf13 := F_segmentFirst_o0.other W6 (Or.inl ne_o0_o5)
  have cf14 := F_segmentLimit_o0.other W6 (Or.inl ne_o0_o5)
  have cf15 := F_segments_o0.other W6 (Or.inl ne_o0_o5)
  have cf16 := F_starts_o0.other W6 (Or.inl ne_o0_o5)
  have cf17 := V_o1.other W6 ne_o1_o5
  have Z_6 : n0 ≤ h6.size := Nat.le_trans Z0 (Keep.of_wr W6).1
  have K_6 : Keep h0 h6 [o0, o1, o5] := K0.wr W6 (own_i 2 rfl)
  have N6 := Fr.snoc X6 N0 g_o5
  refine own_go T6 m 56 #[rv o0, iv u0] [] (st6) ?_
  refine own_go T6 m 57 #[rv o0, iv u0] [(.ref o0)] (fun t k => XS.aloadN X6.here hx rfl (hb hby d4_56) rfl rfl k) ?_
  obtain ⟨T18, X18, e18, st18⟩ := getF X6 hx hZ hown (host := "") (Or.inl (own_w hw 12 rfl)) Via.refl e6 cf10 (g := (mkF m 57 #[rv o0, iv u0] [(.ref o0)])) rfl rfl (hb hby d4_57)
  refine own_go T18 m 60 #[rv o0, iv u0] [(.ref o1)] (st18) ?_
  refine own_go T18 m 61 #[rv o0, iv u0] [(.ref o0), (.ref o1)] (fun t k => XS.aloadN X18.here hx rfl (hb hby d4_60) rfl rfl k) ?_
  obtain ⟨T19, X19, e19, st19⟩ := getF X18 hx hZ hown (host := "") (Or.inl (own_w hw 29 rfl)) Via.refl e18 cf8 (g := (mkF m 61 #[rv o0, iv u0] [(.ref o0), (.ref o1)])) rfl rfl (hb hby d4_61)
  refine own_go T19 m 64 #[rv o0, iv u0] [(.int 0), (.ref o1)] (st19) ?_
  refine own_go T19 m 66 #[rv o0, iv u0] [(.int (-2)), (.int 0), (.ref o1)] (fun t k => XS.bipush X19.here hx rfl (hb hby d4_64) k) ?_
  obtain ⟨T20, h20, X20, e20, W20, V20, st20⟩ := own_iastore X19 hx hZ e19 cf17 (j := (0 : Int32)) ⟨by decide, by decide⟩ 0 rfl (Nat.le_of_ble_eq_true rfl) (Ls := #[rv o0, iv u0]) (rest := []) (x := (-2 : Int32)) (hb hby d4_66)
  replace V20 : Arv Z h20 o1 c0 .int (8 : Int32) [(.int (-2)), (.int 0), (.int 0), (.int 0), (.int 0), (.int 0), (.int 0), (.int 0)] (.int 0) := V20
  have cf21 := cf7.wr W20
  have cf22 := cf8.other W20 (Or.inl ne_o0_o1)
  have cf23 := cf9.other W20 (Or.inl ne_o0_o1)
  have cf24 := cf10.other W20 (Or.inl ne_o0_o1)
  have cf25 := cf11.other W20 (Or.inl ne_o0_o1)
  have cf26 := cf12.other W20 (Or.inl ne_o0_o1)
  have cf27 := cf13.other W20 (Or.inl ne_o0_o1)
  have cf28 := cf14.other W20 (Or.inl ne_o0_o1)
  have cf29 := cf15.other W20 (Or.inl ne_o0_o1)
  have cf30 := cf16.other W20 (Or.inl ne_o0_o1)
  have cf31 := V6.other W20 (Ne.symm ne_o1_o5)
  have Z_20 : n0 ≤ h20.size := Nat.le_trans Z_6 (Keep.of_wr W20).1
  have K_20 : Keep h0 h20 [o0, o1, o5] := K_6.wr W20 (own_i 1 rfl)
  have N20 := Fr.snoc X20 N6 g_o1
  refine own_go T20 m 67 #[rv o0, iv u0] [] (st20) ?_
  refine own_go T20 m 68 #[rv o0, iv u0] [(.ref o0)] (fun t k => XS.aloadN X20.here hx rfl (hb hby d4_67) rfl rfl k) ?_
  refine own_go T20 m 69 #[rv o0, iv u0] [(.ref o0), (.ref o0)] (fun t k => XS.aloadN X20.here hx rfl (hb hby d4_68) rfl rfl k) ?_
  obtain ⟨T32, X32, e32, st32⟩ := getF X20 hx hZ hown (host := "") (Or.inl (own_w hw 29 rfl)) Via.refl e20 cf22 (g := (mkF m 69 #[rv o0, iv u0] [(.ref o0), (.ref o0)])) rfl rfl (hb hby d4_69)
  refine own_go T32 m 72 #[rv o0, iv u0] [(.int 0), (.ref o0)] (st32) ?_
  obtain ⟨T33, h33, X33, e33, W33, st33⟩ := putF X32 hx hZ hown (host := "") (Or.inl (own_w hw 36 rfl)) Via.refl e32 cf25 cf21 (Or.inl (own_w hw 37 rfl)) (own_w hw 1 rfl) (ty := .int) (by decide) rfl rfl (g := (mkF m 72 #[rv o0, iv u0] [(.int 0), (.ref o0)])) rfl rfl (hb hby d4_72)
  have F33 := cf25.same W33
  have cf34 := cf21.wr W33
  have cf35 := cf22.other W33 (Or.inr (slot_ne (Or.inl (own_w hw 30 rfl)) (Or.inl (own_w hw 37 rfl)) (by decide) (t := .int) (t' := .int) (by decide) (by decide)))
  have cf36 := cf23.other W33 (Or.inr (slot_ne (Or.inl (own_w hw 21 rfl)) (Or.inl (own_w hw 37 rfl)) (by decide) (t := .int) (t' := .int) (by decide) (by decide)))
  have cf37 := cf24.other W33 (Or.inr (slot_ne (Or.inl (own_w hw 13 rfl)) (Or.inl (own_w hw 37 rfl)) (by decide) (t := (.array .int)) (t' := .int) (by decide) (by decide)))
  have cf38 := cf26.other W33 (Or.inr (slot_ne (Or.inl (own_w hw 17 rfl)) (Or.inl (own_w hw 37 rfl)) (by decide) (t := (.array .int)) (t' := .int) (by decide) (by decide)))
  have cf39 := cf27.other W33 (Or.inr (slot_ne (Or.inl (own_w hw 15 rfl)) (Or.inl (own_w hw 37 rfl)) (by decide) (t := (.array .int)) (t' := .int) (by decide) (by decide)))
  have cf40 := cf28.other W33 (Or.inr (slot_ne (Or.inl (own_w hw 19 rfl)) (Or.inl (own_w hw 37 rfl)) (by decide) (t := (.array .int)) (t' := .int) (by decide) (by decide)))
  have cf41 := cf29.other W33 (Or.inr (slot_ne (Or.inl (own_w hw 28 rfl)) (Or.inl (own_w hw 37 rfl)) (by decide) (t := .int) (t' := .int) (by decide) (by decide)))
  have cf42 := cf30.other W33 (Or.inr (slot_ne (Or.inl (own_w hw 11 rfl)) (Or.inl (own_w hw 37 rfl)) (by decide) (t := (.array .int)) (t' := .int) (by decide) (by decide)))
  have cf43 := cf31.other W33 (Ne.symm ne_o0_o5)
  have cf44 := V20.other W33 (Ne.symm ne_o0_o1)
  have Z_33 : n0 ≤ h33.size := Nat.le_trans Z_20 (Keep.of_wr W33).1
  have K_33 : Keep h0 h33 [o0, o1, o5] := K_20.wr W33 (own_i 0 rfl)
  have N33 := Fr.snoc X33 N20 g_o0
  refine own_go T33 m 75 #[rv o0, iv u0] [] (st33) ?_
  refine own_go T33 m 76 #[rv o0, iv u0] [(.ref o0)] (fun t k => XS.aloadN X33.here hx rfl (hb hby d4_75) rfl rfl k) ?_
  refine own_go T33 m 77 #[rv o0, iv u0] [(.ref o0), (.ref o0)] (fun t k => XS.dup X33.here hx rfl (hb hby d4_76) rfl rfl k) ?_
  obtain ⟨T45, X45, e45, st45⟩ := getF X33 hx hZ hown (host := "") (Or.inl (own_w hw 29 rfl)) Via.refl e33 cf35 (g := (mkF m 77 #[rv o0, iv u0] [(.ref o0), (.ref o0)])) rfl rfl (hb hby d4_77)
  refine own_go T45 m 80 #[rv o0, iv u0] [(.int 0), (.ref o0)] (st45) ?_
  refine own_go T45 m 81 #[rv o0, iv u0] [(.int 1), (.int 0), (.ref o0)] (fun t k => XS.iconst X45.here hx rfl (hb hby d4_80) k) ?_
  refine own_go T45 m 82 #[rv o0, iv u0] [(.int ((0 : Int32) + (1 : Int32))), (.ref o0)] (fun t k => XS.iadd X45.here hx rfl (hb hby d4_81) rfl k) ?_
  rw [show ((0 : Int32) + (1 : Int32)) = (1 : Int32) from by decide]
  obtain ⟨T46, h46, X46, e46, W46, st46⟩ := putF X45 hx hZ hown (host := "") (Or.inl (own_w hw 29 rfl)) Via.refl e45 cf35 cf34 (Or.inl (own_w hw 30 rfl)) (own_w hw 1 rfl) (ty := .int) (by decide) rfl rfl (g := (mkF m 82 #[rv o0, iv u0] [(.int 1), (.ref o0)])) rfl rfl (hb hby d4_82)
  have F46 := cf35.same W46
  have cf47 := cf34.wr W46
  have cf48 := cf36.other W46 (Or.inr (slot_ne (Or.inl (own_w hw 21 rfl)) (Or.inl (own_w hw 30 rfl)) (by decide) (t := .int) (t' := .int) (by decide) (by decide)))
  have cf49 := cf37.other W46 (Or.inr (slot_ne (Or.inl (own_w hw 13 rfl)) (Or.inl (own_w hw 30 rfl)) (by decide) (t := (.array .int)) (t' := .int) (by decide) (by decide)))
  have cf50 := cf38.other W46 (Or.inr (slot_ne (Or.inl (own_w hw 17 rfl)) (Or.inl (own_w hw 30 rfl)) (by decide) (t := (.array .int)) (t' := .int) (by decide) (by decide)))
  have cf51 := cf39.other W46 (Or.inr (slot_ne (Or.inl (own_w hw 15 rfl)) (Or.inl (own_w hw 30 rfl)) (by decide) (t := (.array .int)) (t' := .int) (by decide) (by decide)))
  have cf52 := cf40.other W46 (Or.inr (slot_ne (Or.inl (own_w hw 19 rfl)) (Or.inl (own_w hw 30 rfl)) (by decide) (t := (.array .int)) (t' := .int) (by decide) (by decide)))
  have cf53 := cf41.other W46 (Or.inr (slot_ne (Or.inl (own_w hw 28 rfl)) (Or.inl (own_w hw 30 rfl)) (by decide) (t := .int) (t' := .int) (by decide) (by decide)))
  have cf54 := cf42.other W46 (Or.inr (slot_ne (Or.inl (own_w hw 11 rfl)) (Or.inl (own_w hw 30 rfl)) (by decide) (t := (.array .int)) (t' := .int) (by decide) (by decide)))
  have cf55 := cf43.other W46 (Ne.symm ne_o0_o5)
  have cf56 := cf44.other W46 (Ne.symm ne_o0_o1)
  have cf57 := F33.other W46 (Or.inr (slot_ne (Or.inl (own_w hw 37 rfl)) (Or.inl (own_w hw 30 rfl)) (by decide) (t := .int) (t' := .int) (by decide) (by decide)))
  have Z_46 : n0 ≤ h46.size := Nat.le_trans Z_33 (Keep.of_wr W46).1
  have K_46 : Keep h0 h46 [o0, o1, o5] := K_33.wr W46 (own_i 0 rfl)
  have N46 := Fr.snoc X46 N33 g_o0
  refine own_go T46 m 85 #[rv o0, iv u0] [] (st46) ?_
  refine own_go T46 m 86 #[rv o0, iv u0] [(.ref o0)] (fun t k => XS.aloadN X46.here hx rfl (hb hby d4_85) rfl rfl k) ?_
  obtain ⟨T58, X58, e58, st58⟩ := getF X46 hx hZ hown (host := "") (Or.inl (own_w hw 36 rfl)) Via.refl e46 cf57 (g := (mkF m 86 #[rv o0, iv u0] [(.ref o0)])) rfl rfl (hb hby d4_86)
  refine own_go T58 m 89 #[rv o0, iv u0] [(.int 0)] (st58) ?_
  refine own_retI X58 hx hlk hret (hb hby d4_89) (by decide) (by decide) ?_
  rw [e58]
  exact ⟨rfl, N46, K_46, cf48, cf49, cf50, cf51, cf52, cf53, cf54, cf55, cf56, cf57, F46⟩
theorem ef_sp8 (m : MethodId) (q0 : Addr) (q1 : Int32) : entryFrame m #[(.ref q0), (.int q1)] 3 = mkF m 0 #[rv q0, iv q1, .unset] [] := by first | (simp [entryFrame, mkF, argsToLocals, Value.category]; done) | rfl
set_option maxRecDepth 65536 in
set_option maxHeartbeats 40000000 in
theorem sp8 (l : Launch) (Z : State) (a0 : Array Value) (hw : ∀ d ∈ tables_1, d.before a0 Z = true) (ws : List Jvm.Cond) (o0 o1 o2 : Addr) (u0 : Int32) (c0 : ClassId) (c1 : ClassId) (h0 : Heap) (n0 : Nat) (Z0 : n0 ≤ h0.size) (F_count_o0 : Fld Z h0 o0 OwnK0 "count" "I" (.int 1)) (F_segmentEnd_o0 : Fld Z h0 o0 OwnK0 "segmentEnd" "[I" (.ref o1)) (F_segmentFirst_o0 : Fld Z h0 o0 OwnK0 "segmentFirst" "[I" (.ref o2)) (F_segments_o0 : Fld Z h0 o0 OwnK0 "segments" "I" (.int 1)) (V_o1 : Arv Z h0 o1 c0 .int (8 : Int32) [(.int 0), (.int 0), (.int 0), (.int 0), (.int 0), (.int 0), (.int 0), (.int 0)] (.int 0)) (V_o2 : Arv Z h0 o2 c1 .int (8 : Int32) [(.int 0), (.int 0), (.int 0), (.int 0), (.int 0), (.int 0), (.int 0), (.int 0)] (.int 0)) (ne_o0_o1 : o0 ≠ o1) (ne_o1_o2 : o1 ≠ o2) (g_o1 : n0 ≤ o1) :
    OwnC l Z (⟨OwnK0, "endRead", "(I)V"⟩ : MethodName) prog_48_method_8_code 3 none ws ({ frames := 0, cells := 0, slots := 0, locals := 0 } : Room) #[(.ref o0), (.int u0)] h0 (fun v h L => v = none ∧ Fr n0 L ∧ Keep h0 h [o1] ∧ Arv Z h o1 c0 .int (8 : Int32) [(.int u0), (.int 0), (.int 0), (.int 0), (.int 0), (.int 0), (.int 0), (.int 0)] (.int 0)) := by
  refine own_entry pf_com_example_wirelens_wirelens_wire_GroupEnds_endRead__I_V (fun m => ef_sp8 m o0 u0) ?_
  intro p e s m below meth c T0 X0 hC e0
  obtain ⟨hx, hby, hml, hown, hnm, hret, hlk, hZ⟩ := hC
  have N0 := Fr.nil n0
  have K0 := Keep.refl h0 [o1]
  refine own_go T0 m 1 #[rv o0, iv u0, .unset] [(.ref o0)] (fun t k => XS.aloadN X0.here hx rfl (hb hby d5_0) rfl rfl k) ?_
  obtain ⟨T1, X1, e1, st1⟩ := getF X0 hx hZ hown (host := "") (Or.inl (own_w hw 27 rfl)) Via.refl e0 F_segments_o0 (g := (mkF m 1 #[rv o0, iv u0, .unset] [(.ref o0)])) rfl rfl (hb hby d5_1)
  refine own_go T1 m 4 #[rv o0, iv u0, .unset] [(.int 1)] (st1) ?_
  refine own_go T1 m 5 #[rv o0, iv u0, .unset] [(.int 1), (.int 1)] (fun t k => XS.iconst X1.here hx rfl (hb hby d5_4) k) ?_
  refine own_go T1 m 6 #[rv o0, iv u0, .unset] [(.int ((1 : Int32) - (1 : Int32)))] (fun t k => XS.isub X1.here hx rfl (hb hby d5_5) rfl k) ?_
  rw [show ((1 : Int32) - (1 : Int32)) = (0 : Int32) from by decide]
  refine own_go T1 m 7 #[rv o0, iv u0, iv 0] [] (fun t k => XS.istoreN X1.here hx rfl (hb hby d5_6) rfl rfl k) ?_
  refine own_go T1 m 8 #[rv o0, iv u0, iv 0] [(.ref o0)] (fun t k => XS.aloadN X1.here hx rfl (hb hby d5_7) rfl rfl k) ?_
  obtain ⟨T2, X2, e2, st2⟩ := getF X1 hx hZ hown (host := "") (Or.inl (own_w hw 29 rfl)) Via.refl e1 F_count_o0 (g := (mkF m 8 #[rv o0, iv u0, iv 0] [(.ref o0)])) rfl rfl (hb hby d5_8)
  refine own_go T2 m 11 #[rv o0, iv u0, iv 0] [(.int 1)] (st2) ?_
  refine own_go T2 m 12 #[rv o0, iv u0, iv 0] [(.ref o0), (.int 1)] (fun t k => XS.aloadN X2.here hx rfl (hb hby d5_11) rfl rfl k) ?_
  obtain ⟨T3, X3, e3, st3⟩ := getF X2 hx hZ hown (host := "") (Or.inl (own_w hw 14 rfl)) Via.refl e2 F_segmentFirst_o0 (g := (mkF m 12 #[rv o0, iv u0, iv 0] [(.ref o0), (.int 1)])) rfl rfl (hb hby d5_12)
  refine own_go T3 m 15 #[rv o0, iv u0, iv 0] [(.ref o2), (.int 1)] (st3) ?_
  refine own_go T3 m 16 #[rv o0, iv u0, iv 0] [(.int 0), (.ref o2), (.int 1)] (fun t k => XS.iloadN X3.here hx rfl (hb hby d5_15) rfl k) ?_
  refine own_go T3 m 17 #[rv o0, iv u0, iv 0] [(.int 0), (.int 1)] (own_iaload X3 hx hZ e3 V_o2 (j := (0 : Int32)) ⟨by decide, by decide⟩ rfl (hb hby d5_16)) ?_
  refine own_go T3 m 33 #[rv o0, iv u0, iv 0] [] (fun t k => XS.icmpYes X3.here hx rfl (pc0 := 17) (pc' := 33) rfl (hb hby d5_17) rfl (feq (by decide)).2 (by decide) (by decide) k) ?_
  refine own_go T3 m 34 #[rv o0, iv u0, iv 0] [(.ref o0)] (fun t k => XS.aloadN X3.here hx rfl (hb hby d5_33) rfl rfl k) ?_
  obtain ⟨T5, X5, e5, st5⟩ := getF X3 hx hZ hown (host := "") (Or.inl (own_w hw 16 rfl)) Via.refl e3 F_segmentEnd_o0 (g := (mkF m 34 #[rv o0, iv u0, iv 0] [(.ref o0)])) rfl rfl (hb hby d5_34)
  refine own_go T5 m 37 #[rv o0, iv u0, iv 0] [(.ref o1)] (st5) ?_
  refine own_go T5 m 38 #[rv o0, iv u0, iv 0] [(.int 0), (.ref o1)] (fun t k => XS.iloadN X5.here hx rfl (hb hby d5_37) rfl k) ?_
  refine own_go T5 m 39 #[rv o0, iv u0, iv 0] [(.int u0), (.int 0), (.ref o1)] (fun t k => XS.iloadN X5.here hx rfl (hb hby d5_38) rfl k) ?_
  obtain ⟨T6, h6, X6, e6, W6, V6, st6⟩ := own_iastore X5 hx hZ e5 V_o1 (j := (0 : Int32)) ⟨by decide, by decide⟩ 0 rfl (Nat.le_of_ble_eq_true rfl) (Ls := #[rv o0, iv u0, iv 0]) (rest := []) (x := u0) (hb hby d5_39)
  replace V6 : Arv Z h6 o1 c0 .int (8 : Int32) [(.int u0), (.int 0), (.int 0), (.int 0), (.int 0), (.int 0), (.int 0), (.int 0)] (.int 0) := V6
  have cf7 := F_count_o0.other W6 (Or.inl ne_o0_o1)
  have cf8 := F_segmentEnd_o0.other W6 (Or.inl ne_o0_o1)
  have cf9 := F_segmentFirst_o0.other W6 (Or.inl ne_o0_o1)
  have cf10 := F_segments_o0.other W6 (Or.inl ne_o0_o1)
  have cf11 := V_o2.other W6 (Ne.symm ne_o1_o2)
  have Z_6 : n0 ≤ h6.size := Nat.le_trans Z0 (Keep.of_wr W6).1
  have K_6 : Keep h0 h6 [o1] := K0.wr W6 (own_i 0 rfl)
  have N6 := Fr.snoc X6 N0 g_o1
  refine own_go T6 m 40 #[rv o0, iv u0, iv 0] [] (st6) ?_
  refine own_retV X6 hx hlk hret (hb hby d5_40) (by decide) (by decide) ?_
  rw [e6]
  exact ⟨rfl, N6, K_6, V6⟩
theorem d7_0 : decode prog_48_method_3_code 0 = .ok (.aload_n 0, 1) := by decide +kernel
theorem d7_1 : decode prog_48_method_3_code 1 = .ok (.getfield 29, 3) := by decide +kernel
theorem d7_4 : decode prog_48_method_3_code 4 = .ok (.iconst 1, 1) := by decide +kernel
theorem d7_5 : decode prog_48_method_3_code 5 = .ok (.isub, 1) := by decide +kernel
theorem d7_6 : decode prog_48_method_3_code 6 = .ok (.istore_n 2, 1) := by decide +kernel
theorem d7_7 : decode prog_48_method_3_code 7 = .ok (.iload_n 1, 1) := by decide +kernel
theorem d7_8 : decode prog_48_method_3_code 8 = .ok (.aload_n 0, 1) := by decide +kernel
theorem d7_9 : decode prog_48_method_3_code 9 = .ok (.getfield 9, 3) := by decide +kernel
theorem d7_12 : decode prog_48_method_3_code 12 = .ok (.aload_n 0, 1) := by decide +kernel
theorem d7_13 : decode prog_48_method_3_code 13 = .ok (.getfield 16, 3) := by decide +kernel
theorem d7_16 : decode prog_48_method_3_code 16 = .ok (.iload_n 2, 1) := by decide +kernel
theorem d7_17 : decode prog_48_method_3_code 17 = .ok (.iaload, 1) := by decide +kernel
theorem d7_18 : decode prog_48_method_3_code 18 = .ok (.iaload, 1) := by decide +kernel
theorem d7_19 : decode prog_48_method_3_code 19 = .ok (.if_icmp .lt 17, 3) := by decide +kernel
theorem d7_22 : decode prog_48_method_3_code 22 = .ok (.iload_n 1, 1) := by decide +kernel
theorem d7_23 : decode prog_48_method_3_code 23 = .ok (.aload_n 0, 1) := by decide +kernel
theorem d7_24 : decode prog_48_method_3_code 24 = .ok (.getfield 19, 3) := by decide +kernel
theorem d7_27 : decode prog_48_method_3_code 27 = .ok (.iload_n 2, 1) := by decide +kernel
theorem d7_28 : decode prog_48_method_3_code 28 = .ok (.iaload, 1) := by decide +kernel
theorem d7_29 : decode prog_48_method_3_code 29 = .ok (.if_icmp .ge 7, 3) := by decide +kernel
theorem d7_32 : decode prog_48_method_3_code 32 = .ok (.iconst 1, 1) := by decide +kernel
theorem d7_33 : decode prog_48_method_3_code 33 = .ok (.goto 4, 3) := by decide +kernel
theorem d7_36 : decode prog_48_method_3_code 36 = .ok (.iconst 0, 1) := by decide +kernel
theorem d7_37 : decode prog_48_method_3_code 37 = .ok (.ireturn, 1) := by decide +kernel
theorem pf_com_example_wirelens_wirelens_wire_GroupEnds_newestCovers__I_Z : plainFor (⟨OwnK0, "newestCovers", "(I)Z"⟩ : MethodName) = true := by first | exact plainFor_of_name (by first | (simp [plainName, overriddenIn]; done) | decide +kernel) | exact Jvm.Free.JP.mathPlain rfl (by decide +kernel) | decide +kernel
theorem ef_sp10 (m : MethodId) (q0 : Addr) (q1 : Int32) : entryFrame m #[(.ref q0), (.int q1)] 3 = mkF m 0 #[rv q0, iv q1, .unset] [] := by first | (simp [entryFrame, mkF, argsToLocals, Value.category]; done) | rfl
set_option maxRecDepth 65536 in
set_option maxHeartbeats 40000000 in
theorem sp10 (l : Launch) (Z : State) (a0 : Array Value) (hw : ∀ d ∈ tables_1, d.before a0 Z = true) (ws : List Jvm.Cond) (o0 o1 o2 : Addr) (u0 : Int32) (u1 : Int32) (c0 : ClassId) (c1 : ClassId) (h0 : Heap) (n0 : Nat) (Z0 : n0 ≤ h0.size) (F_segmentFirst_o0 : Fld Z h0 o0 OwnK0 "segmentFirst" "[I" (.ref o1)) (F_segments_o0 : Fld Z h0 o0 OwnK0 "segments" "I" (.int 1)) (F_starts_o0 : Fld Z h0 o0 OwnK0 "starts" "[I" (.ref o2)) (V_o1 : Arv Z h0 o1 c0 .int (8 : Int32) [(.int 0), (.int 0), (.int 0), (.int 0), (.int 0), (.int 0), (.int 0), (.int 0)] (.int 0)) (V_o2 : Arv Z h0 o2 c1 .int (8 : Int32) [(.int u1), (.int 0), (.int 0), (.int 0), (.int 0), (.int 0), (.int 0), (.int 0)] (.int 0)) (hq0 : u0 < u1) :
    OwnC l Z (⟨OwnK0, "newestCovers", "(I)Z"⟩ : MethodName) prog_48_method_3_code 3 (some .boolean) ws ({ frames := 0, cells := 0, slots := 0, locals := 0 } : Room) #[(.ref o0), (.int u0)] h0 (fun v h L => v = some (.int 0) ∧ h = h0 ∧ L = []) := by
  refine own_entry pf_com_example_wirelens_wirelens_wire_GroupEnds_newestCovers__I_Z (fun m => ef_sp10 m o0 u0) ?_
  intro p e s m below meth c T0 X0 hC e0
  obtain ⟨hx, hby, hml, hown, hnm, hret, hlk, hZ⟩ := hC
  have N0 := Fr.nil n0
  have K0 := Keep.refl h0 []
  refine own_go T0 m 1 #[rv o0, iv u0, .unset] [(.ref o0)] (fun t k => XS.aloadN X0.here hx rfl (hb hby d7_0) rfl rfl k) ?_
  obtain ⟨T1, X1, e1, st1⟩ := getF X0 hx hZ hown (host := "") (Or.inl (own_w hw 27 rfl)) Via.refl e0 F_segments_o0 (g := (mkF m 1 #[rv o0, iv u0, .unset] [(.ref o0)])) rfl rfl (hb hby d7_1)
  refine own_go T1 m 4 #[rv o0, iv u0, .unset] [(.int 1)] (st1) ?_
  refine own_go T1 m 5 #[rv o0, iv u0, .unset] [(.int 1), (.int 1)] (fun t k => XS.iconst X1.here hx rfl (hb hby d7_4) k) ?_
  refine own_go T1 m 6 #[rv o0, iv u0, .unset] [(.int ((1 : Int32) - (1 : Int32)))] (fun t k => XS.isub X1.here hx rfl (hb hby d7_5) rfl k) ?_
  rw [show ((1 : Int32) - (1 : Int32)) = (0 : Int32) from by decide]
  refine own_go T1 m 7 #[rv o0, iv u0, iv 0] [] (fun t k => XS.istoreN X1.here hx rfl (hb hby d7_6) rfl rfl k) ?_
  refine own_go T1 m 8 #[rv o0, iv u0, iv 0] [(.int u0)] (fun t k => XS.iloadN X1.here hx rfl (hb hby d7_7) rfl k) ?_
  refine own_go T1 m 9 #[rv o0, iv u0, iv 0] [(.ref o0), (.int u0)] (fun t k => XS.aloadN X1.here hx rfl (hb hby d7_8) rfl rfl k) ?_
  obtain ⟨T2, X2, e2, st2⟩ := getF X1 hx hZ hown (host := "") (Or.inl (own_w hw 10 rfl)) Via.refl e1 F_starts_o0 (g := (mkF m 9 #[rv o0, iv u0, iv 0] [(.ref o0), (.int u0)])) rfl rfl (hb hby d7_9)
  refine own_go T2 m 12 #[rv o0, iv u0, iv 0] [(.ref o2), (.int u0)] (st2) ?_
  refine own_go T2 m 13 #[rv o0, iv u0, iv 0] [(.ref o0), (.ref o2), (.int u0)] (fun t k => XS.aloadN X2.here hx rfl (hb hby d7_12) rfl rfl k) ?_
  obtain ⟨T3, X3, e3, st3⟩ := getF X2 hx hZ hown (host := "") (Or.inl (own_w hw 14 rfl)) Via.refl e2 F_segmentFirst_o0 (g := (mkF m 13 #[rv o0, iv u0, iv 0] [(.ref o0), (.ref o2), (.int u0)])) rfl rfl (hb hby d7_13)
  refine own_go T3 m 16 #[rv o0, iv u0, iv 0] [(.ref o1), (.ref o2), (.int u0)] (st3) ?_
  refine own_go T3 m 17 #[rv o0, iv u0, iv 0] [(.int 0), (.ref o1), (.ref o2), (.int u0)] (fun t k => XS.iloadN X3.here hx rfl (hb hby d7_16) rfl k) ?_
  refine own_go T3 m 18 #[rv o0, iv u0, iv 0] [(.int 0), (.ref o2), (.int u0)] (own_iaload X3 hx hZ e3 V_o1 (j := (0 : Int32)) ⟨by decide, by decide⟩ rfl (hb hby d7_17)) ?_
  refine own_go T3 m 19 #[rv o0, iv u0, iv 0] [(.int u1), (.int u0)] (own_iaload X3 hx hZ e3 V_o2 (j := (0 : Int32)) ⟨by decide, by decide⟩ rfl (hb hby d7_18)) ?_
  refine own_go T3 m 36 #[rv o0, iv u0, iv 0] [] (fun t k => XS.icmpYes X3.here hx rfl (pc0 := 19) (pc' := 36) rfl (hb hby d7_19) rfl (tlt hq0).1 (by decide) (by decide) k) ?_
  refine own_go T3 m 37 #[rv o0, iv u0, iv 0] [(.int 0)] (fun t k => XS.iconst X3.here hx rfl (hb hby d7_36) k) ?_
  refine own_retZ X3 hx hlk hret (by decide) (hb hby d7_37) (by decide) (by decide) ?_
  exact ⟨rfl, e3, rfl⟩
theorem ef_sp9 (m : MethodId) (q0 : Addr) (q1 : Int32) (q2 : Int32) : entryFrame m #[(.ref q0), (.int q1), (.int q2)] 5 = mkF m 0 #[rv q0, iv q1, iv q2, .unset, .unset] [] := by first | (simp [entryFrame, mkF, argsToLocals, Value.category]; done) | rfl
set_option maxRecDepth 65536 in
set_option maxHeartbeats 40000000 in
theorem sp9 (l : Launch) (Z : State) (a0 : Array Value) (hw : ∀ d ∈ tables_1, d.before a0 Z = true) (ws : List Jvm.Cond) (o0 o1 o2 o3 o4 o5 : Addr) (u0 : Int32) (u1 : Int32) (u2 : Int32) (c0 : ClassId) (c1 : ClassId) (h0 : Heap) (n0 : Nat) (Z0 : n0 ≤ h0.size) (E_o0 : Exa Z h0 o0 OwnK0) (F_count_o0 : Fld Z h0 o0 OwnK0 "count" "I" (.int 1)) (F_cursor_o0 : Fld Z h0 o0 OwnK0 "cursor" "I" (.int (-1))) (F_ends_o0 : Fld Z h0 o0 OwnK0 "ends" "[I" (.ref o1)) (F_lastOpened_o0 : Fld Z h0 o0 OwnK0 "lastOpened" "I" (.int 0)) (F_segmentEnd_o0 : Fld Z h0 o0 OwnK0 "segmentEnd" "[I" (.ref o2)) (F_segmentFirst_o0 : Fld Z h0 o0 OwnK0 "segmentFirst" "[I" (.ref o3)) (F_segmentLimit_o0 : Fld Z h0 o0 OwnK0 "segmentLimit" "[I" (.ref o4)) (F_segments_o0 : Fld Z h0 o0 OwnK0 "segments" "I" (.int 1)) (F_starts_o0 : Fld Z h0 o0 OwnK0 "starts" "[I" (.ref o5)) (V_o3 : Arv Z h0 o3 c0 .int (8 : Int32) [(.int 0), (.int 0), (.int 0), (.int 0), (.int 0), (.int 0), (.int 0), (.int 0)] (.int 0)) (V_o5 : Arv Z h0 o5 c1 .int (8 : Int32) [(.int u2), (.int 0), (.int 0), (.int 0), (.int 0), (.int 0), (.int 0), (.int 0)] (.int 0)) (ne_o0_o1 : o0 ≠ o1) (ne_o0_o2 : o0 ≠ o2) (ne_o0_o3 : o0 ≠ o3) (ne_o0_o4 : o0 ≠ o4) (ne_o0_o5 : o0 ≠ o5) (g_o0 : n0 ≤ o0) (hq0 : u0 < u2) :
    OwnC l Z (⟨OwnK0, "find", "(II)I"⟩ : MethodName) prog_48_method_2_code 5 (some .int) ws ({ frames := 1, cells := 0, slots := 0, locals := 14 } : Room) #[(.ref o0), (.int u0), (.int u1)] h0 (fun v h L => v = some (.int (-1)) ∧ Fr n0 L ∧ Keep h0 h [o0] ∧ Fld Z h o0 OwnK0 "ends" "[I" (.ref o1) ∧ Fld Z h o0 OwnK0 "lastOpened" "I" (.int 0) ∧ Fld Z h o0 OwnK0 "segmentEnd" "[I" (.ref o2) ∧ Fld Z h o0 OwnK0 "segmentFirst" "[I" (.ref o3) ∧ Fld Z h o0 OwnK0 "segmentLimit" "[I" (.ref o4) ∧ Fld Z h o0 OwnK0 "starts" "[I" (.ref o5) ∧ Fld Z h o0 OwnK0 "segments" "I" (.int 0) ∧ Fld Z h o0 OwnK0 "count" "I" (.int 0) ∧ Fld Z h o0 OwnK0 "cursor" "I" (.int (-1))) := by
  refine own_entry pf_com_example_wirelens_wirelens_wire_GroupEnds_find__II_I (fun m => ef_sp9 m o0 u0 u1) ?_
  intro p e s m below meth c T0 X0 hC e0
  obtain ⟨hx, hby, hml, hown, hnm, hret, hlk, hZ⟩ := hC
  have N0 := Fr.nil n0
  have K0 := Keep.refl h0 [o0]
  refine own_go T0 m 1 #[rv o0, iv u0, iv u1, .unset, .unset] [(.ref o0)] (fun t k => XS.aloadN X0.here hx rfl (hb hby d6_0) rfl rfl k) ?_
  obtain ⟨T1, X1, e1, st1⟩ := getF X0 hx hZ hown (host := "") (Or.inl (own_w hw 27 rfl)) Via.refl e0 F_segments_o0 (g := (mkF m 1 #[rv o0, iv u0, iv u1, .unset, .unset] [(.ref o0)])) rfl rfl (hb hby d6_1)
  refine own_go T1 m 4 #[rv o0, iv u0, iv u1, .unset, .unset] [(.int 1)] (st1) ?_
  refine own_go T1 m 7 #[rv o0, iv u0, iv u1, .unset, .unset] [] (fun t k => XS.ifNo X1.here hx rfl (hb hby d6_4) rfl ((if0 _ _).trans (tlt (by decide)).2.2.2) k) ?_
  refine own_go T1 m 8 #[rv o0, iv u0, iv u1, .unset, .unset] [(.ref o0)] (fun t k => XS.aloadN X1.here hx rfl (hb hby d6_7) rfl rfl k) ?_
  refine own_go T1 m 9 #[rv o0, iv u0, iv u1, .unset, .unset] [(.int u0), (.ref o0)] (fun t k => XS.iloadN X1.here hx rfl (hb hby d6_8) rfl k) ?_
  obtain ⟨_, T2, L2, X2, ⟨rfl, e2, rfl⟩, st2⟩ := own_private X1 hx hZ (y := (⟨OwnK0, "newestCovers", "(I)Z"⟩ : MethodName)) hown (own_w hw 48 rfl) (own_w hw 49 rfl) (own_w hw 50 rfl) (own_w hw 1 rfl) (own_w hw 2 rfl) (own_w hw 51 rfl) (by decide) (sp10 l Z a0 hw [] o0 o3 o5 u0 u2 c0 c1 h0 n0 Z0 F_segmentFirst_o0 F_segments_o0 F_starts_o0 V_o3 V_o5 hq0) e1 E_o0 0 (argsL := [(.int u0)]) (rest := []) (Ls := #[rv o0, iv u0, iv u1, .unset, .unset]) (by rw [hml]; rfl) (lenOf pd__I_Z rfl) rfl rfl (Nat.le_of_eq rfl) (hb hby d6_9) (by decide) (by decide) (by decide) (by decide)
  replace X2 := own_nil X2
  refine own_go T2 m 12 #[rv o0, iv u0, iv u1, .unset, .unset] [(.int 0)] (st2) ?_
  refine own_go T2 m 15 #[rv o0, iv u0, iv u1, .unset, .unset] [] (fun t k => XS.ifNo X2.here hx rfl (hb hby d6_12) rfl ((if0 _ _).trans (teq (by decide)).2) k) ?_
  refine own_go T2 m 16 #[rv o0, iv u0, iv u1, .unset, .unset] [(.ref o0)] (fun t k => XS.aloadN X2.here hx rfl (hb hby d6_15) rfl rfl k) ?_
  refine own_go T2 m 17 #[rv o0, iv u0, iv u1, .unset, .unset] [(.ref o0), (.ref o0)] (fun t k => XS.dup X2.here hx rfl (hb hby d6_16) rfl rfl k) ?_
  obtain ⟨T3, X3, e3, st3⟩ := getF X2 hx hZ hown (host := "") (Or.inl (own_w hw 27 rfl)) Via.refl e2 F_segments_o0 (g := (mkF m 17 #[rv o0, iv u0, iv u1, .unset, .unset] [(.ref o0), (.ref o0)])) rfl rfl (hb hby d6_17)
  refine own_go T3 m 20 #[rv o0, iv u0, iv u1, .unset, .unset] [(.int 1), (.ref o0)] (st3) ?_
  refine own_go T3 m 21 #[rv o0, iv u0, iv u1, .unset, .unset] [(.int 1), (.int 1), (.ref o0)] (fun t k => XS.iconst X3.here hx rfl (hb hby d6_20) k) ?_
  refine own_go T3 m 22 #[rv o0, iv u0, iv u1, .unset, .unset] [(.int ((1 : Int32) - (1 : Int32))), (.ref o0)] (fun t k => XS.isub X3.here hx rfl (hb hby d6_21) rfl k) ?_
  rw [show ((1 : Int32) - (1 : Int32)) = (0 : Int32) from by decide]
  obtain ⟨T4, h4, X4, e4, W4, st4⟩ := putF X3 hx hZ hown (host := "") (Or.inl (own_w hw 27 rfl)) Via.refl e3 F_segments_o0 E_o0 (Or.inl (own_w hw 28 rfl)) (own_w hw 1 rfl) (ty := .int) (by decide) rfl rfl (g := (mkF m 22 #[rv o0, iv u0, iv u1, .unset, .unset] [(.int 0), (.ref o0)])) rfl rfl (hb hby d6_22)
  have F4 := F_segments_o0.same W4
  have cf5 := E_o0.wr W4
  have cf6 := F_count_o0.other W4 (Or.inr (slot_ne (Or.inl (own_w hw 30 rfl)) (Or.inl (own_w hw 28 rfl)) (by decide) (t := .int) (t' := .int) (by decide) (by decide)))
  have cf7 := F_cursor_o0.other W4 (Or.inr (slot_ne (Or.inl (own_w hw 21 rfl)) (Or.inl (own_w hw 28 rfl)) (by decide) (t := .int) (t' := .int) (by decide) (by decide)))
  have cf8 := F_ends_o0.other W4 (Or.inr (slot_ne (Or.inl (own_w hw 13 rfl)) (Or.inl (own_w hw 28 rfl)) (by decide) (t := (.array .int)) (t' := .int) (by decide) (by decide)))
  have cf9 := F_lastOpened_o0.other W4 (Or.inr (slot_ne (Or.inl (own_w hw 37 rfl)) (Or.inl (own_w hw 28 rfl)) (by decide) (t := .int) (t' := .int) (by decide) (by decide)))
  have cf10 := F_segmentEnd_o0.other W4 (Or.inr (slot_ne (Or.inl (own_w hw 17 rfl)) (Or.inl (own_w hw 28 rfl)) (by decide) (t := (.array .int)) (t' := .int) (by decide) (by decide)))
  have cf11 := F_segmentFirst_o0.other W4 (Or.inr (slot_ne (Or.inl (own_w hw 15 rfl)) (Or.inl (own_w hw 28 rfl)) (by decide) (t := (.array .int)) (t' := .int) (by decide) (by decide)))
  have cf12 := F_segmentLimit_o0.other W4 (Or.inr (slot_ne (Or.inl (own_w hw 19 rfl)) (Or.inl (own_w hw 28 rfl)) (by decide) (t := (.array .int)) (t' := .int) (by decide) (by decide)))
  have cf13 := F_starts_o0.other W4 (Or.inr (slot_ne (Or.inl (own_w hw 11 rfl)) (Or.inl (own_w hw 28 rfl)) (by decide) (t := (.array .int)) (t' := .int) (by decide) (by decide)))
  have cf14 := V_o3.other W4 (Ne.symm ne_o0_o3)
  have cf15 := V_o5.other W4 (Ne.symm ne_o0_o5)
  have Z_4 : n0 ≤ h4.size := Nat.le_trans Z0 (Keep.of_wr W4).1
  have K_4 : Keep h0 h4 [o0] := K0.wr W4 (own_i 0 rfl)
  have N4 := Fr.snoc X4 N0 g_o0
  refine own_go T4 m 25 #[rv o0, iv u0, iv u1, .unset, .unset] [] (st4) ?_
  refine own_go T4 m 26 #[rv o0, iv u0, iv u1, .unset, .unset] [(.ref o0)] (fun t k => XS.aloadN X4.here hx rfl (hb hby d6_25) rfl rfl k) ?_
  refine own_go T4 m 27 #[rv o0, iv u0, iv u1, .unset, .unset] [(.ref o0), (.ref o0)] (fun t k => XS.aloadN X4.here hx rfl (hb hby d6_26) rfl rfl k) ?_
  obtain ⟨T16, X16, e16, st16⟩ := getF X4 hx hZ hown (host := "") (Or.inl (own_w hw 14 rfl)) Via.refl e4 cf11 (g := (mkF m 27 #[rv o0, iv u0, iv u1, .unset, .unset] [(.ref o0), (.ref o0)])) rfl rfl (hb hby d6_27)
  refine own_go T16 m 30 #[rv o0, iv u0, iv u1, .unset, .unset] [(.ref o3), (.ref o0)] (st16) ?_
  refine own_go T16 m 31 #[rv o0, iv u0, iv u1, .unset, .unset] [(.ref o0), (.ref o3), (.ref o0)] (fun t k => XS.aloadN X16.here hx rfl (hb hby d6_30) rfl rfl k) ?_
  obtain ⟨T17, X17, e17, st17⟩ := getF X16 hx hZ hown (host := "") (Or.inl (own_w hw 27 rfl)) Via.refl e16 F4 (g := (mkF m 31 #[rv o0, iv u0, iv u1, .unset, .unset] [(.ref o0), (.ref o3), (.ref o0)])) rfl rfl (hb hby d6_31)
  refine own_go T17 m 34 #[rv o0, iv u0, iv u1, .unset, .unset] [(.int 0), (.ref o3), (.ref o0)] (st17) ?_
  refine own_go T17 m 35 #[rv o0, iv u0, iv u1, .unset, .unset] [(.int 0), (.ref o0)] (own_iaload X17 hx hZ e17 cf14 (j := (0 : Int32)) ⟨by decide, by decide⟩ rfl (hb hby d6_34)) ?_
  obtain ⟨T19, h19, X19, e19, W19, st19⟩ := putF X17 hx hZ hown (host := "") (Or.inl (own_w hw 29 rfl)) Via.refl e17 cf6 cf5 (Or.inl (own_w hw 30 rfl)) (own_w hw 1 rfl) (ty := .int) (by decide) rfl rfl (g := (mkF m 35 #[rv o0, iv u0, iv u1, .unset, .unset] [(.int 0), (.ref o0)])) rfl rfl (hb hby d6_35)
  have F19 := cf6.same W19
  have cf20 := cf5.wr W19
  have cf21 := cf7.other W19 (Or.inr (slot_ne (Or.inl (own_w hw 21 rfl)) (Or.inl (own_w hw 30 rfl)) (by decide) (t := .int) (t' := .int) (by decide) (by decide)))
  have cf22 := cf8.other W19 (Or.inr (slot_ne (Or.inl (own_w hw 13 rfl)) (Or.inl (own_w hw 30 rfl)) (by decide) (t := (.array .int)) (t' := .int) (by decide) (by decide)))
  have cf23 := cf9.other W19 (Or.inr (slot_ne (Or.inl (own_w hw 37 rfl)) (Or.inl (own_w hw 30 rfl)) (by decide) (t := .int) (t' := .int) (by decide) (by decide)))
  have cf24 := cf10.other W19 (Or.inr (slot_ne (Or.inl (own_w hw 17 rfl)) (Or.inl (own_w hw 30 rfl)) (by decide) (t := (.array .int)) (t' := .int) (by decide) (by decide)))
  have cf25 := cf11.other W19 (Or.inr (slot_ne (Or.inl (own_w hw 15 rfl)) (Or.inl (own_w hw 30 rfl)) (by decide) (t := (.array .int)) (t' := .int) (by decide) (by decide)))
  have cf26 := cf12.other W19 (Or.inr (slot_ne (Or.inl (own_w hw 19 rfl)) (Or.inl (own_w hw 30 rfl)) (by decide) (t := (.array .int)) (t' := .int) (by decide) (by decide)))
  have cf27 := cf13.other W19 (Or.inr (slot_ne (Or.inl (own_w hw 11 rfl)) (Or.inl (own_w hw 30 rfl)) (by decide) (t := (.array .int)) (t' := .int) (by decide) (by decide)))
  have cf28 := cf14.other W19 (Ne.symm ne_o0_o3)
  have cf29 := cf15.other W19 (Ne.symm ne_o0_o5)
  have cf30 := F4.other W19 (Or.inr (slot_ne (Or.inl (own_w hw 28 rfl)) (Or.inl (own_w hw 30 rfl)) (by decide) (t := .int) (t' := .int) (by decide) (by decide)))
  have Z_19 : n0 ≤ h19.size := Nat.le_trans Z_4 (Keep.of_wr W19).1
  have K_19 : Keep h0 h19 [o0] := K_4.wr W19 (own_i 0 rfl)
  have N19 := Fr.snoc X19 N4 g_o0
  refine own_go T19 m 38 #[rv o0, iv u0, iv u1, .unset, .unset] [] (st19) ?_
  refine own_go T19 m 39 #[rv o0, iv u0, iv u1, .unset, .unset] [(.ref o0)] (fun t k => XS.aloadN X19.here hx rfl (hb hby d6_38) rfl rfl k) ?_
  refine own_go T19 m 40 #[rv o0, iv u0, iv u1, .unset, .unset] [(.int (-1)), (.ref o0)] (fun t k => XS.iconst X19.here hx rfl (hb hby d6_39) k) ?_
  obtain ⟨T31, h31, X31, e31, W31, st31⟩ := putF X19 hx hZ hown (host := "") (Or.inl (own_w hw 20 rfl)) Via.refl e19 cf21 cf20 (Or.inl (own_w hw 21 rfl)) (own_w hw 1 rfl) (ty := .int) (by decide) rfl rfl (g := (mkF m 40 #[rv o0, iv u0, iv u1, .unset, .unset] [(.int (-1)), (.ref o0)])) rfl rfl (hb hby d6_40)
  have F31 := cf21.same W31
  have cf32 := cf20.wr W31
  have cf33 := cf22.other W31 (Or.inr (slot_ne (Or.inl (own_w hw 13 rfl)) (Or.inl (own_w hw 21 rfl)) (by decide) (t := (.array .int)) (t' := .int) (by decide) (by decide)))
  have cf34 := cf23.other W31 (Or.inr (slot_ne (Or.inl (own_w hw 37 rfl)) (Or.inl (own_w hw 21 rfl)) (by decide) (t := .int) (t' := .int) (by decide) (by decide)))
  have cf35 := cf24.other W31 (Or.inr (slot_ne (Or.inl (own_w hw 17 rfl)) (Or.inl (own_w hw 21 rfl)) (by decide) (t := (.array .int)) (t' := .int) (by decide) (by decide)))
  have cf36 := cf25.other W31 (Or.inr (slot_ne (Or.inl (own_w hw 15 rfl)) (Or.inl (own_w hw 21 rfl)) (by decide) (t := (.array .int)) (t' := .int) (by decide) (by decide)))
  have cf37 := cf26.other W31 (Or.inr (slot_ne (Or.inl (own_w hw 19 rfl)) (Or.inl (own_w hw 21 rfl)) (by decide) (t := (.array .int)) (t' := .int) (by decide) (by decide)))
  have cf38 := cf27.other W31 (Or.inr (slot_ne (Or.inl (own_w hw 11 rfl)) (Or.inl (own_w hw 21 rfl)) (by decide) (t := (.array .int)) (t' := .int) (by decide) (by decide)))
  have cf39 := cf28.other W31 (Ne.symm ne_o0_o3)
  have cf40 := cf29.other W31 (Ne.symm ne_o0_o5)
  have cf41 := cf30.other W31 (Or.inr (slot_ne (Or.inl (own_w hw 28 rfl)) (Or.inl (own_w hw 21 rfl)) (by decide) (t := .int) (t' := .int) (by decide) (by decide)))
  have cf42 := F19.other W31 (Or.inr (slot_ne (Or.inl (own_w hw 30 rfl)) (Or.inl (own_w hw 21 rfl)) (by decide) (t := .int) (t' := .int) (by decide) (by decide)))
  have Z_31 : n0 ≤ h31.size := Nat.le_trans Z_19 (Keep.of_wr W31).1
  have K_31 : Keep h0 h31 [o0] := K_19.wr W31 (own_i 0 rfl)
  have N31 := Fr.snoc X31 N19 g_o0
  refine own_go T31 m 43 #[rv o0, iv u0, iv u1, .unset, .unset] [] (st31) ?_
  refine own_go T31 m 0 #[rv o0, iv u0, iv u1, .unset, .unset] [] (fun t k => XS.goto X31.here hx rfl (pc0 := 43) (pc' := 0) rfl (hb hby d6_43) (by decide) (by decide) k) ?_
  refine own_go T31 m 1 #[rv o0, iv u0, iv u1, .unset, .unset] [(.ref o0)] (fun t k => XS.aloadN X31.here hx rfl (hb hby d6_0) rfl rfl k) ?_
  obtain ⟨T43, X43, e43, st43⟩ := getF X31 hx hZ hown (host := "") (Or.inl (own_w hw 27 rfl)) Via.refl e31 cf41 (g := (mkF m 1 #[rv o0, iv u0, iv u1, .unset, .unset] [(.ref o0)])) rfl rfl (hb hby d6_1)
  refine own_go T43 m 4 #[rv o0, iv u0, iv u1, .unset, .unset] [(.int 0)] (st43) ?_
  refine own_go T43 m 46 #[rv o0, iv u0, iv u1, .unset, .unset] [] (fun t k => XS.ifYes X43.here hx rfl (pc0 := 4) (pc' := 46) rfl (hb hby d6_4) rfl ((if0 _ _).trans (flt (by decide)).2.2.2) (by decide) (by decide) k) ?_
  refine own_go T43 m 47 #[rv o0, iv u0, iv u1, .unset, .unset] [(.ref o0)] (fun t k => XS.aloadN X43.here hx rfl (hb hby d6_46) rfl rfl k) ?_
  obtain ⟨T44, X44, e44, st44⟩ := getF X43 hx hZ hown (host := "") (Or.inl (own_w hw 27 rfl)) Via.refl e43 cf41 (g := (mkF m 47 #[rv o0, iv u0, iv u1, .unset, .unset] [(.ref o0)])) rfl rfl (hb hby d6_47)
  refine own_go T44 m 50 #[rv o0, iv u0, iv u1, .unset, .unset] [(.int 0)] (st44) ?_
  refine own_go T44 m 53 #[rv o0, iv u0, iv u1, .unset, .unset] [] (fun t k => XS.ifNo X44.here hx rfl (hb hby d6_50) rfl ((if0 _ _).trans (teq (by decide)).2) k) ?_
  refine own_go T44 m 54 #[rv o0, iv u0, iv u1, .unset, .unset] [(.int (-1))] (fun t k => XS.iconst X44.here hx rfl (hb hby d6_53) k) ?_
  refine own_go T44 m 62 #[rv o0, iv u0, iv u1, .unset, .unset] [(.int (-1))] (fun t k => XS.goto X44.here hx rfl (pc0 := 54) (pc' := 62) rfl (hb hby d6_54) (by decide) (by decide) k) ?_
  refine own_go T44 m 63 #[rv o0, iv u0, iv u1, iv (-1), .unset] [] (fun t k => XS.istoreN X44.here hx rfl (hb hby d6_62) rfl rfl k) ?_
  refine own_go T44 m 64 #[rv o0, iv u0, iv u1, iv (-1), .unset] [(.int (-1))] (fun t k => XS.iloadN X44.here hx rfl (hb hby d6_63) rfl k) ?_
  refine own_go T44 m 67 #[rv o0, iv u0, iv u1, iv (-1), .unset] [] (fun t k => XS.ifNo X44.here hx rfl (hb hby d6_64) rfl ((if0 _ _).trans (tlt (by decide)).2.1) k) ?_
  refine own_go T44 m 68 #[rv o0, iv u0, iv u1, iv (-1), .unset] [(.int (-1))] (fun t k => XS.iconst X44.here hx rfl (hb hby d6_67) k) ?_
  refine own_go T44 m 70 #[rv o0, iv u0, iv u1, iv (-1), iv (-1)] [] (fun t k => XS.istore X44.here hx rfl (hb hby d6_68) rfl rfl k) ?_
  refine own_go T44 m 113 #[rv o0, iv u0, iv u1, iv (-1), iv (-1)] [] (fun t k => XS.goto X44.here hx rfl (pc0 := 70) (pc' := 113) rfl (hb hby d6_70) (by decide) (by decide) k) ?_
  refine own_go T44 m 115 #[rv o0, iv u0, iv u1, iv (-1), iv (-1)] [(.int (-1))] (fun t k => XS.iload X44.here hx rfl (hb hby d6_113) rfl k) ?_
  refine own_retI X44 hx hlk hret (hb hby d6_115) (by decide) (by decide) ?_
  rw [e44]
  exact ⟨rfl, N31, K_31, cf33, cf34, cf35, cf36, cf37, cf38, cf41, cf42, F31⟩
theorem ef_sp12 (m : MethodId) (q0 : Addr) (q1 : Int32) : entryFrame m #[(.ref q0), (.int q1)] 3 = mkF m 0 #[rv q0, iv q1, .unset] [] := by first | (simp [entryFrame, mkF, argsToLocals, Value.category]; done) | rfl
set_option maxRecDepth 65536 in
set_option maxHeartbeats 40000000 in
theorem sp12 (l : Launch) (Z : State) (a0 : Array Value) (hw : ∀ d ∈ tables_1, d.before a0 Z = true) (ws : List Jvm.Cond) (o0 o1 o2 o3 : Addr) (u0 : Int32) (u1 : Int32) (u2 : Int32) (c0 : ClassId) (c1 : ClassId) (c2 : ClassId) (h0 : Heap) (n0 : Nat) (Z0 : n0 ≤ h0.size) (F_segmentEnd_o0 : Fld Z h0 o0 OwnK0 "segmentEnd" "[I" (.ref o1)) (F_segmentFirst_o0 : Fld Z h0 o0 OwnK0 "segmentFirst" "[I" (.ref o2)) (F_segments_o0 : Fld Z h0 o0 OwnK0 "segments" "I" (.int 1)) (F_starts_o0 : Fld Z h0 o0 OwnK0 "starts" "[I" (.ref o3)) (V_o1 : Arv Z h0 o1 c0 .int (8 : Int32) [(.int u1), (.int 0), (.int 0), (.int 0), (.int 0), (.int 0), (.int 0), (.int 0)] (.int 0)) (V_o2 : Arv Z h0 o2 c1 .int (8 : Int32) [(.int 0), (.int 0), (.int 0), (.int 0), (.int 0), (.int 0), (.int 0), (.int 0)] (.int 0)) (V_o3 : Arv Z h0 o3 c2 .int (8 : Int32) [(.int u2), (.int 0), (.int 0), (.int 0), (.int 0), (.int 0), (.int 0), (.int 0)] (.int 0)) (hq0 : ¬ (u0 < u2)) (hq1 : u0 < u1) :
    OwnC l Z (⟨OwnK0, "newestCovers", "(I)Z"⟩ : MethodName) prog_48_method_3_code 3 (some .boolean) ws ({ frames := 0, cells := 0, slots := 0, locals := 0 } : Room) #[(.ref o0), (.int u0)] h0 (fun v h L => v = some (.int 1) ∧ h = h0 ∧ L = []) := by
  refine own_entry pf_com_example_wirelens_wirelens_wire_GroupEnds_newestCovers__I_Z (fun m => ef_sp12 m o0 u0) ?_
  intro p e s m below meth c T0 X0 hC e0
  obtain ⟨hx, hby, hml, hown, hnm, hret, hlk, hZ⟩ := hC
  have N0 := Fr.nil n0
  have K0 := Keep.refl h0 []
  refine own_go T0 m 1 #[rv o0, iv u0, .unset] [(.ref o0)] (fun t k => XS.aloadN X0.here hx rfl (hb hby d7_0) rfl rfl k) ?_
  obtain ⟨T1, X1, e1, st1⟩ := getF X0 hx hZ hown (host := "") (Or.inl (own_w hw 27 rfl)) Via.refl e0 F_segments_o0 (g := (mkF m 1 #[rv o0, iv u0, .unset] [(.ref o0)])) rfl rfl (hb hby d7_1)
  refine own_go T1 m 4 #[rv o0, iv u0, .unset] [(.int 1)] (st1) ?_
  refine own_go T1 m 5 #[rv o0, iv u0, .unset] [(.int 1), (.int 1)] (fun t k => XS.iconst X1.here hx rfl (hb hby d7_4) k) ?_
  refine own_go T1 m 6 #[rv o0, iv u0, .unset] [(.int ((1 : Int32) - (1 : Int32)))] (fun t k => XS.isub X1.here hx rfl (hb hby d7_5) rfl k) ?_
  rw [show ((1 : Int32) - (1 : Int32)) = (0 : Int32) from by decide]
  refine own_go T1 m 7 #[rv o0, iv u0, iv 0] [] (fun t k => XS.istoreN X1.here hx rfl (hb hby d7_6) rfl rfl k) ?_
  refine own_go T1 m 8 #[rv o0, iv u0, iv 0] [(.int u0)] (fun t k => XS.iloadN X1.here hx rfl (hb hby d7_7) rfl k) ?_
  refine own_go T1 m 9 #[rv o0, iv u0, iv 0] [(.ref o0), (.int u0)] (fun t k => XS.aloadN X1.here hx rfl (hb hby d7_8) rfl rfl k) ?_
  obtain ⟨T2, X2, e2, st2⟩ := getF X1 hx hZ hown (host := "") (Or.inl (own_w hw 10 rfl)) Via.refl e1 F_starts_o0 (g := (mkF m 9 #[rv o0, iv u0, iv 0] [(.ref o0), (.int u0)])) rfl rfl (hb hby d7_9)
  refine own_go T2 m 12 #[rv o0, iv u0, iv 0] [(.ref o3), (.int u0)] (st2) ?_
  refine own_go T2 m 13 #[rv o0, iv u0, iv 0] [(.ref o0), (.ref o3), (.int u0)] (fun t k => XS.aloadN X2.here hx rfl (hb hby d7_12) rfl rfl k) ?_
  obtain ⟨T3, X3, e3, st3⟩ := getF X2 hx hZ hown (host := "") (Or.inl (own_w hw 14 rfl)) Via.refl e2 F_segmentFirst_o0 (g := (mkF m 13 #[rv o0, iv u0, iv 0] [(.ref o0), (.ref o3), (.int u0)])) rfl rfl (hb hby d7_13)
  refine own_go T3 m 16 #[rv o0, iv u0, iv 0] [(.ref o2), (.ref o3), (.int u0)] (st3) ?_
  refine own_go T3 m 17 #[rv o0, iv u0, iv 0] [(.int 0), (.ref o2), (.ref o3), (.int u0)] (fun t k => XS.iloadN X3.here hx rfl (hb hby d7_16) rfl k) ?_
  refine own_go T3 m 18 #[rv o0, iv u0, iv 0] [(.int 0), (.ref o3), (.int u0)] (own_iaload X3 hx hZ e3 V_o2 (j := (0 : Int32)) ⟨by decide, by decide⟩ rfl (hb hby d7_17)) ?_
  refine own_go T3 m 19 #[rv o0, iv u0, iv 0] [(.int u2), (.int u0)] (own_iaload X3 hx hZ e3 V_o3 (j := (0 : Int32)) ⟨by decide, by decide⟩ rfl (hb hby d7_18)) ?_
  refine own_go T3 m 22 #[rv o0, iv u0, iv 0] [] (fun t k => XS.icmpNo X3.here hx rfl (hb hby d7_19) rfl (flt hq0).1 k) ?_
  refine own_go T3 m 23 #[rv o0, iv u0, iv 0] [(.int u0)] (fun t k => XS.iloadN X3.here hx rfl (hb hby d7_22) rfl k) ?_
  refine own_go T3 m 24 #[rv o0, iv u0, iv 0] [(.ref o0), (.int u0)] (fun t k => XS.aloadN X3.here hx rfl (hb hby d7_23) rfl rfl k) ?_
  obtain ⟨T6, X6, e6, st6⟩ := getF X3 hx hZ hown (host := "") (Or.inl (own_w hw 16 rfl)) Via.refl e3 F_segmentEnd_o0 (g := (mkF m 24 #[rv o0, iv u0, iv 0] [(.ref o0), (.int u0)])) rfl rfl (hb hby d7_24)
  refine own_go T6 m 27 #[rv o0, iv u0, iv 0] [(.ref o1), (.int u0)] (st6) ?_
  refine own_go T6 m 28 #[rv o0, iv u0, iv 0] [(.int 0), (.ref o1), (.int u0)] (fun t k => XS.iloadN X6.here hx rfl (hb hby d7_27) rfl k) ?_
  refine own_go T6 m 29 #[rv o0, iv u0, iv 0] [(.int u1), (.int u0)] (own_iaload X6 hx hZ e6 V_o1 (j := (0 : Int32)) ⟨by decide, by decide⟩ rfl (hb hby d7_28)) ?_
  refine own_go T6 m 32 #[rv o0, iv u0, iv 0] [] (fun t k => XS.icmpNo X6.here hx rfl (hb hby d7_29) rfl (tlt hq1).2.1 k) ?_
  refine own_go T6 m 33 #[rv o0, iv u0, iv 0] [(.int 1)] (fun t k => XS.iconst X6.here hx rfl (hb hby d7_32) k) ?_
  refine own_go T6 m 37 #[rv o0, iv u0, iv 0] [(.int 1)] (fun t k => XS.goto X6.here hx rfl (pc0 := 33) (pc' := 37) rfl (hb hby d7_33) (by decide) (by decide) k) ?_
  refine own_retZ X6 hx hlk hret (by decide) (hb hby d7_37) (by decide) (by decide) ?_
  exact ⟨rfl, e6, rfl⟩
theorem d8_0 : decode prog_48_method_4_code 0 = .ok (.aload_n 0, 1) := by decide +kernel
theorem d8_1 : decode prog_48_method_4_code 1 = .ok (.getfield 16, 3) := by decide +kernel
theorem d8_4 : decode prog_48_method_4_code 4 = .ok (.aload_n 0, 1) := by decide +kernel
theorem d8_5 : decode prog_48_method_4_code 5 = .ok (.getfield 29, 3) := by decide +kernel
theorem d8_8 : decode prog_48_method_4_code 8 = .ok (.iconst 1, 1) := by decide +kernel
theorem d8_9 : decode prog_48_method_4_code 9 = .ok (.isub, 1) := by decide +kernel
theorem d8_10 : decode prog_48_method_4_code 10 = .ok (.iaload, 1) := by decide +kernel
theorem d8_11 : decode prog_48_method_4_code 11 = .ok (.istore_n 2, 1) := by decide +kernel
theorem d8_12 : decode prog_48_method_4_code 12 = .ok (.aload_n 0, 1) := by decide +kernel
theorem d8_13 : decode prog_48_method_4_code 13 = .ok (.getfield 25, 3) := by decide +kernel
theorem d8_16 : decode prog_48_method_4_code 16 = .ok (.istore_n 3, 1) := by decide +kernel
theorem d8_17 : decode prog_48_method_4_code 17 = .ok (.iload_n 3, 1) := by decide +kernel
theorem d8_18 : decode prog_48_method_4_code 18 = .ok (.iload_n 2, 1) := by decide +kernel
theorem d8_19 : decode prog_48_method_4_code 19 = .ok (.if_icmp .lt 20, 3) := by decide +kernel
theorem d8_22 : decode prog_48_method_4_code 22 = .ok (.iload_n 3, 1) := by decide +kernel
theorem d8_23 : decode prog_48_method_4_code 23 = .ok (.iload_n 2, 1) := by decide +kernel
theorem d8_24 : decode prog_48_method_4_code 24 = .ok (.if_icmp .le 45, 3) := by decide +kernel
theorem d8_27 : decode prog_48_method_4_code 27 = .ok (.aload_n 0, 1) := by decide +kernel
theorem d8_28 : decode prog_48_method_4_code 28 = .ok (.getfield 9, 3) := by decide +kernel
theorem d8_31 : decode prog_48_method_4_code 31 = .ok (.iload_n 3, 1) := by decide +kernel
theorem d8_32 : decode prog_48_method_4_code 32 = .ok (.iconst 1, 1) := by decide +kernel
theorem d8_33 : decode prog_48_method_4_code 33 = .ok (.isub, 1) := by decide +kernel
theorem d8_34 : decode prog_48_method_4_code 34 = .ok (.iaload, 1) := by decide +kernel
theorem d8_35 : decode prog_48_method_4_code 35 = .ok (.iload_n 1, 1) := by decide +kernel
theorem d8_36 : decode prog_48_method_4_code 36 = .ok (.if_icmp .lt 33, 3) := by decide +kernel
theorem d8_39 : decode prog_48_method_4_code 39 = .ok (.aload_n 0, 1) := by decide +kernel
theorem d8_40 : decode prog_48_method_4_code 40 = .ok (.getfield 9, 3) := by decide +kernel
theorem d8_43 : decode prog_48_method_4_code 43 = .ok (.iload_n 2, 1) := by decide +kernel
theorem d8_44 : decode prog_48_method_4_code 44 = .ok (.aload_n 0, 1) := by decide +kernel
theorem d8_45 : decode prog_48_method_4_code 45 = .ok (.getfield 36, 3) := by decide +kernel
theorem d8_48 : decode prog_48_method_4_code 48 = .ok (.iload_n 1, 1) := by decide +kernel
theorem d8_49 : decode prog_48_method_4_code 49 = .ok (.invokestatic 43, 3) := by decide +kernel
theorem d8_52 : decode prog_48_method_4_code 52 = .ok (.istore_n 3, 1) := by decide +kernel
theorem d8_53 : decode prog_48_method_4_code 53 = .ok (.iload_n 3, 1) := by decide +kernel
theorem d8_54 : decode prog_48_method_4_code 54 = .ok (.ifCond .ge 10, 3) := by decide +kernel
theorem d8_57 : decode prog_48_method_4_code 57 = .ok (.iload_n 3, 1) := by decide +kernel
theorem d8_58 : decode prog_48_method_4_code 58 = .ok (.ineg, 1) := by decide +kernel
theorem d8_59 : decode prog_48_method_4_code 59 = .ok (.iconst 1, 1) := by decide +kernel
theorem d8_60 : decode prog_48_method_4_code 60 = .ok (.isub, 1) := by decide +kernel
theorem d8_61 : decode prog_48_method_4_code 61 = .ok (.goto 4, 3) := by decide +kernel
theorem d8_64 : decode prog_48_method_4_code 64 = .ok (.iload_n 3, 1) := by decide +kernel
theorem d8_65 : decode prog_48_method_4_code 65 = .ok (.istore_n 3, 1) := by decide +kernel
theorem d8_66 : decode prog_48_method_4_code 66 = .ok (.goto 27, 3) := by decide +kernel
theorem d8_69 : decode prog_48_method_4_code 69 = .ok (.iload_n 3, 1) := by decide +kernel
theorem d8_70 : decode prog_48_method_4_code 70 = .ok (.aload_n 0, 1) := by decide +kernel
theorem d8_71 : decode prog_48_method_4_code 71 = .ok (.getfield 36, 3) := by decide +kernel
theorem d8_74 : decode prog_48_method_4_code 74 = .ok (.if_icmp .ge 19, 3) := by decide +kernel
theorem d8_77 : decode prog_48_method_4_code 77 = .ok (.aload_n 0, 1) := by decide +kernel
theorem d8_78 : decode prog_48_method_4_code 78 = .ok (.getfield 9, 3) := by decide +kernel
theorem d8_81 : decode prog_48_method_4_code 81 = .ok (.iload_n 3, 1) := by decide +kernel
theorem d8_82 : decode prog_48_method_4_code 82 = .ok (.iaload, 1) := by decide +kernel
theorem d8_83 : decode prog_48_method_4_code 83 = .ok (.iload_n 1, 1) := by decide +kernel
theorem d8_84 : decode prog_48_method_4_code 84 = .ok (.if_icmp .ge 9, 3) := by decide +kernel
theorem d8_87 : decode prog_48_method_4_code 87 = .ok (.iinc 3 1, 3) := by decide +kernel
theorem d8_90 : decode prog_48_method_4_code 90 = .ok (.goto (-21), 3) := by decide +kernel
theorem d8_93 : decode prog_48_method_4_code 93 = .ok (.aload_n 0, 1) := by decide +kernel
theorem d8_94 : decode prog_48_method_4_code 94 = .ok (.iload_n 3, 1) := by decide +kernel
theorem d8_95 : decode prog_48_method_4_code 95 = .ok (.putfield 25, 3) := by decide +kernel
theorem d8_98 : decode prog_48_method_4_code 98 = .ok (.iload_n 3, 1) := by decide +kernel
theorem d8_99 : decode prog_48_method_4_code 99 = .ok (.aload_n 0, 1) := by decide +kernel
theorem d8_100 : decode prog_48_method_4_code 100 = .ok (.getfield 36, 3) := by decide +kernel
theorem d8_103 : decode prog_48_method_4_code 103 = .ok (.if_icmp .ge 17, 3) := by decide +kernel
theorem d8_106 : decode prog_48_method_4_code 106 = .ok (.aload_n 0, 1) := by decide +kernel
theorem d8_107 : decode prog_48_method_4_code 107 = .ok (.getfield 9, 3) := by decide +kernel
theorem d8_110 : decode prog_48_method_4_code 110 = .ok (.iload_n 3, 1) := by decide +kernel
theorem d8_111 : decode prog_48_method_4_code 111 = .ok (.iaload, 1) := by decide +kernel
theorem d8_112 : decode prog_48_method_4_code 112 = .ok (.iload_n 1, 1) := by decide +kernel
theorem d8_113 : decode prog_48_method_4_code 113 = .ok (.if_icmp .ne 7, 3) := by decide +kernel
theorem d8_116 : decode prog_48_method_4_code 116 = .ok (.iload_n 3, 1) := by decide +kernel
theorem d8_117 : decode prog_48_method_4_code 117 = .ok (.goto 4, 3) := by decide +kernel
theorem d8_120 : decode prog_48_method_4_code 120 = .ok (.iconst (-1), 1) := by decide +kernel
theorem d8_121 : decode prog_48_method_4_code 121 = .ok (.ireturn, 1) := by decide +kernel
theorem pf_com_example_wirelens_wirelens_wire_GroupEnds_search__I_I : plainFor (⟨OwnK0, "search", "(I)I"⟩ : MethodName) = true := by first | exact plainFor_of_name (by first | (simp [plainName, overriddenIn]; done) | decide +kernel) | exact Jvm.Free.JP.mathPlain rfl (by decide +kernel) | decide +kernel
theorem d9_0 : decode jdk_65_method_58_code 0 = .ok (.aload_n 0, 1) := by decide +kernel
theorem d9_1 : decode jdk_65_method_58_code 1 = .ok (.arraylength, 1) := by decide +kernel
theorem d9_2 : decode jdk_65_method_58_code 2 = .ok (.iload_n 1, 1) := by decide +kernel
theorem d9_3 : decode jdk_65_method_58_code 3 = .ok (.iload_n 2, 1) := by decide +kernel
theorem d9_4 : decode jdk_65_method_58_code 4 = .ok (.invokestatic 13, 3) := by decide +kernel
theorem d9_7 : decode jdk_65_method_58_code 7 = .ok (.aload_n 0, 1) := by decide +kernel
theorem d9_8 : decode jdk_65_method_58_code 8 = .ok (.iload_n 1, 1) := by decide +kernel
theorem d9_9 : decode jdk_65_method_58_code 9 = .ok (.iload_n 2, 1) := by decide +kernel
theorem d9_10 : decode jdk_65_method_58_code 10 = .ok (.iload_n 3, 1) := by decide +kernel
theorem d9_11 : decode jdk_65_method_58_code 11 = .ok (.invokestatic 209, 3) := by decide +kernel
theorem d9_14 : decode jdk_65_method_58_code 14 = .ok (.ireturn, 1) := by decide +kernel
theorem pf_java_util_Arrays_binarySearch___IIII_I : plainFor (⟨"java/util/Arrays", "binarySearch", "([IIII)I"⟩ : MethodName) = true := by first | exact plainFor_of_name (by first | (simp [plainName, overriddenIn]; done) | decide +kernel) | exact Jvm.Free.JP.mathPlain rfl (by decide +kernel) | decide +kernel
theorem d10_0 : decode jdk_65_method_30_code 0 = .ok (.iload_n 1, 1) := by decide +kernel
theorem d10_1 : decode jdk_65_method_30_code 1 = .ok (.iload_n 2, 1) := by decide +kernel
theorem d10_2 : decode jdk_65_method_30_code 2 = .ok (.if_icmp .le 44, 3) := by decide +kernel
theorem d10_5 : decode jdk_65_method_30_code 5 = .ok (.new 43, 3) := by decide +kernel
theorem d10_8 : decode jdk_65_method_30_code 8 = .ok (.dup, 1) := by decide +kernel
theorem d10_9 : decode jdk_65_method_30_code 9 = .ok (.new 45, 3) := by decide +kernel
theorem d10_12 : decode jdk_65_method_30_code 12 = .ok (.dup, 1) := by decide +kernel
theorem d10_13 : decode jdk_65_method_30_code 13 = .ok (.invokespecial 47, 3) := by decide +kernel
theorem d10_16 : decode jdk_65_method_30_code 16 = .ok (.ldc 48, 2) := by decide +kernel
theorem d10_18 : decode jdk_65_method_30_code 18 = .ok (.invokevirtual 50, 3) := by decide +kernel
theorem d10_21 : decode jdk_65_method_30_code 21 = .ok (.iload_n 1, 1) := by decide +kernel
theorem d10_22 : decode jdk_65_method_30_code 22 = .ok (.invokevirtual 54, 3) := by decide +kernel
theorem d10_25 : decode jdk_65_method_30_code 25 = .ok (.ldc 57, 2) := by decide +kernel
theorem d10_27 : decode jdk_65_method_30_code 27 = .ok (.invokevirtual 50, 3) := by decide +kernel
theorem d10_30 : decode jdk_65_method_30_code 30 = .ok (.iload_n 2, 1) := by decide +kernel
theorem d10_31 : decode jdk_65_method_30_code 31 = .ok (.invokevirtual 54, 3) := by decide +kernel
theorem d10_34 : decode jdk_65_method_30_code 34 = .ok (.ldc 59, 2) := by decide +kernel
theorem d10_36 : decode jdk_65_method_30_code 36 = .ok (.invokevirtual 50, 3) := by decide +kernel
theorem d10_39 : decode jdk_65_method_30_code 39 = .ok (.invokevirtual 61, 3) := by decide +kernel
theorem d10_42 : decode jdk_65_method_30_code 42 = .ok (.invokespecial 65, 3) := by decide +kernel
theorem d10_45 : decode jdk_65_method_30_code 45 = .ok (.athrow, 1) := by decide +kernel
theorem d10_46 : decode jdk_65_method_30_code 46 = .ok (.iload_n 1, 1) := by decide +kernel
theorem d10_47 : decode jdk_65_method_30_code 47 = .ok (.ifCond .ge 12, 3) := by decide +kernel
theorem d10_50 : decode jdk_65_method_30_code 50 = .ok (.new 68, 3) := by decide +kernel
theorem d10_53 : decode jdk_65_method_30_code 53 = .ok (.dup, 1) := by decide +kernel
theorem d10_54 : decode jdk_65_method_30_code 54 = .ok (.iload_n 1, 1) := by decide +kernel
theorem d10_55 : decode jdk_65_method_30_code 55 = .ok (.invokespecial 70, 3) := by decide +kernel
theorem d10_58 : decode jdk_65_method_30_code 58 = .ok (.athrow, 1) := by decide +kernel
theorem d10_59 : decode jdk_65_method_30_code 59 = .ok (.iload_n 2, 1) := by decide +kernel
theorem d10_60 : decode jdk_65_method_30_code 60 = .ok (.iload_n 0, 1) := by decide +kernel
theorem d10_61 : decode jdk_65_method_30_code 61 = .ok (.if_icmp .le 12, 3) := by decide +kernel
theorem d10_64 : decode jdk_65_method_30_code 64 = .ok (.new 68, 3) := by decide +kernel
theorem d10_67 : decode jdk_65_method_30_code 67 = .ok (.dup, 1) := by decide +kernel
theorem d10_68 : decode jdk_65_method_30_code 68 = .ok (.iload_n 2, 1) := by decide +kernel
theorem d10_69 : decode jdk_65_method_30_code 69 = .ok (.invokespecial 70, 3) := by decide +kernel
theorem d10_72 : decode jdk_65_method_30_code 72 = .ok (.athrow, 1) := by decide +kernel
theorem d10_73 : decode jdk_65_method_30_code 73 = .ok (.return_, 1) := by decide +kernel
theorem pf_java_util_Arrays_rangeCheck__III_V : plainFor (⟨"java/util/Arrays", "rangeCheck", "(III)V"⟩ : MethodName) = true := by first | exact plainFor_of_name (by first | (simp [plainName, overriddenIn]; done) | decide +kernel) | exact Jvm.Free.JP.mathPlain rfl (by decide +kernel) | decide +kernel
theorem ef_sp15 (m : MethodId) (q0 : Int32) (q1 : Int32) (q2 : Int32) : entryFrame m #[(.int q0), (.int q1), (.int q2)] 3 = mkF m 0 #[iv q0, iv q1, iv q2] [] := by first | (simp [entryFrame, mkF, argsToLocals, Value.category]; done) | rfl
set_option maxRecDepth 65536 in
set_option maxHeartbeats 40000000 in
theorem sp15 (l : Launch) (Z : State) (a0 : Array Value) (hw : ∀ d ∈ tables_1, d.before a0 Z = true) (ws : List Jvm.Cond) (h0 : Heap) (n0 : Nat) (Z0 : n0 ≤ h0.size) :
    OwnC l Z (⟨"java/util/Arrays", "rangeCheck", "(III)V"⟩ : MethodName) jdk_65_method_30_code 3 none ws ({ frames := 0, cells := 0, slots := 0, locals := 0 } : Room) #[(.int 8), (.int 0), (.int 1)] h0 (fun v h L => v = none ∧ h = h0 ∧ L = []) := by
  refine own_entry pf_java_util_Arrays_rangeCheck__III_V (fun m => ef_sp15 m (8 : Int32) (0 : Int32) (1 : Int32)) ?_
  intro p e s m below meth c T0 X0 hC e0
  obtain ⟨hx, hby, hml, hown, hnm, hret, hlk, hZ⟩ := hC
  have N0 := Fr.nil n0
  have K0 := Keep.refl h0 []
  refine own_go T0 m 1 #[iv 8, iv 0, iv 1] [(.int 0)] (fun t k => XS.iloadN X0.here hx rfl (hb hby d10_0) rfl k) ?_
  refine own_go T0 m 2 #[iv 8, iv 0, iv 1] [(.int 1), (.int 0)] (fun t k => XS.iloadN X0.here hx rfl (hb hby d10_1) rfl k) ?_
  refine own_go T0 m 46 #[iv 8, iv 0, iv 1] [] (fun t k => XS.icmpYes X0.here hx rfl (pc0 := 2) (pc' := 46) rfl (hb hby d10_2) rfl (flt (by decide)).2.2.2 (by decide) (by decide) k) ?_
  refine own_go T0 m 47 #[iv 8, iv 0, iv 1] [(.int 0)] (fun t k => XS.iloadN X0.here hx rfl (hb hby d10_46) rfl k) ?_
  refine own_go T0 m 59 #[iv 8, iv 0, iv 1] [] (fun t k => XS.ifYes X0.here hx rfl (pc0 := 47) (pc' := 59) rfl (hb hby d10_47) rfl ((if0 _ _).trans (flt (by decide)).2.1) (by decide) (by decide) k) ?_
  refine own_go T0 m 60 #[iv 8, iv 0, iv 1] [(.int 1)] (fun t k => XS.iloadN X0.here hx rfl (hb hby d10_59) rfl k) ?_
  refine own_go T0 m 61 #[iv 8, iv 0, iv 1] [(.int 8), (.int 1)] (fun t k => XS.iloadN X0.here hx rfl (hb hby d10_60) rfl k) ?_
  refine own_go T0 m 73 #[iv 8, iv 0, iv 1] [] (fun t k => XS.icmpYes X0.here hx rfl (pc0 := 61) (pc' := 73) rfl (hb hby d10_61) rfl (flt (by decide)).2.2.2 (by decide) (by decide) k) ?_
  refine own_retV X0 hx hlk hret (hb hby d10_73) (by decide) (by decide) ?_
  exact ⟨rfl, e0, rfl⟩
theorem d11_0 : decode jdk_65_method_59_code 0 = .ok (.iload_n 1, 1) := by decide +kernel
theorem d11_1 : decode jdk_65_method_59_code 1 = .ok (.istore 4, 2) := by decide +kernel
theorem d11_3 : decode jdk_65_method_59_code 3 = .ok (.iload_n 2, 1) := by decide +kernel
theorem d11_4 : decode jdk_65_method_59_code 4 = .ok (.iconst 1, 1) := by decide +kernel
theorem d11_5 : decode jdk_65_method_59_code 5 = .ok (.isub, 1) := by decide +kernel
theorem d11_6 : decode jdk_65_method_59_code 6 = .ok (.istore 5, 2) := by decide +kernel
theorem d11_8 : decode jdk_65_method_59_code 8 = .ok (.iload 4, 2) := by decide +kernel
theorem d11_10 : decode jdk_65_method_59_code 10 = .ok (.iload 5, 2) := by decide +kernel
theorem d11_12 : decode jdk_65_method_59_code 12 = .ok (.if_icmp .gt 54, 3) := by decide +kernel
theorem d11_15 : decode jdk_65_method_59_code 15 = .ok (.iload 4, 2) := by decide +kernel
theorem d11_17 : decode jdk_65_method_59_code 17 = .ok (.iload 5, 2) := by decide +kernel
theorem d11_19 : decode jdk_65_method_59_code 19 = .ok (.iadd, 1) := by decide +kernel
theorem d11_20 : decode jdk_65_method_59_code 20 = .ok (.iconst 1, 1) := by decide +kernel
theorem d11_21 : decode jdk_65_method_59_code 21 = .ok (.iushr, 1) := by decide +kernel
theorem d11_22 : decode jdk_65_method_59_code 22 = .ok (.istore 6, 2) := by decide +kernel
theorem d11_24 : decode jdk_65_method_59_code 24 = .ok (.aload_n 0, 1) := by decide +kernel
theorem d11_25 : decode jdk_65_method_59_code 25 = .ok (.iload 6, 2) := by decide +kernel
theorem d11_27 : decode jdk_65_method_59_code 27 = .ok (.iaload, 1) := by decide +kernel
theorem d11_28 : decode jdk_65_method_59_code 28 = .ok (.istore 7, 2) := by decide +kernel
theorem d11_30 : decode jdk_65_method_59_code 30 = .ok (.iload 7, 2) := by decide +kernel
theorem d11_32 : decode jdk_65_method_59_code 32 = .ok (.iload_n 3, 1) := by decide +kernel
theorem d11_33 : decode jdk_65_method_59_code 33 = .ok (.if_icmp .ge 12, 3) := by decide +kernel
theorem d11_36 : decode jdk_65_method_59_code 36 = .ok (.iload 6, 2) := by decide +kernel
theorem d11_38 : decode jdk_65_method_59_code 38 = .ok (.iconst 1, 1) := by decide +kernel
theorem d11_39 : decode jdk_65_method_59_code 39 = .ok (.iadd, 1) := by decide +kernel
theorem d11_40 : decode jdk_65_method_59_code 40 = .ok (.istore 4, 2) := by decide +kernel
theorem d11_42 : decode jdk_65_method_59_code 42 = .ok (.goto 21, 3) := by decide +kernel
theorem d11_45 : decode jdk_65_method_59_code 45 = .ok (.iload 7, 2) := by decide +kernel
theorem d11_47 : decode jdk_65_method_59_code 47 = .ok (.iload_n 3, 1) := by decide +kernel
theorem d11_48 : decode jdk_65_method_59_code 48 = .ok (.if_icmp .le 12, 3) := by decide +kernel
theorem d11_51 : decode jdk_65_method_59_code 51 = .ok (.iload 6, 2) := by decide +kernel
theorem d11_53 : decode jdk_65_method_59_code 53 = .ok (.iconst 1, 1) := by decide +kernel
theorem d11_54 : decode jdk_65_method_59_code 54 = .ok (.isub, 1) := by decide +kernel
theorem d11_55 : decode jdk_65_method_59_code 55 = .ok (.istore 5, 2) := by decide +kernel
theorem d11_57 : decode jdk_65_method_59_code 57 = .ok (.goto 6, 3) := by decide +kernel
theorem d11_60 : decode jdk_65_method_59_code 60 = .ok (.iload 6, 2) := by decide +kernel
theorem d11_62 : decode jdk_65_method_59_code 62 = .ok (.ireturn, 1) := by decide +kernel
theorem d11_63 : decode jdk_65_method_59_code 63 = .ok (.goto (-55), 3) := by decide +kernel
theorem d11_66 : decode jdk_65_method_59_code 66 = .ok (.iload 4, 2) := by decide +kernel
theorem d11_68 : decode jdk_65_method_59_code 68 = .ok (.iconst 1, 1) := by decide +kernel
theorem d11_69 : decode jdk_65_method_59_code 69 = .ok (.iadd, 1) := by decide +kernel
theorem d11_70 : decode jdk_65_method_59_code 70 = .ok (.ineg, 1) := by decide +kernel
theorem d11_71 : decode jdk_65_method_59_code 71 = .ok (.ireturn, 1) := by decide +kernel
theorem pf_java_util_Arrays_binarySearch0___IIII_I : plainFor (⟨"java/util/Arrays", "binarySearch0", "([IIII)I"⟩ : MethodName) = true := by first | exact plainFor_of_name (by first | (simp [plainName, overriddenIn]; done) | decide +kernel) | exact Jvm.Free.JP.mathPlain rfl (by decide +kernel) | decide +kernel
theorem ef_sp16 (m : MethodId) (q0 : Addr) (q1 : Int32) (q2 : Int32) (q3 : Int32) : entryFrame m #[(.ref q0), (.int q1), (.int q2), (.int q3)] 8 = mkF m 0 #[rv q0, iv q1, iv q2, iv q3, .unset, .unset, .unset, .unset] [] := by first | (simp [entryFrame, mkF, argsToLocals, Value.category]; done) | rfl
set_option maxRecDepth 65536 in
set_option maxHeartbeats 40000000 in
theorem sp16 (l : Launch) (Z : State) (a0 : Array Value) (hw : ∀ d ∈ tables_1, d.before a0 Z = true) (ws : List Jvm.Cond) (o0 : Addr) (u0 : Int32) (u1 : Int32) (c0 : ClassId) (h0 : Heap) (n0 : Nat) (Z0 : n0 ≤ h0.size) (V_o0 : Arv Z h0 o0 c0 .int (8 : Int32) [(.int u1), (.int 0), (.int 0), (.int 0), (.int 0), (.int 0), (.int 0), (.int 0)] (.int 0)) (hq0 : u1 < u0) :
    OwnC l Z (⟨"java/util/Arrays", "binarySearch0", "([IIII)I"⟩ : MethodName) jdk_65_method_59_code 8 (some .int) ws ({ frames := 0, cells := 0, slots := 0, locals := 0 } : Room) #[(.ref o0), (.int 0), (.int 1), (.int u0)] h0 (fun v h L => v = some (.int (-2)) ∧ h = h0 ∧ L = []) := by
  refine own_entry pf_java_util_Arrays_binarySearch0___IIII_I (fun m => ef_sp16 m o0 (0 : Int32) (1 : Int32) u0) ?_
  intro p e s m below meth c T0 X0 hC e0
  obtain ⟨hx, hby, hml, hown, hnm, hret, hlk, hZ⟩ := hC
  have N0 := Fr.nil n0
  have K0 := Keep.refl h0 []
  refine own_go T0 m 1 #[rv o0, iv 0, iv 1, iv u0, .unset, .unset, .unset, .unset] [(.int 0)] (fun t k => XS.iloadN X0.here hx rfl (hb hby d11_0) rfl k) ?_
  refine own_go T0 m 3 #[rv o0, iv 0, iv 1, iv u0, iv 0, .unset, .unset, .unset] [] (fun t k => XS.istore X0.here hx rfl (hb hby d11_1) rfl rfl k) ?_
  refine own_go T0 m 4 #[rv o0, iv 0, iv 1, iv u0, iv 0, .unset, .unset, .unset] [(.int 1)] (fun t k => XS.iloadN X0.here hx rfl (hb hby d11_3) rfl k) ?_
  refine own_go T0 m 5 #[rv o0, iv 0, iv 1, iv u0, iv 0, .unset, .unset, .unset] [(.int 1), (.int 1)] (fun t k => XS.iconst X0.here hx rfl (hb hby d11_4) k) ?_
  refine own_go T0 m 6 #[rv o0, iv 0, iv 1, iv u0, iv 0, .unset, .unset, .unset] [(.int ((1 : Int32) - (1 : Int32)))] (fun t k => XS.isub X0.here hx rfl (hb hby d11_5) rfl k) ?_
  rw [show ((1 : Int32) - (1 : Int32)) = (0 : Int32) from by decide]
  refine own_go T0 m 8 #[rv o0, iv 0, iv 1, iv u0, iv 0, iv 0, .unset, .unset] [] (fun t k => XS.istore X0.here hx rfl (hb hby d11_6) rfl rfl k) ?_
  refine own_go T0 m 10 #[rv o0, iv 0, iv 1, iv u0, iv 0, iv 0, .unset, .unset] [(.int 0)] (fun t k => XS.iload X0.here hx rfl (hb hby d11_8) rfl k) ?_
  refine own_go T0 m 12 #[rv o0, iv 0, iv 1, iv u0, iv 0, iv 0, .unset, .unset] [(.int 0), (.int 0)] (fun t k => XS.iload X0.here hx rfl (hb hby d11_10) rfl k) ?_
  refine own_go T0 m 15 #[rv o0, iv 0, iv 1, iv u0, iv 0, iv 0, .unset, .unset] [] (fun t k => XS.icmpNo X0.here hx rfl (hb hby d11_12) rfl (flt (by decide)).2.2.1 k) ?_
  refine own_go T0 m 17 #[rv o0, iv 0, iv 1, iv u0, iv 0, iv 0, .unset, .unset] [(.int 0)] (fun t k => XS.iload X0.here hx rfl (hb hby d11_15) rfl k) ?_
  refine own_go T0 m 19 #[rv o0, iv 0, iv 1, iv u0, iv 0, iv 0, .unset, .unset] [(.int 0), (.int 0)] (fun t k => XS.iload X0.here hx rfl (hb hby d11_17) rfl k) ?_
  refine own_go T0 m 20 #[rv o0, iv 0, iv 1, iv u0, iv 0, iv 0, .unset, .unset] [(.int ((0 : Int32) + (0 : Int32)))] (fun t k => XS.iadd X0.here hx rfl (hb hby d11_19) rfl k) ?_
  rw [show ((0 : Int32) + (0 : Int32)) = (0 : Int32) from by decide]
  refine own_go T0 m 21 #[rv o0, iv 0, iv 1, iv u0, iv 0, iv 0, .unset, .unset] [(.int 1), (.int 0)] (fun t k => XS.iconst X0.here hx rfl (hb hby d11_20) k) ?_
  refine own_go T0 m 22 #[rv o0, iv 0, iv 1, iv u0, iv 0, iv 0, .unset, .unset] [(.int (((0 : Int32).toUInt32 >>> ((1 : Int32) &&& 31).toUInt32).toInt32))] (fun t k => XS.iushr X0.here hx rfl (hb hby d11_21) rfl k) ?_
  rw [show (((0 : Int32).toUInt32 >>> ((1 : Int32) &&& 31).toUInt32).toInt32) = (0 : Int32) from by decide]
  refine own_go T0 m 24 #[rv o0, iv 0, iv 1, iv u0, iv 0, iv 0, iv 0, .unset] [] (fun t k => XS.istore X0.here hx rfl (hb hby d11_22) rfl rfl k) ?_
  refine own_go T0 m 25 #[rv o0, iv 0, iv 1, iv u0, iv 0, iv 0, iv 0, .unset] [(.ref o0)] (fun t k => XS.aloadN X0.here hx rfl (hb hby d11_24) rfl rfl k) ?_
  refine own_go T0 m 27 #[rv o0, iv 0, iv 1, iv u0, iv 0, iv 0, iv 0, .unset] [(.int 0), (.ref o0)] (fun t k => XS.iload X0.here hx rfl (hb hby d11_25) rfl k) ?_
  refine own_go T0 m 28 #[rv o0, iv 0, iv 1, iv u0, iv 0, iv 0, iv 0, .unset] [(.int u1)] (own_iaload X0 hx hZ e0 V_o0 (j := (0 : Int32)) ⟨by decide, by decide⟩ rfl (hb hby d11_27)) ?_
  refine own_go T0 m 30 #[rv o0, iv 0, iv 1, iv u0, iv 0, iv 0, iv 0, iv u1] [] (fun t k => XS.istore X0.here hx rfl (hb hby d11_28) rfl rfl k) ?_
  refine own_go T0 m 32 #[rv o0, iv 0, iv 1, iv u0, iv 0, iv 0, iv 0, iv u1] [(.int u1)] (fun t k => XS.iload X0.here hx rfl (hb hby d11_30) rfl k) ?_
  refine own_go T0 m 33 #[rv o0, iv 0, iv 1, iv u0, iv 0, iv 0, iv 0, iv u1] [(.int u0), (.int u1)] (fun t k => XS.iloadN X0.here hx rfl (hb hby d11_32) rfl k) ?_
  refine own_go T0 m 36 #[rv o0, iv 0, iv 1, iv u0, iv 0, iv 0, iv 0, iv u1] [] (fun t k => XS.icmpNo X0.here hx rfl (hb hby d11_33) rfl (tlt hq0).2.1 k) ?_
  refine own_go T0 m 38 #[rv o0, iv 0, iv 1, iv u0, iv 0, iv 0, iv 0, iv u1] [(.int 0)] (fun t k => XS.iload X0.here hx rfl (hb hby d11_36) rfl k) ?_
  refine own_go T0 m 39 #[rv o0, iv 0, iv 1, iv u0, iv 0, iv 0, iv 0, iv u1] [(.int 1), (.int 0)] (fun t k => XS.iconst X0.here hx rfl (hb hby d11_38) k) ?_
  refine own_go T0 m 40 #[rv o0, iv 0, iv 1, iv u0, iv 0, iv 0, iv 0, iv u1] [(.int ((0 : Int32) + (1 : Int32)))] (fun t k => XS.iadd X0.here hx rfl (hb hby d11_39) rfl k) ?_
  rw [show ((0 : Int32) + (1 : Int32)) = (1 : Int32) from by decide]
  refine own_go T0 m 42 #[rv o0, iv 0, iv 1, iv u0, iv 1, iv 0, iv 0, iv u1] [] (fun t k => XS.istore X0.here hx rfl (hb hby d11_40) rfl rfl k) ?_
  refine own_go T0 m 63 #[rv o0, iv 0, iv 1, iv u0, iv 1, iv 0, iv 0, iv u1] [] (fun t k => XS.goto X0.here hx rfl (pc0 := 42) (pc' := 63) rfl (hb hby d11_42) (by decide) (by decide) k) ?_
  refine own_go T0 m 8 #[rv o0, iv 0, iv 1, iv u0, iv 1, iv 0, iv 0, iv u1] [] (fun t k => XS.goto X0.here hx rfl (pc0 := 63) (pc' := 8) rfl (hb hby d11_63) (by decide) (by decide) k) ?_
  refine own_go T0 m 10 #[rv o0, iv 0, iv 1, iv u0, iv 1, iv 0, iv 0, iv u1] [(.int 1)] (fun t k => XS.iload X0.here hx rfl (hb hby d11_8) rfl k) ?_
  refine own_go T0 m 12 #[rv o0, iv 0, iv 1, iv u0, iv 1, iv 0, iv 0, iv u1] [(.int 0), (.int 1)] (fun t k => XS.iload X0.here hx rfl (hb hby d11_10) rfl k) ?_
  refine own_go T0 m 66 #[rv o0, iv 0, iv 1, iv u0, iv 1, iv 0, iv 0, iv u1] [] (fun t k => XS.icmpYes X0.here hx rfl (pc0 := 12) (pc' := 66) rfl (hb hby d11_12) rfl (tlt (by decide)).2.2.1 (by decide) (by decide) k) ?_
  refine own_go T0 m 68 #[rv o0, iv 0, iv 1, iv u0, iv 1, iv 0, iv 0, iv u1] [(.int 1)] (fun t k => XS.iload X0.here hx rfl (hb hby d11_66) rfl k) ?_
  refine own_go T0 m 69 #[rv o0, iv 0, iv 1, iv u0, iv 1, iv 0, iv 0, iv u1] [(.int 1), (.int 1)] (fun t k => XS.iconst X0.here hx rfl (hb hby d11_68) k) ?_
  refine own_go T0 m 70 #[rv o0, iv 0, iv 1, iv u0, iv 1, iv 0, iv 0, iv u1] [(.int ((1 : Int32) + (1 : Int32)))] (fun t k => XS.iadd X0.here hx rfl (hb hby d11_69) rfl k) ?_
  rw [show ((1 : Int32) + (1 : Int32)) = (2 : Int32) from by decide]
  refine own_go T0 m 71 #[rv o0, iv 0, iv 1, iv u0, iv 1, iv 0, iv 0, iv u1] [(.int (-(2 : Int32)))] (fun t k => XS.ineg X0.here hx rfl (hb hby d11_70) rfl k) ?_
  rw [show (-(2 : Int32)) = (-2 : Int32) from by decide]
  refine own_retI X0 hx hlk hret (hb hby d11_71) (by decide) (by decide) ?_
  exact ⟨rfl, e0, rfl⟩
theorem ef_sp14 (m : MethodId) (q0 : Addr) (q1 : Int32) (q2 : Int32) (q3 : Int32) : entryFrame m #[(.ref q0), (.int q1), (.int q2), (.int q3)] 4 = mkF m 0 #[rv q0, iv q1, iv q2, iv q3] [] := by first | (simp [entryFrame, mkF, argsToLocals, Value.category]; done) | rfl
set_option maxRecDepth 65536 in
set_option maxHeartbeats 40000000 in
theorem sp14 (l : Launch) (Z : State) (a0 : Array Value) (hw : ∀ d ∈ tables_1, d.before a0 Z = true) (ws : List Jvm.Cond) (o0 : Addr) (u0 : Int32) (u1 : Int32) (c0 : ClassId) (h0 : Heap) (n0 : Nat) (Z0 : n0 ≤ h0.size) (V_o0 : Arv Z h0 o0 c0 .int (8 : Int32) [(.int u1), (.int 0), (.int 0), (.int 0), (.int 0), (.int 0), (.int 0), (.int 0)] (.int 0)) (hq0 : u1 < u0) :
    OwnC l Z (⟨"java/util/Arrays", "binarySearch", "([IIII)I"⟩ : MethodName) jdk_65_method_58_code 4 (some .int) ws ({ frames := 1, cells := 0, slots := 0, locals := 19 } : Room) #[(.ref o0), (.int 0), (.int 1), (.int u0)] h0 (fun v h L => v = some (.int (-2)) ∧ h = h0 ∧ L = []) := by
  refine own_entry pf_java_util_Arrays_binarySearch___IIII_I (fun m => ef_sp14 m o0 (0 : Int32) (1 : Int32) u0) ?_
  intro p e s m below meth c T0 X0 hC e0
  obtain ⟨hx, hby, hml, hown, hnm, hret, hlk, hZ⟩ := hC
  have N0 := Fr.nil n0
  have K0 := Keep.refl h0 []
  refine own_go T0 m 1 #[rv o0, iv 0, iv 1, iv u0] [(.ref o0)] (fun t k => XS.aloadN X0.here hx rfl (hb hby d9_0) rfl rfl k) ?_
  refine own_go T0 m 2 #[rv o0, iv 0, iv 1, iv u0] [(.int 8)] (own_alen X0 hx hZ e0 V_o0 (hb hby d9_1)) ?_
  refine own_go T0 m 3 #[rv o0, iv 0, iv 1, iv u0] [(.int 0), (.int 8)] (fun t k => XS.iloadN X0.here hx rfl (hb hby d9_2) rfl k) ?_
  refine own_go T0 m 4 #[rv o0, iv 0, iv 1, iv u0] [(.int 1), (.int 0), (.int 8)] (fun t k => XS.iloadN X0.here hx rfl (hb hby d9_3) rfl k) ?_
  obtain ⟨_, T2, L2, X2, ⟨rfl, e2, rfl⟩, st2⟩ := own_static X0 hx hZ (y := (⟨"java/util/Arrays", "rangeCheck", "(III)V"⟩ : MethodName)) hown (own_w hw 60 rfl) (own_w hw 61 rfl) (own_w hw 58 rfl) (own_w hw 62 rfl) (by decide) (sp15 l Z a0 hw []  h0 n0 Z0 ) e0 0 (argsL := [(.int 8), (.int 0), (.int 1)]) (rest := []) (Ls := #[rv o0, iv 0, iv 1, iv u0]) (by rw [hml]; rfl) (lenOf pd__III_V rfl) rfl rfl (Nat.le_of_eq rfl) (hb hby d9_4) (by decide) (by decide) (by decide) (by decide)
  replace X2 := own_nil X2
  refine own_go T2 m 7 #[rv o0, iv 0, iv 1, iv u0] [] (st2) ?_
  refine own_go T2 m 8 #[rv o0, iv 0, iv 1, iv u0] [(.ref o0)] (fun t k => XS.aloadN X2.here hx rfl (hb hby d9_7) rfl rfl k) ?_
  refine own_go T2 m 9 #[rv o0, iv 0, iv 1, iv u0] [(.int 0), (.ref o0)] (fun t k => XS.iloadN X2.here hx rfl (hb hby d9_8) rfl k) ?_
  refine own_go T2 m 10 #[rv o0, iv 0, iv 1, iv u0] [(.int 1), (.int 0), (.ref o0)] (fun t k => XS.iloadN X2.here hx rfl (hb hby d9_9) rfl k) ?_
  refine own_go T2 m 11 #[rv o0, iv 0, iv 1, iv u0] [(.int u0), (.int 1), (.int 0), (.ref o0)] (fun t k => XS.iloadN X2.here hx rfl (hb hby d9_10) rfl k) ?_
  obtain ⟨_, T3, L3, X3, ⟨rfl, e3, rfl⟩, st3⟩ := own_static X2 hx hZ (y := (⟨"java/util/Arrays", "binarySearch0", "([IIII)I"⟩ : MethodName)) hown (own_w hw 63 rfl) (own_w hw 64 rfl) (own_w hw 58 rfl) (own_w hw 65 rfl) (by decide) (sp16 l Z a0 hw [] o0 u0 u1 c0 h0 n0 Z0 V_o0 hq0) e2 0 (argsL := [(.ref o0), (.int 0), (.int 1), (.int u0)]) (rest := []) (Ls := #[rv o0, iv 0, iv 1, iv u0]) (by rw [hml]; rfl) (lenOf pd___IIII_I rfl) rfl rfl (Nat.le_of_eq rfl) (hb hby d9_11) (by decide) (by decide) (by decide) (by decide)
  replace X3 := own_nil X3
  refine own_go T3 m 14 #[rv o0, iv 0, iv 1, iv u0] [(.int (-2))] (st3) ?_
  refine own_retI X3 hx hlk hret (hb hby d9_14) (by decide) (by decide) ?_
  exact ⟨rfl, e3, rfl⟩
theorem ef_sp13 (m : MethodId) (q0 : Addr) (q1 : Int32) : entryFrame m #[(.ref q0), (.int q1)] 4 = mkF m 0 #[rv q0, iv q1, .unset, .unset] [] := by first | (simp [entryFrame, mkF, argsToLocals, Value.category]; done) | rfl
set_option maxRecDepth 65536 in
set_option maxHeartbeats 40000000 in
theorem sp13 (l : Launch) (Z : State) (a0 : Array Value) (hw : ∀ d ∈ tables_1, d.before a0 Z = true) (ws : List Jvm.Cond) (o0 o1 o2 o3 o4 o5 : Addr) (u0 : Int32) (u1 : Int32) (c0 : ClassId) (c1 : ClassId) (h0 : Heap) (n0 : Nat) (Z0 : n0 ≤ h0.size) (E_o0 : Exa Z h0 o0 OwnK0) (F_count_o0 : Fld Z h0 o0 OwnK0 "count" "I" (.int 1)) (F_cursor_o0 : Fld Z h0 o0 OwnK0 "cursor" "I" (.int (-1))) (F_ends_o0 : Fld Z h0 o0 OwnK0 "ends" "[I" (.ref o1)) (F_lastOpened_o0 : Fld Z h0 o0 OwnK0 "lastOpened" "I" (.int 0)) (F_segmentEnd_o0 : Fld Z h0 o0 OwnK0 "segmentEnd" "[I" (.ref o2)) (F_segmentFirst_o0 : Fld Z h0 o0 OwnK0 "segmentFirst" "[I" (.ref o3)) (F_segmentLimit_o0 : Fld Z h0 o0 OwnK0 "segmentLimit" "[I" (.ref o4)) (F_segments_o0 : Fld Z h0 o0 OwnK0 "segments" "I" (.int 1)) (F_starts_o0 : Fld Z h0 o0 OwnK0 "starts" "[I" (.ref o5)) (V_o3 : Arv Z h0 o3 c0 .int (8 : Int32) [(.int 0), (.int 0), (.int 0), (.int 0), (.int 0), (.int 0), (.int 0), (.int 0)] (.int 0)) (V_o5 : Arv Z h0 o5 c1 .int (8 : Int32) [(.int u1), (.int 0), (.int 0), (.int 0), (.int 0), (.int 0), (.int 0), (.int 0)] (.int 0)) (ne_o0_o1 : o0 ≠ o1) (ne_o0_o2 : o0 ≠ o2) (ne_o0_o3 : o0 ≠ o3) (ne_o0_o4 : o0 ≠ o4) (ne_o0_o5 : o0 ≠ o5) (g_o0 : n0 ≤ o0) (hq0 : u1 < u0) :
    OwnC l Z (⟨OwnK0, "search", "(I)I"⟩ : MethodName) prog_48_method_4_code 4 (some .int) ws ({ frames := 2, cells := 0, slots := 0, locals := 34 } : Room) #[(.ref o0), (.int u0)] h0 (fun v h L => v = some (.int (-1)) ∧ Fr n0 L ∧ Keep h0 h [o0] ∧ Fld Z h o0 OwnK0 "count" "I" (.int 1) ∧ Fld Z h o0 OwnK0 "ends" "[I" (.ref o1) ∧ Fld Z h o0 OwnK0 "lastOpened" "I" (.int 0) ∧ Fld Z h o0 OwnK0 "segmentEnd" "[I" (.ref o2) ∧ Fld Z h o0 OwnK0 "segmentFirst" "[I" (.ref o3) ∧ Fld Z h o0 OwnK0 "segmentLimit" "[I" (.ref o4) ∧ Fld Z h o0 OwnK0 "segments" "I" (.int 1) ∧ Fld Z h o0 OwnK0 "starts" "[I" (.ref o5) ∧ Fld Z h o0 OwnK0 "cursor" "I" (.int 1)) := by
  refine own_entry pf_com_example_wirelens_wirelens_wire_GroupEnds_search__I_I (fun m => ef_sp13 m o0 u0) ?_
  intro p e s m below meth c T0 X0 hC e0
  obtain ⟨hx, hby, hml, hown, hnm, hret, hlk, hZ⟩ := hC
  have N0 := Fr.nil n0
  have K0 := Keep.refl h0 [o0]
  refine own_go T0 m 1 #[rv o0, iv u0, .unset, .unset] [(.ref o0)] (fun t k => XS.aloadN X0.here hx rfl (hb hby d8_0) rfl rfl k) ?_
  obtain ⟨T1, X1, e1, st1⟩ := getF X0 hx hZ hown (host := "") (Or.inl (own_w hw 14 rfl)) Via.refl e0 F_segmentFirst_o0 (g := (mkF m 1 #[rv o0, iv u0, .unset, .unset] [(.ref o0)])) rfl rfl (hb hby d8_1)
  refine own_go T1 m 4 #[rv o0, iv u0, .unset, .unset] [(.ref o3)] (st1) ?_
  refine own_go T1 m 5 #[rv o0, iv u0, .unset, .unset] [(.ref o0), (.ref o3)] (fun t k => XS.aloadN X1.here hx rfl (hb hby d8_4) rfl rfl k) ?_
  obtain ⟨T2, X2, e2, st2⟩ := getF X1 hx hZ hown (host := "") (Or.inl (own_w hw 27 rfl)) Via.refl e1 F_segments_o0 (g := (mkF m 5 #[rv o0, iv u0, .unset, .unset] [(.ref o0), (.ref o3)])) rfl rfl (hb hby d8_5)
  refine own_go T2 m 8 #[rv o0, iv u0, .unset, .unset] [(.int 1), (.ref o3)] (st2) ?_
  refine own_go T2 m 9 #[rv o0, iv u0, .unset, .unset] [(.int 1), (.int 1), (.ref o3)] (fun t k => XS.iconst X2.here hx rfl (hb hby d8_8) k) ?_
  refine own_go T2 m 10 #[rv o0, iv u0, .unset, .unset] [(.int ((1 : Int32) - (1 : Int32))), (.ref o3)] (fun t k => XS.isub X2.here hx rfl (hb hby d8_9) rfl k) ?_
  rw [show ((1 : Int32) - (1 : Int32)) = (0 : Int32) from by decide]
  refine own_go T2 m 11 #[rv o0, iv u0, .unset, .unset] [(.int 0)] (own_iaload X2 hx hZ e2 V_o3 (j := (0 : Int32)) ⟨by decide, by decide⟩ rfl (hb hby d8_10)) ?_
  refine own_go T2 m 12 #[rv o0, iv u0, iv 0, .unset] [] (fun t k => XS.istoreN X2.here hx rfl (hb hby d8_11) rfl rfl k) ?_
  refine own_go T2 m 13 #[rv o0, iv u0, iv 0, .unset] [(.ref o0)] (fun t k => XS.aloadN X2.here hx rfl (hb hby d8_12) rfl rfl k) ?_
  obtain ⟨T4, X4, e4, st4⟩ := getF X2 hx hZ hown (host := "") (Or.inl (own_w hw 20 rfl)) Via.refl e2 F_cursor_o0 (g := (mkF m 13 #[rv o0, iv u0, iv 0, .unset] [(.ref o0)])) rfl rfl (hb hby d8_13)
  refine own_go T4 m 16 #[rv o0, iv u0, iv 0, .unset] [(.int (-1))] (st4) ?_
  refine own_go T4 m 17 #[rv o0, iv u0, iv 0, iv (-1)] [] (fun t k => XS.istoreN X4.here hx rfl (hb hby d8_16) rfl rfl k) ?_
  refine own_go T4 m 18 #[rv o0, iv u0, iv 0, iv (-1)] [(.int (-1))] (fun t k => XS.iloadN X4.here hx rfl (hb hby d8_17) rfl k) ?_
  refine own_go T4 m 19 #[rv o0, iv u0, iv 0, iv (-1)] [(.int 0), (.int (-1))] (fun t k => XS.iloadN X4.here hx rfl (hb hby d8_18) rfl k) ?_
  refine own_go T4 m 39 #[rv o0, iv u0, iv 0, iv (-1)] [] (fun t k => XS.icmpYes X4.here hx rfl (pc0 := 19) (pc' := 39) rfl (hb hby d8_19) rfl (tlt (by decide)).1 (by decide) (by decide) k) ?_
  refine own_go T4 m 40 #[rv o0, iv u0, iv 0, iv (-1)] [(.ref o0)] (fun t k => XS.aloadN X4.here hx rfl (hb hby d8_39) rfl rfl k) ?_
  obtain ⟨T5, X5, e5, st5⟩ := getF X4 hx hZ hown (host := "") (Or.inl (own_w hw 10 rfl)) Via.refl e4 F_starts_o0 (g := (mkF m 40 #[rv o0, iv u0, iv 0, iv (-1)] [(.ref o0)])) rfl rfl (hb hby d8_40)
  refine own_go T5 m 43 #[rv o0, iv u0, iv 0, iv (-1)] [(.ref o5)] (st5) ?_
  refine own_go T5 m 44 #[rv o0, iv u0, iv 0, iv (-1)] [(.int 0), (.ref o5)] (fun t k => XS.iloadN X5.here hx rfl (hb hby d8_43) rfl k) ?_
  refine own_go T5 m 45 #[rv o0, iv u0, iv 0, iv (-1)] [(.ref o0), (.int 0), (.ref o5)] (fun t k => XS.aloadN X5.here hx rfl (hb hby d8_44) rfl rfl k) ?_
  obtain ⟨T6, X6, e6, st6⟩ := getF X5 hx hZ hown (host := "") (Or.inl (own_w hw 29 rfl)) Via.refl e5 F_count_o0 (g := (mkF m 45 #[rv o0, iv u0, iv 0, iv (-1)] [(.ref o0), (.int 0), (.ref o5)])) rfl rfl (hb hby d8_45)
  refine own_go T6 m 48 #[rv o0, iv u0, iv 0, iv (-1)] [(.int 1), (.int 0), (.ref o5)] (st6) ?_
  refine own_go T6 m 49 #[rv o0, iv u0, iv 0, iv (-1)] [(.int u0), (.int 1), (.int 0), (.ref o5)] (fun t k => XS.iloadN X6.here hx rfl (hb hby d8_48) rfl k) ?_
  obtain ⟨_, T7, L7, X7, ⟨rfl, e7, rfl⟩, st7⟩ := own_static X6 hx hZ (y := (⟨"java/util/Arrays", "binarySearch", "([IIII)I"⟩ : MethodName)) hown (own_w hw 56 rfl) (own_w hw 57 rfl) (own_w hw 58 rfl) (own_w hw 59 rfl) (by decide) (sp14 l Z a0 hw [] o5 u0 u1 c1 h0 n0 Z0 V_o5 hq0) e6 0 (argsL := [(.ref o5), (.int 0), (.int 1), (.int u0)]) (rest := []) (Ls := #[rv o0, iv u0, iv 0, iv (-1)]) (by rw [hml]; rfl) (lenOf pd___IIII_I rfl) rfl rfl (Nat.le_of_eq rfl) (hb hby d8_49) (by decide) (by decide) (by decide) (by decide)
  replace X7 := own_nil X7
  refine own_go T7 m 52 #[rv o0, iv u0, iv 0, iv (-1)] [(.int (-2))] (st7) ?_
  refine own_go T7 m 53 #[rv o0, iv u0, iv 0, iv (-2)] [] (fun t k => XS.istoreN X7.here hx rfl (hb hby d8_52) rfl rfl k) ?_
  refine own_go T7 m 54 #[rv o0, iv u0, iv 0, iv (-2)] [(.int (-2))] (fun t k => XS.iloadN X7.here hx rfl (hb hby d8_53) rfl k) ?_
  refine own_go T7 m 57 #[rv o0, iv u0, iv 0, iv (-2)] [] (fun t k => XS.ifNo X7.here hx rfl (hb hby d8_54) rfl ((if0 _ _).trans (tlt (by decide)).2.1) k) ?_
  refine own_go T7 m 58 #[rv o0, iv u0, iv 0, iv (-2)] [(.int (-2))] (fun t k => XS.iloadN X7.here hx rfl (hb hby d8_57) rfl k) ?_
  refine own_go T7 m 59 #[rv o0, iv u0, iv 0, iv (-2)] [(.int (-(-2 : Int32)))] (fun t k => XS.ineg X7.here hx rfl (hb hby d8_58) rfl k) ?_
  rw [show (-(-2 : Int32)) = (2 : Int32) from by decide]
  refine own_go T7 m 60 #[rv o0, iv u0, iv 0, iv (-2)] [(.int 1), (.int 2)] (fun t k => XS.iconst X7.here hx rfl (hb hby d8_59) k) ?_
  refine own_go T7 m 61 #[rv o0, iv u0, iv 0, iv (-2)] [(.int ((2 : Int32) - (1 : Int32)))] (fun t k => XS.isub X7.here hx rfl (hb hby d8_60) rfl k) ?_
  rw [show ((2 : Int32) - (1 : Int32)) = (1 : Int32) from by decide]
  refine own_go T7 m 65 #[rv o0, iv u0, iv 0, iv (-2)] [(.int 1)] (fun t k => XS.goto X7.here hx rfl (pc0 := 61) (pc' := 65) rfl (hb hby d8_61) (by decide) (by decide) k) ?_
  refine own_go T7 m 66 #[rv o0, iv u0, iv 0, iv 1] [] (fun t k => XS.istoreN X7.here hx rfl (hb hby d8_65) rfl rfl k) ?_
  refine own_go T7 m 93 #[rv o0, iv u0, iv 0, iv 1] [] (fun t k => XS.goto X7.here hx rfl (pc0 := 66) (pc' := 93) rfl (hb hby d8_66) (by decide) (by decide) k) ?_
  refine own_go T7 m 94 #[rv o0, iv u0, iv 0, iv 1] [(.ref o0)] (fun t k => XS.aloadN X7.here hx rfl (hb hby d8_93) rfl rfl k) ?_
  refine own_go T7 m 95 #[rv o0, iv u0, iv 0, iv 1] [(.int 1), (.ref o0)] (fun t k => XS.iloadN X7.here hx rfl (hb hby d8_94) rfl k) ?_
  obtain ⟨T8, h8, X8, e8, W8, st8⟩ := putF X7 hx hZ hown (host := "") (Or.inl (own_w hw 20 rfl)) Via.refl e7 F_cursor_o0 E_o0 (Or.inl (own_w hw 21 rfl)) (own_w hw 1 rfl) (ty := .int) (by decide) rfl rfl (g := (mkF m 95 #[rv o0, iv u0, iv 0, iv 1] [(.int 1), (.ref o0)])) rfl rfl (hb hby d8_95)
  have F8 := F_cursor_o0.same W8
  have cf9 := E_o0.wr W8
  have cf10 := F_count_o0.other W8 (Or.inr (slot_ne (Or.inl (own_w hw 30 rfl)) (Or.inl (own_w hw 21 rfl)) (by decide) (t := .int) (t' := .int) (by decide) (by decide)))
  have cf11 := F_ends_o0.other W8 (Or.inr (slot_ne (Or.inl (own_w hw 13 rfl)) (Or.inl (own_w hw 21 rfl)) (by decide) (t := (.array .int)) (t' := .int) (by decide) (by decide)))
  have cf12 := F_lastOpened_o0.other W8 (Or.inr (slot_ne (Or.inl (own_w hw 37 rfl)) (Or.inl (own_w hw 21 rfl)) (by decide) (t := .int) (t' := .int) (by decide) (by decide)))
  have cf13 := F_segmentEnd_o0.other W8 (Or.inr (slot_ne (Or.inl (own_w hw 17 rfl)) (Or.inl (own_w hw 21 rfl)) (by decide) (t := (.array .int)) (t' := .int) (by decide) (by decide)))
  have cf14 := F_segmentFirst_o0.other W8 (Or.inr (slot_ne (Or.inl (own_w hw 15 rfl)) (Or.inl (own_w hw 21 rfl)) (by decide) (t := (.array .int)) (t' := .int) (by decide) (by decide)))
  have cf15 := F_segmentLimit_o0.other W8 (Or.inr (slot_ne (Or.inl (own_w hw 19 rfl)) (Or.inl (own_w hw 21 rfl)) (by decide) (t := (.array .int)) (t' := .int) (by decide) (by decide)))
  have cf16 := F_segments_o0.other W8 (Or.inr (slot_ne (Or.inl (own_w hw 28 rfl)) (Or.inl (own_w hw 21 rfl)) (by decide) (t := .int) (t' := .int) (by decide) (by decide)))
  have cf17 := F_starts_o0.other W8 (Or.inr (slot_ne (Or.inl (own_w hw 11 rfl)) (Or.inl (own_w hw 21 rfl)) (by decide) (t := (.array .int)) (t' := .int) (by decide) (by decide)))
  have cf18 := V_o3.other W8 (Ne.symm ne_o0_o3)
  have cf19 := V_o5.other W8 (Ne.symm ne_o0_o5)
  have Z_8 : n0 ≤ h8.size := Nat.le_trans Z0 (Keep.of_wr W8).1
  have K_8 : Keep h0 h8 [o0] := K0.wr W8 (own_i 0 rfl)
  have N8 := Fr.snoc X8 N0 g_o0
  refine own_go T8 m 98 #[rv o0, iv u0, iv 0, iv 1] [] (st8) ?_
  refine own_go T8 m 99 #[rv o0, iv u0, iv 0, iv 1] [(.int 1)] (fun t k => XS.iloadN X8.here hx rfl (hb hby d8_98) rfl k) ?_
  refine own_go T8 m 100 #[rv o0, iv u0, iv 0, iv 1] [(.ref o0), (.int 1)] (fun t k => XS.aloadN X8.here hx rfl (hb hby d8_99) rfl rfl k) ?_
  obtain ⟨T20, X20, e20, st20⟩ := getF X8 hx hZ hown (host := "") (Or.inl (own_w hw 29 rfl)) Via.refl e8 cf10 (g := (mkF m 100 #[rv o0, iv u0, iv 0, iv 1] [(.ref o0), (.int 1)])) rfl rfl (hb hby d8_100)
  refine own_go T20 m 103 #[rv o0, iv u0, iv 0, iv 1] [(.int 1), (.int 1)] (st20) ?_
  refine own_go T20 m 120 #[rv o0, iv u0, iv 0, iv 1] [] (fun t k => XS.icmpYes X20.here hx rfl (pc0 := 103) (pc' := 120) rfl (hb hby d8_103) rfl (flt (by decide)).2.1 (by decide) (by decide) k) ?_
  refine own_go T20 m 121 #[rv o0, iv u0, iv 0, iv 1] [(.int (-1))] (fun t k => XS.iconst X20.here hx rfl (hb hby d8_120) k) ?_
  refine own_retI X20 hx hlk hret (hb hby d8_121) (by decide) (by decide) ?_
  rw [e20]
  exact ⟨rfl, N8, K_8, cf10, cf11, cf12, cf13, cf14, cf15, cf16, cf17, F8⟩
theorem ef_sp11 (m : MethodId) (q0 : Addr) (q1 : Int32) (q2 : Int32) : entryFrame m #[(.ref q0), (.int q1), (.int q2)] 5 = mkF m 0 #[rv q0, iv q1, iv q2, .unset, .unset] [] := by first | (simp [entryFrame, mkF, argsToLocals, Value.category]; done) | rfl
set_option maxRecDepth 65536 in
set_option maxHeartbeats 40000000 in
theorem sp11 (l : Launch) (Z : State) (a0 : Array Value) (hw : ∀ d ∈ tables_1, d.before a0 Z = true) (ws : List Jvm.Cond) (o0 o1 o2 o3 o4 o5 : Addr) (u0 : Int32) (u1 : Int32) (u2 : Int32) (u3 : Int32) (c0 : ClassId) (c1 : ClassId) (c2 : ClassId) (h0 : Heap) (n0 : Nat) (Z0 : n0 ≤ h0.size) (E_o0 : Exa Z h0 o0 OwnK0) (F_count_o0 : Fld Z h0 o0 OwnK0 "count" "I" (.int 1)) (F_cursor_o0 : Fld Z h0 o0 OwnK0 "cursor" "I" (.int (-1))) (F_ends_o0 : Fld Z h0 o0 OwnK0 "ends" "[I" (.ref o1)) (F_lastOpened_o0 : Fld Z h0 o0 OwnK0 "lastOpened" "I" (.int 0)) (F_segmentEnd_o0 : Fld Z h0 o0 OwnK0 "segmentEnd" "[I" (.ref o2)) (F_segmentFirst_o0 : Fld Z h0 o0 OwnK0 "segmentFirst" "[I" (.ref o3)) (F_segmentLimit_o0 : Fld Z h0 o0 OwnK0 "segmentLimit" "[I" (.ref o4)) (F_segments_o0 : Fld Z h0 o0 OwnK0 "segments" "I" (.int 1)) (F_starts_o0 : Fld Z h0 o0 OwnK0 "starts" "[I" (.ref o5)) (V_o2 : Arv Z h0 o2 c0 .int (8 : Int32) [(.int u2), (.int 0), (.int 0), (.int 0), (.int 0), (.int 0), (.int 0), (.int 0)] (.int 0)) (V_o3 : Arv Z h0 o3 c1 .int (8 : Int32) [(.int 0), (.int 0), (.int 0), (.int 0), (.int 0), (.int 0), (.int 0), (.int 0)] (.int 0)) (V_o5 : Arv Z h0 o5 c2 .int (8 : Int32) [(.int u3), (.int 0), (.int 0), (.int 0), (.int 0), (.int 0), (.int 0), (.int 0)] (.int 0)) (ne_o0_o1 : o0 ≠ o1) (ne_o0_o2 : o0 ≠ o2) (ne_o0_o3 : o0 ≠ o3) (ne_o0_o4 : o0 ≠ o4) (ne_o0_o5 : o0 ≠ o5) (g_o0 : n0 ≤ o0) (hq0 : ¬ (u0 < u3)) (hq1 : u0 < u2) (hq2 : u3 < u0) :
    OwnC l Z (⟨OwnK0, "find", "(II)I"⟩ : MethodName) prog_48_method_2_code 5 (some .int) ws ({ frames := 3, cells := 0, slots := 0, locals := 49 } : Room) #[(.ref o0), (.int u0), (.int u1)] h0 (fun v h L => v = some (.int (-1)) ∧ Fr n0 L ∧ Keep h0 h [o0] ∧ Fld Z h o0 OwnK0 "count" "I" (.int 1) ∧ Fld Z h o0 OwnK0 "ends" "[I" (.ref o1) ∧ Fld Z h o0 OwnK0 "lastOpened" "I" (.int 0) ∧ Fld Z h o0 OwnK0 "segmentEnd" "[I" (.ref o2) ∧ Fld Z h o0 OwnK0 "segmentFirst" "[I" (.ref o3) ∧ Fld Z h o0 OwnK0 "segmentLimit" "[I" (.ref o4) ∧ Fld Z h o0 OwnK0 "segments" "I" (.int 1) ∧ Fld Z h o0 OwnK0 "starts" "[I" (.ref o5) ∧ Fld Z h o0 OwnK0 "cursor" "I" (.int 1)) := by
  refine own_entry pf_com_example_wirelens_wirelens_wire_GroupEnds_find__II_I (fun m => ef_sp11 m o0 u0 u1) ?_
  intro p e s m below meth c T0 X0 hC e0
  obtain ⟨hx, hby, hml, hown, hnm, hret, hlk, hZ⟩ := hC
  have N0 := Fr.nil n0
  have K0 := Keep.refl h0 [o0]
  refine own_go T0 m 1 #[rv o0, iv u0, iv u1, .unset, .unset] [(.ref o0)] (fun t k => XS.aloadN X0.here hx rfl (hb hby d6_0) rfl rfl k) ?_
  obtain ⟨T1, X1, e1, st1⟩ := getF X0 hx hZ hown (host := "") (Or.inl (own_w hw 27 rfl)) Via.refl e0 F_segments_o0 (g := (mkF m 1 #[rv o0, iv u0, iv u1, .unset, .unset] [(.ref o0)])) rfl rfl (hb hby d6_1)
  refine own_go T1 m 4 #[rv o0, iv u0, iv u1, .unset, .unset] [(.int 1)] (st1) ?_
  refine own_go T1 m 7 #[rv o0, iv u0, iv u1, .unset, .unset] [] (fun t k => XS.ifNo X1.here hx rfl (hb hby d6_4) rfl ((if0 _ _).trans (tlt (by decide)).2.2.2) k) ?_
  refine own_go T1 m 8 #[rv o0, iv u0, iv u1, .unset, .unset] [(.ref o0)] (fun t k => XS.aloadN X1.here hx rfl (hb hby d6_7) rfl rfl k) ?_
  refine own_go T1 m 9 #[rv o0, iv u0, iv u1, .unset, .unset] [(.int u0), (.ref o0)] (fun t k => XS.iloadN X1.here hx rfl (hb hby d6_8) rfl k) ?_
  obtain ⟨_, T2, L2, X2, ⟨rfl, e2, rfl⟩, st2⟩ := own_private X1 hx hZ (y := (⟨OwnK0, "newestCovers", "(I)Z"⟩ : MethodName)) hown (own_w hw 48 rfl) (own_w hw 49 rfl) (own_w hw 50 rfl) (own_w hw 1 rfl) (own_w hw 2 rfl) (own_w hw 51 rfl) (by decide) (sp12 l Z a0 hw [] o0 o2 o3 o5 u0 u2 u3 c0 c1 c2 h0 n0 Z0 F_segmentEnd_o0 F_segmentFirst_o0 F_segments_o0 F_starts_o0 V_o2 V_o3 V_o5 hq0 hq1) e1 E_o0 0 (argsL := [(.int u0)]) (rest := []) (Ls := #[rv o0, iv u0, iv u1, .unset, .unset]) (by rw [hml]; rfl) (lenOf pd__I_Z rfl) rfl rfl (Nat.le_of_eq rfl) (hb hby d6_9) (by decide) (by decide) (by decide) (by decide)
  replace X2 := own_nil X2
  refine own_go T2 m 12 #[rv o0, iv u0, iv u1, .unset, .unset] [(.int 1)] (st2) ?_
  refine own_go T2 m 46 #[rv o0, iv u0, iv u1, .unset, .unset] [] (fun t k => XS.ifYes X2.here hx rfl (pc0 := 12) (pc' := 46) rfl (hb hby d6_12) rfl ((if0 _ _).trans (feq (by decide)).2) (by decide) (by decide) k) ?_
  refine own_go T2 m 47 #[rv o0, iv u0, iv u1, .unset, .unset] [(.ref o0)] (fun t k => XS.aloadN X2.here hx rfl (hb hby d6_46) rfl rfl k) ?_
  obtain ⟨T3, X3, e3, st3⟩ := getF X2 hx hZ hown (host := "") (Or.inl (own_w hw 27 rfl)) Via.refl e2 F_segments_o0 (g := (mkF m 47 #[rv o0, iv u0, iv u1, .unset, .unset] [(.ref o0)])) rfl rfl (hb hby d6_47)
  refine own_go T3 m 50 #[rv o0, iv u0, iv u1, .unset, .unset] [(.int 1)] (st3) ?_
  refine own_go T3 m 57 #[rv o0, iv u0, iv u1, .unset, .unset] [] (fun t k => XS.ifYes X3.here hx rfl (pc0 := 50) (pc' := 57) rfl (hb hby d6_50) rfl ((if0 _ _).trans (feq (by decide)).2) (by decide) (by decide) k) ?_
  refine own_go T3 m 58 #[rv o0, iv u0, iv u1, .unset, .unset] [(.ref o0)] (fun t k => XS.aloadN X3.here hx rfl (hb hby d6_57) rfl rfl k) ?_
  refine own_go T3 m 59 #[rv o0, iv u0, iv u1, .unset, .unset] [(.int u0), (.ref o0)] (fun t k => XS.iloadN X3.here hx rfl (hb hby d6_58) rfl k) ?_
  obtain ⟨_, T4, L4, X4, ⟨rfl, Nq4, Kq4, fq0_4, fq1_4, fq2_4, fq3_4, fq4_4, fq5_4, fq6_4, fq7_4, fq8_4⟩, st4⟩ := own_private X3 hx hZ (y := (⟨OwnK0, "search", "(I)I"⟩ : MethodName)) hown (own_w hw 52 rfl) (own_w hw 53 rfl) (own_w hw 54 rfl) (own_w hw 1 rfl) (own_w hw 2 rfl) (own_w hw 55 rfl) (by decide) (sp13 l Z a0 hw [] o0 o1 o2 o3 o4 o5 u0 u3 c1 c2 h0 n0 Z0 E_o0 F_count_o0 F_cursor_o0 F_ends_o0 F_lastOpened_o0 F_segmentEnd_o0 F_segmentFirst_o0 F_segmentLimit_o0 F_segments_o0 F_starts_o0 V_o3 V_o5 ne_o0_o1 ne_o0_o2 ne_o0_o3 ne_o0_o4 ne_o0_o5 g_o0 hq2) e3 E_o0 0 (argsL := [(.int u0)]) (rest := []) (Ls := #[rv o0, iv u0, iv u1, .unset, .unset]) (by rw [hml]; rfl) (lenOf pd__I_I rfl) rfl rfl (Nat.le_of_eq rfl) (hb hby d6_59) (by decide) (by decide) (by decide) (by decide)
  have N4 := Fr.app N0 Nq4
  have cf5 := E_o0.keep Kq4
  have cf6 := V_o2.keep Kq4 (ninS (Ne.symm ne_o0_o2) nin0)
  have cf7 := V_o3.keep Kq4 (ninS (Ne.symm ne_o0_o3) nin0)
  have cf8 := V_o5.keep Kq4 (ninS (Ne.symm ne_o0_o5) nin0)
  have Z_4 : n0 ≤ T4.heap.size := Nat.le_trans Z0 Kq4.1
  have K_4 : Keep h0 T4.heap [o0] := K0.trans Kq4 (allS (own_i 0 rfl) all0)
  refine own_go T4 m 62 #[rv o0, iv u0, iv u1, .unset, .unset] [(.int (-1))] (st4) ?_
  refine own_go T4 m 63 #[rv o0, iv u0, iv u1, iv (-1), .unset] [] (fun t k => XS.istoreN X4.here hx rfl (hb hby d6_62) rfl rfl k) ?_
  refine own_go T4 m 64 #[rv o0, iv u0, iv u1, iv (-1), .unset] [(.int (-1))] (fun t k => XS.iloadN X4.here hx rfl (hb hby d6_63) rfl k) ?_
  refine own_go T4 m 67 #[rv o0, iv u0, iv u1, iv (-1), .unset] [] (fun t k => XS.ifNo X4.here hx rfl (hb hby d6_64) rfl ((if0 _ _).trans (tlt (by decide)).2.1) k) ?_
  refine own_go T4 m 68 #[rv o0, iv u0, iv u1, iv (-1), .unset] [(.int (-1))] (fun t k => XS.iconst X4.here hx rfl (hb hby d6_67) k) ?_
  refine own_go T4 m 70 #[rv o0, iv u0, iv u1, iv (-1), iv (-1)] [] (fun t k => XS.istore X4.here hx rfl (hb hby d6_68) rfl rfl k) ?_
  refine own_go T4 m 113 #[rv o0, iv u0, iv u1, iv (-1), iv (-1)] [] (fun t k => XS.goto X4.here hx rfl (pc0 := 70) (pc' := 113) rfl (hb hby d6_70) (by decide) (by decide) k) ?_
  refine own_go T4 m 115 #[rv o0, iv u0, iv u1, iv (-1), iv (-1)] [(.int (-1))] (fun t k => XS.iload X4.here hx rfl (hb hby d6_113) rfl k) ?_
  refine own_retI X4 hx hlk hret (hb hby d6_115) (by decide) (by decide) ?_
  exact ⟨rfl, N4, K_4, fq0_4, fq1_4, fq2_4, fq3_4, fq4_4, fq5_4, fq6_4, fq7_4, fq8_4⟩
theorem own_db1 (t0 t1 t2 t3 t4 : Int32) (h0 : ¬ (t0 = (0 : Int32))) (h1 : t1 = (0 : Int32)) (h2 : ¬ (t2 < t3)) (h3 : t2 < t4) (h4 : t3 < t2) : ¬ (t2 = t3) := by
  simp only [Int32.lt_iff_toInt_lt, ← Int32.toInt_inj, Int32.reduceToInt] at *
  omega
theorem own_db2 (t0 t1 t2 t3 t4 : Int32) (h0 : ¬ (t0 = (0 : Int32))) (h1 : t1 = (0 : Int32)) (h2 : ¬ (t2 < t3)) (h3 : t2 < t4) (h4 : ¬ (t3 < t2)) : t3 = t2 := by
  simp only [Int32.lt_iff_toInt_lt, ← Int32.toInt_inj, Int32.reduceToInt] at *
  omega
theorem own_db3 (t0 t1 t2 t3 t4 t5 t6 : Int32) (h0 : ¬ (t0 = (0 : Int32))) (h1 : t1 = (0 : Int32)) (h2 : ¬ (t2 < t3)) (h3 : t2 < t4) (h4 : ¬ (t3 < t2)) (h5 : t5 < t6) : t3 = t2 := by
  simp only [Int32.lt_iff_toInt_lt, ← Int32.toInt_inj, Int32.reduceToInt] at *
  omega
theorem ef_sp20 (m : MethodId) (q0 : Addr) (q1 : Int32) (q2 : Int32) (q3 : Int32) : entryFrame m #[(.ref q0), (.int q1), (.int q2), (.int q3)] 8 = mkF m 0 #[rv q0, iv q1, iv q2, iv q3, .unset, .unset, .unset, .unset] [] := by first | (simp [entryFrame, mkF, argsToLocals, Value.category]; done) | rfl
set_option maxRecDepth 65536 in
set_option maxHeartbeats 40000000 in
theorem sp20 (l : Launch) (Z : State) (a0 : Array Value) (hw : ∀ d ∈ tables_1, d.before a0 Z = true) (ws : List Jvm.Cond) (o0 : Addr) (u0 : Int32) (u1 : Int32) (c0 : ClassId) (h0 : Heap) (n0 : Nat) (Z0 : n0 ≤ h0.size) (V_o0 : Arv Z h0 o0 c0 .int (8 : Int32) [(.int u1), (.int 0), (.int 0), (.int 0), (.int 0), (.int 0), (.int 0), (.int 0)] (.int 0)) (hq0 : ¬ (u1 < u0)) (hq1 : ¬ (u0 < u1)) :
    OwnC l Z (⟨"java/util/Arrays", "binarySearch0", "([IIII)I"⟩ : MethodName) jdk_65_method_59_code 8 (some .int) ws ({ frames := 0, cells := 0, slots := 0, locals := 0 } : Room) #[(.ref o0), (.int 0), (.int 1), (.int u0)] h0 (fun v h L => v = some (.int 0) ∧ h = h0 ∧ L = []) := by
  refine own_entry pf_java_util_Arrays_binarySearch0___IIII_I (fun m => ef_sp20 m o0 (0 : Int32) (1 : Int32) u0) ?_
  intro p e s m below meth c T0 X0 hC e0
  obtain ⟨hx, hby, hml, hown, hnm, hret, hlk, hZ⟩ := hC
  have N0 := Fr.nil n0
  have K0 := Keep.refl h0 []
  refine own_go T0 m 1 #[rv o0, iv 0, iv 1, iv u0, .unset, .unset, .unset, .unset] [(.int 0)] (fun t k => XS.iloadN X0.here hx rfl (hb hby d11_0) rfl k) ?_
  refine own_go T0 m 3 #[rv o0, iv 0, iv 1, iv u0, iv 0, .unset, .unset, .unset] [] (fun t k => XS.istore X0.here hx rfl (hb hby d11_1) rfl rfl k) ?_
  refine own_go T0 m 4 #[rv o0, iv 0, iv 1, iv u0, iv 0, .unset, .unset, .unset] [(.int 1)] (fun t k => XS.iloadN X0.here hx rfl (hb hby d11_3) rfl k) ?_
  refine own_go T0 m 5 #[rv o0, iv 0, iv 1, iv u0, iv 0, .unset, .unset, .unset] [(.int 1), (.int 1)] (fun t k => XS.iconst X0.here hx rfl (hb hby d11_4) k) ?_
  refine own_go T0 m 6 #[rv o0, iv 0, iv 1, iv u0, iv 0, .unset, .unset, .unset] [(.int ((1 : Int32) - (1 : Int32)))] (fun t k => XS.isub X0.here hx rfl (hb hby d11_5) rfl k) ?_
  rw [show ((1 : Int32) - (1 : Int32)) = (0 : Int32) from by decide]
  refine own_go T0 m 8 #[rv o0, iv 0, iv 1, iv u0, iv 0, iv 0, .unset, .unset] [] (fun t k => XS.istore X0.here hx rfl (hb hby d11_6) rfl rfl k) ?_
  refine own_go T0 m 10 #[rv o0, iv 0, iv 1, iv u0, iv 0, iv 0, .unset, .unset] [(.int 0)] (fun t k => XS.iload X0.here hx rfl (hb hby d11_8) rfl k) ?_
  refine own_go T0 m 12 #[rv o0, iv 0, iv 1, iv u0, iv 0, iv 0, .unset, .unset] [(.int 0), (.int 0)] (fun t k => XS.iload X0.here hx rfl (hb hby d11_10) rfl k) ?_
  refine own_go T0 m 15 #[rv o0, iv 0, iv 1, iv u0, iv 0, iv 0, .unset, .unset] [] (fun t k => XS.icmpNo X0.here hx rfl (hb hby d11_12) rfl (flt (by decide)).2.2.1 k) ?_
  refine own_go T0 m 17 #[rv o0, iv 0, iv 1, iv u0, iv 0, iv 0, .unset, .unset] [(.int 0)] (fun t k => XS.iload X0.here hx rfl (hb hby d11_15) rfl k) ?_
  refine own_go T0 m 19 #[rv o0, iv 0, iv 1, iv u0, iv 0, iv 0, .unset, .unset] [(.int 0), (.int 0)] (fun t k => XS.iload X0.here hx rfl (hb hby d11_17) rfl k) ?_
  refine own_go T0 m 20 #[rv o0, iv 0, iv 1, iv u0, iv 0, iv 0, .unset, .unset] [(.int ((0 : Int32) + (0 : Int32)))] (fun t k => XS.iadd X0.here hx rfl (hb hby d11_19) rfl k) ?_
  rw [show ((0 : Int32) + (0 : Int32)) = (0 : Int32) from by decide]
  refine own_go T0 m 21 #[rv o0, iv 0, iv 1, iv u0, iv 0, iv 0, .unset, .unset] [(.int 1), (.int 0)] (fun t k => XS.iconst X0.here hx rfl (hb hby d11_20) k) ?_
  refine own_go T0 m 22 #[rv o0, iv 0, iv 1, iv u0, iv 0, iv 0, .unset, .unset] [(.int (((0 : Int32).toUInt32 >>> ((1 : Int32) &&& 31).toUInt32).toInt32))] (fun t k => XS.iushr X0.here hx rfl (hb hby d11_21) rfl k) ?_
  rw [show (((0 : Int32).toUInt32 >>> ((1 : Int32) &&& 31).toUInt32).toInt32) = (0 : Int32) from by decide]
  refine own_go T0 m 24 #[rv o0, iv 0, iv 1, iv u0, iv 0, iv 0, iv 0, .unset] [] (fun t k => XS.istore X0.here hx rfl (hb hby d11_22) rfl rfl k) ?_
  refine own_go T0 m 25 #[rv o0, iv 0, iv 1, iv u0, iv 0, iv 0, iv 0, .unset] [(.ref o0)] (fun t k => XS.aloadN X0.here hx rfl (hb hby d11_24) rfl rfl k) ?_
  refine own_go T0 m 27 #[rv o0, iv 0, iv 1, iv u0, iv 0, iv 0, iv 0, .unset] [(.int 0), (.ref o0)] (fun t k => XS.iload X0.here hx rfl (hb hby d11_25) rfl k) ?_
  refine own_go T0 m 28 #[rv o0, iv 0, iv 1, iv u0, iv 0, iv 0, iv 0, .unset] [(.int u1)] (own_iaload X0 hx hZ e0 V_o0 (j := (0 : Int32)) ⟨by decide, by decide⟩ rfl (hb hby d11_27)) ?_
  refine own_go T0 m 30 #[rv o0, iv 0, iv 1, iv u0, iv 0, iv 0, iv 0, iv u1] [] (fun t k => XS.istore X0.here hx rfl (hb hby d11_28) rfl rfl k) ?_
  refine own_go T0 m 32 #[rv o0, iv 0, iv 1, iv u0, iv 0, iv 0, iv 0, iv u1] [(.int u1)] (fun t k => XS.iload X0.here hx rfl (hb hby d11_30) rfl k) ?_
  refine own_go T0 m 33 #[rv o0, iv 0, iv 1, iv u0, iv 0, iv 0, iv 0, iv u1] [(.int u0), (.int u1)] (fun t k => XS.iloadN X0.here hx rfl (hb hby d11_32) rfl k) ?_
  refine own_go T0 m 45 #[rv o0, iv 0, iv 1, iv u0, iv 0, iv 0, iv 0, iv u1] [] (fun t k => XS.icmpYes X0.here hx rfl (pc0 := 33) (pc' := 45) rfl (hb hby d11_33) rfl (flt hq0).2.1 (by decide) (by decide) k) ?_
  refine own_go T0 m 47 #[rv o0, iv 0, iv 1, iv u0, iv 0, iv 0, iv 0, iv u1] [(.int u1)] (fun t k => XS.iload X0.here hx rfl (hb hby d11_45) rfl k) ?_
  refine own_go T0 m 48 #[rv o0, iv 0, iv 1, iv u0, iv 0, iv 0, iv 0, iv u1] [(.int u0), (.int u1)] (fun t k => XS.iloadN X0.here hx rfl (hb hby d11_47) rfl k) ?_
  refine own_go T0 m 60 #[rv o0, iv 0, iv 1, iv u0, iv 0, iv 0, iv 0, iv u1] [] (fun t k => XS.icmpYes X0.here hx rfl (pc0 := 48) (pc' := 60) rfl (hb hby d11_48) rfl (flt hq1).2.2.2 (by decide) (by decide) k) ?_
  refine own_go T0 m 62 #[rv o0, iv 0, iv 1, iv u0, iv 0, iv 0, iv 0, iv u1] [(.int 0)] (fun t k => XS.iload X0.here hx rfl (hb hby d11_60) rfl k) ?_
  refine own_retI X0 hx hlk hret (hb hby d11_62) (by decide) (by decide) ?_
  exact ⟨rfl, e0, rfl⟩
theorem ef_sp19 (m : MethodId) (q0 : Addr) (q1 : Int32) (q2 : Int32) (q3 : Int32) : entryFrame m #[(.ref q0), (.int q1), (.int q2), (.int q3)] 4 = mkF m 0 #[rv q0, iv q1, iv q2, iv q3] [] := by first | (simp [entryFrame, mkF, argsToLocals, Value.category]; done) | rfl
set_option maxRecDepth 65536 in
set_option maxHeartbeats 40000000 in
theorem sp19 (l : Launch) (Z : State) (a0 : Array Value) (hw : ∀ d ∈ tables_1, d.before a0 Z = true) (ws : List Jvm.Cond) (o0 : Addr) (u0 : Int32) (u1 : Int32) (c0 : ClassId) (h0 : Heap) (n0 : Nat) (Z0 : n0 ≤ h0.size) (V_o0 : Arv Z h0 o0 c0 .int (8 : Int32) [(.int u1), (.int 0), (.int 0), (.int 0), (.int 0), (.int 0), (.int 0), (.int 0)] (.int 0)) (hq0 : ¬ (u1 < u0)) (hq1 : ¬ (u0 < u1)) :
    OwnC l Z (⟨"java/util/Arrays", "binarySearch", "([IIII)I"⟩ : MethodName) jdk_65_method_58_code 4 (some .int) ws ({ frames := 1, cells := 0, slots := 0, locals := 19 } : Room) #[(.ref o0), (.int 0), (.int 1), (.int u0)] h0 (fun v h L => v = some (.int 0) ∧ h = h0 ∧ L = []) := by
  refine own_entry pf_java_util_Arrays_binarySearch___IIII_I (fun m => ef_sp19 m o0 (0 : Int32) (1 : Int32) u0) ?_
  intro p e s m below meth c T0 X0 hC e0
  obtain ⟨hx, hby, hml, hown, hnm, hret, hlk, hZ⟩ := hC
  have N0 := Fr.nil n0
  have K0 := Keep.refl h0 []
  refine own_go T0 m 1 #[rv o0, iv 0, iv 1, iv u0] [(.ref o0)] (fun t k => XS.aloadN X0.here hx rfl (hb hby d9_0) rfl rfl k) ?_
  refine own_go T0 m 2 #[rv o0, iv 0, iv 1, iv u0] [(.int 8)] (own_alen X0 hx hZ e0 V_o0 (hb hby d9_1)) ?_
  refine own_go T0 m 3 #[rv o0, iv 0, iv 1, iv u0] [(.int 0), (.int 8)] (fun t k => XS.iloadN X0.here hx rfl (hb hby d9_2) rfl k) ?_
  refine own_go T0 m 4 #[rv o0, iv 0, iv 1, iv u0] [(.int 1), (.int 0), (.int 8)] (fun t k => XS.iloadN X0.here hx rfl (hb hby d9_3) rfl k) ?_
  obtain ⟨_, T2, L2, X2, ⟨rfl, e2, rfl⟩, st2⟩ := own_static X0 hx hZ (y := (⟨"java/util/Arrays", "rangeCheck", "(III)V"⟩ : MethodName)) hown (own_w hw 60 rfl) (own_w hw 61 rfl) (own_w hw 58 rfl) (own_w hw 62 rfl) (by decide) (sp15 l Z a0 hw []  h0 n0 Z0 ) e0 0 (argsL := [(.int 8), (.int 0), (.int 1)]) (rest := []) (Ls := #[rv o0, iv 0, iv 1, iv u0]) (by rw [hml]; rfl) (lenOf pd__III_V rfl) rfl rfl (Nat.le_of_eq rfl) (hb hby d9_4) (by decide) (by decide) (by decide) (by decide)
  replace X2 := own_nil X2
  refine own_go T2 m 7 #[rv o0, iv 0, iv 1, iv u0] [] (st2) ?_
  refine own_go T2 m 8 #[rv o0, iv 0, iv 1, iv u0] [(.ref o0)] (fun t k => XS.aloadN X2.here hx rfl (hb hby d9_7) rfl rfl k) ?_
  refine own_go T2 m 9 #[rv o0, iv 0, iv 1, iv u0] [(.int 0), (.ref o0)] (fun t k => XS.iloadN X2.here hx rfl (hb hby d9_8) rfl k) ?_
  refine own_go T2 m 10 #[rv o0, iv 0, iv 1, iv u0] [(.int 1), (.int 0), (.ref o0)] (fun t k => XS.iloadN X2.here hx rfl (hb hby d9_9) rfl k) ?_
  refine own_go T2 m 11 #[rv o0, iv 0, iv 1, iv u0] [(.int u0), (.int 1), (.int 0), (.ref o0)] (fun t k => XS.iloadN X2.here hx rfl (hb hby d9_10) rfl k) ?_
  obtain ⟨_, T3, L3, X3, ⟨rfl, e3, rfl⟩, st3⟩ := own_static X2 hx hZ (y := (⟨"java/util/Arrays", "binarySearch0", "([IIII)I"⟩ : MethodName)) hown (own_w hw 63 rfl) (own_w hw 64 rfl) (own_w hw 58 rfl) (own_w hw 65 rfl) (by decide) (sp20 l Z a0 hw [] o0 u0 u1 c0 h0 n0 Z0 V_o0 hq0 hq1) e2 0 (argsL := [(.ref o0), (.int 0), (.int 1), (.int u0)]) (rest := []) (Ls := #[rv o0, iv 0, iv 1, iv u0]) (by rw [hml]; rfl) (lenOf pd___IIII_I rfl) rfl rfl (Nat.le_of_eq rfl) (hb hby d9_11) (by decide) (by decide) (by decide) (by decide)
  replace X3 := own_nil X3
  refine own_go T3 m 14 #[rv o0, iv 0, iv 1, iv u0] [(.int 0)] (st3) ?_
  refine own_retI X3 hx hlk hret (hb hby d9_14) (by decide) (by decide) ?_
  exact ⟨rfl, e3, rfl⟩
theorem ef_sp18 (m : MethodId) (q0 : Addr) (q1 : Int32) : entryFrame m #[(.ref q0), (.int q1)] 4 = mkF m 0 #[rv q0, iv q1, .unset, .unset] [] := by first | (simp [entryFrame, mkF, argsToLocals, Value.category]; done) | rfl
set_option maxRecDepth 65536 in
set_option maxHeartbeats 40000000 in
theorem sp18 (l : Launch) (Z : State) (a0 : Array Value) (hw : ∀ d ∈ tables_1, d.before a0 Z = true) (ws : List Jvm.Cond) (o0 o1 o2 o3 o4 o5 : Addr) (u0 : Int32) (u1 : Int32) (c0 : ClassId) (c1 : ClassId) (h0 : Heap) (n0 : Nat) (Z0 : n0 ≤ h0.size) (E_o0 : Exa Z h0 o0 OwnK0) (F_count_o0 : Fld Z h0 o0 OwnK0 "count" "I" (.int 1)) (F_cursor_o0 : Fld Z h0 o0 OwnK0 "cursor" "I" (.int (-1))) (F_ends_o0 : Fld Z h0 o0 OwnK0 "ends" "[I" (.ref o1)) (F_lastOpened_o0 : Fld Z h0 o0 OwnK0 "lastOpened" "I" (.int 0)) (F_segmentEnd_o0 : Fld Z h0 o0 OwnK0 "segmentEnd" "[I" (.ref o2)) (F_segmentFirst_o0 : Fld Z h0 o0 OwnK0 "segmentFirst" "[I" (.ref o3)) (F_segmentLimit_o0 : Fld Z h0 o0 OwnK0 "segmentLimit" "[I" (.ref o4)) (F_segments_o0 : Fld Z h0 o0 OwnK0 "segments" "I" (.int 1)) (F_starts_o0 : Fld Z h0 o0 OwnK0 "starts" "[I" (.ref o5)) (V_o3 : Arv Z h0 o3 c0 .int (8 : Int32) [(.int 0), (.int 0), (.int 0), (.int 0), (.int 0), (.int 0), (.int 0), (.int 0)] (.int 0)) (V_o5 : Arv Z h0 o5 c1 .int (8 : Int32) [(.int u1), (.int 0), (.int 0), (.int 0), (.int 0), (.int 0), (.int 0), (.int 0)] (.int 0)) (ne_o0_o1 : o0 ≠ o1) (ne_o0_o2 : o0 ≠ o2) (ne_o0_o3 : o0 ≠ o3) (ne_o0_o4 : o0 ≠ o4) (ne_o0_o5 : o0 ≠ o5) (g_o0 : n0 ≤ o0) (hq0 : ¬ (u1 < u0)) (hq1 : ¬ (u0 < u1)) (hq2 : u1 = u0) :
    OwnC l Z (⟨OwnK0, "search", "(I)I"⟩ : MethodName) prog_48_method_4_code 4 (some .int) ws ({ frames := 2, cells := 0, slots := 0, locals := 34 } : Room) #[(.ref o0), (.int u0)] h0 (fun v h L => v = some (.int 0) ∧ Fr n0 L ∧ Keep h0 h [o0] ∧ Fld Z h o0 OwnK0 "count" "I" (.int 1) ∧ Fld Z h o0 OwnK0 "ends" "[I" (.ref o1) ∧ Fld Z h o0 OwnK0 "lastOpened" "I" (.int 0) ∧ Fld Z h o0 OwnK0 "segmentEnd" "[I" (.ref o2) ∧ Fld Z h o0 OwnK0 "segmentFirst" "[I" (.ref o3) ∧ Fld Z h o0 OwnK0 "segmentLimit" "[I" (.ref o4) ∧ Fld Z h o0 OwnK0 "segments" "I" (.int 1) ∧ Fld Z h o0 OwnK0 "starts" "[I" (.ref o5) ∧ Fld Z h o0 OwnK0 "cursor" "I" (.int 0)) := by
  refine own_entry pf_com_example_wirelens_wirelens_wire_GroupEnds_search__I_I (fun m => ef_sp18 m o0 u0) ?_
  intro p e s m below meth c T0 X0 hC e0
  obtain ⟨hx, hby, hml, hown, hnm, hret, hlk, hZ⟩ := hC
  have N0 := Fr.nil n0
  have K0 := Keep.refl h0 [o0]
  refine own_go T0 m 1 #[rv o0, iv u0, .unset, .unset] [(.ref o0)] (fun t k => XS.aloadN X0.here hx rfl (hb hby d8_0) rfl rfl k) ?_
  obtain ⟨T1, X1, e1, st1⟩ := getF X0 hx hZ hown (host := "") (Or.inl (own_w hw 14 rfl)) Via.refl e0 F_segmentFirst_o0 (g := (mkF m 1 #[rv o0, iv u0, .unset, .unset] [(.ref o0)])) rfl rfl (hb hby d8_1)
  refine own_go T1 m 4 #[rv o0, iv u0, .unset, .unset] [(.ref o3)] (st1) ?_
  refine own_go T1 m 5 #[rv o0, iv u0, .unset, .unset] [(.ref o0), (.ref o3)] (fun t k => XS.aloadN X1.here hx rfl (hb hby d8_4) rfl rfl k) ?_
  obtain ⟨T2, X2, e2, st2⟩ := getF X1 hx hZ hown (host := "") (Or.inl (own_w hw 27 rfl)) Via.refl e1 F_segments_o0 (g := (mkF m 5 #[rv o0, iv u0, .unset, .unset] [(.ref o0), (.ref o3)])) rfl rfl (hb hby d8_5)
  refine own_go T2 m 8 #[rv o0, iv u0, .unset, .unset] [(.int 1), (.ref o3)] (st2) ?_
  refine own_go T2 m 9 #[rv o0, iv u0, .unset, .unset] [(.int 1), (.int 1), (.ref o3)] (fun t k => XS.iconst X2.here hx rfl (hb hby d8_8) k) ?_
  refine own_go T2 m 10 #[rv o0, iv u0, .unset, .unset] [(.int ((1 : Int32) - (1 : Int32))), (.ref o3)] (fun t k => XS.isub X2.here hx rfl (hb hby d8_9) rfl k) ?_
  rw [show ((1 : Int32) - (1 : Int32)) = (0 : Int32) from by decide]
  refine own_go T2 m 11 #[rv o0, iv u0, .unset, .unset] [(.int 0)] (own_iaload X2 hx hZ e2 V_o3 (j := (0 : Int32)) ⟨by decide, by decide⟩ rfl (hb hby d8_10)) ?_
  refine own_go T2 m 12 #[rv o0, iv u0, iv 0, .unset] [] (fun t k => XS.istoreN X2.here hx rfl (hb hby d8_11) rfl rfl k) ?_
  refine own_go T2 m 13 #[rv o0, iv u0, iv 0, .unset] [(.ref o0)] (fun t k => XS.aloadN X2.here hx rfl (hb hby d8_12) rfl rfl k) ?_
  obtain ⟨T4, X4, e4, st4⟩ := getF X2 hx hZ hown (host := "") (Or.inl (own_w hw 20 rfl)) Via.refl e2 F_cursor_o0 (g := (mkF m 13 #[rv o0, iv u0, iv 0, .unset] [(.ref o0)])) rfl rfl (hb hby d8_13)
  refine own_go T4 m 16 #[rv o0, iv u0, iv 0, .unset] [(.int (-1))] (st4) ?_
  refine own_go T4 m 17 #[rv o0, iv u0, iv 0, iv (-1)] [] (fun t k => XS.istoreN X4.here hx rfl (hb hby d8_16) rfl rfl k) ?_
  refine own_go T4 m 18 #[rv o0, iv u0, iv 0, iv (-1)] [(.int (-1))] (fun t k => XS.iloadN X4.here hx rfl (hb hby d8_17) rfl k) ?_
  refine own_go T4 m 19 #[rv o0, iv u0, iv 0, iv (-1)] [(.int 0), (.int (-1))] (fun t k => XS.iloadN X4.here hx rfl (hb hby d8_18) rfl k) ?_
  refine own_go T4 m 39 #[rv o0, iv u0, iv 0, iv (-1)] [] (fun t k => XS.icmpYes X4.here hx rfl (pc0 := 19) (pc' := 39) rfl (hb hby d8_19) rfl (tlt (by decide)).1 (by decide) (by decide) k) ?_
  refine own_go T4 m 40 #[rv o0, iv u0, iv 0, iv (-1)] [(.ref o0)] (fun t k => XS.aloadN X4.here hx rfl (hb hby d8_39) rfl rfl k) ?_
  obtain ⟨T5, X5, e5, st5⟩ := getF X4 hx hZ hown (host := "") (Or.inl (own_w hw 10 rfl)) Via.refl e4 F_starts_o0 (g := (mkF m 40 #[rv o0, iv u0, iv 0, iv (-1)] [(.ref o0)])) rfl rfl (hb hby d8_40)
  refine own_go T5 m 43 #[rv o0, iv u0, iv 0, iv (-1)] [(.ref o5)] (st5) ?_
  refine own_go T5 m 44 #[rv o0, iv u0, iv 0, iv (-1)] [(.int 0), (.ref o5)] (fun t k => XS.iloadN X5.here hx rfl (hb hby d8_43) rfl k) ?_
  refine own_go T5 m 45 #[rv o0, iv u0, iv 0, iv (-1)] [(.ref o0), (.int 0), (.ref o5)] (fun t k => XS.aloadN X5.here hx rfl (hb hby d8_44) rfl rfl k) ?_
  obtain ⟨T6, X6, e6, st6⟩ := getF X5 hx hZ hown (host := "") (Or.inl (own_w hw 29 rfl)) Via.refl e5 F_count_o0 (g := (mkF m 45 #[rv o0, iv u0, iv 0, iv (-1)] [(.ref o0), (.int 0), (.ref o5)])) rfl rfl (hb hby d8_45)
  refine own_go T6 m 48 #[rv o0, iv u0, iv 0, iv (-1)] [(.int 1), (.int 0), (.ref o5)] (st6) ?_
  refine own_go T6 m 49 #[rv o0, iv u0, iv 0, iv (-1)] [(.int u0), (.int 1), (.int 0), (.ref o5)] (fun t k => XS.iloadN X6.here hx rfl (hb hby d8_48) rfl k) ?_
  obtain ⟨_, T7, L7, X7, ⟨rfl, e7, rfl⟩, st7⟩ := own_static X6 hx hZ (y := (⟨"java/util/Arrays", "binarySearch", "([IIII)I"⟩ : MethodName)) hown (own_w hw 56 rfl) (own_w hw 57 rfl) (own_w hw 58 rfl) (own_w hw 59 rfl) (by decide) (sp19 l Z a0 hw [] o5 u0 u1 c1 h0 n0 Z0 V_o5 hq0 hq1) e6 0 (argsL := [(.ref o5), (.int 0), (.int 1), (.int u0)]) (rest := []) (Ls := #[rv o0, iv u0, iv 0, iv (-1)]) (by rw [hml]; rfl) (lenOf pd___IIII_I rfl) rfl rfl (Nat.le_of_eq rfl) (hb hby d8_49) (by decide) (by decide) (by decide) (by decide)
  replace X7 := own_nil X7
  refine own_go T7 m 52 #[rv o0, iv u0, iv 0, iv (-1)] [(.int 0)] (st7) ?_
  refine own_go T7 m 53 #[rv o0, iv u0, iv 0, iv 0] [] (fun t k => XS.istoreN X7.here hx rfl (hb hby d8_52) rfl rfl k) ?_
  refine own_go T7 m 54 #[rv o0, iv u0, iv 0, iv 0] [(.int 0)] (fun t k => XS.iloadN X7.here hx rfl (hb hby d8_53) rfl k) ?_
  refine own_go T7 m 64 #[rv o0, iv u0, iv 0, iv 0] [] (fun t k => XS.ifYes X7.here hx rfl (pc0 := 54) (pc' := 64) rfl (hb hby d8_54) rfl ((if0 _ _).trans (flt (by decide)).2.1) (by decide) (by decide) k) ?_
  refine own_go T7 m 65 #[rv o0, iv u0, iv 0, iv 0] [(.int 0)] (fun t k => XS.iloadN X7.here hx rfl (hb hby d8_64) rfl k) ?_
  refine own_go T7 m 66 #[rv o0, iv u0, iv 0, iv 0] [] (fun t k => XS.istoreN X7.here hx rfl (hb hby d8_65) rfl rfl k) ?_
  refine own_go T7 m 93 #[rv o0, iv u0, iv 0, iv 0] [] (fun t k => XS.goto X7.here hx rfl (pc0 := 66) (pc' := 93) rfl (hb hby d8_66) (by decide) (by decide) k) ?_
  refine own_go T7 m 94 #[rv o0, iv u0, iv 0, iv 0] [(.ref o0)] (fun t k => XS.aloadN X7.here hx rfl (hb hby d8_93) rfl rfl k) ?_
  refine own_go T7 m 95 #[rv o0, iv u0, iv 0, iv 0] [(.int 0), (.ref o0)] (fun t k => XS.iloadN X7.here hx rfl (hb hby d8_94) rfl k) ?_
  obtain ⟨T8, h8, X8, e8, W8, st8⟩ := putF X7 hx hZ hown (host := "") (Or.inl (own_w hw 20 rfl)) Via.refl e7 F_cursor_o0 E_o0 (Or.inl (own_w hw 21 rfl)) (own_w hw 1 rfl) (ty := .int) (by decide) rfl rfl (g := (mkF m 95 #[rv o0, iv u0, iv 0, iv 0] [(.int 0), (.ref o0)])) rfl rfl (hb hby d8_95)
  have F8 := F_cursor_o0.same W8
  have cf9 := E_o0.wr W8
  have cf10 := F_count_o0.other W8 (Or.inr (slot_ne (Or.inl (own_w hw 30 rfl)) (Or.inl (own_w hw 21 rfl)) (by decide) (t := .int) (t' := .int) (by decide) (by decide)))
  have cf11 := F_ends_o0.other W8 (Or.inr (slot_ne (Or.inl (own_w hw 13 rfl)) (Or.inl (own_w hw 21 rfl)) (by decide) (t := (.array .int)) (t' := .int) (by decide) (by decide)))
  have cf12 := F_lastOpened_o0.other W8 (Or.inr (slot_ne (Or.inl (own_w hw 37 rfl)) (Or.inl (own_w hw 21 rfl)) (by decide) (t := .int) (t' := .int) (by decide) (by decide)))
  have cf13 := F_segmentEnd_o0.other W8 (Or.inr (slot_ne (Or.inl (own_w hw 17 rfl)) (Or.inl (own_w hw 21 rfl)) (by decide) (t := (.array .int)) (t' := .int) (by decide) (by decide)))
  have cf14 := F_segmentFirst_o0.other W8 (Or.inr (slot_ne (Or.inl (own_w hw 15 rfl)) (Or.inl (own_w hw 21 rfl)) (by decide) (t := (.array .int)) (t' := .int) (by decide) (by decide)))
  have cf15 := F_segmentLimit_o0.other W8 (Or.inr (slot_ne (Or.inl (own_w hw 19 rfl)) (Or.inl (own_w hw 21 rfl)) (by decide) (t := (.array .int)) (t' := .int) (by decide) (by decide)))
  have cf16 := F_segments_o0.other W8 (Or.inr (slot_ne (Or.inl (own_w hw 28 rfl)) (Or.inl (own_w hw 21 rfl)) (by decide) (t := .int) (t' := .int) (by decide) (by decide)))
  have cf17 := F_starts_o0.other W8 (Or.inr (slot_ne (Or.inl (own_w hw 11 rfl)) (Or.inl (own_w hw 21 rfl)) (by decide) (t := (.array .int)) (t' := .int) (by decide) (by decide)))
  have cf18 := V_o3.other W8 (Ne.symm ne_o0_o3)
  have cf19 := V_o5.other W8 (Ne.symm ne_o0_o5)
  have Z_8 : n0 ≤ h8.size := Nat.le_trans Z0 (Keep.of_wr W8).1
  have K_8 : Keep h0 h8 [o0] := K0.wr W8 (own_i 0 rfl)
  have N8 := Fr.snoc X8 N0 g_o0
  refine own_go T8 m 98 #[rv o0, iv u0, iv 0, iv 0] [] (st8) ?_
  refine own_go T8 m 99 #[rv o0, iv u0, iv 0, iv 0] [(.int 0)] (fun t k => XS.iloadN X8.here hx rfl (hb hby d8_98) rfl k) ?_
  refine own_go T8 m 100 #[rv o0, iv u0, iv 0, iv 0] [(.ref o0), (.int 0)] (fun t k => XS.aloadN X8.here hx rfl (hb hby d8_99) rfl rfl k) ?_
  obtain ⟨T20, X20, e20, st20⟩ := getF X8 hx hZ hown (host := "") (Or.inl (own_w hw 29 rfl)) Via.refl e8 cf10 (g := (mkF m 100 #[rv o0, iv u0, iv 0, iv 0] [(.ref o0), (.int 0)])) rfl rfl (hb hby d8_100)
  refine own_go T20 m 103 #[rv o0, iv u0, iv 0, iv 0] [(.int 1), (.int 0)] (st20) ?_
  refine own_go T20 m 106 #[rv o0, iv u0, iv 0, iv 0] [] (fun t k => XS.icmpNo X20.here hx rfl (hb hby d8_103) rfl (tlt (by decide)).2.1 k) ?_
  refine own_go T20 m 107 #[rv o0, iv u0, iv 0, iv 0] [(.ref o0)] (fun t k => XS.aloadN X20.here hx rfl (hb hby d8_106) rfl rfl k) ?_
  obtain ⟨T21, X21, e21, st21⟩ := getF X20 hx hZ hown (host := "") (Or.inl (own_w hw 10 rfl)) Via.refl e20 cf17 (g := (mkF m 107 #[rv o0, iv u0, iv 0, iv 0] [(.ref o0)])) rfl rfl (hb hby d8_107)
  refine own_go T21 m 110 #[rv o0, iv u0, iv 0, iv 0] [(.ref o5)] (st21) ?_
  refine own_go T21 m 111 #[rv o0, iv u0, iv 0, iv 0] [(.int 0), (.ref o5)] (fun t k => XS.iloadN X21.here hx rfl (hb hby d8_110) rfl k) ?_
  refine own_go T21 m 112 #[rv o0, iv u0, iv 0, iv 0] [(.int u1)] (own_iaload X21 hx hZ e21 cf19 (j := (0 : Int32)) ⟨by decide, by decide⟩ rfl (hb hby d8_111)) ?_
  refine own_go T21 m 113 #[rv o0, iv u0, iv 0, iv 0] [(.int u0), (.int u1)] (fun t k => XS.iloadN X21.here hx rfl (hb hby d8_112) rfl k) ?_
  refine own_go T21 m 116 #[rv o0, iv u0, iv 0, iv 0] [] (fun t k => XS.icmpNo X21.here hx rfl (hb hby d8_113) rfl (teq hq2).2 k) ?_
  refine own_go T21 m 117 #[rv o0, iv u0, iv 0, iv 0] [(.int 0)] (fun t k => XS.iloadN X21.here hx rfl (hb hby d8_116) rfl k) ?_
  refine own_go T21 m 121 #[rv o0, iv u0, iv 0, iv 0] [(.int 0)] (fun t k => XS.goto X21.here hx rfl (pc0 := 117) (pc' := 121) rfl (hb hby d8_117) (by decide) (by decide) k) ?_
  refine own_retI X21 hx hlk hret (hb hby d8_121) (by decide) (by decide) ?_
  rw [e21]
  exact ⟨rfl, N8, K_8, cf10, cf11, cf12, cf13, cf14, cf15, cf16, cf17, F8⟩
theorem ef_sp17 (m : MethodId) (q0 : Addr) (q1 : Int32) (q2 : Int32) : entryFrame m #[(.ref q0), (.int q1), (.int q2)] 5 = mkF m 0 #[rv q0, iv q1, iv q2, .unset, .unset] [] := by first | (simp [entryFrame, mkF, argsToLocals, Value.category]; done) | rfl
set_option maxRecDepth 65536 in
set_option maxHeartbeats 40000000 in
theorem sp17 (l : Launch) (Z : State) (a0 : Array Value) (hw : ∀ d ∈ tables_1, d.before a0 Z = true) (ws : List Jvm.Cond) (o0 o1 o2 o3 o4 o5 : Addr) (u0 : Int32) (u1 : Int32) (u2 : Int32) (u3 : Int32) (u4 : Int32) (c0 : ClassId) (c1 : ClassId) (c2 : ClassId) (c3 : ClassId) (c4 : ClassId) (h0 : Heap) (n0 : Nat) (Z0 : n0 ≤ h0.size) (E_o0 : Exa Z h0 o0 OwnK0) (F_count_o0 : Fld Z h0 o0 OwnK0 "count" "I" (.int 1)) (F_cursor_o0 : Fld Z h0 o0 OwnK0 "cursor" "I" (.int (-1))) (F_ends_o0 : Fld Z h0 o0 OwnK0 "ends" "[I" (.ref o1)) (F_lastOpened_o0 : Fld Z h0 o0 OwnK0 "lastOpened" "I" (.int 0)) (F_segmentEnd_o0 : Fld Z h0 o0 OwnK0 "segmentEnd" "[I" (.ref o2)) (F_segmentFirst_o0 : Fld Z h0 o0 OwnK0 "segmentFirst" "[I" (.ref o3)) (F_segmentLimit_o0 : Fld Z h0 o0 OwnK0 "segmentLimit" "[I" (.ref o4)) (F_segments_o0 : Fld Z h0 o0 OwnK0 "segments" "I" (.int 1)) (F_starts_o0 : Fld Z h0 o0 OwnK0 "starts" "[I" (.ref o5)) (V_o1 : Arv Z h0 o1 c0 .int (8 : Int32) [(.int (-2)), (.int 0), (.int 0), (.int 0), (.int 0), (.int 0), (.int 0), (.int 0)] (.int 0)) (V_o2 : Arv Z h0 o2 c1 .int (8 : Int32) [(.int u2), (.int 0), (.int 0), (.int 0), (.int 0), (.int 0), (.int 0), (.int 0)] (.int 0)) (V_o3 : Arv Z h0 o3 c2 .int (8 : Int32) [(.int 0), (.int 0), (.int 0), (.int 0), (.int 0), (.int 0), (.int 0), (.int 0)] (.int 0)) (V_o4 : Arv Z h0 o4 c3 .int (8 : Int32) [(.int u3), (.int 0), (.int 0), (.int 0), (.int 0), (.int 0), (.int 0), (.int 0)] (.int 0)) (V_o5 : Arv Z h0 o5 c4 .int (8 : Int32) [(.int u4), (.int 0), (.int 0), (.int 0), (.int 0), (.int 0), (.int 0), (.int 0)] (.int 0)) (ne_o0_o1 : o0 ≠ o1) (ne_o0_o2 : o0 ≠ o2) (ne_o0_o3 : o0 ≠ o3) (ne_o0_o4 : o0 ≠ o4) (ne_o0_o5 : o0 ≠ o5) (g_o0 : n0 ≤ o0) (hq0 : ¬ (u0 < u4)) (hq1 : u0 < u2) (hq2 : ¬ (u4 < u0)) (hq3 : u4 = u0) (hq4 : u3 < u1) :
    OwnC l Z (⟨OwnK0, "find", "(II)I"⟩ : MethodName) prog_48_method_2_code 5 (some .int) ws ({ frames := 3, cells := 0, slots := 0, locals := 49 } : Room) #[(.ref o0), (.int u0), (.int u1)] h0 (fun v h L => v = some (.int (-1)) ∧ Fr n0 L ∧ Keep h0 h [o0] ∧ Fld Z h o0 OwnK0 "count" "I" (.int 1) ∧ Fld Z h o0 OwnK0 "ends" "[I" (.ref o1) ∧ Fld Z h o0 OwnK0 "lastOpened" "I" (.int 0) ∧ Fld Z h o0 OwnK0 "segmentEnd" "[I" (.ref o2) ∧ Fld Z h o0 OwnK0 "segmentFirst" "[I" (.ref o3) ∧ Fld Z h o0 OwnK0 "segmentLimit" "[I" (.ref o4) ∧ Fld Z h o0 OwnK0 "segments" "I" (.int 1) ∧ Fld Z h o0 OwnK0 "starts" "[I" (.ref o5) ∧ Fld Z h o0 OwnK0 "cursor" "I" (.int 0)) := by
  refine own_entry pf_com_example_wirelens_wirelens_wire_GroupEnds_find__II_I (fun m => ef_sp17 m o0 u0 u1) ?_
  intro p e s m below meth c T0 X0 hC e0
  obtain ⟨hx, hby, hml, hown, hnm, hret, hlk, hZ⟩ := hC
  have N0 := Fr.nil n0
  have K0 := Keep.refl h0 [o0]
  refine own_go T0 m 1 #[rv o0, iv u0, iv u1, .unset, .unset] [(.ref o0)] (fun t k => XS.aloadN X0.here hx rfl (hb hby d6_0) rfl rfl k) ?_
  obtain ⟨T1, X1, e1, st1⟩ := getF X0 hx hZ hown (host := "") (Or.inl (own_w hw 27 rfl)) Via.refl e0 F_segments_o0 (g := (mkF m 1 #[rv o0, iv u0, iv u1, .unset, .unset] [(.ref o0)])) rfl rfl (hb hby d6_1)
  refine own_go T1 m 4 #[rv o0, iv u0, iv u1, .unset, .unset] [(.int 1)] (st1) ?_
  refine own_go T1 m 7 #[rv o0, iv u0, iv u1, .unset, .unset] [] (fun t k => XS.ifNo X1.here hx rfl (hb hby d6_4) rfl ((if0 _ _).trans (tlt (by decide)).2.2.2) k) ?_
  refine own_go T1 m 8 #[rv o0, iv u0, iv u1, .unset, .unset] [(.ref o0)] (fun t k => XS.aloadN X1.here hx rfl (hb hby d6_7) rfl rfl k) ?_
  refine own_go T1 m 9 #[rv o0, iv u0, iv u1, .unset, .unset] [(.int u0), (.ref o0)] (fun t k => XS.iloadN X1.here hx rfl (hb hby d6_8) rfl k) ?_
  obtain ⟨_, T2, L2, X2, ⟨rfl, e2, rfl⟩, st2⟩ := own_private X1 hx hZ (y := (⟨OwnK0, "newestCovers", "(I)Z"⟩ : MethodName)) hown (own_w hw 48 rfl) (own_w hw 49 rfl) (own_w hw 50 rfl) (own_w hw 1 rfl) (own_w hw 2 rfl) (own_w hw 51 rfl) (by decide) (sp12 l Z a0 hw [] o0 o2 o3 o5 u0 u2 u4 c1 c2 c4 h0 n0 Z0 F_segmentEnd_o0 F_segmentFirst_o0 F_segments_o0 F_starts_o0 V_o2 V_o3 V_o5 hq0 hq1) e1 E_o0 0 (argsL := [(.int u0)]) (rest := []) (Ls := #[rv o0, iv u0, iv u1, .unset, .unset]) (by rw [hml]; rfl) (lenOf pd__I_Z rfl) rfl rfl (Nat.le_of_eq rfl) (hb hby d6_9) (by decide) (by decide) (by decide) (by decide)
  replace X2 := own_nil X2
  refine own_go T2 m 12 #[rv o0, iv u0, iv u1, .unset, .unset] [(.int 1)] (st2) ?_
  refine own_go T2 m 46 #[rv o0, iv u0, iv u1, .unset, .unset] [] (fun t k => XS.ifYes X2.here hx rfl (pc0 := 12) (pc' := 46) rfl (hb hby d6_12) rfl ((if0 _ _).trans (feq (by decide)).2) (by decide) (by decide) k) ?_
  refine own_go T2 m 47 #[rv o0, iv u0, iv u1, .unset, .unset] [(.ref o0)] (fun t k => XS.aloadN X2.here hx rfl (hb hby d6_46) rfl rfl k) ?_
  obtain ⟨T3, X3, e3, st3⟩ := getF X2 hx hZ hown (host := "") (Or.inl (own_w hw 27 rfl)) Via.refl e2 F_segments_o0 (g := (mkF m 47 #[rv o0, iv u0, iv u1, .unset, .unset] [(.ref o0)])) rfl rfl (hb hby d6_47)
  refine own_go T3 m 50 #[rv o0, iv u0, iv u1, .unset, .unset] [(.int 1)] (st3) ?_
  refine own_go T3 m 57 #[rv o0, iv u0, iv u1, .unset, .unset] [] (fun t k => XS.ifYes X3.here hx rfl (pc0 := 50) (pc' := 57) rfl (hb hby d6_50) rfl ((if0 _ _).trans (feq (by decide)).2) (by decide) (by decide) k) ?_
  refine own_go T3 m 58 #[rv o0, iv u0, iv u1, .unset, .unset] [(.ref o0)] (fun t k => XS.aloadN X3.here hx rfl (hb hby d6_57) rfl rfl k) ?_
  refine own_go T3 m 59 #[rv o0, iv u0, iv u1, .unset, .unset] [(.int u0), (.ref o0)] (fun t k => XS.iloadN X3.here hx rfl (hb hby d6_58) rfl k) ?_
  obtain ⟨_, T4, L4, X4, ⟨rfl, Nq4, Kq4, fq0_4, fq1_4, fq2_4, fq3_4, fq4_4, fq5_4, fq6_4, fq7_4, fq8_4⟩, st4⟩ := own_private X3 hx hZ (y := (⟨OwnK0, "search", "(I)I"⟩ : MethodName)) hown (own_w hw 52 rfl) (own_w hw 53 rfl) (own_w hw 54 rfl) (own_w hw 1 rfl) (own_w hw 2 rfl) (own_w hw 55 rfl) (by decide) (sp18 l Z a0 hw [] o0 o1 o2 o3 o4 o5 u0 u4 c2 c4 h0 n0 Z0 E_o0 F_count_o0 F_cursor_o0 F_ends_o0 F_lastOpened_o0 F_segmentEnd_o0 F_segmentFirst_o0 F_segmentLimit_o0 F_segments_o0 F_starts_o0 V_o3 V_o5 ne_o0_o1 ne_o0_o2 ne_o0_o3 ne_o0_o4 ne_o0_o5 g_o0 hq2 hq0 hq3) e3 E_o0 0 (argsL := [(.int u0)]) (rest := []) (Ls := #[rv o0, iv u0, iv u1, .unset, .unset]) (by rw [hml]; rfl) (lenOf pd__I_I rfl) rfl rfl (Nat.le_of_eq rfl) (hb hby d6_59) (by decide) (by decide) (by decide) (by decide)
  have N4 := Fr.app N0 Nq4
  have cf5 := E_o0.keep Kq4
  have cf6 := V_o1.keep Kq4 (ninS (Ne.symm ne_o0_o1) nin0)
  have cf7 := V_o2.keep Kq4 (ninS (Ne.symm ne_o0_o2) nin0)
  have cf8 := V_o3.keep Kq4 (ninS (Ne.symm ne_o0_o3) nin0)
  have cf9 := V_o4.keep Kq4 (ninS (Ne.symm ne_o0_o4) nin0)
  have cf10 := V_o5.keep Kq4 (ninS (Ne.symm ne_o0_o5) nin0)
  have Z_4 : n0 ≤ T4.heap.size := Nat.le_trans Z0 Kq4.1
  have K_4 : Keep h0 T4.heap [o0] := K0.trans Kq4 (allS (own_i 0 rfl) all0)
  refine own_go T4 m 62 #[rv o0, iv u0, iv u1, .unset, .unset] [(.int 0)] (st4) ?_
  refine own_go T4 m 63 #[rv o0, iv u0, iv u1, iv 0, .unset] [] (fun t k => XS.istoreN X4.here hx rfl (hb hby d6_62) rfl rfl k) ?_
  refine own_go T4 m 64 #[rv o0, iv u0, iv u1, iv 0, .unset] [(.int 0)] (fun t k => XS.iloadN X4.here hx rfl (hb hby d6_63) rfl k) ?_
  refine own_go T4 m 73 #[rv o0, iv u0, iv u1, iv 0, .unset] [] (fun t k => XS.ifYes X4.here hx rfl (pc0 := 64) (pc' := 73) rfl (hb hby d6_64) rfl ((if0 _ _).trans (flt (by decide)).2.1) (by decide) (by decide) k) ?_
  refine own_go T4 m 74 #[rv o0, iv u0, iv u1, iv 0, .unset] [(.ref o0)] (fun t k => XS.aloadN X4.here hx rfl (hb hby d6_73) rfl rfl k) ?_
  obtain ⟨T11, X11, e11, st11⟩ := getF X4 hx hZ hown (host := "") (Or.inl (own_w hw 12 rfl)) Via.refl rfl fq1_4 (g := (mkF m 74 #[rv o0, iv u0, iv u1, iv 0, .unset] [(.ref o0)])) rfl rfl (hb hby d6_74)
  refine own_go T11 m 77 #[rv o0, iv u0, iv u1, iv 0, .unset] [(.ref o1)] (st11) ?_
  refine own_go T11 m 78 #[rv o0, iv u0, iv u1, iv 0, .unset] [(.int 0), (.ref o1)] (fun t k => XS.iloadN X11.here hx rfl (hb hby d6_77) rfl k) ?_
  refine own_go T11 m 79 #[rv o0, iv u0, iv u1, iv 0, .unset] [(.int (-2))] (own_iaload X11 hx hZ e11 cf6 (j := (0 : Int32)) ⟨by decide, by decide⟩ rfl (hb hby d6_78)) ?_
  refine own_go T11 m 81 #[rv o0, iv u0, iv u1, iv 0, .unset] [(.int (-2)), (.int (-2))] (fun t k => XS.bipush X11.here hx rfl (hb hby d6_79) k) ?_
  refine own_go T11 m 84 #[rv o0, iv u0, iv u1, iv 0, .unset] [] (fun t k => XS.icmpNo X11.here hx rfl (hb hby d6_81) rfl (teq (by decide)).2 k) ?_
  refine own_go T11 m 85 #[rv o0, iv u0, iv u1, iv 0, .unset] [(.int u1)] (fun t k => XS.iloadN X11.here hx rfl (hb hby d6_84) rfl k) ?_
  refine own_go T11 m 86 #[rv o0, iv u0, iv u1, iv 0, .unset] [(.ref o0), (.int u1)] (fun t k => XS.aloadN X11.here hx rfl (hb hby d6_85) rfl rfl k) ?_
  obtain ⟨T13, X13, e13, st13⟩ := getF X11 hx hZ hown (host := "") (Or.inl (own_w hw 18 rfl)) Via.refl e11 fq5_4 (g := (mkF m 86 #[rv o0, iv u0, iv u1, iv 0, .unset] [(.ref o0), (.int u1)])) rfl rfl (hb hby d6_86)
  refine own_go T13 m 89 #[rv o0, iv u0, iv u1, iv 0, .unset] [(.ref o4), (.int u1)] (st13) ?_
  refine own_go T13 m 90 #[rv o0, iv u0, iv u1, iv 0, .unset] [(.ref o0), (.ref o4), (.int u1)] (fun t k => XS.aloadN X13.here hx rfl (hb hby d6_89) rfl rfl k) ?_
  obtain ⟨T14, X14, e14, st14⟩ := getF X13 hx hZ hown (host := "") (Or.inl (own_w hw 27 rfl)) Via.refl e13 fq6_4 (g := (mkF m 90 #[rv o0, iv u0, iv u1, iv 0, .unset] [(.ref o0), (.ref o4), (.int u1)])) rfl rfl (hb hby d6_90)
  refine own_go T14 m 93 #[rv o0, iv u0, iv u1, iv 0, .unset] [(.int 1), (.ref o4), (.int u1)] (st14) ?_
  refine own_go T14 m 94 #[rv o0, iv u0, iv u1, iv 0, .unset] [(.int 1), (.int 1), (.ref o4), (.int u1)] (fun t k => XS.iconst X14.here hx rfl (hb hby d6_93) k) ?_
  refine own_go T14 m 95 #[rv o0, iv u0, iv u1, iv 0, .unset] [(.int ((1 : Int32) - (1 : Int32))), (.ref o4), (.int u1)] (fun t k => XS.isub X14.here hx rfl (hb hby d6_94) rfl k) ?_
  rw [show ((1 : Int32) - (1 : Int32)) = (0 : Int32) from by decide]
  refine own_go T14 m 96 #[rv o0, iv u0, iv u1, iv 0, .unset] [(.int u3), (.int u1)] (own_iaload X14 hx hZ e14 cf9 (j := (0 : Int32)) ⟨by decide, by decide⟩ rfl (hb hby d6_95)) ?_
  refine own_go T14 m 99 #[rv o0, iv u0, iv u1, iv 0, .unset] [] (fun t k => XS.icmpNo X14.here hx rfl (hb hby d6_96) rfl (tlt hq4).2.2.2 k) ?_
  refine own_go T14 m 100 #[rv o0, iv u0, iv u1, iv 0, .unset] [(.int (-1))] (fun t k => XS.iconst X14.here hx rfl (hb hby d6_99) k) ?_
  refine own_go T14 m 102 #[rv o0, iv u0, iv u1, iv 0, iv (-1)] [] (fun t k => XS.istore X14.here hx rfl (hb hby d6_100) rfl rfl k) ?_
  refine own_go T14 m 113 #[rv o0, iv u0, iv u1, iv 0, iv (-1)] [] (fun t k => XS.goto X14.here hx rfl (pc0 := 102) (pc' := 113) rfl (hb hby d6_102) (by decide) (by decide) k) ?_
  refine own_go T14 m 115 #[rv o0, iv u0, iv u1, iv 0, iv (-1)] [(.int (-1))] (fun t k => XS.iload X14.here hx rfl (hb hby d6_113) rfl k) ?_
  refine own_retI X14 hx hlk hret (hb hby d6_115) (by decide) (by decide) ?_
  rw [e14]
  exact ⟨rfl, N4, K_4, fq0_4, fq1_4, fq2_4, fq3_4, fq4_4, fq5_4, fq6_4, fq7_4, fq8_4⟩
theorem own_db5 (t0 t1 t2 t3 t4 t5 t6 : Int32) (h0 : ¬ (t0 = (0 : Int32))) (h1 : t1 = (0 : Int32)) (h2 : ¬ (t2 < t3)) (h3 : t2 < t4) (h4 : ¬ (t3 < t2)) (h5 : t5 < t6) : t2 = t3 := by
  simp only [Int32.lt_iff_toInt_lt, ← Int32.toInt_inj, Int32.reduceToInt] at *
  omega
theorem own_db6 (t0 t1 t2 t3 t4 t5 t6 : Int32) (h0 : ¬ (t0 = (0 : Int32))) (h1 : t1 = (0 : Int32)) (h2 : ¬ (t2 < t3)) (h3 : t2 < t4) (h4 : ¬ (t3 < t2)) (h5 : ¬ (t5 < t6)) : t3 = t2 := by
  simp only [Int32.lt_iff_toInt_lt, ← Int32.toInt_inj, Int32.reduceToInt] at *
  omega
theorem ef_sp21 (m : MethodId) (q0 : Addr) (q1 : Int32) (q2 : Int32) : entryFrame m #[(.ref q0), (.int q1), (.int q2)] 5 = mkF m 0 #[rv q0, iv q1, iv q2, .unset, .unset] [] := by first | (simp [entryFrame, mkF, argsToLocals, Value.category]; done) | rfl
set_option maxRecDepth 65536 in
set_option maxHeartbeats 40000000 in
theorem sp21 (l : Launch) (Z : State) (a0 : Array Value) (hw : ∀ d ∈ tables_1, d.before a0 Z = true) (ws : List Jvm.Cond) (o0 o1 o2 o3 o4 o5 : Addr) (u0 : Int32) (u1 : Int32) (u2 : Int32) (u3 : Int32) (u4 : Int32) (c0 : ClassId) (c1 : ClassId) (c2 : ClassId) (c3 : ClassId) (c4 : ClassId) (h0 : Heap) (n0 : Nat) (Z0 : n0 ≤ h0.size) (E_o0 : Exa Z h0 o0 OwnK0) (F_count_o0 : Fld Z h0 o0 OwnK0 "count" "I" (.int 1)) (F_cursor_o0 : Fld Z h0 o0 OwnK0 "cursor" "I" (.int (-1))) (F_ends_o0 : Fld Z h0 o0 OwnK0 "ends" "[I" (.ref o1)) (F_lastOpened_o0 : Fld Z h0 o0 OwnK0 "lastOpened" "I" (.int 0)) (F_segmentEnd_o0 : Fld Z h0 o0 OwnK0 "segmentEnd" "[I" (.ref o2)) (F_segmentFirst_o0 : Fld Z h0 o0 OwnK0 "segmentFirst" "[I" (.ref o3)) (F_segmentLimit_o0 : Fld Z h0 o0 OwnK0 "segmentLimit" "[I" (.ref o4)) (F_segments_o0 : Fld Z h0 o0 OwnK0 "segments" "I" (.int 1)) (F_starts_o0 : Fld Z h0 o0 OwnK0 "starts" "[I" (.ref o5)) (V_o1 : Arv Z h0 o1 c0 .int (8 : Int32) [(.int (-2)), (.int 0), (.int 0), (.int 0), (.int 0), (.int 0), (.int 0), (.int 0)] (.int 0)) (V_o2 : Arv Z h0 o2 c1 .int (8 : Int32) [(.int u2), (.int 0), (.int 0), (.int 0), (.int 0), (.int 0), (.int 0), (.int 0)] (.int 0)) (V_o3 : Arv Z h0 o3 c2 .int (8 : Int32) [(.int 0), (.int 0), (.int 0), (.int 0), (.int 0), (.int 0), (.int 0), (.int 0)] (.int 0)) (V_o4 : Arv Z h0 o4 c3 .int (8 : Int32) [(.int u3), (.int 0), (.int 0), (.int 0), (.int 0), (.int 0), (.int 0), (.int 0)] (.int 0)) (V_o5 : Arv Z h0 o5 c4 .int (8 : Int32) [(.int u4), (.int 0), (.int 0), (.int 0), (.int 0), (.int 0), (.int 0), (.int 0)] (.int 0)) (ne_o0_o1 : o0 ≠ o1) (ne_o0_o2 : o0 ≠ o2) (ne_o0_o3 : o0 ≠ o3) (ne_o0_o4 : o0 ≠ o4) (ne_o0_o5 : o0 ≠ o5) (g_o0 : n0 ≤ o0) (hq0 : ¬ (u0 < u4)) (hq1 : u0 < u2) (hq2 : ¬ (u4 < u0)) (hq3 : u4 = u0) (hq4 : ¬ (u3 < u1)) :
    OwnC l Z (⟨OwnK0, "find", "(II)I"⟩ : MethodName) prog_48_method_2_code 5 (some .int) ws ({ frames := 3, cells := 0, slots := 0, locals := 49 } : Room) #[(.ref o0), (.int u0), (.int u1)] h0 (fun v h L => v = some (.int (-2)) ∧ Fr n0 L ∧ Keep h0 h [o0] ∧ Fld Z h o0 OwnK0 "count" "I" (.int 1) ∧ Fld Z h o0 OwnK0 "ends" "[I" (.ref o1) ∧ Fld Z h o0 OwnK0 "lastOpened" "I" (.int 0) ∧ Fld Z h o0 OwnK0 "segmentEnd" "[I" (.ref o2) ∧ Fld Z h o0 OwnK0 "segmentFirst" "[I" (.ref o3) ∧ Fld Z h o0 OwnK0 "segmentLimit" "[I" (.ref o4) ∧ Fld Z h o0 OwnK0 "segments" "I" (.int 1) ∧ Fld Z h o0 OwnK0 "starts" "[I" (.ref o5) ∧ Fld Z h o0 OwnK0 "cursor" "I" (.int 0)) := by
  refine own_entry pf_com_example_wirelens_wirelens_wire_GroupEnds_find__II_I (fun m => ef_sp21 m o0 u0 u1) ?_
  intro p e s m below meth c T0 X0 hC e0
  obtain ⟨hx, hby, hml, hown, hnm, hret, hlk, hZ⟩ := hC
  have N0 := Fr.nil n0
  have K0 := Keep.refl h0 [o0]
  refine own_go T0 m 1 #[rv o0, iv u0, iv u1, .unset, .unset] [(.ref o0)] (fun t k => XS.aloadN X0.here hx rfl (hb hby d6_0) rfl rfl k) ?_
  obtain ⟨T1, X1, e1, st1⟩ := getF X0 hx hZ hown (host := "") (Or.inl (own_w hw 27 rfl)) Via.refl e0 F_segments_o0 (g := (mkF m 1 #[rv o0, iv u0, iv u1, .unset, .unset] [(.ref o0)])) rfl rfl (hb hby d6_1)
  refine own_go T1 m 4 #[rv o0, iv u0, iv u1, .unset, .unset] [(.int 1)] (st1) ?_
  refine own_go T1 m 7 #[rv o0, iv u0, iv u1, .unset, .unset] [] (fun t k => XS.ifNo X1.here hx rfl (hb hby d6_4) rfl ((if0 _ _).trans (tlt (by decide)).2.2.2) k) ?_
  refine own_go T1 m 8 #[rv o0, iv u0, iv u1, .unset, .unset] [(.ref o0)] (fun t k => XS.aloadN X1.here hx rfl (hb hby d6_7) rfl rfl k) ?_
  refine own_go T1 m 9 #[rv o0, iv u0, iv u1, .unset, .unset] [(.int u0), (.ref o0)] (fun t k => XS.iloadN X1.here hx rfl (hb hby d6_8) rfl k) ?_
  obtain ⟨_, T2, L2, X2, ⟨rfl, e2, rfl⟩, st2⟩ := own_private X1 hx hZ (y := (⟨OwnK0, "newestCovers", "(I)Z"⟩ : MethodName)) hown (own_w hw 48 rfl) (own_w hw 49 rfl) (own_w hw 50 rfl) (own_w hw 1 rfl) (own_w hw 2 rfl) (own_w hw 51 rfl) (by decide) (sp12 l Z a0 hw [] o0 o2 o3 o5 u0 u2 u4 c1 c2 c4 h0 n0 Z0 F_segmentEnd_o0 F_segmentFirst_o0 F_segments_o0 F_starts_o0 V_o2 V_o3 V_o5 hq0 hq1) e1 E_o0 0 (argsL := [(.int u0)]) (rest := []) (Ls := #[rv o0, iv u0, iv u1, .unset, .unset]) (by rw [hml]; rfl) (lenOf pd__I_Z rfl) rfl rfl (Nat.le_of_eq rfl) (hb hby d6_9) (by decide) (by decide) (by decide) (by decide)
  replace X2 := own_nil X2
  refine own_go T2 m 12 #[rv o0, iv u0, iv u1, .unset, .unset] [(.int 1)] (st2) ?_
  refine own_go T2 m 46 #[rv o0, iv u0, iv u1, .unset, .unset] [] (fun t k => XS.ifYes X2.here hx rfl (pc0 := 12) (pc' := 46) rfl (hb hby d6_12) rfl ((if0 _ _).trans (feq (by decide)).2) (by decide) (by decide) k) ?_
  refine own_go T2 m 47 #[rv o0, iv u0, iv u1, .unset, .unset] [(.ref o0)] (fun t k => XS.aloadN X2.here hx rfl (hb hby d6_46) rfl rfl k) ?_
  obtain ⟨T3, X3, e3, st3⟩ := getF X2 hx hZ hown (host := "") (Or.inl (own_w hw 27 rfl)) Via.refl e2 F_segments_o0 (g := (mkF m 47 #[rv o0, iv u0, iv u1, .unset, .unset] [(.ref o0)])) rfl rfl (hb hby d6_47)
  refine own_go T3 m 50 #[rv o0, iv u0, iv u1, .unset, .unset] [(.int 1)] (st3) ?_
  refine own_go T3 m 57 #[rv o0, iv u0, iv u1, .unset, .unset] [] (fun t k => XS.ifYes X3.here hx rfl (pc0 := 50) (pc' := 57) rfl (hb hby d6_50) rfl ((if0 _ _).trans (feq (by decide)).2) (by decide) (by decide) k) ?_
  refine own_go T3 m 58 #[rv o0, iv u0, iv u1, .unset, .unset] [(.ref o0)] (fun t k => XS.aloadN X3.here hx rfl (hb hby d6_57) rfl rfl k) ?_
  refine own_go T3 m 59 #[rv o0, iv u0, iv u1, .unset, .unset] [(.int u0), (.ref o0)] (fun t k => XS.iloadN X3.here hx rfl (hb hby d6_58) rfl k) ?_
  obtain ⟨_, T4, L4, X4, ⟨rfl, Nq4, Kq4, fq0_4, fq1_4, fq2_4, fq3_4, fq4_4, fq5_4, fq6_4, fq7_4, fq8_4⟩, st4⟩ := own_private X3 hx hZ (y := (⟨OwnK0, "search", "(I)I"⟩ : MethodName)) hown (own_w hw 52 rfl) (own_w hw 53 rfl) (own_w hw 54 rfl) (own_w hw 1 rfl) (own_w hw 2 rfl) (own_w hw 55 rfl) (by decide) (sp18 l Z a0 hw [] o0 o1 o2 o3 o4 o5 u0 u4 c2 c4 h0 n0 Z0 E_o0 F_count_o0 F_cursor_o0 F_ends_o0 F_lastOpened_o0 F_segmentEnd_o0 F_segmentFirst_o0 F_segmentLimit_o0 F_segments_o0 F_starts_o0 V_o3 V_o5 ne_o0_o1 ne_o0_o2 ne_o0_o3 ne_o0_o4 ne_o0_o5 g_o0 hq2 hq0 hq3) e3 E_o0 0 (argsL := [(.int u0)]) (rest := []) (Ls := #[rv o0, iv u0, iv u1, .unset, .unset]) (by rw [hml]; rfl) (lenOf pd__I_I rfl) rfl rfl (Nat.le_of_eq rfl) (hb hby d6_59) (by decide) (by decide) (by decide) (by decide)
  have N4 := Fr.app N0 Nq4
  have cf5 := E_o0.keep Kq4
  have cf6 := V_o1.keep Kq4 (ninS (Ne.symm ne_o0_o1) nin0)
  have cf7 := V_o2.keep Kq4 (ninS (Ne.symm ne_o0_o2) nin0)
  have cf8 := V_o3.keep Kq4 (ninS (Ne.symm ne_o0_o3) nin0)
  have cf9 := V_o4.keep Kq4 (ninS (Ne.symm ne_o0_o4) nin0)
  have cf10 := V_o5.keep Kq4 (ninS (Ne.symm ne_o0_o5) nin0)
  have Z_4 : n0 ≤ T4.heap.size := Nat.le_trans Z0 Kq4.1
  have K_4 : Keep h0 T4.heap [o0] := K0.trans Kq4 (allS (own_i 0 rfl) all0)
  refine own_go T4 m 62 #[rv o0, iv u0, iv u1, .unset, .unset] [(.int 0)] (st4) ?_
  refine own_go T4 m 63 #[rv o0, iv u0, iv u1, iv 0, .unset] [] (fun t k => XS.istoreN X4.here hx rfl (hb hby d6_62) rfl rfl k) ?_
  refine own_go T4 m 64 #[rv o0, iv u0, iv u1, iv 0, .unset] [(.int 0)] (fun t k => XS.iloadN X4.here hx rfl (hb hby d6_63) rfl k) ?_
  refine own_go T4 m 73 #[rv o0, iv u0, iv u1, iv 0, .unset] [] (fun t k => XS.ifYes X4.here hx rfl (pc0 := 64) (pc' := 73) rfl (hb hby d6_64) rfl ((if0 _ _).trans (flt (by decide)).2.1) (by decide) (by decide) k) ?_
  refine own_go T4 m 74 #[rv o0, iv u0, iv u1, iv 0, .unset] [(.ref o0)] (fun t k => XS.aloadN X4.here hx rfl (hb hby d6_73) rfl rfl k) ?_
  obtain ⟨T11, X11, e11, st11⟩ := getF X4 hx hZ hown (host := "") (Or.inl (own_w hw 12 rfl)) Via.refl rfl fq1_4 (g := (mkF m 74 #[rv o0, iv u0, iv u1, iv 0, .unset] [(.ref o0)])) rfl rfl (hb hby d6_74)
  refine own_go T11 m 77 #[rv o0, iv u0, iv u1, iv 0, .unset] [(.ref o1)] (st11) ?_
  refine own_go T11 m 78 #[rv o0, iv u0, iv u1, iv 0, .unset] [(.int 0), (.ref o1)] (fun t k => XS.iloadN X11.here hx rfl (hb hby d6_77) rfl k) ?_
  refine own_go T11 m 79 #[rv o0, iv u0, iv u1, iv 0, .unset] [(.int (-2))] (own_iaload X11 hx hZ e11 cf6 (j := (0 : Int32)) ⟨by decide, by decide⟩ rfl (hb hby d6_78)) ?_
  refine own_go T11 m 81 #[rv o0, iv u0, iv u1, iv 0, .unset] [(.int (-2)), (.int (-2))] (fun t k => XS.bipush X11.here hx rfl (hb hby d6_79) k) ?_
  refine own_go T11 m 84 #[rv o0, iv u0, iv u1, iv 0, .unset] [] (fun t k => XS.icmpNo X11.here hx rfl (hb hby d6_81) rfl (teq (by decide)).2 k) ?_
  refine own_go T11 m 85 #[rv o0, iv u0, iv u1, iv 0, .unset] [(.int u1)] (fun t k => XS.iloadN X11.here hx rfl (hb hby d6_84) rfl k) ?_
  refine own_go T11 m 86 #[rv o0, iv u0, iv u1, iv 0, .unset] [(.ref o0), (.int u1)] (fun t k => XS.aloadN X11.here hx rfl (hb hby d6_85) rfl rfl k) ?_
  obtain ⟨T13, X13, e13, st13⟩ := getF X11 hx hZ hown (host := "") (Or.inl (own_w hw 18 rfl)) Via.refl e11 fq5_4 (g := (mkF m 86 #[rv o0, iv u0, iv u1, iv 0, .unset] [(.ref o0), (.int u1)])) rfl rfl (hb hby d6_86)
  refine own_go T13 m 89 #[rv o0, iv u0, iv u1, iv 0, .unset] [(.ref o4), (.int u1)] (st13) ?_
  refine own_go T13 m 90 #[rv o0, iv u0, iv u1, iv 0, .unset] [(.ref o0), (.ref o4), (.int u1)] (fun t k => XS.aloadN X13.here hx rfl (hb hby d6_89) rfl rfl k) ?_
  obtain ⟨T14, X14, e14, st14⟩ := getF X13 hx hZ hown (host := "") (Or.inl (own_w hw 27 rfl)) Via.refl e13 fq6_4 (g := (mkF m 90 #[rv o0, iv u0, iv u1, iv 0, .unset] [(.ref o0), (.ref o4), (.int u1)])) rfl rfl (hb hby d6_90)
  refine own_go T14 m 93 #[rv o0, iv u0, iv u1, iv 0, .unset] [(.int 1), (.ref o4), (.int u1)] (st14) ?_
  refine own_go T14 m 94 #[rv o0, iv u0, iv u1, iv 0, .unset] [(.int 1), (.int 1), (.ref o4), (.int u1)] (fun t k => XS.iconst X14.here hx rfl (hb hby d6_93) k) ?_
  refine own_go T14 m 95 #[rv o0, iv u0, iv u1, iv 0, .unset] [(.int ((1 : Int32) - (1 : Int32))), (.ref o4), (.int u1)] (fun t k => XS.isub X14.here hx rfl (hb hby d6_94) rfl k) ?_
  rw [show ((1 : Int32) - (1 : Int32)) = (0 : Int32) from by decide]
  refine own_go T14 m 96 #[rv o0, iv u0, iv u1, iv 0, .unset] [(.int u3), (.int u1)] (own_iaload X14 hx hZ e14 cf9 (j := (0 : Int32)) ⟨by decide, by decide⟩ rfl (hb hby d6_95)) ?_
  refine own_go T14 m 105 #[rv o0, iv u0, iv u1, iv 0, .unset] [] (fun t k => XS.icmpYes X14.here hx rfl (pc0 := 96) (pc' := 105) rfl (hb hby d6_96) rfl (flt hq4).2.2.2 (by decide) (by decide) k) ?_
  refine own_go T14 m 106 #[rv o0, iv u0, iv u1, iv 0, .unset] [(.ref o0)] (fun t k => XS.aloadN X14.here hx rfl (hb hby d6_105) rfl rfl k) ?_
  obtain ⟨T16, X16, e16, st16⟩ := getF X14 hx hZ hown (host := "") (Or.inl (own_w hw 12 rfl)) Via.refl e14 fq1_4 (g := (mkF m 106 #[rv o0, iv u0, iv u1, iv 0, .unset] [(.ref o0)])) rfl rfl (hb hby d6_106)
  refine own_go T16 m 109 #[rv o0, iv u0, iv u1, iv 0, .unset] [(.ref o1)] (st16) ?_
  refine own_go T16 m 110 #[rv o0, iv u0, iv u1, iv 0, .unset] [(.int 0), (.ref o1)] (fun t k => XS.iloadN X16.here hx rfl (hb hby d6_109) rfl k) ?_
  refine own_go T16 m 111 #[rv o0, iv u0, iv u1, iv 0, .unset] [(.int (-2))] (own_iaload X16 hx hZ e16 cf6 (j := (0 : Int32)) ⟨by decide, by decide⟩ rfl (hb hby d6_110)) ?_
  refine own_go T16 m 113 #[rv o0, iv u0, iv u1, iv 0, iv (-2)] [] (fun t k => XS.istore X16.here hx rfl (hb hby d6_111) rfl rfl k) ?_
  refine own_go T16 m 115 #[rv o0, iv u0, iv u1, iv 0, iv (-2)] [(.int (-2))] (fun t k => XS.iload X16.here hx rfl (hb hby d6_113) rfl k) ?_
  refine own_retI X16 hx hlk hret (hb hby d6_115) (by decide) (by decide) ?_
  rw [e16]
  exact ⟨rfl, N4, K_4, fq0_4, fq1_4, fq2_4, fq3_4, fq4_4, fq5_4, fq6_4, fq7_4, fq8_4⟩
theorem own_db10 (t0 t1 t2 t3 t4 t5 t6 : Int32) (h0 : ¬ (t0 = (0 : Int32))) (h1 : t1 = (0 : Int32)) (h2 : ¬ (t2 < t3)) (h3 : t2 < t4) (h4 : ¬ (t3 < t2)) (h5 : ¬ (t5 < t6)) : t2 = t3 := by
  simp only [Int32.lt_iff_toInt_lt, ← Int32.toInt_inj, Int32.reduceToInt] at *
  omega
theorem ef_sp23 (m : MethodId) (q0 : Addr) (q1 : Int32) : entryFrame m #[(.ref q0), (.int q1)] 3 = mkF m 0 #[rv q0, iv q1, .unset] [] := by first | (simp [entryFrame, mkF, argsToLocals, Value.category]; done) | rfl
set_option maxRecDepth 65536 in
set_option maxHeartbeats 40000000 in
theorem sp23 (l : Launch) (Z : State) (a0 : Array Value) (hw : ∀ d ∈ tables_1, d.before a0 Z = true) (ws : List Jvm.Cond) (o0 o1 o2 o3 : Addr) (u0 : Int32) (u1 : Int32) (u2 : Int32) (c0 : ClassId) (c1 : ClassId) (c2 : ClassId) (h0 : Heap) (n0 : Nat) (Z0 : n0 ≤ h0.size) (F_segmentEnd_o0 : Fld Z h0 o0 OwnK0 "segmentEnd" "[I" (.ref o1)) (F_segmentFirst_o0 : Fld Z h0 o0 OwnK0 "segmentFirst" "[I" (.ref o2)) (F_segments_o0 : Fld Z h0 o0 OwnK0 "segments" "I" (.int 1)) (F_starts_o0 : Fld Z h0 o0 OwnK0 "starts" "[I" (.ref o3)) (V_o1 : Arv Z h0 o1 c0 .int (8 : Int32) [(.int u1), (.int 0), (.int 0), (.int 0), (.int 0), (.int 0), (.int 0), (.int 0)] (.int 0)) (V_o2 : Arv Z h0 o2 c1 .int (8 : Int32) [(.int 0), (.int 0), (.int 0), (.int 0), (.int 0), (.int 0), (.int 0), (.int 0)] (.int 0)) (V_o3 : Arv Z h0 o3 c2 .int (8 : Int32) [(.int u2), (.int 0), (.int 0), (.int 0), (.int 0), (.int 0), (.int 0), (.int 0)] (.int 0)) (hq0 : ¬ (u0 < u2)) (hq1 : ¬ (u0 < u1)) :
    OwnC l Z (⟨OwnK0, "newestCovers", "(I)Z"⟩ : MethodName) prog_48_method_3_code 3 (some .boolean) ws ({ frames := 0, cells := 0, slots := 0, locals := 0 } : Room) #[(.ref o0), (.int u0)] h0 (fun v h L => v = some (.int 0) ∧ h = h0 ∧ L = []) := by
  refine own_entry pf_com_example_wirelens_wirelens_wire_GroupEnds_newestCovers__I_Z (fun m => ef_sp23 m o0 u0) ?_
  intro p e s m below meth c T0 X0 hC e0
  obtain ⟨hx, hby, hml, hown, hnm, hret, hlk, hZ⟩ := hC
  have N0 := Fr.nil n0
  have K0 := Keep.refl h0 []
  refine own_go T0 m 1 #[rv o0, iv u0, .unset] [(.ref o0)] (fun t k => XS.aloadN X0.here hx rfl (hb hby d7_0) rfl rfl k) ?_
  obtain ⟨T1, X1, e1, st1⟩ := getF X0 hx hZ hown (host := "") (Or.inl (own_w hw 27 rfl)) Via.refl e0 F_segments_o0 (g := (mkF m 1 #[rv o0, iv u0, .unset] [(.ref o0)])) rfl rfl (hb hby d7_1)
  refine own_go T1 m 4 #[rv o0, iv u0, .unset] [(.int 1)] (st1) ?_
  refine own_go T1 m 5 #[rv o0, iv u0, .unset] [(.int 1), (.int 1)] (fun t k => XS.iconst X1.here hx rfl (hb hby d7_4) k) ?_
  refine own_go T1 m 6 #[rv o0, iv u0, .unset] [(.int ((1 : Int32) - (1 : Int32)))] (fun t k => XS.isub X1.here hx rfl (hb hby d7_5) rfl k) ?_
  rw [show ((1 : Int32) - (1 : Int32)) = (0 : Int32) from by decide]
  refine own_go T1 m 7 #[rv o0, iv u0, iv 0] [] (fun t k => XS.istoreN X1.here hx rfl (hb hby d7_6) rfl rfl k) ?_
  refine own_go T1 m 8 #[rv o0, iv u0, iv 0] [(.int u0)] (fun t k => XS.iloadN X1.here hx rfl (hb hby d7_7) rfl k) ?_
  refine own_go T1 m 9 #[rv o0, iv u0, iv 0] [(.ref o0), (.int u0)] (fun t k => XS.aloadN X1.here hx rfl (hb hby d7_8) rfl rfl k) ?_
  obtain ⟨T2, X2, e2, st2⟩ := getF X1 hx hZ hown (host := "") (Or.inl (own_w hw 10 rfl)) Via.refl e1 F_starts_o0 (g := (mkF m 9 #[rv o0, iv u0, iv 0] [(.ref o0), (.int u0)])) rfl rfl (hb hby d7_9)
  refine own_go T2 m 12 #[rv o0, iv u0, iv 0] [(.ref o3), (.int u0)] (st2) ?_
  refine own_go T2 m 13 #[rv o0, iv u0, iv 0] [(.ref o0), (.ref o3), (.int u0)] (fun t k => XS.aloadN X2.here hx rfl (hb hby d7_12) rfl rfl k) ?_
  obtain ⟨T3, X3, e3, st3⟩ := getF X2 hx hZ hown (host := "") (Or.inl (own_w hw 14 rfl)) Via.refl e2 F_segmentFirst_o0 (g := (mkF m 13 #[rv o0, iv u0, iv 0] [(.ref o0), (.ref o3), (.int u0)])) rfl rfl (hb hby d7_13)
  refine own_go T3 m 16 #[rv o0, iv u0, iv 0] [(.ref o2), (.ref o3), (.int u0)] (st3) ?_
  refine own_go T3 m 17 #[rv o0, iv u0, iv 0] [(.int 0), (.ref o2), (.ref o3), (.int u0)] (fun t k => XS.iloadN X3.here hx rfl (hb hby d7_16) rfl k) ?_
  refine own_go T3 m 18 #[rv o0, iv u0, iv 0] [(.int 0), (.ref o3), (.int u0)] (own_iaload X3 hx hZ e3 V_o2 (j := (0 : Int32)) ⟨by decide, by decide⟩ rfl (hb hby d7_17)) ?_
  refine own_go T3 m 19 #[rv o0, iv u0, iv 0] [(.int u2), (.int u0)] (own_iaload X3 hx hZ e3 V_o3 (j := (0 : Int32)) ⟨by decide, by decide⟩ rfl (hb hby d7_18)) ?_
  refine own_go T3 m 22 #[rv o0, iv u0, iv 0] [] (fun t k => XS.icmpNo X3.here hx rfl (hb hby d7_19) rfl (flt hq0).1 k) ?_
  refine own_go T3 m 23 #[rv o0, iv u0, iv 0] [(.int u0)] (fun t k => XS.iloadN X3.here hx rfl (hb hby d7_22) rfl k) ?_
  refine own_go T3 m 24 #[rv o0, iv u0, iv 0] [(.ref o0), (.int u0)] (fun t k => XS.aloadN X3.here hx rfl (hb hby d7_23) rfl rfl k) ?_
  obtain ⟨T6, X6, e6, st6⟩ := getF X3 hx hZ hown (host := "") (Or.inl (own_w hw 16 rfl)) Via.refl e3 F_segmentEnd_o0 (g := (mkF m 24 #[rv o0, iv u0, iv 0] [(.ref o0), (.int u0)])) rfl rfl (hb hby d7_24)
  refine own_go T6 m 27 #[rv o0, iv u0, iv 0] [(.ref o1), (.int u0)] (st6) ?_
  refine own_go T6 m 28 #[rv o0, iv u0, iv 0] [(.int 0), (.ref o1), (.int u0)] (fun t k => XS.iloadN X6.here hx rfl (hb hby d7_27) rfl k) ?_
  refine own_go T6 m 29 #[rv o0, iv u0, iv 0] [(.int u1), (.int u0)] (own_iaload X6 hx hZ e6 V_o1 (j := (0 : Int32)) ⟨by decide, by decide⟩ rfl (hb hby d7_28)) ?_
  refine own_go T6 m 36 #[rv o0, iv u0, iv 0] [] (fun t k => XS.icmpYes X6.here hx rfl (pc0 := 29) (pc' := 36) rfl (hb hby d7_29) rfl (flt hq1).2.1 (by decide) (by decide) k) ?_
  refine own_go T6 m 37 #[rv o0, iv u0, iv 0] [(.int 0)] (fun t k => XS.iconst X6.here hx rfl (hb hby d7_36) k) ?_
  refine own_retZ X6 hx hlk hret (by decide) (hb hby d7_37) (by decide) (by decide) ?_
  exact ⟨rfl, e6, rfl⟩
theorem ef_sp22 (m : MethodId) (q0 : Addr) (q1 : Int32) (q2 : Int32) : entryFrame m #[(.ref q0), (.int q1), (.int q2)] 5 = mkF m 0 #[rv q0, iv q1, iv q2, .unset, .unset] [] := by first | (simp [entryFrame, mkF, argsToLocals, Value.category]; done) | rfl
set_option maxRecDepth 65536 in
set_option maxHeartbeats 40000000 in
theorem sp22 (l : Launch) (Z : State) (a0 : Array Value) (hw : ∀ d ∈ tables_1, d.before a0 Z = true) (ws : List Jvm.Cond) (o0 o1 o2 o3 o4 o5 : Addr) (u0 : Int32) (u1 : Int32) (u2 : Int32) (u3 : Int32) (c0 : ClassId) (c1 : ClassId) (c2 : ClassId) (h0 : Heap) (n0 : Nat) (Z0 : n0 ≤ h0.size) (E_o0 : Exa Z h0 o0 OwnK0) (F_count_o0 : Fld Z h0 o0 OwnK0 "count" "I" (.int 1)) (F_cursor_o0 : Fld Z h0 o0 OwnK0 "cursor" "I" (.int (-1))) (F_ends_o0 : Fld Z h0 o0 OwnK0 "ends" "[I" (.ref o1)) (F_lastOpened_o0 : Fld Z h0 o0 OwnK0 "lastOpened" "I" (.int 0)) (F_segmentEnd_o0 : Fld Z h0 o0 OwnK0 "segmentEnd" "[I" (.ref o2)) (F_segmentFirst_o0 : Fld Z h0 o0 OwnK0 "segmentFirst" "[I" (.ref o3)) (F_segmentLimit_o0 : Fld Z h0 o0 OwnK0 "segmentLimit" "[I" (.ref o4)) (F_segments_o0 : Fld Z h0 o0 OwnK0 "segments" "I" (.int 1)) (F_starts_o0 : Fld Z h0 o0 OwnK0 "starts" "[I" (.ref o5)) (V_o2 : Arv Z h0 o2 c0 .int (8 : Int32) [(.int u2), (.int 0), (.int 0), (.int 0), (.int 0), (.int 0), (.int 0), (.int 0)] (.int 0)) (V_o3 : Arv Z h0 o3 c1 .int (8 : Int32) [(.int 0), (.int 0), (.int 0), (.int 0), (.int 0), (.int 0), (.int 0), (.int 0)] (.int 0)) (V_o5 : Arv Z h0 o5 c2 .int (8 : Int32) [(.int u3), (.int 0), (.int 0), (.int 0), (.int 0), (.int 0), (.int 0), (.int 0)] (.int 0)) (ne_o0_o1 : o0 ≠ o1) (ne_o0_o2 : o0 ≠ o2) (ne_o0_o3 : o0 ≠ o3) (ne_o0_o4 : o0 ≠ o4) (ne_o0_o5 : o0 ≠ o5) (g_o0 : n0 ≤ o0) (hq0 : ¬ (u0 < u3)) (hq1 : ¬ (u0 < u2)) :
    OwnC l Z (⟨OwnK0, "find", "(II)I"⟩ : MethodName) prog_48_method_2_code 5 (some .int) ws ({ frames := 1, cells := 0, slots := 0, locals := 14 } : Room) #[(.ref o0), (.int u0), (.int u1)] h0 (fun v h L => v = some (.int (-1)) ∧ Fr n0 L ∧ Keep h0 h [o0] ∧ Fld Z h o0 OwnK0 "ends" "[I" (.ref o1) ∧ Fld Z h o0 OwnK0 "lastOpened" "I" (.int 0) ∧ Fld Z h o0 OwnK0 "segmentEnd" "[I" (.ref o2) ∧ Fld Z h o0 OwnK0 "segmentFirst" "[I" (.ref o3) ∧ Fld Z h o0 OwnK0 "segmentLimit" "[I" (.ref o4) ∧ Fld Z h o0 OwnK0 "starts" "[I" (.ref o5) ∧ Fld Z h o0 OwnK0 "segments" "I" (.int 0) ∧ Fld Z h o0 OwnK0 "count" "I" (.int 0) ∧ Fld Z h o0 OwnK0 "cursor" "I" (.int (-1))) := by
  refine own_entry pf_com_example_wirelens_wirelens_wire_GroupEnds_find__II_I (fun m => ef_sp22 m o0 u0 u1) ?_
  intro p e s m below meth c T0 X0 hC e0
  obtain ⟨hx, hby, hml, hown, hnm, hret, hlk, hZ⟩ := hC
  have N0 := Fr.nil n0
  have K0 := Keep.refl h0 [o0]
  refine own_go T0 m 1 #[rv o0, iv u0, iv u1, .unset, .unset] [(.ref o0)] (fun t k => XS.aloadN X0.here hx rfl (hb hby d6_0) rfl rfl k) ?_
  obtain ⟨T1, X1, e1, st1⟩ := getF X0 hx hZ hown (host := "") (Or.inl (own_w hw 27 rfl)) Via.refl e0 F_segments_o0 (g := (mkF m 1 #[rv o0, iv u0, iv u1, .unset, .unset] [(.ref o0)])) rfl rfl (hb hby d6_1)
  refine own_go T1 m 4 #[rv o0, iv u0, iv u1, .unset, .unset] [(.int 1)] (st1) ?_
  refine own_go T1 m 7 #[rv o0, iv u0, iv u1, .unset, .unset] [] (fun t k => XS.ifNo X1.here hx rfl (hb hby d6_4) rfl ((if0 _ _).trans (tlt (by decide)).2.2.2) k) ?_
  refine own_go T1 m 8 #[rv o0, iv u0, iv u1, .unset, .unset] [(.ref o0)] (fun t k => XS.aloadN X1.here hx rfl (hb hby d6_7) rfl rfl k) ?_
  refine own_go T1 m 9 #[rv o0, iv u0, iv u1, .unset, .unset] [(.int u0), (.ref o0)] (fun t k => XS.iloadN X1.here hx rfl (hb hby d6_8) rfl k) ?_
  obtain ⟨_, T2, L2, X2, ⟨rfl, e2, rfl⟩, st2⟩ := own_private X1 hx hZ (y := (⟨OwnK0, "newestCovers", "(I)Z"⟩ : MethodName)) hown (own_w hw 48 rfl) (own_w hw 49 rfl) (own_w hw 50 rfl) (own_w hw 1 rfl) (own_w hw 2 rfl) (own_w hw 51 rfl) (by decide) (sp23 l Z a0 hw [] o0 o2 o3 o5 u0 u2 u3 c0 c1 c2 h0 n0 Z0 F_segmentEnd_o0 F_segmentFirst_o0 F_segments_o0 F_starts_o0 V_o2 V_o3 V_o5 hq0 hq1) e1 E_o0 0 (argsL := [(.int u0)]) (rest := []) (Ls := #[rv o0, iv u0, iv u1, .unset, .unset]) (by rw [hml]; rfl) (lenOf pd__I_Z rfl) rfl rfl (Nat.le_of_eq rfl) (hb hby d6_9) (by decide) (by decide) (by decide) (by decide)
  replace X2 := own_nil X2
  refine own_go T2 m 12 #[rv o0, iv u0, iv u1, .unset, .unset] [(.int 0)] (st2) ?_
  refine own_go T2 m 15 #[rv o0, iv u0, iv u1, .unset, .unset] [] (fun t k => XS.ifNo X2.here hx rfl (hb hby d6_12) rfl ((if0 _ _).trans (teq (by decide)).2) k) ?_
  refine own_go T2 m 16 #[rv o0, iv u0, iv u1, .unset, .unset] [(.ref o0)] (fun t k => XS.aloadN X2.here hx rfl (hb hby d6_15) rfl rfl k) ?_
  refine own_go T2 m 17 #[rv o0, iv u0, iv u1, .unset, .unset] [(.ref o0), (.ref o0)] (fun t k => XS.dup X2.here hx rfl (hb hby d6_16) rfl rfl k) ?_
  obtain ⟨T3, X3, e3, st3⟩ := getF X2 hx hZ hown (host := "") (Or.inl (own_w hw 27 rfl)) Via.refl e2 F_segments_o0 (g := (mkF m 17 #[rv o0, iv u0, iv u1, .unset, .unset] [(.ref o0), (.ref o0)])) rfl rfl (hb hby d6_17)
  refine own_go T3 m 20 #[rv o0, iv u0, iv u1, .unset, .unset] [(.int 1), (.ref o0)] (st3) ?_
  refine own_go T3 m 21 #[rv o0, iv u0, iv u1, .unset, .unset] [(.int 1), (.int 1), (.ref o0)] (fun t k => XS.iconst X3.here hx rfl (hb hby d6_20) k) ?_
  refine own_go T3 m 22 #[rv o0, iv u0, iv u1, .unset, .unset] [(.int ((1 : Int32) - (1 : Int32))), (.ref o0)] (fun t k => XS.isub X3.here hx rfl (hb hby d6_21) rfl k) ?_
  rw [show ((1 : Int32) - (1 : Int32)) = (0 : Int32) from by decide]
  obtain ⟨T4, h4, X4, e4, W4, st4⟩ := putF X3 hx hZ hown (host := "") (Or.inl (own_w hw 27 rfl)) Via.refl e3 F_segments_o0 E_o0 (Or.inl (own_w hw 28 rfl)) (own_w hw 1 rfl) (ty := .int) (by decide) rfl rfl (g := (mkF m 22 #[rv o0, iv u0, iv u1, .unset, .unset] [(.int 0), (.ref o0)])) rfl rfl (hb hby d6_22)
  have F4 := F_segments_o0.same W4
  have cf5 := E_o0.wr W4
  have cf6 := F_count_o0.other W4 (Or.inr (slot_ne (Or.inl (own_w hw 30 rfl)) (Or.inl (own_w hw 28 rfl)) (by decide) (t := .int) (t' := .int) (by decide) (by decide)))
  have cf7 := F_cursor_o0.other W4 (Or.inr (slot_ne (Or.inl (own_w hw 21 rfl)) (Or.inl (own_w hw 28 rfl)) (by decide) (t := .int) (t' := .int) (by decide) (by decide)))
  have cf8 := F_ends_o0.other W4 (Or.inr (slot_ne (Or.inl (own_w hw 13 rfl)) (Or.inl (own_w hw 28 rfl)) (by decide) (t := (.array .int)) (t' := .int) (by decide) (by decide)))
  have cf9 := F_lastOpened_o0.other W4 (Or.inr (slot_ne (Or.inl (own_w hw 37 rfl)) (Or.inl (own_w hw 28 rfl)) (by decide) (t := .int) (t' := .int) (by decide) (by decide)))
  have cf10 := F_segmentEnd_o0.other W4 (Or.inr (slot_ne (Or.inl (own_w hw 17 rfl)) (Or.inl (own_w hw 28 rfl)) (by decide) (t := (.array .int)) (t' := .int) (by decide) (by decide)))
  have cf11 := F_segmentFirst_o0.other W4 (Or.inr (slot_ne (Or.inl (own_w hw 15 rfl)) (Or.inl (own_w hw 28 rfl)) (by decide) (t := (.array .int)) (t' := .int) (by decide) (by decide)))
  have cf12 := F_segmentLimit_o0.other W4 (Or.inr (slot_ne (Or.inl (own_w hw 19 rfl)) (Or.inl (own_w hw 28 rfl)) (by decide) (t := (.array .int)) (t' := .int) (by decide) (by decide)))
  have cf13 := F_starts_o0.other W4 (Or.inr (slot_ne (Or.inl (own_w hw 11 rfl)) (Or.inl (own_w hw 28 rfl)) (by decide) (t := (.array .int)) (t' := .int) (by decide) (by decide)))
  have cf14 := V_o2.other W4 (Ne.symm ne_o0_o2)
  have cf15 := V_o3.other W4 (Ne.symm ne_o0_o3)
  have cf16 := V_o5.other W4 (Ne.symm ne_o0_o5)
  have Z_4 : n0 ≤ h4.size := Nat.le_trans Z0 (Keep.of_wr W4).1
  have K_4 : Keep h0 h4 [o0] := K0.wr W4 (own_i 0 rfl)
  have N4 := Fr.snoc X4 N0 g_o0
  refine own_go T4 m 25 #[rv o0, iv u0, iv u1, .unset, .unset] [] (st4) ?_
  refine own_go T4 m 26 #[rv o0, iv u0, iv u1, .unset, .unset] [(.ref o0)] (fun t k => XS.aloadN X4.here hx rfl (hb hby d6_25) rfl rfl k) ?_
  refine own_go T4 m 27 #[rv o0, iv u0, iv u1, .unset, .unset] [(.ref o0), (.ref o0)] (fun t k => XS.aloadN X4.here hx rfl (hb hby d6_26) rfl rfl k) ?_
  obtain ⟨T17, X17, e17, st17⟩ := getF X4 hx hZ hown (host := "") (Or.inl (own_w hw 14 rfl)) Via.refl e4 cf11 (g := (mkF m 27 #[rv o0, iv u0, iv u1, .unset, .unset] [(.ref o0), (.ref o0)])) rfl rfl (hb hby d6_27)
  refine own_go T17 m 30 #[rv o0, iv u0, iv u1, .unset, .unset] [(.ref o3), (.ref o0)] (st17) ?_
  refine own_go T17 m 31 #[rv o0, iv u0, iv u1, .unset, .unset] [(.ref o0), (.ref o3), (.ref o0)] (fun t k => XS.aloadN X17.here hx rfl (hb hby d6_30) rfl rfl k) ?_
  obtain ⟨T18, X18, e18, st18⟩ := getF X17 hx hZ hown (host := "") (Or.inl (own_w hw 27 rfl)) Via.refl e17 F4 (g := (mkF m 31 #[rv o0, iv u0, iv u1, .unset, .unset] [(.ref o0), (.ref o3), (.ref o0)])) rfl rfl (hb hby d6_31)
  refine own_go T18 m 34 #[rv o0, iv u0, iv u1, .unset, .unset] [(.int 0), (.ref o3), (.ref o0)] (st18) ?_
  refine own_go T18 m 35 #[rv o0, iv u0, iv u1, .unset, .unset] [(.int 0), (.ref o0)] (own_iaload X18 hx hZ e18 cf15 (j := (0 : Int32)) ⟨by decide, by decide⟩ rfl (hb hby d6_34)) ?_
  obtain ⟨T20, h20, X20, e20, W20, st20⟩ := putF X18 hx hZ hown (host := "") (Or.inl (own_w hw 29 rfl)) Via.refl e18 cf6 cf5 (Or.inl (own_w hw 30 rfl)) (own_w hw 1 rfl) (ty := .int) (by decide) rfl rfl (g := (mkF m 35 #[rv o0, iv u0, iv u1, .unset, .unset] [(.int 0), (.ref o0)])) rfl rfl (hb hby d6_35)
  have F20 := cf6.same W20
  have cf21 := cf5.wr W20
  have cf22 := cf7.other W20 (Or.inr (slot_ne (Or.inl (own_w hw 21 rfl)) (Or.inl (own_w hw 30 rfl)) (by decide) (t := .int) (t' := .int) (by decide) (by decide)))
  have cf23 := cf8.other W20 (Or.inr (slot_ne (Or.inl (own_w hw 13 rfl)) (Or.inl (own_w hw 30 rfl)) (by decide) (t := (.array .int)) (t' := .int) (by decide) (by decide)))
  have cf24 := cf9.other W20 (Or.inr (slot_ne (Or.inl (own_w hw 37 rfl)) (Or.inl (own_w hw 30 rfl)) (by decide) (t := .int) (t' := .int) (by decide) (by decide)))
  have cf25 := cf10.other W20 (Or.inr (slot_ne (Or.inl (own_w hw 17 rfl)) (Or.inl (own_w hw 30 rfl)) (by decide) (t := (.array .int)) (t' := .int) (by decide) (by decide)))
  have cf26 := cf11.other W20 (Or.inr (slot_ne (Or.inl (own_w hw 15 rfl)) (Or.inl (own_w hw 30 rfl)) (by decide) (t := (.array .int)) (t' := .int) (by decide) (by decide)))
  have cf27 := cf12.other W20 (Or.inr (slot_ne (Or.inl (own_w hw 19 rfl)) (Or.inl (own_w hw 30 rfl)) (by decide) (t := (.array .int)) (t' := .int) (by decide) (by decide)))
  have cf28 := cf13.other W20 (Or.inr (slot_ne (Or.inl (own_w hw 11 rfl)) (Or.inl (own_w hw 30 rfl)) (by decide) (t := (.array .int)) (t' := .int) (by decide) (by decide)))
  have cf29 := cf14.other W20 (Ne.symm ne_o0_o2)
  have cf30 := cf15.other W20 (Ne.symm ne_o0_o3)
  have cf31 := cf16.other W20 (Ne.symm ne_o0_o5)
  have cf32 := F4.other W20 (Or.inr (slot_ne (Or.inl (own_w hw 28 rfl)) (Or.inl (own_w hw 30 rfl)) (by decide) (t := .int) (t' := .int) (by decide) (by decide)))
  have Z_20 : n0 ≤ h20.size := Nat.le_trans Z_4 (Keep.of_wr W20).1
  have K_20 : Keep h0 h20 [o0] := K_4.wr W20 (own_i 0 rfl)
  have N20 := Fr.snoc X20 N4 g_o0
  refine own_go T20 m 38 #[rv o0, iv u0, iv u1, .unset, .unset] [] (st20) ?_
  refine own_go T20 m 39 #[rv o0, iv u0, iv u1, .unset, .unset] [(.ref o0)] (fun t k => XS.aloadN X20.here hx rfl (hb hby d6_38) rfl rfl k) ?_
  refine own_go T20 m 40 #[rv o0, iv u0, iv u1, .unset, .unset] [(.int (-1)), (.ref o0)] (fun t k => XS.iconst X20.here hx rfl (hb hby d6_39) k) ?_
  obtain ⟨T33, h33, X33, e33, W33, st33⟩ := putF X20 hx hZ hown (host := "") (Or.inl (own_w hw 20 rfl)) Via.refl e20 cf22 cf21 (Or.inl (own_w hw 21 rfl)) (own_w hw 1 rfl) (ty := .int) (by decide) rfl rfl (g := (mkF m 40 #[rv o0, iv u0, iv u1, .unset, .unset] [(.int (-1)), (.ref o0)])) rfl rfl (hb hby d6_40)
  have F33 := cf22.same W33
  have cf34 := cf21.wr W33
  have cf35 := cf23.other W33 (Or.inr (slot_ne (Or.inl (own_w hw 13 rfl)) (Or.inl (own_w hw 21 rfl)) (by decide) (t := (.array .int)) (t' := .int) (by decide) (by decide)))
  have cf36 := cf24.other W33 (Or.inr (slot_ne (Or.inl (own_w hw 37 rfl)) (Or.inl (own_w hw 21 rfl)) (by decide) (t := .int) (t' := .int) (by decide) (by decide)))
  have cf37 := cf25.other W33 (Or.inr (slot_ne (Or.inl (own_w hw 17 rfl)) (Or.inl (own_w hw 21 rfl)) (by decide) (t := (.array .int)) (t' := .int) (by decide) (by decide)))
  have cf38 := cf26.other W33 (Or.inr (slot_ne (Or.inl (own_w hw 15 rfl)) (Or.inl (own_w hw 21 rfl)) (by decide) (t := (.array .int)) (t' := .int) (by decide) (by decide)))
  have cf39 := cf27.other W33 (Or.inr (slot_ne (Or.inl (own_w hw 19 rfl)) (Or.inl (own_w hw 21 rfl)) (by decide) (t := (.array .int)) (t' := .int) (by decide) (by decide)))
  have cf40 := cf28.other W33 (Or.inr (slot_ne (Or.inl (own_w hw 11 rfl)) (Or.inl (own_w hw 21 rfl)) (by decide) (t := (.array .int)) (t' := .int) (by decide) (by decide)))
  have cf41 := cf29.other W33 (Ne.symm ne_o0_o2)
  have cf42 := cf30.other W33 (Ne.symm ne_o0_o3)
  have cf43 := cf31.other W33 (Ne.symm ne_o0_o5)
  have cf44 := cf32.other W33 (Or.inr (slot_ne (Or.inl (own_w hw 28 rfl)) (Or.inl (own_w hw 21 rfl)) (by decide) (t := .int) (t' := .int) (by decide) (by decide)))
  have cf45 := F20.other W33 (Or.inr (slot_ne (Or.inl (own_w hw 30 rfl)) (Or.inl (own_w hw 21 rfl)) (by decide) (t := .int) (t' := .int) (by decide) (by decide)))
  have Z_33 : n0 ≤ h33.size := Nat.le_trans Z_20 (Keep.of_wr W33).1
  have K_33 : Keep h0 h33 [o0] := K_20.wr W33 (own_i 0 rfl)
  have N33 := Fr.snoc X33 N20 g_o0
  refine own_go T33 m 43 #[rv o0, iv u0, iv u1, .unset, .unset] [] (st33) ?_
  refine own_go T33 m 0 #[rv o0, iv u0, iv u1, .unset, .unset] [] (fun t k => XS.goto X33.here hx rfl (pc0 := 43) (pc' := 0) rfl (hb hby d6_43) (by decide) (by decide) k) ?_
  refine own_go T33 m 1 #[rv o0, iv u0, iv u1, .unset, .unset] [(.ref o0)] (fun t k => XS.aloadN X33.here hx rfl (hb hby d6_0) rfl rfl k) ?_
  obtain ⟨T46, X46, e46, st46⟩ := getF X33 hx hZ hown (host := "") (Or.inl (own_w hw 27 rfl)) Via.refl e33 cf44 (g := (mkF m 1 #[rv o0, iv u0, iv u1, .unset, .unset] [(.ref o0)])) rfl rfl (hb hby d6_1)
  refine own_go T46 m 4 #[rv o0, iv u0, iv u1, .unset, .unset] [(.int 0)] (st46) ?_
  refine own_go T46 m 46 #[rv o0, iv u0, iv u1, .unset, .unset] [] (fun t k => XS.ifYes X46.here hx rfl (pc0 := 4) (pc' := 46) rfl (hb hby d6_4) rfl ((if0 _ _).trans (flt (by decide)).2.2.2) (by decide) (by decide) k) ?_
  refine own_go T46 m 47 #[rv o0, iv u0, iv u1, .unset, .unset] [(.ref o0)] (fun t k => XS.aloadN X46.here hx rfl (hb hby d6_46) rfl rfl k) ?_
  obtain ⟨T47, X47, e47, st47⟩ := getF X46 hx hZ hown (host := "") (Or.inl (own_w hw 27 rfl)) Via.refl e46 cf44 (g := (mkF m 47 #[rv o0, iv u0, iv u1, .unset, .unset] [(.ref o0)])) rfl rfl (hb hby d6_47)
  refine own_go T47 m 50 #[rv o0, iv u0, iv u1, .unset, .unset] [(.int 0)] (st47) ?_
  refine own_go T47 m 53 #[rv o0, iv u0, iv u1, .unset, .unset] [] (fun t k => XS.ifNo X47.here hx rfl (hb hby d6_50) rfl ((if0 _ _).trans (teq (by decide)).2) k) ?_
  refine own_go T47 m 54 #[rv o0, iv u0, iv u1, .unset, .unset] [(.int (-1))] (fun t k => XS.iconst X47.here hx rfl (hb hby d6_53) k) ?_
  refine own_go T47 m 62 #[rv o0, iv u0, iv u1, .unset, .unset] [(.int (-1))] (fun t k => XS.goto X47.here hx rfl (pc0 := 54) (pc' := 62) rfl (hb hby d6_54) (by decide) (by decide) k) ?_
  refine own_go T47 m 63 #[rv o0, iv u0, iv u1, iv (-1), .unset] [] (fun t k => XS.istoreN X47.here hx rfl (hb hby d6_62) rfl rfl k) ?_
  refine own_go T47 m 64 #[rv o0, iv u0, iv u1, iv (-1), .unset] [(.int (-1))] (fun t k => XS.iloadN X47.here hx rfl (hb hby d6_63) rfl k) ?_
  refine own_go T47 m 67 #[rv o0, iv u0, iv u1, iv (-1), .unset] [] (fun t k => XS.ifNo X47.here hx rfl (hb hby d6_64) rfl ((if0 _ _).trans (tlt (by decide)).2.1) k) ?_
  refine own_go T47 m 68 #[rv o0, iv u0, iv u1, iv (-1), .unset] [(.int (-1))] (fun t k => XS.iconst X47.here hx rfl (hb hby d6_67) k) ?_
  refine own_go T47 m 70 #[rv o0, iv u0, iv u1, iv (-1), iv (-1)] [] (fun t k => XS.istore X47.here hx rfl (hb hby d6_68) rfl rfl k) ?_
  refine own_go T47 m 113 #[rv o0, iv u0, iv u1, iv (-1), iv (-1)] [] (fun t k => XS.goto X47.here hx rfl (pc0 := 70) (pc' := 113) rfl (hb hby d6_70) (by decide) (by decide) k) ?_
  refine own_go T47 m 115 #[rv o0, iv u0, iv u1, iv (-1), iv (-1)] [(.int (-1))] (fun t k => XS.iload X47.here hx rfl (hb hby d6_113) rfl k) ?_
  refine own_retI X47 hx hlk hret (hb hby d6_115) (by decide) (by decide) ?_
  rw [e47]
  exact ⟨rfl, N33, K_33, cf35, cf36, cf37, cf38, cf39, cf40, cf44, cf45, F33⟩
theorem ef_sp24 (m : MethodId) (q0 : Addr) (q1 : Int32) : entryFrame m #[(.ref q0), (.int q1)] 2 = mkF m 0 #[rv q0, iv q1] [] := by first | (simp [entryFrame, mkF, argsToLocals, Value.category]; done) | rfl
set_option maxRecDepth 65536 in
set_option maxHeartbeats 40000000 in
theorem sp24 (l : Launch) (Z : State) (a0 : Array Value) (hw : ∀ d ∈ tables_1, d.before a0 Z = true) (ws : List Jvm.Cond) (o0 o1 o2 o3 o4 o5 : Addr) (u0 : Int32) (u1 : Int32) (c0 : ClassId) (c1 : ClassId) (h0 : Heap) (n0 : Nat) (Z0 : n0 ≤ h0.size) (E_o0 : Exa Z h0 o0 OwnK0) (F_count_o0 : Fld Z h0 o0 OwnK0 "count" "I" (.int 1)) (F_cursor_o0 : Fld Z h0 o0 OwnK0 "cursor" "I" (.int (-1))) (F_ends_o0 : Fld Z h0 o0 OwnK0 "ends" "[I" (.ref o1)) (F_lastOpened_o0 : Fld Z h0 o0 OwnK0 "lastOpened" "I" (.int 0)) (F_segmentEnd_o0 : Fld Z h0 o0 OwnK0 "segmentEnd" "[I" (.ref o2)) (F_segmentFirst_o0 : Fld Z h0 o0 OwnK0 "segmentFirst" "[I" (.ref o3)) (F_segmentLimit_o0 : Fld Z h0 o0 OwnK0 "segmentLimit" "[I" (.ref o4)) (F_segments_o0 : Fld Z h0 o0 OwnK0 "segments" "I" (.int 1)) (F_starts_o0 : Fld Z h0 o0 OwnK0 "starts" "[I" (.ref o5)) (V_o3 : Arv Z h0 o3 c0 .int (8 : Int32) [(.int 0), (.int 0), (.int 0), (.int 0), (.int 0), (.int 0), (.int 0), (.int 0)] (.int 0)) (V_o4 : Arv Z h0 o4 c1 .int (8 : Int32) [(.int u1), (.int 0), (.int 0), (.int 0), (.int 0), (.int 0), (.int 0), (.int 0)] (.int 0)) (ne_o0_o1 : o0 ≠ o1) (ne_o0_o2 : o0 ≠ o2) (ne_o0_o3 : o0 ≠ o3) (ne_o0_o4 : o0 ≠ o4) (ne_o0_o5 : o0 ≠ o5) (ne_o1_o3 : o1 ≠ o3) (ne_o1_o4 : o1 ≠ o4) (ne_o2_o3 : o2 ≠ o3) (ne_o2_o4 : o2 ≠ o4) (ne_o3_o4 : o3 ≠ o4) (ne_o3_o5 : o3 ≠ o5) (ne_o4_o5 : o4 ≠ o5) (g_o0 : n0 ≤ o0) (g_o3 : n0 ≤ o3) (g_o4 : n0 ≤ o4) :
    OwnC l Z (⟨OwnK0, "beginRead", "(I)V"⟩ : MethodName) prog_48_method_5_code 2 none ws ({ frames := 0, cells := 0, slots := 0, locals := 0 } : Room) #[(.ref o0), (.int u0)] h0 (fun v h L => v = none ∧ Fr n0 L ∧ Keep h0 h [o0, o3, o4] ∧ Fld Z h o0 OwnK0 "count" "I" (.int 1) ∧ Fld Z h o0 OwnK0 "ends" "[I" (.ref o1) ∧ Fld Z h o0 OwnK0 "lastOpened" "I" (.int 0) ∧ Fld Z h o0 OwnK0 "segmentEnd" "[I" (.ref o2) ∧ Fld Z h o0 OwnK0 "segmentFirst" "[I" (.ref o3) ∧ Fld Z h o0 OwnK0 "segmentLimit" "[I" (.ref o4) ∧ Fld Z h o0 OwnK0 "starts" "[I" (.ref o5) ∧ Arv Z h o3 c0 .int (8 : Int32) [(.int 0), (.int 1), (.int 0), (.int 0), (.int 0), (.int 0), (.int 0), (.int 0)] (.int 0) ∧ Arv Z h o4 c1 .int (8 : Int32) [(.int u1), (.int u0), (.int 0), (.int 0), (.int 0), (.int 0), (.int 0), (.int 0)] (.int 0) ∧ Fld Z h o0 OwnK0 "segments" "I" (.int 2) ∧ Fld Z h o0 OwnK0 "cursor" "I" (.int (-1))) := by
  refine own_entry pf_com_example_wirelens_wirelens_wire_GroupEnds_beginRead__I_V (fun m => ef_sp24 m o0 u0) ?_
  intro p e s m below meth c T0 X0 hC e0
  obtain ⟨hx, hby, hml, hown, hnm, hret, hlk, hZ⟩ := hC
  have N0 := Fr.nil n0
  have K0 := Keep.refl h0 [o0, o3, o4]
  refine own_go T0 m 1 #[rv o0, iv u0] [(.ref o0)] (fun t k => XS.aloadN X0.here hx rfl (hb hby d3_0) rfl rfl k) ?_
  obtain ⟨T1, X1, e1, st1⟩ := getF X0 hx hZ hown (host := "") (Or.inl (own_w hw 27 rfl)) Via.refl e0 F_segments_o0 (g := (mkF m 1 #[rv o0, iv u0] [(.ref o0)])) rfl rfl (hb hby d3_1)
  refine own_go T1 m 4 #[rv o0, iv u0] [(.int 1)] (st1) ?_
  refine own_go T1 m 5 #[rv o0, iv u0] [(.ref o0), (.int 1)] (fun t k => XS.aloadN X1.here hx rfl (hb hby d3_4) rfl rfl k) ?_
  obtain ⟨T2, X2, e2, st2⟩ := getF X1 hx hZ hown (host := "") (Or.inl (own_w hw 14 rfl)) Via.refl e1 F_segmentFirst_o0 (g := (mkF m 5 #[rv o0, iv u0] [(.ref o0), (.int 1)])) rfl rfl (hb hby d3_5)
  refine own_go T2 m 8 #[rv o0, iv u0] [(.ref o3), (.int 1)] (st2) ?_
  refine own_go T2 m 9 #[rv o0, iv u0] [(.int 8), (.int 1)] (own_alen X2 hx hZ e2 V_o3 (hb hby d3_8)) ?_
  refine own_go T2 m 63 #[rv o0, iv u0] [] (fun t k => XS.icmpYes X2.here hx rfl (pc0 := 9) (pc' := 63) rfl (hb hby d3_9) rfl (feq (by decide)).2 (by decide) (by decide) k) ?_
  refine own_go T2 m 64 #[rv o0, iv u0] [(.ref o0)] (fun t k => XS.aloadN X2.here hx rfl (hb hby d3_63) rfl rfl k) ?_
  obtain ⟨T4, X4, e4, st4⟩ := getF X2 hx hZ hown (host := "") (Or.inl (own_w hw 14 rfl)) Via.refl e2 F_segmentFirst_o0 (g := (mkF m 64 #[rv o0, iv u0] [(.ref o0)])) rfl rfl (hb hby d3_64)
  refine own_go T4 m 67 #[rv o0, iv u0] [(.ref o3)] (st4) ?_
  refine own_go T4 m 68 #[rv o0, iv u0] [(.ref o0), (.ref o3)] (fun t k => XS.aloadN X4.here hx rfl (hb hby d3_67) rfl rfl k) ?_
  obtain ⟨T5, X5, e5, st5⟩ := getF X4 hx hZ hown (host := "") (Or.inl (own_w hw 27 rfl)) Via.refl e4 F_segments_o0 (g := (mkF m 68 #[rv o0, iv u0] [(.ref o0), (.ref o3)])) rfl rfl (hb hby d3_68)
  refine own_go T5 m 71 #[rv o0, iv u0] [(.int 1), (.ref o3)] (st5) ?_
  refine own_go T5 m 72 #[rv o0, iv u0] [(.ref o0), (.int 1), (.ref o3)] (fun t k => XS.aloadN X5.here hx rfl (hb hby d3_71) rfl rfl k) ?_
  obtain ⟨T6, X6, e6, st6⟩ := getF X5 hx hZ hown (host := "") (Or.inl (own_w hw 29 rfl)) Via.refl e5 F_count_o0 (g := (mkF m 72 #[rv o0, iv u0] [(.ref o0), (.int 1), (.ref o3)])) rfl rfl (hb hby d3_72)
  refine own_go T6 m 75 #[rv o0, iv u0] [(.int 1), (.int 1), (.ref o3)] (st6) ?_
  obtain ⟨T7, h7, X7, e7, W7, V7, st7⟩ := own_iastore X6 hx hZ e6 V_o3 (j := (1 : Int32)) ⟨by decide, by decide⟩ 1 rfl (Nat.le_of_ble_eq_true rfl) (Ls := #[rv o0, iv u0]) (rest := []) (x := (1 : Int32)) (hb hby d3_75)
  replace V7 : Arv Z h7 o3 c0 .int (8 : Int32) [(.int 0), (.int 1), (.int 0), (.int 0), (.int 0), (.int 0), (.int 0), (.int 0)] (.int 0) := V7
  have cf8 := E_o0.wr W7
  have cf9 := F_count_o0.other W7 (Or.inl ne_o0_o3)
  have cf10 := F_cursor_o0.other W7 (Or.inl ne_o0_o3)
  have cf11 := F_ends_o0.other W7 (Or.inl ne_o0_o3)
  have cf12 := F_lastOpened_o0.other W7 (Or.inl ne_o0_o3)
  have cf13 := F_segmentEnd_o0.other W7 (Or.inl ne_o0_o3)
  have cf14 := F_segmentFirst_o0.other W7 (Or.inl ne_o0_o3)
  have cf15 := F_segmentLimit_o0.other W7 (Or.inl ne_o0_o3)
  have cf16 := F_segments_o0.other W7 (Or.inl ne_o0_o3)
  have cf17 := F_starts_o0.other W7 (Or.inl ne_o0_o3)
  have cf18 := V_o4.other W7 (Ne.symm ne_o3_o4)
  have Z_7 : n0 ≤ h7.size := Nat.le_trans Z0 (Keep.of_wr W7).1
  have K_7 : Keep h0 h7 [o0, o3, o4] := K0.wr W7 (own_i 1 rfl)
  have N7 := Fr.snoc X7 N0 g_o3
  refine own_go T7 m 76 #[rv o0, iv u0] [] (st7) ?_
  refine own_go T7 m 77 #[rv o0, iv u0] [(.ref o0)] (fun t k => XS.aloadN X7.here hx rfl (hb hby d3_76) rfl rfl k) ?_
  obtain ⟨T19, X19, e19, st19⟩ := getF X7 hx hZ hown (host := "") (Or.inl (own_w hw 18 rfl)) Via.refl e7 cf15 (g := (mkF m 77 #[rv o0, iv u0] [(.ref o0)])) rfl rfl (hb hby d3_77)
  refine own_go T19 m 80 #[rv o0, iv u0] [(.ref o4)] (st19) ?_
  refine own_go T19 m 81 #[rv o0, iv u0] [(.ref o0), (.ref o4)] (fun t k => XS.aloadN X19.here hx rfl (hb hby d3_80) rfl rfl k) ?_
  obtain ⟨T20, X20, e20, st20⟩ := getF X19 hx hZ hown (host := "") (Or.inl (own_w hw 27 rfl)) Via.refl e19 cf16 (g := (mkF m 81 #[rv o0, iv u0] [(.ref o0), (.ref o4)])) rfl rfl (hb hby d3_81)
  refine own_go T20 m 84 #[rv o0, iv u0] [(.int 1), (.ref o4)] (st20) ?_
  refine own_go T20 m 85 #[rv o0, iv u0] [(.int u0), (.int 1), (.ref o4)] (fun t k => XS.iloadN X20.here hx rfl (hb hby d3_84) rfl k) ?_
  obtain ⟨T21, h21, X21, e21, W21, V21, st21⟩ := own_iastore X20 hx hZ e20 cf18 (j := (1 : Int32)) ⟨by decide, by decide⟩ 1 rfl (Nat.le_of_ble_eq_true rfl) (Ls := #[rv o0, iv u0]) (rest := []) (x := u0) (hb hby d3_85)
  replace V21 : Arv Z h21 o4 c1 .int (8 : Int32) [(.int u1), (.int u0), (.int 0), (.int 0), (.int 0), (.int 0), (.int 0), (.int 0)] (.int 0) := V21
  have cf22 := cf8.wr W21
  have cf23 := cf9.other W21 (Or.inl ne_o0_o4)
  have cf24 := cf10.other W21 (Or.inl ne_o0_o4)
  have cf25 := cf11.other W21 (Or.inl ne_o0_o4)
  have cf26 := cf12.other W21 (Or.inl ne_o0_o4)
  have cf27 := cf13.other W21 (Or.inl ne_o0_o4)
  have cf28 := cf14.other W21 (Or.inl ne_o0_o4)
  have cf29 := cf15.other W21 (Or.inl ne_o0_o4)
  have cf30 := cf16.other W21 (Or.inl ne_o0_o4)
  have cf31 := cf17.other W21 (Or.inl ne_o0_o4)
  have cf32 := V7.other W21 ne_o3_o4
  have Z_21 : n0 ≤ h21.size := Nat.le_trans Z_7 (Keep.of_wr W21).1
  have K_21 : Keep h0 h21 [o0, o3, o4] := K_7.wr W21 (own_i 2 rfl)
  have N21 := Fr.snoc X21 N7 g_o4
  refine own_go T21 m 86 #[rv o0, iv u0] [] (st21) ?_
  refine own_go T21 m 87 #[rv o0, iv u0] [(.ref o0)] (fun t k => XS.aloadN X21.here hx rfl (hb hby d3_86) rfl rfl k) ?_
  refine own_go T21 m 88 #[rv o0, iv u0] [(.ref o0), (.ref o0)] (fun t k => XS.dup X21.here hx rfl (hb hby d3_87) rfl rfl k) ?_
  obtain ⟨T33, X33, e33, st33⟩ := getF X21 hx hZ hown (host := "") (Or.inl (own_w hw 27 rfl)) Via.refl e21 cf30 (g := (mkF m 88 #[rv o0, iv u0] [(.ref o0), (.ref o0)])) rfl rfl (hb hby d3_88)
  refine own_go T33 m 91 #[rv o0, iv u0] [(.int 1), (.ref o0)] (st33) ?_
  refine own_go T33 m 92 #[rv o0, iv u0] [(.int 1), (.int 1), (.ref o0)] (fun t k => XS.iconst X33.here hx rfl (hb hby d3_91) k) ?_
  refine own_go T33 m 93 #[rv o0, iv u0] [(.int ((1 : Int32) + (1 : Int32))), (.ref o0)] (fun t k => XS.iadd X33.here hx rfl (hb hby d3_92) rfl k) ?_
  rw [show ((1 : Int32) + (1 : Int32)) = (2 : Int32) from by decide]
  obtain ⟨T34, h34, X34, e34, W34, st34⟩ := putF X33 hx hZ hown (host := "") (Or.inl (own_w hw 27 rfl)) Via.refl e33 cf30 cf22 (Or.inl (own_w hw 28 rfl)) (own_w hw 1 rfl) (ty := .int) (by decide) rfl rfl (g := (mkF m 93 #[rv o0, iv u0] [(.int 2), (.ref o0)])) rfl rfl (hb hby d3_93)
  have F34 := cf30.same W34
  have cf35 := cf22.wr W34
  have cf36 := cf23.other W34 (Or.inr (slot_ne (Or.inl (own_w hw 30 rfl)) (Or.inl (own_w hw 28 rfl)) (by decide) (t := .int) (t' := .int) (by decide) (by decide)))
  have cf37 := cf24.other W34 (Or.inr (slot_ne (Or.inl (own_w hw 21 rfl)) (Or.inl (own_w hw 28 rfl)) (by decide) (t := .int) (t' := .int) (by decide) (by decide)))
  have cf38 := cf25.other W34 (Or.inr (slot_ne (Or.inl (own_w hw 13 rfl)) (Or.inl (own_w hw 28 rfl)) (by decide) (t := (.array .int)) (t' := .int) (by decide) (by decide)))
  have cf39 := cf26.other W34 (Or.inr (slot_ne (Or.inl (own_w hw 37 rfl)) (Or.inl (own_w hw 28 rfl)) (by decide) (t := .int) (t' := .int) (by decide) (by decide)))
  have cf40 := cf27.other W34 (Or.inr (slot_ne (Or.inl (own_w hw 17 rfl)) (Or.inl (own_w hw 28 rfl)) (by decide) (t := (.array .int)) (t' := .int) (by decide) (by decide)))
  have cf41 := cf28.other W34 (Or.inr (slot_ne (Or.inl (own_w hw 15 rfl)) (Or.inl (own_w hw 28 rfl)) (by decide) (t := (.array .int)) (t' := .int) (by decide) (by decide)))
  have cf42 := cf29.other W34 (Or.inr (slot_ne (Or.inl (own_w hw 19 rfl)) (Or.inl (own_w hw 28 rfl)) (by decide) (t := (.array .int)) (t' := .int) (by decide) (by decide)))
  have cf43 := cf31.other W34 (Or.inr (slot_ne (Or.inl (own_w hw 11 rfl)) (Or.inl (own_w hw 28 rfl)) (by decide) (t := (.array .int)) (t' := .int) (by decide) (by decide)))
  have cf44 := cf32.other W34 (Ne.symm ne_o0_o3)
  have cf45 := V21.other W34 (Ne.symm ne_o0_o4)
  have Z_34 : n0 ≤ h34.size := Nat.le_trans Z_21 (Keep.of_wr W34).1
  have K_34 : Keep h0 h34 [o0, o3, o4] := K_21.wr W34 (own_i 0 rfl)
  have N34 := Fr.snoc X34 N21 g_o0
  refine own_go T34 m 96 #[rv o0, iv u0] [] (st34) ?_
  refine own_go T34 m 97 #[rv o0, iv u0] [(.ref o0)] (fun t k => XS.aloadN X34.here hx rfl (hb hby d3_96) rfl rfl k) ?_
  refine own_go T34 m 98 #[rv o0, iv u0] [(.int (-1)), (.ref o0)] (fun t k => XS.iconst X34.here hx rfl (hb hby d3_97) k) ?_
  obtain ⟨T46, h46, X46, e46, W46, st46⟩ := putF X34 hx hZ hown (host := "") (Or.inl (own_w hw 20 rfl)) Via.refl e34 cf37 cf35 (Or.inl (own_w hw 21 rfl)) (own_w hw 1 rfl) (ty := .int) (by decide) rfl rfl (g := (mkF m 98 #[rv o0, iv u0] [(.int (-1)), (.ref o0)])) rfl rfl (hb hby d3_98)
  have F46 := cf37.same W46
  have cf47 := cf35.wr W46
  have cf48 := cf36.other W46 (Or.inr (slot_ne (Or.inl (own_w hw 30 rfl)) (Or.inl (own_w hw 21 rfl)) (by decide) (t := .int) (t' := .int) (by decide) (by decide)))
  have cf49 := cf38.other W46 (Or.inr (slot_ne (Or.inl (own_w hw 13 rfl)) (Or.inl (own_w hw 21 rfl)) (by decide) (t := (.array .int)) (t' := .int) (by decide) (by decide)))
  have cf50 := cf39.other W46 (Or.inr (slot_ne (Or.inl (own_w hw 37 rfl)) (Or.inl (own_w hw 21 rfl)) (by decide) (t := .int) (t' := .int) (by decide) (by decide)))
  have cf51 := cf40.other W46 (Or.inr (slot_ne (Or.inl (own_w hw 17 rfl)) (Or.inl (own_w hw 21 rfl)) (by decide) (t := (.array .int)) (t' := .int) (by decide) (by decide)))
  have cf52 := cf41.other W46 (Or.inr (slot_ne (Or.inl (own_w hw 15 rfl)) (Or.inl (own_w hw 21 rfl)) (by decide) (t := (.array .int)) (t' := .int) (by decide) (by decide)))
  have cf53 := cf42.other W46 (Or.inr (slot_ne (Or.inl (own_w hw 19 rfl)) (Or.inl (own_w hw 21 rfl)) (by decide) (t := (.array .int)) (t' := .int) (by decide) (by decide)))
  have cf54 := cf43.other W46 (Or.inr (slot_ne (Or.inl (own_w hw 11 rfl)) (Or.inl (own_w hw 21 rfl)) (by decide) (t := (.array .int)) (t' := .int) (by decide) (by decide)))
  have cf55 := cf44.other W46 (Ne.symm ne_o0_o3)
  have cf56 := cf45.other W46 (Ne.symm ne_o0_o4)
  have cf57 := F34.other W46 (Or.inr (slot_ne (Or.inl (own_w hw 28 rfl)) (Or.inl (own_w hw 21 rfl)) (by decide) (t := .int) (t' := .int) (by decide) (by decide)))
  have Z_46 : n0 ≤ h46.size := Nat.le_trans Z_34 (Keep.of_wr W46).1
  have K_46 : Keep h0 h46 [o0, o3, o4] := K_34.wr W46 (own_i 0 rfl)
  have N46 := Fr.snoc X46 N34 g_o0
  refine own_go T46 m 101 #[rv o0, iv u0] [] (st46) ?_
  refine own_retV X46 hx hlk hret (hb hby d3_101) (by decide) (by decide) ?_
  rw [e46]
  exact ⟨rfl, N46, K_46, cf48, cf49, cf50, cf51, cf52, cf53, cf54, cf55, cf56, cf57, F46⟩
theorem ef_sp25 (m : MethodId) (q0 : Addr) (q1 : Int32) : entryFrame m #[(.ref q0), (.int q1)] 3 = mkF m 0 #[rv q0, iv q1, .unset] [] := by first | (simp [entryFrame, mkF, argsToLocals, Value.category]; done) | rfl
set_option maxRecDepth 65536 in
set_option maxHeartbeats 40000000 in
theorem sp25 (l : Launch) (Z : State) (a0 : Array Value) (hw : ∀ d ∈ tables_1, d.before a0 Z = true) (ws : List Jvm.Cond) (o0 o1 o2 o3 o4 o5 : Addr) (u0 : Int32) (c0 : ClassId) (h0 : Heap) (n0 : Nat) (Z0 : n0 ≤ h0.size) (E_o0 : Exa Z h0 o0 OwnK0) (F_count_o0 : Fld Z h0 o0 OwnK0 "count" "I" (.int 1)) (F_cursor_o0 : Fld Z h0 o0 OwnK0 "cursor" "I" (.int (-1))) (F_ends_o0 : Fld Z h0 o0 OwnK0 "ends" "[I" (.ref o1)) (F_lastOpened_o0 : Fld Z h0 o0 OwnK0 "lastOpened" "I" (.int 0)) (F_segmentEnd_o0 : Fld Z h0 o0 OwnK0 "segmentEnd" "[I" (.ref o2)) (F_segmentFirst_o0 : Fld Z h0 o0 OwnK0 "segmentFirst" "[I" (.ref o3)) (F_segmentLimit_o0 : Fld Z h0 o0 OwnK0 "segmentLimit" "[I" (.ref o4)) (F_segments_o0 : Fld Z h0 o0 OwnK0 "segments" "I" (.int 2)) (F_starts_o0 : Fld Z h0 o0 OwnK0 "starts" "[I" (.ref o5)) (V_o3 : Arv Z h0 o3 c0 .int (8 : Int32) [(.int 0), (.int 1), (.int 0), (.int 0), (.int 0), (.int 0), (.int 0), (.int 0)] (.int 0)) (ne_o0_o1 : o0 ≠ o1) (ne_o0_o2 : o0 ≠ o2) (ne_o0_o3 : o0 ≠ o3) (ne_o0_o4 : o0 ≠ o4) (ne_o0_o5 : o0 ≠ o5) (g_o0 : n0 ≤ o0) :
    OwnC l Z (⟨OwnK0, "endRead", "(I)V"⟩ : MethodName) prog_48_method_8_code 3 none ws ({ frames := 0, cells := 0, slots := 0, locals := 0 } : Room) #[(.ref o0), (.int u0)] h0 (fun v h L => v = none ∧ Fr n0 L ∧ Keep h0 h [o0] ∧ Fld Z h o0 OwnK0 "count" "I" (.int 1) ∧ Fld Z h o0 OwnK0 "cursor" "I" (.int (-1)) ∧ Fld Z h o0 OwnK0 "ends" "[I" (.ref o1) ∧ Fld Z h o0 OwnK0 "lastOpened" "I" (.int 0) ∧ Fld Z h o0 OwnK0 "segmentEnd" "[I" (.ref o2) ∧ Fld Z h o0 OwnK0 "segmentFirst" "[I" (.ref o3) ∧ Fld Z h o0 OwnK0 "segmentLimit" "[I" (.ref o4) ∧ Fld Z h o0 OwnK0 "starts" "[I" (.ref o5) ∧ Fld Z h o0 OwnK0 "segments" "I" (.int 1)) := by
  refine own_entry pf_com_example_wirelens_wirelens_wire_GroupEnds_endRead__I_V (fun m => ef_sp25 m o0 u0) ?_
  intro p e s m below meth c T0 X0 hC e0
  obtain ⟨hx, hby, hml, hown, hnm, hret, hlk, hZ⟩ := hC
  have N0 := Fr.nil n0
  have K0 := Keep.refl h0 [o0]
  refine own_go T0 m 1 #[rv o0, iv u0, .unset] [(.ref o0)] (fun t k => XS.aloadN X0.here hx rfl (hb hby d5_0) rfl rfl k) ?_
  obtain ⟨T1, X1, e1, st1⟩ := getF X0 hx hZ hown (host := "") (Or.inl (own_w hw 27 rfl)) Via.refl e0 F_segments_o0 (g := (mkF m 1 #[rv o0, iv u0, .unset] [(.ref o0)])) rfl rfl (hb hby d5_1)
  refine own_go T1 m 4 #[rv o0, iv u0, .unset] [(.int 2)] (st1) ?_
  refine own_go T1 m 5 #[rv o0, iv u0, .unset] [(.int 1), (.int 2)] (fun t k => XS.iconst X1.here hx rfl (hb hby d5_4) k) ?_
  refine own_go T1 m 6 #[rv o0, iv u0, .unset] [(.int ((2 : Int32) - (1 : Int32)))] (fun t k => XS.isub X1.here hx rfl (hb hby d5_5) rfl k) ?_
  rw [show ((2 : Int32) - (1 : Int32)) = (1 : Int32) from by decide]
  refine own_go T1 m 7 #[rv o0, iv u0, iv 1] [] (fun t k => XS.istoreN X1.here hx rfl (hb hby d5_6) rfl rfl k) ?_
  refine own_go T1 m 8 #[rv o0, iv u0, iv 1] [(.ref o0)] (fun t k => XS.aloadN X1.here hx rfl (hb hby d5_7) rfl rfl k) ?_
  obtain ⟨T2, X2, e2, st2⟩ := getF X1 hx hZ hown (host := "") (Or.inl (own_w hw 29 rfl)) Via.refl e1 F_count_o0 (g := (mkF m 8 #[rv o0, iv u0, iv 1] [(.ref o0)])) rfl rfl (hb hby d5_8)
  refine own_go T2 m 11 #[rv o0, iv u0, iv 1] [(.int 1)] (st2) ?_
  refine own_go T2 m 12 #[rv o0, iv u0, iv 1] [(.ref o0), (.int 1)] (fun t k => XS.aloadN X2.here hx rfl (hb hby d5_11) rfl rfl k) ?_
  obtain ⟨T3, X3, e3, st3⟩ := getF X2 hx hZ hown (host := "") (Or.inl (own_w hw 14 rfl)) Via.refl e2 F_segmentFirst_o0 (g := (mkF m 12 #[rv o0, iv u0, iv 1] [(.ref o0), (.int 1)])) rfl rfl (hb hby d5_12)
  refine own_go T3 m 15 #[rv o0, iv u0, iv 1] [(.ref o3), (.int 1)] (st3) ?_
  refine own_go T3 m 16 #[rv o0, iv u0, iv 1] [(.int 1), (.ref o3), (.int 1)] (fun t k => XS.iloadN X3.here hx rfl (hb hby d5_15) rfl k) ?_
  refine own_go T3 m 17 #[rv o0, iv u0, iv 1] [(.int 1), (.int 1)] (own_iaload X3 hx hZ e3 V_o3 (j := (1 : Int32)) ⟨by decide, by decide⟩ rfl (hb hby d5_16)) ?_
  refine own_go T3 m 20 #[rv o0, iv u0, iv 1] [] (fun t k => XS.icmpNo X3.here hx rfl (hb hby d5_17) rfl (teq (by decide)).2 k) ?_
  refine own_go T3 m 21 #[rv o0, iv u0, iv 1] [(.ref o0)] (fun t k => XS.aloadN X3.here hx rfl (hb hby d5_20) rfl rfl k) ?_
  refine own_go T3 m 22 #[rv o0, iv u0, iv 1] [(.ref o0), (.ref o0)] (fun t k => XS.dup X3.here hx rfl (hb hby d5_21) rfl rfl k) ?_
  obtain ⟨T5, X5, e5, st5⟩ := getF X3 hx hZ hown (host := "") (Or.inl (own_w hw 27 rfl)) Via.refl e3 F_segments_o0 (g := (mkF m 22 #[rv o0, iv u0, iv 1] [(.ref o0), (.ref o0)])) rfl rfl (hb hby d5_22)
  refine own_go T5 m 25 #[rv o0, iv u0, iv 1] [(.int 2), (.ref o0)] (st5) ?_
  refine own_go T5 m 26 #[rv o0, iv u0, iv 1] [(.int 1), (.int 2), (.ref o0)] (fun t k => XS.iconst X5.here hx rfl (hb hby d5_25) k) ?_
  refine own_go T5 m 27 #[rv o0, iv u0, iv 1] [(.int ((2 : Int32) - (1 : Int32))), (.ref o0)] (fun t k => XS.isub X5.here hx rfl (hb hby d5_26) rfl k) ?_
  rw [show ((2 : Int32) - (1 : Int32)) = (1 : Int32) from by decide]
  obtain ⟨T6, h6, X6, e6, W6, st6⟩ := putF X5 hx hZ hown (host := "") (Or.inl (own_w hw 27 rfl)) Via.refl e5 F_segments_o0 E_o0 (Or.inl (own_w hw 28 rfl)) (own_w hw 1 rfl) (ty := .int) (by decide) rfl rfl (g := (mkF m 27 #[rv o0, iv u0, iv 1] [(.int 1), (.ref o0)])) rfl rfl (hb hby d5_27)
  have F6 := F_segments_o0.same W6
  have cf7 := E_o0.wr W6
  have cf8 := F_count_o0.other W6 (Or.inr (slot_ne (Or.inl (own_w hw 30 rfl)) (Or.inl (own_w hw 28 rfl)) (by decide) (t := .int) (t' := .int) (by decide) (by decide)))
  have cf9 := F_cursor_o0.other W6 (Or.inr (slot_ne (Or.inl (own_w hw 21 rfl)) (Or.inl (own_w hw 28 rfl)) (by decide) (t := .int) (t' := .int) (by decide) (by decide)))
  have cf10 := F_ends_o0.other W6 (Or.inr (slot_ne (Or.inl (own_w hw 13 rfl)) (Or.inl (own_w hw 28 rfl)) (by decide) (t := (.array .int)) (t' := .int) (by decide) (by decide)))
  have cf11 := F_lastOpened_o0.other W6 (Or.inr (slot_ne (Or.inl (own_w hw 37 rfl)) (Or.inl (own_w hw 28 rfl)) (by decide) (t := .int) (t' := .int) (by decide) (by decide)))
  have cf12 := F_segmentEnd_o0.other W6 (Or.inr (slot_ne (Or.inl (own_w hw 17 rfl)) (Or.inl (own_w hw 28 rfl)) (by decide) (t := (.array .int)) (t' := .int) (by decide) (by decide)))
  have cf13 := F_segmentFirst_o0.other W6 (Or.inr (slot_ne (Or.inl (own_w hw 15 rfl)) (Or.inl (own_w hw 28 rfl)) (by decide) (t := (.array .int)) (t' := .int) (by decide) (by decide)))
  have cf14 := F_segmentLimit_o0.other W6 (Or.inr (slot_ne (Or.inl (own_w hw 19 rfl)) (Or.inl (own_w hw 28 rfl)) (by decide) (t := (.array .int)) (t' := .int) (by decide) (by decide)))
  have cf15 := F_starts_o0.other W6 (Or.inr (slot_ne (Or.inl (own_w hw 11 rfl)) (Or.inl (own_w hw 28 rfl)) (by decide) (t := (.array .int)) (t' := .int) (by decide) (by decide)))
  have cf16 := V_o3.other W6 (Ne.symm ne_o0_o3)
  have Z_6 : n0 ≤ h6.size := Nat.le_trans Z0 (Keep.of_wr W6).1
  have K_6 : Keep h0 h6 [o0] := K0.wr W6 (own_i 0 rfl)
  have N6 := Fr.snoc X6 N0 g_o0
  refine own_go T6 m 30 #[rv o0, iv u0, iv 1] [] (st6) ?_
  refine own_go T6 m 40 #[rv o0, iv u0, iv 1] [] (fun t k => XS.goto X6.here hx rfl (pc0 := 30) (pc' := 40) rfl (hb hby d5_30) (by decide) (by decide) k) ?_
  refine own_retV X6 hx hlk hret (hb hby d5_40) (by decide) (by decide) ?_
  rw [e6]
  exact ⟨rfl, N6, K_6, cf8, cf9, cf10, cf11, cf12, cf13, cf14, cf15, F6⟩
theorem ef_sp26 (m : MethodId) (q0 : Addr) (q1 : Int32) : entryFrame m #[(.ref q0), (.int q1)] 3 = mkF m 0 #[rv q0, iv q1, .unset] [] := by first | (simp [entryFrame, mkF, argsToLocals, Value.category]; done) | rfl
set_option maxRecDepth 65536 in
set_option maxHeartbeats 40000000 in
theorem sp26 (l : Launch) (Z : State) (a0 : Array Value) (hw : ∀ d ∈ tables_1, d.before a0 Z = true) (ws : List Jvm.Cond) (o0 o1 o2 : Addr) (u0 : Int32) (c0 : ClassId) (c1 : ClassId) (h0 : Heap) (n0 : Nat) (Z0 : n0 ≤ h0.size) (F_count_o0 : Fld Z h0 o0 OwnK0 "count" "I" (.int 1)) (F_segmentEnd_o0 : Fld Z h0 o0 OwnK0 "segmentEnd" "[I" (.ref o1)) (F_segmentFirst_o0 : Fld Z h0 o0 OwnK0 "segmentFirst" "[I" (.ref o2)) (F_segments_o0 : Fld Z h0 o0 OwnK0 "segments" "I" (.int 1)) (V_o1 : Arv Z h0 o1 c0 .int (8 : Int32) [(.int 0), (.int 0), (.int 0), (.int 0), (.int 0), (.int 0), (.int 0), (.int 0)] (.int 0)) (V_o2 : Arv Z h0 o2 c1 .int (8 : Int32) [(.int 0), (.int 1), (.int 0), (.int 0), (.int 0), (.int 0), (.int 0), (.int 0)] (.int 0)) (ne_o0_o1 : o0 ≠ o1) (ne_o1_o2 : o1 ≠ o2) (g_o1 : n0 ≤ o1) :
    OwnC l Z (⟨OwnK0, "endRead", "(I)V"⟩ : MethodName) prog_48_method_8_code 3 none ws ({ frames := 0, cells := 0, slots := 0, locals := 0 } : Room) #[(.ref o0), (.int u0)] h0 (fun v h L => v = none ∧ Fr n0 L ∧ Keep h0 h [o1] ∧ Arv Z h o1 c0 .int (8 : Int32) [(.int u0), (.int 0), (.int 0), (.int 0), (.int 0), (.int 0), (.int 0), (.int 0)] (.int 0)) := by
  refine own_entry pf_com_example_wirelens_wirelens_wire_GroupEnds_endRead__I_V (fun m => ef_sp26 m o0 u0) ?_
  intro p e s m below meth c T0 X0 hC e0
  obtain ⟨hx, hby, hml, hown, hnm, hret, hlk, hZ⟩ := hC
  have N0 := Fr.nil n0
  have K0 := Keep.refl h0 [o1]
  refine own_go T0 m 1 #[rv o0, iv u0, .unset] [(.ref o0)] (fun t k => XS.aloadN X0.here hx rfl (hb hby d5_0) rfl rfl k) ?_
  obtain ⟨T1, X1, e1, st1⟩ := getF X0 hx hZ hown (host := "") (Or.inl (own_w hw 27 rfl)) Via.refl e0 F_segments_o0 (g := (mkF m 1 #[rv o0, iv u0, .unset] [(.ref o0)])) rfl rfl (hb hby d5_1)
  refine own_go T1 m 4 #[rv o0, iv u0, .unset] [(.int 1)] (st1) ?_
  refine own_go T1 m 5 #[rv o0, iv u0, .unset] [(.int 1), (.int 1)] (fun t k => XS.iconst X1.here hx rfl (hb hby d5_4) k) ?_
  refine own_go T1 m 6 #[rv o0, iv u0, .unset] [(.int ((1 : Int32) - (1 : Int32)))] (fun t k => XS.isub X1.here hx rfl (hb hby d5_5) rfl k) ?_
  rw [show ((1 : Int32) - (1 : Int32)) = (0 : Int32) from by decide]
  refine own_go T1 m 7 #[rv o0, iv u0, iv 0] [] (fun t k => XS.istoreN X1.here hx rfl (hb hby d5_6) rfl rfl k) ?_
  refine own_go T1 m 8 #[rv o0, iv u0, iv 0] [(.ref o0)] (fun t k => XS.aloadN X1.here hx rfl (hb hby d5_7) rfl rfl k) ?_
  obtain ⟨T2, X2, e2, st2⟩ := getF X1 hx hZ hown (host := "") (Or.inl (own_w hw 29 rfl)) Via.refl e1 F_count_o0 (g := (mkF m 8 #[rv o0, iv u0, iv 0] [(.ref o0)])) rfl rfl (hb hby d5_8)
  refine own_go T2 m 11 #[rv o0, iv u0, iv 0] [(.int 1)] (st2) ?_
  refine own_go T2 m 12 #[rv o0, iv u0, iv 0] [(.ref o0), (.int 1)] (fun t k => XS.aloadN X2.here hx rfl (hb hby d5_11) rfl rfl k) ?_
  obtain ⟨T3, X3, e3, st3⟩ := getF X2 hx hZ hown (host := "") (Or.inl (own_w hw 14 rfl)) Via.refl e2 F_segmentFirst_o0 (g := (mkF m 12 #[rv o0, iv u0, iv 0] [(.ref o0), (.int 1)])) rfl rfl (hb hby d5_12)
  refine own_go T3 m 15 #[rv o0, iv u0, iv 0] [(.ref o2), (.int 1)] (st3) ?_
  refine own_go T3 m 16 #[rv o0, iv u0, iv 0] [(.int 0), (.ref o2), (.int 1)] (fun t k => XS.iloadN X3.here hx rfl (hb hby d5_15) rfl k) ?_
  refine own_go T3 m 17 #[rv o0, iv u0, iv 0] [(.int 0), (.int 1)] (own_iaload X3 hx hZ e3 V_o2 (j := (0 : Int32)) ⟨by decide, by decide⟩ rfl (hb hby d5_16)) ?_
  refine own_go T3 m 33 #[rv o0, iv u0, iv 0] [] (fun t k => XS.icmpYes X3.here hx rfl (pc0 := 17) (pc' := 33) rfl (hb hby d5_17) rfl (feq (by decide)).2 (by decide) (by decide) k) ?_
  refine own_go T3 m 34 #[rv o0, iv u0, iv 0] [(.ref o0)] (fun t k => XS.aloadN X3.here hx rfl (hb hby d5_33) rfl rfl k) ?_
  obtain ⟨T5, X5, e5, st5⟩ := getF X3 hx hZ hown (host := "") (Or.inl (own_w hw 16 rfl)) Via.refl e3 F_segmentEnd_o0 (g := (mkF m 34 #[rv o0, iv u0, iv 0] [(.ref o0)])) rfl rfl (hb hby d5_34)
  refine own_go T5 m 37 #[rv o0, iv u0, iv 0] [(.ref o1)] (st5) ?_
  refine own_go T5 m 38 #[rv o0, iv u0, iv 0] [(.int 0), (.ref o1)] (fun t k => XS.iloadN X5.here hx rfl (hb hby d5_37) rfl k) ?_
  refine own_go T5 m 39 #[rv o0, iv u0, iv 0] [(.int u0), (.int 0), (.ref o1)] (fun t k => XS.iloadN X5.here hx rfl (hb hby d5_38) rfl k) ?_
  obtain ⟨T6, h6, X6, e6, W6, V6, st6⟩ := own_iastore X5 hx hZ e5 V_o1 (j := (0 : Int32)) ⟨by decide, by decide⟩ 0 rfl (Nat.le_of_ble_eq_true rfl) (Ls := #[rv o0, iv u0, iv 0]) (rest := []) (x := u0) (hb hby d5_39)
  replace V6 : Arv Z h6 o1 c0 .int (8 : Int32) [(.int u0), (.int 0), (.int 0), (.int 0), (.int 0), (.int 0), (.int 0), (.int 0)] (.int 0) := V6
  have cf7 := F_count_o0.other W6 (Or.inl ne_o0_o1)
  have cf8 := F_segmentEnd_o0.other W6 (Or.inl ne_o0_o1)
  have cf9 := F_segmentFirst_o0.other W6 (Or.inl ne_o0_o1)
  have cf10 := F_segments_o0.other W6 (Or.inl ne_o0_o1)
  have cf11 := V_o2.other W6 (Ne.symm ne_o1_o2)
  have Z_6 : n0 ≤ h6.size := Nat.le_trans Z0 (Keep.of_wr W6).1
  have K_6 : Keep h0 h6 [o1] := K0.wr W6 (own_i 0 rfl)
  have N6 := Fr.snoc X6 N0 g_o1
  refine own_go T6 m 40 #[rv o0, iv u0, iv 0] [] (st6) ?_
  refine own_retV X6 hx hlk hret (hb hby d5_40) (by decide) (by decide) ?_
  rw [e6]
  exact ⟨rfl, N6, K_6, V6⟩
theorem ef_sp28 (m : MethodId) (q0 : Addr) (q1 : Int32) : entryFrame m #[(.ref q0), (.int q1)] 3 = mkF m 0 #[rv q0, iv q1, .unset] [] := by first | (simp [entryFrame, mkF, argsToLocals, Value.category]; done) | rfl
set_option maxRecDepth 65536 in
set_option maxHeartbeats 40000000 in
theorem sp28 (l : Launch) (Z : State) (a0 : Array Value) (hw : ∀ d ∈ tables_1, d.before a0 Z = true) (ws : List Jvm.Cond) (o0 o1 o2 : Addr) (u0 : Int32) (u1 : Int32) (c0 : ClassId) (c1 : ClassId) (h0 : Heap) (n0 : Nat) (Z0 : n0 ≤ h0.size) (F_segmentFirst_o0 : Fld Z h0 o0 OwnK0 "segmentFirst" "[I" (.ref o1)) (F_segments_o0 : Fld Z h0 o0 OwnK0 "segments" "I" (.int 1)) (F_starts_o0 : Fld Z h0 o0 OwnK0 "starts" "[I" (.ref o2)) (V_o1 : Arv Z h0 o1 c0 .int (8 : Int32) [(.int 0), (.int 1), (.int 0), (.int 0), (.int 0), (.int 0), (.int 0), (.int 0)] (.int 0)) (V_o2 : Arv Z h0 o2 c1 .int (8 : Int32) [(.int u1), (.int 0), (.int 0), (.int 0), (.int 0), (.int 0), (.int 0), (.int 0)] (.int 0)) (hq0 : u0 < u1) :
    OwnC l Z (⟨OwnK0, "newestCovers", "(I)Z"⟩ : MethodName) prog_48_method_3_code 3 (some .boolean) ws ({ frames := 0, cells := 0, slots := 0, locals := 0 } : Room) #[(.ref o0), (.int u0)] h0 (fun v h L => v = some (.int 0) ∧ h = h0 ∧ L = []) := by
  refine own_entry pf_com_example_wirelens_wirelens_wire_GroupEnds_newestCovers__I_Z (fun m => ef_sp28 m o0 u0) ?_
  intro p e s m below meth c T0 X0 hC e0
  obtain ⟨hx, hby, hml, hown, hnm, hret, hlk, hZ⟩ := hC
  have N0 := Fr.nil n0
  have K0 := Keep.refl h0 []
  refine own_go T0 m 1 #[rv o0, iv u0, .unset] [(.ref o0)] (fun t k => XS.aloadN X0.here hx rfl (hb hby d7_0) rfl rfl k) ?_
  obtain ⟨T1, X1, e1, st1⟩ := getF X0 hx hZ hown (host := "") (Or.inl (own_w hw 27 rfl)) Via.refl e0 F_segments_o0 (g := (mkF m 1 #[rv o0, iv u0, .unset] [(.ref o0)])) rfl rfl (hb hby d7_1)
  refine own_go T1 m 4 #[rv o0, iv u0, .unset] [(.int 1)] (st1) ?_
  refine own_go T1 m 5 #[rv o0, iv u0, .unset] [(.int 1), (.int 1)] (fun t k => XS.iconst X1.here hx rfl (hb hby d7_4) k) ?_
  refine own_go T1 m 6 #[rv o0, iv u0, .unset] [(.int ((1 : Int32) - (1 : Int32)))] (fun t k => XS.isub X1.here hx rfl (hb hby d7_5) rfl k) ?_
  rw [show ((1 : Int32) - (1 : Int32)) = (0 : Int32) from by decide]
  refine own_go T1 m 7 #[rv o0, iv u0, iv 0] [] (fun t k => XS.istoreN X1.here hx rfl (hb hby d7_6) rfl rfl k) ?_
  refine own_go T1 m 8 #[rv o0, iv u0, iv 0] [(.int u0)] (fun t k => XS.iloadN X1.here hx rfl (hb hby d7_7) rfl k) ?_
  refine own_go T1 m 9 #[rv o0, iv u0, iv 0] [(.ref o0), (.int u0)] (fun t k => XS.aloadN X1.here hx rfl (hb hby d7_8) rfl rfl k) ?_
  obtain ⟨T2, X2, e2, st2⟩ := getF X1 hx hZ hown (host := "") (Or.inl (own_w hw 10 rfl)) Via.refl e1 F_starts_o0 (g := (mkF m 9 #[rv o0, iv u0, iv 0] [(.ref o0), (.int u0)])) rfl rfl (hb hby d7_9)
  refine own_go T2 m 12 #[rv o0, iv u0, iv 0] [(.ref o2), (.int u0)] (st2) ?_
  refine own_go T2 m 13 #[rv o0, iv u0, iv 0] [(.ref o0), (.ref o2), (.int u0)] (fun t k => XS.aloadN X2.here hx rfl (hb hby d7_12) rfl rfl k) ?_
  obtain ⟨T3, X3, e3, st3⟩ := getF X2 hx hZ hown (host := "") (Or.inl (own_w hw 14 rfl)) Via.refl e2 F_segmentFirst_o0 (g := (mkF m 13 #[rv o0, iv u0, iv 0] [(.ref o0), (.ref o2), (.int u0)])) rfl rfl (hb hby d7_13)
  refine own_go T3 m 16 #[rv o0, iv u0, iv 0] [(.ref o1), (.ref o2), (.int u0)] (st3) ?_
  refine own_go T3 m 17 #[rv o0, iv u0, iv 0] [(.int 0), (.ref o1), (.ref o2), (.int u0)] (fun t k => XS.iloadN X3.here hx rfl (hb hby d7_16) rfl k) ?_
  refine own_go T3 m 18 #[rv o0, iv u0, iv 0] [(.int 0), (.ref o2), (.int u0)] (own_iaload X3 hx hZ e3 V_o1 (j := (0 : Int32)) ⟨by decide, by decide⟩ rfl (hb hby d7_17)) ?_
  refine own_go T3 m 19 #[rv o0, iv u0, iv 0] [(.int u1), (.int u0)] (own_iaload X3 hx hZ e3 V_o2 (j := (0 : Int32)) ⟨by decide, by decide⟩ rfl (hb hby d7_18)) ?_
  refine own_go T3 m 36 #[rv o0, iv u0, iv 0] [] (fun t k => XS.icmpYes X3.here hx rfl (pc0 := 19) (pc' := 36) rfl (hb hby d7_19) rfl (tlt hq0).1 (by decide) (by decide) k) ?_
  refine own_go T3 m 37 #[rv o0, iv u0, iv 0] [(.int 0)] (fun t k => XS.iconst X3.here hx rfl (hb hby d7_36) k) ?_
  refine own_retZ X3 hx hlk hret (by decide) (hb hby d7_37) (by decide) (by decide) ?_
  exact ⟨rfl, e3, rfl⟩
theorem ef_sp27 (m : MethodId) (q0 : Addr) (q1 : Int32) (q2 : Int32) : entryFrame m #[(.ref q0), (.int q1), (.int q2)] 5 = mkF m 0 #[rv q0, iv q1, iv q2, .unset, .unset] [] := by first | (simp [entryFrame, mkF, argsToLocals, Value.category]; done) | rfl
set_option maxRecDepth 65536 in
set_option maxHeartbeats 40000000 in
theorem sp27 (l : Launch) (Z : State) (a0 : Array Value) (hw : ∀ d ∈ tables_1, d.before a0 Z = true) (ws : List Jvm.Cond) (o0 o1 o2 o3 o4 o5 : Addr) (u0 : Int32) (u1 : Int32) (u2 : Int32) (c0 : ClassId) (c1 : ClassId) (h0 : Heap) (n0 : Nat) (Z0 : n0 ≤ h0.size) (E_o0 : Exa Z h0 o0 OwnK0) (F_count_o0 : Fld Z h0 o0 OwnK0 "count" "I" (.int 1)) (F_cursor_o0 : Fld Z h0 o0 OwnK0 "cursor" "I" (.int (-1))) (F_ends_o0 : Fld Z h0 o0 OwnK0 "ends" "[I" (.ref o1)) (F_lastOpened_o0 : Fld Z h0 o0 OwnK0 "lastOpened" "I" (.int 0)) (F_segmentEnd_o0 : Fld Z h0 o0 OwnK0 "segmentEnd" "[I" (.ref o2)) (F_segmentFirst_o0 : Fld Z h0 o0 OwnK0 "segmentFirst" "[I" (.ref o3)) (F_segmentLimit_o0 : Fld Z h0 o0 OwnK0 "segmentLimit" "[I" (.ref o4)) (F_segments_o0 : Fld Z h0 o0 OwnK0 "segments" "I" (.int 1)) (F_starts_o0 : Fld Z h0 o0 OwnK0 "starts" "[I" (.ref o5)) (V_o3 : Arv Z h0 o3 c0 .int (8 : Int32) [(.int 0), (.int 1), (.int 0), (.int 0), (.int 0), (.int 0), (.int 0), (.int 0)] (.int 0)) (V_o5 : Arv Z h0 o5 c1 .int (8 : Int32) [(.int u2), (.int 0), (.int 0), (.int 0), (.int 0), (.int 0), (.int 0), (.int 0)] (.int 0)) (ne_o0_o1 : o0 ≠ o1) (ne_o0_o2 : o0 ≠ o2) (ne_o0_o3 : o0 ≠ o3) (ne_o0_o4 : o0 ≠ o4) (ne_o0_o5 : o0 ≠ o5) (g_o0 : n0 ≤ o0) (hq0 : u0 < u2) :
    OwnC l Z (⟨OwnK0, "find", "(II)I"⟩ : MethodName) prog_48_method_2_code 5 (some .int) ws ({ frames := 1, cells := 0, slots := 0, locals := 14 } : Room) #[(.ref o0), (.int u0), (.int u1)] h0 (fun v h L => v = some (.int (-1)) ∧ Fr n0 L ∧ Keep h0 h [o0] ∧ Fld Z h o0 OwnK0 "ends" "[I" (.ref o1) ∧ Fld Z h o0 OwnK0 "lastOpened" "I" (.int 0) ∧ Fld Z h o0 OwnK0 "segmentEnd" "[I" (.ref o2) ∧ Fld Z h o0 OwnK0 "segmentFirst" "[I" (.ref o3) ∧ Fld Z h o0 OwnK0 "segmentLimit" "[I" (.ref o4) ∧ Fld Z h o0 OwnK0 "starts" "[I" (.ref o5) ∧ Fld Z h o0 OwnK0 "segments" "I" (.int 0) ∧ Fld Z h o0 OwnK0 "count" "I" (.int 0) ∧ Fld Z h o0 OwnK0 "cursor" "I" (.int (-1))) := by
  refine own_entry pf_com_example_wirelens_wirelens_wire_GroupEnds_find__II_I (fun m => ef_sp27 m o0 u0 u1) ?_
  intro p e s m below meth c T0 X0 hC e0
  obtain ⟨hx, hby, hml, hown, hnm, hret, hlk, hZ⟩ := hC
  have N0 := Fr.nil n0
  have K0 := Keep.refl h0 [o0]
  refine own_go T0 m 1 #[rv o0, iv u0, iv u1, .unset, .unset] [(.ref o0)] (fun t k => XS.aloadN X0.here hx rfl (hb hby d6_0) rfl rfl k) ?_
  obtain ⟨T1, X1, e1, st1⟩ := getF X0 hx hZ hown (host := "") (Or.inl (own_w hw 27 rfl)) Via.refl e0 F_segments_o0 (g := (mkF m 1 #[rv o0, iv u0, iv u1, .unset, .unset] [(.ref o0)])) rfl rfl (hb hby d6_1)
  refine own_go T1 m 4 #[rv o0, iv u0, iv u1, .unset, .unset] [(.int 1)] (st1) ?_
  refine own_go T1 m 7 #[rv o0, iv u0, iv u1, .unset, .unset] [] (fun t k => XS.ifNo X1.here hx rfl (hb hby d6_4) rfl ((if0 _ _).trans (tlt (by decide)).2.2.2) k) ?_
  refine own_go T1 m 8 #[rv o0, iv u0, iv u1, .unset, .unset] [(.ref o0)] (fun t k => XS.aloadN X1.here hx rfl (hb hby d6_7) rfl rfl k) ?_
  refine own_go T1 m 9 #[rv o0, iv u0, iv u1, .unset, .unset] [(.int u0), (.ref o0)] (fun t k => XS.iloadN X1.here hx rfl (hb hby d6_8) rfl k) ?_
  obtain ⟨_, T2, L2, X2, ⟨rfl, e2, rfl⟩, st2⟩ := own_private X1 hx hZ (y := (⟨OwnK0, "newestCovers", "(I)Z"⟩ : MethodName)) hown (own_w hw 48 rfl) (own_w hw 49 rfl) (own_w hw 50 rfl) (own_w hw 1 rfl) (own_w hw 2 rfl) (own_w hw 51 rfl) (by decide) (sp28 l Z a0 hw [] o0 o3 o5 u0 u2 c0 c1 h0 n0 Z0 F_segmentFirst_o0 F_segments_o0 F_starts_o0 V_o3 V_o5 hq0) e1 E_o0 0 (argsL := [(.int u0)]) (rest := []) (Ls := #[rv o0, iv u0, iv u1, .unset, .unset]) (by rw [hml]; rfl) (lenOf pd__I_Z rfl) rfl rfl (Nat.le_of_eq rfl) (hb hby d6_9) (by decide) (by decide) (by decide) (by decide)
  replace X2 := own_nil X2
  refine own_go T2 m 12 #[rv o0, iv u0, iv u1, .unset, .unset] [(.int 0)] (st2) ?_
  refine own_go T2 m 15 #[rv o0, iv u0, iv u1, .unset, .unset] [] (fun t k => XS.ifNo X2.here hx rfl (hb hby d6_12) rfl ((if0 _ _).trans (teq (by decide)).2) k) ?_
  refine own_go T2 m 16 #[rv o0, iv u0, iv u1, .unset, .unset] [(.ref o0)] (fun t k => XS.aloadN X2.here hx rfl (hb hby d6_15) rfl rfl k) ?_
  refine own_go T2 m 17 #[rv o0, iv u0, iv u1, .unset, .unset] [(.ref o0), (.ref o0)] (fun t k => XS.dup X2.here hx rfl (hb hby d6_16) rfl rfl k) ?_
  obtain ⟨T3, X3, e3, st3⟩ := getF X2 hx hZ hown (host := "") (Or.inl (own_w hw 27 rfl)) Via.refl e2 F_segments_o0 (g := (mkF m 17 #[rv o0, iv u0, iv u1, .unset, .unset] [(.ref o0), (.ref o0)])) rfl rfl (hb hby d6_17)
  refine own_go T3 m 20 #[rv o0, iv u0, iv u1, .unset, .unset] [(.int 1), (.ref o0)] (st3) ?_
  refine own_go T3 m 21 #[rv o0, iv u0, iv u1, .unset, .unset] [(.int 1), (.int 1), (.ref o0)] (fun t k => XS.iconst X3.here hx rfl (hb hby d6_20) k) ?_
  refine own_go T3 m 22 #[rv o0, iv u0, iv u1, .unset, .unset] [(.int ((1 : Int32) - (1 : Int32))), (.ref o0)] (fun t k => XS.isub X3.here hx rfl (hb hby d6_21) rfl k) ?_
  rw [show ((1 : Int32) - (1 : Int32)) = (0 : Int32) from by decide]
  obtain ⟨T4, h4, X4, e4, W4, st4⟩ := putF X3 hx hZ hown (host := "") (Or.inl (own_w hw 27 rfl)) Via.refl e3 F_segments_o0 E_o0 (Or.inl (own_w hw 28 rfl)) (own_w hw 1 rfl) (ty := .int) (by decide) rfl rfl (g := (mkF m 22 #[rv o0, iv u0, iv u1, .unset, .unset] [(.int 0), (.ref o0)])) rfl rfl (hb hby d6_22)
  have F4 := F_segments_o0.same W4
  have cf5 := E_o0.wr W4
  have cf6 := F_count_o0.other W4 (Or.inr (slot_ne (Or.inl (own_w hw 30 rfl)) (Or.inl (own_w hw 28 rfl)) (by decide) (t := .int) (t' := .int) (by decide) (by decide)))
  have cf7 := F_cursor_o0.other W4 (Or.inr (slot_ne (Or.inl (own_w hw 21 rfl)) (Or.inl (own_w hw 28 rfl)) (by decide) (t := .int) (t' := .int) (by decide) (by decide)))
  have cf8 := F_ends_o0.other W4 (Or.inr (slot_ne (Or.inl (own_w hw 13 rfl)) (Or.inl (own_w hw 28 rfl)) (by decide) (t := (.array .int)) (t' := .int) (by decide) (by decide)))
  have cf9 := F_lastOpened_o0.other W4 (Or.inr (slot_ne (Or.inl (own_w hw 37 rfl)) (Or.inl (own_w hw 28 rfl)) (by decide) (t := .int) (t' := .int) (by decide) (by decide)))
  have cf10 := F_segmentEnd_o0.other W4 (Or.inr (slot_ne (Or.inl (own_w hw 17 rfl)) (Or.inl (own_w hw 28 rfl)) (by decide) (t := (.array .int)) (t' := .int) (by decide) (by decide)))
  have cf11 := F_segmentFirst_o0.other W4 (Or.inr (slot_ne (Or.inl (own_w hw 15 rfl)) (Or.inl (own_w hw 28 rfl)) (by decide) (t := (.array .int)) (t' := .int) (by decide) (by decide)))
  have cf12 := F_segmentLimit_o0.other W4 (Or.inr (slot_ne (Or.inl (own_w hw 19 rfl)) (Or.inl (own_w hw 28 rfl)) (by decide) (t := (.array .int)) (t' := .int) (by decide) (by decide)))
  have cf13 := F_starts_o0.other W4 (Or.inr (slot_ne (Or.inl (own_w hw 11 rfl)) (Or.inl (own_w hw 28 rfl)) (by decide) (t := (.array .int)) (t' := .int) (by decide) (by decide)))
  have cf14 := V_o3.other W4 (Ne.symm ne_o0_o3)
  have cf15 := V_o5.other W4 (Ne.symm ne_o0_o5)
  have Z_4 : n0 ≤ h4.size := Nat.le_trans Z0 (Keep.of_wr W4).1
  have K_4 : Keep h0 h4 [o0] := K0.wr W4 (own_i 0 rfl)
  have N4 := Fr.snoc X4 N0 g_o0
  refine own_go T4 m 25 #[rv o0, iv u0, iv u1, .unset, .unset] [] (st4) ?_
  refine own_go T4 m 26 #[rv o0, iv u0, iv u1, .unset, .unset] [(.ref o0)] (fun t k => XS.aloadN X4.here hx rfl (hb hby d6_25) rfl rfl k) ?_
  refine own_go T4 m 27 #[rv o0, iv u0, iv u1, .unset, .unset] [(.ref o0), (.ref o0)] (fun t k => XS.aloadN X4.here hx rfl (hb hby d6_26) rfl rfl k) ?_
  obtain ⟨T16, X16, e16, st16⟩ := getF X4 hx hZ hown (host := "") (Or.inl (own_w hw 14 rfl)) Via.refl e4 cf11 (g := (mkF m 27 #[rv o0, iv u0, iv u1, .unset, .unset] [(.ref o0), (.ref o0)])) rfl rfl (hb hby d6_27)
  refine own_go T16 m 30 #[rv o0, iv u0, iv u1, .unset, .unset] [(.ref o3), (.ref o0)] (st16) ?_
  refine own_go T16 m 31 #[rv o0, iv u0, iv u1, .unset, .unset] [(.ref o0), (.ref o3), (.ref o0)] (fun t k => XS.aloadN X16.here hx rfl (hb hby d6_30) rfl rfl k) ?_
  obtain ⟨T17, X17, e17, st17⟩ := getF X16 hx hZ hown (host := "") (Or.inl (own_w hw 27 rfl)) Via.refl e16 F4 (g := (mkF m 31 #[rv o0, iv u0, iv u1, .unset, .unset] [(.ref o0), (.ref o3), (.ref o0)])) rfl rfl (hb hby d6_31)
  refine own_go T17 m 34 #[rv o0, iv u0, iv u1, .unset, .unset] [(.int 0), (.ref o3), (.ref o0)] (st17) ?_
  refine own_go T17 m 35 #[rv o0, iv u0, iv u1, .unset, .unset] [(.int 0), (.ref o0)] (own_iaload X17 hx hZ e17 cf14 (j := (0 : Int32)) ⟨by decide, by decide⟩ rfl (hb hby d6_34)) ?_
  obtain ⟨T19, h19, X19, e19, W19, st19⟩ := putF X17 hx hZ hown (host := "") (Or.inl (own_w hw 29 rfl)) Via.refl e17 cf6 cf5 (Or.inl (own_w hw 30 rfl)) (own_w hw 1 rfl) (ty := .int) (by decide) rfl rfl (g := (mkF m 35 #[rv o0, iv u0, iv u1, .unset, .unset] [(.int 0), (.ref o0)])) rfl rfl (hb hby d6_35)
  have F19 := cf6.same W19
  have cf20 := cf5.wr W19
  have cf21 := cf7.other W19 (Or.inr (slot_ne (Or.inl (own_w hw 21 rfl)) (Or.inl (own_w hw 30 rfl)) (by decide) (t := .int) (t' := .int) (by decide) (by decide)))
  have cf22 := cf8.other W19 (Or.inr (slot_ne (Or.inl (own_w hw 13 rfl)) (Or.inl (own_w hw 30 rfl)) (by decide) (t := (.array .int)) (t' := .int) (by decide) (by decide)))
  have cf23 := cf9.other W19 (Or.inr (slot_ne (Or.inl (own_w hw 37 rfl)) (Or.inl (own_w hw 30 rfl)) (by decide) (t := .int) (t' := .int) (by decide) (by decide)))
  have cf24 := cf10.other W19 (Or.inr (slot_ne (Or.inl (own_w hw 17 rfl)) (Or.inl (own_w hw 30 rfl)) (by decide) (t := (.array .int)) (t' := .int) (by decide) (by decide)))
  have cf25 := cf11.other W19 (Or.inr (slot_ne (Or.inl (own_w hw 15 rfl)) (Or.inl (own_w hw 30 rfl)) (by decide) (t := (.array .int)) (t' := .int) (by decide) (by decide)))
  have cf26 := cf12.other W19 (Or.inr (slot_ne (Or.inl (own_w hw 19 rfl)) (Or.inl (own_w hw 30 rfl)) (by decide) (t := (.array .int)) (t' := .int) (by decide) (by decide)))
  have cf27 := cf13.other W19 (Or.inr (slot_ne (Or.inl (own_w hw 11 rfl)) (Or.inl (own_w hw 30 rfl)) (by decide) (t := (.array .int)) (t' := .int) (by decide) (by decide)))
  have cf28 := cf14.other W19 (Ne.symm ne_o0_o3)
  have cf29 := cf15.other W19 (Ne.symm ne_o0_o5)
  have cf30 := F4.other W19 (Or.inr (slot_ne (Or.inl (own_w hw 28 rfl)) (Or.inl (own_w hw 30 rfl)) (by decide) (t := .int) (t' := .int) (by decide) (by decide)))
  have Z_19 : n0 ≤ h19.size := Nat.le_trans Z_4 (Keep.of_wr W19).1
  have K_19 : Keep h0 h19 [o0] := K_4.wr W19 (own_i 0 rfl)
  have N19 := Fr.snoc X19 N4 g_o0
  refine own_go T19 m 38 #[rv o0, iv u0, iv u1, .unset, .unset] [] (st19) ?_
  refine own_go T19 m 39 #[rv o0, iv u0, iv u1, .unset, .unset] [(.ref o0)] (fun t k => XS.aloadN X19.here hx rfl (hb hby d6_38) rfl rfl k) ?_
  refine own_go T19 m 40 #[rv o0, iv u0, iv u1, .unset, .unset] [(.int (-1)), (.ref o0)] (fun t k => XS.iconst X19.here hx rfl (hb hby d6_39) k) ?_
  obtain ⟨T31, h31, X31, e31, W31, st31⟩ := putF X19 hx hZ hown (host := "") (Or.inl (own_w hw 20 rfl)) Via.refl e19 cf21 cf20 (Or.inl (own_w hw 21 rfl)) (own_w hw 1 rfl) (ty := .int) (by decide) rfl rfl (g := (mkF m 40 #[rv o0, iv u0, iv u1, .unset, .unset] [(.int (-1)), (.ref o0)])) rfl rfl (hb hby d6_40)
  have F31 := cf21.same W31
  have cf32 := cf20.wr W31
  have cf33 := cf22.other W31 (Or.inr (slot_ne (Or.inl (own_w hw 13 rfl)) (Or.inl (own_w hw 21 rfl)) (by decide) (t := (.array .int)) (t' := .int) (by decide) (by decide)))
  have cf34 := cf23.other W31 (Or.inr (slot_ne (Or.inl (own_w hw 37 rfl)) (Or.inl (own_w hw 21 rfl)) (by decide) (t := .int) (t' := .int) (by decide) (by decide)))
  have cf35 := cf24.other W31 (Or.inr (slot_ne (Or.inl (own_w hw 17 rfl)) (Or.inl (own_w hw 21 rfl)) (by decide) (t := (.array .int)) (t' := .int) (by decide) (by decide)))
  have cf36 := cf25.other W31 (Or.inr (slot_ne (Or.inl (own_w hw 15 rfl)) (Or.inl (own_w hw 21 rfl)) (by decide) (t := (.array .int)) (t' := .int) (by decide) (by decide)))
  have cf37 := cf26.other W31 (Or.inr (slot_ne (Or.inl (own_w hw 19 rfl)) (Or.inl (own_w hw 21 rfl)) (by decide) (t := (.array .int)) (t' := .int) (by decide) (by decide)))
  have cf38 := cf27.other W31 (Or.inr (slot_ne (Or.inl (own_w hw 11 rfl)) (Or.inl (own_w hw 21 rfl)) (by decide) (t := (.array .int)) (t' := .int) (by decide) (by decide)))
  have cf39 := cf28.other W31 (Ne.symm ne_o0_o3)
  have cf40 := cf29.other W31 (Ne.symm ne_o0_o5)
  have cf41 := cf30.other W31 (Or.inr (slot_ne (Or.inl (own_w hw 28 rfl)) (Or.inl (own_w hw 21 rfl)) (by decide) (t := .int) (t' := .int) (by decide) (by decide)))
  have cf42 := F19.other W31 (Or.inr (slot_ne (Or.inl (own_w hw 30 rfl)) (Or.inl (own_w hw 21 rfl)) (by decide) (t := .int) (t' := .int) (by decide) (by decide)))
  have Z_31 : n0 ≤ h31.size := Nat.le_trans Z_19 (Keep.of_wr W31).1
  have K_31 : Keep h0 h31 [o0] := K_19.wr W31 (own_i 0 rfl)
  have N31 := Fr.snoc X31 N19 g_o0
  refine own_go T31 m 43 #[rv o0, iv u0, iv u1, .unset, .unset] [] (st31) ?_
  refine own_go T31 m 0 #[rv o0, iv u0, iv u1, .unset, .unset] [] (fun t k => XS.goto X31.here hx rfl (pc0 := 43) (pc' := 0) rfl (hb hby d6_43) (by decide) (by decide) k) ?_
  refine own_go T31 m 1 #[rv o0, iv u0, iv u1, .unset, .unset] [(.ref o0)] (fun t k => XS.aloadN X31.here hx rfl (hb hby d6_0) rfl rfl k) ?_
  obtain ⟨T43, X43, e43, st43⟩ := getF X31 hx hZ hown (host := "") (Or.inl (own_w hw 27 rfl)) Via.refl e31 cf41 (g := (mkF m 1 #[rv o0, iv u0, iv u1, .unset, .unset] [(.ref o0)])) rfl rfl (hb hby d6_1)
  refine own_go T43 m 4 #[rv o0, iv u0, iv u1, .unset, .unset] [(.int 0)] (st43) ?_
  refine own_go T43 m 46 #[rv o0, iv u0, iv u1, .unset, .unset] [] (fun t k => XS.ifYes X43.here hx rfl (pc0 := 4) (pc' := 46) rfl (hb hby d6_4) rfl ((if0 _ _).trans (flt (by decide)).2.2.2) (by decide) (by decide) k) ?_
  refine own_go T43 m 47 #[rv o0, iv u0, iv u1, .unset, .unset] [(.ref o0)] (fun t k => XS.aloadN X43.here hx rfl (hb hby d6_46) rfl rfl k) ?_
  obtain ⟨T44, X44, e44, st44⟩ := getF X43 hx hZ hown (host := "") (Or.inl (own_w hw 27 rfl)) Via.refl e43 cf41 (g := (mkF m 47 #[rv o0, iv u0, iv u1, .unset, .unset] [(.ref o0)])) rfl rfl (hb hby d6_47)
  refine own_go T44 m 50 #[rv o0, iv u0, iv u1, .unset, .unset] [(.int 0)] (st44) ?_
  refine own_go T44 m 53 #[rv o0, iv u0, iv u1, .unset, .unset] [] (fun t k => XS.ifNo X44.here hx rfl (hb hby d6_50) rfl ((if0 _ _).trans (teq (by decide)).2) k) ?_
  refine own_go T44 m 54 #[rv o0, iv u0, iv u1, .unset, .unset] [(.int (-1))] (fun t k => XS.iconst X44.here hx rfl (hb hby d6_53) k) ?_
  refine own_go T44 m 62 #[rv o0, iv u0, iv u1, .unset, .unset] [(.int (-1))] (fun t k => XS.goto X44.here hx rfl (pc0 := 54) (pc' := 62) rfl (hb hby d6_54) (by decide) (by decide) k) ?_
  refine own_go T44 m 63 #[rv o0, iv u0, iv u1, iv (-1), .unset] [] (fun t k => XS.istoreN X44.here hx rfl (hb hby d6_62) rfl rfl k) ?_
  refine own_go T44 m 64 #[rv o0, iv u0, iv u1, iv (-1), .unset] [(.int (-1))] (fun t k => XS.iloadN X44.here hx rfl (hb hby d6_63) rfl k) ?_
  refine own_go T44 m 67 #[rv o0, iv u0, iv u1, iv (-1), .unset] [] (fun t k => XS.ifNo X44.here hx rfl (hb hby d6_64) rfl ((if0 _ _).trans (tlt (by decide)).2.1) k) ?_
  refine own_go T44 m 68 #[rv o0, iv u0, iv u1, iv (-1), .unset] [(.int (-1))] (fun t k => XS.iconst X44.here hx rfl (hb hby d6_67) k) ?_
  refine own_go T44 m 70 #[rv o0, iv u0, iv u1, iv (-1), iv (-1)] [] (fun t k => XS.istore X44.here hx rfl (hb hby d6_68) rfl rfl k) ?_
  refine own_go T44 m 113 #[rv o0, iv u0, iv u1, iv (-1), iv (-1)] [] (fun t k => XS.goto X44.here hx rfl (pc0 := 70) (pc' := 113) rfl (hb hby d6_70) (by decide) (by decide) k) ?_
  refine own_go T44 m 115 #[rv o0, iv u0, iv u1, iv (-1), iv (-1)] [(.int (-1))] (fun t k => XS.iload X44.here hx rfl (hb hby d6_113) rfl k) ?_
  refine own_retI X44 hx hlk hret (hb hby d6_115) (by decide) (by decide) ?_
  rw [e44]
  exact ⟨rfl, N31, K_31, cf33, cf34, cf35, cf36, cf37, cf38, cf41, cf42, F31⟩
theorem ef_sp30 (m : MethodId) (q0 : Addr) (q1 : Int32) : entryFrame m #[(.ref q0), (.int q1)] 3 = mkF m 0 #[rv q0, iv q1, .unset] [] := by first | (simp [entryFrame, mkF, argsToLocals, Value.category]; done) | rfl
set_option maxRecDepth 65536 in
set_option maxHeartbeats 40000000 in
theorem sp30 (l : Launch) (Z : State) (a0 : Array Value) (hw : ∀ d ∈ tables_1, d.before a0 Z = true) (ws : List Jvm.Cond) (o0 o1 o2 o3 : Addr) (u0 : Int32) (u1 : Int32) (u2 : Int32) (c0 : ClassId) (c1 : ClassId) (c2 : ClassId) (h0 : Heap) (n0 : Nat) (Z0 : n0 ≤ h0.size) (F_segmentEnd_o0 : Fld Z h0 o0 OwnK0 "segmentEnd" "[I" (.ref o1)) (F_segmentFirst_o0 : Fld Z h0 o0 OwnK0 "segmentFirst" "[I" (.ref o2)) (F_segments_o0 : Fld Z h0 o0 OwnK0 "segments" "I" (.int 1)) (F_starts_o0 : Fld Z h0 o0 OwnK0 "starts" "[I" (.ref o3)) (V_o1 : Arv Z h0 o1 c0 .int (8 : Int32) [(.int u1), (.int 0), (.int 0), (.int 0), (.int 0), (.int 0), (.int 0), (.int 0)] (.int 0)) (V_o2 : Arv Z h0 o2 c1 .int (8 : Int32) [(.int 0), (.int 1), (.int 0), (.int 0), (.int 0), (.int 0), (.int 0), (.int 0)] (.int 0)) (V_o3 : Arv Z h0 o3 c2 .int (8 : Int32) [(.int u2), (.int 0), (.int 0), (.int 0), (.int 0), (.int 0), (.int 0), (.int 0)] (.int 0)) (hq0 : ¬ (u0 < u2)) (hq1 : u0 < u1) :
    OwnC l Z (⟨OwnK0, "newestCovers", "(I)Z"⟩ : MethodName) prog_48_method_3_code 3 (some .boolean) ws ({ frames := 0, cells := 0, slots := 0, locals := 0 } : Room) #[(.ref o0), (.int u0)] h0 (fun v h L => v = some (.int 1) ∧ h = h0 ∧ L = []) := by
  refine own_entry pf_com_example_wirelens_wirelens_wire_GroupEnds_newestCovers__I_Z (fun m => ef_sp30 m o0 u0) ?_
  intro p e s m below meth c T0 X0 hC e0
  obtain ⟨hx, hby, hml, hown, hnm, hret, hlk, hZ⟩ := hC
  have N0 := Fr.nil n0
  have K0 := Keep.refl h0 []
  refine own_go T0 m 1 #[rv o0, iv u0, .unset] [(.ref o0)] (fun t k => XS.aloadN X0.here hx rfl (hb hby d7_0) rfl rfl k) ?_
  obtain ⟨T1, X1, e1, st1⟩ := getF X0 hx hZ hown (host := "") (Or.inl (own_w hw 27 rfl)) Via.refl e0 F_segments_o0 (g := (mkF m 1 #[rv o0, iv u0, .unset] [(.ref o0)])) rfl rfl (hb hby d7_1)
  refine own_go T1 m 4 #[rv o0, iv u0, .unset] [(.int 1)] (st1) ?_
  refine own_go T1 m 5 #[rv o0, iv u0, .unset] [(.int 1), (.int 1)] (fun t k => XS.iconst X1.here hx rfl (hb hby d7_4) k) ?_
  refine own_go T1 m 6 #[rv o0, iv u0, .unset] [(.int ((1 : Int32) - (1 : Int32)))] (fun t k => XS.isub X1.here hx rfl (hb hby d7_5) rfl k) ?_
  rw [show ((1 : Int32) - (1 : Int32)) = (0 : Int32) from by decide]
  refine own_go T1 m 7 #[rv o0, iv u0, iv 0] [] (fun t k => XS.istoreN X1.here hx rfl (hb hby d7_6) rfl rfl k) ?_
  refine own_go T1 m 8 #[rv o0, iv u0, iv 0] [(.int u0)] (fun t k => XS.iloadN X1.here hx rfl (hb hby d7_7) rfl k) ?_
  refine own_go T1 m 9 #[rv o0, iv u0, iv 0] [(.ref o0), (.int u0)] (fun t k => XS.aloadN X1.here hx rfl (hb hby d7_8) rfl rfl k) ?_
  obtain ⟨T2, X2, e2, st2⟩ := getF X1 hx hZ hown (host := "") (Or.inl (own_w hw 10 rfl)) Via.refl e1 F_starts_o0 (g := (mkF m 9 #[rv o0, iv u0, iv 0] [(.ref o0), (.int u0)])) rfl rfl (hb hby d7_9)
  refine own_go T2 m 12 #[rv o0, iv u0, iv 0] [(.ref o3), (.int u0)] (st2) ?_
  refine own_go T2 m 13 #[rv o0, iv u0, iv 0] [(.ref o0), (.ref o3), (.int u0)] (fun t k => XS.aloadN X2.here hx rfl (hb hby d7_12) rfl rfl k) ?_
  obtain ⟨T3, X3, e3, st3⟩ := getF X2 hx hZ hown (host := "") (Or.inl (own_w hw 14 rfl)) Via.refl e2 F_segmentFirst_o0 (g := (mkF m 13 #[rv o0, iv u0, iv 0] [(.ref o0), (.ref o3), (.int u0)])) rfl rfl (hb hby d7_13)
  refine own_go T3 m 16 #[rv o0, iv u0, iv 0] [(.ref o2), (.ref o3), (.int u0)] (st3) ?_
  refine own_go T3 m 17 #[rv o0, iv u0, iv 0] [(.int 0), (.ref o2), (.ref o3), (.int u0)] (fun t k => XS.iloadN X3.here hx rfl (hb hby d7_16) rfl k) ?_
  refine own_go T3 m 18 #[rv o0, iv u0, iv 0] [(.int 0), (.ref o3), (.int u0)] (own_iaload X3 hx hZ e3 V_o2 (j := (0 : Int32)) ⟨by decide, by decide⟩ rfl (hb hby d7_17)) ?_
  refine own_go T3 m 19 #[rv o0, iv u0, iv 0] [(.int u2), (.int u0)] (own_iaload X3 hx hZ e3 V_o3 (j := (0 : Int32)) ⟨by decide, by decide⟩ rfl (hb hby d7_18)) ?_
  refine own_go T3 m 22 #[rv o0, iv u0, iv 0] [] (fun t k => XS.icmpNo X3.here hx rfl (hb hby d7_19) rfl (flt hq0).1 k) ?_
  refine own_go T3 m 23 #[rv o0, iv u0, iv 0] [(.int u0)] (fun t k => XS.iloadN X3.here hx rfl (hb hby d7_22) rfl k) ?_
  refine own_go T3 m 24 #[rv o0, iv u0, iv 0] [(.ref o0), (.int u0)] (fun t k => XS.aloadN X3.here hx rfl (hb hby d7_23) rfl rfl k) ?_
  obtain ⟨T6, X6, e6, st6⟩ := getF X3 hx hZ hown (host := "") (Or.inl (own_w hw 16 rfl)) Via.refl e3 F_segmentEnd_o0 (g := (mkF m 24 #[rv o0, iv u0, iv 0] [(.ref o0), (.int u0)])) rfl rfl (hb hby d7_24)
  refine own_go T6 m 27 #[rv o0, iv u0, iv 0] [(.ref o1), (.int u0)] (st6) ?_
  refine own_go T6 m 28 #[rv o0, iv u0, iv 0] [(.int 0), (.ref o1), (.int u0)] (fun t k => XS.iloadN X6.here hx rfl (hb hby d7_27) rfl k) ?_
  refine own_go T6 m 29 #[rv o0, iv u0, iv 0] [(.int u1), (.int u0)] (own_iaload X6 hx hZ e6 V_o1 (j := (0 : Int32)) ⟨by decide, by decide⟩ rfl (hb hby d7_28)) ?_
  refine own_go T6 m 32 #[rv o0, iv u0, iv 0] [] (fun t k => XS.icmpNo X6.here hx rfl (hb hby d7_29) rfl (tlt hq1).2.1 k) ?_
  refine own_go T6 m 33 #[rv o0, iv u0, iv 0] [(.int 1)] (fun t k => XS.iconst X6.here hx rfl (hb hby d7_32) k) ?_
  refine own_go T6 m 37 #[rv o0, iv u0, iv 0] [(.int 1)] (fun t k => XS.goto X6.here hx rfl (pc0 := 33) (pc' := 37) rfl (hb hby d7_33) (by decide) (by decide) k) ?_
  refine own_retZ X6 hx hlk hret (by decide) (hb hby d7_37) (by decide) (by decide) ?_
  exact ⟨rfl, e6, rfl⟩
theorem ef_sp31 (m : MethodId) (q0 : Addr) (q1 : Int32) : entryFrame m #[(.ref q0), (.int q1)] 4 = mkF m 0 #[rv q0, iv q1, .unset, .unset] [] := by first | (simp [entryFrame, mkF, argsToLocals, Value.category]; done) | rfl
set_option maxRecDepth 65536 in
set_option maxHeartbeats 40000000 in
theorem sp31 (l : Launch) (Z : State) (a0 : Array Value) (hw : ∀ d ∈ tables_1, d.before a0 Z = true) (ws : List Jvm.Cond) (o0 o1 o2 o3 o4 o5 : Addr) (u0 : Int32) (u1 : Int32) (c0 : ClassId) (c1 : ClassId) (h0 : Heap) (n0 : Nat) (Z0 : n0 ≤ h0.size) (E_o0 : Exa Z h0 o0 OwnK0) (F_count_o0 : Fld Z h0 o0 OwnK0 "count" "I" (.int 1)) (F_cursor_o0 : Fld Z h0 o0 OwnK0 "cursor" "I" (.int (-1))) (F_ends_o0 : Fld Z h0 o0 OwnK0 "ends" "[I" (.ref o1)) (F_lastOpened_o0 : Fld Z h0 o0 OwnK0 "lastOpened" "I" (.int 0)) (F_segmentEnd_o0 : Fld Z h0 o0 OwnK0 "segmentEnd" "[I" (.ref o2)) (F_segmentFirst_o0 : Fld Z h0 o0 OwnK0 "segmentFirst" "[I" (.ref o3)) (F_segmentLimit_o0 : Fld Z h0 o0 OwnK0 "segmentLimit" "[I" (.ref o4)) (F_segments_o0 : Fld Z h0 o0 OwnK0 "segments" "I" (.int 1)) (F_starts_o0 : Fld Z h0 o0 OwnK0 "starts" "[I" (.ref o5)) (V_o3 : Arv Z h0 o3 c0 .int (8 : Int32) [(.int 0), (.int 1), (.int 0), (.int 0), (.int 0), (.int 0), (.int 0), (.int 0)] (.int 0)) (V_o5 : Arv Z h0 o5 c1 .int (8 : Int32) [(.int u1), (.int 0), (.int 0), (.int 0), (.int 0), (.int 0), (.int 0), (.int 0)] (.int 0)) (ne_o0_o1 : o0 ≠ o1) (ne_o0_o2 : o0 ≠ o2) (ne_o0_o3 : o0 ≠ o3) (ne_o0_o4 : o0 ≠ o4) (ne_o0_o5 : o0 ≠ o5) (g_o0 : n0 ≤ o0) (hq0 : u1 < u0) :
    OwnC l Z (⟨OwnK0, "search", "(I)I"⟩ : MethodName) prog_48_method_4_code 4 (some .int) ws ({ frames := 2, cells := 0, slots := 0, locals := 34 } : Room) #[(.ref o0), (.int u0)] h0 (fun v h L => v = some (.int (-1)) ∧ Fr n0 L ∧ Keep h0 h [o0] ∧ Fld Z h o0 OwnK0 "count" "I" (.int 1) ∧ Fld Z h o0 OwnK0 "ends" "[I" (.ref o1) ∧ Fld Z h o0 OwnK0 "lastOpened" "I" (.int 0) ∧ Fld Z h o0 OwnK0 "segmentEnd" "[I" (.ref o2) ∧ Fld Z h o0 OwnK0 "segmentFirst" "[I" (.ref o3) ∧ Fld Z h o0 OwnK0 "segmentLimit" "[I" (.ref o4) ∧ Fld Z h o0 OwnK0 "segments" "I" (.int 1) ∧ Fld Z h o0 OwnK0 "starts" "[I" (.ref o5) ∧ Fld Z h o0 OwnK0 "cursor" "I" (.int 1)) := by
  refine own_entry pf_com_example_wirelens_wirelens_wire_GroupEnds_search__I_I (fun m => ef_sp31 m o0 u0) ?_
  intro p e s m below meth c T0 X0 hC e0
  obtain ⟨hx, hby, hml, hown, hnm, hret, hlk, hZ⟩ := hC
  have N0 := Fr.nil n0
  have K0 := Keep.refl h0 [o0]
  refine own_go T0 m 1 #[rv o0, iv u0, .unset, .unset] [(.ref o0)] (fun t k => XS.aloadN X0.here hx rfl (hb hby d8_0) rfl rfl k) ?_
  obtain ⟨T1, X1, e1, st1⟩ := getF X0 hx hZ hown (host := "") (Or.inl (own_w hw 14 rfl)) Via.refl e0 F_segmentFirst_o0 (g := (mkF m 1 #[rv o0, iv u0, .unset, .unset] [(.ref o0)])) rfl rfl (hb hby d8_1)
  refine own_go T1 m 4 #[rv o0, iv u0, .unset, .unset] [(.ref o3)] (st1) ?_
  refine own_go T1 m 5 #[rv o0, iv u0, .unset, .unset] [(.ref o0), (.ref o3)] (fun t k => XS.aloadN X1.here hx rfl (hb hby d8_4) rfl rfl k) ?_
  obtain ⟨T2, X2, e2, st2⟩ := getF X1 hx hZ hown (host := "") (Or.inl (own_w hw 27 rfl)) Via.refl e1 F_segments_o0 (g := (mkF m 5 #[rv o0, iv u0, .unset, .unset] [(.ref o0), (.ref o3)])) rfl rfl (hb hby d8_5)
  refine own_go T2 m 8 #[rv o0, iv u0, .unset, .unset] [(.int 1), (.ref o3)] (st2) ?_
  refine own_go T2 m 9 #[rv o0, iv u0, .unset, .unset] [(.int 1), (.int 1), (.ref o3)] (fun t k => XS.iconst X2.here hx rfl (hb hby d8_8) k) ?_
  refine own_go T2 m 10 #[rv o0, iv u0, .unset, .unset] [(.int ((1 : Int32) - (1 : Int32))), (.ref o3)] (fun t k => XS.isub X2.here hx rfl (hb hby d8_9) rfl k) ?_
  rw [show ((1 : Int32) - (1 : Int32)) = (0 : Int32) from by decide]
  refine own_go T2 m 11 #[rv o0, iv u0, .unset, .unset] [(.int 0)] (own_iaload X2 hx hZ e2 V_o3 (j := (0 : Int32)) ⟨by decide, by decide⟩ rfl (hb hby d8_10)) ?_
  refine own_go T2 m 12 #[rv o0, iv u0, iv 0, .unset] [] (fun t k => XS.istoreN X2.here hx rfl (hb hby d8_11) rfl rfl k) ?_
  refine own_go T2 m 13 #[rv o0, iv u0, iv 0, .unset] [(.ref o0)] (fun t k => XS.aloadN X2.here hx rfl (hb hby d8_12) rfl rfl k) ?_
  obtain ⟨T4, X4, e4, st4⟩ := getF X2 hx hZ hown (host := "") (Or.inl (own_w hw 20 rfl)) Via.refl e2 F_cursor_o0 (g := (mkF m 13 #[rv o0, iv u0, iv 0, .unset] [(.ref o0)])) rfl rfl (hb hby d8_13)
  refine own_go T4 m 16 #[rv o0, iv u0, iv 0, .unset] [(.int (-1))] (st4) ?_
  refine own_go T4 m 17 #[rv o0, iv u0, iv 0, iv (-1)] [] (fun t k => XS.istoreN X4.here hx rfl (hb hby d8_16) rfl rfl k) ?_
  refine own_go T4 m 18 #[rv o0, iv u0, iv 0, iv (-1)] [(.int (-1))] (fun t k => XS.iloadN X4.here hx rfl (hb hby d8_17) rfl k) ?_
  refine own_go T4 m 19 #[rv o0, iv u0, iv 0, iv (-1)] [(.int 0), (.int (-1))] (fun t k => XS.iloadN X4.here hx rfl (hb hby d8_18) rfl k) ?_
  refine own_go T4 m 39 #[rv o0, iv u0, iv 0, iv (-1)] [] (fun t k => XS.icmpYes X4.here hx rfl (pc0 := 19) (pc' := 39) rfl (hb hby d8_19) rfl (tlt (by decide)).1 (by decide) (by decide) k) ?_
  refine own_go T4 m 40 #[rv o0, iv u0, iv 0, iv (-1)] [(.ref o0)] (fun t k => XS.aloadN X4.here hx rfl (hb hby d8_39) rfl rfl k) ?_
  obtain ⟨T5, X5, e5, st5⟩ := getF X4 hx hZ hown (host := "") (Or.inl (own_w hw 10 rfl)) Via.refl e4 F_starts_o0 (g := (mkF m 40 #[rv o0, iv u0, iv 0, iv (-1)] [(.ref o0)])) rfl rfl (hb hby d8_40)
  refine own_go T5 m 43 #[rv o0, iv u0, iv 0, iv (-1)] [(.ref o5)] (st5) ?_
  refine own_go T5 m 44 #[rv o0, iv u0, iv 0, iv (-1)] [(.int 0), (.ref o5)] (fun t k => XS.iloadN X5.here hx rfl (hb hby d8_43) rfl k) ?_
  refine own_go T5 m 45 #[rv o0, iv u0, iv 0, iv (-1)] [(.ref o0), (.int 0), (.ref o5)] (fun t k => XS.aloadN X5.here hx rfl (hb hby d8_44) rfl rfl k) ?_
  obtain ⟨T6, X6, e6, st6⟩ := getF X5 hx hZ hown (host := "") (Or.inl (own_w hw 29 rfl)) Via.refl e5 F_count_o0 (g := (mkF m 45 #[rv o0, iv u0, iv 0, iv (-1)] [(.ref o0), (.int 0), (.ref o5)])) rfl rfl (hb hby d8_45)
  refine own_go T6 m 48 #[rv o0, iv u0, iv 0, iv (-1)] [(.int 1), (.int 0), (.ref o5)] (st6) ?_
  refine own_go T6 m 49 #[rv o0, iv u0, iv 0, iv (-1)] [(.int u0), (.int 1), (.int 0), (.ref o5)] (fun t k => XS.iloadN X6.here hx rfl (hb hby d8_48) rfl k) ?_
  obtain ⟨_, T7, L7, X7, ⟨rfl, e7, rfl⟩, st7⟩ := own_static X6 hx hZ (y := (⟨"java/util/Arrays", "binarySearch", "([IIII)I"⟩ : MethodName)) hown (own_w hw 56 rfl) (own_w hw 57 rfl) (own_w hw 58 rfl) (own_w hw 59 rfl) (by decide) (sp14 l Z a0 hw [] o5 u0 u1 c1 h0 n0 Z0 V_o5 hq0) e6 0 (argsL := [(.ref o5), (.int 0), (.int 1), (.int u0)]) (rest := []) (Ls := #[rv o0, iv u0, iv 0, iv (-1)]) (by rw [hml]; rfl) (lenOf pd___IIII_I rfl) rfl rfl (Nat.le_of_eq rfl) (hb hby d8_49) (by decide) (by decide) (by decide) (by decide)
  replace X7 := own_nil X7
  refine own_go T7 m 52 #[rv o0, iv u0, iv 0, iv (-1)] [(.int (-2))] (st7) ?_
  refine own_go T7 m 53 #[rv o0, iv u0, iv 0, iv (-2)] [] (fun t k => XS.istoreN X7.here hx rfl (hb hby d8_52) rfl rfl k) ?_
  refine own_go T7 m 54 #[rv o0, iv u0, iv 0, iv (-2)] [(.int (-2))] (fun t k => XS.iloadN X7.here hx rfl (hb hby d8_53) rfl k) ?_
  refine own_go T7 m 57 #[rv o0, iv u0, iv 0, iv (-2)] [] (fun t k => XS.ifNo X7.here hx rfl (hb hby d8_54) rfl ((if0 _ _).trans (tlt (by decide)).2.1) k) ?_
  refine own_go T7 m 58 #[rv o0, iv u0, iv 0, iv (-2)] [(.int (-2))] (fun t k => XS.iloadN X7.here hx rfl (hb hby d8_57) rfl k) ?_
  refine own_go T7 m 59 #[rv o0, iv u0, iv 0, iv (-2)] [(.int (-(-2 : Int32)))] (fun t k => XS.ineg X7.here hx rfl (hb hby d8_58) rfl k) ?_
  rw [show (-(-2 : Int32)) = (2 : Int32) from by decide]
  refine own_go T7 m 60 #[rv o0, iv u0, iv 0, iv (-2)] [(.int 1), (.int 2)] (fun t k => XS.iconst X7.here hx rfl (hb hby d8_59) k) ?_
  refine own_go T7 m 61 #[rv o0, iv u0, iv 0, iv (-2)] [(.int ((2 : Int32) - (1 : Int32)))] (fun t k => XS.isub X7.here hx rfl (hb hby d8_60) rfl k) ?_
  rw [show ((2 : Int32) - (1 : Int32)) = (1 : Int32) from by decide]
  refine own_go T7 m 65 #[rv o0, iv u0, iv 0, iv (-2)] [(.int 1)] (fun t k => XS.goto X7.here hx rfl (pc0 := 61) (pc' := 65) rfl (hb hby d8_61) (by decide) (by decide) k) ?_
  refine own_go T7 m 66 #[rv o0, iv u0, iv 0, iv 1] [] (fun t k => XS.istoreN X7.here hx rfl (hb hby d8_65) rfl rfl k) ?_
  refine own_go T7 m 93 #[rv o0, iv u0, iv 0, iv 1] [] (fun t k => XS.goto X7.here hx rfl (pc0 := 66) (pc' := 93) rfl (hb hby d8_66) (by decide) (by decide) k) ?_
  refine own_go T7 m 94 #[rv o0, iv u0, iv 0, iv 1] [(.ref o0)] (fun t k => XS.aloadN X7.here hx rfl (hb hby d8_93) rfl rfl k) ?_
  refine own_go T7 m 95 #[rv o0, iv u0, iv 0, iv 1] [(.int 1), (.ref o0)] (fun t k => XS.iloadN X7.here hx rfl (hb hby d8_94) rfl k) ?_
  obtain ⟨T8, h8, X8, e8, W8, st8⟩ := putF X7 hx hZ hown (host := "") (Or.inl (own_w hw 20 rfl)) Via.refl e7 F_cursor_o0 E_o0 (Or.inl (own_w hw 21 rfl)) (own_w hw 1 rfl) (ty := .int) (by decide) rfl rfl (g := (mkF m 95 #[rv o0, iv u0, iv 0, iv 1] [(.int 1), (.ref o0)])) rfl rfl (hb hby d8_95)
  have F8 := F_cursor_o0.same W8
  have cf9 := E_o0.wr W8
  have cf10 := F_count_o0.other W8 (Or.inr (slot_ne (Or.inl (own_w hw 30 rfl)) (Or.inl (own_w hw 21 rfl)) (by decide) (t := .int) (t' := .int) (by decide) (by decide)))
  have cf11 := F_ends_o0.other W8 (Or.inr (slot_ne (Or.inl (own_w hw 13 rfl)) (Or.inl (own_w hw 21 rfl)) (by decide) (t := (.array .int)) (t' := .int) (by decide) (by decide)))
  have cf12 := F_lastOpened_o0.other W8 (Or.inr (slot_ne (Or.inl (own_w hw 37 rfl)) (Or.inl (own_w hw 21 rfl)) (by decide) (t := .int) (t' := .int) (by decide) (by decide)))
  have cf13 := F_segmentEnd_o0.other W8 (Or.inr (slot_ne (Or.inl (own_w hw 17 rfl)) (Or.inl (own_w hw 21 rfl)) (by decide) (t := (.array .int)) (t' := .int) (by decide) (by decide)))
  have cf14 := F_segmentFirst_o0.other W8 (Or.inr (slot_ne (Or.inl (own_w hw 15 rfl)) (Or.inl (own_w hw 21 rfl)) (by decide) (t := (.array .int)) (t' := .int) (by decide) (by decide)))
  have cf15 := F_segmentLimit_o0.other W8 (Or.inr (slot_ne (Or.inl (own_w hw 19 rfl)) (Or.inl (own_w hw 21 rfl)) (by decide) (t := (.array .int)) (t' := .int) (by decide) (by decide)))
  have cf16 := F_segments_o0.other W8 (Or.inr (slot_ne (Or.inl (own_w hw 28 rfl)) (Or.inl (own_w hw 21 rfl)) (by decide) (t := .int) (t' := .int) (by decide) (by decide)))
  have cf17 := F_starts_o0.other W8 (Or.inr (slot_ne (Or.inl (own_w hw 11 rfl)) (Or.inl (own_w hw 21 rfl)) (by decide) (t := (.array .int)) (t' := .int) (by decide) (by decide)))
  have cf18 := V_o3.other W8 (Ne.symm ne_o0_o3)
  have cf19 := V_o5.other W8 (Ne.symm ne_o0_o5)
  have Z_8 : n0 ≤ h8.size := Nat.le_trans Z0 (Keep.of_wr W8).1
  have K_8 : Keep h0 h8 [o0] := K0.wr W8 (own_i 0 rfl)
  have N8 := Fr.snoc X8 N0 g_o0
  refine own_go T8 m 98 #[rv o0, iv u0, iv 0, iv 1] [] (st8) ?_
  refine own_go T8 m 99 #[rv o0, iv u0, iv 0, iv 1] [(.int 1)] (fun t k => XS.iloadN X8.here hx rfl (hb hby d8_98) rfl k) ?_
  refine own_go T8 m 100 #[rv o0, iv u0, iv 0, iv 1] [(.ref o0), (.int 1)] (fun t k => XS.aloadN X8.here hx rfl (hb hby d8_99) rfl rfl k) ?_
  obtain ⟨T20, X20, e20, st20⟩ := getF X8 hx hZ hown (host := "") (Or.inl (own_w hw 29 rfl)) Via.refl e8 cf10 (g := (mkF m 100 #[rv o0, iv u0, iv 0, iv 1] [(.ref o0), (.int 1)])) rfl rfl (hb hby d8_100)
  refine own_go T20 m 103 #[rv o0, iv u0, iv 0, iv 1] [(.int 1), (.int 1)] (st20) ?_
  refine own_go T20 m 120 #[rv o0, iv u0, iv 0, iv 1] [] (fun t k => XS.icmpYes X20.here hx rfl (pc0 := 103) (pc' := 120) rfl (hb hby d8_103) rfl (flt (by decide)).2.1 (by decide) (by decide) k) ?_
  refine own_go T20 m 121 #[rv o0, iv u0, iv 0, iv 1] [(.int (-1))] (fun t k => XS.iconst X20.here hx rfl (hb hby d8_120) k) ?_
  refine own_retI X20 hx hlk hret (hb hby d8_121) (by decide) (by decide) ?_
  rw [e20]
  exact ⟨rfl, N8, K_8, cf10, cf11, cf12, cf13, cf14, cf15, cf16, cf17, F8⟩
theorem ef_sp29 (m : MethodId) (q0 : Addr) (q1 : Int32) (q2 : Int32) : entryFrame m #[(.ref q0), (.int q1), (.int q2)] 5 = mkF m 0 #[rv q0, iv q1, iv q2, .unset, .unset] [] := by first | (simp [entryFrame, mkF, argsToLocals, Value.category]; done) | rfl
set_option maxRecDepth 65536 in
set_option maxHeartbeats 40000000 in
theorem sp29 (l : Launch) (Z : State) (a0 : Array Value) (hw : ∀ d ∈ tables_1, d.before a0 Z = true) (ws : List Jvm.Cond) (o0 o1 o2 o3 o4 o5 : Addr) (u0 : Int32) (u1 : Int32) (u2 : Int32) (u3 : Int32) (c0 : ClassId) (c1 : ClassId) (c2 : ClassId) (h0 : Heap) (n0 : Nat) (Z0 : n0 ≤ h0.size) (E_o0 : Exa Z h0 o0 OwnK0) (F_count_o0 : Fld Z h0 o0 OwnK0 "count" "I" (.int 1)) (F_cursor_o0 : Fld Z h0 o0 OwnK0 "cursor" "I" (.int (-1))) (F_ends_o0 : Fld Z h0 o0 OwnK0 "ends" "[I" (.ref o1)) (F_lastOpened_o0 : Fld Z h0 o0 OwnK0 "lastOpened" "I" (.int 0)) (F_segmentEnd_o0 : Fld Z h0 o0 OwnK0 "segmentEnd" "[I" (.ref o2)) (F_segmentFirst_o0 : Fld Z h0 o0 OwnK0 "segmentFirst" "[I" (.ref o3)) (F_segmentLimit_o0 : Fld Z h0 o0 OwnK0 "segmentLimit" "[I" (.ref o4)) (F_segments_o0 : Fld Z h0 o0 OwnK0 "segments" "I" (.int 1)) (F_starts_o0 : Fld Z h0 o0 OwnK0 "starts" "[I" (.ref o5)) (V_o2 : Arv Z h0 o2 c0 .int (8 : Int32) [(.int u2), (.int 0), (.int 0), (.int 0), (.int 0), (.int 0), (.int 0), (.int 0)] (.int 0)) (V_o3 : Arv Z h0 o3 c1 .int (8 : Int32) [(.int 0), (.int 1), (.int 0), (.int 0), (.int 0), (.int 0), (.int 0), (.int 0)] (.int 0)) (V_o5 : Arv Z h0 o5 c2 .int (8 : Int32) [(.int u3), (.int 0), (.int 0), (.int 0), (.int 0), (.int 0), (.int 0), (.int 0)] (.int 0)) (ne_o0_o1 : o0 ≠ o1) (ne_o0_o2 : o0 ≠ o2) (ne_o0_o3 : o0 ≠ o3) (ne_o0_o4 : o0 ≠ o4) (ne_o0_o5 : o0 ≠ o5) (g_o0 : n0 ≤ o0) (hq0 : ¬ (u0 < u3)) (hq1 : u0 < u2) (hq2 : u3 < u0) :
    OwnC l Z (⟨OwnK0, "find", "(II)I"⟩ : MethodName) prog_48_method_2_code 5 (some .int) ws ({ frames := 3, cells := 0, slots := 0, locals := 49 } : Room) #[(.ref o0), (.int u0), (.int u1)] h0 (fun v h L => v = some (.int (-1)) ∧ Fr n0 L ∧ Keep h0 h [o0] ∧ Fld Z h o0 OwnK0 "count" "I" (.int 1) ∧ Fld Z h o0 OwnK0 "ends" "[I" (.ref o1) ∧ Fld Z h o0 OwnK0 "lastOpened" "I" (.int 0) ∧ Fld Z h o0 OwnK0 "segmentEnd" "[I" (.ref o2) ∧ Fld Z h o0 OwnK0 "segmentFirst" "[I" (.ref o3) ∧ Fld Z h o0 OwnK0 "segmentLimit" "[I" (.ref o4) ∧ Fld Z h o0 OwnK0 "segments" "I" (.int 1) ∧ Fld Z h o0 OwnK0 "starts" "[I" (.ref o5) ∧ Fld Z h o0 OwnK0 "cursor" "I" (.int 1)) := by
  refine own_entry pf_com_example_wirelens_wirelens_wire_GroupEnds_find__II_I (fun m => ef_sp29 m o0 u0 u1) ?_
  intro p e s m below meth c T0 X0 hC e0
  obtain ⟨hx, hby, hml, hown, hnm, hret, hlk, hZ⟩ := hC
  have N0 := Fr.nil n0
  have K0 := Keep.refl h0 [o0]
  refine own_go T0 m 1 #[rv o0, iv u0, iv u1, .unset, .unset] [(.ref o0)] (fun t k => XS.aloadN X0.here hx rfl (hb hby d6_0) rfl rfl k) ?_
  obtain ⟨T1, X1, e1, st1⟩ := getF X0 hx hZ hown (host := "") (Or.inl (own_w hw 27 rfl)) Via.refl e0 F_segments_o0 (g := (mkF m 1 #[rv o0, iv u0, iv u1, .unset, .unset] [(.ref o0)])) rfl rfl (hb hby d6_1)
  refine own_go T1 m 4 #[rv o0, iv u0, iv u1, .unset, .unset] [(.int 1)] (st1) ?_
  refine own_go T1 m 7 #[rv o0, iv u0, iv u1, .unset, .unset] [] (fun t k => XS.ifNo X1.here hx rfl (hb hby d6_4) rfl ((if0 _ _).trans (tlt (by decide)).2.2.2) k) ?_
  refine own_go T1 m 8 #[rv o0, iv u0, iv u1, .unset, .unset] [(.ref o0)] (fun t k => XS.aloadN X1.here hx rfl (hb hby d6_7) rfl rfl k) ?_
  refine own_go T1 m 9 #[rv o0, iv u0, iv u1, .unset, .unset] [(.int u0), (.ref o0)] (fun t k => XS.iloadN X1.here hx rfl (hb hby d6_8) rfl k) ?_
  obtain ⟨_, T2, L2, X2, ⟨rfl, e2, rfl⟩, st2⟩ := own_private X1 hx hZ (y := (⟨OwnK0, "newestCovers", "(I)Z"⟩ : MethodName)) hown (own_w hw 48 rfl) (own_w hw 49 rfl) (own_w hw 50 rfl) (own_w hw 1 rfl) (own_w hw 2 rfl) (own_w hw 51 rfl) (by decide) (sp30 l Z a0 hw [] o0 o2 o3 o5 u0 u2 u3 c0 c1 c2 h0 n0 Z0 F_segmentEnd_o0 F_segmentFirst_o0 F_segments_o0 F_starts_o0 V_o2 V_o3 V_o5 hq0 hq1) e1 E_o0 0 (argsL := [(.int u0)]) (rest := []) (Ls := #[rv o0, iv u0, iv u1, .unset, .unset]) (by rw [hml]; rfl) (lenOf pd__I_Z rfl) rfl rfl (Nat.le_of_eq rfl) (hb hby d6_9) (by decide) (by decide) (by decide) (by decide)
  replace X2 := own_nil X2
  refine own_go T2 m 12 #[rv o0, iv u0, iv u1, .unset, .unset] [(.int 1)] (st2) ?_
  refine own_go T2 m 46 #[rv o0, iv u0, iv u1, .unset, .unset] [] (fun t k => XS.ifYes X2.here hx rfl (pc0 := 12) (pc' := 46) rfl (hb hby d6_12) rfl ((if0 _ _).trans (feq (by decide)).2) (by decide) (by decide) k) ?_
  refine own_go T2 m 47 #[rv o0, iv u0, iv u1, .unset, .unset] [(.ref o0)] (fun t k => XS.aloadN X2.here hx rfl (hb hby d6_46) rfl rfl k) ?_
  obtain ⟨T3, X3, e3, st3⟩ := getF X2 hx hZ hown (host := "") (Or.inl (own_w hw 27 rfl)) Via.refl e2 F_segments_o0 (g := (mkF m 47 #[rv o0, iv u0, iv u1, .unset, .unset] [(.ref o0)])) rfl rfl (hb hby d6_47)
  refine own_go T3 m 50 #[rv o0, iv u0, iv u1, .unset, .unset] [(.int 1)] (st3) ?_
  refine own_go T3 m 57 #[rv o0, iv u0, iv u1, .unset, .unset] [] (fun t k => XS.ifYes X3.here hx rfl (pc0 := 50) (pc' := 57) rfl (hb hby d6_50) rfl ((if0 _ _).trans (feq (by decide)).2) (by decide) (by decide) k) ?_
  refine own_go T3 m 58 #[rv o0, iv u0, iv u1, .unset, .unset] [(.ref o0)] (fun t k => XS.aloadN X3.here hx rfl (hb hby d6_57) rfl rfl k) ?_
  refine own_go T3 m 59 #[rv o0, iv u0, iv u1, .unset, .unset] [(.int u0), (.ref o0)] (fun t k => XS.iloadN X3.here hx rfl (hb hby d6_58) rfl k) ?_
  obtain ⟨_, T4, L4, X4, ⟨rfl, Nq4, Kq4, fq0_4, fq1_4, fq2_4, fq3_4, fq4_4, fq5_4, fq6_4, fq7_4, fq8_4⟩, st4⟩ := own_private X3 hx hZ (y := (⟨OwnK0, "search", "(I)I"⟩ : MethodName)) hown (own_w hw 52 rfl) (own_w hw 53 rfl) (own_w hw 54 rfl) (own_w hw 1 rfl) (own_w hw 2 rfl) (own_w hw 55 rfl) (by decide) (sp31 l Z a0 hw [] o0 o1 o2 o3 o4 o5 u0 u3 c1 c2 h0 n0 Z0 E_o0 F_count_o0 F_cursor_o0 F_ends_o0 F_lastOpened_o0 F_segmentEnd_o0 F_segmentFirst_o0 F_segmentLimit_o0 F_segments_o0 F_starts_o0 V_o3 V_o5 ne_o0_o1 ne_o0_o2 ne_o0_o3 ne_o0_o4 ne_o0_o5 g_o0 hq2) e3 E_o0 0 (argsL := [(.int u0)]) (rest := []) (Ls := #[rv o0, iv u0, iv u1, .unset, .unset]) (by rw [hml]; rfl) (lenOf pd__I_I rfl) rfl rfl (Nat.le_of_eq rfl) (hb hby d6_59) (by decide) (by decide) (by decide) (by decide)
  have N4 := Fr.app N0 Nq4
  have cf5 := E_o0.keep Kq4
  have cf6 := V_o2.keep Kq4 (ninS (Ne.symm ne_o0_o2) nin0)
  have cf7 := V_o3.keep Kq4 (ninS (Ne.symm ne_o0_o3) nin0)
  have cf8 := V_o5.keep Kq4 (ninS (Ne.symm ne_o0_o5) nin0)
  have Z_4 : n0 ≤ T4.heap.size := Nat.le_trans Z0 Kq4.1
  have K_4 : Keep h0 T4.heap [o0] := K0.trans Kq4 (allS (own_i 0 rfl) all0)
  refine own_go T4 m 62 #[rv o0, iv u0, iv u1, .unset, .unset] [(.int (-1))] (st4) ?_
  refine own_go T4 m 63 #[rv o0, iv u0, iv u1, iv (-1), .unset] [] (fun t k => XS.istoreN X4.here hx rfl (hb hby d6_62) rfl rfl k) ?_
  refine own_go T4 m 64 #[rv o0, iv u0, iv u1, iv (-1), .unset] [(.int (-1))] (fun t k => XS.iloadN X4.here hx rfl (hb hby d6_63) rfl k) ?_
  refine own_go T4 m 67 #[rv o0, iv u0, iv u1, iv (-1), .unset] [] (fun t k => XS.ifNo X4.here hx rfl (hb hby d6_64) rfl ((if0 _ _).trans (tlt (by decide)).2.1) k) ?_
  refine own_go T4 m 68 #[rv o0, iv u0, iv u1, iv (-1), .unset] [(.int (-1))] (fun t k => XS.iconst X4.here hx rfl (hb hby d6_67) k) ?_
  refine own_go T4 m 70 #[rv o0, iv u0, iv u1, iv (-1), iv (-1)] [] (fun t k => XS.istore X4.here hx rfl (hb hby d6_68) rfl rfl k) ?_
  refine own_go T4 m 113 #[rv o0, iv u0, iv u1, iv (-1), iv (-1)] [] (fun t k => XS.goto X4.here hx rfl (pc0 := 70) (pc' := 113) rfl (hb hby d6_70) (by decide) (by decide) k) ?_
  refine own_go T4 m 115 #[rv o0, iv u0, iv u1, iv (-1), iv (-1)] [(.int (-1))] (fun t k => XS.iload X4.here hx rfl (hb hby d6_113) rfl k) ?_
  refine own_retI X4 hx hlk hret (hb hby d6_115) (by decide) (by decide) ?_
  exact ⟨rfl, N4, K_4, fq0_4, fq1_4, fq2_4, fq3_4, fq4_4, fq5_4, fq6_4, fq7_4, fq8_4⟩
theorem own_db11 (t0 t1 t2 t3 t4 : Int32) (h0 : ¬ (t0 = (0 : Int32))) (h1 : ¬ (t1 = (0 : Int32))) (h2 : ¬ (t2 < t3)) (h3 : t2 < t4) (h4 : t3 < t2) : ¬ (t2 = t3) := by
  simp only [Int32.lt_iff_toInt_lt, ← Int32.toInt_inj, Int32.reduceToInt] at *
  omega
theorem own_db12 (t0 t1 t2 t3 t4 : Int32) (h0 : ¬ (t0 = (0 : Int32))) (h1 : ¬ (t1 = (0 : Int32))) (h2 : ¬ (t2 < t3)) (h3 : t2 < t4) (h4 : ¬ (t3 < t2)) : t3 = t2 := by
  simp only [Int32.lt_iff_toInt_lt, ← Int32.toInt_inj, Int32.reduceToInt] at *
  omega
theorem own_db13 (t0 t1 t2 t3 t4 t5 t6 : Int32) (h0 : ¬ (t0 = (0 : Int32))) (h1 : ¬ (t1 = (0 : Int32))) (h2 : ¬ (t2 < t3)) (h3 : t2 < t4) (h4 : ¬ (t3 < t2)) (h5 : t5 < t6) : t3 = t2 := by
  simp only [Int32.lt_iff_toInt_lt, ← Int32.toInt_inj, Int32.reduceToInt] at *
  omega
theorem ef_sp33 (m : MethodId) (q0 : Addr) (q1 : Int32) : entryFrame m #[(.ref q0), (.int q1)] 4 = mkF m 0 #[rv q0, iv q1, .unset, .unset] [] := by first | (simp [entryFrame, mkF, argsToLocals, Value.category]; done) | rfl
set_option maxRecDepth 65536 in
set_option maxHeartbeats 40000000 in
theorem sp33 (l : Launch) (Z : State) (a0 : Array Value) (hw : ∀ d ∈ tables_1, d.before a0 Z = true) (ws : List Jvm.Cond) (o0 o1 o2 o3 o4 o5 : Addr) (u0 : Int32) (u1 : Int32) (c0 : ClassId) (c1 : ClassId) (h0 : Heap) (n0 : Nat) (Z0 : n0 ≤ h0.size) (E_o0 : Exa Z h0 o0 OwnK0) (F_count_o0 : Fld Z h0 o0 OwnK0 "count" "I" (.int 1)) (F_cursor_o0 : Fld Z h0 o0 OwnK0 "cursor" "I" (.int (-1))) (F_ends_o0 : Fld Z h0 o0 OwnK0 "ends" "[I" (.ref o1)) (F_lastOpened_o0 : Fld Z h0 o0 OwnK0 "lastOpened" "I" (.int 0)) (F_segmentEnd_o0 : Fld Z h0 o0 OwnK0 "segmentEnd" "[I" (.ref o2)) (F_segmentFirst_o0 : Fld Z h0 o0 OwnK0 "segmentFirst" "[I" (.ref o3)) (F_segmentLimit_o0 : Fld Z h0 o0 OwnK0 "segmentLimit" "[I" (.ref o4)) (F_segments_o0 : Fld Z h0 o0 OwnK0 "segments" "I" (.int 1)) (F_starts_o0 : Fld Z h0 o0 OwnK0 "starts" "[I" (.ref o5)) (V_o3 : Arv Z h0 o3 c0 .int (8 : Int32) [(.int 0), (.int 1), (.int 0), (.int 0), (.int 0), (.int 0), (.int 0), (.int 0)] (.int 0)) (V_o5 : Arv Z h0 o5 c1 .int (8 : Int32) [(.int u1), (.int 0), (.int 0), (.int 0), (.int 0), (.int 0), (.int 0), (.int 0)] (.int 0)) (ne_o0_o1 : o0 ≠ o1) (ne_o0_o2 : o0 ≠ o2) (ne_o0_o3 : o0 ≠ o3) (ne_o0_o4 : o0 ≠ o4) (ne_o0_o5 : o0 ≠ o5) (g_o0 : n0 ≤ o0) (hq0 : ¬ (u1 < u0)) (hq1 : ¬ (u0 < u1)) (hq2 : u1 = u0) :
    OwnC l Z (⟨OwnK0, "search", "(I)I"⟩ : MethodName) prog_48_method_4_code 4 (some .int) ws ({ frames := 2, cells := 0, slots := 0, locals := 34 } : Room) #[(.ref o0), (.int u0)] h0 (fun v h L => v = some (.int 0) ∧ Fr n0 L ∧ Keep h0 h [o0] ∧ Fld Z h o0 OwnK0 "count" "I" (.int 1) ∧ Fld Z h o0 OwnK0 "ends" "[I" (.ref o1) ∧ Fld Z h o0 OwnK0 "lastOpened" "I" (.int 0) ∧ Fld Z h o0 OwnK0 "segmentEnd" "[I" (.ref o2) ∧ Fld Z h o0 OwnK0 "segmentFirst" "[I" (.ref o3) ∧ Fld Z h o0 OwnK0 "segmentLimit" "[I" (.ref o4) ∧ Fld Z h o0 OwnK0 "segments" "I" (.int 1) ∧ Fld Z h o0 OwnK0 "starts" "[I" (.ref o5) ∧ Fld Z h o0 OwnK0 "cursor" "I" (.int 0)) := by
  refine own_entry pf_com_example_wirelens_wirelens_wire_GroupEnds_search__I_I (fun m => ef_sp33 m o0 u0) ?_
  intro p e s m below meth c T0 X0 hC e0
  obtain ⟨hx, hby, hml, hown, hnm, hret, hlk, hZ⟩ := hC
  have N0 := Fr.nil n0
  have K0 := Keep.refl h0 [o0]
  refine own_go T0 m 1 #[rv o0, iv u0, .unset, .unset] [(.ref o0)] (fun t k => XS.aloadN X0.here hx rfl (hb hby d8_0) rfl rfl k) ?_
  obtain ⟨T1, X1, e1, st1⟩ := getF X0 hx hZ hown (host := "") (Or.inl (own_w hw 14 rfl)) Via.refl e0 F_segmentFirst_o0 (g := (mkF m 1 #[rv o0, iv u0, .unset, .unset] [(.ref o0)])) rfl rfl (hb hby d8_1)
  refine own_go T1 m 4 #[rv o0, iv u0, .unset, .unset] [(.ref o3)] (st1) ?_
  refine own_go T1 m 5 #[rv o0, iv u0, .unset, .unset] [(.ref o0), (.ref o3)] (fun t k => XS.aloadN X1.here hx rfl (hb hby d8_4) rfl rfl k) ?_
  obtain ⟨T2, X2, e2, st2⟩ := getF X1 hx hZ hown (host := "") (Or.inl (own_w hw 27 rfl)) Via.refl e1 F_segments_o0 (g := (mkF m 5 #[rv o0, iv u0, .unset, .unset] [(.ref o0), (.ref o3)])) rfl rfl (hb hby d8_5)
  refine own_go T2 m 8 #[rv o0, iv u0, .unset, .unset] [(.int 1), (.ref o3)] (st2) ?_
  refine own_go T2 m 9 #[rv o0, iv u0, .unset, .unset] [(.int 1), (.int 1), (.ref o3)] (fun t k => XS.iconst X2.here hx rfl (hb hby d8_8) k) ?_
  refine own_go T2 m 10 #[rv o0, iv u0, .unset, .unset] [(.int ((1 : Int32) - (1 : Int32))), (.ref o3)] (fun t k => XS.isub X2.here hx rfl (hb hby d8_9) rfl k) ?_
  rw [show ((1 : Int32) - (1 : Int32)) = (0 : Int32) from by decide]
  refine own_go T2 m 11 #[rv o0, iv u0, .unset, .unset] [(.int 0)] (own_iaload X2 hx hZ e2 V_o3 (j := (0 : Int32)) ⟨by decide, by decide⟩ rfl (hb hby d8_10)) ?_
  refine own_go T2 m 12 #[rv o0, iv u0, iv 0, .unset] [] (fun t k => XS.istoreN X2.here hx rfl (hb hby d8_11) rfl rfl k) ?_
  refine own_go T2 m 13 #[rv o0, iv u0, iv 0, .unset] [(.ref o0)] (fun t k => XS.aloadN X2.here hx rfl (hb hby d8_12) rfl rfl k) ?_
  obtain ⟨T4, X4, e4, st4⟩ := getF X2 hx hZ hown (host := "") (Or.inl (own_w hw 20 rfl)) Via.refl e2 F_cursor_o0 (g := (mkF m 13 #[rv o0, iv u0, iv 0, .unset] [(.ref o0)])) rfl rfl (hb hby d8_13)
  refine own_go T4 m 16 #[rv o0, iv u0, iv 0, .unset] [(.int (-1))] (st4) ?_
  refine own_go T4 m 17 #[rv o0, iv u0, iv 0, iv (-1)] [] (fun t k => XS.istoreN X4.here hx rfl (hb hby d8_16) rfl rfl k) ?_
  refine own_go T4 m 18 #[rv o0, iv u0, iv 0, iv (-1)] [(.int (-1))] (fun t k => XS.iloadN X4.here hx rfl (hb hby d8_17) rfl k) ?_
  refine own_go T4 m 19 #[rv o0, iv u0, iv 0, iv (-1)] [(.int 0), (.int (-1))] (fun t k => XS.iloadN X4.here hx rfl (hb hby d8_18) rfl k) ?_
  refine own_go T4 m 39 #[rv o0, iv u0, iv 0, iv (-1)] [] (fun t k => XS.icmpYes X4.here hx rfl (pc0 := 19) (pc' := 39) rfl (hb hby d8_19) rfl (tlt (by decide)).1 (by decide) (by decide) k) ?_
  refine own_go T4 m 40 #[rv o0, iv u0, iv 0, iv (-1)] [(.ref o0)] (fun t k => XS.aloadN X4.here hx rfl (hb hby d8_39) rfl rfl k) ?_
  obtain ⟨T5, X5, e5, st5⟩ := getF X4 hx hZ hown (host := "") (Or.inl (own_w hw 10 rfl)) Via.refl e4 F_starts_o0 (g := (mkF m 40 #[rv o0, iv u0, iv 0, iv (-1)] [(.ref o0)])) rfl rfl (hb hby d8_40)
  refine own_go T5 m 43 #[rv o0, iv u0, iv 0, iv (-1)] [(.ref o5)] (st5) ?_
  refine own_go T5 m 44 #[rv o0, iv u0, iv 0, iv (-1)] [(.int 0), (.ref o5)] (fun t k => XS.iloadN X5.here hx rfl (hb hby d8_43) rfl k) ?_
  refine own_go T5 m 45 #[rv o0, iv u0, iv 0, iv (-1)] [(.ref o0), (.int 0), (.ref o5)] (fun t k => XS.aloadN X5.here hx rfl (hb hby d8_44) rfl rfl k) ?_
  obtain ⟨T6, X6, e6, st6⟩ := getF X5 hx hZ hown (host := "") (Or.inl (own_w hw 29 rfl)) Via.refl e5 F_count_o0 (g := (mkF m 45 #[rv o0, iv u0, iv 0, iv (-1)] [(.ref o0), (.int 0), (.ref o5)])) rfl rfl (hb hby d8_45)
  refine own_go T6 m 48 #[rv o0, iv u0, iv 0, iv (-1)] [(.int 1), (.int 0), (.ref o5)] (st6) ?_
  refine own_go T6 m 49 #[rv o0, iv u0, iv 0, iv (-1)] [(.int u0), (.int 1), (.int 0), (.ref o5)] (fun t k => XS.iloadN X6.here hx rfl (hb hby d8_48) rfl k) ?_
  obtain ⟨_, T7, L7, X7, ⟨rfl, e7, rfl⟩, st7⟩ := own_static X6 hx hZ (y := (⟨"java/util/Arrays", "binarySearch", "([IIII)I"⟩ : MethodName)) hown (own_w hw 56 rfl) (own_w hw 57 rfl) (own_w hw 58 rfl) (own_w hw 59 rfl) (by decide) (sp19 l Z a0 hw [] o5 u0 u1 c1 h0 n0 Z0 V_o5 hq0 hq1) e6 0 (argsL := [(.ref o5), (.int 0), (.int 1), (.int u0)]) (rest := []) (Ls := #[rv o0, iv u0, iv 0, iv (-1)]) (by rw [hml]; rfl) (lenOf pd___IIII_I rfl) rfl rfl (Nat.le_of_eq rfl) (hb hby d8_49) (by decide) (by decide) (by decide) (by decide)
  replace X7 := own_nil X7
  refine own_go T7 m 52 #[rv o0, iv u0, iv 0, iv (-1)] [(.int 0)] (st7) ?_
  refine own_go T7 m 53 #[rv o0, iv u0, iv 0, iv 0] [] (fun t k => XS.istoreN X7.here hx rfl (hb hby d8_52) rfl rfl k) ?_
  refine own_go T7 m 54 #[rv o0, iv u0, iv 0, iv 0] [(.int 0)] (fun t k => XS.iloadN X7.here hx rfl (hb hby d8_53) rfl k) ?_
  refine own_go T7 m 64 #[rv o0, iv u0, iv 0, iv 0] [] (fun t k => XS.ifYes X7.here hx rfl (pc0 := 54) (pc' := 64) rfl (hb hby d8_54) rfl ((if0 _ _).trans (flt (by decide)).2.1) (by decide) (by decide) k) ?_
  refine own_go T7 m 65 #[rv o0, iv u0, iv 0, iv 0] [(.int 0)] (fun t k => XS.iloadN X7.here hx rfl (hb hby d8_64) rfl k) ?_
  refine own_go T7 m 66 #[rv o0, iv u0, iv 0, iv 0] [] (fun t k => XS.istoreN X7.here hx rfl (hb hby d8_65) rfl rfl k) ?_
  refine own_go T7 m 93 #[rv o0, iv u0, iv 0, iv 0] [] (fun t k => XS.goto X7.here hx rfl (pc0 := 66) (pc' := 93) rfl (hb hby d8_66) (by decide) (by decide) k) ?_
  refine own_go T7 m 94 #[rv o0, iv u0, iv 0, iv 0] [(.ref o0)] (fun t k => XS.aloadN X7.here hx rfl (hb hby d8_93) rfl rfl k) ?_
  refine own_go T7 m 95 #[rv o0, iv u0, iv 0, iv 0] [(.int 0), (.ref o0)] (fun t k => XS.iloadN X7.here hx rfl (hb hby d8_94) rfl k) ?_
  obtain ⟨T8, h8, X8, e8, W8, st8⟩ := putF X7 hx hZ hown (host := "") (Or.inl (own_w hw 20 rfl)) Via.refl e7 F_cursor_o0 E_o0 (Or.inl (own_w hw 21 rfl)) (own_w hw 1 rfl) (ty := .int) (by decide) rfl rfl (g := (mkF m 95 #[rv o0, iv u0, iv 0, iv 0] [(.int 0), (.ref o0)])) rfl rfl (hb hby d8_95)
  have F8 := F_cursor_o0.same W8
  have cf9 := E_o0.wr W8
  have cf10 := F_count_o0.other W8 (Or.inr (slot_ne (Or.inl (own_w hw 30 rfl)) (Or.inl (own_w hw 21 rfl)) (by decide) (t := .int) (t' := .int) (by decide) (by decide)))
  have cf11 := F_ends_o0.other W8 (Or.inr (slot_ne (Or.inl (own_w hw 13 rfl)) (Or.inl (own_w hw 21 rfl)) (by decide) (t := (.array .int)) (t' := .int) (by decide) (by decide)))
  have cf12 := F_lastOpened_o0.other W8 (Or.inr (slot_ne (Or.inl (own_w hw 37 rfl)) (Or.inl (own_w hw 21 rfl)) (by decide) (t := .int) (t' := .int) (by decide) (by decide)))
  have cf13 := F_segmentEnd_o0.other W8 (Or.inr (slot_ne (Or.inl (own_w hw 17 rfl)) (Or.inl (own_w hw 21 rfl)) (by decide) (t := (.array .int)) (t' := .int) (by decide) (by decide)))
  have cf14 := F_segmentFirst_o0.other W8 (Or.inr (slot_ne (Or.inl (own_w hw 15 rfl)) (Or.inl (own_w hw 21 rfl)) (by decide) (t := (.array .int)) (t' := .int) (by decide) (by decide)))
  have cf15 := F_segmentLimit_o0.other W8 (Or.inr (slot_ne (Or.inl (own_w hw 19 rfl)) (Or.inl (own_w hw 21 rfl)) (by decide) (t := (.array .int)) (t' := .int) (by decide) (by decide)))
  have cf16 := F_segments_o0.other W8 (Or.inr (slot_ne (Or.inl (own_w hw 28 rfl)) (Or.inl (own_w hw 21 rfl)) (by decide) (t := .int) (t' := .int) (by decide) (by decide)))
  have cf17 := F_starts_o0.other W8 (Or.inr (slot_ne (Or.inl (own_w hw 11 rfl)) (Or.inl (own_w hw 21 rfl)) (by decide) (t := (.array .int)) (t' := .int) (by decide) (by decide)))
  have cf18 := V_o3.other W8 (Ne.symm ne_o0_o3)
  have cf19 := V_o5.other W8 (Ne.symm ne_o0_o5)
  have Z_8 : n0 ≤ h8.size := Nat.le_trans Z0 (Keep.of_wr W8).1
  have K_8 : Keep h0 h8 [o0] := K0.wr W8 (own_i 0 rfl)
  have N8 := Fr.snoc X8 N0 g_o0
  refine own_go T8 m 98 #[rv o0, iv u0, iv 0, iv 0] [] (st8) ?_
  refine own_go T8 m 99 #[rv o0, iv u0, iv 0, iv 0] [(.int 0)] (fun t k => XS.iloadN X8.here hx rfl (hb hby d8_98) rfl k) ?_
  refine own_go T8 m 100 #[rv o0, iv u0, iv 0, iv 0] [(.ref o0), (.int 0)] (fun t k => XS.aloadN X8.here hx rfl (hb hby d8_99) rfl rfl k) ?_
  obtain ⟨T20, X20, e20, st20⟩ := getF X8 hx hZ hown (host := "") (Or.inl (own_w hw 29 rfl)) Via.refl e8 cf10 (g := (mkF m 100 #[rv o0, iv u0, iv 0, iv 0] [(.ref o0), (.int 0)])) rfl rfl (hb hby d8_100)
  refine own_go T20 m 103 #[rv o0, iv u0, iv 0, iv 0] [(.int 1), (.int 0)] (st20) ?_
  refine own_go T20 m 106 #[rv o0, iv u0, iv 0, iv 0] [] (fun t k => XS.icmpNo X20.here hx rfl (hb hby d8_103) rfl (tlt (by decide)).2.1 k) ?_
  refine own_go T20 m 107 #[rv o0, iv u0, iv 0, iv 0] [(.ref o0)] (fun t k => XS.aloadN X20.here hx rfl (hb hby d8_106) rfl rfl k) ?_
  obtain ⟨T21, X21, e21, st21⟩ := getF X20 hx hZ hown (host := "") (Or.inl (own_w hw 10 rfl)) Via.refl e20 cf17 (g := (mkF m 107 #[rv o0, iv u0, iv 0, iv 0] [(.ref o0)])) rfl rfl (hb hby d8_107)
  refine own_go T21 m 110 #[rv o0, iv u0, iv 0, iv 0] [(.ref o5)] (st21) ?_
  refine own_go T21 m 111 #[rv o0, iv u0, iv 0, iv 0] [(.int 0), (.ref o5)] (fun t k => XS.iloadN X21.here hx rfl (hb hby d8_110) rfl k) ?_
  refine own_go T21 m 112 #[rv o0, iv u0, iv 0, iv 0] [(.int u1)] (own_iaload X21 hx hZ e21 cf19 (j := (0 : Int32)) ⟨by decide, by decide⟩ rfl (hb hby d8_111)) ?_
  refine own_go T21 m 113 #[rv o0, iv u0, iv 0, iv 0] [(.int u0), (.int u1)] (fun t k => XS.iloadN X21.here hx rfl (hb hby d8_112) rfl k) ?_
  refine own_go T21 m 116 #[rv o0, iv u0, iv 0, iv 0] [] (fun t k => XS.icmpNo X21.here hx rfl (hb hby d8_113) rfl (teq hq2).2 k) ?_
  refine own_go T21 m 117 #[rv o0, iv u0, iv 0, iv 0] [(.int 0)] (fun t k => XS.iloadN X21.here hx rfl (hb hby d8_116) rfl k) ?_
  refine own_go T21 m 121 #[rv o0, iv u0, iv 0, iv 0] [(.int 0)] (fun t k => XS.goto X21.here hx rfl (pc0 := 117) (pc' := 121) rfl (hb hby d8_117) (by decide) (by decide) k) ?_
  refine own_retI X21 hx hlk hret (hb hby d8_121) (by decide) (by decide) ?_
  rw [e21]
  exact ⟨rfl, N8, K_8, cf10, cf11, cf12, cf13, cf14, cf15, cf16, cf17, F8⟩
theorem ef_sp32 (m : MethodId) (q0 : Addr) (q1 : Int32) (q2 : Int32) : entryFrame m #[(.ref q0), (.int q1), (.int q2)] 5 = mkF m 0 #[rv q0, iv q1, iv q2, .unset, .unset] [] := by first | (simp [entryFrame, mkF, argsToLocals, Value.category]; done) | rfl
set_option maxRecDepth 65536 in
set_option maxHeartbeats 40000000 in
theorem sp32 (l : Launch) (Z : State) (a0 : Array Value) (hw : ∀ d ∈ tables_1, d.before a0 Z = true) (ws : List Jvm.Cond) (o0 o1 o2 o3 o4 o5 : Addr) (u0 : Int32) (u1 : Int32) (u2 : Int32) (u3 : Int32) (u4 : Int32) (c0 : ClassId) (c1 : ClassId) (c2 : ClassId) (c3 : ClassId) (c4 : ClassId) (h0 : Heap) (n0 : Nat) (Z0 : n0 ≤ h0.size) (E_o0 : Exa Z h0 o0 OwnK0) (F_count_o0 : Fld Z h0 o0 OwnK0 "count" "I" (.int 1)) (F_cursor_o0 : Fld Z h0 o0 OwnK0 "cursor" "I" (.int (-1))) (F_ends_o0 : Fld Z h0 o0 OwnK0 "ends" "[I" (.ref o1)) (F_lastOpened_o0 : Fld Z h0 o0 OwnK0 "lastOpened" "I" (.int 0)) (F_segmentEnd_o0 : Fld Z h0 o0 OwnK0 "segmentEnd" "[I" (.ref o2)) (F_segmentFirst_o0 : Fld Z h0 o0 OwnK0 "segmentFirst" "[I" (.ref o3)) (F_segmentLimit_o0 : Fld Z h0 o0 OwnK0 "segmentLimit" "[I" (.ref o4)) (F_segments_o0 : Fld Z h0 o0 OwnK0 "segments" "I" (.int 1)) (F_starts_o0 : Fld Z h0 o0 OwnK0 "starts" "[I" (.ref o5)) (V_o1 : Arv Z h0 o1 c0 .int (8 : Int32) [(.int (-2)), (.int 0), (.int 0), (.int 0), (.int 0), (.int 0), (.int 0), (.int 0)] (.int 0)) (V_o2 : Arv Z h0 o2 c1 .int (8 : Int32) [(.int u2), (.int 0), (.int 0), (.int 0), (.int 0), (.int 0), (.int 0), (.int 0)] (.int 0)) (V_o3 : Arv Z h0 o3 c2 .int (8 : Int32) [(.int 0), (.int 1), (.int 0), (.int 0), (.int 0), (.int 0), (.int 0), (.int 0)] (.int 0)) (V_o4 : Arv Z h0 o4 c3 .int (8 : Int32) [(.int u3), (.int u1), (.int 0), (.int 0), (.int 0), (.int 0), (.int 0), (.int 0)] (.int 0)) (V_o5 : Arv Z h0 o5 c4 .int (8 : Int32) [(.int u4), (.int 0), (.int 0), (.int 0), (.int 0), (.int 0), (.int 0), (.int 0)] (.int 0)) (ne_o0_o1 : o0 ≠ o1) (ne_o0_o2 : o0 ≠ o2) (ne_o0_o3 : o0 ≠ o3) (ne_o0_o4 : o0 ≠ o4) (ne_o0_o5 : o0 ≠ o5) (g_o0 : n0 ≤ o0) (hq0 : ¬ (u0 < u4)) (hq1 : u0 < u2) (hq2 : ¬ (u4 < u0)) (hq3 : u4 = u0) (hq4 : u3 < u1) :
    OwnC l Z (⟨OwnK0, "find", "(II)I"⟩ : MethodName) prog_48_method_2_code 5 (some .int) ws ({ frames := 3, cells := 0, slots := 0, locals := 49 } : Room) #[(.ref o0), (.int u0), (.int u1)] h0 (fun v h L => v = some (.int (-1)) ∧ Fr n0 L ∧ Keep h0 h [o0] ∧ Fld Z h o0 OwnK0 "count" "I" (.int 1) ∧ Fld Z h o0 OwnK0 "ends" "[I" (.ref o1) ∧ Fld Z h o0 OwnK0 "lastOpened" "I" (.int 0) ∧ Fld Z h o0 OwnK0 "segmentEnd" "[I" (.ref o2) ∧ Fld Z h o0 OwnK0 "segmentFirst" "[I" (.ref o3) ∧ Fld Z h o0 OwnK0 "segmentLimit" "[I" (.ref o4) ∧ Fld Z h o0 OwnK0 "segments" "I" (.int 1) ∧ Fld Z h o0 OwnK0 "starts" "[I" (.ref o5) ∧ Fld Z h o0 OwnK0 "cursor" "I" (.int 0)) := by
  refine own_entry pf_com_example_wirelens_wirelens_wire_GroupEnds_find__II_I (fun m => ef_sp32 m o0 u0 u1) ?_
  intro p e s m below meth c T0 X0 hC e0
  obtain ⟨hx, hby, hml, hown, hnm, hret, hlk, hZ⟩ := hC
  have N0 := Fr.nil n0
  have K0 := Keep.refl h0 [o0]
  refine own_go T0 m 1 #[rv o0, iv u0, iv u1, .unset, .unset] [(.ref o0)] (fun t k => XS.aloadN X0.here hx rfl (hb hby d6_0) rfl rfl k) ?_
  obtain ⟨T1, X1, e1, st1⟩ := getF X0 hx hZ hown (host := "") (Or.inl (own_w hw 27 rfl)) Via.refl e0 F_segments_o0 (g := (mkF m 1 #[rv o0, iv u0, iv u1, .unset, .unset] [(.ref o0)])) rfl rfl (hb hby d6_1)
  refine own_go T1 m 4 #[rv o0, iv u0, iv u1, .unset, .unset] [(.int 1)] (st1) ?_
  refine own_go T1 m 7 #[rv o0, iv u0, iv u1, .unset, .unset] [] (fun t k => XS.ifNo X1.here hx rfl (hb hby d6_4) rfl ((if0 _ _).trans (tlt (by decide)).2.2.2) k) ?_
  refine own_go T1 m 8 #[rv o0, iv u0, iv u1, .unset, .unset] [(.ref o0)] (fun t k => XS.aloadN X1.here hx rfl (hb hby d6_7) rfl rfl k) ?_
  refine own_go T1 m 9 #[rv o0, iv u0, iv u1, .unset, .unset] [(.int u0), (.ref o0)] (fun t k => XS.iloadN X1.here hx rfl (hb hby d6_8) rfl k) ?_
  obtain ⟨_, T2, L2, X2, ⟨rfl, e2, rfl⟩, st2⟩ := own_private X1 hx hZ (y := (⟨OwnK0, "newestCovers", "(I)Z"⟩ : MethodName)) hown (own_w hw 48 rfl) (own_w hw 49 rfl) (own_w hw 50 rfl) (own_w hw 1 rfl) (own_w hw 2 rfl) (own_w hw 51 rfl) (by decide) (sp30 l Z a0 hw [] o0 o2 o3 o5 u0 u2 u4 c1 c2 c4 h0 n0 Z0 F_segmentEnd_o0 F_segmentFirst_o0 F_segments_o0 F_starts_o0 V_o2 V_o3 V_o5 hq0 hq1) e1 E_o0 0 (argsL := [(.int u0)]) (rest := []) (Ls := #[rv o0, iv u0, iv u1, .unset, .unset]) (by rw [hml]; rfl) (lenOf pd__I_Z rfl) rfl rfl (Nat.le_of_eq rfl) (hb hby d6_9) (by decide) (by decide) (by decide) (by decide)
  replace X2 := own_nil X2
  refine own_go T2 m 12 #[rv o0, iv u0, iv u1, .unset, .unset] [(.int 1)] (st2) ?_
  refine own_go T2 m 46 #[rv o0, iv u0, iv u1, .unset, .unset] [] (fun t k => XS.ifYes X2.here hx rfl (pc0 := 12) (pc' := 46) rfl (hb hby d6_12) rfl ((if0 _ _).trans (feq (by decide)).2) (by decide) (by decide) k) ?_
  refine own_go T2 m 47 #[rv o0, iv u0, iv u1, .unset, .unset] [(.ref o0)] (fun t k => XS.aloadN X2.here hx rfl (hb hby d6_46) rfl rfl k) ?_
  obtain ⟨T3, X3, e3, st3⟩ := getF X2 hx hZ hown (host := "") (Or.inl (own_w hw 27 rfl)) Via.refl e2 F_segments_o0 (g := (mkF m 47 #[rv o0, iv u0, iv u1, .unset, .unset] [(.ref o0)])) rfl rfl (hb hby d6_47)
  refine own_go T3 m 50 #[rv o0, iv u0, iv u1, .unset, .unset] [(.int 1)] (st3) ?_
  refine own_go T3 m 57 #[rv o0, iv u0, iv u1, .unset, .unset] [] (fun t k => XS.ifYes X3.here hx rfl (pc0 := 50) (pc' := 57) rfl (hb hby d6_50) rfl ((if0 _ _).trans (feq (by decide)).2) (by decide) (by decide) k) ?_
  refine own_go T3 m 58 #[rv o0, iv u0, iv u1, .unset, .unset] [(.ref o0)] (fun t k => XS.aloadN X3.here hx rfl (hb hby d6_57) rfl rfl k) ?_
  refine own_go T3 m 59 #[rv o0, iv u0, iv u1, .unset, .unset] [(.int u0), (.ref o0)] (fun t k => XS.iloadN X3.here hx rfl (hb hby d6_58) rfl k) ?_
  obtain ⟨_, T4, L4, X4, ⟨rfl, Nq4, Kq4, fq0_4, fq1_4, fq2_4, fq3_4, fq4_4, fq5_4, fq6_4, fq7_4, fq8_4⟩, st4⟩ := own_private X3 hx hZ (y := (⟨OwnK0, "search", "(I)I"⟩ : MethodName)) hown (own_w hw 52 rfl) (own_w hw 53 rfl) (own_w hw 54 rfl) (own_w hw 1 rfl) (own_w hw 2 rfl) (own_w hw 55 rfl) (by decide) (sp33 l Z a0 hw [] o0 o1 o2 o3 o4 o5 u0 u4 c2 c4 h0 n0 Z0 E_o0 F_count_o0 F_cursor_o0 F_ends_o0 F_lastOpened_o0 F_segmentEnd_o0 F_segmentFirst_o0 F_segmentLimit_o0 F_segments_o0 F_starts_o0 V_o3 V_o5 ne_o0_o1 ne_o0_o2 ne_o0_o3 ne_o0_o4 ne_o0_o5 g_o0 hq2 hq0 hq3) e3 E_o0 0 (argsL := [(.int u0)]) (rest := []) (Ls := #[rv o0, iv u0, iv u1, .unset, .unset]) (by rw [hml]; rfl) (lenOf pd__I_I rfl) rfl rfl (Nat.le_of_eq rfl) (hb hby d6_59) (by decide) (by decide) (by decide) (by decide)
  have N4 := Fr.app N0 Nq4
  have cf5 := E_o0.keep Kq4
  have cf6 := V_o1.keep Kq4 (ninS (Ne.symm ne_o0_o1) nin0)
  have cf7 := V_o2.keep Kq4 (ninS (Ne.symm ne_o0_o2) nin0)
  have cf8 := V_o3.keep Kq4 (ninS (Ne.symm ne_o0_o3) nin0)
  have cf9 := V_o4.keep Kq4 (ninS (Ne.symm ne_o0_o4) nin0)
  have cf10 := V_o5.keep Kq4 (ninS (Ne.symm ne_o0_o5) nin0)
  have Z_4 : n0 ≤ T4.heap.size := Nat.le_trans Z0 Kq4.1
  have K_4 : Keep h0 T4.heap [o0] := K0.trans Kq4 (allS (own_i 0 rfl) all0)
  refine own_go T4 m 62 #[rv o0, iv u0, iv u1, .unset, .unset] [(.int 0)] (st4) ?_
  refine own_go T4 m 63 #[rv o0, iv u0, iv u1, iv 0, .unset] [] (fun t k => XS.istoreN X4.here hx rfl (hb hby d6_62) rfl rfl k) ?_
  refine own_go T4 m 64 #[rv o0, iv u0, iv u1, iv 0, .unset] [(.int 0)] (fun t k => XS.iloadN X4.here hx rfl (hb hby d6_63) rfl k) ?_
  refine own_go T4 m 73 #[rv o0, iv u0, iv u1, iv 0, .unset] [] (fun t k => XS.ifYes X4.here hx rfl (pc0 := 64) (pc' := 73) rfl (hb hby d6_64) rfl ((if0 _ _).trans (flt (by decide)).2.1) (by decide) (by decide) k) ?_
  refine own_go T4 m 74 #[rv o0, iv u0, iv u1, iv 0, .unset] [(.ref o0)] (fun t k => XS.aloadN X4.here hx rfl (hb hby d6_73) rfl rfl k) ?_
  obtain ⟨T11, X11, e11, st11⟩ := getF X4 hx hZ hown (host := "") (Or.inl (own_w hw 12 rfl)) Via.refl rfl fq1_4 (g := (mkF m 74 #[rv o0, iv u0, iv u1, iv 0, .unset] [(.ref o0)])) rfl rfl (hb hby d6_74)
  refine own_go T11 m 77 #[rv o0, iv u0, iv u1, iv 0, .unset] [(.ref o1)] (st11) ?_
  refine own_go T11 m 78 #[rv o0, iv u0, iv u1, iv 0, .unset] [(.int 0), (.ref o1)] (fun t k => XS.iloadN X11.here hx rfl (hb hby d6_77) rfl k) ?_
  refine own_go T11 m 79 #[rv o0, iv u0, iv u1, iv 0, .unset] [(.int (-2))] (own_iaload X11 hx hZ e11 cf6 (j := (0 : Int32)) ⟨by decide, by decide⟩ rfl (hb hby d6_78)) ?_
  refine own_go T11 m 81 #[rv o0, iv u0, iv u1, iv 0, .unset] [(.int (-2)), (.int (-2))] (fun t k => XS.bipush X11.here hx rfl (hb hby d6_79) k) ?_
  refine own_go T11 m 84 #[rv o0, iv u0, iv u1, iv 0, .unset] [] (fun t k => XS.icmpNo X11.here hx rfl (hb hby d6_81) rfl (teq (by decide)).2 k) ?_
  refine own_go T11 m 85 #[rv o0, iv u0, iv u1, iv 0, .unset] [(.int u1)] (fun t k => XS.iloadN X11.here hx rfl (hb hby d6_84) rfl k) ?_
  refine own_go T11 m 86 #[rv o0, iv u0, iv u1, iv 0, .unset] [(.ref o0), (.int u1)] (fun t k => XS.aloadN X11.here hx rfl (hb hby d6_85) rfl rfl k) ?_
  obtain ⟨T13, X13, e13, st13⟩ := getF X11 hx hZ hown (host := "") (Or.inl (own_w hw 18 rfl)) Via.refl e11 fq5_4 (g := (mkF m 86 #[rv o0, iv u0, iv u1, iv 0, .unset] [(.ref o0), (.int u1)])) rfl rfl (hb hby d6_86)
  refine own_go T13 m 89 #[rv o0, iv u0, iv u1, iv 0, .unset] [(.ref o4), (.int u1)] (st13) ?_
  refine own_go T13 m 90 #[rv o0, iv u0, iv u1, iv 0, .unset] [(.ref o0), (.ref o4), (.int u1)] (fun t k => XS.aloadN X13.here hx rfl (hb hby d6_89) rfl rfl k) ?_
  obtain ⟨T14, X14, e14, st14⟩ := getF X13 hx hZ hown (host := "") (Or.inl (own_w hw 27 rfl)) Via.refl e13 fq6_4 (g := (mkF m 90 #[rv o0, iv u0, iv u1, iv 0, .unset] [(.ref o0), (.ref o4), (.int u1)])) rfl rfl (hb hby d6_90)
  refine own_go T14 m 93 #[rv o0, iv u0, iv u1, iv 0, .unset] [(.int 1), (.ref o4), (.int u1)] (st14) ?_
  refine own_go T14 m 94 #[rv o0, iv u0, iv u1, iv 0, .unset] [(.int 1), (.int 1), (.ref o4), (.int u1)] (fun t k => XS.iconst X14.here hx rfl (hb hby d6_93) k) ?_
  refine own_go T14 m 95 #[rv o0, iv u0, iv u1, iv 0, .unset] [(.int ((1 : Int32) - (1 : Int32))), (.ref o4), (.int u1)] (fun t k => XS.isub X14.here hx rfl (hb hby d6_94) rfl k) ?_
  rw [show ((1 : Int32) - (1 : Int32)) = (0 : Int32) from by decide]
  refine own_go T14 m 96 #[rv o0, iv u0, iv u1, iv 0, .unset] [(.int u3), (.int u1)] (own_iaload X14 hx hZ e14 cf9 (j := (0 : Int32)) ⟨by decide, by decide⟩ rfl (hb hby d6_95)) ?_
  refine own_go T14 m 99 #[rv o0, iv u0, iv u1, iv 0, .unset] [] (fun t k => XS.icmpNo X14.here hx rfl (hb hby d6_96) rfl (tlt hq4).2.2.2 k) ?_
  refine own_go T14 m 100 #[rv o0, iv u0, iv u1, iv 0, .unset] [(.int (-1))] (fun t k => XS.iconst X14.here hx rfl (hb hby d6_99) k) ?_
  refine own_go T14 m 102 #[rv o0, iv u0, iv u1, iv 0, iv (-1)] [] (fun t k => XS.istore X14.here hx rfl (hb hby d6_100) rfl rfl k) ?_
  refine own_go T14 m 113 #[rv o0, iv u0, iv u1, iv 0, iv (-1)] [] (fun t k => XS.goto X14.here hx rfl (pc0 := 102) (pc' := 113) rfl (hb hby d6_102) (by decide) (by decide) k) ?_
  refine own_go T14 m 115 #[rv o0, iv u0, iv u1, iv 0, iv (-1)] [(.int (-1))] (fun t k => XS.iload X14.here hx rfl (hb hby d6_113) rfl k) ?_
  refine own_retI X14 hx hlk hret (hb hby d6_115) (by decide) (by decide) ?_
  rw [e14]
  exact ⟨rfl, N4, K_4, fq0_4, fq1_4, fq2_4, fq3_4, fq4_4, fq5_4, fq6_4, fq7_4, fq8_4⟩
theorem own_db15 (t0 t1 t2 t3 t4 t5 t6 : Int32) (h0 : ¬ (t0 = (0 : Int32))) (h1 : ¬ (t1 = (0 : Int32))) (h2 : ¬ (t2 < t3)) (h3 : t2 < t4) (h4 : ¬ (t3 < t2)) (h5 : t5 < t6) : t2 = t3 := by
  simp only [Int32.lt_iff_toInt_lt, ← Int32.toInt_inj, Int32.reduceToInt] at *
  omega
theorem own_db16 (t0 t1 t2 t3 t4 t5 t6 : Int32) (h0 : ¬ (t0 = (0 : Int32))) (h1 : ¬ (t1 = (0 : Int32))) (h2 : ¬ (t2 < t3)) (h3 : t2 < t4) (h4 : ¬ (t3 < t2)) (h5 : ¬ (t5 < t6)) : t3 = t2 := by
  simp only [Int32.lt_iff_toInt_lt, ← Int32.toInt_inj, Int32.reduceToInt] at *
  omega
theorem ef_sp34 (m : MethodId) (q0 : Addr) (q1 : Int32) (q2 : Int32) : entryFrame m #[(.ref q0), (.int q1), (.int q2)] 5 = mkF m 0 #[rv q0, iv q1, iv q2, .unset, .unset] [] := by first | (simp [entryFrame, mkF, argsToLocals, Value.category]; done) | rfl
set_option maxRecDepth 65536 in
set_option maxHeartbeats 40000000 in
theorem sp34 (l : Launch) (Z : State) (a0 : Array Value) (hw : ∀ d ∈ tables_1, d.before a0 Z = true) (ws : List Jvm.Cond) (o0 o1 o2 o3 o4 o5 : Addr) (u0 : Int32) (u1 : Int32) (u2 : Int32) (u3 : Int32) (u4 : Int32) (c0 : ClassId) (c1 : ClassId) (c2 : ClassId) (c3 : ClassId) (c4 : ClassId) (h0 : Heap) (n0 : Nat) (Z0 : n0 ≤ h0.size) (E_o0 : Exa Z h0 o0 OwnK0) (F_count_o0 : Fld Z h0 o0 OwnK0 "count" "I" (.int 1)) (F_cursor_o0 : Fld Z h0 o0 OwnK0 "cursor" "I" (.int (-1))) (F_ends_o0 : Fld Z h0 o0 OwnK0 "ends" "[I" (.ref o1)) (F_lastOpened_o0 : Fld Z h0 o0 OwnK0 "lastOpened" "I" (.int 0)) (F_segmentEnd_o0 : Fld Z h0 o0 OwnK0 "segmentEnd" "[I" (.ref o2)) (F_segmentFirst_o0 : Fld Z h0 o0 OwnK0 "segmentFirst" "[I" (.ref o3)) (F_segmentLimit_o0 : Fld Z h0 o0 OwnK0 "segmentLimit" "[I" (.ref o4)) (F_segments_o0 : Fld Z h0 o0 OwnK0 "segments" "I" (.int 1)) (F_starts_o0 : Fld Z h0 o0 OwnK0 "starts" "[I" (.ref o5)) (V_o1 : Arv Z h0 o1 c0 .int (8 : Int32) [(.int (-2)), (.int 0), (.int 0), (.int 0), (.int 0), (.int 0), (.int 0), (.int 0)] (.int 0)) (V_o2 : Arv Z h0 o2 c1 .int (8 : Int32) [(.int u2), (.int 0), (.int 0), (.int 0), (.int 0), (.int 0), (.int 0), (.int 0)] (.int 0)) (V_o3 : Arv Z h0 o3 c2 .int (8 : Int32) [(.int 0), (.int 1), (.int 0), (.int 0), (.int 0), (.int 0), (.int 0), (.int 0)] (.int 0)) (V_o4 : Arv Z h0 o4 c3 .int (8 : Int32) [(.int u3), (.int u1), (.int 0), (.int 0), (.int 0), (.int 0), (.int 0), (.int 0)] (.int 0)) (V_o5 : Arv Z h0 o5 c4 .int (8 : Int32) [(.int u4), (.int 0), (.int 0), (.int 0), (.int 0), (.int 0), (.int 0), (.int 0)] (.int 0)) (ne_o0_o1 : o0 ≠ o1) (ne_o0_o2 : o0 ≠ o2) (ne_o0_o3 : o0 ≠ o3) (ne_o0_o4 : o0 ≠ o4) (ne_o0_o5 : o0 ≠ o5) (g_o0 : n0 ≤ o0) (hq0 : ¬ (u0 < u4)) (hq1 : u0 < u2) (hq2 : ¬ (u4 < u0)) (hq3 : u4 = u0) (hq4 : ¬ (u3 < u1)) :
    OwnC l Z (⟨OwnK0, "find", "(II)I"⟩ : MethodName) prog_48_method_2_code 5 (some .int) ws ({ frames := 3, cells := 0, slots := 0, locals := 49 } : Room) #[(.ref o0), (.int u0), (.int u1)] h0 (fun v h L => v = some (.int (-2)) ∧ Fr n0 L ∧ Keep h0 h [o0] ∧ Fld Z h o0 OwnK0 "count" "I" (.int 1) ∧ Fld Z h o0 OwnK0 "ends" "[I" (.ref o1) ∧ Fld Z h o0 OwnK0 "lastOpened" "I" (.int 0) ∧ Fld Z h o0 OwnK0 "segmentEnd" "[I" (.ref o2) ∧ Fld Z h o0 OwnK0 "segmentFirst" "[I" (.ref o3) ∧ Fld Z h o0 OwnK0 "segmentLimit" "[I" (.ref o4) ∧ Fld Z h o0 OwnK0 "segments" "I" (.int 1) ∧ Fld Z h o0 OwnK0 "starts" "[I" (.ref o5) ∧ Fld Z h o0 OwnK0 "cursor" "I" (.int 0)) := by
  refine own_entry pf_com_example_wirelens_wirelens_wire_GroupEnds_find__II_I (fun m => ef_sp34 m o0 u0 u1) ?_
  intro p e s m below meth c T0 X0 hC e0
  obtain ⟨hx, hby, hml, hown, hnm, hret, hlk, hZ⟩ := hC
  have N0 := Fr.nil n0
  have K0 := Keep.refl h0 [o0]
  refine own_go T0 m 1 #[rv o0, iv u0, iv u1, .unset, .unset] [(.ref o0)] (fun t k => XS.aloadN X0.here hx rfl (hb hby d6_0) rfl rfl k) ?_
  obtain ⟨T1, X1, e1, st1⟩ := getF X0 hx hZ hown (host := "") (Or.inl (own_w hw 27 rfl)) Via.refl e0 F_segments_o0 (g := (mkF m 1 #[rv o0, iv u0, iv u1, .unset, .unset] [(.ref o0)])) rfl rfl (hb hby d6_1)
  refine own_go T1 m 4 #[rv o0, iv u0, iv u1, .unset, .unset] [(.int 1)] (st1) ?_
  refine own_go T1 m 7 #[rv o0, iv u0, iv u1, .unset, .unset] [] (fun t k => XS.ifNo X1.here hx rfl (hb hby d6_4) rfl ((if0 _ _).trans (tlt (by decide)).2.2.2) k) ?_
  refine own_go T1 m 8 #[rv o0, iv u0, iv u1, .unset, .unset] [(.ref o0)] (fun t k => XS.aloadN X1.here hx rfl (hb hby d6_7) rfl rfl k) ?_
  refine own_go T1 m 9 #[rv o0, iv u0, iv u1, .unset, .unset] [(.int u0), (.ref o0)] (fun t k => XS.iloadN X1.here hx rfl (hb hby d6_8) rfl k) ?_
  obtain ⟨_, T2, L2, X2, ⟨rfl, e2, rfl⟩, st2⟩ := own_private X1 hx hZ (y := (⟨OwnK0, "newestCovers", "(I)Z"⟩ : MethodName)) hown (own_w hw 48 rfl) (own_w hw 49 rfl) (own_w hw 50 rfl) (own_w hw 1 rfl) (own_w hw 2 rfl) (own_w hw 51 rfl) (by decide) (sp30 l Z a0 hw [] o0 o2 o3 o5 u0 u2 u4 c1 c2 c4 h0 n0 Z0 F_segmentEnd_o0 F_segmentFirst_o0 F_segments_o0 F_starts_o0 V_o2 V_o3 V_o5 hq0 hq1) e1 E_o0 0 (argsL := [(.int u0)]) (rest := []) (Ls := #[rv o0, iv u0, iv u1, .unset, .unset]) (by rw [hml]; rfl) (lenOf pd__I_Z rfl) rfl rfl (Nat.le_of_eq rfl) (hb hby d6_9) (by decide) (by decide) (by decide) (by decide)
  replace X2 := own_nil X2
  refine own_go T2 m 12 #[rv o0, iv u0, iv u1, .unset, .unset] [(.int 1)] (st2) ?_
  refine own_go T2 m 46 #[rv o0, iv u0, iv u1, .unset, .unset] [] (fun t k => XS.ifYes X2.here hx rfl (pc0 := 12) (pc' := 46) rfl (hb hby d6_12) rfl ((if0 _ _).trans (feq (by decide)).2) (by decide) (by decide) k) ?_
  refine own_go T2 m 47 #[rv o0, iv u0, iv u1, .unset, .unset] [(.ref o0)] (fun t k => XS.aloadN X2.here hx rfl (hb hby d6_46) rfl rfl k) ?_
  obtain ⟨T3, X3, e3, st3⟩ := getF X2 hx hZ hown (host := "") (Or.inl (own_w hw 27 rfl)) Via.refl e2 F_segments_o0 (g := (mkF m 47 #[rv o0, iv u0, iv u1, .unset, .unset] [(.ref o0)])) rfl rfl (hb hby d6_47)
  refine own_go T3 m 50 #[rv o0, iv u0, iv u1, .unset, .unset] [(.int 1)] (st3) ?_
  refine own_go T3 m 57 #[rv o0, iv u0, iv u1, .unset, .unset] [] (fun t k => XS.ifYes X3.here hx rfl (pc0 := 50) (pc' := 57) rfl (hb hby d6_50) rfl ((if0 _ _).trans (feq (by decide)).2) (by decide) (by decide) k) ?_
  refine own_go T3 m 58 #[rv o0, iv u0, iv u1, .unset, .unset] [(.ref o0)] (fun t k => XS.aloadN X3.here hx rfl (hb hby d6_57) rfl rfl k) ?_
  refine own_go T3 m 59 #[rv o0, iv u0, iv u1, .unset, .unset] [(.int u0), (.ref o0)] (fun t k => XS.iloadN X3.here hx rfl (hb hby d6_58) rfl k) ?_
  obtain ⟨_, T4, L4, X4, ⟨rfl, Nq4, Kq4, fq0_4, fq1_4, fq2_4, fq3_4, fq4_4, fq5_4, fq6_4, fq7_4, fq8_4⟩, st4⟩ := own_private X3 hx hZ (y := (⟨OwnK0, "search", "(I)I"⟩ : MethodName)) hown (own_w hw 52 rfl) (own_w hw 53 rfl) (own_w hw 54 rfl) (own_w hw 1 rfl) (own_w hw 2 rfl) (own_w hw 55 rfl) (by decide) (sp33 l Z a0 hw [] o0 o1 o2 o3 o4 o5 u0 u4 c2 c4 h0 n0 Z0 E_o0 F_count_o0 F_cursor_o0 F_ends_o0 F_lastOpened_o0 F_segmentEnd_o0 F_segmentFirst_o0 F_segmentLimit_o0 F_segments_o0 F_starts_o0 V_o3 V_o5 ne_o0_o1 ne_o0_o2 ne_o0_o3 ne_o0_o4 ne_o0_o5 g_o0 hq2 hq0 hq3) e3 E_o0 0 (argsL := [(.int u0)]) (rest := []) (Ls := #[rv o0, iv u0, iv u1, .unset, .unset]) (by rw [hml]; rfl) (lenOf pd__I_I rfl) rfl rfl (Nat.le_of_eq rfl) (hb hby d6_59) (by decide) (by decide) (by decide) (by decide)
  have N4 := Fr.app N0 Nq4
  have cf5 := E_o0.keep Kq4
  have cf6 := V_o1.keep Kq4 (ninS (Ne.symm ne_o0_o1) nin0)
  have cf7 := V_o2.keep Kq4 (ninS (Ne.symm ne_o0_o2) nin0)
  have cf8 := V_o3.keep Kq4 (ninS (Ne.symm ne_o0_o3) nin0)
  have cf9 := V_o4.keep Kq4 (ninS (Ne.symm ne_o0_o4) nin0)
  have cf10 := V_o5.keep Kq4 (ninS (Ne.symm ne_o0_o5) nin0)
  have Z_4 : n0 ≤ T4.heap.size := Nat.le_trans Z0 Kq4.1
  have K_4 : Keep h0 T4.heap [o0] := K0.trans Kq4 (allS (own_i 0 rfl) all0)
  refine own_go T4 m 62 #[rv o0, iv u0, iv u1, .unset, .unset] [(.int 0)] (st4) ?_
  refine own_go T4 m 63 #[rv o0, iv u0, iv u1, iv 0, .unset] [] (fun t k => XS.istoreN X4.here hx rfl (hb hby d6_62) rfl rfl k) ?_
  refine own_go T4 m 64 #[rv o0, iv u0, iv u1, iv 0, .unset] [(.int 0)] (fun t k => XS.iloadN X4.here hx rfl (hb hby d6_63) rfl k) ?_
  refine own_go T4 m 73 #[rv o0, iv u0, iv u1, iv 0, .unset] [] (fun t k => XS.ifYes X4.here hx rfl (pc0 := 64) (pc' := 73) rfl (hb hby d6_64) rfl ((if0 _ _).trans (flt (by decide)).2.1) (by decide) (by decide) k) ?_
  refine own_go T4 m 74 #[rv o0, iv u0, iv u1, iv 0, .unset] [(.ref o0)] (fun t k => XS.aloadN X4.here hx rfl (hb hby d6_73) rfl rfl k) ?_
  obtain ⟨T11, X11, e11, st11⟩ := getF X4 hx hZ hown (host := "") (Or.inl (own_w hw 12 rfl)) Via.refl rfl fq1_4 (g := (mkF m 74 #[rv o0, iv u0, iv u1, iv 0, .unset] [(.ref o0)])) rfl rfl (hb hby d6_74)
  refine own_go T11 m 77 #[rv o0, iv u0, iv u1, iv 0, .unset] [(.ref o1)] (st11) ?_
  refine own_go T11 m 78 #[rv o0, iv u0, iv u1, iv 0, .unset] [(.int 0), (.ref o1)] (fun t k => XS.iloadN X11.here hx rfl (hb hby d6_77) rfl k) ?_
  refine own_go T11 m 79 #[rv o0, iv u0, iv u1, iv 0, .unset] [(.int (-2))] (own_iaload X11 hx hZ e11 cf6 (j := (0 : Int32)) ⟨by decide, by decide⟩ rfl (hb hby d6_78)) ?_
  refine own_go T11 m 81 #[rv o0, iv u0, iv u1, iv 0, .unset] [(.int (-2)), (.int (-2))] (fun t k => XS.bipush X11.here hx rfl (hb hby d6_79) k) ?_
  refine own_go T11 m 84 #[rv o0, iv u0, iv u1, iv 0, .unset] [] (fun t k => XS.icmpNo X11.here hx rfl (hb hby d6_81) rfl (teq (by decide)).2 k) ?_
  refine own_go T11 m 85 #[rv o0, iv u0, iv u1, iv 0, .unset] [(.int u1)] (fun t k => XS.iloadN X11.here hx rfl (hb hby d6_84) rfl k) ?_
  refine own_go T11 m 86 #[rv o0, iv u0, iv u1, iv 0, .unset] [(.ref o0), (.int u1)] (fun t k => XS.aloadN X11.here hx rfl (hb hby d6_85) rfl rfl k) ?_
  obtain ⟨T13, X13, e13, st13⟩ := getF X11 hx hZ hown (host := "") (Or.inl (own_w hw 18 rfl)) Via.refl e11 fq5_4 (g := (mkF m 86 #[rv o0, iv u0, iv u1, iv 0, .unset] [(.ref o0), (.int u1)])) rfl rfl (hb hby d6_86)
  refine own_go T13 m 89 #[rv o0, iv u0, iv u1, iv 0, .unset] [(.ref o4), (.int u1)] (st13) ?_
  refine own_go T13 m 90 #[rv o0, iv u0, iv u1, iv 0, .unset] [(.ref o0), (.ref o4), (.int u1)] (fun t k => XS.aloadN X13.here hx rfl (hb hby d6_89) rfl rfl k) ?_
  obtain ⟨T14, X14, e14, st14⟩ := getF X13 hx hZ hown (host := "") (Or.inl (own_w hw 27 rfl)) Via.refl e13 fq6_4 (g := (mkF m 90 #[rv o0, iv u0, iv u1, iv 0, .unset] [(.ref o0), (.ref o4), (.int u1)])) rfl rfl (hb hby d6_90)
  refine own_go T14 m 93 #[rv o0, iv u0, iv u1, iv 0, .unset] [(.int 1), (.ref o4), (.int u1)] (st14) ?_
  refine own_go T14 m 94 #[rv o0, iv u0, iv u1, iv 0, .unset] [(.int 1), (.int 1), (.ref o4), (.int u1)] (fun t k => XS.iconst X14.here hx rfl (hb hby d6_93) k) ?_
  refine own_go T14 m 95 #[rv o0, iv u0, iv u1, iv 0, .unset] [(.int ((1 : Int32) - (1 : Int32))), (.ref o4), (.int u1)] (fun t k => XS.isub X14.here hx rfl (hb hby d6_94) rfl k) ?_
  rw [show ((1 : Int32) - (1 : Int32)) = (0 : Int32) from by decide]
  refine own_go T14 m 96 #[rv o0, iv u0, iv u1, iv 0, .unset] [(.int u3), (.int u1)] (own_iaload X14 hx hZ e14 cf9 (j := (0 : Int32)) ⟨by decide, by decide⟩ rfl (hb hby d6_95)) ?_
  refine own_go T14 m 105 #[rv o0, iv u0, iv u1, iv 0, .unset] [] (fun t k => XS.icmpYes X14.here hx rfl (pc0 := 96) (pc' := 105) rfl (hb hby d6_96) rfl (flt hq4).2.2.2 (by decide) (by decide) k) ?_
  refine own_go T14 m 106 #[rv o0, iv u0, iv u1, iv 0, .unset] [(.ref o0)] (fun t k => XS.aloadN X14.here hx rfl (hb hby d6_105) rfl rfl k) ?_
  obtain ⟨T16, X16, e16, st16⟩ := getF X14 hx hZ hown (host := "") (Or.inl (own_w hw 12 rfl)) Via.refl e14 fq1_4 (g := (mkF m 106 #[rv o0, iv u0, iv u1, iv 0, .unset] [(.ref o0)])) rfl rfl (hb hby d6_106)
  refine own_go T16 m 109 #[rv o0, iv u0, iv u1, iv 0, .unset] [(.ref o1)] (st16) ?_
  refine own_go T16 m 110 #[rv o0, iv u0, iv u1, iv 0, .unset] [(.int 0), (.ref o1)] (fun t k => XS.iloadN X16.here hx rfl (hb hby d6_109) rfl k) ?_
  refine own_go T16 m 111 #[rv o0, iv u0, iv u1, iv 0, .unset] [(.int (-2))] (own_iaload X16 hx hZ e16 cf6 (j := (0 : Int32)) ⟨by decide, by decide⟩ rfl (hb hby d6_110)) ?_
  refine own_go T16 m 113 #[rv o0, iv u0, iv u1, iv 0, iv (-2)] [] (fun t k => XS.istore X16.here hx rfl (hb hby d6_111) rfl rfl k) ?_
  refine own_go T16 m 115 #[rv o0, iv u0, iv u1, iv 0, iv (-2)] [(.int (-2))] (fun t k => XS.iload X16.here hx rfl (hb hby d6_113) rfl k) ?_
  refine own_retI X16 hx hlk hret (hb hby d6_115) (by decide) (by decide) ?_
  rw [e16]
  exact ⟨rfl, N4, K_4, fq0_4, fq1_4, fq2_4, fq3_4, fq4_4, fq5_4, fq6_4, fq7_4, fq8_4⟩
theorem own_db20 (t0 t1 t2 t3 t4 t5 t6 : Int32) (h0 : ¬ (t0 = (0 : Int32))) (h1 : ¬ (t1 = (0 : Int32))) (h2 : ¬ (t2 < t3)) (h3 : t2 < t4) (h4 : ¬ (t3 < t2)) (h5 : ¬ (t5 < t6)) : t2 = t3 := by
  simp only [Int32.lt_iff_toInt_lt, ← Int32.toInt_inj, Int32.reduceToInt] at *
  omega
theorem ef_sp36 (m : MethodId) (q0 : Addr) (q1 : Int32) : entryFrame m #[(.ref q0), (.int q1)] 3 = mkF m 0 #[rv q0, iv q1, .unset] [] := by first | (simp [entryFrame, mkF, argsToLocals, Value.category]; done) | rfl
set_option maxRecDepth 65536 in
set_option maxHeartbeats 40000000 in
theorem sp36 (l : Launch) (Z : State) (a0 : Array Value) (hw : ∀ d ∈ tables_1, d.before a0 Z = true) (ws : List Jvm.Cond) (o0 o1 o2 o3 : Addr) (u0 : Int32) (u1 : Int32) (u2 : Int32) (c0 : ClassId) (c1 : ClassId) (c2 : ClassId) (h0 : Heap) (n0 : Nat) (Z0 : n0 ≤ h0.size) (F_segmentEnd_o0 : Fld Z h0 o0 OwnK0 "segmentEnd" "[I" (.ref o1)) (F_segmentFirst_o0 : Fld Z h0 o0 OwnK0 "segmentFirst" "[I" (.ref o2)) (F_segments_o0 : Fld Z h0 o0 OwnK0 "segments" "I" (.int 1)) (F_starts_o0 : Fld Z h0 o0 OwnK0 "starts" "[I" (.ref o3)) (V_o1 : Arv Z h0 o1 c0 .int (8 : Int32) [(.int u1), (.int 0), (.int 0), (.int 0), (.int 0), (.int 0), (.int 0), (.int 0)] (.int 0)) (V_o2 : Arv Z h0 o2 c1 .int (8 : Int32) [(.int 0), (.int 1), (.int 0), (.int 0), (.int 0), (.int 0), (.int 0), (.int 0)] (.int 0)) (V_o3 : Arv Z h0 o3 c2 .int (8 : Int32) [(.int u2), (.int 0), (.int 0), (.int 0), (.int 0), (.int 0), (.int 0), (.int 0)] (.int 0)) (hq0 : ¬ (u0 < u2)) (hq1 : ¬ (u0 < u1)) :
    OwnC l Z (⟨OwnK0, "newestCovers", "(I)Z"⟩ : MethodName) prog_48_method_3_code 3 (some .boolean) ws ({ frames := 0, cells := 0, slots := 0, locals := 0 } : Room) #[(.ref o0), (.int u0)] h0 (fun v h L => v = some (.int 0) ∧ h = h0 ∧ L = []) := by
  refine own_entry pf_com_example_wirelens_wirelens_wire_GroupEnds_newestCovers__I_Z (fun m => ef_sp36 m o0 u0) ?_
  intro p e s m below meth c T0 X0 hC e0
  obtain ⟨hx, hby, hml, hown, hnm, hret, hlk, hZ⟩ := hC
  have N0 := Fr.nil n0
  have K0 := Keep.refl h0 []
  refine own_go T0 m 1 #[rv o0, iv u0, .unset] [(.ref o0)] (fun t k => XS.aloadN X0.here hx rfl (hb hby d7_0) rfl rfl k) ?_
  obtain ⟨T1, X1, e1, st1⟩ := getF X0 hx hZ hown (host := "") (Or.inl (own_w hw 27 rfl)) Via.refl e0 F_segments_o0 (g := (mkF m 1 #[rv o0, iv u0, .unset] [(.ref o0)])) rfl rfl (hb hby d7_1)
  refine own_go T1 m 4 #[rv o0, iv u0, .unset] [(.int 1)] (st1) ?_
  refine own_go T1 m 5 #[rv o0, iv u0, .unset] [(.int 1), (.int 1)] (fun t k => XS.iconst X1.here hx rfl (hb hby d7_4) k) ?_
  refine own_go T1 m 6 #[rv o0, iv u0, .unset] [(.int ((1 : Int32) - (1 : Int32)))] (fun t k => XS.isub X1.here hx rfl (hb hby d7_5) rfl k) ?_
  rw [show ((1 : Int32) - (1 : Int32)) = (0 : Int32) from by decide]
  refine own_go T1 m 7 #[rv o0, iv u0, iv 0] [] (fun t k => XS.istoreN X1.here hx rfl (hb hby d7_6) rfl rfl k) ?_
  refine own_go T1 m 8 #[rv o0, iv u0, iv 0] [(.int u0)] (fun t k => XS.iloadN X1.here hx rfl (hb hby d7_7) rfl k) ?_
  refine own_go T1 m 9 #[rv o0, iv u0, iv 0] [(.ref o0), (.int u0)] (fun t k => XS.aloadN X1.here hx rfl (hb hby d7_8) rfl rfl k) ?_
  obtain ⟨T2, X2, e2, st2⟩ := getF X1 hx hZ hown (host := "") (Or.inl (own_w hw 10 rfl)) Via.refl e1 F_starts_o0 (g := (mkF m 9 #[rv o0, iv u0, iv 0] [(.ref o0), (.int u0)])) rfl rfl (hb hby d7_9)
  refine own_go T2 m 12 #[rv o0, iv u0, iv 0] [(.ref o3), (.int u0)] (st2) ?_
  refine own_go T2 m 13 #[rv o0, iv u0, iv 0] [(.ref o0), (.ref o3), (.int u0)] (fun t k => XS.aloadN X2.here hx rfl (hb hby d7_12) rfl rfl k) ?_
  obtain ⟨T3, X3, e3, st3⟩ := getF X2 hx hZ hown (host := "") (Or.inl (own_w hw 14 rfl)) Via.refl e2 F_segmentFirst_o0 (g := (mkF m 13 #[rv o0, iv u0, iv 0] [(.ref o0), (.ref o3), (.int u0)])) rfl rfl (hb hby d7_13)
  refine own_go T3 m 16 #[rv o0, iv u0, iv 0] [(.ref o2), (.ref o3), (.int u0)] (st3) ?_
  refine own_go T3 m 17 #[rv o0, iv u0, iv 0] [(.int 0), (.ref o2), (.ref o3), (.int u0)] (fun t k => XS.iloadN X3.here hx rfl (hb hby d7_16) rfl k) ?_
  refine own_go T3 m 18 #[rv o0, iv u0, iv 0] [(.int 0), (.ref o3), (.int u0)] (own_iaload X3 hx hZ e3 V_o2 (j := (0 : Int32)) ⟨by decide, by decide⟩ rfl (hb hby d7_17)) ?_
  refine own_go T3 m 19 #[rv o0, iv u0, iv 0] [(.int u2), (.int u0)] (own_iaload X3 hx hZ e3 V_o3 (j := (0 : Int32)) ⟨by decide, by decide⟩ rfl (hb hby d7_18)) ?_
  refine own_go T3 m 22 #[rv o0, iv u0, iv 0] [] (fun t k => XS.icmpNo X3.here hx rfl (hb hby d7_19) rfl (flt hq0).1 k) ?_
  refine own_go T3 m 23 #[rv o0, iv u0, iv 0] [(.int u0)] (fun t k => XS.iloadN X3.here hx rfl (hb hby d7_22) rfl k) ?_
  refine own_go T3 m 24 #[rv o0, iv u0, iv 0] [(.ref o0), (.int u0)] (fun t k => XS.aloadN X3.here hx rfl (hb hby d7_23) rfl rfl k) ?_
  obtain ⟨T6, X6, e6, st6⟩ := getF X3 hx hZ hown (host := "") (Or.inl (own_w hw 16 rfl)) Via.refl e3 F_segmentEnd_o0 (g := (mkF m 24 #[rv o0, iv u0, iv 0] [(.ref o0), (.int u0)])) rfl rfl (hb hby d7_24)
  refine own_go T6 m 27 #[rv o0, iv u0, iv 0] [(.ref o1), (.int u0)] (st6) ?_
  refine own_go T6 m 28 #[rv o0, iv u0, iv 0] [(.int 0), (.ref o1), (.int u0)] (fun t k => XS.iloadN X6.here hx rfl (hb hby d7_27) rfl k) ?_
  refine own_go T6 m 29 #[rv o0, iv u0, iv 0] [(.int u1), (.int u0)] (own_iaload X6 hx hZ e6 V_o1 (j := (0 : Int32)) ⟨by decide, by decide⟩ rfl (hb hby d7_28)) ?_
  refine own_go T6 m 36 #[rv o0, iv u0, iv 0] [] (fun t k => XS.icmpYes X6.here hx rfl (pc0 := 29) (pc' := 36) rfl (hb hby d7_29) rfl (flt hq1).2.1 (by decide) (by decide) k) ?_
  refine own_go T6 m 37 #[rv o0, iv u0, iv 0] [(.int 0)] (fun t k => XS.iconst X6.here hx rfl (hb hby d7_36) k) ?_
  refine own_retZ X6 hx hlk hret (by decide) (hb hby d7_37) (by decide) (by decide) ?_
  exact ⟨rfl, e6, rfl⟩
theorem ef_sp35 (m : MethodId) (q0 : Addr) (q1 : Int32) (q2 : Int32) : entryFrame m #[(.ref q0), (.int q1), (.int q2)] 5 = mkF m 0 #[rv q0, iv q1, iv q2, .unset, .unset] [] := by first | (simp [entryFrame, mkF, argsToLocals, Value.category]; done) | rfl
set_option maxRecDepth 65536 in
set_option maxHeartbeats 40000000 in
theorem sp35 (l : Launch) (Z : State) (a0 : Array Value) (hw : ∀ d ∈ tables_1, d.before a0 Z = true) (ws : List Jvm.Cond) (o0 o1 o2 o3 o4 o5 : Addr) (u0 : Int32) (u1 : Int32) (u2 : Int32) (u3 : Int32) (c0 : ClassId) (c1 : ClassId) (c2 : ClassId) (h0 : Heap) (n0 : Nat) (Z0 : n0 ≤ h0.size) (E_o0 : Exa Z h0 o0 OwnK0) (F_count_o0 : Fld Z h0 o0 OwnK0 "count" "I" (.int 1)) (F_cursor_o0 : Fld Z h0 o0 OwnK0 "cursor" "I" (.int (-1))) (F_ends_o0 : Fld Z h0 o0 OwnK0 "ends" "[I" (.ref o1)) (F_lastOpened_o0 : Fld Z h0 o0 OwnK0 "lastOpened" "I" (.int 0)) (F_segmentEnd_o0 : Fld Z h0 o0 OwnK0 "segmentEnd" "[I" (.ref o2)) (F_segmentFirst_o0 : Fld Z h0 o0 OwnK0 "segmentFirst" "[I" (.ref o3)) (F_segmentLimit_o0 : Fld Z h0 o0 OwnK0 "segmentLimit" "[I" (.ref o4)) (F_segments_o0 : Fld Z h0 o0 OwnK0 "segments" "I" (.int 1)) (F_starts_o0 : Fld Z h0 o0 OwnK0 "starts" "[I" (.ref o5)) (V_o2 : Arv Z h0 o2 c0 .int (8 : Int32) [(.int u2), (.int 0), (.int 0), (.int 0), (.int 0), (.int 0), (.int 0), (.int 0)] (.int 0)) (V_o3 : Arv Z h0 o3 c1 .int (8 : Int32) [(.int 0), (.int 1), (.int 0), (.int 0), (.int 0), (.int 0), (.int 0), (.int 0)] (.int 0)) (V_o5 : Arv Z h0 o5 c2 .int (8 : Int32) [(.int u3), (.int 0), (.int 0), (.int 0), (.int 0), (.int 0), (.int 0), (.int 0)] (.int 0)) (ne_o0_o1 : o0 ≠ o1) (ne_o0_o2 : o0 ≠ o2) (ne_o0_o3 : o0 ≠ o3) (ne_o0_o4 : o0 ≠ o4) (ne_o0_o5 : o0 ≠ o5) (g_o0 : n0 ≤ o0) (hq0 : ¬ (u0 < u3)) (hq1 : ¬ (u0 < u2)) :
    OwnC l Z (⟨OwnK0, "find", "(II)I"⟩ : MethodName) prog_48_method_2_code 5 (some .int) ws ({ frames := 1, cells := 0, slots := 0, locals := 14 } : Room) #[(.ref o0), (.int u0), (.int u1)] h0 (fun v h L => v = some (.int (-1)) ∧ Fr n0 L ∧ Keep h0 h [o0] ∧ Fld Z h o0 OwnK0 "ends" "[I" (.ref o1) ∧ Fld Z h o0 OwnK0 "lastOpened" "I" (.int 0) ∧ Fld Z h o0 OwnK0 "segmentEnd" "[I" (.ref o2) ∧ Fld Z h o0 OwnK0 "segmentFirst" "[I" (.ref o3) ∧ Fld Z h o0 OwnK0 "segmentLimit" "[I" (.ref o4) ∧ Fld Z h o0 OwnK0 "starts" "[I" (.ref o5) ∧ Fld Z h o0 OwnK0 "segments" "I" (.int 0) ∧ Fld Z h o0 OwnK0 "count" "I" (.int 0) ∧ Fld Z h o0 OwnK0 "cursor" "I" (.int (-1))) := by
  refine own_entry pf_com_example_wirelens_wirelens_wire_GroupEnds_find__II_I (fun m => ef_sp35 m o0 u0 u1) ?_
  intro p e s m below meth c T0 X0 hC e0
  obtain ⟨hx, hby, hml, hown, hnm, hret, hlk, hZ⟩ := hC
  have N0 := Fr.nil n0
  have K0 := Keep.refl h0 [o0]
  refine own_go T0 m 1 #[rv o0, iv u0, iv u1, .unset, .unset] [(.ref o0)] (fun t k => XS.aloadN X0.here hx rfl (hb hby d6_0) rfl rfl k) ?_
  obtain ⟨T1, X1, e1, st1⟩ := getF X0 hx hZ hown (host := "") (Or.inl (own_w hw 27 rfl)) Via.refl e0 F_segments_o0 (g := (mkF m 1 #[rv o0, iv u0, iv u1, .unset, .unset] [(.ref o0)])) rfl rfl (hb hby d6_1)
  refine own_go T1 m 4 #[rv o0, iv u0, iv u1, .unset, .unset] [(.int 1)] (st1) ?_
  refine own_go T1 m 7 #[rv o0, iv u0, iv u1, .unset, .unset] [] (fun t k => XS.ifNo X1.here hx rfl (hb hby d6_4) rfl ((if0 _ _).trans (tlt (by decide)).2.2.2) k) ?_
  refine own_go T1 m 8 #[rv o0, iv u0, iv u1, .unset, .unset] [(.ref o0)] (fun t k => XS.aloadN X1.here hx rfl (hb hby d6_7) rfl rfl k) ?_
  refine own_go T1 m 9 #[rv o0, iv u0, iv u1, .unset, .unset] [(.int u0), (.ref o0)] (fun t k => XS.iloadN X1.here hx rfl (hb hby d6_8) rfl k) ?_
  obtain ⟨_, T2, L2, X2, ⟨rfl, e2, rfl⟩, st2⟩ := own_private X1 hx hZ (y := (⟨OwnK0, "newestCovers", "(I)Z"⟩ : MethodName)) hown (own_w hw 48 rfl) (own_w hw 49 rfl) (own_w hw 50 rfl) (own_w hw 1 rfl) (own_w hw 2 rfl) (own_w hw 51 rfl) (by decide) (sp36 l Z a0 hw [] o0 o2 o3 o5 u0 u2 u3 c0 c1 c2 h0 n0 Z0 F_segmentEnd_o0 F_segmentFirst_o0 F_segments_o0 F_starts_o0 V_o2 V_o3 V_o5 hq0 hq1) e1 E_o0 0 (argsL := [(.int u0)]) (rest := []) (Ls := #[rv o0, iv u0, iv u1, .unset, .unset]) (by rw [hml]; rfl) (lenOf pd__I_Z rfl) rfl rfl (Nat.le_of_eq rfl) (hb hby d6_9) (by decide) (by decide) (by decide) (by decide)
  replace X2 := own_nil X2
  refine own_go T2 m 12 #[rv o0, iv u0, iv u1, .unset, .unset] [(.int 0)] (st2) ?_
  refine own_go T2 m 15 #[rv o0, iv u0, iv u1, .unset, .unset] [] (fun t k => XS.ifNo X2.here hx rfl (hb hby d6_12) rfl ((if0 _ _).trans (teq (by decide)).2) k) ?_
  refine own_go T2 m 16 #[rv o0, iv u0, iv u1, .unset, .unset] [(.ref o0)] (fun t k => XS.aloadN X2.here hx rfl (hb hby d6_15) rfl rfl k) ?_
  refine own_go T2 m 17 #[rv o0, iv u0, iv u1, .unset, .unset] [(.ref o0), (.ref o0)] (fun t k => XS.dup X2.here hx rfl (hb hby d6_16) rfl rfl k) ?_
  obtain ⟨T3, X3, e3, st3⟩ := getF X2 hx hZ hown (host := "") (Or.inl (own_w hw 27 rfl)) Via.refl e2 F_segments_o0 (g := (mkF m 17 #[rv o0, iv u0, iv u1, .unset, .unset] [(.ref o0), (.ref o0)])) rfl rfl (hb hby d6_17)
  refine own_go T3 m 20 #[rv o0, iv u0, iv u1, .unset, .unset] [(.int 1), (.ref o0)] (st3) ?_
  refine own_go T3 m 21 #[rv o0, iv u0, iv u1, .unset, .unset] [(.int 1), (.int 1), (.ref o0)] (fun t k => XS.iconst X3.here hx rfl (hb hby d6_20) k) ?_
  refine own_go T3 m 22 #[rv o0, iv u0, iv u1, .unset, .unset] [(.int ((1 : Int32) - (1 : Int32))), (.ref o0)] (fun t k => XS.isub X3.here hx rfl (hb hby d6_21) rfl k) ?_
  rw [show ((1 : Int32) - (1 : Int32)) = (0 : Int32) from by decide]
  obtain ⟨T4, h4, X4, e4, W4, st4⟩ := putF X3 hx hZ hown (host := "") (Or.inl (own_w hw 27 rfl)) Via.refl e3 F_segments_o0 E_o0 (Or.inl (own_w hw 28 rfl)) (own_w hw 1 rfl) (ty := .int) (by decide) rfl rfl (g := (mkF m 22 #[rv o0, iv u0, iv u1, .unset, .unset] [(.int 0), (.ref o0)])) rfl rfl (hb hby d6_22)
  have F4 := F_segments_o0.same W4
  have cf5 := E_o0.wr W4
  have cf6 := F_count_o0.other W4 (Or.inr (slot_ne (Or.inl (own_w hw 30 rfl)) (Or.inl (own_w hw 28 rfl)) (by decide) (t := .int) (t' := .int) (by decide) (by decide)))
  have cf7 := F_cursor_o0.other W4 (Or.inr (slot_ne (Or.inl (own_w hw 21 rfl)) (Or.inl (own_w hw 28 rfl)) (by decide) (t := .int) (t' := .int) (by decide) (by decide)))
  have cf8 := F_ends_o0.other W4 (Or.inr (slot_ne (Or.inl (own_w hw 13 rfl)) (Or.inl (own_w hw 28 rfl)) (by decide) (t := (.array .int)) (t' := .int) (by decide) (by decide)))
  have cf9 := F_lastOpened_o0.other W4 (Or.inr (slot_ne (Or.inl (own_w hw 37 rfl)) (Or.inl (own_w hw 28 rfl)) (by decide) (t := .int) (t' := .int) (by decide) (by decide)))
  have cf10 := F_segmentEnd_o0.other W4 (Or.inr (slot_ne (Or.inl (own_w hw 17 rfl)) (Or.inl (own_w hw 28 rfl)) (by decide) (t := (.array .int)) (t' := .int) (by decide) (by decide)))
  have cf11 := F_segmentFirst_o0.other W4 (Or.inr (slot_ne (Or.inl (own_w hw 15 rfl)) (Or.inl (own_w hw 28 rfl)) (by decide) (t := (.array .int)) (t' := .int) (by decide) (by decide)))
  have cf12 := F_segmentLimit_o0.other W4 (Or.inr (slot_ne (Or.inl (own_w hw 19 rfl)) (Or.inl (own_w hw 28 rfl)) (by decide) (t := (.array .int)) (t' := .int) (by decide) (by decide)))
  have cf13 := F_starts_o0.other W4 (Or.inr (slot_ne (Or.inl (own_w hw 11 rfl)) (Or.inl (own_w hw 28 rfl)) (by decide) (t := (.array .int)) (t' := .int) (by decide) (by decide)))
  have cf14 := V_o2.other W4 (Ne.symm ne_o0_o2)
  have cf15 := V_o3.other W4 (Ne.symm ne_o0_o3)
  have cf16 := V_o5.other W4 (Ne.symm ne_o0_o5)
  have Z_4 : n0 ≤ h4.size := Nat.le_trans Z0 (Keep.of_wr W4).1
  have K_4 : Keep h0 h4 [o0] := K0.wr W4 (own_i 0 rfl)
  have N4 := Fr.snoc X4 N0 g_o0
  refine own_go T4 m 25 #[rv o0, iv u0, iv u1, .unset, .unset] [] (st4) ?_
  refine own_go T4 m 26 #[rv o0, iv u0, iv u1, .unset, .unset] [(.ref o0)] (fun t k => XS.aloadN X4.here hx rfl (hb hby d6_25) rfl rfl k) ?_
  refine own_go T4 m 27 #[rv o0, iv u0, iv u1, .unset, .unset] [(.ref o0), (.ref o0)] (fun t k => XS.aloadN X4.here hx rfl (hb hby d6_26) rfl rfl k) ?_
  obtain ⟨T17, X17, e17, st17⟩ := getF X4 hx hZ hown (host := "") (Or.inl (own_w hw 14 rfl)) Via.refl e4 cf11 (g := (mkF m 27 #[rv o0, iv u0, iv u1, .unset, .unset] [(.ref o0), (.ref o0)])) rfl rfl (hb hby d6_27)
  refine own_go T17 m 30 #[rv o0, iv u0, iv u1, .unset, .unset] [(.ref o3), (.ref o0)] (st17) ?_
  refine own_go T17 m 31 #[rv o0, iv u0, iv u1, .unset, .unset] [(.ref o0), (.ref o3), (.ref o0)] (fun t k => XS.aloadN X17.here hx rfl (hb hby d6_30) rfl rfl k) ?_
  obtain ⟨T18, X18, e18, st18⟩ := getF X17 hx hZ hown (host := "") (Or.inl (own_w hw 27 rfl)) Via.refl e17 F4 (g := (mkF m 31 #[rv o0, iv u0, iv u1, .unset, .unset] [(.ref o0), (.ref o3), (.ref o0)])) rfl rfl (hb hby d6_31)
  refine own_go T18 m 34 #[rv o0, iv u0, iv u1, .unset, .unset] [(.int 0), (.ref o3), (.ref o0)] (st18) ?_
  refine own_go T18 m 35 #[rv o0, iv u0, iv u1, .unset, .unset] [(.int 0), (.ref o0)] (own_iaload X18 hx hZ e18 cf15 (j := (0 : Int32)) ⟨by decide, by decide⟩ rfl (hb hby d6_34)) ?_
  obtain ⟨T20, h20, X20, e20, W20, st20⟩ := putF X18 hx hZ hown (host := "") (Or.inl (own_w hw 29 rfl)) Via.refl e18 cf6 cf5 (Or.inl (own_w hw 30 rfl)) (own_w hw 1 rfl) (ty := .int) (by decide) rfl rfl (g := (mkF m 35 #[rv o0, iv u0, iv u1, .unset, .unset] [(.int 0), (.ref o0)])) rfl rfl (hb hby d6_35)
  have F20 := cf6.same W20
  have cf21 := cf5.wr W20
  have cf22 := cf7.other W20 (Or.inr (slot_ne (Or.inl (own_w hw 21 rfl)) (Or.inl (own_w hw 30 rfl)) (by decide) (t := .int) (t' := .int) (by decide) (by decide)))
  have cf23 := cf8.other W20 (Or.inr (slot_ne (Or.inl (own_w hw 13 rfl)) (Or.inl (own_w hw 30 rfl)) (by decide) (t := (.array .int)) (t' := .int) (by decide) (by decide)))
  have cf24 := cf9.other W20 (Or.inr (slot_ne (Or.inl (own_w hw 37 rfl)) (Or.inl (own_w hw 30 rfl)) (by decide) (t := .int) (t' := .int) (by decide) (by decide)))
  have cf25 := cf10.other W20 (Or.inr (slot_ne (Or.inl (own_w hw 17 rfl)) (Or.inl (own_w hw 30 rfl)) (by decide) (t := (.array .int)) (t' := .int) (by decide) (by decide)))
  have cf26 := cf11.other W20 (Or.inr (slot_ne (Or.inl (own_w hw 15 rfl)) (Or.inl (own_w hw 30 rfl)) (by decide) (t := (.array .int)) (t' := .int) (by decide) (by decide)))
  have cf27 := cf12.other W20 (Or.inr (slot_ne (Or.inl (own_w hw 19 rfl)) (Or.inl (own_w hw 30 rfl)) (by decide) (t := (.array .int)) (t' := .int) (by decide) (by decide)))
  have cf28 := cf13.other W20 (Or.inr (slot_ne (Or.inl (own_w hw 11 rfl)) (Or.inl (own_w hw 30 rfl)) (by decide) (t := (.array .int)) (t' := .int) (by decide) (by decide)))
  have cf29 := cf14.other W20 (Ne.symm ne_o0_o2)
  have cf30 := cf15.other W20 (Ne.symm ne_o0_o3)
  have cf31 := cf16.other W20 (Ne.symm ne_o0_o5)
  have cf32 := F4.other W20 (Or.inr (slot_ne (Or.inl (own_w hw 28 rfl)) (Or.inl (own_w hw 30 rfl)) (by decide) (t := .int) (t' := .int) (by decide) (by decide)))
  have Z_20 : n0 ≤ h20.size := Nat.le_trans Z_4 (Keep.of_wr W20).1
  have K_20 : Keep h0 h20 [o0] := K_4.wr W20 (own_i 0 rfl)
  have N20 := Fr.snoc X20 N4 g_o0
  refine own_go T20 m 38 #[rv o0, iv u0, iv u1, .unset, .unset] [] (st20) ?_
  refine own_go T20 m 39 #[rv o0, iv u0, iv u1, .unset, .unset] [(.ref o0)] (fun t k => XS.aloadN X20.here hx rfl (hb hby d6_38) rfl rfl k) ?_
  refine own_go T20 m 40 #[rv o0, iv u0, iv u1, .unset, .unset] [(.int (-1)), (.ref o0)] (fun t k => XS.iconst X20.here hx rfl (hb hby d6_39) k) ?_
  obtain ⟨T33, h33, X33, e33, W33, st33⟩ := putF X20 hx hZ hown (host := "") (Or.inl (own_w hw 20 rfl)) Via.refl e20 cf22 cf21 (Or.inl (own_w hw 21 rfl)) (own_w hw 1 rfl) (ty := .int) (by decide) rfl rfl (g := (mkF m 40 #[rv o0, iv u0, iv u1, .unset, .unset] [(.int (-1)), (.ref o0)])) rfl rfl (hb hby d6_40)
  have F33 := cf22.same W33
  have cf34 := cf21.wr W33
  have cf35 := cf23.other W33 (Or.inr (slot_ne (Or.inl (own_w hw 13 rfl)) (Or.inl (own_w hw 21 rfl)) (by decide) (t := (.array .int)) (t' := .int) (by decide) (by decide)))
  have cf36 := cf24.other W33 (Or.inr (slot_ne (Or.inl (own_w hw 37 rfl)) (Or.inl (own_w hw 21 rfl)) (by decide) (t := .int) (t' := .int) (by decide) (by decide)))
  have cf37 := cf25.other W33 (Or.inr (slot_ne (Or.inl (own_w hw 17 rfl)) (Or.inl (own_w hw 21 rfl)) (by decide) (t := (.array .int)) (t' := .int) (by decide) (by decide)))
  have cf38 := cf26.other W33 (Or.inr (slot_ne (Or.inl (own_w hw 15 rfl)) (Or.inl (own_w hw 21 rfl)) (by decide) (t := (.array .int)) (t' := .int) (by decide) (by decide)))
  have cf39 := cf27.other W33 (Or.inr (slot_ne (Or.inl (own_w hw 19 rfl)) (Or.inl (own_w hw 21 rfl)) (by decide) (t := (.array .int)) (t' := .int) (by decide) (by decide)))
  have cf40 := cf28.other W33 (Or.inr (slot_ne (Or.inl (own_w hw 11 rfl)) (Or.inl (own_w hw 21 rfl)) (by decide) (t := (.array .int)) (t' := .int) (by decide) (by decide)))
  have cf41 := cf29.other W33 (Ne.symm ne_o0_o2)
  have cf42 := cf30.other W33 (Ne.symm ne_o0_o3)
  have cf43 := cf31.other W33 (Ne.symm ne_o0_o5)
  have cf44 := cf32.other W33 (Or.inr (slot_ne (Or.inl (own_w hw 28 rfl)) (Or.inl (own_w hw 21 rfl)) (by decide) (t := .int) (t' := .int) (by decide) (by decide)))
  have cf45 := F20.other W33 (Or.inr (slot_ne (Or.inl (own_w hw 30 rfl)) (Or.inl (own_w hw 21 rfl)) (by decide) (t := .int) (t' := .int) (by decide) (by decide)))
  have Z_33 : n0 ≤ h33.size := Nat.le_trans Z_20 (Keep.of_wr W33).1
  have K_33 : Keep h0 h33 [o0] := K_20.wr W33 (own_i 0 rfl)
  have N33 := Fr.snoc X33 N20 g_o0
  refine own_go T33 m 43 #[rv o0, iv u0, iv u1, .unset, .unset] [] (st33) ?_
  refine own_go T33 m 0 #[rv o0, iv u0, iv u1, .unset, .unset] [] (fun t k => XS.goto X33.here hx rfl (pc0 := 43) (pc' := 0) rfl (hb hby d6_43) (by decide) (by decide) k) ?_
  refine own_go T33 m 1 #[rv o0, iv u0, iv u1, .unset, .unset] [(.ref o0)] (fun t k => XS.aloadN X33.here hx rfl (hb hby d6_0) rfl rfl k) ?_
  obtain ⟨T46, X46, e46, st46⟩ := getF X33 hx hZ hown (host := "") (Or.inl (own_w hw 27 rfl)) Via.refl e33 cf44 (g := (mkF m 1 #[rv o0, iv u0, iv u1, .unset, .unset] [(.ref o0)])) rfl rfl (hb hby d6_1)
  refine own_go T46 m 4 #[rv o0, iv u0, iv u1, .unset, .unset] [(.int 0)] (st46) ?_
  refine own_go T46 m 46 #[rv o0, iv u0, iv u1, .unset, .unset] [] (fun t k => XS.ifYes X46.here hx rfl (pc0 := 4) (pc' := 46) rfl (hb hby d6_4) rfl ((if0 _ _).trans (flt (by decide)).2.2.2) (by decide) (by decide) k) ?_
  refine own_go T46 m 47 #[rv o0, iv u0, iv u1, .unset, .unset] [(.ref o0)] (fun t k => XS.aloadN X46.here hx rfl (hb hby d6_46) rfl rfl k) ?_
  obtain ⟨T47, X47, e47, st47⟩ := getF X46 hx hZ hown (host := "") (Or.inl (own_w hw 27 rfl)) Via.refl e46 cf44 (g := (mkF m 47 #[rv o0, iv u0, iv u1, .unset, .unset] [(.ref o0)])) rfl rfl (hb hby d6_47)
  refine own_go T47 m 50 #[rv o0, iv u0, iv u1, .unset, .unset] [(.int 0)] (st47) ?_
  refine own_go T47 m 53 #[rv o0, iv u0, iv u1, .unset, .unset] [] (fun t k => XS.ifNo X47.here hx rfl (hb hby d6_50) rfl ((if0 _ _).trans (teq (by decide)).2) k) ?_
  refine own_go T47 m 54 #[rv o0, iv u0, iv u1, .unset, .unset] [(.int (-1))] (fun t k => XS.iconst X47.here hx rfl (hb hby d6_53) k) ?_
  refine own_go T47 m 62 #[rv o0, iv u0, iv u1, .unset, .unset] [(.int (-1))] (fun t k => XS.goto X47.here hx rfl (pc0 := 54) (pc' := 62) rfl (hb hby d6_54) (by decide) (by decide) k) ?_
  refine own_go T47 m 63 #[rv o0, iv u0, iv u1, iv (-1), .unset] [] (fun t k => XS.istoreN X47.here hx rfl (hb hby d6_62) rfl rfl k) ?_
  refine own_go T47 m 64 #[rv o0, iv u0, iv u1, iv (-1), .unset] [(.int (-1))] (fun t k => XS.iloadN X47.here hx rfl (hb hby d6_63) rfl k) ?_
  refine own_go T47 m 67 #[rv o0, iv u0, iv u1, iv (-1), .unset] [] (fun t k => XS.ifNo X47.here hx rfl (hb hby d6_64) rfl ((if0 _ _).trans (tlt (by decide)).2.1) k) ?_
  refine own_go T47 m 68 #[rv o0, iv u0, iv u1, iv (-1), .unset] [(.int (-1))] (fun t k => XS.iconst X47.here hx rfl (hb hby d6_67) k) ?_
  refine own_go T47 m 70 #[rv o0, iv u0, iv u1, iv (-1), iv (-1)] [] (fun t k => XS.istore X47.here hx rfl (hb hby d6_68) rfl rfl k) ?_
  refine own_go T47 m 113 #[rv o0, iv u0, iv u1, iv (-1), iv (-1)] [] (fun t k => XS.goto X47.here hx rfl (pc0 := 70) (pc' := 113) rfl (hb hby d6_70) (by decide) (by decide) k) ?_
  refine own_go T47 m 115 #[rv o0, iv u0, iv u1, iv (-1), iv (-1)] [(.int (-1))] (fun t k => XS.iload X47.here hx rfl (hb hby d6_113) rfl k) ?_
  refine own_retI X47 hx hlk hret (hb hby d6_115) (by decide) (by decide) ?_
  rw [e47]
  exact ⟨rfl, N33, K_33, cf35, cf36, cf37, cf38, cf39, cf40, cf44, cf45, F33⟩
theorem ef_rm0 (m : MethodId) (q0 : Int32) (q1 : Int32) (q2 : Int32) (q3 : Int32) (q4 : Int32) (q5 : Int32) : entryFrame m #[(.int q0), (.int q1), (.int q2), (.int q3), (.int q4), (.int q5)] maxLocals = mkF m 0 #[iv q0, iv q1, iv q2, iv q3, iv q4, iv q5, .unset, .unset, .unset, .unset, .unset, .unset, .unset, .unset, .unset, .unset] [] := by first | (simp [entryFrame, mkF, argsToLocals, Value.category, maxLocals]; done) | rfl
set_option maxRecDepth 65536 in
set_option maxHeartbeats 40000000 in
theorem rm0 (l : Launch) (Z : State) (a0 : Array Value) (hw : ∀ d ∈ tables_1, d.before a0 Z = true) (ws : List Jvm.Cond) (x0 : Int32) (x1 : Int32) (x2 : Int32) (x3 : Int32) (x4 : Int32) (x5 : Int32) (h0 : Heap) (n0 : Nat) (Z0 : n0 ≤ h0.size) :
    OwnC l Z x code maxLocals ret ws room_1 #[(.int x0), (.int x1), (.int x2), (.int x3), (.int x4), (.int x5)] h0 (fun v h L => v = some (.int 1) ∧ Fr n0 L) := by
  refine own_entry pf_com_example_wirelens_wirelens_wire_GroupEndsEndReadPinLaw_law__IIIIII_Z (fun m => ef_rm0 m x0 x1 x2 x3 x4 x5) ?_
  intro p e s m below meth c T0 X0 hC e0
  obtain ⟨hx, hby, hml, hown, hnm, hret, hlk, hZ⟩ := hC
  have hml : c.maxLocals = 16 := hml
  have N0 := Fr.nil n0
  refine own_go T0 m 2 #[iv x0, iv x1, iv x2, iv x3, iv x4, iv x5, .unset, .unset, .unset, .unset, .unset, .unset, .unset, .unset, .unset, .unset] [(.int x5)] (fun t k => XS.iload X0.here hx rfl (hb hby at_0) rfl k) ?_
  refine own_go T0 m 3 #[iv x0, iv x1, iv x2, iv x3, iv x4, iv x5, .unset, .unset, .unset, .unset, .unset, .unset, .unset, .unset, .unset, .unset] [(.int 1), (.int x5)] (fun t k => XS.iconst X0.here hx rfl (hb hby at_2) k) ?_
  refine own_go T0 m 4 #[iv x0, iv x1, iv x2, iv x3, iv x4, iv x5, .unset, .unset, .unset, .unset, .unset, .unset, .unset, .unset, .unset, .unset] [(.int (x5 &&& (1 : Int32)))] (fun t k => XS.iand X0.here hx rfl (hb hby at_3) rfl k) ?_
  by_cases hc4_1 : (x5 &&& (1 : Int32)) = (0 : Int32)
  · refine own_go T0 m 11 #[iv x0, iv x1, iv x2, iv x3, iv x4, iv x5, .unset, .unset, .unset, .unset, .unset, .unset, .unset, .unset, .unset, .unset] [] (fun t k => XS.ifYes X0.here hx rfl (pc0 := 4) (pc' := 11) rfl (hb hby at_4) rfl ((if0 _ _).trans (teq hc4_1).1) (by decide) (by decide) k) ?_
    refine own_go T0 m 12 #[iv x0, iv x1, iv x2, iv x3, iv x4, iv x5, .unset, .unset, .unset, .unset, .unset, .unset, .unset, .unset, .unset, .unset] [(.int 0)] (fun t k => XS.iconst X0.here hx rfl (hb hby at_11) k) ?_
    refine own_go T0 m 14 #[iv x0, iv x1, iv x2, iv x3, iv x4, iv x5, iv 0, .unset, .unset, .unset, .unset, .unset, .unset, .unset, .unset, .unset] [] (fun t k => XS.istore X0.here hx rfl (hb hby at_12) rfl rfl k) ?_
    refine own_go T0 m 16 #[iv x0, iv x1, iv x2, iv x3, iv x4, iv x5, iv 0, .unset, .unset, .unset, .unset, .unset, .unset, .unset, .unset, .unset] [(.int x5)] (fun t k => XS.iload X0.here hx rfl (hb hby at_14) rfl k) ?_
    refine own_go T0 m 17 #[iv x0, iv x1, iv x2, iv x3, iv x4, iv x5, iv 0, .unset, .unset, .unset, .unset, .unset, .unset, .unset, .unset, .unset] [(.int 2), (.int x5)] (fun t k => XS.iconst X0.here hx rfl (hb hby at_16) k) ?_
    refine own_go T0 m 18 #[iv x0, iv x1, iv x2, iv x3, iv x4, iv x5, iv 0, .unset, .unset, .unset, .unset, .unset, .unset, .unset, .unset, .unset] [(.int (x5 &&& (2 : Int32)))] (fun t k => XS.iand X0.here hx rfl (hb hby at_17) rfl k) ?_
    by_cases hc18_2 : (x5 &&& (2 : Int32)) = (0 : Int32)
    · refine own_go T0 m 25 #[iv x0, iv x1, iv x2, iv x3, iv x4, iv x5, iv 0, .unset, .unset, .unset, .unset, .unset, .unset, .unset, .unset, .unset] [] (fun t k => XS.ifYes X0.here hx rfl (pc0 := 18) (pc' := 25) rfl (hb hby at_18) rfl ((if0 _ _).trans (teq hc18_2).1) (by decide) (by decide) k) ?_
      refine own_go T0 m 26 #[iv x0, iv x1, iv x2, iv x3, iv x4, iv x5, iv 0, .unset, .unset, .unset, .unset, .unset, .unset, .unset, .unset, .unset] [(.int 0)] (fun t k => XS.iconst X0.here hx rfl (hb hby at_25) k) ?_
      refine own_go T0 m 28 #[iv x0, iv x1, iv x2, iv x3, iv x4, iv x5, iv 0, iv 0, .unset, .unset, .unset, .unset, .unset, .unset, .unset, .unset] [] (fun t k => XS.istore X0.here hx rfl (hb hby at_26) rfl rfl k) ?_
      refine own_go T0 m 30 #[iv x0, iv x1, iv x2, iv x3, iv x4, iv x5, iv 0, iv 0, .unset, .unset, .unset, .unset, .unset, .unset, .unset, .unset] [(.int x5)] (fun t k => XS.iload X0.here hx rfl (hb hby at_28) rfl k) ?_
      refine own_go T0 m 31 #[iv x0, iv x1, iv x2, iv x3, iv x4, iv x5, iv 0, iv 0, .unset, .unset, .unset, .unset, .unset, .unset, .unset, .unset] [(.int 4), (.int x5)] (fun t k => XS.iconst X0.here hx rfl (hb hby at_30) k) ?_
      refine own_go T0 m 32 #[iv x0, iv x1, iv x2, iv x3, iv x4, iv x5, iv 0, iv 0, .unset, .unset, .unset, .unset, .unset, .unset, .unset, .unset] [(.int (x5 &&& (4 : Int32)))] (fun t k => XS.iand X0.here hx rfl (hb hby at_31) rfl k) ?_
      have seg42 : ∀ (v8 : Int32), OwnG p.tables e below s (fun v h L => v = some (.int 1) ∧ Fr n0 L) room_1.cells room_1.slots (T0.setTop (mkF m 42 #[iv x0, iv x1, iv x2, iv x3, iv x4, iv x5, iv 0, iv 0, iv v8, .unset, .unset, .unset, .unset, .unset, .unset, .unset] [])) := by
        intro v8
        refine own_go T0 m 44 #[iv x0, iv x1, iv x2, iv x3, iv x4, iv x5, iv 0, iv 0, iv v8, .unset, .unset, .unset, .unset, .unset, .unset, .unset] [(.int x5)] (fun t k => XS.iload X0.here hx rfl (hb hby at_42) rfl k) ?_
        refine own_go T0 m 46 #[iv x0, iv x1, iv x2, iv x3, iv x4, iv x5, iv 0, iv 0, iv v8, .unset, .unset, .unset, .unset, .unset, .unset, .unset] [(.int 8), (.int x5)] (fun t k => XS.bipush X0.here hx rfl (hb hby at_44) k) ?_
        refine own_go T0 m 47 #[iv x0, iv x1, iv x2, iv x3, iv x4, iv x5, iv 0, iv 0, iv v8, .unset, .unset, .unset, .unset, .unset, .unset, .unset] [(.int (x5 &&& (8 : Int32)))] (fun t k => XS.iand X0.here hx rfl (hb hby at_46) rfl k) ?_
        have seg63 : ∀ (v9 : Int32), OwnG p.tables e below s (fun v h L => v = some (.int 1) ∧ Fr n0 L) room_1.cells room_1.slots (T0.setTop (mkF m 63 #[iv x0, iv x1, iv x2, iv x3, iv x4, iv x5, iv 0, iv 0, iv v8, iv v9, .unset, .unset, .unset, .unset, .unset, .unset] [])) := by
          intro v9
          refine own_go T0 m 65 #[iv x0, iv x1, iv x2, iv x3, iv x4, iv x5, iv 0, iv 0, iv v8, iv v9, .unset, .unset, .unset, .unset, .unset, .unset] [(.int x5)] (fun t k => XS.iload X0.here hx rfl (hb hby at_63) rfl k) ?_
          refine own_go T0 m 67 #[iv x0, iv x1, iv x2, iv x3, iv x4, iv x5, iv 0, iv 0, iv v8, iv v9, .unset, .unset, .unset, .unset, .unset, .unset] [(.int 16), (.int x5)] (fun t k => XS.bipush X0.here hx rfl (hb hby at_65) k) ?_
          refine own_go T0 m 68 #[iv x0, iv x1, iv x2, iv x3, iv x4, iv x5, iv 0, iv 0, iv v8, iv v9, .unset, .unset, .unset, .unset, .unset, .unset] [(.int (x5 &&& (16 : Int32)))] (fun t k => XS.iand X0.here hx rfl (hb hby at_67) rfl k) ?_
          have seg86 : ∀ (v10 : Int32), OwnG p.tables e below s (fun v h L => v = some (.int 1) ∧ Fr n0 L) room_1.cells room_1.slots (T0.setTop (mkF m 86 #[iv x0, iv x1, iv x2, iv x3, iv x4, iv x5, iv 0, iv 0, iv v8, iv v9, iv v10, .unset, .unset, .unset, .unset, .unset] [])) := by
            intro v10
            obtain ⟨T6, h6, X6, e6, E6, A6, D6, -, st6⟩ := newO X0 hx hZ hown (own_w hw 0 rfl) (own_w hw 1 rfl) (own_w hw 2 rfl) e0 (g := (mkF m 86 #[iv x0, iv x1, iv x2, iv x3, iv x4, iv x5, iv 0, iv 0, iv v8, iv v9, iv v10, .unset, .unset, .unset, .unset, .unset] [])) rfl (hb hby at_86) (by decide) (by decide)
            obtain ⟨b6, g6⟩ : ∃ z, z = h0.size := ⟨_, rfl⟩
            rw [← g6] at A6 D6 st6
            have g_b6 : n0 ≤ b6 := Nat.le_trans Z0 (Nat.le_of_eq g6.symm)
            have Z_6 : n0 ≤ h6.size := Nat.le_trans Z0 E6.1
            have F_starts_6 : Fld Z h6 b6 OwnK0 "starts" "[I" .null := D6 (Or.inl (own_w hw 11 rfl)) (ty := (.array .int)) (by decide)
            have F_ends_6 : Fld Z h6 b6 OwnK0 "ends" "[I" .null := D6 (Or.inl (own_w hw 13 rfl)) (ty := (.array .int)) (by decide)
            have F_segmentFirst_6 : Fld Z h6 b6 OwnK0 "segmentFirst" "[I" .null := D6 (Or.inl (own_w hw 15 rfl)) (ty := (.array .int)) (by decide)
            have F_segmentEnd_6 : Fld Z h6 b6 OwnK0 "segmentEnd" "[I" .null := D6 (Or.inl (own_w hw 17 rfl)) (ty := (.array .int)) (by decide)
            have F_segmentLimit_6 : Fld Z h6 b6 OwnK0 "segmentLimit" "[I" .null := D6 (Or.inl (own_w hw 19 rfl)) (ty := (.array .int)) (by decide)
            have F_cursor_6 : Fld Z h6 b6 OwnK0 "cursor" "I" (.int 0) := D6 (Or.inl (own_w hw 21 rfl)) (ty := .int) (by decide)
            have F_segments_6 : Fld Z h6 b6 OwnK0 "segments" "I" (.int 0) := D6 (Or.inl (own_w hw 28 rfl)) (ty := .int) (by decide)
            have F_count_6 : Fld Z h6 b6 OwnK0 "count" "I" (.int 0) := D6 (Or.inl (own_w hw 30 rfl)) (ty := .int) (by decide)
            have F_lastOpened_6 : Fld Z h6 b6 OwnK0 "lastOpened" "I" (.int 0) := D6 (Or.inl (own_w hw 37 rfl)) (ty := .int) (by decide)
            refine own_go T6 m 89 #[iv x0, iv x1, iv x2, iv x3, iv x4, iv x5, iv 0, iv 0, iv v8, iv v9, iv v10, .unset, .unset, .unset, .unset, .unset] [(.ref b6)] (st6) ?_
            refine own_go T6 m 90 #[iv x0, iv x1, iv x2, iv x3, iv x4, iv x5, iv 0, iv 0, iv v8, iv v9, iv v10, .unset, .unset, .unset, .unset, .unset] [(.ref b6), (.ref b6)] (fun t k => XS.dup X6.here hx rfl (hb hby at_89) rfl rfl k) ?_
            obtain ⟨_, T7, L7, X7, ⟨w0_7, w1_7, w2_7, w3_7, w4_7, kw0_7, kw1_7, kw2_7, kw3_7, kw4_7, rfl, Nq7, Kq7, syw0_7, syw1_7, syw2_7, syw3_7, syw4_7, fq0_7, fq1_7, fq2_7, fq3_7, fq4_7, fq5_7, fq6_7, fq7_7, fq8_7, fq9_7, fq10_7, fq11_7, fq12_7, fq13_7, fq14_7, fq15_7, fq16_7, fq17_7, fq18_7, fq19_7, fq20_7, fq21_7, fq22_7, fq23_7⟩, st7⟩ := own_init X6 hx hZ (y := (⟨OwnK0, "<init>", "()V"⟩ : MethodName)) rfl hown (own_w hw 3 rfl) (own_w hw 4 rfl) (own_w hw 2 rfl) (own_w hw 5 rfl) (by decide) (sp1 l Z a0 hw [] b6 h6 n0 Z_6 A6 F_count_6 F_cursor_6 F_ends_6 F_lastOpened_6 F_segmentEnd_6 F_segmentFirst_6 F_segmentLimit_6 F_segments_6 F_starts_6 g_b6) e6 (a := b6) 1 (argsL := []) (rest := [(.ref b6)]) (Ls := #[iv x0, iv x1, iv x2, iv x3, iv x4, iv x5, iv 0, iv 0, iv v8, iv v9, iv v10, .unset, .unset, .unset, .unset, .unset]) (by rw [hml]; rfl) (lenOf pd___V rfl) rfl rfl (Nat.le_of_eq rfl) (hb hby at_90) (by decide) (by decide) (by decide) (by decide)
            have g_w0_7 : n0 ≤ w0_7 := syw0_7.2
            have ne_b6_w0_7 : b6 ≠ w0_7 := Nat.ne_of_lt (Nat.lt_of_lt_of_le A6.lt syw0_7.1)
            have g_w1_7 : n0 ≤ w1_7 := syw1_7.2
            have ne_b6_w1_7 : b6 ≠ w1_7 := Nat.ne_of_lt (Nat.lt_of_lt_of_le A6.lt syw1_7.1)
            have g_w2_7 : n0 ≤ w2_7 := syw2_7.2
            have ne_b6_w2_7 : b6 ≠ w2_7 := Nat.ne_of_lt (Nat.lt_of_lt_of_le A6.lt syw2_7.1)
            have g_w3_7 : n0 ≤ w3_7 := syw3_7.2
            have ne_b6_w3_7 : b6 ≠ w3_7 := Nat.ne_of_lt (Nat.lt_of_lt_of_le A6.lt syw3_7.1)
            have g_w4_7 : n0 ≤ w4_7 := syw4_7.2
            have ne_b6_w4_7 : b6 ≠ w4_7 := Nat.ne_of_lt (Nat.lt_of_lt_of_le A6.lt syw4_7.1)
            have N7 := Fr.app N0 Nq7
            have cf8 := A6.keep Kq7
            have Z_7 : n0 ≤ T7.heap.size := Nat.le_trans Z_6 Kq7.1
            refine own_go T7 m 93 #[iv x0, iv x1, iv x2, iv x3, iv x4, iv x5, iv 0, iv 0, iv v8, iv v9, iv v10, .unset, .unset, .unset, .unset, .unset] [(.ref b6)] (st7) ?_
            refine own_go T7 m 95 #[iv x0, iv x1, iv x2, iv x3, iv x4, iv x5, iv 0, iv 0, iv v8, iv v9, iv v10, rv b6, .unset, .unset, .unset, .unset] [] (fun t k => XS.astore X7.here hx rfl (hb hby at_93) rfl rfl rfl k) ?_
            refine own_go T7 m 97 #[iv x0, iv x1, iv x2, iv x3, iv x4, iv x5, iv 0, iv 0, iv v8, iv v9, iv v10, rv b6, .unset, .unset, .unset, .unset] [(.ref b6)] (fun t k => XS.aload X7.here hx rfl (hb hby at_95) rfl rfl k) ?_
            refine own_go T7 m 98 #[iv x0, iv x1, iv x2, iv x3, iv x4, iv x5, iv 0, iv 0, iv v8, iv v9, iv v10, rv b6, .unset, .unset, .unset, .unset] [(.int x3), (.ref b6)] (fun t k => XS.iloadN X7.here hx rfl (hb hby at_97) rfl k) ?_
            obtain ⟨_, T9, L9, X9, ⟨rfl, Nq9, Kq9, fq0_9, fq1_9, fq2_9, fq3_9, fq4_9, fq5_9, fq6_9, fq7_9, fq8_9, fq9_9, fq10_9⟩, st9⟩ := own_virtual X7 hx hZ (y := (⟨OwnK0, "beginRead", "(I)V"⟩ : MethodName)) (z := (⟨OwnK0, "beginRead", "(I)V"⟩ : MethodName)) hown (own_w hw 22 rfl) (own_w hw 23 rfl) (notFace_of_selects (args := #[]) (mvT hZ (own_w hw 25 rfl))) (own_w hw 25 rfl) (own_w hw 24 rfl) (own_w hw 2 rfl) (own_w hw 26 rfl) (by decide) (sp2 l Z a0 hw [] b6 w0_7 w1_7 w2_7 w3_7 w4_7 x3 kw2_7 kw4_7 T7.heap n0 Z_7 cf8 fq10_7 fq23_7 fq16_7 fq11_7 fq20_7 fq18_7 fq22_7 fq12_7 fq14_7 fq17_7 fq21_7 ne_b6_w0_7 ne_b6_w1_7 ne_b6_w2_7 ne_b6_w3_7 ne_b6_w4_7 fq1_7 fq3_7 fq4_7 fq6_7 fq7_7 fq8_7 fq9_7 g_b6 g_w2_7 g_w4_7) rfl cf8 0 (argsL := [(.int x3)]) (rest := []) (Ls := #[iv x0, iv x1, iv x2, iv x3, iv x4, iv x5, iv 0, iv 0, iv v8, iv v9, iv v10, rv b6, .unset, .unset, .unset, .unset]) (by rw [hml]; rfl) (lenOf pd__I_V rfl) rfl rfl (Nat.le_of_eq rfl) (hb hby at_98) (by decide) (by decide) (by decide) (by decide)
            have N9 := Fr.app N7 Nq9
            have cf10 := cf8.keep Kq9
            have cf11 := fq13_7.keep Kq9 (ninS (Ne.symm ne_b6_w0_7) (ninS fq1_7 (ninS fq3_7 nin0)))
            have cf12 := fq15_7.keep Kq9 (ninS (Ne.symm ne_b6_w1_7) (ninS fq4_7 (ninS fq6_7 nin0)))
            have cf13 := fq19_7.keep Kq9 (ninS (Ne.symm ne_b6_w3_7) (ninS (Ne.symm fq7_7) (ninS fq9_7 nin0)))
            have Z_9 : n0 ≤ T9.heap.size := Nat.le_trans Z_7 Kq9.1
            refine own_go T9 m 101 #[iv x0, iv x1, iv x2, iv x3, iv x4, iv x5, iv 0, iv 0, iv v8, iv v9, iv v10, rv b6, .unset, .unset, .unset, .unset] [] (st9) ?_
            refine own_go T9 m 103 #[iv x0, iv x1, iv x2, iv x3, iv x4, iv x5, iv 0, iv 0, iv v8, iv v9, iv v10, rv b6, .unset, .unset, .unset, .unset] [(.int 0)] (fun t k => XS.iload X9.here hx rfl (hb hby at_101) rfl k) ?_
            refine own_go T9 m 113 #[iv x0, iv x1, iv x2, iv x3, iv x4, iv x5, iv 0, iv 0, iv v8, iv v9, iv v10, rv b6, .unset, .unset, .unset, .unset] [] (fun t k => XS.ifYes X9.here hx rfl (pc0 := 103) (pc' := 113) rfl (hb hby at_103) rfl ((if0 _ _).trans (teq (by decide)).1) (by decide) (by decide) k) ?_
            refine own_go T9 m 115 #[iv x0, iv x1, iv x2, iv x3, iv x4, iv x5, iv 0, iv 0, iv v8, iv v9, iv v10, rv b6, .unset, .unset, .unset, .unset] [(.int 0)] (fun t k => XS.iload X9.here hx rfl (hb hby at_113) rfl k) ?_
            refine own_go T9 m 131 #[iv x0, iv x1, iv x2, iv x3, iv x4, iv x5, iv 0, iv 0, iv v8, iv v9, iv v10, rv b6, .unset, .unset, .unset, .unset] [] (fun t k => XS.ifYes X9.here hx rfl (pc0 := 115) (pc' := 131) rfl (hb hby at_115) rfl ((if0 _ _).trans (teq (by decide)).1) (by decide) (by decide) k) ?_
            refine own_go T9 m 133 #[iv x0, iv x1, iv x2, iv x3, iv x4, iv x5, iv 0, iv 0, iv v8, iv v9, iv v10, rv b6, .unset, .unset, .unset, .unset] [(.ref b6)] (fun t k => XS.aload X9.here hx rfl (hb hby at_131) rfl rfl k) ?_
            refine own_go T9 m 135 #[iv x0, iv x1, iv x2, iv x3, iv x4, iv x5, iv 0, iv 0, iv v8, iv v9, iv v10, rv b6, .unset, .unset, .unset, .unset] [(.int v9), (.ref b6)] (fun t k => XS.iload X9.here hx rfl (hb hby at_133) rfl k) ?_
            obtain ⟨_, T14, L14, X14, ⟨rfl, Nq14, Kq14, fq0_14, fq1_14, fq2_14, fq3_14, fq4_14, fq5_14, fq6_14, fq7_14, fq8_14⟩, st14⟩ := own_virtual X9 hx hZ (y := (⟨OwnK0, "endRead", "(I)V"⟩ : MethodName)) (z := (⟨OwnK0, "endRead", "(I)V"⟩ : MethodName)) hown (own_w hw 38 rfl) (own_w hw 39 rfl) (notFace_of_selects (args := #[]) (mvT hZ (own_w hw 41 rfl))) (own_w hw 41 rfl) (own_w hw 40 rfl) (own_w hw 2 rfl) (own_w hw 42 rfl) (by decide) (sp3 l Z a0 hw [] b6 w1_7 w3_7 w2_7 w4_7 w0_7 v9 kw2_7 T9.heap n0 Z_9 cf10 fq0_9 fq10_9 fq1_9 fq2_9 fq3_9 fq4_9 fq5_9 fq9_9 fq6_9 fq7_9 ne_b6_w1_7 ne_b6_w3_7 ne_b6_w2_7 ne_b6_w4_7 ne_b6_w0_7 g_b6) rfl cf10 0 (argsL := [(.int v9)]) (rest := []) (Ls := #[iv x0, iv x1, iv x2, iv x3, iv x4, iv x5, iv 0, iv 0, iv v8, iv v9, iv v10, rv b6, .unset, .unset, .unset, .unset]) (by rw [hml]; rfl) (lenOf pd__I_V rfl) rfl rfl (Nat.le_of_eq rfl) (hb hby at_135) (by decide) (by decide) (by decide) (by decide)
            have N14 := Fr.app N9 Nq14
            have cf15 := cf10.keep Kq14
            have cf16 := cf11.keep Kq14 (ninS (Ne.symm ne_b6_w0_7) nin0)
            have cf17 := cf12.keep Kq14 (ninS (Ne.symm ne_b6_w1_7) nin0)
            have cf18 := cf13.keep Kq14 (ninS (Ne.symm ne_b6_w3_7) nin0)
            have cf19 := fq7_9.keep Kq14 (ninS (Ne.symm ne_b6_w2_7) nin0)
            have cf20 := fq8_9.keep Kq14 (ninS (Ne.symm ne_b6_w4_7) nin0)
            have Z_14 : n0 ≤ T14.heap.size := Nat.le_trans Z_9 Kq14.1
            refine own_go T14 m 138 #[iv x0, iv x1, iv x2, iv x3, iv x4, iv x5, iv 0, iv 0, iv v8, iv v9, iv v10, rv b6, .unset, .unset, .unset, .unset] [] (st14) ?_
            refine own_go T14 m 140 #[iv x0, iv x1, iv x2, iv x3, iv x4, iv x5, iv 0, iv 0, iv v8, iv v9, iv v10, rv b6, .unset, .unset, .unset, .unset] [(.ref b6)] (fun t k => XS.aload X14.here hx rfl (hb hby at_138) rfl rfl k) ?_
            refine own_go T14 m 142 #[iv x0, iv x1, iv x2, iv x3, iv x4, iv x5, iv 0, iv 0, iv v8, iv v9, iv v10, rv b6, .unset, .unset, .unset, .unset] [(.int v8), (.ref b6)] (fun t k => XS.iload X14.here hx rfl (hb hby at_140) rfl k) ?_
            refine own_go T14 m 144 #[iv x0, iv x1, iv x2, iv x3, iv x4, iv x5, iv 0, iv 0, iv v8, iv v9, iv v10, rv b6, .unset, .unset, .unset, .unset] [(.int v10), (.int v8), (.ref b6)] (fun t k => XS.iload X14.here hx rfl (hb hby at_142) rfl k) ?_
            obtain ⟨_, T21, L21, X21, ⟨rfl, e21, rfl⟩, st21⟩ := own_virtual X14 hx hZ (y := (⟨OwnK0, "find", "(II)I"⟩ : MethodName)) (z := (⟨OwnK0, "find", "(II)I"⟩ : MethodName)) hown (own_w hw 43 rfl) (own_w hw 44 rfl) (notFace_of_selects (args := #[]) (mvT hZ (own_w hw 46 rfl))) (own_w hw 46 rfl) (own_w hw 45 rfl) (own_w hw 2 rfl) (own_w hw 47 rfl) (by decide) (sp4 l Z a0 hw [] b6 v8 v10 T14.heap n0 Z_14 fq8_14) rfl cf15 0 (argsL := [(.int v8), (.int v10)]) (rest := []) (Ls := #[iv x0, iv x1, iv x2, iv x3, iv x4, iv x5, iv 0, iv 0, iv v8, iv v9, iv v10, rv b6, .unset, .unset, .unset, .unset]) (by rw [hml]; rfl) (lenOf pd__II_I rfl) rfl rfl (Nat.le_of_eq rfl) (hb hby at_144) (by decide) (by decide) (by decide) (by decide)
            replace X21 := own_nil X21
            refine own_go T21 m 147 #[iv x0, iv x1, iv x2, iv x3, iv x4, iv x5, iv 0, iv 0, iv v8, iv v9, iv v10, rv b6, .unset, .unset, .unset, .unset] [(.int (-1))] (st21) ?_
            refine own_go T21 m 149 #[iv x0, iv x1, iv x2, iv x3, iv x4, iv x5, iv 0, iv 0, iv v8, iv v9, iv v10, rv b6, iv (-1), .unset, .unset, .unset] [] (fun t k => XS.istore X21.here hx rfl (hb hby at_147) rfl rfl k) ?_
            refine own_go T21 m 151 #[iv x0, iv x1, iv x2, iv x3, iv x4, iv x5, iv 0, iv 0, iv v8, iv v9, iv v10, rv b6, iv (-1), .unset, .unset, .unset] [(.int v8)] (fun t k => XS.iload X21.here hx rfl (hb hby at_149) rfl k) ?_
            refine own_go T21 m 152 #[iv x0, iv x1, iv x2, iv x3, iv x4, iv x5, iv 0, iv 0, iv v8, iv v9, iv v10, rv b6, iv (-1), .unset, .unset, .unset] [(.int x0), (.int v8)] (fun t k => XS.iloadN X21.here hx rfl (hb hby at_151) rfl k) ?_
            by_cases hc152_22 : v8 < x0
            · refine own_go T21 m 166 #[iv x0, iv x1, iv x2, iv x3, iv x4, iv x5, iv 0, iv 0, iv v8, iv v9, iv v10, rv b6, iv (-1), .unset, .unset, .unset] [] (fun t k => XS.icmpYes X21.here hx rfl (pc0 := 152) (pc' := 166) rfl (hb hby at_152) rfl (tlt hc152_22).1 (by decide) (by decide) k) ?_
              refine own_go T21 m 167 #[iv x0, iv x1, iv x2, iv x3, iv x4, iv x5, iv 0, iv 0, iv v8, iv v9, iv v10, rv b6, iv (-1), .unset, .unset, .unset] [(.int 0)] (fun t k => XS.iconst X21.here hx rfl (hb hby at_166) k) ?_
              refine own_go T21 m 169 #[iv x0, iv x1, iv x2, iv x3, iv x4, iv x5, iv 0, iv 0, iv v8, iv v9, iv v10, rv b6, iv (-1), iv 0, .unset, .unset] [] (fun t k => XS.istore X21.here hx rfl (hb hby at_167) rfl rfl k) ?_
              refine own_go T21 m 171 #[iv x0, iv x1, iv x2, iv x3, iv x4, iv x5, iv 0, iv 0, iv v8, iv v9, iv v10, rv b6, iv (-1), iv 0, .unset, .unset] [(.int 0)] (fun t k => XS.iload X21.here hx rfl (hb hby at_169) rfl k) ?_
              refine own_go T21 m 189 #[iv x0, iv x1, iv x2, iv x3, iv x4, iv x5, iv 0, iv 0, iv v8, iv v9, iv v10, rv b6, iv (-1), iv 0, .unset, .unset] [] (fun t k => XS.ifYes X21.here hx rfl (pc0 := 171) (pc' := 189) rfl (hb hby at_171) rfl ((if0 _ _).trans (teq (by decide)).1) (by decide) (by decide) k) ?_
              refine own_go T21 m 190 #[iv x0, iv x1, iv x2, iv x3, iv x4, iv x5, iv 0, iv 0, iv v8, iv v9, iv v10, rv b6, iv (-1), iv 0, .unset, .unset] [(.int 0)] (fun t k => XS.iconst X21.here hx rfl (hb hby at_189) k) ?_
              refine own_go T21 m 192 #[iv x0, iv x1, iv x2, iv x3, iv x4, iv x5, iv 0, iv 0, iv v8, iv v9, iv v10, rv b6, iv (-1), iv 0, iv 0, .unset] [] (fun t k => XS.istore X21.here hx rfl (hb hby at_190) rfl rfl k) ?_
              refine own_go T21 m 194 #[iv x0, iv x1, iv x2, iv x3, iv x4, iv x5, iv 0, iv 0, iv v8, iv v9, iv v10, rv b6, iv (-1), iv 0, iv 0, .unset] [(.int 0)] (fun t k => XS.iload X21.here hx rfl (hb hby at_192) rfl k) ?_
              refine own_go T21 m 214 #[iv x0, iv x1, iv x2, iv x3, iv x4, iv x5, iv 0, iv 0, iv v8, iv v9, iv v10, rv b6, iv (-1), iv 0, iv 0, .unset] [] (fun t k => XS.ifYes X21.here hx rfl (pc0 := 194) (pc' := 214) rfl (hb hby at_194) rfl ((if0 _ _).trans (teq (by decide)).1) (by decide) (by decide) k) ?_
              refine own_go T21 m 215 #[iv x0, iv x1, iv x2, iv x3, iv x4, iv x5, iv 0, iv 0, iv v8, iv v9, iv v10, rv b6, iv (-1), iv 0, iv 0, .unset] [(.int (-1))] (fun t k => XS.iconst X21.here hx rfl (hb hby at_214) k) ?_
              refine own_go T21 m 217 #[iv x0, iv x1, iv x2, iv x3, iv x4, iv x5, iv 0, iv 0, iv v8, iv v9, iv v10, rv b6, iv (-1), iv 0, iv 0, iv (-1)] [] (fun t k => XS.istore X21.here hx rfl (hb hby at_215) rfl rfl k) ?_
              refine own_go T21 m 219 #[iv x0, iv x1, iv x2, iv x3, iv x4, iv x5, iv 0, iv 0, iv v8, iv v9, iv v10, rv b6, iv (-1), iv 0, iv 0, iv (-1)] [(.int (-1))] (fun t k => XS.iload X21.here hx rfl (hb hby at_217) rfl k) ?_
              refine own_go T21 m 221 #[iv x0, iv x1, iv x2, iv x3, iv x4, iv x5, iv 0, iv 0, iv v8, iv v9, iv v10, rv b6, iv (-1), iv 0, iv 0, iv (-1)] [(.int (-1)), (.int (-1))] (fun t k => XS.iload X21.here hx rfl (hb hby at_219) rfl k) ?_
              refine own_go T21 m 224 #[iv x0, iv x1, iv x2, iv x3, iv x4, iv x5, iv 0, iv 0, iv v8, iv v9, iv v10, rv b6, iv (-1), iv 0, iv 0, iv (-1)] [] (fun t k => XS.icmpNo X21.here hx rfl (hb hby at_221) rfl (teq (by decide)).2 k) ?_
              refine own_go T21 m 225 #[iv x0, iv x1, iv x2, iv x3, iv x4, iv x5, iv 0, iv 0, iv v8, iv v9, iv v10, rv b6, iv (-1), iv 0, iv 0, iv (-1)] [(.int 1)] (fun t k => XS.iconst X21.here hx rfl (hb hby at_224) k) ?_
              refine own_go T21 m 229 #[iv x0, iv x1, iv x2, iv x3, iv x4, iv x5, iv 0, iv 0, iv v8, iv v9, iv v10, rv b6, iv (-1), iv 0, iv 0, iv (-1)] [(.int 1)] (fun t k => XS.goto X21.here hx rfl (pc0 := 225) (pc' := 229) rfl (hb hby at_225) (by decide) (by decide) k) ?_
              refine own_retZ X21 hx hlk hret (by decide) (hb hby at_229) (by decide) (by decide) ?_
              exact ⟨rfl, N14⟩
            · refine own_go T21 m 155 #[iv x0, iv x1, iv x2, iv x3, iv x4, iv x5, iv 0, iv 0, iv v8, iv v9, iv v10, rv b6, iv (-1), .unset, .unset, .unset] [] (fun t k => XS.icmpNo X21.here hx rfl (hb hby at_152) rfl (flt hc152_22).1 k) ?_
              refine own_go T21 m 157 #[iv x0, iv x1, iv x2, iv x3, iv x4, iv x5, iv 0, iv 0, iv v8, iv v9, iv v10, rv b6, iv (-1), .unset, .unset, .unset] [(.int v8)] (fun t k => XS.iload X21.here hx rfl (hb hby at_155) rfl k) ?_
              refine own_go T21 m 159 #[iv x0, iv x1, iv x2, iv x3, iv x4, iv x5, iv 0, iv 0, iv v8, iv v9, iv v10, rv b6, iv (-1), .unset, .unset, .unset] [(.int v9), (.int v8)] (fun t k => XS.iload X21.here hx rfl (hb hby at_157) rfl k) ?_
              by_cases hc159_23 : v8 < v9
              · refine own_go T21 m 162 #[iv x0, iv x1, iv x2, iv x3, iv x4, iv x5, iv 0, iv 0, iv v8, iv v9, iv v10, rv b6, iv (-1), .unset, .unset, .unset] [] (fun t k => XS.icmpNo X21.here hx rfl (hb hby at_159) rfl (tlt hc159_23).2.1 k) ?_
                refine own_go T21 m 163 #[iv x0, iv x1, iv x2, iv x3, iv x4, iv x5, iv 0, iv 0, iv v8, iv v9, iv v10, rv b6, iv (-1), .unset, .unset, .unset] [(.int 1)] (fun t k => XS.iconst X21.here hx rfl (hb hby at_162) k) ?_
                refine own_go T21 m 167 #[iv x0, iv x1, iv x2, iv x3, iv x4, iv x5, iv 0, iv 0, iv v8, iv v9, iv v10, rv b6, iv (-1), .unset, .unset, .unset] [(.int 1)] (fun t k => XS.goto X21.here hx rfl (pc0 := 163) (pc' := 167) rfl (hb hby at_163) (by decide) (by decide) k) ?_
                refine own_go T21 m 169 #[iv x0, iv x1, iv x2, iv x3, iv x4, iv x5, iv 0, iv 0, iv v8, iv v9, iv v10, rv b6, iv (-1), iv 1, .unset, .unset] [] (fun t k => XS.istore X21.here hx rfl (hb hby at_167) rfl rfl k) ?_
                refine own_go T21 m 171 #[iv x0, iv x1, iv x2, iv x3, iv x4, iv x5, iv 0, iv 0, iv v8, iv v9, iv v10, rv b6, iv (-1), iv 1, .unset, .unset] [(.int 0)] (fun t k => XS.iload X21.here hx rfl (hb hby at_169) rfl k) ?_
                refine own_go T21 m 189 #[iv x0, iv x1, iv x2, iv x3, iv x4, iv x5, iv 0, iv 0, iv v8, iv v9, iv v10, rv b6, iv (-1), iv 1, .unset, .unset] [] (fun t k => XS.ifYes X21.here hx rfl (pc0 := 171) (pc' := 189) rfl (hb hby at_171) rfl ((if0 _ _).trans (teq (by decide)).1) (by decide) (by decide) k) ?_
                refine own_go T21 m 190 #[iv x0, iv x1, iv x2, iv x3, iv x4, iv x5, iv 0, iv 0, iv v8, iv v9, iv v10, rv b6, iv (-1), iv 1, .unset, .unset] [(.int 0)] (fun t k => XS.iconst X21.here hx rfl (hb hby at_189) k) ?_
                refine own_go T21 m 192 #[iv x0, iv x1, iv x2, iv x3, iv x4, iv x5, iv 0, iv 0, iv v8, iv v9, iv v10, rv b6, iv (-1), iv 1, iv 0, .unset] [] (fun t k => XS.istore X21.here hx rfl (hb hby at_190) rfl rfl k) ?_
                refine own_go T21 m 194 #[iv x0, iv x1, iv x2, iv x3, iv x4, iv x5, iv 0, iv 0, iv v8, iv v9, iv v10, rv b6, iv (-1), iv 1, iv 0, .unset] [(.int 0)] (fun t k => XS.iload X21.here hx rfl (hb hby at_192) rfl k) ?_
                refine own_go T21 m 214 #[iv x0, iv x1, iv x2, iv x3, iv x4, iv x5, iv 0, iv 0, iv v8, iv v9, iv v10, rv b6, iv (-1), iv 1, iv 0, .unset] [] (fun t k => XS.ifYes X21.here hx rfl (pc0 := 194) (pc' := 214) rfl (hb hby at_194) rfl ((if0 _ _).trans (teq (by decide)).1) (by decide) (by decide) k) ?_
                refine own_go T21 m 215 #[iv x0, iv x1, iv x2, iv x3, iv x4, iv x5, iv 0, iv 0, iv v8, iv v9, iv v10, rv b6, iv (-1), iv 1, iv 0, .unset] [(.int (-1))] (fun t k => XS.iconst X21.here hx rfl (hb hby at_214) k) ?_
                refine own_go T21 m 217 #[iv x0, iv x1, iv x2, iv x3, iv x4, iv x5, iv 0, iv 0, iv v8, iv v9, iv v10, rv b6, iv (-1), iv 1, iv 0, iv (-1)] [] (fun t k => XS.istore X21.here hx rfl (hb hby at_215) rfl rfl k) ?_
                refine own_go T21 m 219 #[iv x0, iv x1, iv x2, iv x3, iv x4, iv x5, iv 0, iv 0, iv v8, iv v9, iv v10, rv b6, iv (-1), iv 1, iv 0, iv (-1)] [(.int (-1))] (fun t k => XS.iload X21.here hx rfl (hb hby at_217) rfl k) ?_
                refine own_go T21 m 221 #[iv x0, iv x1, iv x2, iv x3, iv x4, iv x5, iv 0, iv 0, iv v8, iv v9, iv v10, rv b6, iv (-1), iv 1, iv 0, iv (-1)] [(.int (-1)), (.int (-1))] (fun t k => XS.iload X21.here hx rfl (hb hby at_219) rfl k) ?_
                refine own_go T21 m 224 #[iv x0, iv x1, iv x2, iv x3, iv x4, iv x5, iv 0, iv 0, iv v8, iv v9, iv v10, rv b6, iv (-1), iv 1, iv 0, iv (-1)] [] (fun t k => XS.icmpNo X21.here hx rfl (hb hby at_221) rfl (teq (by decide)).2 k) ?_
                refine own_go T21 m 225 #[iv x0, iv x1, iv x2, iv x3, iv x4, iv x5, iv 0, iv 0, iv v8, iv v9, iv v10, rv b6, iv (-1), iv 1, iv 0, iv (-1)] [(.int 1)] (fun t k => XS.iconst X21.here hx rfl (hb hby at_224) k) ?_
                refine own_go T21 m 229 #[iv x0, iv x1, iv x2, iv x3, iv x4, iv x5, iv 0, iv 0, iv v8, iv v9, iv v10, rv b6, iv (-1), iv 1, iv 0, iv (-1)] [(.int 1)] (fun t k => XS.goto X21.here hx rfl (pc0 := 225) (pc' := 229) rfl (hb hby at_225) (by decide) (by decide) k) ?_
                refine own_retZ X21 hx hlk hret (by decide) (hb hby at_229) (by decide) (by decide) ?_
                exact ⟨rfl, N14⟩
              · refine own_go T21 m 166 #[iv x0, iv x1, iv x2, iv x3, iv x4, iv x5, iv 0, iv 0, iv v8, iv v9, iv v10, rv b6, iv (-1), .unset, .unset, .unset] [] (fun t k => XS.icmpYes X21.here hx rfl (pc0 := 159) (pc' := 166) rfl (hb hby at_159) rfl (flt hc159_23).2.1 (by decide) (by decide) k) ?_
                refine own_go T21 m 167 #[iv x0, iv x1, iv x2, iv x3, iv x4, iv x5, iv 0, iv 0, iv v8, iv v9, iv v10, rv b6, iv (-1), .unset, .unset, .unset] [(.int 0)] (fun t k => XS.iconst X21.here hx rfl (hb hby at_166) k) ?_
                refine own_go T21 m 169 #[iv x0, iv x1, iv x2, iv x3, iv x4, iv x5, iv 0, iv 0, iv v8, iv v9, iv v10, rv b6, iv (-1), iv 0, .unset, .unset] [] (fun t k => XS.istore X21.here hx rfl (hb hby at_167) rfl rfl k) ?_
                refine own_go T21 m 171 #[iv x0, iv x1, iv x2, iv x3, iv x4, iv x5, iv 0, iv 0, iv v8, iv v9, iv v10, rv b6, iv (-1), iv 0, .unset, .unset] [(.int 0)] (fun t k => XS.iload X21.here hx rfl (hb hby at_169) rfl k) ?_
                refine own_go T21 m 189 #[iv x0, iv x1, iv x2, iv x3, iv x4, iv x5, iv 0, iv 0, iv v8, iv v9, iv v10, rv b6, iv (-1), iv 0, .unset, .unset] [] (fun t k => XS.ifYes X21.here hx rfl (pc0 := 171) (pc' := 189) rfl (hb hby at_171) rfl ((if0 _ _).trans (teq (by decide)).1) (by decide) (by decide) k) ?_
                refine own_go T21 m 190 #[iv x0, iv x1, iv x2, iv x3, iv x4, iv x5, iv 0, iv 0, iv v8, iv v9, iv v10, rv b6, iv (-1), iv 0, .unset, .unset] [(.int 0)] (fun t k => XS.iconst X21.here hx rfl (hb hby at_189) k) ?_
                refine own_go T21 m 192 #[iv x0, iv x1, iv x2, iv x3, iv x4, iv x5, iv 0, iv 0, iv v8, iv v9, iv v10, rv b6, iv (-1), iv 0, iv 0, .unset] [] (fun t k => XS.istore X21.here hx rfl (hb hby at_190) rfl rfl k) ?_
                refine own_go T21 m 194 #[iv x0, iv x1, iv x2, iv x3, iv x4, iv x5, iv 0, iv 0, iv v8, iv v9, iv v10, rv b6, iv (-1), iv 0, iv 0, .unset] [(.int 0)] (fun t k => XS.iload X21.here hx rfl (hb hby at_192) rfl k) ?_
                refine own_go T21 m 214 #[iv x0, iv x1, iv x2, iv x3, iv x4, iv x5, iv 0, iv 0, iv v8, iv v9, iv v10, rv b6, iv (-1), iv 0, iv 0, .unset] [] (fun t k => XS.ifYes X21.here hx rfl (pc0 := 194) (pc' := 214) rfl (hb hby at_194) rfl ((if0 _ _).trans (teq (by decide)).1) (by decide) (by decide) k) ?_
                refine own_go T21 m 215 #[iv x0, iv x1, iv x2, iv x3, iv x4, iv x5, iv 0, iv 0, iv v8, iv v9, iv v10, rv b6, iv (-1), iv 0, iv 0, .unset] [(.int (-1))] (fun t k => XS.iconst X21.here hx rfl (hb hby at_214) k) ?_
                refine own_go T21 m 217 #[iv x0, iv x1, iv x2, iv x3, iv x4, iv x5, iv 0, iv 0, iv v8, iv v9, iv v10, rv b6, iv (-1), iv 0, iv 0, iv (-1)] [] (fun t k => XS.istore X21.here hx rfl (hb hby at_215) rfl rfl k) ?_
                refine own_go T21 m 219 #[iv x0, iv x1, iv x2, iv x3, iv x4, iv x5, iv 0, iv 0, iv v8, iv v9, iv v10, rv b6, iv (-1), iv 0, iv 0, iv (-1)] [(.int (-1))] (fun t k => XS.iload X21.here hx rfl (hb hby at_217) rfl k) ?_
                refine own_go T21 m 221 #[iv x0, iv x1, iv x2, iv x3, iv x4, iv x5, iv 0, iv 0, iv v8, iv v9, iv v10, rv b6, iv (-1), iv 0, iv 0, iv (-1)] [(.int (-1)), (.int (-1))] (fun t k => XS.iload X21.here hx rfl (hb hby at_219) rfl k) ?_
                refine own_go T21 m 224 #[iv x0, iv x1, iv x2, iv x3, iv x4, iv x5, iv 0, iv 0, iv v8, iv v9, iv v10, rv b6, iv (-1), iv 0, iv 0, iv (-1)] [] (fun t k => XS.icmpNo X21.here hx rfl (hb hby at_221) rfl (teq (by decide)).2 k) ?_
                refine own_go T21 m 225 #[iv x0, iv x1, iv x2, iv x3, iv x4, iv x5, iv 0, iv 0, iv v8, iv v9, iv v10, rv b6, iv (-1), iv 0, iv 0, iv (-1)] [(.int 1)] (fun t k => XS.iconst X21.here hx rfl (hb hby at_224) k) ?_
                refine own_go T21 m 229 #[iv x0, iv x1, iv x2, iv x3, iv x4, iv x5, iv 0, iv 0, iv v8, iv v9, iv v10, rv b6, iv (-1), iv 0, iv 0, iv (-1)] [(.int 1)] (fun t k => XS.goto X21.here hx rfl (pc0 := 225) (pc' := 229) rfl (hb hby at_225) (by decide) (by decide) k) ?_
                refine own_retZ X21 hx hlk hret (by decide) (hb hby at_229) (by decide) (by decide) ?_
                exact ⟨rfl, N14⟩
          by_cases hc68_24 : (x5 &&& (16 : Int32)) = (0 : Int32)
          · refine own_go T0 m 82 #[iv x0, iv x1, iv x2, iv x3, iv x4, iv x5, iv 0, iv 0, iv v8, iv v9, .unset, .unset, .unset, .unset, .unset, .unset] [] (fun t k => XS.ifYes X0.here hx rfl (pc0 := 68) (pc' := 82) rfl (hb hby at_68) rfl ((if0 _ _).trans (teq hc68_24).1) (by decide) (by decide) k) ?_
            refine own_go T0 m 84 #[iv x0, iv x1, iv x2, iv x3, iv x4, iv x5, iv 0, iv 0, iv v8, iv v9, .unset, .unset, .unset, .unset, .unset, .unset] [(.int x4)] (fun t k => XS.iload X0.here hx rfl (hb hby at_82) rfl k) ?_
            refine own_go T0 m 86 #[iv x0, iv x1, iv x2, iv x3, iv x4, iv x5, iv 0, iv 0, iv v8, iv v9, iv x4, .unset, .unset, .unset, .unset, .unset] [] (fun t k => XS.istore X0.here hx rfl (hb hby at_84) rfl rfl k) ?_
            exact seg86 x4
          · refine own_go T0 m 71 #[iv x0, iv x1, iv x2, iv x3, iv x4, iv x5, iv 0, iv 0, iv v8, iv v9, .unset, .unset, .unset, .unset, .unset, .unset] [] (fun t k => XS.ifNo X0.here hx rfl (hb hby at_68) rfl ((if0 _ _).trans (feq hc68_24).1) k) ?_
            refine own_go T0 m 72 #[iv x0, iv x1, iv x2, iv x3, iv x4, iv x5, iv 0, iv 0, iv v8, iv v9, .unset, .unset, .unset, .unset, .unset, .unset] [(.int x3)] (fun t k => XS.iloadN X0.here hx rfl (hb hby at_71) rfl k) ?_
            refine own_go T0 m 74 #[iv x0, iv x1, iv x2, iv x3, iv x4, iv x5, iv 0, iv 0, iv v8, iv v9, .unset, .unset, .unset, .unset, .unset, .unset] [(.int x4), (.int x3)] (fun t k => XS.iload X0.here hx rfl (hb hby at_72) rfl k) ?_
            refine own_go T0 m 75 #[iv x0, iv x1, iv x2, iv x3, iv x4, iv x5, iv 0, iv 0, iv v8, iv v9, .unset, .unset, .unset, .unset, .unset, .unset] [(.int 3), (.int x4), (.int x3)] (fun t k => XS.iconst X0.here hx rfl (hb hby at_74) k) ?_
            refine own_go T0 m 76 #[iv x0, iv x1, iv x2, iv x3, iv x4, iv x5, iv 0, iv 0, iv v8, iv v9, .unset, .unset, .unset, .unset, .unset, .unset] [(.int (x4 &&& (3 : Int32))), (.int x3)] (fun t k => XS.iand X0.here hx rfl (hb hby at_75) rfl k) ?_
            refine own_go T0 m 77 #[iv x0, iv x1, iv x2, iv x3, iv x4, iv x5, iv 0, iv 0, iv v8, iv v9, .unset, .unset, .unset, .unset, .unset, .unset] [(.int 1), (.int (x4 &&& (3 : Int32))), (.int x3)] (fun t k => XS.iconst X0.here hx rfl (hb hby at_76) k) ?_
            refine own_go T0 m 78 #[iv x0, iv x1, iv x2, iv x3, iv x4, iv x5, iv 0, iv 0, iv v8, iv v9, .unset, .unset, .unset, .unset, .unset, .unset] [(.int ((x4 &&& (3 : Int32)) - (1 : Int32))), (.int x3)] (fun t k => XS.isub X0.here hx rfl (hb hby at_77) rfl k) ?_
            refine own_go T0 m 79 #[iv x0, iv x1, iv x2, iv x3, iv x4, iv x5, iv 0, iv 0, iv v8, iv v9, .unset, .unset, .unset, .unset, .unset, .unset] [(.int (x3 + ((x4 &&& (3 : Int32)) - (1 : Int32))))] (fun t k => XS.iadd X0.here hx rfl (hb hby at_78) rfl k) ?_
            refine own_go T0 m 84 #[iv x0, iv x1, iv x2, iv x3, iv x4, iv x5, iv 0, iv 0, iv v8, iv v9, .unset, .unset, .unset, .unset, .unset, .unset] [(.int (x3 + ((x4 &&& (3 : Int32)) - (1 : Int32))))] (fun t k => XS.goto X0.here hx rfl (pc0 := 79) (pc' := 84) rfl (hb hby at_79) (by decide) (by decide) k) ?_
            refine own_go T0 m 86 #[iv x0, iv x1, iv x2, iv x3, iv x4, iv x5, iv 0, iv 0, iv v8, iv v9, iv (x3 + ((x4 &&& (3 : Int32)) - (1 : Int32))), .unset, .unset, .unset, .unset, .unset] [] (fun t k => XS.istore X0.here hx rfl (hb hby at_84) rfl rfl k) ?_
            exact seg86 (x3 + ((x4 &&& (3 : Int32)) - (1 : Int32)))
        by_cases hc47_25 : (x5 &&& (8 : Int32)) = (0 : Int32)
        · refine own_go T0 m 60 #[iv x0, iv x1, iv x2, iv x3, iv x4, iv x5, iv 0, iv 0, iv v8, .unset, .unset, .unset, .unset, .unset, .unset, .unset] [] (fun t k => XS.ifYes X0.here hx rfl (pc0 := 47) (pc' := 60) rfl (hb hby at_47) rfl ((if0 _ _).trans (teq hc47_25).1) (by decide) (by decide) k) ?_
          refine own_go T0 m 61 #[iv x0, iv x1, iv x2, iv x3, iv x4, iv x5, iv 0, iv 0, iv v8, .unset, .unset, .unset, .unset, .unset, .unset, .unset] [(.int x1)] (fun t k => XS.iloadN X0.here hx rfl (hb hby at_60) rfl k) ?_
          refine own_go T0 m 63 #[iv x0, iv x1, iv x2, iv x3, iv x4, iv x5, iv 0, iv 0, iv v8, iv x1, .unset, .unset, .unset, .unset, .unset, .unset] [] (fun t k => XS.istore X0.here hx rfl (hb hby at_61) rfl rfl k) ?_
          exact seg63 x1
        · refine own_go T0 m 50 #[iv x0, iv x1, iv x2, iv x3, iv x4, iv x5, iv 0, iv 0, iv v8, .unset, .unset, .unset, .unset, .unset, .unset, .unset] [] (fun t k => XS.ifNo X0.here hx rfl (hb hby at_47) rfl ((if0 _ _).trans (feq hc47_25).1) k) ?_
          refine own_go T0 m 51 #[iv x0, iv x1, iv x2, iv x3, iv x4, iv x5, iv 0, iv 0, iv v8, .unset, .unset, .unset, .unset, .unset, .unset, .unset] [(.int x0)] (fun t k => XS.iloadN X0.here hx rfl (hb hby at_50) rfl k) ?_
          refine own_go T0 m 52 #[iv x0, iv x1, iv x2, iv x3, iv x4, iv x5, iv 0, iv 0, iv v8, .unset, .unset, .unset, .unset, .unset, .unset, .unset] [(.int x1), (.int x0)] (fun t k => XS.iloadN X0.here hx rfl (hb hby at_51) rfl k) ?_
          refine own_go T0 m 53 #[iv x0, iv x1, iv x2, iv x3, iv x4, iv x5, iv 0, iv 0, iv v8, .unset, .unset, .unset, .unset, .unset, .unset, .unset] [(.int 3), (.int x1), (.int x0)] (fun t k => XS.iconst X0.here hx rfl (hb hby at_52) k) ?_
          refine own_go T0 m 54 #[iv x0, iv x1, iv x2, iv x3, iv x4, iv x5, iv 0, iv 0, iv v8, .unset, .unset, .unset, .unset, .unset, .unset, .unset] [(.int (x1 &&& (3 : Int32))), (.int x0)] (fun t k => XS.iand X0.here hx rfl (hb hby at_53) rfl k) ?_
          refine own_go T0 m 55 #[iv x0, iv x1, iv x2, iv x3, iv x4, iv x5, iv 0, iv 0, iv v8, .unset, .unset, .unset, .unset, .unset, .unset, .unset] [(.int 1), (.int (x1 &&& (3 : Int32))), (.int x0)] (fun t k => XS.iconst X0.here hx rfl (hb hby at_54) k) ?_
          refine own_go T0 m 56 #[iv x0, iv x1, iv x2, iv x3, iv x4, iv x5, iv 0, iv 0, iv v8, .unset, .unset, .unset, .unset, .unset, .unset, .unset] [(.int ((x1 &&& (3 : Int32)) - (1 : Int32))), (.int x0)] (fun t k => XS.isub X0.here hx rfl (hb hby at_55) rfl k) ?_
          refine own_go T0 m 57 #[iv x0, iv x1, iv x2, iv x3, iv x4, iv x5, iv 0, iv 0, iv v8, .unset, .unset, .unset, .unset, .unset, .unset, .unset] [(.int (x0 + ((x1 &&& (3 : Int32)) - (1 : Int32))))] (fun t k => XS.iadd X0.here hx rfl (hb hby at_56) rfl k) ?_
          refine own_go T0 m 61 #[iv x0, iv x1, iv x2, iv x3, iv x4, iv x5, iv 0, iv 0, iv v8, .unset, .unset, .unset, .unset, .unset, .unset, .unset] [(.int (x0 + ((x1 &&& (3 : Int32)) - (1 : Int32))))] (fun t k => XS.goto X0.here hx rfl (pc0 := 57) (pc' := 61) rfl (hb hby at_57) (by decide) (by decide) k) ?_
          refine own_go T0 m 63 #[iv x0, iv x1, iv x2, iv x3, iv x4, iv x5, iv 0, iv 0, iv v8, iv (x0 + ((x1 &&& (3 : Int32)) - (1 : Int32))), .unset, .unset, .unset, .unset, .unset, .unset] [] (fun t k => XS.istore X0.here hx rfl (hb hby at_61) rfl rfl k) ?_
          exact seg63 (x0 + ((x1 &&& (3 : Int32)) - (1 : Int32)))
      by_cases hc32_26 : (x5 &&& (4 : Int32)) = (0 : Int32)
      · refine own_go T0 m 39 #[iv x0, iv x1, iv x2, iv x3, iv x4, iv x5, iv 0, iv 0, .unset, .unset, .unset, .unset, .unset, .unset, .unset, .unset] [] (fun t k => XS.ifYes X0.here hx rfl (pc0 := 32) (pc' := 39) rfl (hb hby at_32) rfl ((if0 _ _).trans (teq hc32_26).1) (by decide) (by decide) k) ?_
        refine own_go T0 m 40 #[iv x0, iv x1, iv x2, iv x3, iv x4, iv x5, iv 0, iv 0, .unset, .unset, .unset, .unset, .unset, .unset, .unset, .unset] [(.int x2)] (fun t k => XS.iloadN X0.here hx rfl (hb hby at_39) rfl k) ?_
        refine own_go T0 m 42 #[iv x0, iv x1, iv x2, iv x3, iv x4, iv x5, iv 0, iv 0, iv x2, .unset, .unset, .unset, .unset, .unset, .unset, .unset] [] (fun t k => XS.istore X0.here hx rfl (hb hby at_40) rfl rfl k) ?_
        exact seg42 x2
      · refine own_go T0 m 35 #[iv x0, iv x1, iv x2, iv x3, iv x4, iv x5, iv 0, iv 0, .unset, .unset, .unset, .unset, .unset, .unset, .unset, .unset] [] (fun t k => XS.ifNo X0.here hx rfl (hb hby at_32) rfl ((if0 _ _).trans (feq hc32_26).1) k) ?_
        refine own_go T0 m 36 #[iv x0, iv x1, iv x2, iv x3, iv x4, iv x5, iv 0, iv 0, .unset, .unset, .unset, .unset, .unset, .unset, .unset, .unset] [(.int x0)] (fun t k => XS.iloadN X0.here hx rfl (hb hby at_35) rfl k) ?_
        refine own_go T0 m 40 #[iv x0, iv x1, iv x2, iv x3, iv x4, iv x5, iv 0, iv 0, .unset, .unset, .unset, .unset, .unset, .unset, .unset, .unset] [(.int x0)] (fun t k => XS.goto X0.here hx rfl (pc0 := 36) (pc' := 40) rfl (hb hby at_36) (by decide) (by decide) k) ?_
        refine own_go T0 m 42 #[iv x0, iv x1, iv x2, iv x3, iv x4, iv x5, iv 0, iv 0, iv x0, .unset, .unset, .unset, .unset, .unset, .unset, .unset] [] (fun t k => XS.istore X0.here hx rfl (hb hby at_40) rfl rfl k) ?_
        exact seg42 x0
    · refine own_go T0 m 21 #[iv x0, iv x1, iv x2, iv x3, iv x4, iv x5, iv 0, .unset, .unset, .unset, .unset, .unset, .unset, .unset, .unset, .unset] [] (fun t k => XS.ifNo X0.here hx rfl (hb hby at_18) rfl ((if0 _ _).trans (feq hc18_2).1) k) ?_
      refine own_go T0 m 22 #[iv x0, iv x1, iv x2, iv x3, iv x4, iv x5, iv 0, .unset, .unset, .unset, .unset, .unset, .unset, .unset, .unset, .unset] [(.int 1)] (fun t k => XS.iconst X0.here hx rfl (hb hby at_21) k) ?_
      refine own_go T0 m 26 #[iv x0, iv x1, iv x2, iv x3, iv x4, iv x5, iv 0, .unset, .unset, .unset, .unset, .unset, .unset, .unset, .unset, .unset] [(.int 1)] (fun t k => XS.goto X0.here hx rfl (pc0 := 22) (pc' := 26) rfl (hb hby at_22) (by decide) (by decide) k) ?_
      refine own_go T0 m 28 #[iv x0, iv x1, iv x2, iv x3, iv x4, iv x5, iv 0, iv 1, .unset, .unset, .unset, .unset, .unset, .unset, .unset, .unset] [] (fun t k => XS.istore X0.here hx rfl (hb hby at_26) rfl rfl k) ?_
      refine own_go T0 m 30 #[iv x0, iv x1, iv x2, iv x3, iv x4, iv x5, iv 0, iv 1, .unset, .unset, .unset, .unset, .unset, .unset, .unset, .unset] [(.int x5)] (fun t k => XS.iload X0.here hx rfl (hb hby at_28) rfl k) ?_
      refine own_go T0 m 31 #[iv x0, iv x1, iv x2, iv x3, iv x4, iv x5, iv 0, iv 1, .unset, .unset, .unset, .unset, .unset, .unset, .unset, .unset] [(.int 4), (.int x5)] (fun t k => XS.iconst X0.here hx rfl (hb hby at_30) k) ?_
      refine own_go T0 m 32 #[iv x0, iv x1, iv x2, iv x3, iv x4, iv x5, iv 0, iv 1, .unset, .unset, .unset, .unset, .unset, .unset, .unset, .unset] [(.int (x5 &&& (4 : Int32)))] (fun t k => XS.iand X0.here hx rfl (hb hby at_31) rfl k) ?_
      have seg42 : ∀ (v8 : Int32), OwnG p.tables e below s (fun v h L => v = some (.int 1) ∧ Fr n0 L) room_1.cells room_1.slots (T0.setTop (mkF m 42 #[iv x0, iv x1, iv x2, iv x3, iv x4, iv x5, iv 0, iv 1, iv v8, .unset, .unset, .unset, .unset, .unset, .unset, .unset] [])) := by
        intro v8
        refine own_go T0 m 44 #[iv x0, iv x1, iv x2, iv x3, iv x4, iv x5, iv 0, iv 1, iv v8, .unset, .unset, .unset, .unset, .unset, .unset, .unset] [(.int x5)] (fun t k => XS.iload X0.here hx rfl (hb hby at_42) rfl k) ?_
        refine own_go T0 m 46 #[iv x0, iv x1, iv x2, iv x3, iv x4, iv x5, iv 0, iv 1, iv v8, .unset, .unset, .unset, .unset, .unset, .unset, .unset] [(.int 8), (.int x5)] (fun t k => XS.bipush X0.here hx rfl (hb hby at_44) k) ?_
        refine own_go T0 m 47 #[iv x0, iv x1, iv x2, iv x3, iv x4, iv x5, iv 0, iv 1, iv v8, .unset, .unset, .unset, .unset, .unset, .unset, .unset] [(.int (x5 &&& (8 : Int32)))] (fun t k => XS.iand X0.here hx rfl (hb hby at_46) rfl k) ?_
        have seg63 : ∀ (v9 : Int32), OwnG p.tables e below s (fun v h L => v = some (.int 1) ∧ Fr n0 L) room_1.cells room_1.slots (T0.setTop (mkF m 63 #[iv x0, iv x1, iv x2, iv x3, iv x4, iv x5, iv 0, iv 1, iv v8, iv v9, .unset, .unset, .unset, .unset, .unset, .unset] [])) := by
          intro v9
          refine own_go T0 m 65 #[iv x0, iv x1, iv x2, iv x3, iv x4, iv x5, iv 0, iv 1, iv v8, iv v9, .unset, .unset, .unset, .unset, .unset, .unset] [(.int x5)] (fun t k => XS.iload X0.here hx rfl (hb hby at_63) rfl k) ?_
          refine own_go T0 m 67 #[iv x0, iv x1, iv x2, iv x3, iv x4, iv x5, iv 0, iv 1, iv v8, iv v9, .unset, .unset, .unset, .unset, .unset, .unset] [(.int 16), (.int x5)] (fun t k => XS.bipush X0.here hx rfl (hb hby at_65) k) ?_
          refine own_go T0 m 68 #[iv x0, iv x1, iv x2, iv x3, iv x4, iv x5, iv 0, iv 1, iv v8, iv v9, .unset, .unset, .unset, .unset, .unset, .unset] [(.int (x5 &&& (16 : Int32)))] (fun t k => XS.iand X0.here hx rfl (hb hby at_67) rfl k) ?_
          have seg86 : ∀ (v10 : Int32), OwnG p.tables e below s (fun v h L => v = some (.int 1) ∧ Fr n0 L) room_1.cells room_1.slots (T0.setTop (mkF m 86 #[iv x0, iv x1, iv x2, iv x3, iv x4, iv x5, iv 0, iv 1, iv v8, iv v9, iv v10, .unset, .unset, .unset, .unset, .unset] [])) := by
            intro v10
            obtain ⟨T30, h30, X30, e30, E30, A30, D30, -, st30⟩ := newO X0 hx hZ hown (own_w hw 0 rfl) (own_w hw 1 rfl) (own_w hw 2 rfl) e0 (g := (mkF m 86 #[iv x0, iv x1, iv x2, iv x3, iv x4, iv x5, iv 0, iv 1, iv v8, iv v9, iv v10, .unset, .unset, .unset, .unset, .unset] [])) rfl (hb hby at_86) (by decide) (by decide)
            obtain ⟨b30, g30⟩ : ∃ z, z = h0.size := ⟨_, rfl⟩
            rw [← g30] at A30 D30 st30
            have g_b30 : n0 ≤ b30 := Nat.le_trans Z0 (Nat.le_of_eq g30.symm)
            have Z_30 : n0 ≤ h30.size := Nat.le_trans Z0 E30.1
            have F_starts_30 : Fld Z h30 b30 OwnK0 "starts" "[I" .null := D30 (Or.inl (own_w hw 11 rfl)) (ty := (.array .int)) (by decide)
            have F_ends_30 : Fld Z h30 b30 OwnK0 "ends" "[I" .null := D30 (Or.inl (own_w hw 13 rfl)) (ty := (.array .int)) (by decide)
            have F_segmentFirst_30 : Fld Z h30 b30 OwnK0 "segmentFirst" "[I" .null := D30 (Or.inl (own_w hw 15 rfl)) (ty := (.array .int)) (by decide)
            have F_segmentEnd_30 : Fld Z h30 b30 OwnK0 "segmentEnd" "[I" .null := D30 (Or.inl (own_w hw 17 rfl)) (ty := (.array .int)) (by decide)
            have F_segmentLimit_30 : Fld Z h30 b30 OwnK0 "segmentLimit" "[I" .null := D30 (Or.inl (own_w hw 19 rfl)) (ty := (.array .int)) (by decide)
            have F_cursor_30 : Fld Z h30 b30 OwnK0 "cursor" "I" (.int 0) := D30 (Or.inl (own_w hw 21 rfl)) (ty := .int) (by decide)
            have F_segments_30 : Fld Z h30 b30 OwnK0 "segments" "I" (.int 0) := D30 (Or.inl (own_w hw 28 rfl)) (ty := .int) (by decide)
            have F_count_30 : Fld Z h30 b30 OwnK0 "count" "I" (.int 0) := D30 (Or.inl (own_w hw 30 rfl)) (ty := .int) (by decide)
            have F_lastOpened_30 : Fld Z h30 b30 OwnK0 "lastOpened" "I" (.int 0) := D30 (Or.inl (own_w hw 37 rfl)) (ty := .int) (by decide)
            refine own_go T30 m 89 #[iv x0, iv x1, iv x2, iv x3, iv x4, iv x5, iv 0, iv 1, iv v8, iv v9, iv v10, .unset, .unset, .unset, .unset, .unset] [(.ref b30)] (st30) ?_
            refine own_go T30 m 90 #[iv x0, iv x1, iv x2, iv x3, iv x4, iv x5, iv 0, iv 1, iv v8, iv v9, iv v10, .unset, .unset, .unset, .unset, .unset] [(.ref b30), (.ref b30)] (fun t k => XS.dup X30.here hx rfl (hb hby at_89) rfl rfl k) ?_
            obtain ⟨_, T31, L31, X31, ⟨w0_31, w1_31, w2_31, w3_31, w4_31, kw0_31, kw1_31, kw2_31, kw3_31, kw4_31, rfl, Nq31, Kq31, syw0_31, syw1_31, syw2_31, syw3_31, syw4_31, fq0_31, fq1_31, fq2_31, fq3_31, fq4_31, fq5_31, fq6_31, fq7_31, fq8_31, fq9_31, fq10_31, fq11_31, fq12_31, fq13_31, fq14_31, fq15_31, fq16_31, fq17_31, fq18_31, fq19_31, fq20_31, fq21_31, fq22_31, fq23_31⟩, st31⟩ := own_init X30 hx hZ (y := (⟨OwnK0, "<init>", "()V"⟩ : MethodName)) rfl hown (own_w hw 3 rfl) (own_w hw 4 rfl) (own_w hw 2 rfl) (own_w hw 5 rfl) (by decide) (sp1 l Z a0 hw [] b30 h30 n0 Z_30 A30 F_count_30 F_cursor_30 F_ends_30 F_lastOpened_30 F_segmentEnd_30 F_segmentFirst_30 F_segmentLimit_30 F_segments_30 F_starts_30 g_b30) e30 (a := b30) 1 (argsL := []) (rest := [(.ref b30)]) (Ls := #[iv x0, iv x1, iv x2, iv x3, iv x4, iv x5, iv 0, iv 1, iv v8, iv v9, iv v10, .unset, .unset, .unset, .unset, .unset]) (by rw [hml]; rfl) (lenOf pd___V rfl) rfl rfl (Nat.le_of_eq rfl) (hb hby at_90) (by decide) (by decide) (by decide) (by decide)
            have g_w0_31 : n0 ≤ w0_31 := syw0_31.2
            have ne_b30_w0_31 : b30 ≠ w0_31 := Nat.ne_of_lt (Nat.lt_of_lt_of_le A30.lt syw0_31.1)
            have g_w1_31 : n0 ≤ w1_31 := syw1_31.2
            have ne_b30_w1_31 : b30 ≠ w1_31 := Nat.ne_of_lt (Nat.lt_of_lt_of_le A30.lt syw1_31.1)
            have g_w2_31 : n0 ≤ w2_31 := syw2_31.2
            have ne_b30_w2_31 : b30 ≠ w2_31 := Nat.ne_of_lt (Nat.lt_of_lt_of_le A30.lt syw2_31.1)
            have g_w3_31 : n0 ≤ w3_31 := syw3_31.2
            have ne_b30_w3_31 : b30 ≠ w3_31 := Nat.ne_of_lt (Nat.lt_of_lt_of_le A30.lt syw3_31.1)
            have g_w4_31 : n0 ≤ w4_31 := syw4_31.2
            have ne_b30_w4_31 : b30 ≠ w4_31 := Nat.ne_of_lt (Nat.lt_of_lt_of_le A30.lt syw4_31.1)
            have N31 := Fr.app N0 Nq31
            have cf32 := A30.keep Kq31
            have Z_31 : n0 ≤ T31.heap.size := Nat.le_trans Z_30 Kq31.1
            refine own_go T31 m 93 #[iv x0, iv x1, iv x2, iv x3, iv x4, iv x5, iv 0, iv 1, iv v8, iv v9, iv v10, .unset, .unset, .unset, .unset, .unset] [(.ref b30)] (st31) ?_
            refine own_go T31 m 95 #[iv x0, iv x1, iv x2, iv x3, iv x4, iv x5, iv 0, iv 1, iv v8, iv v9, iv v10, rv b30, .unset, .unset, .unset, .unset] [] (fun t k => XS.astore X31.here hx rfl (hb hby at_93) rfl rfl rfl k) ?_
            refine own_go T31 m 97 #[iv x0, iv x1, iv x2, iv x3, iv x4, iv x5, iv 0, iv 1, iv v8, iv v9, iv v10, rv b30, .unset, .unset, .unset, .unset] [(.ref b30)] (fun t k => XS.aload X31.here hx rfl (hb hby at_95) rfl rfl k) ?_
            refine own_go T31 m 98 #[iv x0, iv x1, iv x2, iv x3, iv x4, iv x5, iv 0, iv 1, iv v8, iv v9, iv v10, rv b30, .unset, .unset, .unset, .unset] [(.int x3), (.ref b30)] (fun t k => XS.iloadN X31.here hx rfl (hb hby at_97) rfl k) ?_
            obtain ⟨_, T33, L33, X33, ⟨rfl, Nq33, Kq33, fq0_33, fq1_33, fq2_33, fq3_33, fq4_33, fq5_33, fq6_33, fq7_33, fq8_33, fq9_33, fq10_33⟩, st33⟩ := own_virtual X31 hx hZ (y := (⟨OwnK0, "beginRead", "(I)V"⟩ : MethodName)) (z := (⟨OwnK0, "beginRead", "(I)V"⟩ : MethodName)) hown (own_w hw 22 rfl) (own_w hw 23 rfl) (notFace_of_selects (args := #[]) (mvT hZ (own_w hw 25 rfl))) (own_w hw 25 rfl) (own_w hw 24 rfl) (own_w hw 2 rfl) (own_w hw 26 rfl) (by decide) (sp2 l Z a0 hw [] b30 w0_31 w1_31 w2_31 w3_31 w4_31 x3 kw2_31 kw4_31 T31.heap n0 Z_31 cf32 fq10_31 fq23_31 fq16_31 fq11_31 fq20_31 fq18_31 fq22_31 fq12_31 fq14_31 fq17_31 fq21_31 ne_b30_w0_31 ne_b30_w1_31 ne_b30_w2_31 ne_b30_w3_31 ne_b30_w4_31 fq1_31 fq3_31 fq4_31 fq6_31 fq7_31 fq8_31 fq9_31 g_b30 g_w2_31 g_w4_31) rfl cf32 0 (argsL := [(.int x3)]) (rest := []) (Ls := #[iv x0, iv x1, iv x2, iv x3, iv x4, iv x5, iv 0, iv 1, iv v8, iv v9, iv v10, rv b30, .unset, .unset, .unset, .unset]) (by rw [hml]; rfl) (lenOf pd__I_V rfl) rfl rfl (Nat.le_of_eq rfl) (hb hby at_98) (by decide) (by decide) (by decide) (by decide)
            have N33 := Fr.app N31 Nq33
            have cf34 := cf32.keep Kq33
            have cf35 := fq13_31.keep Kq33 (ninS (Ne.symm ne_b30_w0_31) (ninS fq1_31 (ninS fq3_31 nin0)))
            have cf36 := fq15_31.keep Kq33 (ninS (Ne.symm ne_b30_w1_31) (ninS fq4_31 (ninS fq6_31 nin0)))
            have cf37 := fq19_31.keep Kq33 (ninS (Ne.symm ne_b30_w3_31) (ninS (Ne.symm fq7_31) (ninS fq9_31 nin0)))
            have Z_33 : n0 ≤ T33.heap.size := Nat.le_trans Z_31 Kq33.1
            refine own_go T33 m 101 #[iv x0, iv x1, iv x2, iv x3, iv x4, iv x5, iv 0, iv 1, iv v8, iv v9, iv v10, rv b30, .unset, .unset, .unset, .unset] [] (st33) ?_
            refine own_go T33 m 103 #[iv x0, iv x1, iv x2, iv x3, iv x4, iv x5, iv 0, iv 1, iv v8, iv v9, iv v10, rv b30, .unset, .unset, .unset, .unset] [(.int 0)] (fun t k => XS.iload X33.here hx rfl (hb hby at_101) rfl k) ?_
            refine own_go T33 m 113 #[iv x0, iv x1, iv x2, iv x3, iv x4, iv x5, iv 0, iv 1, iv v8, iv v9, iv v10, rv b30, .unset, .unset, .unset, .unset] [] (fun t k => XS.ifYes X33.here hx rfl (pc0 := 103) (pc' := 113) rfl (hb hby at_103) rfl ((if0 _ _).trans (teq (by decide)).1) (by decide) (by decide) k) ?_
            refine own_go T33 m 115 #[iv x0, iv x1, iv x2, iv x3, iv x4, iv x5, iv 0, iv 1, iv v8, iv v9, iv v10, rv b30, .unset, .unset, .unset, .unset] [(.int 1)] (fun t k => XS.iload X33.here hx rfl (hb hby at_113) rfl k) ?_
            refine own_go T33 m 118 #[iv x0, iv x1, iv x2, iv x3, iv x4, iv x5, iv 0, iv 1, iv v8, iv v9, iv v10, rv b30, .unset, .unset, .unset, .unset] [] (fun t k => XS.ifNo X33.here hx rfl (hb hby at_115) rfl ((if0 _ _).trans (feq (by decide)).1) k) ?_
            refine own_go T33 m 120 #[iv x0, iv x1, iv x2, iv x3, iv x4, iv x5, iv 0, iv 1, iv v8, iv v9, iv v10, rv b30, .unset, .unset, .unset, .unset] [(.ref b30)] (fun t k => XS.aload X33.here hx rfl (hb hby at_118) rfl rfl k) ?_
            refine own_go T33 m 122 #[iv x0, iv x1, iv x2, iv x3, iv x4, iv x5, iv 0, iv 1, iv v8, iv v9, iv v10, rv b30, .unset, .unset, .unset, .unset] [(.int v10), (.ref b30)] (fun t k => XS.iload X33.here hx rfl (hb hby at_120) rfl k) ?_
            obtain ⟨_, T38, L38, X38, ⟨rfl, Nq38, Kq38, fq0_38, fq1_38, fq2_38, fq3_38, fq4_38, fq5_38, fq6_38, fq7_38, fq8_38, fq9_38, fq10_38⟩, st38⟩ := own_virtual X33 hx hZ (y := (⟨OwnK0, "beginRead", "(I)V"⟩ : MethodName)) (z := (⟨OwnK0, "beginRead", "(I)V"⟩ : MethodName)) hown (own_w hw 22 rfl) (own_w hw 23 rfl) (notFace_of_selects (args := #[]) (mvT hZ (own_w hw 25 rfl))) (own_w hw 25 rfl) (own_w hw 24 rfl) (own_w hw 2 rfl) (own_w hw 26 rfl) (by decide) (sp5 l Z a0 hw [] b30 w1_31 w3_31 w2_31 w4_31 w0_31 v10 x3 kw2_31 kw4_31 T33.heap n0 Z_33 cf34 fq0_33 fq10_33 fq1_33 fq2_33 fq3_33 fq4_33 fq5_33 fq9_33 fq6_33 fq7_33 fq8_33 ne_b30_w1_31 ne_b30_w3_31 ne_b30_w2_31 ne_b30_w4_31 ne_b30_w0_31 fq4_31 fq6_31 (Ne.symm fq7_31) fq9_31 fq8_31 (Ne.symm fq1_31) (Ne.symm fq3_31) g_b30 g_w2_31 g_w4_31) rfl cf34 0 (argsL := [(.int v10)]) (rest := []) (Ls := #[iv x0, iv x1, iv x2, iv x3, iv x4, iv x5, iv 0, iv 1, iv v8, iv v9, iv v10, rv b30, .unset, .unset, .unset, .unset]) (by rw [hml]; rfl) (lenOf pd__I_V rfl) rfl rfl (Nat.le_of_eq rfl) (hb hby at_122) (by decide) (by decide) (by decide) (by decide)
            have N38 := Fr.app N33 Nq38
            have cf39 := cf34.keep Kq38
            have cf40 := cf35.keep Kq38 (ninS (Ne.symm ne_b30_w0_31) (ninS fq1_31 (ninS fq3_31 nin0)))
            have cf41 := cf36.keep Kq38 (ninS (Ne.symm ne_b30_w1_31) (ninS fq4_31 (ninS fq6_31 nin0)))
            have cf42 := cf37.keep Kq38 (ninS (Ne.symm ne_b30_w3_31) (ninS (Ne.symm fq7_31) (ninS fq9_31 nin0)))
            have Z_38 : n0 ≤ T38.heap.size := Nat.le_trans Z_33 Kq38.1
            refine own_go T38 m 125 #[iv x0, iv x1, iv x2, iv x3, iv x4, iv x5, iv 0, iv 1, iv v8, iv v9, iv v10, rv b30, .unset, .unset, .unset, .unset] [] (st38) ?_
            refine own_go T38 m 127 #[iv x0, iv x1, iv x2, iv x3, iv x4, iv x5, iv 0, iv 1, iv v8, iv v9, iv v10, rv b30, .unset, .unset, .unset, .unset] [(.ref b30)] (fun t k => XS.aload X38.here hx rfl (hb hby at_125) rfl rfl k) ?_
            refine own_go T38 m 128 #[iv x0, iv x1, iv x2, iv x3, iv x4, iv x5, iv 0, iv 1, iv v8, iv v9, iv v10, rv b30, .unset, .unset, .unset, .unset] [(.int x2), (.ref b30)] (fun t k => XS.iloadN X38.here hx rfl (hb hby at_127) rfl k) ?_
            obtain ⟨_, T43, L43, X43, ⟨rfl, Nq43, Kq43, fq0_43, fq1_43, fq2_43, fq3_43, fq4_43, fq5_43, fq6_43, fq7_43, fq8_43⟩, st43⟩ := own_virtual X38 hx hZ (y := (⟨OwnK0, "endRead", "(I)V"⟩ : MethodName)) (z := (⟨OwnK0, "endRead", "(I)V"⟩ : MethodName)) hown (own_w hw 38 rfl) (own_w hw 39 rfl) (notFace_of_selects (args := #[]) (mvT hZ (own_w hw 41 rfl))) (own_w hw 41 rfl) (own_w hw 40 rfl) (own_w hw 2 rfl) (own_w hw 42 rfl) (by decide) (sp6 l Z a0 hw [] b30 w1_31 w3_31 w2_31 w4_31 w0_31 x2 kw2_31 T38.heap n0 Z_38 cf39 fq0_38 fq10_38 fq1_38 fq2_38 fq3_38 fq4_38 fq5_38 fq9_38 fq6_38 fq7_38 ne_b30_w1_31 ne_b30_w3_31 ne_b30_w2_31 ne_b30_w4_31 ne_b30_w0_31 g_b30) rfl cf39 0 (argsL := [(.int x2)]) (rest := []) (Ls := #[iv x0, iv x1, iv x2, iv x3, iv x4, iv x5, iv 0, iv 1, iv v8, iv v9, iv v10, rv b30, .unset, .unset, .unset, .unset]) (by rw [hml]; rfl) (lenOf pd__I_V rfl) rfl rfl (Nat.le_of_eq rfl) (hb hby at_128) (by decide) (by decide) (by decide) (by decide)
            have N43 := Fr.app N38 Nq43
            have cf44 := cf39.keep Kq43
            have cf45 := cf40.keep Kq43 (ninS (Ne.symm ne_b30_w0_31) nin0)
            have cf46 := cf41.keep Kq43 (ninS (Ne.symm ne_b30_w1_31) nin0)
            have cf47 := cf42.keep Kq43 (ninS (Ne.symm ne_b30_w3_31) nin0)
            have cf48 := fq7_38.keep Kq43 (ninS (Ne.symm ne_b30_w2_31) nin0)
            have cf49 := fq8_38.keep Kq43 (ninS (Ne.symm ne_b30_w4_31) nin0)
            have Z_43 : n0 ≤ T43.heap.size := Nat.le_trans Z_38 Kq43.1
            refine own_go T43 m 131 #[iv x0, iv x1, iv x2, iv x3, iv x4, iv x5, iv 0, iv 1, iv v8, iv v9, iv v10, rv b30, .unset, .unset, .unset, .unset] [] (st43) ?_
            refine own_go T43 m 133 #[iv x0, iv x1, iv x2, iv x3, iv x4, iv x5, iv 0, iv 1, iv v8, iv v9, iv v10, rv b30, .unset, .unset, .unset, .unset] [(.ref b30)] (fun t k => XS.aload X43.here hx rfl (hb hby at_131) rfl rfl k) ?_
            refine own_go T43 m 135 #[iv x0, iv x1, iv x2, iv x3, iv x4, iv x5, iv 0, iv 1, iv v8, iv v9, iv v10, rv b30, .unset, .unset, .unset, .unset] [(.int v9), (.ref b30)] (fun t k => XS.iload X43.here hx rfl (hb hby at_133) rfl k) ?_
            obtain ⟨_, T50, L50, X50, ⟨rfl, Nq50, Kq50, fq0_50, fq1_50, fq2_50, fq3_50, fq4_50, fq5_50, fq6_50, fq7_50, fq8_50⟩, st50⟩ := own_virtual X43 hx hZ (y := (⟨OwnK0, "endRead", "(I)V"⟩ : MethodName)) (z := (⟨OwnK0, "endRead", "(I)V"⟩ : MethodName)) hown (own_w hw 38 rfl) (own_w hw 39 rfl) (notFace_of_selects (args := #[]) (mvT hZ (own_w hw 41 rfl))) (own_w hw 41 rfl) (own_w hw 40 rfl) (own_w hw 2 rfl) (own_w hw 42 rfl) (by decide) (sp3 l Z a0 hw [] b30 w1_31 w3_31 w2_31 w4_31 w0_31 v9 kw2_31 T43.heap n0 Z_43 cf44 fq0_43 fq1_43 fq2_43 fq3_43 fq4_43 fq5_43 fq6_43 fq8_43 fq7_43 cf48 ne_b30_w1_31 ne_b30_w3_31 ne_b30_w2_31 ne_b30_w4_31 ne_b30_w0_31 g_b30) rfl cf44 0 (argsL := [(.int v9)]) (rest := []) (Ls := #[iv x0, iv x1, iv x2, iv x3, iv x4, iv x5, iv 0, iv 1, iv v8, iv v9, iv v10, rv b30, .unset, .unset, .unset, .unset]) (by rw [hml]; rfl) (lenOf pd__I_V rfl) rfl rfl (Nat.le_of_eq rfl) (hb hby at_135) (by decide) (by decide) (by decide) (by decide)
            have N50 := Fr.app N43 Nq50
            have cf51 := cf44.keep Kq50
            have cf52 := cf45.keep Kq50 (ninS (Ne.symm ne_b30_w0_31) nin0)
            have cf53 := cf46.keep Kq50 (ninS (Ne.symm ne_b30_w1_31) nin0)
            have cf54 := cf47.keep Kq50 (ninS (Ne.symm ne_b30_w3_31) nin0)
            have cf55 := cf48.keep Kq50 (ninS (Ne.symm ne_b30_w2_31) nin0)
            have cf56 := cf49.keep Kq50 (ninS (Ne.symm ne_b30_w4_31) nin0)
            have Z_50 : n0 ≤ T50.heap.size := Nat.le_trans Z_43 Kq50.1
            refine own_go T50 m 138 #[iv x0, iv x1, iv x2, iv x3, iv x4, iv x5, iv 0, iv 1, iv v8, iv v9, iv v10, rv b30, .unset, .unset, .unset, .unset] [] (st50) ?_
            refine own_go T50 m 140 #[iv x0, iv x1, iv x2, iv x3, iv x4, iv x5, iv 0, iv 1, iv v8, iv v9, iv v10, rv b30, .unset, .unset, .unset, .unset] [(.ref b30)] (fun t k => XS.aload X50.here hx rfl (hb hby at_138) rfl rfl k) ?_
            refine own_go T50 m 142 #[iv x0, iv x1, iv x2, iv x3, iv x4, iv x5, iv 0, iv 1, iv v8, iv v9, iv v10, rv b30, .unset, .unset, .unset, .unset] [(.int v8), (.ref b30)] (fun t k => XS.iload X50.here hx rfl (hb hby at_140) rfl k) ?_
            refine own_go T50 m 144 #[iv x0, iv x1, iv x2, iv x3, iv x4, iv x5, iv 0, iv 1, iv v8, iv v9, iv v10, rv b30, .unset, .unset, .unset, .unset] [(.int v10), (.int v8), (.ref b30)] (fun t k => XS.iload X50.here hx rfl (hb hby at_142) rfl k) ?_
            obtain ⟨_, T57, L57, X57, ⟨rfl, e57, rfl⟩, st57⟩ := own_virtual X50 hx hZ (y := (⟨OwnK0, "find", "(II)I"⟩ : MethodName)) (z := (⟨OwnK0, "find", "(II)I"⟩ : MethodName)) hown (own_w hw 43 rfl) (own_w hw 44 rfl) (notFace_of_selects (args := #[]) (mvT hZ (own_w hw 46 rfl))) (own_w hw 46 rfl) (own_w hw 45 rfl) (own_w hw 2 rfl) (own_w hw 47 rfl) (by decide) (sp4 l Z a0 hw [] b30 v8 v10 T50.heap n0 Z_50 fq8_50) rfl cf51 0 (argsL := [(.int v8), (.int v10)]) (rest := []) (Ls := #[iv x0, iv x1, iv x2, iv x3, iv x4, iv x5, iv 0, iv 1, iv v8, iv v9, iv v10, rv b30, .unset, .unset, .unset, .unset]) (by rw [hml]; rfl) (lenOf pd__II_I rfl) rfl rfl (Nat.le_of_eq rfl) (hb hby at_144) (by decide) (by decide) (by decide) (by decide)
            replace X57 := own_nil X57
            refine own_go T57 m 147 #[iv x0, iv x1, iv x2, iv x3, iv x4, iv x5, iv 0, iv 1, iv v8, iv v9, iv v10, rv b30, .unset, .unset, .unset, .unset] [(.int (-1))] (st57) ?_
            refine own_go T57 m 149 #[iv x0, iv x1, iv x2, iv x3, iv x4, iv x5, iv 0, iv 1, iv v8, iv v9, iv v10, rv b30, iv (-1), .unset, .unset, .unset] [] (fun t k => XS.istore X57.here hx rfl (hb hby at_147) rfl rfl k) ?_
            refine own_go T57 m 151 #[iv x0, iv x1, iv x2, iv x3, iv x4, iv x5, iv 0, iv 1, iv v8, iv v9, iv v10, rv b30, iv (-1), .unset, .unset, .unset] [(.int v8)] (fun t k => XS.iload X57.here hx rfl (hb hby at_149) rfl k) ?_
            refine own_go T57 m 152 #[iv x0, iv x1, iv x2, iv x3, iv x4, iv x5, iv 0, iv 1, iv v8, iv v9, iv v10, rv b30, iv (-1), .unset, .unset, .unset] [(.int x0), (.int v8)] (fun t k => XS.iloadN X57.here hx rfl (hb hby at_151) rfl k) ?_
            by_cases hc152_58 : v8 < x0
            · refine own_go T57 m 166 #[iv x0, iv x1, iv x2, iv x3, iv x4, iv x5, iv 0, iv 1, iv v8, iv v9, iv v10, rv b30, iv (-1), .unset, .unset, .unset] [] (fun t k => XS.icmpYes X57.here hx rfl (pc0 := 152) (pc' := 166) rfl (hb hby at_152) rfl (tlt hc152_58).1 (by decide) (by decide) k) ?_
              refine own_go T57 m 167 #[iv x0, iv x1, iv x2, iv x3, iv x4, iv x5, iv 0, iv 1, iv v8, iv v9, iv v10, rv b30, iv (-1), .unset, .unset, .unset] [(.int 0)] (fun t k => XS.iconst X57.here hx rfl (hb hby at_166) k) ?_
              refine own_go T57 m 169 #[iv x0, iv x1, iv x2, iv x3, iv x4, iv x5, iv 0, iv 1, iv v8, iv v9, iv v10, rv b30, iv (-1), iv 0, .unset, .unset] [] (fun t k => XS.istore X57.here hx rfl (hb hby at_167) rfl rfl k) ?_
              refine own_go T57 m 171 #[iv x0, iv x1, iv x2, iv x3, iv x4, iv x5, iv 0, iv 1, iv v8, iv v9, iv v10, rv b30, iv (-1), iv 0, .unset, .unset] [(.int 0)] (fun t k => XS.iload X57.here hx rfl (hb hby at_169) rfl k) ?_
              refine own_go T57 m 189 #[iv x0, iv x1, iv x2, iv x3, iv x4, iv x5, iv 0, iv 1, iv v8, iv v9, iv v10, rv b30, iv (-1), iv 0, .unset, .unset] [] (fun t k => XS.ifYes X57.here hx rfl (pc0 := 171) (pc' := 189) rfl (hb hby at_171) rfl ((if0 _ _).trans (teq (by decide)).1) (by decide) (by decide) k) ?_
              refine own_go T57 m 190 #[iv x0, iv x1, iv x2, iv x3, iv x4, iv x5, iv 0, iv 1, iv v8, iv v9, iv v10, rv b30, iv (-1), iv 0, .unset, .unset] [(.int 0)] (fun t k => XS.iconst X57.here hx rfl (hb hby at_189) k) ?_
              refine own_go T57 m 192 #[iv x0, iv x1, iv x2, iv x3, iv x4, iv x5, iv 0, iv 1, iv v8, iv v9, iv v10, rv b30, iv (-1), iv 0, iv 0, .unset] [] (fun t k => XS.istore X57.here hx rfl (hb hby at_190) rfl rfl k) ?_
              refine own_go T57 m 194 #[iv x0, iv x1, iv x2, iv x3, iv x4, iv x5, iv 0, iv 1, iv v8, iv v9, iv v10, rv b30, iv (-1), iv 0, iv 0, .unset] [(.int 0)] (fun t k => XS.iload X57.here hx rfl (hb hby at_192) rfl k) ?_
              refine own_go T57 m 214 #[iv x0, iv x1, iv x2, iv x3, iv x4, iv x5, iv 0, iv 1, iv v8, iv v9, iv v10, rv b30, iv (-1), iv 0, iv 0, .unset] [] (fun t k => XS.ifYes X57.here hx rfl (pc0 := 194) (pc' := 214) rfl (hb hby at_194) rfl ((if0 _ _).trans (teq (by decide)).1) (by decide) (by decide) k) ?_
              refine own_go T57 m 215 #[iv x0, iv x1, iv x2, iv x3, iv x4, iv x5, iv 0, iv 1, iv v8, iv v9, iv v10, rv b30, iv (-1), iv 0, iv 0, .unset] [(.int (-1))] (fun t k => XS.iconst X57.here hx rfl (hb hby at_214) k) ?_
              refine own_go T57 m 217 #[iv x0, iv x1, iv x2, iv x3, iv x4, iv x5, iv 0, iv 1, iv v8, iv v9, iv v10, rv b30, iv (-1), iv 0, iv 0, iv (-1)] [] (fun t k => XS.istore X57.here hx rfl (hb hby at_215) rfl rfl k) ?_
              refine own_go T57 m 219 #[iv x0, iv x1, iv x2, iv x3, iv x4, iv x5, iv 0, iv 1, iv v8, iv v9, iv v10, rv b30, iv (-1), iv 0, iv 0, iv (-1)] [(.int (-1))] (fun t k => XS.iload X57.here hx rfl (hb hby at_217) rfl k) ?_
              refine own_go T57 m 221 #[iv x0, iv x1, iv x2, iv x3, iv x4, iv x5, iv 0, iv 1, iv v8, iv v9, iv v10, rv b30, iv (-1), iv 0, iv 0, iv (-1)] [(.int (-1)), (.int (-1))] (fun t k => XS.iload X57.here hx rfl (hb hby at_219) rfl k) ?_
              refine own_go T57 m 224 #[iv x0, iv x1, iv x2, iv x3, iv x4, iv x5, iv 0, iv 1, iv v8, iv v9, iv v10, rv b30, iv (-1), iv 0, iv 0, iv (-1)] [] (fun t k => XS.icmpNo X57.here hx rfl (hb hby at_221) rfl (teq (by decide)).2 k) ?_
              refine own_go T57 m 225 #[iv x0, iv x1, iv x2, iv x3, iv x4, iv x5, iv 0, iv 1, iv v8, iv v9, iv v10, rv b30, iv (-1), iv 0, iv 0, iv (-1)] [(.int 1)] (fun t k => XS.iconst X57.here hx rfl (hb hby at_224) k) ?_
              refine own_go T57 m 229 #[iv x0, iv x1, iv x2, iv x3, iv x4, iv x5, iv 0, iv 1, iv v8, iv v9, iv v10, rv b30, iv (-1), iv 0, iv 0, iv (-1)] [(.int 1)] (fun t k => XS.goto X57.here hx rfl (pc0 := 225) (pc' := 229) rfl (hb hby at_225) (by decide) (by decide) k) ?_
              refine own_retZ X57 hx hlk hret (by decide) (hb hby at_229) (by decide) (by decide) ?_
              exact ⟨rfl, N50⟩
            · refine own_go T57 m 155 #[iv x0, iv x1, iv x2, iv x3, iv x4, iv x5, iv 0, iv 1, iv v8, iv v9, iv v10, rv b30, iv (-1), .unset, .unset, .unset] [] (fun t k => XS.icmpNo X57.here hx rfl (hb hby at_152) rfl (flt hc152_58).1 k) ?_
              refine own_go T57 m 157 #[iv x0, iv x1, iv x2, iv x3, iv x4, iv x5, iv 0, iv 1, iv v8, iv v9, iv v10, rv b30, iv (-1), .unset, .unset, .unset] [(.int v8)] (fun t k => XS.iload X57.here hx rfl (hb hby at_155) rfl k) ?_
              refine own_go T57 m 159 #[iv x0, iv x1, iv x2, iv x3, iv x4, iv x5, iv 0, iv 1, iv v8, iv v9, iv v10, rv b30, iv (-1), .unset, .unset, .unset] [(.int v9), (.int v8)] (fun t k => XS.iload X57.here hx rfl (hb hby at_157) rfl k) ?_
              by_cases hc159_59 : v8 < v9
              · refine own_go T57 m 162 #[iv x0, iv x1, iv x2, iv x3, iv x4, iv x5, iv 0, iv 1, iv v8, iv v9, iv v10, rv b30, iv (-1), .unset, .unset, .unset] [] (fun t k => XS.icmpNo X57.here hx rfl (hb hby at_159) rfl (tlt hc159_59).2.1 k) ?_
                refine own_go T57 m 163 #[iv x0, iv x1, iv x2, iv x3, iv x4, iv x5, iv 0, iv 1, iv v8, iv v9, iv v10, rv b30, iv (-1), .unset, .unset, .unset] [(.int 1)] (fun t k => XS.iconst X57.here hx rfl (hb hby at_162) k) ?_
                refine own_go T57 m 167 #[iv x0, iv x1, iv x2, iv x3, iv x4, iv x5, iv 0, iv 1, iv v8, iv v9, iv v10, rv b30, iv (-1), .unset, .unset, .unset] [(.int 1)] (fun t k => XS.goto X57.here hx rfl (pc0 := 163) (pc' := 167) rfl (hb hby at_163) (by decide) (by decide) k) ?_
                refine own_go T57 m 169 #[iv x0, iv x1, iv x2, iv x3, iv x4, iv x5, iv 0, iv 1, iv v8, iv v9, iv v10, rv b30, iv (-1), iv 1, .unset, .unset] [] (fun t k => XS.istore X57.here hx rfl (hb hby at_167) rfl rfl k) ?_
                refine own_go T57 m 171 #[iv x0, iv x1, iv x2, iv x3, iv x4, iv x5, iv 0, iv 1, iv v8, iv v9, iv v10, rv b30, iv (-1), iv 1, .unset, .unset] [(.int 0)] (fun t k => XS.iload X57.here hx rfl (hb hby at_169) rfl k) ?_
                refine own_go T57 m 189 #[iv x0, iv x1, iv x2, iv x3, iv x4, iv x5, iv 0, iv 1, iv v8, iv v9, iv v10, rv b30, iv (-1), iv 1, .unset, .unset] [] (fun t k => XS.ifYes X57.here hx rfl (pc0 := 171) (pc' := 189) rfl (hb hby at_171) rfl ((if0 _ _).trans (teq (by decide)).1) (by decide) (by decide) k) ?_
                refine own_go T57 m 190 #[iv x0, iv x1, iv x2, iv x3, iv x4, iv x5, iv 0, iv 1, iv v8, iv v9, iv v10, rv b30, iv (-1), iv 1, .unset, .unset] [(.int 0)] (fun t k => XS.iconst X57.here hx rfl (hb hby at_189) k) ?_
                refine own_go T57 m 192 #[iv x0, iv x1, iv x2, iv x3, iv x4, iv x5, iv 0, iv 1, iv v8, iv v9, iv v10, rv b30, iv (-1), iv 1, iv 0, .unset] [] (fun t k => XS.istore X57.here hx rfl (hb hby at_190) rfl rfl k) ?_
                refine own_go T57 m 194 #[iv x0, iv x1, iv x2, iv x3, iv x4, iv x5, iv 0, iv 1, iv v8, iv v9, iv v10, rv b30, iv (-1), iv 1, iv 0, .unset] [(.int 0)] (fun t k => XS.iload X57.here hx rfl (hb hby at_192) rfl k) ?_
                refine own_go T57 m 214 #[iv x0, iv x1, iv x2, iv x3, iv x4, iv x5, iv 0, iv 1, iv v8, iv v9, iv v10, rv b30, iv (-1), iv 1, iv 0, .unset] [] (fun t k => XS.ifYes X57.here hx rfl (pc0 := 194) (pc' := 214) rfl (hb hby at_194) rfl ((if0 _ _).trans (teq (by decide)).1) (by decide) (by decide) k) ?_
                refine own_go T57 m 215 #[iv x0, iv x1, iv x2, iv x3, iv x4, iv x5, iv 0, iv 1, iv v8, iv v9, iv v10, rv b30, iv (-1), iv 1, iv 0, .unset] [(.int (-1))] (fun t k => XS.iconst X57.here hx rfl (hb hby at_214) k) ?_
                refine own_go T57 m 217 #[iv x0, iv x1, iv x2, iv x3, iv x4, iv x5, iv 0, iv 1, iv v8, iv v9, iv v10, rv b30, iv (-1), iv 1, iv 0, iv (-1)] [] (fun t k => XS.istore X57.here hx rfl (hb hby at_215) rfl rfl k) ?_
                refine own_go T57 m 219 #[iv x0, iv x1, iv x2, iv x3, iv x4, iv x5, iv 0, iv 1, iv v8, iv v9, iv v10, rv b30, iv (-1), iv 1, iv 0, iv (-1)] [(.int (-1))] (fun t k => XS.iload X57.here hx rfl (hb hby at_217) rfl k) ?_
                refine own_go T57 m 221 #[iv x0, iv x1, iv x2, iv x3, iv x4, iv x5, iv 0, iv 1, iv v8, iv v9, iv v10, rv b30, iv (-1), iv 1, iv 0, iv (-1)] [(.int (-1)), (.int (-1))] (fun t k => XS.iload X57.here hx rfl (hb hby at_219) rfl k) ?_
                refine own_go T57 m 224 #[iv x0, iv x1, iv x2, iv x3, iv x4, iv x5, iv 0, iv 1, iv v8, iv v9, iv v10, rv b30, iv (-1), iv 1, iv 0, iv (-1)] [] (fun t k => XS.icmpNo X57.here hx rfl (hb hby at_221) rfl (teq (by decide)).2 k) ?_
                refine own_go T57 m 225 #[iv x0, iv x1, iv x2, iv x3, iv x4, iv x5, iv 0, iv 1, iv v8, iv v9, iv v10, rv b30, iv (-1), iv 1, iv 0, iv (-1)] [(.int 1)] (fun t k => XS.iconst X57.here hx rfl (hb hby at_224) k) ?_
                refine own_go T57 m 229 #[iv x0, iv x1, iv x2, iv x3, iv x4, iv x5, iv 0, iv 1, iv v8, iv v9, iv v10, rv b30, iv (-1), iv 1, iv 0, iv (-1)] [(.int 1)] (fun t k => XS.goto X57.here hx rfl (pc0 := 225) (pc' := 229) rfl (hb hby at_225) (by decide) (by decide) k) ?_
                refine own_retZ X57 hx hlk hret (by decide) (hb hby at_229) (by decide) (by decide) ?_
                exact ⟨rfl, N50⟩
              · refine own_go T57 m 166 #[iv x0, iv x1, iv x2, iv x3, iv x4, iv x5, iv 0, iv 1, iv v8, iv v9, iv v10, rv b30, iv (-1), .unset, .unset, .unset] [] (fun t k => XS.icmpYes X57.here hx rfl (pc0 := 159) (pc' := 166) rfl (hb hby at_159) rfl (flt hc159_59).2.1 (by decide) (by decide) k) ?_
                refine own_go T57 m 167 #[iv x0, iv x1, iv x2, iv x3, iv x4, iv x5, iv 0, iv 1, iv v8, iv v9, iv v10, rv b30, iv (-1), .unset, .unset, .unset] [(.int 0)] (fun t k => XS.iconst X57.here hx rfl (hb hby at_166) k) ?_
                refine own_go T57 m 169 #[iv x0, iv x1, iv x2, iv x3, iv x4, iv x5, iv 0, iv 1, iv v8, iv v9, iv v10, rv b30, iv (-1), iv 0, .unset, .unset] [] (fun t k => XS.istore X57.here hx rfl (hb hby at_167) rfl rfl k) ?_
                refine own_go T57 m 171 #[iv x0, iv x1, iv x2, iv x3, iv x4, iv x5, iv 0, iv 1, iv v8, iv v9, iv v10, rv b30, iv (-1), iv 0, .unset, .unset] [(.int 0)] (fun t k => XS.iload X57.here hx rfl (hb hby at_169) rfl k) ?_
                refine own_go T57 m 189 #[iv x0, iv x1, iv x2, iv x3, iv x4, iv x5, iv 0, iv 1, iv v8, iv v9, iv v10, rv b30, iv (-1), iv 0, .unset, .unset] [] (fun t k => XS.ifYes X57.here hx rfl (pc0 := 171) (pc' := 189) rfl (hb hby at_171) rfl ((if0 _ _).trans (teq (by decide)).1) (by decide) (by decide) k) ?_
                refine own_go T57 m 190 #[iv x0, iv x1, iv x2, iv x3, iv x4, iv x5, iv 0, iv 1, iv v8, iv v9, iv v10, rv b30, iv (-1), iv 0, .unset, .unset] [(.int 0)] (fun t k => XS.iconst X57.here hx rfl (hb hby at_189) k) ?_
                refine own_go T57 m 192 #[iv x0, iv x1, iv x2, iv x3, iv x4, iv x5, iv 0, iv 1, iv v8, iv v9, iv v10, rv b30, iv (-1), iv 0, iv 0, .unset] [] (fun t k => XS.istore X57.here hx rfl (hb hby at_190) rfl rfl k) ?_
                refine own_go T57 m 194 #[iv x0, iv x1, iv x2, iv x3, iv x4, iv x5, iv 0, iv 1, iv v8, iv v9, iv v10, rv b30, iv (-1), iv 0, iv 0, .unset] [(.int 0)] (fun t k => XS.iload X57.here hx rfl (hb hby at_192) rfl k) ?_
                refine own_go T57 m 214 #[iv x0, iv x1, iv x2, iv x3, iv x4, iv x5, iv 0, iv 1, iv v8, iv v9, iv v10, rv b30, iv (-1), iv 0, iv 0, .unset] [] (fun t k => XS.ifYes X57.here hx rfl (pc0 := 194) (pc' := 214) rfl (hb hby at_194) rfl ((if0 _ _).trans (teq (by decide)).1) (by decide) (by decide) k) ?_
                refine own_go T57 m 215 #[iv x0, iv x1, iv x2, iv x3, iv x4, iv x5, iv 0, iv 1, iv v8, iv v9, iv v10, rv b30, iv (-1), iv 0, iv 0, .unset] [(.int (-1))] (fun t k => XS.iconst X57.here hx rfl (hb hby at_214) k) ?_
                refine own_go T57 m 217 #[iv x0, iv x1, iv x2, iv x3, iv x4, iv x5, iv 0, iv 1, iv v8, iv v9, iv v10, rv b30, iv (-1), iv 0, iv 0, iv (-1)] [] (fun t k => XS.istore X57.here hx rfl (hb hby at_215) rfl rfl k) ?_
                refine own_go T57 m 219 #[iv x0, iv x1, iv x2, iv x3, iv x4, iv x5, iv 0, iv 1, iv v8, iv v9, iv v10, rv b30, iv (-1), iv 0, iv 0, iv (-1)] [(.int (-1))] (fun t k => XS.iload X57.here hx rfl (hb hby at_217) rfl k) ?_
                refine own_go T57 m 221 #[iv x0, iv x1, iv x2, iv x3, iv x4, iv x5, iv 0, iv 1, iv v8, iv v9, iv v10, rv b30, iv (-1), iv 0, iv 0, iv (-1)] [(.int (-1)), (.int (-1))] (fun t k => XS.iload X57.here hx rfl (hb hby at_219) rfl k) ?_
                refine own_go T57 m 224 #[iv x0, iv x1, iv x2, iv x3, iv x4, iv x5, iv 0, iv 1, iv v8, iv v9, iv v10, rv b30, iv (-1), iv 0, iv 0, iv (-1)] [] (fun t k => XS.icmpNo X57.here hx rfl (hb hby at_221) rfl (teq (by decide)).2 k) ?_
                refine own_go T57 m 225 #[iv x0, iv x1, iv x2, iv x3, iv x4, iv x5, iv 0, iv 1, iv v8, iv v9, iv v10, rv b30, iv (-1), iv 0, iv 0, iv (-1)] [(.int 1)] (fun t k => XS.iconst X57.here hx rfl (hb hby at_224) k) ?_
                refine own_go T57 m 229 #[iv x0, iv x1, iv x2, iv x3, iv x4, iv x5, iv 0, iv 1, iv v8, iv v9, iv v10, rv b30, iv (-1), iv 0, iv 0, iv (-1)] [(.int 1)] (fun t k => XS.goto X57.here hx rfl (pc0 := 225) (pc' := 229) rfl (hb hby at_225) (by decide) (by decide) k) ?_
                refine own_retZ X57 hx hlk hret (by decide) (hb hby at_229) (by decide) (by decide) ?_
                exact ⟨rfl, N50⟩
          by_cases hc68_60 : (x5 &&& (16 : Int32)) = (0 : Int32)
          · refine own_go T0 m 82 #[iv x0, iv x1, iv x2, iv x3, iv x4, iv x5, iv 0, iv 1, iv v8, iv v9, .unset, .unset, .unset, .unset, .unset, .unset] [] (fun t k => XS.ifYes X0.here hx rfl (pc0 := 68) (pc' := 82) rfl (hb hby at_68) rfl ((if0 _ _).trans (teq hc68_60).1) (by decide) (by decide) k) ?_
            refine own_go T0 m 84 #[iv x0, iv x1, iv x2, iv x3, iv x4, iv x5, iv 0, iv 1, iv v8, iv v9, .unset, .unset, .unset, .unset, .unset, .unset] [(.int x4)] (fun t k => XS.iload X0.here hx rfl (hb hby at_82) rfl k) ?_
            refine own_go T0 m 86 #[iv x0, iv x1, iv x2, iv x3, iv x4, iv x5, iv 0, iv 1, iv v8, iv v9, iv x4, .unset, .unset, .unset, .unset, .unset] [] (fun t k => XS.istore X0.here hx rfl (hb hby at_84) rfl rfl k) ?_
            exact seg86 x4
          · refine own_go T0 m 71 #[iv x0, iv x1, iv x2, iv x3, iv x4, iv x5, iv 0, iv 1, iv v8, iv v9, .unset, .unset, .unset, .unset, .unset, .unset] [] (fun t k => XS.ifNo X0.here hx rfl (hb hby at_68) rfl ((if0 _ _).trans (feq hc68_60).1) k) ?_
            refine own_go T0 m 72 #[iv x0, iv x1, iv x2, iv x3, iv x4, iv x5, iv 0, iv 1, iv v8, iv v9, .unset, .unset, .unset, .unset, .unset, .unset] [(.int x3)] (fun t k => XS.iloadN X0.here hx rfl (hb hby at_71) rfl k) ?_
            refine own_go T0 m 74 #[iv x0, iv x1, iv x2, iv x3, iv x4, iv x5, iv 0, iv 1, iv v8, iv v9, .unset, .unset, .unset, .unset, .unset, .unset] [(.int x4), (.int x3)] (fun t k => XS.iload X0.here hx rfl (hb hby at_72) rfl k) ?_
            refine own_go T0 m 75 #[iv x0, iv x1, iv x2, iv x3, iv x4, iv x5, iv 0, iv 1, iv v8, iv v9, .unset, .unset, .unset, .unset, .unset, .unset] [(.int 3), (.int x4), (.int x3)] (fun t k => XS.iconst X0.here hx rfl (hb hby at_74) k) ?_
            refine own_go T0 m 76 #[iv x0, iv x1, iv x2, iv x3, iv x4, iv x5, iv 0, iv 1, iv v8, iv v9, .unset, .unset, .unset, .unset, .unset, .unset] [(.int (x4 &&& (3 : Int32))), (.int x3)] (fun t k => XS.iand X0.here hx rfl (hb hby at_75) rfl k) ?_
            refine own_go T0 m 77 #[iv x0, iv x1, iv x2, iv x3, iv x4, iv x5, iv 0, iv 1, iv v8, iv v9, .unset, .unset, .unset, .unset, .unset, .unset] [(.int 1), (.int (x4 &&& (3 : Int32))), (.int x3)] (fun t k => XS.iconst X0.here hx rfl (hb hby at_76) k) ?_
            refine own_go T0 m 78 #[iv x0, iv x1, iv x2, iv x3, iv x4, iv x5, iv 0, iv 1, iv v8, iv v9, .unset, .unset, .unset, .unset, .unset, .unset] [(.int ((x4 &&& (3 : Int32)) - (1 : Int32))), (.int x3)] (fun t k => XS.isub X0.here hx rfl (hb hby at_77) rfl k) ?_
            refine own_go T0 m 79 #[iv x0, iv x1, iv x2, iv x3, iv x4, iv x5, iv 0, iv 1, iv v8, iv v9, .unset, .unset, .unset, .unset, .unset, .unset] [(.int (x3 + ((x4 &&& (3 : Int32)) - (1 : Int32))))] (fun t k => XS.iadd X0.here hx rfl (hb hby at_78) rfl k) ?_
            refine own_go T0 m 84 #[iv x0, iv x1, iv x2, iv x3, iv x4, iv x5, iv 0, iv 1, iv v8, iv v9, .unset, .unset, .unset, .unset, .unset, .unset] [(.int (x3 + ((x4 &&& (3 : Int32)) - (1 : Int32))))] (fun t k => XS.goto X0.here hx rfl (pc0 := 79) (pc' := 84) rfl (hb hby at_79) (by decide) (by decide) k) ?_
            refine own_go T0 m 86 #[iv x0, iv x1, iv x2, iv x3, iv x4, iv x5, iv 0, iv 1, iv v8, iv v9, iv (x3 + ((x4 &&& (3 : Int32)) - (1 : Int32))), .unset, .unset, .unset, .unset, .unset] [] (fun t k => XS.istore X0.here hx rfl (hb hby at_84) rfl rfl k) ?_
            exact seg86 (x3 + ((x4 &&& (3 : Int32)) - (1 : Int32)))
        by_cases hc47_61 : (x5 &&& (8 : Int32)) = (0 : Int32)
        · refine own_go T0 m 60 #[iv x0, iv x1, iv x2, iv x3, iv x4, iv x5, iv 0, iv 1, iv v8, .unset, .unset, .unset, .unset, .unset, .unset, .unset] [] (fun t k => XS.ifYes X0.here hx rfl (pc0 := 47) (pc' := 60) rfl (hb hby at_47) rfl ((if0 _ _).trans (teq hc47_61).1) (by decide) (by decide) k) ?_
          refine own_go T0 m 61 #[iv x0, iv x1, iv x2, iv x3, iv x4, iv x5, iv 0, iv 1, iv v8, .unset, .unset, .unset, .unset, .unset, .unset, .unset] [(.int x1)] (fun t k => XS.iloadN X0.here hx rfl (hb hby at_60) rfl k) ?_
          refine own_go T0 m 63 #[iv x0, iv x1, iv x2, iv x3, iv x4, iv x5, iv 0, iv 1, iv v8, iv x1, .unset, .unset, .unset, .unset, .unset, .unset] [] (fun t k => XS.istore X0.here hx rfl (hb hby at_61) rfl rfl k) ?_
          exact seg63 x1
        · refine own_go T0 m 50 #[iv x0, iv x1, iv x2, iv x3, iv x4, iv x5, iv 0, iv 1, iv v8, .unset, .unset, .unset, .unset, .unset, .unset, .unset] [] (fun t k => XS.ifNo X0.here hx rfl (hb hby at_47) rfl ((if0 _ _).trans (feq hc47_61).1) k) ?_
          refine own_go T0 m 51 #[iv x0, iv x1, iv x2, iv x3, iv x4, iv x5, iv 0, iv 1, iv v8, .unset, .unset, .unset, .unset, .unset, .unset, .unset] [(.int x0)] (fun t k => XS.iloadN X0.here hx rfl (hb hby at_50) rfl k) ?_
          refine own_go T0 m 52 #[iv x0, iv x1, iv x2, iv x3, iv x4, iv x5, iv 0, iv 1, iv v8, .unset, .unset, .unset, .unset, .unset, .unset, .unset] [(.int x1), (.int x0)] (fun t k => XS.iloadN X0.here hx rfl (hb hby at_51) rfl k) ?_
          refine own_go T0 m 53 #[iv x0, iv x1, iv x2, iv x3, iv x4, iv x5, iv 0, iv 1, iv v8, .unset, .unset, .unset, .unset, .unset, .unset, .unset] [(.int 3), (.int x1), (.int x0)] (fun t k => XS.iconst X0.here hx rfl (hb hby at_52) k) ?_
          refine own_go T0 m 54 #[iv x0, iv x1, iv x2, iv x3, iv x4, iv x5, iv 0, iv 1, iv v8, .unset, .unset, .unset, .unset, .unset, .unset, .unset] [(.int (x1 &&& (3 : Int32))), (.int x0)] (fun t k => XS.iand X0.here hx rfl (hb hby at_53) rfl k) ?_
          refine own_go T0 m 55 #[iv x0, iv x1, iv x2, iv x3, iv x4, iv x5, iv 0, iv 1, iv v8, .unset, .unset, .unset, .unset, .unset, .unset, .unset] [(.int 1), (.int (x1 &&& (3 : Int32))), (.int x0)] (fun t k => XS.iconst X0.here hx rfl (hb hby at_54) k) ?_
          refine own_go T0 m 56 #[iv x0, iv x1, iv x2, iv x3, iv x4, iv x5, iv 0, iv 1, iv v8, .unset, .unset, .unset, .unset, .unset, .unset, .unset] [(.int ((x1 &&& (3 : Int32)) - (1 : Int32))), (.int x0)] (fun t k => XS.isub X0.here hx rfl (hb hby at_55) rfl k) ?_
          refine own_go T0 m 57 #[iv x0, iv x1, iv x2, iv x3, iv x4, iv x5, iv 0, iv 1, iv v8, .unset, .unset, .unset, .unset, .unset, .unset, .unset] [(.int (x0 + ((x1 &&& (3 : Int32)) - (1 : Int32))))] (fun t k => XS.iadd X0.here hx rfl (hb hby at_56) rfl k) ?_
          refine own_go T0 m 61 #[iv x0, iv x1, iv x2, iv x3, iv x4, iv x5, iv 0, iv 1, iv v8, .unset, .unset, .unset, .unset, .unset, .unset, .unset] [(.int (x0 + ((x1 &&& (3 : Int32)) - (1 : Int32))))] (fun t k => XS.goto X0.here hx rfl (pc0 := 57) (pc' := 61) rfl (hb hby at_57) (by decide) (by decide) k) ?_
          refine own_go T0 m 63 #[iv x0, iv x1, iv x2, iv x3, iv x4, iv x5, iv 0, iv 1, iv v8, iv (x0 + ((x1 &&& (3 : Int32)) - (1 : Int32))), .unset, .unset, .unset, .unset, .unset, .unset] [] (fun t k => XS.istore X0.here hx rfl (hb hby at_61) rfl rfl k) ?_
          exact seg63 (x0 + ((x1 &&& (3 : Int32)) - (1 : Int32)))
      by_cases hc32_62 : (x5 &&& (4 : Int32)) = (0 : Int32)
      · refine own_go T0 m 39 #[iv x0, iv x1, iv x2, iv x3, iv x4, iv x5, iv 0, iv 1, .unset, .unset, .unset, .unset, .unset, .unset, .unset, .unset] [] (fun t k => XS.ifYes X0.here hx rfl (pc0 := 32) (pc' := 39) rfl (hb hby at_32) rfl ((if0 _ _).trans (teq hc32_62).1) (by decide) (by decide) k) ?_
        refine own_go T0 m 40 #[iv x0, iv x1, iv x2, iv x3, iv x4, iv x5, iv 0, iv 1, .unset, .unset, .unset, .unset, .unset, .unset, .unset, .unset] [(.int x2)] (fun t k => XS.iloadN X0.here hx rfl (hb hby at_39) rfl k) ?_
        refine own_go T0 m 42 #[iv x0, iv x1, iv x2, iv x3, iv x4, iv x5, iv 0, iv 1, iv x2, .unset, .unset, .unset, .unset, .unset, .unset, .unset] [] (fun t k => XS.istore X0.here hx rfl (hb hby at_40) rfl rfl k) ?_
        exact seg42 x2
      · refine own_go T0 m 35 #[iv x0, iv x1, iv x2, iv x3, iv x4, iv x5, iv 0, iv 1, .unset, .unset, .unset, .unset, .unset, .unset, .unset, .unset] [] (fun t k => XS.ifNo X0.here hx rfl (hb hby at_32) rfl ((if0 _ _).trans (feq hc32_62).1) k) ?_
        refine own_go T0 m 36 #[iv x0, iv x1, iv x2, iv x3, iv x4, iv x5, iv 0, iv 1, .unset, .unset, .unset, .unset, .unset, .unset, .unset, .unset] [(.int x0)] (fun t k => XS.iloadN X0.here hx rfl (hb hby at_35) rfl k) ?_
        refine own_go T0 m 40 #[iv x0, iv x1, iv x2, iv x3, iv x4, iv x5, iv 0, iv 1, .unset, .unset, .unset, .unset, .unset, .unset, .unset, .unset] [(.int x0)] (fun t k => XS.goto X0.here hx rfl (pc0 := 36) (pc' := 40) rfl (hb hby at_36) (by decide) (by decide) k) ?_
        refine own_go T0 m 42 #[iv x0, iv x1, iv x2, iv x3, iv x4, iv x5, iv 0, iv 1, iv x0, .unset, .unset, .unset, .unset, .unset, .unset, .unset] [] (fun t k => XS.istore X0.here hx rfl (hb hby at_40) rfl rfl k) ?_
        exact seg42 x0
  · refine own_go T0 m 7 #[iv x0, iv x1, iv x2, iv x3, iv x4, iv x5, .unset, .unset, .unset, .unset, .unset, .unset, .unset, .unset, .unset, .unset] [] (fun t k => XS.ifNo X0.here hx rfl (hb hby at_4) rfl ((if0 _ _).trans (feq hc4_1).1) k) ?_
    refine own_go T0 m 8 #[iv x0, iv x1, iv x2, iv x3, iv x4, iv x5, .unset, .unset, .unset, .unset, .unset, .unset, .unset, .unset, .unset, .unset] [(.int 1)] (fun t k => XS.iconst X0.here hx rfl (hb hby at_7) k) ?_
    refine own_go T0 m 12 #[iv x0, iv x1, iv x2, iv x3, iv x4, iv x5, .unset, .unset, .unset, .unset, .unset, .unset, .unset, .unset, .unset, .unset] [(.int 1)] (fun t k => XS.goto X0.here hx rfl (pc0 := 8) (pc' := 12) rfl (hb hby at_8) (by decide) (by decide) k) ?_
    refine own_go T0 m 14 #[iv x0, iv x1, iv x2, iv x3, iv x4, iv x5, iv 1, .unset, .unset, .unset, .unset, .unset, .unset, .unset, .unset, .unset] [] (fun t k => XS.istore X0.here hx rfl (hb hby at_12) rfl rfl k) ?_
    refine own_go T0 m 16 #[iv x0, iv x1, iv x2, iv x3, iv x4, iv x5, iv 1, .unset, .unset, .unset, .unset, .unset, .unset, .unset, .unset, .unset] [(.int x5)] (fun t k => XS.iload X0.here hx rfl (hb hby at_14) rfl k) ?_
    refine own_go T0 m 17 #[iv x0, iv x1, iv x2, iv x3, iv x4, iv x5, iv 1, .unset, .unset, .unset, .unset, .unset, .unset, .unset, .unset, .unset] [(.int 2), (.int x5)] (fun t k => XS.iconst X0.here hx rfl (hb hby at_16) k) ?_
    refine own_go T0 m 18 #[iv x0, iv x1, iv x2, iv x3, iv x4, iv x5, iv 1, .unset, .unset, .unset, .unset, .unset, .unset, .unset, .unset, .unset] [(.int (x5 &&& (2 : Int32)))] (fun t k => XS.iand X0.here hx rfl (hb hby at_17) rfl k) ?_
    by_cases hc18_63 : (x5 &&& (2 : Int32)) = (0 : Int32)
    · refine own_go T0 m 25 #[iv x0, iv x1, iv x2, iv x3, iv x4, iv x5, iv 1, .unset, .unset, .unset, .unset, .unset, .unset, .unset, .unset, .unset] [] (fun t k => XS.ifYes X0.here hx rfl (pc0 := 18) (pc' := 25) rfl (hb hby at_18) rfl ((if0 _ _).trans (teq hc18_63).1) (by decide) (by decide) k) ?_
      refine own_go T0 m 26 #[iv x0, iv x1, iv x2, iv x3, iv x4, iv x5, iv 1, .unset, .unset, .unset, .unset, .unset, .unset, .unset, .unset, .unset] [(.int 0)] (fun t k => XS.iconst X0.here hx rfl (hb hby at_25) k) ?_
      refine own_go T0 m 28 #[iv x0, iv x1, iv x2, iv x3, iv x4, iv x5, iv 1, iv 0, .unset, .unset, .unset, .unset, .unset, .unset, .unset, .unset] [] (fun t k => XS.istore X0.here hx rfl (hb hby at_26) rfl rfl k) ?_
      refine own_go T0 m 30 #[iv x0, iv x1, iv x2, iv x3, iv x4, iv x5, iv 1, iv 0, .unset, .unset, .unset, .unset, .unset, .unset, .unset, .unset] [(.int x5)] (fun t k => XS.iload X0.here hx rfl (hb hby at_28) rfl k) ?_
      refine own_go T0 m 31 #[iv x0, iv x1, iv x2, iv x3, iv x4, iv x5, iv 1, iv 0, .unset, .unset, .unset, .unset, .unset, .unset, .unset, .unset] [(.int 4), (.int x5)] (fun t k => XS.iconst X0.here hx rfl (hb hby at_30) k) ?_
      refine own_go T0 m 32 #[iv x0, iv x1, iv x2, iv x3, iv x4, iv x5, iv 1, iv 0, .unset, .unset, .unset, .unset, .unset, .unset, .unset, .unset] [(.int (x5 &&& (4 : Int32)))] (fun t k => XS.iand X0.here hx rfl (hb hby at_31) rfl k) ?_
      have seg42 : ∀ (v8 : Int32), OwnG p.tables e below s (fun v h L => v = some (.int 1) ∧ Fr n0 L) room_1.cells room_1.slots (T0.setTop (mkF m 42 #[iv x0, iv x1, iv x2, iv x3, iv x4, iv x5, iv 1, iv 0, iv v8, .unset, .unset, .unset, .unset, .unset, .unset, .unset] [])) := by
        intro v8
        refine own_go T0 m 44 #[iv x0, iv x1, iv x2, iv x3, iv x4, iv x5, iv 1, iv 0, iv v8, .unset, .unset, .unset, .unset, .unset, .unset, .unset] [(.int x5)] (fun t k => XS.iload X0.here hx rfl (hb hby at_42) rfl k) ?_
        refine own_go T0 m 46 #[iv x0, iv x1, iv x2, iv x3, iv x4, iv x5, iv 1, iv 0, iv v8, .unset, .unset, .unset, .unset, .unset, .unset, .unset] [(.int 8), (.int x5)] (fun t k => XS.bipush X0.here hx rfl (hb hby at_44) k) ?_
        refine own_go T0 m 47 #[iv x0, iv x1, iv x2, iv x3, iv x4, iv x5, iv 1, iv 0, iv v8, .unset, .unset, .unset, .unset, .unset, .unset, .unset] [(.int (x5 &&& (8 : Int32)))] (fun t k => XS.iand X0.here hx rfl (hb hby at_46) rfl k) ?_
        have seg63 : ∀ (v9 : Int32), OwnG p.tables e below s (fun v h L => v = some (.int 1) ∧ Fr n0 L) room_1.cells room_1.slots (T0.setTop (mkF m 63 #[iv x0, iv x1, iv x2, iv x3, iv x4, iv x5, iv 1, iv 0, iv v8, iv v9, .unset, .unset, .unset, .unset, .unset, .unset] [])) := by
          intro v9
          refine own_go T0 m 65 #[iv x0, iv x1, iv x2, iv x3, iv x4, iv x5, iv 1, iv 0, iv v8, iv v9, .unset, .unset, .unset, .unset, .unset, .unset] [(.int x5)] (fun t k => XS.iload X0.here hx rfl (hb hby at_63) rfl k) ?_
          refine own_go T0 m 67 #[iv x0, iv x1, iv x2, iv x3, iv x4, iv x5, iv 1, iv 0, iv v8, iv v9, .unset, .unset, .unset, .unset, .unset, .unset] [(.int 16), (.int x5)] (fun t k => XS.bipush X0.here hx rfl (hb hby at_65) k) ?_
          refine own_go T0 m 68 #[iv x0, iv x1, iv x2, iv x3, iv x4, iv x5, iv 1, iv 0, iv v8, iv v9, .unset, .unset, .unset, .unset, .unset, .unset] [(.int (x5 &&& (16 : Int32)))] (fun t k => XS.iand X0.here hx rfl (hb hby at_67) rfl k) ?_
          have seg86 : ∀ (v10 : Int32), OwnG p.tables e below s (fun v h L => v = some (.int 1) ∧ Fr n0 L) room_1.cells room_1.slots (T0.setTop (mkF m 86 #[iv x0, iv x1, iv x2, iv x3, iv x4, iv x5, iv 1, iv 0, iv v8, iv v9, iv v10, .unset, .unset, .unset, .unset, .unset] [])) := by
            intro v10
            obtain ⟨T67, h67, X67, e67, E67, A67, D67, -, st67⟩ := newO X0 hx hZ hown (own_w hw 0 rfl) (own_w hw 1 rfl) (own_w hw 2 rfl) e0 (g := (mkF m 86 #[iv x0, iv x1, iv x2, iv x3, iv x4, iv x5, iv 1, iv 0, iv v8, iv v9, iv v10, .unset, .unset, .unset, .unset, .unset] [])) rfl (hb hby at_86) (by decide) (by decide)
            obtain ⟨b67, g67⟩ : ∃ z, z = h0.size := ⟨_, rfl⟩
            rw [← g67] at A67 D67 st67
            have g_b67 : n0 ≤ b67 := Nat.le_trans Z0 (Nat.le_of_eq g67.symm)
            have Z_67 : n0 ≤ h67.size := Nat.le_trans Z0 E67.1
            have F_starts_67 : Fld Z h67 b67 OwnK0 "starts" "[I" .null := D67 (Or.inl (own_w hw 11 rfl)) (ty := (.array .int)) (by decide)
            have F_ends_67 : Fld Z h67 b67 OwnK0 "ends" "[I" .null := D67 (Or.inl (own_w hw 13 rfl)) (ty := (.array .int)) (by decide)
            have F_segmentFirst_67 : Fld Z h67 b67 OwnK0 "segmentFirst" "[I" .null := D67 (Or.inl (own_w hw 15 rfl)) (ty := (.array .int)) (by decide)
            have F_segmentEnd_67 : Fld Z h67 b67 OwnK0 "segmentEnd" "[I" .null := D67 (Or.inl (own_w hw 17 rfl)) (ty := (.array .int)) (by decide)
            have F_segmentLimit_67 : Fld Z h67 b67 OwnK0 "segmentLimit" "[I" .null := D67 (Or.inl (own_w hw 19 rfl)) (ty := (.array .int)) (by decide)
            have F_cursor_67 : Fld Z h67 b67 OwnK0 "cursor" "I" (.int 0) := D67 (Or.inl (own_w hw 21 rfl)) (ty := .int) (by decide)
            have F_segments_67 : Fld Z h67 b67 OwnK0 "segments" "I" (.int 0) := D67 (Or.inl (own_w hw 28 rfl)) (ty := .int) (by decide)
            have F_count_67 : Fld Z h67 b67 OwnK0 "count" "I" (.int 0) := D67 (Or.inl (own_w hw 30 rfl)) (ty := .int) (by decide)
            have F_lastOpened_67 : Fld Z h67 b67 OwnK0 "lastOpened" "I" (.int 0) := D67 (Or.inl (own_w hw 37 rfl)) (ty := .int) (by decide)
            refine own_go T67 m 89 #[iv x0, iv x1, iv x2, iv x3, iv x4, iv x5, iv 1, iv 0, iv v8, iv v9, iv v10, .unset, .unset, .unset, .unset, .unset] [(.ref b67)] (st67) ?_
            refine own_go T67 m 90 #[iv x0, iv x1, iv x2, iv x3, iv x4, iv x5, iv 1, iv 0, iv v8, iv v9, iv v10, .unset, .unset, .unset, .unset, .unset] [(.ref b67), (.ref b67)] (fun t k => XS.dup X67.here hx rfl (hb hby at_89) rfl rfl k) ?_
            obtain ⟨_, T68, L68, X68, ⟨w0_68, w1_68, w2_68, w3_68, w4_68, kw0_68, kw1_68, kw2_68, kw3_68, kw4_68, rfl, Nq68, Kq68, syw0_68, syw1_68, syw2_68, syw3_68, syw4_68, fq0_68, fq1_68, fq2_68, fq3_68, fq4_68, fq5_68, fq6_68, fq7_68, fq8_68, fq9_68, fq10_68, fq11_68, fq12_68, fq13_68, fq14_68, fq15_68, fq16_68, fq17_68, fq18_68, fq19_68, fq20_68, fq21_68, fq22_68, fq23_68⟩, st68⟩ := own_init X67 hx hZ (y := (⟨OwnK0, "<init>", "()V"⟩ : MethodName)) rfl hown (own_w hw 3 rfl) (own_w hw 4 rfl) (own_w hw 2 rfl) (own_w hw 5 rfl) (by decide) (sp1 l Z a0 hw [] b67 h67 n0 Z_67 A67 F_count_67 F_cursor_67 F_ends_67 F_lastOpened_67 F_segmentEnd_67 F_segmentFirst_67 F_segmentLimit_67 F_segments_67 F_starts_67 g_b67) e67 (a := b67) 1 (argsL := []) (rest := [(.ref b67)]) (Ls := #[iv x0, iv x1, iv x2, iv x3, iv x4, iv x5, iv 1, iv 0, iv v8, iv v9, iv v10, .unset, .unset, .unset, .unset, .unset]) (by rw [hml]; rfl) (lenOf pd___V rfl) rfl rfl (Nat.le_of_eq rfl) (hb hby at_90) (by decide) (by decide) (by decide) (by decide)
            have g_w0_68 : n0 ≤ w0_68 := syw0_68.2
            have ne_b67_w0_68 : b67 ≠ w0_68 := Nat.ne_of_lt (Nat.lt_of_lt_of_le A67.lt syw0_68.1)
            have g_w1_68 : n0 ≤ w1_68 := syw1_68.2
            have ne_b67_w1_68 : b67 ≠ w1_68 := Nat.ne_of_lt (Nat.lt_of_lt_of_le A67.lt syw1_68.1)
            have g_w2_68 : n0 ≤ w2_68 := syw2_68.2
            have ne_b67_w2_68 : b67 ≠ w2_68 := Nat.ne_of_lt (Nat.lt_of_lt_of_le A67.lt syw2_68.1)
            have g_w3_68 : n0 ≤ w3_68 := syw3_68.2
            have ne_b67_w3_68 : b67 ≠ w3_68 := Nat.ne_of_lt (Nat.lt_of_lt_of_le A67.lt syw3_68.1)
            have g_w4_68 : n0 ≤ w4_68 := syw4_68.2
            have ne_b67_w4_68 : b67 ≠ w4_68 := Nat.ne_of_lt (Nat.lt_of_lt_of_le A67.lt syw4_68.1)
            have N68 := Fr.app N0 Nq68
            have cf69 := A67.keep Kq68
            have Z_68 : n0 ≤ T68.heap.size := Nat.le_trans Z_67 Kq68.1
            refine own_go T68 m 93 #[iv x0, iv x1, iv x2, iv x3, iv x4, iv x5, iv 1, iv 0, iv v8, iv v9, iv v10, .unset, .unset, .unset, .unset, .unset] [(.ref b67)] (st68) ?_
            refine own_go T68 m 95 #[iv x0, iv x1, iv x2, iv x3, iv x4, iv x5, iv 1, iv 0, iv v8, iv v9, iv v10, rv b67, .unset, .unset, .unset, .unset] [] (fun t k => XS.astore X68.here hx rfl (hb hby at_93) rfl rfl rfl k) ?_
            refine own_go T68 m 97 #[iv x0, iv x1, iv x2, iv x3, iv x4, iv x5, iv 1, iv 0, iv v8, iv v9, iv v10, rv b67, .unset, .unset, .unset, .unset] [(.ref b67)] (fun t k => XS.aload X68.here hx rfl (hb hby at_95) rfl rfl k) ?_
            refine own_go T68 m 98 #[iv x0, iv x1, iv x2, iv x3, iv x4, iv x5, iv 1, iv 0, iv v8, iv v9, iv v10, rv b67, .unset, .unset, .unset, .unset] [(.int x3), (.ref b67)] (fun t k => XS.iloadN X68.here hx rfl (hb hby at_97) rfl k) ?_
            obtain ⟨_, T70, L70, X70, ⟨rfl, Nq70, Kq70, fq0_70, fq1_70, fq2_70, fq3_70, fq4_70, fq5_70, fq6_70, fq7_70, fq8_70, fq9_70, fq10_70⟩, st70⟩ := own_virtual X68 hx hZ (y := (⟨OwnK0, "beginRead", "(I)V"⟩ : MethodName)) (z := (⟨OwnK0, "beginRead", "(I)V"⟩ : MethodName)) hown (own_w hw 22 rfl) (own_w hw 23 rfl) (notFace_of_selects (args := #[]) (mvT hZ (own_w hw 25 rfl))) (own_w hw 25 rfl) (own_w hw 24 rfl) (own_w hw 2 rfl) (own_w hw 26 rfl) (by decide) (sp2 l Z a0 hw [] b67 w0_68 w1_68 w2_68 w3_68 w4_68 x3 kw2_68 kw4_68 T68.heap n0 Z_68 cf69 fq10_68 fq23_68 fq16_68 fq11_68 fq20_68 fq18_68 fq22_68 fq12_68 fq14_68 fq17_68 fq21_68 ne_b67_w0_68 ne_b67_w1_68 ne_b67_w2_68 ne_b67_w3_68 ne_b67_w4_68 fq1_68 fq3_68 fq4_68 fq6_68 fq7_68 fq8_68 fq9_68 g_b67 g_w2_68 g_w4_68) rfl cf69 0 (argsL := [(.int x3)]) (rest := []) (Ls := #[iv x0, iv x1, iv x2, iv x3, iv x4, iv x5, iv 1, iv 0, iv v8, iv v9, iv v10, rv b67, .unset, .unset, .unset, .unset]) (by rw [hml]; rfl) (lenOf pd__I_V rfl) rfl rfl (Nat.le_of_eq rfl) (hb hby at_98) (by decide) (by decide) (by decide) (by decide)
            have N70 := Fr.app N68 Nq70
            have cf71 := cf69.keep Kq70
            have cf72 := fq13_68.keep Kq70 (ninS (Ne.symm ne_b67_w0_68) (ninS fq1_68 (ninS fq3_68 nin0)))
            have cf73 := fq15_68.keep Kq70 (ninS (Ne.symm ne_b67_w1_68) (ninS fq4_68 (ninS fq6_68 nin0)))
            have cf74 := fq19_68.keep Kq70 (ninS (Ne.symm ne_b67_w3_68) (ninS (Ne.symm fq7_68) (ninS fq9_68 nin0)))
            have Z_70 : n0 ≤ T70.heap.size := Nat.le_trans Z_68 Kq70.1
            refine own_go T70 m 101 #[iv x0, iv x1, iv x2, iv x3, iv x4, iv x5, iv 1, iv 0, iv v8, iv v9, iv v10, rv b67, .unset, .unset, .unset, .unset] [] (st70) ?_
            refine own_go T70 m 103 #[iv x0, iv x1, iv x2, iv x3, iv x4, iv x5, iv 1, iv 0, iv v8, iv v9, iv v10, rv b67, .unset, .unset, .unset, .unset] [(.int 1)] (fun t k => XS.iload X70.here hx rfl (hb hby at_101) rfl k) ?_
            refine own_go T70 m 106 #[iv x0, iv x1, iv x2, iv x3, iv x4, iv x5, iv 1, iv 0, iv v8, iv v9, iv v10, rv b67, .unset, .unset, .unset, .unset] [] (fun t k => XS.ifNo X70.here hx rfl (hb hby at_103) rfl ((if0 _ _).trans (feq (by decide)).1) k) ?_
            refine own_go T70 m 108 #[iv x0, iv x1, iv x2, iv x3, iv x4, iv x5, iv 1, iv 0, iv v8, iv v9, iv v10, rv b67, .unset, .unset, .unset, .unset] [(.ref b67)] (fun t k => XS.aload X70.here hx rfl (hb hby at_106) rfl rfl k) ?_
            refine own_go T70 m 109 #[iv x0, iv x1, iv x2, iv x3, iv x4, iv x5, iv 1, iv 0, iv v8, iv v9, iv v10, rv b67, .unset, .unset, .unset, .unset] [(.int x0), (.ref b67)] (fun t k => XS.iloadN X70.here hx rfl (hb hby at_108) rfl k) ?_
            obtain ⟨_, T75, L75, X75, ⟨rfl, Nq75, Kq75, fq0_75, fq1_75, fq2_75, fq3_75, fq4_75, fq5_75, fq6_75, fq7_75, fq8_75, fq9_75, fq10_75⟩, st75⟩ := own_virtual X70 hx hZ (y := (⟨OwnK0, "opened", "(I)I"⟩ : MethodName)) (z := (⟨OwnK0, "opened", "(I)I"⟩ : MethodName)) hown (own_w hw 31 rfl) (own_w hw 32 rfl) (notFace_of_selects (args := #[]) (mvT hZ (own_w hw 34 rfl))) (own_w hw 34 rfl) (own_w hw 33 rfl) (own_w hw 2 rfl) (own_w hw 35 rfl) (by decide) (sp7 l Z a0 hw [] b67 w1_68 w3_68 w2_68 w4_68 w0_68 x0 kw1_68 kw0_68 T70.heap n0 Z_70 cf71 fq0_70 fq10_70 fq1_70 fq2_70 fq3_70 fq4_70 fq5_70 fq9_70 fq6_70 cf73 cf72 ne_b67_w1_68 ne_b67_w3_68 ne_b67_w2_68 ne_b67_w4_68 ne_b67_w0_68 fq5_68 fq4_68 fq6_68 (Ne.symm fq0_68) (Ne.symm fq2_68) (Ne.symm fq1_68) (Ne.symm fq3_68) g_b67 g_w1_68 g_w0_68) rfl cf71 0 (argsL := [(.int x0)]) (rest := []) (Ls := #[iv x0, iv x1, iv x2, iv x3, iv x4, iv x5, iv 1, iv 0, iv v8, iv v9, iv v10, rv b67, .unset, .unset, .unset, .unset]) (by rw [hml]; rfl) (lenOf pd__I_I rfl) rfl rfl (Nat.le_of_eq rfl) (hb hby at_109) (by decide) (by decide) (by decide) (by decide)
            have N75 := Fr.app N70 Nq75
            have cf76 := cf71.keep Kq75
            have cf77 := cf74.keep Kq75 (ninS (Ne.symm ne_b67_w3_68) (ninS (Ne.symm fq5_68) (ninS (Ne.symm fq2_68) nin0)))
            have cf78 := fq7_70.keep Kq75 (ninS (Ne.symm ne_b67_w2_68) (ninS (Ne.symm fq4_68) (ninS (Ne.symm fq1_68) nin0)))
            have cf79 := fq8_70.keep Kq75 (ninS (Ne.symm ne_b67_w4_68) (ninS (Ne.symm fq6_68) (ninS (Ne.symm fq3_68) nin0)))
            have Z_75 : n0 ≤ T75.heap.size := Nat.le_trans Z_70 Kq75.1
            refine own_go T75 m 112 #[iv x0, iv x1, iv x2, iv x3, iv x4, iv x5, iv 1, iv 0, iv v8, iv v9, iv v10, rv b67, .unset, .unset, .unset, .unset] [(.int 0)] (st75) ?_
            refine own_go T75 m 113 #[iv x0, iv x1, iv x2, iv x3, iv x4, iv x5, iv 1, iv 0, iv v8, iv v9, iv v10, rv b67, .unset, .unset, .unset, .unset] [] (fun t k => XS.pop X75.here hx rfl (hb hby at_112) rfl rfl k) ?_
            refine own_go T75 m 115 #[iv x0, iv x1, iv x2, iv x3, iv x4, iv x5, iv 1, iv 0, iv v8, iv v9, iv v10, rv b67, .unset, .unset, .unset, .unset] [(.int 0)] (fun t k => XS.iload X75.here hx rfl (hb hby at_113) rfl k) ?_
            refine own_go T75 m 131 #[iv x0, iv x1, iv x2, iv x3, iv x4, iv x5, iv 1, iv 0, iv v8, iv v9, iv v10, rv b67, .unset, .unset, .unset, .unset] [] (fun t k => XS.ifYes X75.here hx rfl (pc0 := 115) (pc' := 131) rfl (hb hby at_115) rfl ((if0 _ _).trans (teq (by decide)).1) (by decide) (by decide) k) ?_
            refine own_go T75 m 133 #[iv x0, iv x1, iv x2, iv x3, iv x4, iv x5, iv 1, iv 0, iv v8, iv v9, iv v10, rv b67, .unset, .unset, .unset, .unset] [(.ref b67)] (fun t k => XS.aload X75.here hx rfl (hb hby at_131) rfl rfl k) ?_
            refine own_go T75 m 135 #[iv x0, iv x1, iv x2, iv x3, iv x4, iv x5, iv 1, iv 0, iv v8, iv v9, iv v10, rv b67, .unset, .unset, .unset, .unset] [(.int v9), (.ref b67)] (fun t k => XS.iload X75.here hx rfl (hb hby at_133) rfl k) ?_
            obtain ⟨_, T80, L80, X80, ⟨rfl, Nq80, Kq80, fq0_80⟩, st80⟩ := own_virtual X75 hx hZ (y := (⟨OwnK0, "endRead", "(I)V"⟩ : MethodName)) (z := (⟨OwnK0, "endRead", "(I)V"⟩ : MethodName)) hown (own_w hw 38 rfl) (own_w hw 39 rfl) (notFace_of_selects (args := #[]) (mvT hZ (own_w hw 41 rfl))) (own_w hw 41 rfl) (own_w hw 40 rfl) (own_w hw 2 rfl) (own_w hw 42 rfl) (by decide) (sp8 l Z a0 hw [] b67 w3_68 w2_68 v9 kw3_68 kw2_68 T75.heap n0 Z_75 fq10_75 fq2_75 fq3_75 fq5_75 cf77 cf78 ne_b67_w3_68 (Ne.symm fq7_68) g_w3_68) rfl cf76 0 (argsL := [(.int v9)]) (rest := []) (Ls := #[iv x0, iv x1, iv x2, iv x3, iv x4, iv x5, iv 1, iv 0, iv v8, iv v9, iv v10, rv b67, .unset, .unset, .unset, .unset]) (by rw [hml]; rfl) (lenOf pd__I_V rfl) rfl rfl (Nat.le_of_eq rfl) (hb hby at_135) (by decide) (by decide) (by decide) (by decide)
            have N80 := Fr.app N75 Nq80
            have cf81 := cf76.keep Kq80
            have cf82 := cf78.keep Kq80 (ninS fq7_68 nin0)
            have cf83 := cf79.keep Kq80 (ninS (Ne.symm fq9_68) nin0)
            have cf84 := fq0_75.keep Kq80 (ninS ne_b67_w3_68 nin0)
            have cf85 := fq1_75.keep Kq80 (ninS ne_b67_w3_68 nin0)
            have cf86 := fq2_75.keep Kq80 (ninS ne_b67_w3_68 nin0)
            have cf87 := fq3_75.keep Kq80 (ninS ne_b67_w3_68 nin0)
            have cf88 := fq4_75.keep Kq80 (ninS ne_b67_w3_68 nin0)
            have cf89 := fq5_75.keep Kq80 (ninS ne_b67_w3_68 nin0)
            have cf90 := fq6_75.keep Kq80 (ninS ne_b67_w3_68 nin0)
            have cf91 := fq7_75.keep Kq80 (ninS fq2_68 nin0)
            have cf92 := fq8_75.keep Kq80 (ninS fq5_68 nin0)
            have cf93 := fq9_75.keep Kq80 (ninS ne_b67_w3_68 nin0)
            have cf94 := fq10_75.keep Kq80 (ninS ne_b67_w3_68 nin0)
            have Z_80 : n0 ≤ T80.heap.size := Nat.le_trans Z_75 Kq80.1
            refine own_go T80 m 138 #[iv x0, iv x1, iv x2, iv x3, iv x4, iv x5, iv 1, iv 0, iv v8, iv v9, iv v10, rv b67, .unset, .unset, .unset, .unset] [] (st80) ?_
            refine own_go T80 m 140 #[iv x0, iv x1, iv x2, iv x3, iv x4, iv x5, iv 1, iv 0, iv v8, iv v9, iv v10, rv b67, .unset, .unset, .unset, .unset] [(.ref b67)] (fun t k => XS.aload X80.here hx rfl (hb hby at_138) rfl rfl k) ?_
            refine own_go T80 m 142 #[iv x0, iv x1, iv x2, iv x3, iv x4, iv x5, iv 1, iv 0, iv v8, iv v9, iv v10, rv b67, .unset, .unset, .unset, .unset] [(.int v8), (.ref b67)] (fun t k => XS.iload X80.here hx rfl (hb hby at_140) rfl k) ?_
            refine own_go T80 m 144 #[iv x0, iv x1, iv x2, iv x3, iv x4, iv x5, iv 1, iv 0, iv v8, iv v9, iv v10, rv b67, .unset, .unset, .unset, .unset] [(.int v10), (.int v8), (.ref b67)] (fun t k => XS.iload X80.here hx rfl (hb hby at_142) rfl k) ?_
            by_cases hc144_96 : v8 < x0
            · obtain ⟨_, T97, L97, X97, ⟨rfl, Nq97, Kq97, fq0_97, fq1_97, fq2_97, fq3_97, fq4_97, fq5_97, fq6_97, fq7_97, fq8_97⟩, st97⟩ := own_virtual X80 hx hZ (y := (⟨OwnK0, "find", "(II)I"⟩ : MethodName)) (z := (⟨OwnK0, "find", "(II)I"⟩ : MethodName)) hown (own_w hw 43 rfl) (own_w hw 44 rfl) (notFace_of_selects (args := #[]) (mvT hZ (own_w hw 46 rfl))) (own_w hw 46 rfl) (own_w hw 45 rfl) (own_w hw 2 rfl) (own_w hw 47 rfl) (by decide) (sp9 l Z a0 hw [] b67 w1_68 w3_68 w2_68 w4_68 w0_68 v8 v10 x0 kw2_68 kw0_68 T80.heap n0 Z_80 cf81 cf94 cf84 cf85 cf93 cf86 cf87 cf88 cf89 cf90 cf82 cf91 ne_b67_w1_68 ne_b67_w3_68 ne_b67_w2_68 ne_b67_w4_68 ne_b67_w0_68 g_b67 hc144_96) rfl cf81 0 (argsL := [(.int v8), (.int v10)]) (rest := []) (Ls := #[iv x0, iv x1, iv x2, iv x3, iv x4, iv x5, iv 1, iv 0, iv v8, iv v9, iv v10, rv b67, .unset, .unset, .unset, .unset]) (by rw [hml]; rfl) (lenOf pd__II_I rfl) rfl rfl (Nat.le_of_eq rfl) (hb hby at_144) (by decide) (by decide) (by decide) (by decide)
              have N97 := Fr.app N80 Nq97
              have cf98 := cf81.keep Kq97
              have cf99 := cf82.keep Kq97 (ninS (Ne.symm ne_b67_w2_68) nin0)
              have cf100 := cf83.keep Kq97 (ninS (Ne.symm ne_b67_w4_68) nin0)
              have cf101 := cf91.keep Kq97 (ninS (Ne.symm ne_b67_w0_68) nin0)
              have cf102 := cf92.keep Kq97 (ninS (Ne.symm ne_b67_w1_68) nin0)
              have cf103 := fq0_80.keep Kq97 (ninS (Ne.symm ne_b67_w3_68) nin0)
              have Z_97 : n0 ≤ T97.heap.size := Nat.le_trans Z_80 Kq97.1
              refine own_go T97 m 147 #[iv x0, iv x1, iv x2, iv x3, iv x4, iv x5, iv 1, iv 0, iv v8, iv v9, iv v10, rv b67, .unset, .unset, .unset, .unset] [(.int (-1))] (st97) ?_
              refine own_go T97 m 149 #[iv x0, iv x1, iv x2, iv x3, iv x4, iv x5, iv 1, iv 0, iv v8, iv v9, iv v10, rv b67, iv (-1), .unset, .unset, .unset] [] (fun t k => XS.istore X97.here hx rfl (hb hby at_147) rfl rfl k) ?_
              refine own_go T97 m 151 #[iv x0, iv x1, iv x2, iv x3, iv x4, iv x5, iv 1, iv 0, iv v8, iv v9, iv v10, rv b67, iv (-1), .unset, .unset, .unset] [(.int v8)] (fun t k => XS.iload X97.here hx rfl (hb hby at_149) rfl k) ?_
              refine own_go T97 m 152 #[iv x0, iv x1, iv x2, iv x3, iv x4, iv x5, iv 1, iv 0, iv v8, iv v9, iv v10, rv b67, iv (-1), .unset, .unset, .unset] [(.int x0), (.int v8)] (fun t k => XS.iloadN X97.here hx rfl (hb hby at_151) rfl k) ?_
              refine own_go T97 m 166 #[iv x0, iv x1, iv x2, iv x3, iv x4, iv x5, iv 1, iv 0, iv v8, iv v9, iv v10, rv b67, iv (-1), .unset, .unset, .unset] [] (fun t k => XS.icmpYes X97.here hx rfl (pc0 := 152) (pc' := 166) rfl (hb hby at_152) rfl (tlt hc144_96).1 (by decide) (by decide) k) ?_
              refine own_go T97 m 167 #[iv x0, iv x1, iv x2, iv x3, iv x4, iv x5, iv 1, iv 0, iv v8, iv v9, iv v10, rv b67, iv (-1), .unset, .unset, .unset] [(.int 0)] (fun t k => XS.iconst X97.here hx rfl (hb hby at_166) k) ?_
              refine own_go T97 m 169 #[iv x0, iv x1, iv x2, iv x3, iv x4, iv x5, iv 1, iv 0, iv v8, iv v9, iv v10, rv b67, iv (-1), iv 0, .unset, .unset] [] (fun t k => XS.istore X97.here hx rfl (hb hby at_167) rfl rfl k) ?_
              refine own_go T97 m 171 #[iv x0, iv x1, iv x2, iv x3, iv x4, iv x5, iv 1, iv 0, iv v8, iv v9, iv v10, rv b67, iv (-1), iv 0, .unset, .unset] [(.int 1)] (fun t k => XS.iload X97.here hx rfl (hb hby at_169) rfl k) ?_
              refine own_go T97 m 174 #[iv x0, iv x1, iv x2, iv x3, iv x4, iv x5, iv 1, iv 0, iv v8, iv v9, iv v10, rv b67, iv (-1), iv 0, .unset, .unset] [] (fun t k => XS.ifNo X97.here hx rfl (hb hby at_171) rfl ((if0 _ _).trans (feq (by decide)).1) k) ?_
              refine own_go T97 m 176 #[iv x0, iv x1, iv x2, iv x3, iv x4, iv x5, iv 1, iv 0, iv v8, iv v9, iv v10, rv b67, iv (-1), iv 0, .unset, .unset] [(.int 0)] (fun t k => XS.iload X97.here hx rfl (hb hby at_174) rfl k) ?_
              refine own_go T97 m 189 #[iv x0, iv x1, iv x2, iv x3, iv x4, iv x5, iv 1, iv 0, iv v8, iv v9, iv v10, rv b67, iv (-1), iv 0, .unset, .unset] [] (fun t k => XS.ifYes X97.here hx rfl (pc0 := 176) (pc' := 189) rfl (hb hby at_176) rfl ((if0 _ _).trans (teq (by decide)).1) (by decide) (by decide) k) ?_
              refine own_go T97 m 190 #[iv x0, iv x1, iv x2, iv x3, iv x4, iv x5, iv 1, iv 0, iv v8, iv v9, iv v10, rv b67, iv (-1), iv 0, .unset, .unset] [(.int 0)] (fun t k => XS.iconst X97.here hx rfl (hb hby at_189) k) ?_
              refine own_go T97 m 192 #[iv x0, iv x1, iv x2, iv x3, iv x4, iv x5, iv 1, iv 0, iv v8, iv v9, iv v10, rv b67, iv (-1), iv 0, iv 0, .unset] [] (fun t k => XS.istore X97.here hx rfl (hb hby at_190) rfl rfl k) ?_
              refine own_go T97 m 194 #[iv x0, iv x1, iv x2, iv x3, iv x4, iv x5, iv 1, iv 0, iv v8, iv v9, iv v10, rv b67, iv (-1), iv 0, iv 0, .unset] [(.int 0)] (fun t k => XS.iload X97.here hx rfl (hb hby at_192) rfl k) ?_
              refine own_go T97 m 214 #[iv x0, iv x1, iv x2, iv x3, iv x4, iv x5, iv 1, iv 0, iv v8, iv v9, iv v10, rv b67, iv (-1), iv 0, iv 0, .unset] [] (fun t k => XS.ifYes X97.here hx rfl (pc0 := 194) (pc' := 214) rfl (hb hby at_194) rfl ((if0 _ _).trans (teq (by decide)).1) (by decide) (by decide) k) ?_
              refine own_go T97 m 215 #[iv x0, iv x1, iv x2, iv x3, iv x4, iv x5, iv 1, iv 0, iv v8, iv v9, iv v10, rv b67, iv (-1), iv 0, iv 0, .unset] [(.int (-1))] (fun t k => XS.iconst X97.here hx rfl (hb hby at_214) k) ?_
              refine own_go T97 m 217 #[iv x0, iv x1, iv x2, iv x3, iv x4, iv x5, iv 1, iv 0, iv v8, iv v9, iv v10, rv b67, iv (-1), iv 0, iv 0, iv (-1)] [] (fun t k => XS.istore X97.here hx rfl (hb hby at_215) rfl rfl k) ?_
              refine own_go T97 m 219 #[iv x0, iv x1, iv x2, iv x3, iv x4, iv x5, iv 1, iv 0, iv v8, iv v9, iv v10, rv b67, iv (-1), iv 0, iv 0, iv (-1)] [(.int (-1))] (fun t k => XS.iload X97.here hx rfl (hb hby at_217) rfl k) ?_
              refine own_go T97 m 221 #[iv x0, iv x1, iv x2, iv x3, iv x4, iv x5, iv 1, iv 0, iv v8, iv v9, iv v10, rv b67, iv (-1), iv 0, iv 0, iv (-1)] [(.int (-1)), (.int (-1))] (fun t k => XS.iload X97.here hx rfl (hb hby at_219) rfl k) ?_
              refine own_go T97 m 224 #[iv x0, iv x1, iv x2, iv x3, iv x4, iv x5, iv 1, iv 0, iv v8, iv v9, iv v10, rv b67, iv (-1), iv 0, iv 0, iv (-1)] [] (fun t k => XS.icmpNo X97.here hx rfl (hb hby at_221) rfl (teq (by decide)).2 k) ?_
              refine own_go T97 m 225 #[iv x0, iv x1, iv x2, iv x3, iv x4, iv x5, iv 1, iv 0, iv v8, iv v9, iv v10, rv b67, iv (-1), iv 0, iv 0, iv (-1)] [(.int 1)] (fun t k => XS.iconst X97.here hx rfl (hb hby at_224) k) ?_
              refine own_go T97 m 229 #[iv x0, iv x1, iv x2, iv x3, iv x4, iv x5, iv 1, iv 0, iv v8, iv v9, iv v10, rv b67, iv (-1), iv 0, iv 0, iv (-1)] [(.int 1)] (fun t k => XS.goto X97.here hx rfl (pc0 := 225) (pc' := 229) rfl (hb hby at_225) (by decide) (by decide) k) ?_
              refine own_retZ X97 hx hlk hret (by decide) (hb hby at_229) (by decide) (by decide) ?_
              exact ⟨rfl, N97⟩
            · by_cases hc144_105 : v8 < v9
              · by_cases hc144_107 : x0 < v8
                · obtain ⟨_, T108, L108, X108, ⟨rfl, Nq108, Kq108, fq0_108, fq1_108, fq2_108, fq3_108, fq4_108, fq5_108, fq6_108, fq7_108, fq8_108⟩, st108⟩ := own_virtual X80 hx hZ (y := (⟨OwnK0, "find", "(II)I"⟩ : MethodName)) (z := (⟨OwnK0, "find", "(II)I"⟩ : MethodName)) hown (own_w hw 43 rfl) (own_w hw 44 rfl) (notFace_of_selects (args := #[]) (mvT hZ (own_w hw 46 rfl))) (own_w hw 46 rfl) (own_w hw 45 rfl) (own_w hw 2 rfl) (own_w hw 47 rfl) (by decide) (sp11 l Z a0 hw [] b67 w1_68 w3_68 w2_68 w4_68 w0_68 v8 v10 v9 x0 kw3_68 kw2_68 kw0_68 T80.heap n0 Z_80 cf81 cf94 cf84 cf85 cf93 cf86 cf87 cf88 cf89 cf90 fq0_80 cf82 cf91 ne_b67_w1_68 ne_b67_w3_68 ne_b67_w2_68 ne_b67_w4_68 ne_b67_w0_68 g_b67 hc144_96 hc144_105 hc144_107) rfl cf81 0 (argsL := [(.int v8), (.int v10)]) (rest := []) (Ls := #[iv x0, iv x1, iv x2, iv x3, iv x4, iv x5, iv 1, iv 0, iv v8, iv v9, iv v10, rv b67, .unset, .unset, .unset, .unset]) (by rw [hml]; rfl) (lenOf pd__II_I rfl) rfl rfl (Nat.le_of_eq rfl) (hb hby at_144) (by decide) (by decide) (by decide) (by decide)
                  have N108 := Fr.app N80 Nq108
                  have cf109 := cf81.keep Kq108
                  have cf110 := cf82.keep Kq108 (ninS (Ne.symm ne_b67_w2_68) nin0)
                  have cf111 := cf83.keep Kq108 (ninS (Ne.symm ne_b67_w4_68) nin0)
                  have cf112 := cf91.keep Kq108 (ninS (Ne.symm ne_b67_w0_68) nin0)
                  have cf113 := cf92.keep Kq108 (ninS (Ne.symm ne_b67_w1_68) nin0)
                  have cf114 := fq0_80.keep Kq108 (ninS (Ne.symm ne_b67_w3_68) nin0)
                  have Z_108 : n0 ≤ T108.heap.size := Nat.le_trans Z_80 Kq108.1
                  refine own_go T108 m 147 #[iv x0, iv x1, iv x2, iv x3, iv x4, iv x5, iv 1, iv 0, iv v8, iv v9, iv v10, rv b67, .unset, .unset, .unset, .unset] [(.int (-1))] (st108) ?_
                  refine own_go T108 m 149 #[iv x0, iv x1, iv x2, iv x3, iv x4, iv x5, iv 1, iv 0, iv v8, iv v9, iv v10, rv b67, iv (-1), .unset, .unset, .unset] [] (fun t k => XS.istore X108.here hx rfl (hb hby at_147) rfl rfl k) ?_
                  refine own_go T108 m 151 #[iv x0, iv x1, iv x2, iv x3, iv x4, iv x5, iv 1, iv 0, iv v8, iv v9, iv v10, rv b67, iv (-1), .unset, .unset, .unset] [(.int v8)] (fun t k => XS.iload X108.here hx rfl (hb hby at_149) rfl k) ?_
                  refine own_go T108 m 152 #[iv x0, iv x1, iv x2, iv x3, iv x4, iv x5, iv 1, iv 0, iv v8, iv v9, iv v10, rv b67, iv (-1), .unset, .unset, .unset] [(.int x0), (.int v8)] (fun t k => XS.iloadN X108.here hx rfl (hb hby at_151) rfl k) ?_
                  refine own_go T108 m 155 #[iv x0, iv x1, iv x2, iv x3, iv x4, iv x5, iv 1, iv 0, iv v8, iv v9, iv v10, rv b67, iv (-1), .unset, .unset, .unset] [] (fun t k => XS.icmpNo X108.here hx rfl (hb hby at_152) rfl (flt hc144_96).1 k) ?_
                  refine own_go T108 m 157 #[iv x0, iv x1, iv x2, iv x3, iv x4, iv x5, iv 1, iv 0, iv v8, iv v9, iv v10, rv b67, iv (-1), .unset, .unset, .unset] [(.int v8)] (fun t k => XS.iload X108.here hx rfl (hb hby at_155) rfl k) ?_
                  refine own_go T108 m 159 #[iv x0, iv x1, iv x2, iv x3, iv x4, iv x5, iv 1, iv 0, iv v8, iv v9, iv v10, rv b67, iv (-1), .unset, .unset, .unset] [(.int v9), (.int v8)] (fun t k => XS.iload X108.here hx rfl (hb hby at_157) rfl k) ?_
                  refine own_go T108 m 162 #[iv x0, iv x1, iv x2, iv x3, iv x4, iv x5, iv 1, iv 0, iv v8, iv v9, iv v10, rv b67, iv (-1), .unset, .unset, .unset] [] (fun t k => XS.icmpNo X108.here hx rfl (hb hby at_159) rfl (tlt hc144_105).2.1 k) ?_
                  refine own_go T108 m 163 #[iv x0, iv x1, iv x2, iv x3, iv x4, iv x5, iv 1, iv 0, iv v8, iv v9, iv v10, rv b67, iv (-1), .unset, .unset, .unset] [(.int 1)] (fun t k => XS.iconst X108.here hx rfl (hb hby at_162) k) ?_
                  refine own_go T108 m 167 #[iv x0, iv x1, iv x2, iv x3, iv x4, iv x5, iv 1, iv 0, iv v8, iv v9, iv v10, rv b67, iv (-1), .unset, .unset, .unset] [(.int 1)] (fun t k => XS.goto X108.here hx rfl (pc0 := 163) (pc' := 167) rfl (hb hby at_163) (by decide) (by decide) k) ?_
                  refine own_go T108 m 169 #[iv x0, iv x1, iv x2, iv x3, iv x4, iv x5, iv 1, iv 0, iv v8, iv v9, iv v10, rv b67, iv (-1), iv 1, .unset, .unset] [] (fun t k => XS.istore X108.here hx rfl (hb hby at_167) rfl rfl k) ?_
                  refine own_go T108 m 171 #[iv x0, iv x1, iv x2, iv x3, iv x4, iv x5, iv 1, iv 0, iv v8, iv v9, iv v10, rv b67, iv (-1), iv 1, .unset, .unset] [(.int 1)] (fun t k => XS.iload X108.here hx rfl (hb hby at_169) rfl k) ?_
                  refine own_go T108 m 174 #[iv x0, iv x1, iv x2, iv x3, iv x4, iv x5, iv 1, iv 0, iv v8, iv v9, iv v10, rv b67, iv (-1), iv 1, .unset, .unset] [] (fun t k => XS.ifNo X108.here hx rfl (hb hby at_171) rfl ((if0 _ _).trans (feq (by decide)).1) k) ?_
                  refine own_go T108 m 176 #[iv x0, iv x1, iv x2, iv x3, iv x4, iv x5, iv 1, iv 0, iv v8, iv v9, iv v10, rv b67, iv (-1), iv 1, .unset, .unset] [(.int 1)] (fun t k => XS.iload X108.here hx rfl (hb hby at_174) rfl k) ?_
                  refine own_go T108 m 179 #[iv x0, iv x1, iv x2, iv x3, iv x4, iv x5, iv 1, iv 0, iv v8, iv v9, iv v10, rv b67, iv (-1), iv 1, .unset, .unset] [] (fun t k => XS.ifNo X108.here hx rfl (hb hby at_176) rfl ((if0 _ _).trans (feq (by decide)).1) k) ?_
                  refine own_go T108 m 181 #[iv x0, iv x1, iv x2, iv x3, iv x4, iv x5, iv 1, iv 0, iv v8, iv v9, iv v10, rv b67, iv (-1), iv 1, .unset, .unset] [(.int v8)] (fun t k => XS.iload X108.here hx rfl (hb hby at_179) rfl k) ?_
                  refine own_go T108 m 182 #[iv x0, iv x1, iv x2, iv x3, iv x4, iv x5, iv 1, iv 0, iv v8, iv v9, iv v10, rv b67, iv (-1), iv 1, .unset, .unset] [(.int x0), (.int v8)] (fun t k => XS.iloadN X108.here hx rfl (hb hby at_181) rfl k) ?_
                  refine own_go T108 m 189 #[iv x0, iv x1, iv x2, iv x3, iv x4, iv x5, iv 1, iv 0, iv v8, iv v9, iv v10, rv b67, iv (-1), iv 1, .unset, .unset] [] (fun t k => XS.icmpYes X108.here hx rfl (pc0 := 182) (pc' := 189) rfl (hb hby at_182) rfl (feq (own_db1 (x5 &&& (1 : Int32)) (x5 &&& (2 : Int32)) v8 x0 v9 hc4_1 hc18_63 hc144_96 hc144_105 hc144_107)).2 (by decide) (by decide) k) ?_
                  refine own_go T108 m 190 #[iv x0, iv x1, iv x2, iv x3, iv x4, iv x5, iv 1, iv 0, iv v8, iv v9, iv v10, rv b67, iv (-1), iv 1, .unset, .unset] [(.int 0)] (fun t k => XS.iconst X108.here hx rfl (hb hby at_189) k) ?_
                  refine own_go T108 m 192 #[iv x0, iv x1, iv x2, iv x3, iv x4, iv x5, iv 1, iv 0, iv v8, iv v9, iv v10, rv b67, iv (-1), iv 1, iv 0, .unset] [] (fun t k => XS.istore X108.here hx rfl (hb hby at_190) rfl rfl k) ?_
                  refine own_go T108 m 194 #[iv x0, iv x1, iv x2, iv x3, iv x4, iv x5, iv 1, iv 0, iv v8, iv v9, iv v10, rv b67, iv (-1), iv 1, iv 0, .unset] [(.int 0)] (fun t k => XS.iload X108.here hx rfl (hb hby at_192) rfl k) ?_
                  refine own_go T108 m 214 #[iv x0, iv x1, iv x2, iv x3, iv x4, iv x5, iv 1, iv 0, iv v8, iv v9, iv v10, rv b67, iv (-1), iv 1, iv 0, .unset] [] (fun t k => XS.ifYes X108.here hx rfl (pc0 := 194) (pc' := 214) rfl (hb hby at_194) rfl ((if0 _ _).trans (teq (by decide)).1) (by decide) (by decide) k) ?_
                  refine own_go T108 m 215 #[iv x0, iv x1, iv x2, iv x3, iv x4, iv x5, iv 1, iv 0, iv v8, iv v9, iv v10, rv b67, iv (-1), iv 1, iv 0, .unset] [(.int (-1))] (fun t k => XS.iconst X108.here hx rfl (hb hby at_214) k) ?_
                  refine own_go T108 m 217 #[iv x0, iv x1, iv x2, iv x3, iv x4, iv x5, iv 1, iv 0, iv v8, iv v9, iv v10, rv b67, iv (-1), iv 1, iv 0, iv (-1)] [] (fun t k => XS.istore X108.here hx rfl (hb hby at_215) rfl rfl k) ?_
                  refine own_go T108 m 219 #[iv x0, iv x1, iv x2, iv x3, iv x4, iv x5, iv 1, iv 0, iv v8, iv v9, iv v10, rv b67, iv (-1), iv 1, iv 0, iv (-1)] [(.int (-1))] (fun t k => XS.iload X108.here hx rfl (hb hby at_217) rfl k) ?_
                  refine own_go T108 m 221 #[iv x0, iv x1, iv x2, iv x3, iv x4, iv x5, iv 1, iv 0, iv v8, iv v9, iv v10, rv b67, iv (-1), iv 1, iv 0, iv (-1)] [(.int (-1)), (.int (-1))] (fun t k => XS.iload X108.here hx rfl (hb hby at_219) rfl k) ?_
                  refine own_go T108 m 224 #[iv x0, iv x1, iv x2, iv x3, iv x4, iv x5, iv 1, iv 0, iv v8, iv v9, iv v10, rv b67, iv (-1), iv 1, iv 0, iv (-1)] [] (fun t k => XS.icmpNo X108.here hx rfl (hb hby at_221) rfl (teq (by decide)).2 k) ?_
                  refine own_go T108 m 225 #[iv x0, iv x1, iv x2, iv x3, iv x4, iv x5, iv 1, iv 0, iv v8, iv v9, iv v10, rv b67, iv (-1), iv 1, iv 0, iv (-1)] [(.int 1)] (fun t k => XS.iconst X108.here hx rfl (hb hby at_224) k) ?_
                  refine own_go T108 m 229 #[iv x0, iv x1, iv x2, iv x3, iv x4, iv x5, iv 1, iv 0, iv v8, iv v9, iv v10, rv b67, iv (-1), iv 1, iv 0, iv (-1)] [(.int 1)] (fun t k => XS.goto X108.here hx rfl (pc0 := 225) (pc' := 229) rfl (hb hby at_225) (by decide) (by decide) k) ?_
                  refine own_retZ X108 hx hlk hret (by decide) (hb hby at_229) (by decide) (by decide) ?_
                  exact ⟨rfl, N108⟩
                · by_cases hc144_116 : x3 < v10
                  · obtain ⟨_, T117, L117, X117, ⟨rfl, Nq117, Kq117, fq0_117, fq1_117, fq2_117, fq3_117, fq4_117, fq5_117, fq6_117, fq7_117, fq8_117⟩, st117⟩ := own_virtual X80 hx hZ (y := (⟨OwnK0, "find", "(II)I"⟩ : MethodName)) (z := (⟨OwnK0, "find", "(II)I"⟩ : MethodName)) hown (own_w hw 43 rfl) (own_w hw 44 rfl) (notFace_of_selects (args := #[]) (mvT hZ (own_w hw 46 rfl))) (own_w hw 46 rfl) (own_w hw 45 rfl) (own_w hw 2 rfl) (own_w hw 47 rfl) (by decide) (sp17 l Z a0 hw [] b67 w1_68 w3_68 w2_68 w4_68 w0_68 v8 v10 v9 x3 x0 kw1_68 kw3_68 kw2_68 kw4_68 kw0_68 T80.heap n0 Z_80 cf81 cf94 cf84 cf85 cf93 cf86 cf87 cf88 cf89 cf90 cf92 fq0_80 cf82 cf83 cf91 ne_b67_w1_68 ne_b67_w3_68 ne_b67_w2_68 ne_b67_w4_68 ne_b67_w0_68 g_b67 hc144_96 hc144_105 hc144_107 (own_db3 (x5 &&& (1 : Int32)) (x5 &&& (2 : Int32)) v8 x0 v9 x3 v10 hc4_1 hc18_63 hc144_96 hc144_105 hc144_107 hc144_116) hc144_116) rfl cf81 0 (argsL := [(.int v8), (.int v10)]) (rest := []) (Ls := #[iv x0, iv x1, iv x2, iv x3, iv x4, iv x5, iv 1, iv 0, iv v8, iv v9, iv v10, rv b67, .unset, .unset, .unset, .unset]) (by rw [hml]; rfl) (lenOf pd__II_I rfl) rfl rfl (Nat.le_of_eq rfl) (hb hby at_144) (by decide) (by decide) (by decide) (by decide)
                    have N117 := Fr.app N80 Nq117
                    have cf118 := cf81.keep Kq117
                    have cf119 := cf82.keep Kq117 (ninS (Ne.symm ne_b67_w2_68) nin0)
                    have cf120 := cf83.keep Kq117 (ninS (Ne.symm ne_b67_w4_68) nin0)
                    have cf121 := cf91.keep Kq117 (ninS (Ne.symm ne_b67_w0_68) nin0)
                    have cf122 := cf92.keep Kq117 (ninS (Ne.symm ne_b67_w1_68) nin0)
                    have cf123 := fq0_80.keep Kq117 (ninS (Ne.symm ne_b67_w3_68) nin0)
                    have Z_117 : n0 ≤ T117.heap.size := Nat.le_trans Z_80 Kq117.1
                    refine own_go T117 m 147 #[iv x0, iv x1, iv x2, iv x3, iv x4, iv x5, iv 1, iv 0, iv v8, iv v9, iv v10, rv b67, .unset, .unset, .unset, .unset] [(.int (-1))] (st117) ?_
                    refine own_go T117 m 149 #[iv x0, iv x1, iv x2, iv x3, iv x4, iv x5, iv 1, iv 0, iv v8, iv v9, iv v10, rv b67, iv (-1), .unset, .unset, .unset] [] (fun t k => XS.istore X117.here hx rfl (hb hby at_147) rfl rfl k) ?_
                    refine own_go T117 m 151 #[iv x0, iv x1, iv x2, iv x3, iv x4, iv x5, iv 1, iv 0, iv v8, iv v9, iv v10, rv b67, iv (-1), .unset, .unset, .unset] [(.int v8)] (fun t k => XS.iload X117.here hx rfl (hb hby at_149) rfl k) ?_
                    refine own_go T117 m 152 #[iv x0, iv x1, iv x2, iv x3, iv x4, iv x5, iv 1, iv 0, iv v8, iv v9, iv v10, rv b67, iv (-1), .unset, .unset, .unset] [(.int x0), (.int v8)] (fun t k => XS.iloadN X117.here hx rfl (hb hby at_151) rfl k) ?_
                    refine own_go T117 m 155 #[iv x0, iv x1, iv x2, iv x3, iv x4, iv x5, iv 1, iv 0, iv v8, iv v9, iv v10, rv b67, iv (-1), .unset, .unset, .unset] [] (fun t k => XS.icmpNo X117.here hx rfl (hb hby at_152) rfl (flt hc144_96).1 k) ?_
                    refine own_go T117 m 157 #[iv x0, iv x1, iv x2, iv x3, iv x4, iv x5, iv 1, iv 0, iv v8, iv v9, iv v10, rv b67, iv (-1), .unset, .unset, .unset] [(.int v8)] (fun t k => XS.iload X117.here hx rfl (hb hby at_155) rfl k) ?_
                    refine own_go T117 m 159 #[iv x0, iv x1, iv x2, iv x3, iv x4, iv x5, iv 1, iv 0, iv v8, iv v9, iv v10, rv b67, iv (-1), .unset, .unset, .unset] [(.int v9), (.int v8)] (fun t k => XS.iload X117.here hx rfl (hb hby at_157) rfl k) ?_
                    refine own_go T117 m 162 #[iv x0, iv x1, iv x2, iv x3, iv x4, iv x5, iv 1, iv 0, iv v8, iv v9, iv v10, rv b67, iv (-1), .unset, .unset, .unset] [] (fun t k => XS.icmpNo X117.here hx rfl (hb hby at_159) rfl (tlt hc144_105).2.1 k) ?_
                    refine own_go T117 m 163 #[iv x0, iv x1, iv x2, iv x3, iv x4, iv x5, iv 1, iv 0, iv v8, iv v9, iv v10, rv b67, iv (-1), .unset, .unset, .unset] [(.int 1)] (fun t k => XS.iconst X117.here hx rfl (hb hby at_162) k) ?_
                    refine own_go T117 m 167 #[iv x0, iv x1, iv x2, iv x3, iv x4, iv x5, iv 1, iv 0, iv v8, iv v9, iv v10, rv b67, iv (-1), .unset, .unset, .unset] [(.int 1)] (fun t k => XS.goto X117.here hx rfl (pc0 := 163) (pc' := 167) rfl (hb hby at_163) (by decide) (by decide) k) ?_
                    refine own_go T117 m 169 #[iv x0, iv x1, iv x2, iv x3, iv x4, iv x5, iv 1, iv 0, iv v8, iv v9, iv v10, rv b67, iv (-1), iv 1, .unset, .unset] [] (fun t k => XS.istore X117.here hx rfl (hb hby at_167) rfl rfl k) ?_
                    refine own_go T117 m 171 #[iv x0, iv x1, iv x2, iv x3, iv x4, iv x5, iv 1, iv 0, iv v8, iv v9, iv v10, rv b67, iv (-1), iv 1, .unset, .unset] [(.int 1)] (fun t k => XS.iload X117.here hx rfl (hb hby at_169) rfl k) ?_
                    refine own_go T117 m 174 #[iv x0, iv x1, iv x2, iv x3, iv x4, iv x5, iv 1, iv 0, iv v8, iv v9, iv v10, rv b67, iv (-1), iv 1, .unset, .unset] [] (fun t k => XS.ifNo X117.here hx rfl (hb hby at_171) rfl ((if0 _ _).trans (feq (by decide)).1) k) ?_
                    refine own_go T117 m 176 #[iv x0, iv x1, iv x2, iv x3, iv x4, iv x5, iv 1, iv 0, iv v8, iv v9, iv v10, rv b67, iv (-1), iv 1, .unset, .unset] [(.int 1)] (fun t k => XS.iload X117.here hx rfl (hb hby at_174) rfl k) ?_
                    refine own_go T117 m 179 #[iv x0, iv x1, iv x2, iv x3, iv x4, iv x5, iv 1, iv 0, iv v8, iv v9, iv v10, rv b67, iv (-1), iv 1, .unset, .unset] [] (fun t k => XS.ifNo X117.here hx rfl (hb hby at_176) rfl ((if0 _ _).trans (feq (by decide)).1) k) ?_
                    refine own_go T117 m 181 #[iv x0, iv x1, iv x2, iv x3, iv x4, iv x5, iv 1, iv 0, iv v8, iv v9, iv v10, rv b67, iv (-1), iv 1, .unset, .unset] [(.int v8)] (fun t k => XS.iload X117.here hx rfl (hb hby at_179) rfl k) ?_
                    refine own_go T117 m 182 #[iv x0, iv x1, iv x2, iv x3, iv x4, iv x5, iv 1, iv 0, iv v8, iv v9, iv v10, rv b67, iv (-1), iv 1, .unset, .unset] [(.int x0), (.int v8)] (fun t k => XS.iloadN X117.here hx rfl (hb hby at_181) rfl k) ?_
                    refine own_go T117 m 185 #[iv x0, iv x1, iv x2, iv x3, iv x4, iv x5, iv 1, iv 0, iv v8, iv v9, iv v10, rv b67, iv (-1), iv 1, .unset, .unset] [] (fun t k => XS.icmpNo X117.here hx rfl (hb hby at_182) rfl (teq (own_db5 (x5 &&& (1 : Int32)) (x5 &&& (2 : Int32)) v8 x0 v9 x3 v10 hc4_1 hc18_63 hc144_96 hc144_105 hc144_107 hc144_116)).2 k) ?_
                    refine own_go T117 m 186 #[iv x0, iv x1, iv x2, iv x3, iv x4, iv x5, iv 1, iv 0, iv v8, iv v9, iv v10, rv b67, iv (-1), iv 1, .unset, .unset] [(.int 1)] (fun t k => XS.iconst X117.here hx rfl (hb hby at_185) k) ?_
                    refine own_go T117 m 190 #[iv x0, iv x1, iv x2, iv x3, iv x4, iv x5, iv 1, iv 0, iv v8, iv v9, iv v10, rv b67, iv (-1), iv 1, .unset, .unset] [(.int 1)] (fun t k => XS.goto X117.here hx rfl (pc0 := 186) (pc' := 190) rfl (hb hby at_186) (by decide) (by decide) k) ?_
                    refine own_go T117 m 192 #[iv x0, iv x1, iv x2, iv x3, iv x4, iv x5, iv 1, iv 0, iv v8, iv v9, iv v10, rv b67, iv (-1), iv 1, iv 1, .unset] [] (fun t k => XS.istore X117.here hx rfl (hb hby at_190) rfl rfl k) ?_
                    refine own_go T117 m 194 #[iv x0, iv x1, iv x2, iv x3, iv x4, iv x5, iv 1, iv 0, iv v8, iv v9, iv v10, rv b67, iv (-1), iv 1, iv 1, .unset] [(.int 1)] (fun t k => XS.iload X117.here hx rfl (hb hby at_192) rfl k) ?_
                    refine own_go T117 m 197 #[iv x0, iv x1, iv x2, iv x3, iv x4, iv x5, iv 1, iv 0, iv v8, iv v9, iv v10, rv b67, iv (-1), iv 1, iv 1, .unset] [] (fun t k => XS.ifNo X117.here hx rfl (hb hby at_194) rfl ((if0 _ _).trans (feq (by decide)).1) k) ?_
                    refine own_go T117 m 199 #[iv x0, iv x1, iv x2, iv x3, iv x4, iv x5, iv 1, iv 0, iv v8, iv v9, iv v10, rv b67, iv (-1), iv 1, iv 1, .unset] [(.int v10)] (fun t k => XS.iload X117.here hx rfl (hb hby at_197) rfl k) ?_
                    refine own_go T117 m 200 #[iv x0, iv x1, iv x2, iv x3, iv x4, iv x5, iv 1, iv 0, iv v8, iv v9, iv v10, rv b67, iv (-1), iv 1, iv 1, .unset] [(.int x3), (.int v10)] (fun t k => XS.iloadN X117.here hx rfl (hb hby at_199) rfl k) ?_
                    refine own_go T117 m 203 #[iv x0, iv x1, iv x2, iv x3, iv x4, iv x5, iv 1, iv 0, iv v8, iv v9, iv v10, rv b67, iv (-1), iv 1, iv 1, .unset] [] (fun t k => XS.icmpNo X117.here hx rfl (hb hby at_200) rfl (tlt hc144_116).2.2.2 k) ?_
                    refine own_go T117 m 204 #[iv x0, iv x1, iv x2, iv x3, iv x4, iv x5, iv 1, iv 0, iv v8, iv v9, iv v10, rv b67, iv (-1), iv 1, iv 1, .unset] [(.int (-1))] (fun t k => XS.iconst X117.here hx rfl (hb hby at_203) k) ?_
                    refine own_go T117 m 209 #[iv x0, iv x1, iv x2, iv x3, iv x4, iv x5, iv 1, iv 0, iv v8, iv v9, iv v10, rv b67, iv (-1), iv 1, iv 1, .unset] [(.int (-1))] (fun t k => XS.goto X117.here hx rfl (pc0 := 204) (pc' := 209) rfl (hb hby at_204) (by decide) (by decide) k) ?_
                    refine own_go T117 m 211 #[iv x0, iv x1, iv x2, iv x3, iv x4, iv x5, iv 1, iv 0, iv v8, iv v9, iv v10, rv b67, iv (-1), iv 1, iv 1, iv (-1)] [] (fun t k => XS.istore X117.here hx rfl (hb hby at_209) rfl rfl k) ?_
                    refine own_go T117 m 217 #[iv x0, iv x1, iv x2, iv x3, iv x4, iv x5, iv 1, iv 0, iv v8, iv v9, iv v10, rv b67, iv (-1), iv 1, iv 1, iv (-1)] [] (fun t k => XS.goto X117.here hx rfl (pc0 := 211) (pc' := 217) rfl (hb hby at_211) (by decide) (by decide) k) ?_
                    refine own_go T117 m 219 #[iv x0, iv x1, iv x2, iv x3, iv x4, iv x5, iv 1, iv 0, iv v8, iv v9, iv v10, rv b67, iv (-1), iv 1, iv 1, iv (-1)] [(.int (-1))] (fun t k => XS.iload X117.here hx rfl (hb hby at_217) rfl k) ?_
                    refine own_go T117 m 221 #[iv x0, iv x1, iv x2, iv x3, iv x4, iv x5, iv 1, iv 0, iv v8, iv v9, iv v10, rv b67, iv (-1), iv 1, iv 1, iv (-1)] [(.int (-1)), (.int (-1))] (fun t k => XS.iload X117.here hx rfl (hb hby at_219) rfl k) ?_
                    refine own_go T117 m 224 #[iv x0, iv x1, iv x2, iv x3, iv x4, iv x5, iv 1, iv 0, iv v8, iv v9, iv v10, rv b67, iv (-1), iv 1, iv 1, iv (-1)] [] (fun t k => XS.icmpNo X117.here hx rfl (hb hby at_221) rfl (teq (by decide)).2 k) ?_
                    refine own_go T117 m 225 #[iv x0, iv x1, iv x2, iv x3, iv x4, iv x5, iv 1, iv 0, iv v8, iv v9, iv v10, rv b67, iv (-1), iv 1, iv 1, iv (-1)] [(.int 1)] (fun t k => XS.iconst X117.here hx rfl (hb hby at_224) k) ?_
                    refine own_go T117 m 229 #[iv x0, iv x1, iv x2, iv x3, iv x4, iv x5, iv 1, iv 0, iv v8, iv v9, iv v10, rv b67, iv (-1), iv 1, iv 1, iv (-1)] [(.int 1)] (fun t k => XS.goto X117.here hx rfl (pc0 := 225) (pc' := 229) rfl (hb hby at_225) (by decide) (by decide) k) ?_
                    refine own_retZ X117 hx hlk hret (by decide) (hb hby at_229) (by decide) (by decide) ?_
                    exact ⟨rfl, N117⟩
                  · obtain ⟨_, T124, L124, X124, ⟨rfl, Nq124, Kq124, fq0_124, fq1_124, fq2_124, fq3_124, fq4_124, fq5_124, fq6_124, fq7_124, fq8_124⟩, st124⟩ := own_virtual X80 hx hZ (y := (⟨OwnK0, "find", "(II)I"⟩ : MethodName)) (z := (⟨OwnK0, "find", "(II)I"⟩ : MethodName)) hown (own_w hw 43 rfl) (own_w hw 44 rfl) (notFace_of_selects (args := #[]) (mvT hZ (own_w hw 46 rfl))) (own_w hw 46 rfl) (own_w hw 45 rfl) (own_w hw 2 rfl) (own_w hw 47 rfl) (by decide) (sp21 l Z a0 hw [] b67 w1_68 w3_68 w2_68 w4_68 w0_68 v8 v10 v9 x3 x0 kw1_68 kw3_68 kw2_68 kw4_68 kw0_68 T80.heap n0 Z_80 cf81 cf94 cf84 cf85 cf93 cf86 cf87 cf88 cf89 cf90 cf92 fq0_80 cf82 cf83 cf91 ne_b67_w1_68 ne_b67_w3_68 ne_b67_w2_68 ne_b67_w4_68 ne_b67_w0_68 g_b67 hc144_96 hc144_105 hc144_107 (own_db6 (x5 &&& (1 : Int32)) (x5 &&& (2 : Int32)) v8 x0 v9 x3 v10 hc4_1 hc18_63 hc144_96 hc144_105 hc144_107 hc144_116) hc144_116) rfl cf81 0 (argsL := [(.int v8), (.int v10)]) (rest := []) (Ls := #[iv x0, iv x1, iv x2, iv x3, iv x4, iv x5, iv 1, iv 0, iv v8, iv v9, iv v10, rv b67, .unset, .unset, .unset, .unset]) (by rw [hml]; rfl) (lenOf pd__II_I rfl) rfl rfl (Nat.le_of_eq rfl) (hb hby at_144) (by decide) (by decide) (by decide) (by decide)
                    have N124 := Fr.app N80 Nq124
                    have cf125 := cf81.keep Kq124
                    have cf126 := cf82.keep Kq124 (ninS (Ne.symm ne_b67_w2_68) nin0)
                    have cf127 := cf83.keep Kq124 (ninS (Ne.symm ne_b67_w4_68) nin0)
                    have cf128 := cf91.keep Kq124 (ninS (Ne.symm ne_b67_w0_68) nin0)
                    have cf129 := cf92.keep Kq124 (ninS (Ne.symm ne_b67_w1_68) nin0)
                    have cf130 := fq0_80.keep Kq124 (ninS (Ne.symm ne_b67_w3_68) nin0)
                    have Z_124 : n0 ≤ T124.heap.size := Nat.le_trans Z_80 Kq124.1
                    refine own_go T124 m 147 #[iv x0, iv x1, iv x2, iv x3, iv x4, iv x5, iv 1, iv 0, iv v8, iv v9, iv v10, rv b67, .unset, .unset, .unset, .unset] [(.int (-2))] (st124) ?_
                    refine own_go T124 m 149 #[iv x0, iv x1, iv x2, iv x3, iv x4, iv x5, iv 1, iv 0, iv v8, iv v9, iv v10, rv b67, iv (-2), .unset, .unset, .unset] [] (fun t k => XS.istore X124.here hx rfl (hb hby at_147) rfl rfl k) ?_
                    refine own_go T124 m 151 #[iv x0, iv x1, iv x2, iv x3, iv x4, iv x5, iv 1, iv 0, iv v8, iv v9, iv v10, rv b67, iv (-2), .unset, .unset, .unset] [(.int v8)] (fun t k => XS.iload X124.here hx rfl (hb hby at_149) rfl k) ?_
                    refine own_go T124 m 152 #[iv x0, iv x1, iv x2, iv x3, iv x4, iv x5, iv 1, iv 0, iv v8, iv v9, iv v10, rv b67, iv (-2), .unset, .unset, .unset] [(.int x0), (.int v8)] (fun t k => XS.iloadN X124.here hx rfl (hb hby at_151) rfl k) ?_
                    refine own_go T124 m 155 #[iv x0, iv x1, iv x2, iv x3, iv x4, iv x5, iv 1, iv 0, iv v8, iv v9, iv v10, rv b67, iv (-2), .unset, .unset, .unset] [] (fun t k => XS.icmpNo X124.here hx rfl (hb hby at_152) rfl (flt hc144_96).1 k) ?_
                    refine own_go T124 m 157 #[iv x0, iv x1, iv x2, iv x3, iv x4, iv x5, iv 1, iv 0, iv v8, iv v9, iv v10, rv b67, iv (-2), .unset, .unset, .unset] [(.int v8)] (fun t k => XS.iload X124.here hx rfl (hb hby at_155) rfl k) ?_
                    refine own_go T124 m 159 #[iv x0, iv x1, iv x2, iv x3, iv x4, iv x5, iv 1, iv 0, iv v8, iv v9, iv v10, rv b67, iv (-2), .unset, .unset, .unset] [(.int v9), (.int v8)] (fun t k => XS.iload X124.here hx rfl (hb hby at_157) rfl k) ?_
                    refine own_go T124 m 162 #[iv x0, iv x1, iv x2, iv x3, iv x4, iv x5, iv 1, iv 0, iv v8, iv v9, iv v10, rv b67, iv (-2), .unset, .unset, .unset] [] (fun t k => XS.icmpNo X124.here hx rfl (hb hby at_159) rfl (tlt hc144_105).2.1 k) ?_
                    refine own_go T124 m 163 #[iv x0, iv x1, iv x2, iv x3, iv x4, iv x5, iv 1, iv 0, iv v8, iv v9, iv v10, rv b67, iv (-2), .unset, .unset, .unset] [(.int 1)] (fun t k => XS.iconst X124.here hx rfl (hb hby at_162) k) ?_
                    refine own_go T124 m 167 #[iv x0, iv x1, iv x2, iv x3, iv x4, iv x5, iv 1, iv 0, iv v8, iv v9, iv v10, rv b67, iv (-2), .unset, .unset, .unset] [(.int 1)] (fun t k => XS.goto X124.here hx rfl (pc0 := 163) (pc' := 167) rfl (hb hby at_163) (by decide) (by decide) k) ?_
                    refine own_go T124 m 169 #[iv x0, iv x1, iv x2, iv x3, iv x4, iv x5, iv 1, iv 0, iv v8, iv v9, iv v10, rv b67, iv (-2), iv 1, .unset, .unset] [] (fun t k => XS.istore X124.here hx rfl (hb hby at_167) rfl rfl k) ?_
                    refine own_go T124 m 171 #[iv x0, iv x1, iv x2, iv x3, iv x4, iv x5, iv 1, iv 0, iv v8, iv v9, iv v10, rv b67, iv (-2), iv 1, .unset, .unset] [(.int 1)] (fun t k => XS.iload X124.here hx rfl (hb hby at_169) rfl k) ?_
                    refine own_go T124 m 174 #[iv x0, iv x1, iv x2, iv x3, iv x4, iv x5, iv 1, iv 0, iv v8, iv v9, iv v10, rv b67, iv (-2), iv 1, .unset, .unset] [] (fun t k => XS.ifNo X124.here hx rfl (hb hby at_171) rfl ((if0 _ _).trans (feq (by decide)).1) k) ?_
                    refine own_go T124 m 176 #[iv x0, iv x1, iv x2, iv x3, iv x4, iv x5, iv 1, iv 0, iv v8, iv v9, iv v10, rv b67, iv (-2), iv 1, .unset, .unset] [(.int 1)] (fun t k => XS.iload X124.here hx rfl (hb hby at_174) rfl k) ?_
                    refine own_go T124 m 179 #[iv x0, iv x1, iv x2, iv x3, iv x4, iv x5, iv 1, iv 0, iv v8, iv v9, iv v10, rv b67, iv (-2), iv 1, .unset, .unset] [] (fun t k => XS.ifNo X124.here hx rfl (hb hby at_176) rfl ((if0 _ _).trans (feq (by decide)).1) k) ?_
                    refine own_go T124 m 181 #[iv x0, iv x1, iv x2, iv x3, iv x4, iv x5, iv 1, iv 0, iv v8, iv v9, iv v10, rv b67, iv (-2), iv 1, .unset, .unset] [(.int v8)] (fun t k => XS.iload X124.here hx rfl (hb hby at_179) rfl k) ?_
                    refine own_go T124 m 182 #[iv x0, iv x1, iv x2, iv x3, iv x4, iv x5, iv 1, iv 0, iv v8, iv v9, iv v10, rv b67, iv (-2), iv 1, .unset, .unset] [(.int x0), (.int v8)] (fun t k => XS.iloadN X124.here hx rfl (hb hby at_181) rfl k) ?_
                    refine own_go T124 m 185 #[iv x0, iv x1, iv x2, iv x3, iv x4, iv x5, iv 1, iv 0, iv v8, iv v9, iv v10, rv b67, iv (-2), iv 1, .unset, .unset] [] (fun t k => XS.icmpNo X124.here hx rfl (hb hby at_182) rfl (teq (own_db10 (x5 &&& (1 : Int32)) (x5 &&& (2 : Int32)) v8 x0 v9 x3 v10 hc4_1 hc18_63 hc144_96 hc144_105 hc144_107 hc144_116)).2 k) ?_
                    refine own_go T124 m 186 #[iv x0, iv x1, iv x2, iv x3, iv x4, iv x5, iv 1, iv 0, iv v8, iv v9, iv v10, rv b67, iv (-2), iv 1, .unset, .unset] [(.int 1)] (fun t k => XS.iconst X124.here hx rfl (hb hby at_185) k) ?_
                    refine own_go T124 m 190 #[iv x0, iv x1, iv x2, iv x3, iv x4, iv x5, iv 1, iv 0, iv v8, iv v9, iv v10, rv b67, iv (-2), iv 1, .unset, .unset] [(.int 1)] (fun t k => XS.goto X124.here hx rfl (pc0 := 186) (pc' := 190) rfl (hb hby at_186) (by decide) (by decide) k) ?_
                    refine own_go T124 m 192 #[iv x0, iv x1, iv x2, iv x3, iv x4, iv x5, iv 1, iv 0, iv v8, iv v9, iv v10, rv b67, iv (-2), iv 1, iv 1, .unset] [] (fun t k => XS.istore X124.here hx rfl (hb hby at_190) rfl rfl k) ?_
                    refine own_go T124 m 194 #[iv x0, iv x1, iv x2, iv x3, iv x4, iv x5, iv 1, iv 0, iv v8, iv v9, iv v10, rv b67, iv (-2), iv 1, iv 1, .unset] [(.int 1)] (fun t k => XS.iload X124.here hx rfl (hb hby at_192) rfl k) ?_
                    refine own_go T124 m 197 #[iv x0, iv x1, iv x2, iv x3, iv x4, iv x5, iv 1, iv 0, iv v8, iv v9, iv v10, rv b67, iv (-2), iv 1, iv 1, .unset] [] (fun t k => XS.ifNo X124.here hx rfl (hb hby at_194) rfl ((if0 _ _).trans (feq (by decide)).1) k) ?_
                    refine own_go T124 m 199 #[iv x0, iv x1, iv x2, iv x3, iv x4, iv x5, iv 1, iv 0, iv v8, iv v9, iv v10, rv b67, iv (-2), iv 1, iv 1, .unset] [(.int v10)] (fun t k => XS.iload X124.here hx rfl (hb hby at_197) rfl k) ?_
                    refine own_go T124 m 200 #[iv x0, iv x1, iv x2, iv x3, iv x4, iv x5, iv 1, iv 0, iv v8, iv v9, iv v10, rv b67, iv (-2), iv 1, iv 1, .unset] [(.int x3), (.int v10)] (fun t k => XS.iloadN X124.here hx rfl (hb hby at_199) rfl k) ?_
                    refine own_go T124 m 207 #[iv x0, iv x1, iv x2, iv x3, iv x4, iv x5, iv 1, iv 0, iv v8, iv v9, iv v10, rv b67, iv (-2), iv 1, iv 1, .unset] [] (fun t k => XS.icmpYes X124.here hx rfl (pc0 := 200) (pc' := 207) rfl (hb hby at_200) rfl (flt hc144_116).2.2.2 (by decide) (by decide) k) ?_
                    refine own_go T124 m 209 #[iv x0, iv x1, iv x2, iv x3, iv x4, iv x5, iv 1, iv 0, iv v8, iv v9, iv v10, rv b67, iv (-2), iv 1, iv 1, .unset] [(.int (-2))] (fun t k => XS.bipush X124.here hx rfl (hb hby at_207) k) ?_
                    refine own_go T124 m 211 #[iv x0, iv x1, iv x2, iv x3, iv x4, iv x5, iv 1, iv 0, iv v8, iv v9, iv v10, rv b67, iv (-2), iv 1, iv 1, iv (-2)] [] (fun t k => XS.istore X124.here hx rfl (hb hby at_209) rfl rfl k) ?_
                    refine own_go T124 m 217 #[iv x0, iv x1, iv x2, iv x3, iv x4, iv x5, iv 1, iv 0, iv v8, iv v9, iv v10, rv b67, iv (-2), iv 1, iv 1, iv (-2)] [] (fun t k => XS.goto X124.here hx rfl (pc0 := 211) (pc' := 217) rfl (hb hby at_211) (by decide) (by decide) k) ?_
                    refine own_go T124 m 219 #[iv x0, iv x1, iv x2, iv x3, iv x4, iv x5, iv 1, iv 0, iv v8, iv v9, iv v10, rv b67, iv (-2), iv 1, iv 1, iv (-2)] [(.int (-2))] (fun t k => XS.iload X124.here hx rfl (hb hby at_217) rfl k) ?_
                    refine own_go T124 m 221 #[iv x0, iv x1, iv x2, iv x3, iv x4, iv x5, iv 1, iv 0, iv v8, iv v9, iv v10, rv b67, iv (-2), iv 1, iv 1, iv (-2)] [(.int (-2)), (.int (-2))] (fun t k => XS.iload X124.here hx rfl (hb hby at_219) rfl k) ?_
                    refine own_go T124 m 224 #[iv x0, iv x1, iv x2, iv x3, iv x4, iv x5, iv 1, iv 0, iv v8, iv v9, iv v10, rv b67, iv (-2), iv 1, iv 1, iv (-2)] [] (fun t k => XS.icmpNo X124.here hx rfl (hb hby at_221) rfl (teq (by decide)).2 k) ?_
                    refine own_go T124 m 225 #[iv x0, iv x1, iv x2, iv x3, iv x4, iv x5, iv 1, iv 0, iv v8, iv v9, iv v10, rv b67, iv (-2), iv 1, iv 1, iv (-2)] [(.int 1)] (fun t k => XS.iconst X124.here hx rfl (hb hby at_224) k) ?_
                    refine own_go T124 m 229 #[iv x0, iv x1, iv x2, iv x3, iv x4, iv x5, iv 1, iv 0, iv v8, iv v9, iv v10, rv b67, iv (-2), iv 1, iv 1, iv (-2)] [(.int 1)] (fun t k => XS.goto X124.here hx rfl (pc0 := 225) (pc' := 229) rfl (hb hby at_225) (by decide) (by decide) k) ?_
                    refine own_retZ X124 hx hlk hret (by decide) (hb hby at_229) (by decide) (by decide) ?_
                    exact ⟨rfl, N124⟩
              · obtain ⟨_, T131, L131, X131, ⟨rfl, Nq131, Kq131, fq0_131, fq1_131, fq2_131, fq3_131, fq4_131, fq5_131, fq6_131, fq7_131, fq8_131⟩, st131⟩ := own_virtual X80 hx hZ (y := (⟨OwnK0, "find", "(II)I"⟩ : MethodName)) (z := (⟨OwnK0, "find", "(II)I"⟩ : MethodName)) hown (own_w hw 43 rfl) (own_w hw 44 rfl) (notFace_of_selects (args := #[]) (mvT hZ (own_w hw 46 rfl))) (own_w hw 46 rfl) (own_w hw 45 rfl) (own_w hw 2 rfl) (own_w hw 47 rfl) (by decide) (sp22 l Z a0 hw [] b67 w1_68 w3_68 w2_68 w4_68 w0_68 v8 v10 v9 x0 kw3_68 kw2_68 kw0_68 T80.heap n0 Z_80 cf81 cf94 cf84 cf85 cf93 cf86 cf87 cf88 cf89 cf90 fq0_80 cf82 cf91 ne_b67_w1_68 ne_b67_w3_68 ne_b67_w2_68 ne_b67_w4_68 ne_b67_w0_68 g_b67 hc144_96 hc144_105) rfl cf81 0 (argsL := [(.int v8), (.int v10)]) (rest := []) (Ls := #[iv x0, iv x1, iv x2, iv x3, iv x4, iv x5, iv 1, iv 0, iv v8, iv v9, iv v10, rv b67, .unset, .unset, .unset, .unset]) (by rw [hml]; rfl) (lenOf pd__II_I rfl) rfl rfl (Nat.le_of_eq rfl) (hb hby at_144) (by decide) (by decide) (by decide) (by decide)
                have N131 := Fr.app N80 Nq131
                have cf132 := cf81.keep Kq131
                have cf133 := cf82.keep Kq131 (ninS (Ne.symm ne_b67_w2_68) nin0)
                have cf134 := cf83.keep Kq131 (ninS (Ne.symm ne_b67_w4_68) nin0)
                have cf135 := cf91.keep Kq131 (ninS (Ne.symm ne_b67_w0_68) nin0)
                have cf136 := cf92.keep Kq131 (ninS (Ne.symm ne_b67_w1_68) nin0)
                have cf137 := fq0_80.keep Kq131 (ninS (Ne.symm ne_b67_w3_68) nin0)
                have Z_131 : n0 ≤ T131.heap.size := Nat.le_trans Z_80 Kq131.1
                refine own_go T131 m 147 #[iv x0, iv x1, iv x2, iv x3, iv x4, iv x5, iv 1, iv 0, iv v8, iv v9, iv v10, rv b67, .unset, .unset, .unset, .unset] [(.int (-1))] (st131) ?_
                refine own_go T131 m 149 #[iv x0, iv x1, iv x2, iv x3, iv x4, iv x5, iv 1, iv 0, iv v8, iv v9, iv v10, rv b67, iv (-1), .unset, .unset, .unset] [] (fun t k => XS.istore X131.here hx rfl (hb hby at_147) rfl rfl k) ?_
                refine own_go T131 m 151 #[iv x0, iv x1, iv x2, iv x3, iv x4, iv x5, iv 1, iv 0, iv v8, iv v9, iv v10, rv b67, iv (-1), .unset, .unset, .unset] [(.int v8)] (fun t k => XS.iload X131.here hx rfl (hb hby at_149) rfl k) ?_
                refine own_go T131 m 152 #[iv x0, iv x1, iv x2, iv x3, iv x4, iv x5, iv 1, iv 0, iv v8, iv v9, iv v10, rv b67, iv (-1), .unset, .unset, .unset] [(.int x0), (.int v8)] (fun t k => XS.iloadN X131.here hx rfl (hb hby at_151) rfl k) ?_
                refine own_go T131 m 155 #[iv x0, iv x1, iv x2, iv x3, iv x4, iv x5, iv 1, iv 0, iv v8, iv v9, iv v10, rv b67, iv (-1), .unset, .unset, .unset] [] (fun t k => XS.icmpNo X131.here hx rfl (hb hby at_152) rfl (flt hc144_96).1 k) ?_
                refine own_go T131 m 157 #[iv x0, iv x1, iv x2, iv x3, iv x4, iv x5, iv 1, iv 0, iv v8, iv v9, iv v10, rv b67, iv (-1), .unset, .unset, .unset] [(.int v8)] (fun t k => XS.iload X131.here hx rfl (hb hby at_155) rfl k) ?_
                refine own_go T131 m 159 #[iv x0, iv x1, iv x2, iv x3, iv x4, iv x5, iv 1, iv 0, iv v8, iv v9, iv v10, rv b67, iv (-1), .unset, .unset, .unset] [(.int v9), (.int v8)] (fun t k => XS.iload X131.here hx rfl (hb hby at_157) rfl k) ?_
                refine own_go T131 m 166 #[iv x0, iv x1, iv x2, iv x3, iv x4, iv x5, iv 1, iv 0, iv v8, iv v9, iv v10, rv b67, iv (-1), .unset, .unset, .unset] [] (fun t k => XS.icmpYes X131.here hx rfl (pc0 := 159) (pc' := 166) rfl (hb hby at_159) rfl (flt hc144_105).2.1 (by decide) (by decide) k) ?_
                refine own_go T131 m 167 #[iv x0, iv x1, iv x2, iv x3, iv x4, iv x5, iv 1, iv 0, iv v8, iv v9, iv v10, rv b67, iv (-1), .unset, .unset, .unset] [(.int 0)] (fun t k => XS.iconst X131.here hx rfl (hb hby at_166) k) ?_
                refine own_go T131 m 169 #[iv x0, iv x1, iv x2, iv x3, iv x4, iv x5, iv 1, iv 0, iv v8, iv v9, iv v10, rv b67, iv (-1), iv 0, .unset, .unset] [] (fun t k => XS.istore X131.here hx rfl (hb hby at_167) rfl rfl k) ?_
                refine own_go T131 m 171 #[iv x0, iv x1, iv x2, iv x3, iv x4, iv x5, iv 1, iv 0, iv v8, iv v9, iv v10, rv b67, iv (-1), iv 0, .unset, .unset] [(.int 1)] (fun t k => XS.iload X131.here hx rfl (hb hby at_169) rfl k) ?_
                refine own_go T131 m 174 #[iv x0, iv x1, iv x2, iv x3, iv x4, iv x5, iv 1, iv 0, iv v8, iv v9, iv v10, rv b67, iv (-1), iv 0, .unset, .unset] [] (fun t k => XS.ifNo X131.here hx rfl (hb hby at_171) rfl ((if0 _ _).trans (feq (by decide)).1) k) ?_
                refine own_go T131 m 176 #[iv x0, iv x1, iv x2, iv x3, iv x4, iv x5, iv 1, iv 0, iv v8, iv v9, iv v10, rv b67, iv (-1), iv 0, .unset, .unset] [(.int 0)] (fun t k => XS.iload X131.here hx rfl (hb hby at_174) rfl k) ?_
                refine own_go T131 m 189 #[iv x0, iv x1, iv x2, iv x3, iv x4, iv x5, iv 1, iv 0, iv v8, iv v9, iv v10, rv b67, iv (-1), iv 0, .unset, .unset] [] (fun t k => XS.ifYes X131.here hx rfl (pc0 := 176) (pc' := 189) rfl (hb hby at_176) rfl ((if0 _ _).trans (teq (by decide)).1) (by decide) (by decide) k) ?_
                refine own_go T131 m 190 #[iv x0, iv x1, iv x2, iv x3, iv x4, iv x5, iv 1, iv 0, iv v8, iv v9, iv v10, rv b67, iv (-1), iv 0, .unset, .unset] [(.int 0)] (fun t k => XS.iconst X131.here hx rfl (hb hby at_189) k) ?_
                refine own_go T131 m 192 #[iv x0, iv x1, iv x2, iv x3, iv x4, iv x5, iv 1, iv 0, iv v8, iv v9, iv v10, rv b67, iv (-1), iv 0, iv 0, .unset] [] (fun t k => XS.istore X131.here hx rfl (hb hby at_190) rfl rfl k) ?_
                refine own_go T131 m 194 #[iv x0, iv x1, iv x2, iv x3, iv x4, iv x5, iv 1, iv 0, iv v8, iv v9, iv v10, rv b67, iv (-1), iv 0, iv 0, .unset] [(.int 0)] (fun t k => XS.iload X131.here hx rfl (hb hby at_192) rfl k) ?_
                refine own_go T131 m 214 #[iv x0, iv x1, iv x2, iv x3, iv x4, iv x5, iv 1, iv 0, iv v8, iv v9, iv v10, rv b67, iv (-1), iv 0, iv 0, .unset] [] (fun t k => XS.ifYes X131.here hx rfl (pc0 := 194) (pc' := 214) rfl (hb hby at_194) rfl ((if0 _ _).trans (teq (by decide)).1) (by decide) (by decide) k) ?_
                refine own_go T131 m 215 #[iv x0, iv x1, iv x2, iv x3, iv x4, iv x5, iv 1, iv 0, iv v8, iv v9, iv v10, rv b67, iv (-1), iv 0, iv 0, .unset] [(.int (-1))] (fun t k => XS.iconst X131.here hx rfl (hb hby at_214) k) ?_
                refine own_go T131 m 217 #[iv x0, iv x1, iv x2, iv x3, iv x4, iv x5, iv 1, iv 0, iv v8, iv v9, iv v10, rv b67, iv (-1), iv 0, iv 0, iv (-1)] [] (fun t k => XS.istore X131.here hx rfl (hb hby at_215) rfl rfl k) ?_
                refine own_go T131 m 219 #[iv x0, iv x1, iv x2, iv x3, iv x4, iv x5, iv 1, iv 0, iv v8, iv v9, iv v10, rv b67, iv (-1), iv 0, iv 0, iv (-1)] [(.int (-1))] (fun t k => XS.iload X131.here hx rfl (hb hby at_217) rfl k) ?_
                refine own_go T131 m 221 #[iv x0, iv x1, iv x2, iv x3, iv x4, iv x5, iv 1, iv 0, iv v8, iv v9, iv v10, rv b67, iv (-1), iv 0, iv 0, iv (-1)] [(.int (-1)), (.int (-1))] (fun t k => XS.iload X131.here hx rfl (hb hby at_219) rfl k) ?_
                refine own_go T131 m 224 #[iv x0, iv x1, iv x2, iv x3, iv x4, iv x5, iv 1, iv 0, iv v8, iv v9, iv v10, rv b67, iv (-1), iv 0, iv 0, iv (-1)] [] (fun t k => XS.icmpNo X131.here hx rfl (hb hby at_221) rfl (teq (by decide)).2 k) ?_
                refine own_go T131 m 225 #[iv x0, iv x1, iv x2, iv x3, iv x4, iv x5, iv 1, iv 0, iv v8, iv v9, iv v10, rv b67, iv (-1), iv 0, iv 0, iv (-1)] [(.int 1)] (fun t k => XS.iconst X131.here hx rfl (hb hby at_224) k) ?_
                refine own_go T131 m 229 #[iv x0, iv x1, iv x2, iv x3, iv x4, iv x5, iv 1, iv 0, iv v8, iv v9, iv v10, rv b67, iv (-1), iv 0, iv 0, iv (-1)] [(.int 1)] (fun t k => XS.goto X131.here hx rfl (pc0 := 225) (pc' := 229) rfl (hb hby at_225) (by decide) (by decide) k) ?_
                refine own_retZ X131 hx hlk hret (by decide) (hb hby at_229) (by decide) (by decide) ?_
                exact ⟨rfl, N131⟩
          by_cases hc68_138 : (x5 &&& (16 : Int32)) = (0 : Int32)
          · refine own_go T0 m 82 #[iv x0, iv x1, iv x2, iv x3, iv x4, iv x5, iv 1, iv 0, iv v8, iv v9, .unset, .unset, .unset, .unset, .unset, .unset] [] (fun t k => XS.ifYes X0.here hx rfl (pc0 := 68) (pc' := 82) rfl (hb hby at_68) rfl ((if0 _ _).trans (teq hc68_138).1) (by decide) (by decide) k) ?_
            refine own_go T0 m 84 #[iv x0, iv x1, iv x2, iv x3, iv x4, iv x5, iv 1, iv 0, iv v8, iv v9, .unset, .unset, .unset, .unset, .unset, .unset] [(.int x4)] (fun t k => XS.iload X0.here hx rfl (hb hby at_82) rfl k) ?_
            refine own_go T0 m 86 #[iv x0, iv x1, iv x2, iv x3, iv x4, iv x5, iv 1, iv 0, iv v8, iv v9, iv x4, .unset, .unset, .unset, .unset, .unset] [] (fun t k => XS.istore X0.here hx rfl (hb hby at_84) rfl rfl k) ?_
            exact seg86 x4
          · refine own_go T0 m 71 #[iv x0, iv x1, iv x2, iv x3, iv x4, iv x5, iv 1, iv 0, iv v8, iv v9, .unset, .unset, .unset, .unset, .unset, .unset] [] (fun t k => XS.ifNo X0.here hx rfl (hb hby at_68) rfl ((if0 _ _).trans (feq hc68_138).1) k) ?_
            refine own_go T0 m 72 #[iv x0, iv x1, iv x2, iv x3, iv x4, iv x5, iv 1, iv 0, iv v8, iv v9, .unset, .unset, .unset, .unset, .unset, .unset] [(.int x3)] (fun t k => XS.iloadN X0.here hx rfl (hb hby at_71) rfl k) ?_
            refine own_go T0 m 74 #[iv x0, iv x1, iv x2, iv x3, iv x4, iv x5, iv 1, iv 0, iv v8, iv v9, .unset, .unset, .unset, .unset, .unset, .unset] [(.int x4), (.int x3)] (fun t k => XS.iload X0.here hx rfl (hb hby at_72) rfl k) ?_
            refine own_go T0 m 75 #[iv x0, iv x1, iv x2, iv x3, iv x4, iv x5, iv 1, iv 0, iv v8, iv v9, .unset, .unset, .unset, .unset, .unset, .unset] [(.int 3), (.int x4), (.int x3)] (fun t k => XS.iconst X0.here hx rfl (hb hby at_74) k) ?_
            refine own_go T0 m 76 #[iv x0, iv x1, iv x2, iv x3, iv x4, iv x5, iv 1, iv 0, iv v8, iv v9, .unset, .unset, .unset, .unset, .unset, .unset] [(.int (x4 &&& (3 : Int32))), (.int x3)] (fun t k => XS.iand X0.here hx rfl (hb hby at_75) rfl k) ?_
            refine own_go T0 m 77 #[iv x0, iv x1, iv x2, iv x3, iv x4, iv x5, iv 1, iv 0, iv v8, iv v9, .unset, .unset, .unset, .unset, .unset, .unset] [(.int 1), (.int (x4 &&& (3 : Int32))), (.int x3)] (fun t k => XS.iconst X0.here hx rfl (hb hby at_76) k) ?_
            refine own_go T0 m 78 #[iv x0, iv x1, iv x2, iv x3, iv x4, iv x5, iv 1, iv 0, iv v8, iv v9, .unset, .unset, .unset, .unset, .unset, .unset] [(.int ((x4 &&& (3 : Int32)) - (1 : Int32))), (.int x3)] (fun t k => XS.isub X0.here hx rfl (hb hby at_77) rfl k) ?_
            refine own_go T0 m 79 #[iv x0, iv x1, iv x2, iv x3, iv x4, iv x5, iv 1, iv 0, iv v8, iv v9, .unset, .unset, .unset, .unset, .unset, .unset] [(.int (x3 + ((x4 &&& (3 : Int32)) - (1 : Int32))))] (fun t k => XS.iadd X0.here hx rfl (hb hby at_78) rfl k) ?_
            refine own_go T0 m 84 #[iv x0, iv x1, iv x2, iv x3, iv x4, iv x5, iv 1, iv 0, iv v8, iv v9, .unset, .unset, .unset, .unset, .unset, .unset] [(.int (x3 + ((x4 &&& (3 : Int32)) - (1 : Int32))))] (fun t k => XS.goto X0.here hx rfl (pc0 := 79) (pc' := 84) rfl (hb hby at_79) (by decide) (by decide) k) ?_
            refine own_go T0 m 86 #[iv x0, iv x1, iv x2, iv x3, iv x4, iv x5, iv 1, iv 0, iv v8, iv v9, iv (x3 + ((x4 &&& (3 : Int32)) - (1 : Int32))), .unset, .unset, .unset, .unset, .unset] [] (fun t k => XS.istore X0.here hx rfl (hb hby at_84) rfl rfl k) ?_
            exact seg86 (x3 + ((x4 &&& (3 : Int32)) - (1 : Int32)))
        by_cases hc47_139 : (x5 &&& (8 : Int32)) = (0 : Int32)
        · refine own_go T0 m 60 #[iv x0, iv x1, iv x2, iv x3, iv x4, iv x5, iv 1, iv 0, iv v8, .unset, .unset, .unset, .unset, .unset, .unset, .unset] [] (fun t k => XS.ifYes X0.here hx rfl (pc0 := 47) (pc' := 60) rfl (hb hby at_47) rfl ((if0 _ _).trans (teq hc47_139).1) (by decide) (by decide) k) ?_
          refine own_go T0 m 61 #[iv x0, iv x1, iv x2, iv x3, iv x4, iv x5, iv 1, iv 0, iv v8, .unset, .unset, .unset, .unset, .unset, .unset, .unset] [(.int x1)] (fun t k => XS.iloadN X0.here hx rfl (hb hby at_60) rfl k) ?_
          refine own_go T0 m 63 #[iv x0, iv x1, iv x2, iv x3, iv x4, iv x5, iv 1, iv 0, iv v8, iv x1, .unset, .unset, .unset, .unset, .unset, .unset] [] (fun t k => XS.istore X0.here hx rfl (hb hby at_61) rfl rfl k) ?_
          exact seg63 x1
        · refine own_go T0 m 50 #[iv x0, iv x1, iv x2, iv x3, iv x4, iv x5, iv 1, iv 0, iv v8, .unset, .unset, .unset, .unset, .unset, .unset, .unset] [] (fun t k => XS.ifNo X0.here hx rfl (hb hby at_47) rfl ((if0 _ _).trans (feq hc47_139).1) k) ?_
          refine own_go T0 m 51 #[iv x0, iv x1, iv x2, iv x3, iv x4, iv x5, iv 1, iv 0, iv v8, .unset, .unset, .unset, .unset, .unset, .unset, .unset] [(.int x0)] (fun t k => XS.iloadN X0.here hx rfl (hb hby at_50) rfl k) ?_
          refine own_go T0 m 52 #[iv x0, iv x1, iv x2, iv x3, iv x4, iv x5, iv 1, iv 0, iv v8, .unset, .unset, .unset, .unset, .unset, .unset, .unset] [(.int x1), (.int x0)] (fun t k => XS.iloadN X0.here hx rfl (hb hby at_51) rfl k) ?_
          refine own_go T0 m 53 #[iv x0, iv x1, iv x2, iv x3, iv x4, iv x5, iv 1, iv 0, iv v8, .unset, .unset, .unset, .unset, .unset, .unset, .unset] [(.int 3), (.int x1), (.int x0)] (fun t k => XS.iconst X0.here hx rfl (hb hby at_52) k) ?_
          refine own_go T0 m 54 #[iv x0, iv x1, iv x2, iv x3, iv x4, iv x5, iv 1, iv 0, iv v8, .unset, .unset, .unset, .unset, .unset, .unset, .unset] [(.int (x1 &&& (3 : Int32))), (.int x0)] (fun t k => XS.iand X0.here hx rfl (hb hby at_53) rfl k) ?_
          refine own_go T0 m 55 #[iv x0, iv x1, iv x2, iv x3, iv x4, iv x5, iv 1, iv 0, iv v8, .unset, .unset, .unset, .unset, .unset, .unset, .unset] [(.int 1), (.int (x1 &&& (3 : Int32))), (.int x0)] (fun t k => XS.iconst X0.here hx rfl (hb hby at_54) k) ?_
          refine own_go T0 m 56 #[iv x0, iv x1, iv x2, iv x3, iv x4, iv x5, iv 1, iv 0, iv v8, .unset, .unset, .unset, .unset, .unset, .unset, .unset] [(.int ((x1 &&& (3 : Int32)) - (1 : Int32))), (.int x0)] (fun t k => XS.isub X0.here hx rfl (hb hby at_55) rfl k) ?_
          refine own_go T0 m 57 #[iv x0, iv x1, iv x2, iv x3, iv x4, iv x5, iv 1, iv 0, iv v8, .unset, .unset, .unset, .unset, .unset, .unset, .unset] [(.int (x0 + ((x1 &&& (3 : Int32)) - (1 : Int32))))] (fun t k => XS.iadd X0.here hx rfl (hb hby at_56) rfl k) ?_
          refine own_go T0 m 61 #[iv x0, iv x1, iv x2, iv x3, iv x4, iv x5, iv 1, iv 0, iv v8, .unset, .unset, .unset, .unset, .unset, .unset, .unset] [(.int (x0 + ((x1 &&& (3 : Int32)) - (1 : Int32))))] (fun t k => XS.goto X0.here hx rfl (pc0 := 57) (pc' := 61) rfl (hb hby at_57) (by decide) (by decide) k) ?_
          refine own_go T0 m 63 #[iv x0, iv x1, iv x2, iv x3, iv x4, iv x5, iv 1, iv 0, iv v8, iv (x0 + ((x1 &&& (3 : Int32)) - (1 : Int32))), .unset, .unset, .unset, .unset, .unset, .unset] [] (fun t k => XS.istore X0.here hx rfl (hb hby at_61) rfl rfl k) ?_
          exact seg63 (x0 + ((x1 &&& (3 : Int32)) - (1 : Int32)))
      by_cases hc32_140 : (x5 &&& (4 : Int32)) = (0 : Int32)
      · refine own_go T0 m 39 #[iv x0, iv x1, iv x2, iv x3, iv x4, iv x5, iv 1, iv 0, .unset, .unset, .unset, .unset, .unset, .unset, .unset, .unset] [] (fun t k => XS.ifYes X0.here hx rfl (pc0 := 32) (pc' := 39) rfl (hb hby at_32) rfl ((if0 _ _).trans (teq hc32_140).1) (by decide) (by decide) k) ?_
        refine own_go T0 m 40 #[iv x0, iv x1, iv x2, iv x3, iv x4, iv x5, iv 1, iv 0, .unset, .unset, .unset, .unset, .unset, .unset, .unset, .unset] [(.int x2)] (fun t k => XS.iloadN X0.here hx rfl (hb hby at_39) rfl k) ?_
        refine own_go T0 m 42 #[iv x0, iv x1, iv x2, iv x3, iv x4, iv x5, iv 1, iv 0, iv x2, .unset, .unset, .unset, .unset, .unset, .unset, .unset] [] (fun t k => XS.istore X0.here hx rfl (hb hby at_40) rfl rfl k) ?_
        exact seg42 x2
      · refine own_go T0 m 35 #[iv x0, iv x1, iv x2, iv x3, iv x4, iv x5, iv 1, iv 0, .unset, .unset, .unset, .unset, .unset, .unset, .unset, .unset] [] (fun t k => XS.ifNo X0.here hx rfl (hb hby at_32) rfl ((if0 _ _).trans (feq hc32_140).1) k) ?_
        refine own_go T0 m 36 #[iv x0, iv x1, iv x2, iv x3, iv x4, iv x5, iv 1, iv 0, .unset, .unset, .unset, .unset, .unset, .unset, .unset, .unset] [(.int x0)] (fun t k => XS.iloadN X0.here hx rfl (hb hby at_35) rfl k) ?_
        refine own_go T0 m 40 #[iv x0, iv x1, iv x2, iv x3, iv x4, iv x5, iv 1, iv 0, .unset, .unset, .unset, .unset, .unset, .unset, .unset, .unset] [(.int x0)] (fun t k => XS.goto X0.here hx rfl (pc0 := 36) (pc' := 40) rfl (hb hby at_36) (by decide) (by decide) k) ?_
        refine own_go T0 m 42 #[iv x0, iv x1, iv x2, iv x3, iv x4, iv x5, iv 1, iv 0, iv x0, .unset, .unset, .unset, .unset, .unset, .unset, .unset] [] (fun t k => XS.istore X0.here hx rfl (hb hby at_40) rfl rfl k) ?_
        exact seg42 x0
    · refine own_go T0 m 21 #[iv x0, iv x1, iv x2, iv x3, iv x4, iv x5, iv 1, .unset, .unset, .unset, .unset, .unset, .unset, .unset, .unset, .unset] [] (fun t k => XS.ifNo X0.here hx rfl (hb hby at_18) rfl ((if0 _ _).trans (feq hc18_63).1) k) ?_
      refine own_go T0 m 22 #[iv x0, iv x1, iv x2, iv x3, iv x4, iv x5, iv 1, .unset, .unset, .unset, .unset, .unset, .unset, .unset, .unset, .unset] [(.int 1)] (fun t k => XS.iconst X0.here hx rfl (hb hby at_21) k) ?_
      refine own_go T0 m 26 #[iv x0, iv x1, iv x2, iv x3, iv x4, iv x5, iv 1, .unset, .unset, .unset, .unset, .unset, .unset, .unset, .unset, .unset] [(.int 1)] (fun t k => XS.goto X0.here hx rfl (pc0 := 22) (pc' := 26) rfl (hb hby at_22) (by decide) (by decide) k) ?_
      refine own_go T0 m 28 #[iv x0, iv x1, iv x2, iv x3, iv x4, iv x5, iv 1, iv 1, .unset, .unset, .unset, .unset, .unset, .unset, .unset, .unset] [] (fun t k => XS.istore X0.here hx rfl (hb hby at_26) rfl rfl k) ?_
      refine own_go T0 m 30 #[iv x0, iv x1, iv x2, iv x3, iv x4, iv x5, iv 1, iv 1, .unset, .unset, .unset, .unset, .unset, .unset, .unset, .unset] [(.int x5)] (fun t k => XS.iload X0.here hx rfl (hb hby at_28) rfl k) ?_
      refine own_go T0 m 31 #[iv x0, iv x1, iv x2, iv x3, iv x4, iv x5, iv 1, iv 1, .unset, .unset, .unset, .unset, .unset, .unset, .unset, .unset] [(.int 4), (.int x5)] (fun t k => XS.iconst X0.here hx rfl (hb hby at_30) k) ?_
      refine own_go T0 m 32 #[iv x0, iv x1, iv x2, iv x3, iv x4, iv x5, iv 1, iv 1, .unset, .unset, .unset, .unset, .unset, .unset, .unset, .unset] [(.int (x5 &&& (4 : Int32)))] (fun t k => XS.iand X0.here hx rfl (hb hby at_31) rfl k) ?_
      have seg42 : ∀ (v8 : Int32), OwnG p.tables e below s (fun v h L => v = some (.int 1) ∧ Fr n0 L) room_1.cells room_1.slots (T0.setTop (mkF m 42 #[iv x0, iv x1, iv x2, iv x3, iv x4, iv x5, iv 1, iv 1, iv v8, .unset, .unset, .unset, .unset, .unset, .unset, .unset] [])) := by
        intro v8
        refine own_go T0 m 44 #[iv x0, iv x1, iv x2, iv x3, iv x4, iv x5, iv 1, iv 1, iv v8, .unset, .unset, .unset, .unset, .unset, .unset, .unset] [(.int x5)] (fun t k => XS.iload X0.here hx rfl (hb hby at_42) rfl k) ?_
        refine own_go T0 m 46 #[iv x0, iv x1, iv x2, iv x3, iv x4, iv x5, iv 1, iv 1, iv v8, .unset, .unset, .unset, .unset, .unset, .unset, .unset] [(.int 8), (.int x5)] (fun t k => XS.bipush X0.here hx rfl (hb hby at_44) k) ?_
        refine own_go T0 m 47 #[iv x0, iv x1, iv x2, iv x3, iv x4, iv x5, iv 1, iv 1, iv v8, .unset, .unset, .unset, .unset, .unset, .unset, .unset] [(.int (x5 &&& (8 : Int32)))] (fun t k => XS.iand X0.here hx rfl (hb hby at_46) rfl k) ?_
        have seg63 : ∀ (v9 : Int32), OwnG p.tables e below s (fun v h L => v = some (.int 1) ∧ Fr n0 L) room_1.cells room_1.slots (T0.setTop (mkF m 63 #[iv x0, iv x1, iv x2, iv x3, iv x4, iv x5, iv 1, iv 1, iv v8, iv v9, .unset, .unset, .unset, .unset, .unset, .unset] [])) := by
          intro v9
          refine own_go T0 m 65 #[iv x0, iv x1, iv x2, iv x3, iv x4, iv x5, iv 1, iv 1, iv v8, iv v9, .unset, .unset, .unset, .unset, .unset, .unset] [(.int x5)] (fun t k => XS.iload X0.here hx rfl (hb hby at_63) rfl k) ?_
          refine own_go T0 m 67 #[iv x0, iv x1, iv x2, iv x3, iv x4, iv x5, iv 1, iv 1, iv v8, iv v9, .unset, .unset, .unset, .unset, .unset, .unset] [(.int 16), (.int x5)] (fun t k => XS.bipush X0.here hx rfl (hb hby at_65) k) ?_
          refine own_go T0 m 68 #[iv x0, iv x1, iv x2, iv x3, iv x4, iv x5, iv 1, iv 1, iv v8, iv v9, .unset, .unset, .unset, .unset, .unset, .unset] [(.int (x5 &&& (16 : Int32)))] (fun t k => XS.iand X0.here hx rfl (hb hby at_67) rfl k) ?_
          have seg86 : ∀ (v10 : Int32), OwnG p.tables e below s (fun v h L => v = some (.int 1) ∧ Fr n0 L) room_1.cells room_1.slots (T0.setTop (mkF m 86 #[iv x0, iv x1, iv x2, iv x3, iv x4, iv x5, iv 1, iv 1, iv v8, iv v9, iv v10, .unset, .unset, .unset, .unset, .unset] [])) := by
            intro v10
            obtain ⟨T144, h144, X144, e144, E144, A144, D144, -, st144⟩ := newO X0 hx hZ hown (own_w hw 0 rfl) (own_w hw 1 rfl) (own_w hw 2 rfl) e0 (g := (mkF m 86 #[iv x0, iv x1, iv x2, iv x3, iv x4, iv x5, iv 1, iv 1, iv v8, iv v9, iv v10, .unset, .unset, .unset, .unset, .unset] [])) rfl (hb hby at_86) (by decide) (by decide)
            obtain ⟨b144, g144⟩ : ∃ z, z = h0.size := ⟨_, rfl⟩
            rw [← g144] at A144 D144 st144
            have g_b144 : n0 ≤ b144 := Nat.le_trans Z0 (Nat.le_of_eq g144.symm)
            have Z_144 : n0 ≤ h144.size := Nat.le_trans Z0 E144.1
            have F_starts_144 : Fld Z h144 b144 OwnK0 "starts" "[I" .null := D144 (Or.inl (own_w hw 11 rfl)) (ty := (.array .int)) (by decide)
            have F_ends_144 : Fld Z h144 b144 OwnK0 "ends" "[I" .null := D144 (Or.inl (own_w hw 13 rfl)) (ty := (.array .int)) (by decide)
            have F_segmentFirst_144 : Fld Z h144 b144 OwnK0 "segmentFirst" "[I" .null := D144 (Or.inl (own_w hw 15 rfl)) (ty := (.array .int)) (by decide)
            have F_segmentEnd_144 : Fld Z h144 b144 OwnK0 "segmentEnd" "[I" .null := D144 (Or.inl (own_w hw 17 rfl)) (ty := (.array .int)) (by decide)
            have F_segmentLimit_144 : Fld Z h144 b144 OwnK0 "segmentLimit" "[I" .null := D144 (Or.inl (own_w hw 19 rfl)) (ty := (.array .int)) (by decide)
            have F_cursor_144 : Fld Z h144 b144 OwnK0 "cursor" "I" (.int 0) := D144 (Or.inl (own_w hw 21 rfl)) (ty := .int) (by decide)
            have F_segments_144 : Fld Z h144 b144 OwnK0 "segments" "I" (.int 0) := D144 (Or.inl (own_w hw 28 rfl)) (ty := .int) (by decide)
            have F_count_144 : Fld Z h144 b144 OwnK0 "count" "I" (.int 0) := D144 (Or.inl (own_w hw 30 rfl)) (ty := .int) (by decide)
            have F_lastOpened_144 : Fld Z h144 b144 OwnK0 "lastOpened" "I" (.int 0) := D144 (Or.inl (own_w hw 37 rfl)) (ty := .int) (by decide)
            refine own_go T144 m 89 #[iv x0, iv x1, iv x2, iv x3, iv x4, iv x5, iv 1, iv 1, iv v8, iv v9, iv v10, .unset, .unset, .unset, .unset, .unset] [(.ref b144)] (st144) ?_
            refine own_go T144 m 90 #[iv x0, iv x1, iv x2, iv x3, iv x4, iv x5, iv 1, iv 1, iv v8, iv v9, iv v10, .unset, .unset, .unset, .unset, .unset] [(.ref b144), (.ref b144)] (fun t k => XS.dup X144.here hx rfl (hb hby at_89) rfl rfl k) ?_
            obtain ⟨_, T145, L145, X145, ⟨w0_145, w1_145, w2_145, w3_145, w4_145, kw0_145, kw1_145, kw2_145, kw3_145, kw4_145, rfl, Nq145, Kq145, syw0_145, syw1_145, syw2_145, syw3_145, syw4_145, fq0_145, fq1_145, fq2_145, fq3_145, fq4_145, fq5_145, fq6_145, fq7_145, fq8_145, fq9_145, fq10_145, fq11_145, fq12_145, fq13_145, fq14_145, fq15_145, fq16_145, fq17_145, fq18_145, fq19_145, fq20_145, fq21_145, fq22_145, fq23_145⟩, st145⟩ := own_init X144 hx hZ (y := (⟨OwnK0, "<init>", "()V"⟩ : MethodName)) rfl hown (own_w hw 3 rfl) (own_w hw 4 rfl) (own_w hw 2 rfl) (own_w hw 5 rfl) (by decide) (sp1 l Z a0 hw [] b144 h144 n0 Z_144 A144 F_count_144 F_cursor_144 F_ends_144 F_lastOpened_144 F_segmentEnd_144 F_segmentFirst_144 F_segmentLimit_144 F_segments_144 F_starts_144 g_b144) e144 (a := b144) 1 (argsL := []) (rest := [(.ref b144)]) (Ls := #[iv x0, iv x1, iv x2, iv x3, iv x4, iv x5, iv 1, iv 1, iv v8, iv v9, iv v10, .unset, .unset, .unset, .unset, .unset]) (by rw [hml]; rfl) (lenOf pd___V rfl) rfl rfl (Nat.le_of_eq rfl) (hb hby at_90) (by decide) (by decide) (by decide) (by decide)
            have g_w0_145 : n0 ≤ w0_145 := syw0_145.2
            have ne_b144_w0_145 : b144 ≠ w0_145 := Nat.ne_of_lt (Nat.lt_of_lt_of_le A144.lt syw0_145.1)
            have g_w1_145 : n0 ≤ w1_145 := syw1_145.2
            have ne_b144_w1_145 : b144 ≠ w1_145 := Nat.ne_of_lt (Nat.lt_of_lt_of_le A144.lt syw1_145.1)
            have g_w2_145 : n0 ≤ w2_145 := syw2_145.2
            have ne_b144_w2_145 : b144 ≠ w2_145 := Nat.ne_of_lt (Nat.lt_of_lt_of_le A144.lt syw2_145.1)
            have g_w3_145 : n0 ≤ w3_145 := syw3_145.2
            have ne_b144_w3_145 : b144 ≠ w3_145 := Nat.ne_of_lt (Nat.lt_of_lt_of_le A144.lt syw3_145.1)
            have g_w4_145 : n0 ≤ w4_145 := syw4_145.2
            have ne_b144_w4_145 : b144 ≠ w4_145 := Nat.ne_of_lt (Nat.lt_of_lt_of_le A144.lt syw4_145.1)
            have N145 := Fr.app N0 Nq145
            have cf146 := A144.keep Kq145
            have Z_145 : n0 ≤ T145.heap.size := Nat.le_trans Z_144 Kq145.1
            refine own_go T145 m 93 #[iv x0, iv x1, iv x2, iv x3, iv x4, iv x5, iv 1, iv 1, iv v8, iv v9, iv v10, .unset, .unset, .unset, .unset, .unset] [(.ref b144)] (st145) ?_
            refine own_go T145 m 95 #[iv x0, iv x1, iv x2, iv x3, iv x4, iv x5, iv 1, iv 1, iv v8, iv v9, iv v10, rv b144, .unset, .unset, .unset, .unset] [] (fun t k => XS.astore X145.here hx rfl (hb hby at_93) rfl rfl rfl k) ?_
            refine own_go T145 m 97 #[iv x0, iv x1, iv x2, iv x3, iv x4, iv x5, iv 1, iv 1, iv v8, iv v9, iv v10, rv b144, .unset, .unset, .unset, .unset] [(.ref b144)] (fun t k => XS.aload X145.here hx rfl (hb hby at_95) rfl rfl k) ?_
            refine own_go T145 m 98 #[iv x0, iv x1, iv x2, iv x3, iv x4, iv x5, iv 1, iv 1, iv v8, iv v9, iv v10, rv b144, .unset, .unset, .unset, .unset] [(.int x3), (.ref b144)] (fun t k => XS.iloadN X145.here hx rfl (hb hby at_97) rfl k) ?_
            obtain ⟨_, T147, L147, X147, ⟨rfl, Nq147, Kq147, fq0_147, fq1_147, fq2_147, fq3_147, fq4_147, fq5_147, fq6_147, fq7_147, fq8_147, fq9_147, fq10_147⟩, st147⟩ := own_virtual X145 hx hZ (y := (⟨OwnK0, "beginRead", "(I)V"⟩ : MethodName)) (z := (⟨OwnK0, "beginRead", "(I)V"⟩ : MethodName)) hown (own_w hw 22 rfl) (own_w hw 23 rfl) (notFace_of_selects (args := #[]) (mvT hZ (own_w hw 25 rfl))) (own_w hw 25 rfl) (own_w hw 24 rfl) (own_w hw 2 rfl) (own_w hw 26 rfl) (by decide) (sp2 l Z a0 hw [] b144 w0_145 w1_145 w2_145 w3_145 w4_145 x3 kw2_145 kw4_145 T145.heap n0 Z_145 cf146 fq10_145 fq23_145 fq16_145 fq11_145 fq20_145 fq18_145 fq22_145 fq12_145 fq14_145 fq17_145 fq21_145 ne_b144_w0_145 ne_b144_w1_145 ne_b144_w2_145 ne_b144_w3_145 ne_b144_w4_145 fq1_145 fq3_145 fq4_145 fq6_145 fq7_145 fq8_145 fq9_145 g_b144 g_w2_145 g_w4_145) rfl cf146 0 (argsL := [(.int x3)]) (rest := []) (Ls := #[iv x0, iv x1, iv x2, iv x3, iv x4, iv x5, iv 1, iv 1, iv v8, iv v9, iv v10, rv b144, .unset, .unset, .unset, .unset]) (by rw [hml]; rfl) (lenOf pd__I_V rfl) rfl rfl (Nat.le_of_eq rfl) (hb hby at_98) (by decide) (by decide) (by decide) (by decide)
            have N147 := Fr.app N145 Nq147
            have cf148 := cf146.keep Kq147
            have cf149 := fq13_145.keep Kq147 (ninS (Ne.symm ne_b144_w0_145) (ninS fq1_145 (ninS fq3_145 nin0)))
            have cf150 := fq15_145.keep Kq147 (ninS (Ne.symm ne_b144_w1_145) (ninS fq4_145 (ninS fq6_145 nin0)))
            have cf151 := fq19_145.keep Kq147 (ninS (Ne.symm ne_b144_w3_145) (ninS (Ne.symm fq7_145) (ninS fq9_145 nin0)))
            have Z_147 : n0 ≤ T147.heap.size := Nat.le_trans Z_145 Kq147.1
            refine own_go T147 m 101 #[iv x0, iv x1, iv x2, iv x3, iv x4, iv x5, iv 1, iv 1, iv v8, iv v9, iv v10, rv b144, .unset, .unset, .unset, .unset] [] (st147) ?_
            refine own_go T147 m 103 #[iv x0, iv x1, iv x2, iv x3, iv x4, iv x5, iv 1, iv 1, iv v8, iv v9, iv v10, rv b144, .unset, .unset, .unset, .unset] [(.int 1)] (fun t k => XS.iload X147.here hx rfl (hb hby at_101) rfl k) ?_
            refine own_go T147 m 106 #[iv x0, iv x1, iv x2, iv x3, iv x4, iv x5, iv 1, iv 1, iv v8, iv v9, iv v10, rv b144, .unset, .unset, .unset, .unset] [] (fun t k => XS.ifNo X147.here hx rfl (hb hby at_103) rfl ((if0 _ _).trans (feq (by decide)).1) k) ?_
            refine own_go T147 m 108 #[iv x0, iv x1, iv x2, iv x3, iv x4, iv x5, iv 1, iv 1, iv v8, iv v9, iv v10, rv b144, .unset, .unset, .unset, .unset] [(.ref b144)] (fun t k => XS.aload X147.here hx rfl (hb hby at_106) rfl rfl k) ?_
            refine own_go T147 m 109 #[iv x0, iv x1, iv x2, iv x3, iv x4, iv x5, iv 1, iv 1, iv v8, iv v9, iv v10, rv b144, .unset, .unset, .unset, .unset] [(.int x0), (.ref b144)] (fun t k => XS.iloadN X147.here hx rfl (hb hby at_108) rfl k) ?_
            obtain ⟨_, T152, L152, X152, ⟨rfl, Nq152, Kq152, fq0_152, fq1_152, fq2_152, fq3_152, fq4_152, fq5_152, fq6_152, fq7_152, fq8_152, fq9_152, fq10_152⟩, st152⟩ := own_virtual X147 hx hZ (y := (⟨OwnK0, "opened", "(I)I"⟩ : MethodName)) (z := (⟨OwnK0, "opened", "(I)I"⟩ : MethodName)) hown (own_w hw 31 rfl) (own_w hw 32 rfl) (notFace_of_selects (args := #[]) (mvT hZ (own_w hw 34 rfl))) (own_w hw 34 rfl) (own_w hw 33 rfl) (own_w hw 2 rfl) (own_w hw 35 rfl) (by decide) (sp7 l Z a0 hw [] b144 w1_145 w3_145 w2_145 w4_145 w0_145 x0 kw1_145 kw0_145 T147.heap n0 Z_147 cf148 fq0_147 fq10_147 fq1_147 fq2_147 fq3_147 fq4_147 fq5_147 fq9_147 fq6_147 cf150 cf149 ne_b144_w1_145 ne_b144_w3_145 ne_b144_w2_145 ne_b144_w4_145 ne_b144_w0_145 fq5_145 fq4_145 fq6_145 (Ne.symm fq0_145) (Ne.symm fq2_145) (Ne.symm fq1_145) (Ne.symm fq3_145) g_b144 g_w1_145 g_w0_145) rfl cf148 0 (argsL := [(.int x0)]) (rest := []) (Ls := #[iv x0, iv x1, iv x2, iv x3, iv x4, iv x5, iv 1, iv 1, iv v8, iv v9, iv v10, rv b144, .unset, .unset, .unset, .unset]) (by rw [hml]; rfl) (lenOf pd__I_I rfl) rfl rfl (Nat.le_of_eq rfl) (hb hby at_109) (by decide) (by decide) (by decide) (by decide)
            have N152 := Fr.app N147 Nq152
            have cf153 := cf148.keep Kq152
            have cf154 := cf151.keep Kq152 (ninS (Ne.symm ne_b144_w3_145) (ninS (Ne.symm fq5_145) (ninS (Ne.symm fq2_145) nin0)))
            have cf155 := fq7_147.keep Kq152 (ninS (Ne.symm ne_b144_w2_145) (ninS (Ne.symm fq4_145) (ninS (Ne.symm fq1_145) nin0)))
            have cf156 := fq8_147.keep Kq152 (ninS (Ne.symm ne_b144_w4_145) (ninS (Ne.symm fq6_145) (ninS (Ne.symm fq3_145) nin0)))
            have Z_152 : n0 ≤ T152.heap.size := Nat.le_trans Z_147 Kq152.1
            refine own_go T152 m 112 #[iv x0, iv x1, iv x2, iv x3, iv x4, iv x5, iv 1, iv 1, iv v8, iv v9, iv v10, rv b144, .unset, .unset, .unset, .unset] [(.int 0)] (st152) ?_
            refine own_go T152 m 113 #[iv x0, iv x1, iv x2, iv x3, iv x4, iv x5, iv 1, iv 1, iv v8, iv v9, iv v10, rv b144, .unset, .unset, .unset, .unset] [] (fun t k => XS.pop X152.here hx rfl (hb hby at_112) rfl rfl k) ?_
            refine own_go T152 m 115 #[iv x0, iv x1, iv x2, iv x3, iv x4, iv x5, iv 1, iv 1, iv v8, iv v9, iv v10, rv b144, .unset, .unset, .unset, .unset] [(.int 1)] (fun t k => XS.iload X152.here hx rfl (hb hby at_113) rfl k) ?_
            refine own_go T152 m 118 #[iv x0, iv x1, iv x2, iv x3, iv x4, iv x5, iv 1, iv 1, iv v8, iv v9, iv v10, rv b144, .unset, .unset, .unset, .unset] [] (fun t k => XS.ifNo X152.here hx rfl (hb hby at_115) rfl ((if0 _ _).trans (feq (by decide)).1) k) ?_
            refine own_go T152 m 120 #[iv x0, iv x1, iv x2, iv x3, iv x4, iv x5, iv 1, iv 1, iv v8, iv v9, iv v10, rv b144, .unset, .unset, .unset, .unset] [(.ref b144)] (fun t k => XS.aload X152.here hx rfl (hb hby at_118) rfl rfl k) ?_
            refine own_go T152 m 122 #[iv x0, iv x1, iv x2, iv x3, iv x4, iv x5, iv 1, iv 1, iv v8, iv v9, iv v10, rv b144, .unset, .unset, .unset, .unset] [(.int v10), (.ref b144)] (fun t k => XS.iload X152.here hx rfl (hb hby at_120) rfl k) ?_
            obtain ⟨_, T157, L157, X157, ⟨rfl, Nq157, Kq157, fq0_157, fq1_157, fq2_157, fq3_157, fq4_157, fq5_157, fq6_157, fq7_157, fq8_157, fq9_157, fq10_157⟩, st157⟩ := own_virtual X152 hx hZ (y := (⟨OwnK0, "beginRead", "(I)V"⟩ : MethodName)) (z := (⟨OwnK0, "beginRead", "(I)V"⟩ : MethodName)) hown (own_w hw 22 rfl) (own_w hw 23 rfl) (notFace_of_selects (args := #[]) (mvT hZ (own_w hw 25 rfl))) (own_w hw 25 rfl) (own_w hw 24 rfl) (own_w hw 2 rfl) (own_w hw 26 rfl) (by decide) (sp24 l Z a0 hw [] b144 w1_145 w3_145 w2_145 w4_145 w0_145 v10 x3 kw2_145 kw4_145 T152.heap n0 Z_152 cf153 fq10_152 fq0_152 fq1_152 fq9_152 fq2_152 fq3_152 fq4_152 fq5_152 fq6_152 cf155 cf156 ne_b144_w1_145 ne_b144_w3_145 ne_b144_w2_145 ne_b144_w4_145 ne_b144_w0_145 fq4_145 fq6_145 (Ne.symm fq7_145) fq9_145 fq8_145 (Ne.symm fq1_145) (Ne.symm fq3_145) g_b144 g_w2_145 g_w4_145) rfl cf153 0 (argsL := [(.int v10)]) (rest := []) (Ls := #[iv x0, iv x1, iv x2, iv x3, iv x4, iv x5, iv 1, iv 1, iv v8, iv v9, iv v10, rv b144, .unset, .unset, .unset, .unset]) (by rw [hml]; rfl) (lenOf pd__I_V rfl) rfl rfl (Nat.le_of_eq rfl) (hb hby at_122) (by decide) (by decide) (by decide) (by decide)
            have N157 := Fr.app N152 Nq157
            have cf158 := cf153.keep Kq157
            have cf159 := cf154.keep Kq157 (ninS (Ne.symm ne_b144_w3_145) (ninS (Ne.symm fq7_145) (ninS fq9_145 nin0)))
            have cf160 := fq7_152.keep Kq157 (ninS (Ne.symm ne_b144_w0_145) (ninS fq1_145 (ninS fq3_145 nin0)))
            have cf161 := fq8_152.keep Kq157 (ninS (Ne.symm ne_b144_w1_145) (ninS fq4_145 (ninS fq6_145 nin0)))
            have Z_157 : n0 ≤ T157.heap.size := Nat.le_trans Z_152 Kq157.1
            refine own_go T157 m 125 #[iv x0, iv x1, iv x2, iv x3, iv x4, iv x5, iv 1, iv 1, iv v8, iv v9, iv v10, rv b144, .unset, .unset, .unset, .unset] [] (st157) ?_
            refine own_go T157 m 127 #[iv x0, iv x1, iv x2, iv x3, iv x4, iv x5, iv 1, iv 1, iv v8, iv v9, iv v10, rv b144, .unset, .unset, .unset, .unset] [(.ref b144)] (fun t k => XS.aload X157.here hx rfl (hb hby at_125) rfl rfl k) ?_
            refine own_go T157 m 128 #[iv x0, iv x1, iv x2, iv x3, iv x4, iv x5, iv 1, iv 1, iv v8, iv v9, iv v10, rv b144, .unset, .unset, .unset, .unset] [(.int x2), (.ref b144)] (fun t k => XS.iloadN X157.here hx rfl (hb hby at_127) rfl k) ?_
            obtain ⟨_, T162, L162, X162, ⟨rfl, Nq162, Kq162, fq0_162, fq1_162, fq2_162, fq3_162, fq4_162, fq5_162, fq6_162, fq7_162, fq8_162⟩, st162⟩ := own_virtual X157 hx hZ (y := (⟨OwnK0, "endRead", "(I)V"⟩ : MethodName)) (z := (⟨OwnK0, "endRead", "(I)V"⟩ : MethodName)) hown (own_w hw 38 rfl) (own_w hw 39 rfl) (notFace_of_selects (args := #[]) (mvT hZ (own_w hw 41 rfl))) (own_w hw 41 rfl) (own_w hw 40 rfl) (own_w hw 2 rfl) (own_w hw 42 rfl) (by decide) (sp25 l Z a0 hw [] b144 w1_145 w3_145 w2_145 w4_145 w0_145 x2 kw2_145 T157.heap n0 Z_157 cf158 fq0_157 fq10_157 fq1_157 fq2_157 fq3_157 fq4_157 fq5_157 fq9_157 fq6_157 fq7_157 ne_b144_w1_145 ne_b144_w3_145 ne_b144_w2_145 ne_b144_w4_145 ne_b144_w0_145 g_b144) rfl cf158 0 (argsL := [(.int x2)]) (rest := []) (Ls := #[iv x0, iv x1, iv x2, iv x3, iv x4, iv x5, iv 1, iv 1, iv v8, iv v9, iv v10, rv b144, .unset, .unset, .unset, .unset]) (by rw [hml]; rfl) (lenOf pd__I_V rfl) rfl rfl (Nat.le_of_eq rfl) (hb hby at_128) (by decide) (by decide) (by decide) (by decide)
            have N162 := Fr.app N157 Nq162
            have cf163 := cf158.keep Kq162
            have cf164 := cf159.keep Kq162 (ninS (Ne.symm ne_b144_w3_145) nin0)
            have cf165 := cf160.keep Kq162 (ninS (Ne.symm ne_b144_w0_145) nin0)
            have cf166 := cf161.keep Kq162 (ninS (Ne.symm ne_b144_w1_145) nin0)
            have cf167 := fq7_157.keep Kq162 (ninS (Ne.symm ne_b144_w2_145) nin0)
            have cf168 := fq8_157.keep Kq162 (ninS (Ne.symm ne_b144_w4_145) nin0)
            have Z_162 : n0 ≤ T162.heap.size := Nat.le_trans Z_157 Kq162.1
            refine own_go T162 m 131 #[iv x0, iv x1, iv x2, iv x3, iv x4, iv x5, iv 1, iv 1, iv v8, iv v9, iv v10, rv b144, .unset, .unset, .unset, .unset] [] (st162) ?_
            refine own_go T162 m 133 #[iv x0, iv x1, iv x2, iv x3, iv x4, iv x5, iv 1, iv 1, iv v8, iv v9, iv v10, rv b144, .unset, .unset, .unset, .unset] [(.ref b144)] (fun t k => XS.aload X162.here hx rfl (hb hby at_131) rfl rfl k) ?_
            refine own_go T162 m 135 #[iv x0, iv x1, iv x2, iv x3, iv x4, iv x5, iv 1, iv 1, iv v8, iv v9, iv v10, rv b144, .unset, .unset, .unset, .unset] [(.int v9), (.ref b144)] (fun t k => XS.iload X162.here hx rfl (hb hby at_133) rfl k) ?_
            obtain ⟨_, T169, L169, X169, ⟨rfl, Nq169, Kq169, fq0_169⟩, st169⟩ := own_virtual X162 hx hZ (y := (⟨OwnK0, "endRead", "(I)V"⟩ : MethodName)) (z := (⟨OwnK0, "endRead", "(I)V"⟩ : MethodName)) hown (own_w hw 38 rfl) (own_w hw 39 rfl) (notFace_of_selects (args := #[]) (mvT hZ (own_w hw 41 rfl))) (own_w hw 41 rfl) (own_w hw 40 rfl) (own_w hw 2 rfl) (own_w hw 42 rfl) (by decide) (sp26 l Z a0 hw [] b144 w3_145 w2_145 v9 kw3_145 kw2_145 T162.heap n0 Z_162 fq0_162 fq4_162 fq5_162 fq8_162 cf164 cf167 ne_b144_w3_145 (Ne.symm fq7_145) g_w3_145) rfl cf163 0 (argsL := [(.int v9)]) (rest := []) (Ls := #[iv x0, iv x1, iv x2, iv x3, iv x4, iv x5, iv 1, iv 1, iv v8, iv v9, iv v10, rv b144, .unset, .unset, .unset, .unset]) (by rw [hml]; rfl) (lenOf pd__I_V rfl) rfl rfl (Nat.le_of_eq rfl) (hb hby at_135) (by decide) (by decide) (by decide) (by decide)
            have N169 := Fr.app N162 Nq169
            have cf170 := cf163.keep Kq169
            have cf171 := cf165.keep Kq169 (ninS fq2_145 nin0)
            have cf172 := cf166.keep Kq169 (ninS fq5_145 nin0)
            have cf173 := cf167.keep Kq169 (ninS fq7_145 nin0)
            have cf174 := cf168.keep Kq169 (ninS (Ne.symm fq9_145) nin0)
            have cf175 := fq0_162.keep Kq169 (ninS ne_b144_w3_145 nin0)
            have cf176 := fq1_162.keep Kq169 (ninS ne_b144_w3_145 nin0)
            have cf177 := fq2_162.keep Kq169 (ninS ne_b144_w3_145 nin0)
            have cf178 := fq3_162.keep Kq169 (ninS ne_b144_w3_145 nin0)
            have cf179 := fq4_162.keep Kq169 (ninS ne_b144_w3_145 nin0)
            have cf180 := fq5_162.keep Kq169 (ninS ne_b144_w3_145 nin0)
            have cf181 := fq6_162.keep Kq169 (ninS ne_b144_w3_145 nin0)
            have cf182 := fq7_162.keep Kq169 (ninS ne_b144_w3_145 nin0)
            have cf183 := fq8_162.keep Kq169 (ninS ne_b144_w3_145 nin0)
            have Z_169 : n0 ≤ T169.heap.size := Nat.le_trans Z_162 Kq169.1
            refine own_go T169 m 138 #[iv x0, iv x1, iv x2, iv x3, iv x4, iv x5, iv 1, iv 1, iv v8, iv v9, iv v10, rv b144, .unset, .unset, .unset, .unset] [] (st169) ?_
            refine own_go T169 m 140 #[iv x0, iv x1, iv x2, iv x3, iv x4, iv x5, iv 1, iv 1, iv v8, iv v9, iv v10, rv b144, .unset, .unset, .unset, .unset] [(.ref b144)] (fun t k => XS.aload X169.here hx rfl (hb hby at_138) rfl rfl k) ?_
            refine own_go T169 m 142 #[iv x0, iv x1, iv x2, iv x3, iv x4, iv x5, iv 1, iv 1, iv v8, iv v9, iv v10, rv b144, .unset, .unset, .unset, .unset] [(.int v8), (.ref b144)] (fun t k => XS.iload X169.here hx rfl (hb hby at_140) rfl k) ?_
            refine own_go T169 m 144 #[iv x0, iv x1, iv x2, iv x3, iv x4, iv x5, iv 1, iv 1, iv v8, iv v9, iv v10, rv b144, .unset, .unset, .unset, .unset] [(.int v10), (.int v8), (.ref b144)] (fun t k => XS.iload X169.here hx rfl (hb hby at_142) rfl k) ?_
            by_cases hc144_185 : v8 < x0
            · obtain ⟨_, T186, L186, X186, ⟨rfl, Nq186, Kq186, fq0_186, fq1_186, fq2_186, fq3_186, fq4_186, fq5_186, fq6_186, fq7_186, fq8_186⟩, st186⟩ := own_virtual X169 hx hZ (y := (⟨OwnK0, "find", "(II)I"⟩ : MethodName)) (z := (⟨OwnK0, "find", "(II)I"⟩ : MethodName)) hown (own_w hw 43 rfl) (own_w hw 44 rfl) (notFace_of_selects (args := #[]) (mvT hZ (own_w hw 46 rfl))) (own_w hw 46 rfl) (own_w hw 45 rfl) (own_w hw 2 rfl) (own_w hw 47 rfl) (by decide) (sp27 l Z a0 hw [] b144 w1_145 w3_145 w2_145 w4_145 w0_145 v8 v10 x0 kw2_145 kw0_145 T169.heap n0 Z_169 cf170 cf175 cf176 cf177 cf178 cf179 cf180 cf181 cf183 cf182 cf173 cf171 ne_b144_w1_145 ne_b144_w3_145 ne_b144_w2_145 ne_b144_w4_145 ne_b144_w0_145 g_b144 hc144_185) rfl cf170 0 (argsL := [(.int v8), (.int v10)]) (rest := []) (Ls := #[iv x0, iv x1, iv x2, iv x3, iv x4, iv x5, iv 1, iv 1, iv v8, iv v9, iv v10, rv b144, .unset, .unset, .unset, .unset]) (by rw [hml]; rfl) (lenOf pd__II_I rfl) rfl rfl (Nat.le_of_eq rfl) (hb hby at_144) (by decide) (by decide) (by decide) (by decide)
              have N186 := Fr.app N169 Nq186
              have cf187 := cf170.keep Kq186
              have cf188 := cf171.keep Kq186 (ninS (Ne.symm ne_b144_w0_145) nin0)
              have cf189 := cf172.keep Kq186 (ninS (Ne.symm ne_b144_w1_145) nin0)
              have cf190 := cf173.keep Kq186 (ninS (Ne.symm ne_b144_w2_145) nin0)
              have cf191 := cf174.keep Kq186 (ninS (Ne.symm ne_b144_w4_145) nin0)
              have cf192 := fq0_169.keep Kq186 (ninS (Ne.symm ne_b144_w3_145) nin0)
              have Z_186 : n0 ≤ T186.heap.size := Nat.le_trans Z_169 Kq186.1
              refine own_go T186 m 147 #[iv x0, iv x1, iv x2, iv x3, iv x4, iv x5, iv 1, iv 1, iv v8, iv v9, iv v10, rv b144, .unset, .unset, .unset, .unset] [(.int (-1))] (st186) ?_
              refine own_go T186 m 149 #[iv x0, iv x1, iv x2, iv x3, iv x4, iv x5, iv 1, iv 1, iv v8, iv v9, iv v10, rv b144, iv (-1), .unset, .unset, .unset] [] (fun t k => XS.istore X186.here hx rfl (hb hby at_147) rfl rfl k) ?_
              refine own_go T186 m 151 #[iv x0, iv x1, iv x2, iv x3, iv x4, iv x5, iv 1, iv 1, iv v8, iv v9, iv v10, rv b144, iv (-1), .unset, .unset, .unset] [(.int v8)] (fun t k => XS.iload X186.here hx rfl (hb hby at_149) rfl k) ?_
              refine own_go T186 m 152 #[iv x0, iv x1, iv x2, iv x3, iv x4, iv x5, iv 1, iv 1, iv v8, iv v9, iv v10, rv b144, iv (-1), .unset, .unset, .unset] [(.int x0), (.int v8)] (fun t k => XS.iloadN X186.here hx rfl (hb hby at_151) rfl k) ?_
              refine own_go T186 m 166 #[iv x0, iv x1, iv x2, iv x3, iv x4, iv x5, iv 1, iv 1, iv v8, iv v9, iv v10, rv b144, iv (-1), .unset, .unset, .unset] [] (fun t k => XS.icmpYes X186.here hx rfl (pc0 := 152) (pc' := 166) rfl (hb hby at_152) rfl (tlt hc144_185).1 (by decide) (by decide) k) ?_
              refine own_go T186 m 167 #[iv x0, iv x1, iv x2, iv x3, iv x4, iv x5, iv 1, iv 1, iv v8, iv v9, iv v10, rv b144, iv (-1), .unset, .unset, .unset] [(.int 0)] (fun t k => XS.iconst X186.here hx rfl (hb hby at_166) k) ?_
              refine own_go T186 m 169 #[iv x0, iv x1, iv x2, iv x3, iv x4, iv x5, iv 1, iv 1, iv v8, iv v9, iv v10, rv b144, iv (-1), iv 0, .unset, .unset] [] (fun t k => XS.istore X186.here hx rfl (hb hby at_167) rfl rfl k) ?_
              refine own_go T186 m 171 #[iv x0, iv x1, iv x2, iv x3, iv x4, iv x5, iv 1, iv 1, iv v8, iv v9, iv v10, rv b144, iv (-1), iv 0, .unset, .unset] [(.int 1)] (fun t k => XS.iload X186.here hx rfl (hb hby at_169) rfl k) ?_
              refine own_go T186 m 174 #[iv x0, iv x1, iv x2, iv x3, iv x4, iv x5, iv 1, iv 1, iv v8, iv v9, iv v10, rv b144, iv (-1), iv 0, .unset, .unset] [] (fun t k => XS.ifNo X186.here hx rfl (hb hby at_171) rfl ((if0 _ _).trans (feq (by decide)).1) k) ?_
              refine own_go T186 m 176 #[iv x0, iv x1, iv x2, iv x3, iv x4, iv x5, iv 1, iv 1, iv v8, iv v9, iv v10, rv b144, iv (-1), iv 0, .unset, .unset] [(.int 0)] (fun t k => XS.iload X186.here hx rfl (hb hby at_174) rfl k) ?_
              refine own_go T186 m 189 #[iv x0, iv x1, iv x2, iv x3, iv x4, iv x5, iv 1, iv 1, iv v8, iv v9, iv v10, rv b144, iv (-1), iv 0, .unset, .unset] [] (fun t k => XS.ifYes X186.here hx rfl (pc0 := 176) (pc' := 189) rfl (hb hby at_176) rfl ((if0 _ _).trans (teq (by decide)).1) (by decide) (by decide) k) ?_
              refine own_go T186 m 190 #[iv x0, iv x1, iv x2, iv x3, iv x4, iv x5, iv 1, iv 1, iv v8, iv v9, iv v10, rv b144, iv (-1), iv 0, .unset, .unset] [(.int 0)] (fun t k => XS.iconst X186.here hx rfl (hb hby at_189) k) ?_
              refine own_go T186 m 192 #[iv x0, iv x1, iv x2, iv x3, iv x4, iv x5, iv 1, iv 1, iv v8, iv v9, iv v10, rv b144, iv (-1), iv 0, iv 0, .unset] [] (fun t k => XS.istore X186.here hx rfl (hb hby at_190) rfl rfl k) ?_
              refine own_go T186 m 194 #[iv x0, iv x1, iv x2, iv x3, iv x4, iv x5, iv 1, iv 1, iv v8, iv v9, iv v10, rv b144, iv (-1), iv 0, iv 0, .unset] [(.int 0)] (fun t k => XS.iload X186.here hx rfl (hb hby at_192) rfl k) ?_
              refine own_go T186 m 214 #[iv x0, iv x1, iv x2, iv x3, iv x4, iv x5, iv 1, iv 1, iv v8, iv v9, iv v10, rv b144, iv (-1), iv 0, iv 0, .unset] [] (fun t k => XS.ifYes X186.here hx rfl (pc0 := 194) (pc' := 214) rfl (hb hby at_194) rfl ((if0 _ _).trans (teq (by decide)).1) (by decide) (by decide) k) ?_
              refine own_go T186 m 215 #[iv x0, iv x1, iv x2, iv x3, iv x4, iv x5, iv 1, iv 1, iv v8, iv v9, iv v10, rv b144, iv (-1), iv 0, iv 0, .unset] [(.int (-1))] (fun t k => XS.iconst X186.here hx rfl (hb hby at_214) k) ?_
              refine own_go T186 m 217 #[iv x0, iv x1, iv x2, iv x3, iv x4, iv x5, iv 1, iv 1, iv v8, iv v9, iv v10, rv b144, iv (-1), iv 0, iv 0, iv (-1)] [] (fun t k => XS.istore X186.here hx rfl (hb hby at_215) rfl rfl k) ?_
              refine own_go T186 m 219 #[iv x0, iv x1, iv x2, iv x3, iv x4, iv x5, iv 1, iv 1, iv v8, iv v9, iv v10, rv b144, iv (-1), iv 0, iv 0, iv (-1)] [(.int (-1))] (fun t k => XS.iload X186.here hx rfl (hb hby at_217) rfl k) ?_
              refine own_go T186 m 221 #[iv x0, iv x1, iv x2, iv x3, iv x4, iv x5, iv 1, iv 1, iv v8, iv v9, iv v10, rv b144, iv (-1), iv 0, iv 0, iv (-1)] [(.int (-1)), (.int (-1))] (fun t k => XS.iload X186.here hx rfl (hb hby at_219) rfl k) ?_
              refine own_go T186 m 224 #[iv x0, iv x1, iv x2, iv x3, iv x4, iv x5, iv 1, iv 1, iv v8, iv v9, iv v10, rv b144, iv (-1), iv 0, iv 0, iv (-1)] [] (fun t k => XS.icmpNo X186.here hx rfl (hb hby at_221) rfl (teq (by decide)).2 k) ?_
              refine own_go T186 m 225 #[iv x0, iv x1, iv x2, iv x3, iv x4, iv x5, iv 1, iv 1, iv v8, iv v9, iv v10, rv b144, iv (-1), iv 0, iv 0, iv (-1)] [(.int 1)] (fun t k => XS.iconst X186.here hx rfl (hb hby at_224) k) ?_
              refine own_go T186 m 229 #[iv x0, iv x1, iv x2, iv x3, iv x4, iv x5, iv 1, iv 1, iv v8, iv v9, iv v10, rv b144, iv (-1), iv 0, iv 0, iv (-1)] [(.int 1)] (fun t k => XS.goto X186.here hx rfl (pc0 := 225) (pc' := 229) rfl (hb hby at_225) (by decide) (by decide) k) ?_
              refine own_retZ X186 hx hlk hret (by decide) (hb hby at_229) (by decide) (by decide) ?_
              exact ⟨rfl, N186⟩
            · by_cases hc144_194 : v8 < v9
              · by_cases hc144_196 : x0 < v8
                · obtain ⟨_, T197, L197, X197, ⟨rfl, Nq197, Kq197, fq0_197, fq1_197, fq2_197, fq3_197, fq4_197, fq5_197, fq6_197, fq7_197, fq8_197⟩, st197⟩ := own_virtual X169 hx hZ (y := (⟨OwnK0, "find", "(II)I"⟩ : MethodName)) (z := (⟨OwnK0, "find", "(II)I"⟩ : MethodName)) hown (own_w hw 43 rfl) (own_w hw 44 rfl) (notFace_of_selects (args := #[]) (mvT hZ (own_w hw 46 rfl))) (own_w hw 46 rfl) (own_w hw 45 rfl) (own_w hw 2 rfl) (own_w hw 47 rfl) (by decide) (sp29 l Z a0 hw [] b144 w1_145 w3_145 w2_145 w4_145 w0_145 v8 v10 v9 x0 kw3_145 kw2_145 kw0_145 T169.heap n0 Z_169 cf170 cf175 cf176 cf177 cf178 cf179 cf180 cf181 cf183 cf182 fq0_169 cf173 cf171 ne_b144_w1_145 ne_b144_w3_145 ne_b144_w2_145 ne_b144_w4_145 ne_b144_w0_145 g_b144 hc144_185 hc144_194 hc144_196) rfl cf170 0 (argsL := [(.int v8), (.int v10)]) (rest := []) (Ls := #[iv x0, iv x1, iv x2, iv x3, iv x4, iv x5, iv 1, iv 1, iv v8, iv v9, iv v10, rv b144, .unset, .unset, .unset, .unset]) (by rw [hml]; rfl) (lenOf pd__II_I rfl) rfl rfl (Nat.le_of_eq rfl) (hb hby at_144) (by decide) (by decide) (by decide) (by decide)
                  have N197 := Fr.app N169 Nq197
                  have cf198 := cf170.keep Kq197
                  have cf199 := cf171.keep Kq197 (ninS (Ne.symm ne_b144_w0_145) nin0)
                  have cf200 := cf172.keep Kq197 (ninS (Ne.symm ne_b144_w1_145) nin0)
                  have cf201 := cf173.keep Kq197 (ninS (Ne.symm ne_b144_w2_145) nin0)
                  have cf202 := cf174.keep Kq197 (ninS (Ne.symm ne_b144_w4_145) nin0)
                  have cf203 := fq0_169.keep Kq197 (ninS (Ne.symm ne_b144_w3_145) nin0)
                  have Z_197 : n0 ≤ T197.heap.size := Nat.le_trans Z_169 Kq197.1
                  refine own_go T197 m 147 #[iv x0, iv x1, iv x2, iv x3, iv x4, iv x5, iv 1, iv 1, iv v8, iv v9, iv v10, rv b144, .unset, .unset, .unset, .unset] [(.int (-1))] (st197) ?_
                  refine own_go T197 m 149 #[iv x0, iv x1, iv x2, iv x3, iv x4, iv x5, iv 1, iv 1, iv v8, iv v9, iv v10, rv b144, iv (-1), .unset, .unset, .unset] [] (fun t k => XS.istore X197.here hx rfl (hb hby at_147) rfl rfl k) ?_
                  refine own_go T197 m 151 #[iv x0, iv x1, iv x2, iv x3, iv x4, iv x5, iv 1, iv 1, iv v8, iv v9, iv v10, rv b144, iv (-1), .unset, .unset, .unset] [(.int v8)] (fun t k => XS.iload X197.here hx rfl (hb hby at_149) rfl k) ?_
                  refine own_go T197 m 152 #[iv x0, iv x1, iv x2, iv x3, iv x4, iv x5, iv 1, iv 1, iv v8, iv v9, iv v10, rv b144, iv (-1), .unset, .unset, .unset] [(.int x0), (.int v8)] (fun t k => XS.iloadN X197.here hx rfl (hb hby at_151) rfl k) ?_
                  refine own_go T197 m 155 #[iv x0, iv x1, iv x2, iv x3, iv x4, iv x5, iv 1, iv 1, iv v8, iv v9, iv v10, rv b144, iv (-1), .unset, .unset, .unset] [] (fun t k => XS.icmpNo X197.here hx rfl (hb hby at_152) rfl (flt hc144_185).1 k) ?_
                  refine own_go T197 m 157 #[iv x0, iv x1, iv x2, iv x3, iv x4, iv x5, iv 1, iv 1, iv v8, iv v9, iv v10, rv b144, iv (-1), .unset, .unset, .unset] [(.int v8)] (fun t k => XS.iload X197.here hx rfl (hb hby at_155) rfl k) ?_
                  refine own_go T197 m 159 #[iv x0, iv x1, iv x2, iv x3, iv x4, iv x5, iv 1, iv 1, iv v8, iv v9, iv v10, rv b144, iv (-1), .unset, .unset, .unset] [(.int v9), (.int v8)] (fun t k => XS.iload X197.here hx rfl (hb hby at_157) rfl k) ?_
                  refine own_go T197 m 162 #[iv x0, iv x1, iv x2, iv x3, iv x4, iv x5, iv 1, iv 1, iv v8, iv v9, iv v10, rv b144, iv (-1), .unset, .unset, .unset] [] (fun t k => XS.icmpNo X197.here hx rfl (hb hby at_159) rfl (tlt hc144_194).2.1 k) ?_
                  refine own_go T197 m 163 #[iv x0, iv x1, iv x2, iv x3, iv x4, iv x5, iv 1, iv 1, iv v8, iv v9, iv v10, rv b144, iv (-1), .unset, .unset, .unset] [(.int 1)] (fun t k => XS.iconst X197.here hx rfl (hb hby at_162) k) ?_
                  refine own_go T197 m 167 #[iv x0, iv x1, iv x2, iv x3, iv x4, iv x5, iv 1, iv 1, iv v8, iv v9, iv v10, rv b144, iv (-1), .unset, .unset, .unset] [(.int 1)] (fun t k => XS.goto X197.here hx rfl (pc0 := 163) (pc' := 167) rfl (hb hby at_163) (by decide) (by decide) k) ?_
                  refine own_go T197 m 169 #[iv x0, iv x1, iv x2, iv x3, iv x4, iv x5, iv 1, iv 1, iv v8, iv v9, iv v10, rv b144, iv (-1), iv 1, .unset, .unset] [] (fun t k => XS.istore X197.here hx rfl (hb hby at_167) rfl rfl k) ?_
                  refine own_go T197 m 171 #[iv x0, iv x1, iv x2, iv x3, iv x4, iv x5, iv 1, iv 1, iv v8, iv v9, iv v10, rv b144, iv (-1), iv 1, .unset, .unset] [(.int 1)] (fun t k => XS.iload X197.here hx rfl (hb hby at_169) rfl k) ?_
                  refine own_go T197 m 174 #[iv x0, iv x1, iv x2, iv x3, iv x4, iv x5, iv 1, iv 1, iv v8, iv v9, iv v10, rv b144, iv (-1), iv 1, .unset, .unset] [] (fun t k => XS.ifNo X197.here hx rfl (hb hby at_171) rfl ((if0 _ _).trans (feq (by decide)).1) k) ?_
                  refine own_go T197 m 176 #[iv x0, iv x1, iv x2, iv x3, iv x4, iv x5, iv 1, iv 1, iv v8, iv v9, iv v10, rv b144, iv (-1), iv 1, .unset, .unset] [(.int 1)] (fun t k => XS.iload X197.here hx rfl (hb hby at_174) rfl k) ?_
                  refine own_go T197 m 179 #[iv x0, iv x1, iv x2, iv x3, iv x4, iv x5, iv 1, iv 1, iv v8, iv v9, iv v10, rv b144, iv (-1), iv 1, .unset, .unset] [] (fun t k => XS.ifNo X197.here hx rfl (hb hby at_176) rfl ((if0 _ _).trans (feq (by decide)).1) k) ?_
                  refine own_go T197 m 181 #[iv x0, iv x1, iv x2, iv x3, iv x4, iv x5, iv 1, iv 1, iv v8, iv v9, iv v10, rv b144, iv (-1), iv 1, .unset, .unset] [(.int v8)] (fun t k => XS.iload X197.here hx rfl (hb hby at_179) rfl k) ?_
                  refine own_go T197 m 182 #[iv x0, iv x1, iv x2, iv x3, iv x4, iv x5, iv 1, iv 1, iv v8, iv v9, iv v10, rv b144, iv (-1), iv 1, .unset, .unset] [(.int x0), (.int v8)] (fun t k => XS.iloadN X197.here hx rfl (hb hby at_181) rfl k) ?_
                  refine own_go T197 m 189 #[iv x0, iv x1, iv x2, iv x3, iv x4, iv x5, iv 1, iv 1, iv v8, iv v9, iv v10, rv b144, iv (-1), iv 1, .unset, .unset] [] (fun t k => XS.icmpYes X197.here hx rfl (pc0 := 182) (pc' := 189) rfl (hb hby at_182) rfl (feq (own_db11 (x5 &&& (1 : Int32)) (x5 &&& (2 : Int32)) v8 x0 v9 hc4_1 hc18_63 hc144_185 hc144_194 hc144_196)).2 (by decide) (by decide) k) ?_
                  refine own_go T197 m 190 #[iv x0, iv x1, iv x2, iv x3, iv x4, iv x5, iv 1, iv 1, iv v8, iv v9, iv v10, rv b144, iv (-1), iv 1, .unset, .unset] [(.int 0)] (fun t k => XS.iconst X197.here hx rfl (hb hby at_189) k) ?_
                  refine own_go T197 m 192 #[iv x0, iv x1, iv x2, iv x3, iv x4, iv x5, iv 1, iv 1, iv v8, iv v9, iv v10, rv b144, iv (-1), iv 1, iv 0, .unset] [] (fun t k => XS.istore X197.here hx rfl (hb hby at_190) rfl rfl k) ?_
                  refine own_go T197 m 194 #[iv x0, iv x1, iv x2, iv x3, iv x4, iv x5, iv 1, iv 1, iv v8, iv v9, iv v10, rv b144, iv (-1), iv 1, iv 0, .unset] [(.int 0)] (fun t k => XS.iload X197.here hx rfl (hb hby at_192) rfl k) ?_
                  refine own_go T197 m 214 #[iv x0, iv x1, iv x2, iv x3, iv x4, iv x5, iv 1, iv 1, iv v8, iv v9, iv v10, rv b144, iv (-1), iv 1, iv 0, .unset] [] (fun t k => XS.ifYes X197.here hx rfl (pc0 := 194) (pc' := 214) rfl (hb hby at_194) rfl ((if0 _ _).trans (teq (by decide)).1) (by decide) (by decide) k) ?_
                  refine own_go T197 m 215 #[iv x0, iv x1, iv x2, iv x3, iv x4, iv x5, iv 1, iv 1, iv v8, iv v9, iv v10, rv b144, iv (-1), iv 1, iv 0, .unset] [(.int (-1))] (fun t k => XS.iconst X197.here hx rfl (hb hby at_214) k) ?_
                  refine own_go T197 m 217 #[iv x0, iv x1, iv x2, iv x3, iv x4, iv x5, iv 1, iv 1, iv v8, iv v9, iv v10, rv b144, iv (-1), iv 1, iv 0, iv (-1)] [] (fun t k => XS.istore X197.here hx rfl (hb hby at_215) rfl rfl k) ?_
                  refine own_go T197 m 219 #[iv x0, iv x1, iv x2, iv x3, iv x4, iv x5, iv 1, iv 1, iv v8, iv v9, iv v10, rv b144, iv (-1), iv 1, iv 0, iv (-1)] [(.int (-1))] (fun t k => XS.iload X197.here hx rfl (hb hby at_217) rfl k) ?_
                  refine own_go T197 m 221 #[iv x0, iv x1, iv x2, iv x3, iv x4, iv x5, iv 1, iv 1, iv v8, iv v9, iv v10, rv b144, iv (-1), iv 1, iv 0, iv (-1)] [(.int (-1)), (.int (-1))] (fun t k => XS.iload X197.here hx rfl (hb hby at_219) rfl k) ?_
                  refine own_go T197 m 224 #[iv x0, iv x1, iv x2, iv x3, iv x4, iv x5, iv 1, iv 1, iv v8, iv v9, iv v10, rv b144, iv (-1), iv 1, iv 0, iv (-1)] [] (fun t k => XS.icmpNo X197.here hx rfl (hb hby at_221) rfl (teq (by decide)).2 k) ?_
                  refine own_go T197 m 225 #[iv x0, iv x1, iv x2, iv x3, iv x4, iv x5, iv 1, iv 1, iv v8, iv v9, iv v10, rv b144, iv (-1), iv 1, iv 0, iv (-1)] [(.int 1)] (fun t k => XS.iconst X197.here hx rfl (hb hby at_224) k) ?_
                  refine own_go T197 m 229 #[iv x0, iv x1, iv x2, iv x3, iv x4, iv x5, iv 1, iv 1, iv v8, iv v9, iv v10, rv b144, iv (-1), iv 1, iv 0, iv (-1)] [(.int 1)] (fun t k => XS.goto X197.here hx rfl (pc0 := 225) (pc' := 229) rfl (hb hby at_225) (by decide) (by decide) k) ?_
                  refine own_retZ X197 hx hlk hret (by decide) (hb hby at_229) (by decide) (by decide) ?_
                  exact ⟨rfl, N197⟩
                · by_cases hc144_205 : x3 < v10
                  · obtain ⟨_, T206, L206, X206, ⟨rfl, Nq206, Kq206, fq0_206, fq1_206, fq2_206, fq3_206, fq4_206, fq5_206, fq6_206, fq7_206, fq8_206⟩, st206⟩ := own_virtual X169 hx hZ (y := (⟨OwnK0, "find", "(II)I"⟩ : MethodName)) (z := (⟨OwnK0, "find", "(II)I"⟩ : MethodName)) hown (own_w hw 43 rfl) (own_w hw 44 rfl) (notFace_of_selects (args := #[]) (mvT hZ (own_w hw 46 rfl))) (own_w hw 46 rfl) (own_w hw 45 rfl) (own_w hw 2 rfl) (own_w hw 47 rfl) (by decide) (sp32 l Z a0 hw [] b144 w1_145 w3_145 w2_145 w4_145 w0_145 v8 v10 v9 x3 x0 kw1_145 kw3_145 kw2_145 kw4_145 kw0_145 T169.heap n0 Z_169 cf170 cf175 cf176 cf177 cf178 cf179 cf180 cf181 cf183 cf182 cf172 fq0_169 cf173 cf174 cf171 ne_b144_w1_145 ne_b144_w3_145 ne_b144_w2_145 ne_b144_w4_145 ne_b144_w0_145 g_b144 hc144_185 hc144_194 hc144_196 (own_db13 (x5 &&& (1 : Int32)) (x5 &&& (2 : Int32)) v8 x0 v9 x3 v10 hc4_1 hc18_63 hc144_185 hc144_194 hc144_196 hc144_205) hc144_205) rfl cf170 0 (argsL := [(.int v8), (.int v10)]) (rest := []) (Ls := #[iv x0, iv x1, iv x2, iv x3, iv x4, iv x5, iv 1, iv 1, iv v8, iv v9, iv v10, rv b144, .unset, .unset, .unset, .unset]) (by rw [hml]; rfl) (lenOf pd__II_I rfl) rfl rfl (Nat.le_of_eq rfl) (hb hby at_144) (by decide) (by decide) (by decide) (by decide)
                    have N206 := Fr.app N169 Nq206
                    have cf207 := cf170.keep Kq206
                    have cf208 := cf171.keep Kq206 (ninS (Ne.symm ne_b144_w0_145) nin0)
                    have cf209 := cf172.keep Kq206 (ninS (Ne.symm ne_b144_w1_145) nin0)
                    have cf210 := cf173.keep Kq206 (ninS (Ne.symm ne_b144_w2_145) nin0)
                    have cf211 := cf174.keep Kq206 (ninS (Ne.symm ne_b144_w4_145) nin0)
                    have cf212 := fq0_169.keep Kq206 (ninS (Ne.symm ne_b144_w3_145) nin0)
                    have Z_206 : n0 ≤ T206.heap.size := Nat.le_trans Z_169 Kq206.1
                    refine own_go T206 m 147 #[iv x0, iv x1, iv x2, iv x3, iv x4, iv x5, iv 1, iv 1, iv v8, iv v9, iv v10, rv b144, .unset, .unset, .unset, .unset] [(.int (-1))] (st206) ?_
                    refine own_go T206 m 149 #[iv x0, iv x1, iv x2, iv x3, iv x4, iv x5, iv 1, iv 1, iv v8, iv v9, iv v10, rv b144, iv (-1), .unset, .unset, .unset] [] (fun t k => XS.istore X206.here hx rfl (hb hby at_147) rfl rfl k) ?_
                    refine own_go T206 m 151 #[iv x0, iv x1, iv x2, iv x3, iv x4, iv x5, iv 1, iv 1, iv v8, iv v9, iv v10, rv b144, iv (-1), .unset, .unset, .unset] [(.int v8)] (fun t k => XS.iload X206.here hx rfl (hb hby at_149) rfl k) ?_
                    refine own_go T206 m 152 #[iv x0, iv x1, iv x2, iv x3, iv x4, iv x5, iv 1, iv 1, iv v8, iv v9, iv v10, rv b144, iv (-1), .unset, .unset, .unset] [(.int x0), (.int v8)] (fun t k => XS.iloadN X206.here hx rfl (hb hby at_151) rfl k) ?_
                    refine own_go T206 m 155 #[iv x0, iv x1, iv x2, iv x3, iv x4, iv x5, iv 1, iv 1, iv v8, iv v9, iv v10, rv b144, iv (-1), .unset, .unset, .unset] [] (fun t k => XS.icmpNo X206.here hx rfl (hb hby at_152) rfl (flt hc144_185).1 k) ?_
                    refine own_go T206 m 157 #[iv x0, iv x1, iv x2, iv x3, iv x4, iv x5, iv 1, iv 1, iv v8, iv v9, iv v10, rv b144, iv (-1), .unset, .unset, .unset] [(.int v8)] (fun t k => XS.iload X206.here hx rfl (hb hby at_155) rfl k) ?_
                    refine own_go T206 m 159 #[iv x0, iv x1, iv x2, iv x3, iv x4, iv x5, iv 1, iv 1, iv v8, iv v9, iv v10, rv b144, iv (-1), .unset, .unset, .unset] [(.int v9), (.int v8)] (fun t k => XS.iload X206.here hx rfl (hb hby at_157) rfl k) ?_
                    refine own_go T206 m 162 #[iv x0, iv x1, iv x2, iv x3, iv x4, iv x5, iv 1, iv 1, iv v8, iv v9, iv v10, rv b144, iv (-1), .unset, .unset, .unset] [] (fun t k => XS.icmpNo X206.here hx rfl (hb hby at_159) rfl (tlt hc144_194).2.1 k) ?_
                    refine own_go T206 m 163 #[iv x0, iv x1, iv x2, iv x3, iv x4, iv x5, iv 1, iv 1, iv v8, iv v9, iv v10, rv b144, iv (-1), .unset, .unset, .unset] [(.int 1)] (fun t k => XS.iconst X206.here hx rfl (hb hby at_162) k) ?_
                    refine own_go T206 m 167 #[iv x0, iv x1, iv x2, iv x3, iv x4, iv x5, iv 1, iv 1, iv v8, iv v9, iv v10, rv b144, iv (-1), .unset, .unset, .unset] [(.int 1)] (fun t k => XS.goto X206.here hx rfl (pc0 := 163) (pc' := 167) rfl (hb hby at_163) (by decide) (by decide) k) ?_
                    refine own_go T206 m 169 #[iv x0, iv x1, iv x2, iv x3, iv x4, iv x5, iv 1, iv 1, iv v8, iv v9, iv v10, rv b144, iv (-1), iv 1, .unset, .unset] [] (fun t k => XS.istore X206.here hx rfl (hb hby at_167) rfl rfl k) ?_
                    refine own_go T206 m 171 #[iv x0, iv x1, iv x2, iv x3, iv x4, iv x5, iv 1, iv 1, iv v8, iv v9, iv v10, rv b144, iv (-1), iv 1, .unset, .unset] [(.int 1)] (fun t k => XS.iload X206.here hx rfl (hb hby at_169) rfl k) ?_
                    refine own_go T206 m 174 #[iv x0, iv x1, iv x2, iv x3, iv x4, iv x5, iv 1, iv 1, iv v8, iv v9, iv v10, rv b144, iv (-1), iv 1, .unset, .unset] [] (fun t k => XS.ifNo X206.here hx rfl (hb hby at_171) rfl ((if0 _ _).trans (feq (by decide)).1) k) ?_
                    refine own_go T206 m 176 #[iv x0, iv x1, iv x2, iv x3, iv x4, iv x5, iv 1, iv 1, iv v8, iv v9, iv v10, rv b144, iv (-1), iv 1, .unset, .unset] [(.int 1)] (fun t k => XS.iload X206.here hx rfl (hb hby at_174) rfl k) ?_
                    refine own_go T206 m 179 #[iv x0, iv x1, iv x2, iv x3, iv x4, iv x5, iv 1, iv 1, iv v8, iv v9, iv v10, rv b144, iv (-1), iv 1, .unset, .unset] [] (fun t k => XS.ifNo X206.here hx rfl (hb hby at_176) rfl ((if0 _ _).trans (feq (by decide)).1) k) ?_
                    refine own_go T206 m 181 #[iv x0, iv x1, iv x2, iv x3, iv x4, iv x5, iv 1, iv 1, iv v8, iv v9, iv v10, rv b144, iv (-1), iv 1, .unset, .unset] [(.int v8)] (fun t k => XS.iload X206.here hx rfl (hb hby at_179) rfl k) ?_
                    refine own_go T206 m 182 #[iv x0, iv x1, iv x2, iv x3, iv x4, iv x5, iv 1, iv 1, iv v8, iv v9, iv v10, rv b144, iv (-1), iv 1, .unset, .unset] [(.int x0), (.int v8)] (fun t k => XS.iloadN X206.here hx rfl (hb hby at_181) rfl k) ?_
                    refine own_go T206 m 185 #[iv x0, iv x1, iv x2, iv x3, iv x4, iv x5, iv 1, iv 1, iv v8, iv v9, iv v10, rv b144, iv (-1), iv 1, .unset, .unset] [] (fun t k => XS.icmpNo X206.here hx rfl (hb hby at_182) rfl (teq (own_db15 (x5 &&& (1 : Int32)) (x5 &&& (2 : Int32)) v8 x0 v9 x3 v10 hc4_1 hc18_63 hc144_185 hc144_194 hc144_196 hc144_205)).2 k) ?_
                    refine own_go T206 m 186 #[iv x0, iv x1, iv x2, iv x3, iv x4, iv x5, iv 1, iv 1, iv v8, iv v9, iv v10, rv b144, iv (-1), iv 1, .unset, .unset] [(.int 1)] (fun t k => XS.iconst X206.here hx rfl (hb hby at_185) k) ?_
                    refine own_go T206 m 190 #[iv x0, iv x1, iv x2, iv x3, iv x4, iv x5, iv 1, iv 1, iv v8, iv v9, iv v10, rv b144, iv (-1), iv 1, .unset, .unset] [(.int 1)] (fun t k => XS.goto X206.here hx rfl (pc0 := 186) (pc' := 190) rfl (hb hby at_186) (by decide) (by decide) k) ?_
                    refine own_go T206 m 192 #[iv x0, iv x1, iv x2, iv x3, iv x4, iv x5, iv 1, iv 1, iv v8, iv v9, iv v10, rv b144, iv (-1), iv 1, iv 1, .unset] [] (fun t k => XS.istore X206.here hx rfl (hb hby at_190) rfl rfl k) ?_
                    refine own_go T206 m 194 #[iv x0, iv x1, iv x2, iv x3, iv x4, iv x5, iv 1, iv 1, iv v8, iv v9, iv v10, rv b144, iv (-1), iv 1, iv 1, .unset] [(.int 1)] (fun t k => XS.iload X206.here hx rfl (hb hby at_192) rfl k) ?_
                    refine own_go T206 m 197 #[iv x0, iv x1, iv x2, iv x3, iv x4, iv x5, iv 1, iv 1, iv v8, iv v9, iv v10, rv b144, iv (-1), iv 1, iv 1, .unset] [] (fun t k => XS.ifNo X206.here hx rfl (hb hby at_194) rfl ((if0 _ _).trans (feq (by decide)).1) k) ?_
                    refine own_go T206 m 199 #[iv x0, iv x1, iv x2, iv x3, iv x4, iv x5, iv 1, iv 1, iv v8, iv v9, iv v10, rv b144, iv (-1), iv 1, iv 1, .unset] [(.int v10)] (fun t k => XS.iload X206.here hx rfl (hb hby at_197) rfl k) ?_
                    refine own_go T206 m 200 #[iv x0, iv x1, iv x2, iv x3, iv x4, iv x5, iv 1, iv 1, iv v8, iv v9, iv v10, rv b144, iv (-1), iv 1, iv 1, .unset] [(.int x3), (.int v10)] (fun t k => XS.iloadN X206.here hx rfl (hb hby at_199) rfl k) ?_
                    refine own_go T206 m 203 #[iv x0, iv x1, iv x2, iv x3, iv x4, iv x5, iv 1, iv 1, iv v8, iv v9, iv v10, rv b144, iv (-1), iv 1, iv 1, .unset] [] (fun t k => XS.icmpNo X206.here hx rfl (hb hby at_200) rfl (tlt hc144_205).2.2.2 k) ?_
                    refine own_go T206 m 204 #[iv x0, iv x1, iv x2, iv x3, iv x4, iv x5, iv 1, iv 1, iv v8, iv v9, iv v10, rv b144, iv (-1), iv 1, iv 1, .unset] [(.int (-1))] (fun t k => XS.iconst X206.here hx rfl (hb hby at_203) k) ?_
                    refine own_go T206 m 209 #[iv x0, iv x1, iv x2, iv x3, iv x4, iv x5, iv 1, iv 1, iv v8, iv v9, iv v10, rv b144, iv (-1), iv 1, iv 1, .unset] [(.int (-1))] (fun t k => XS.goto X206.here hx rfl (pc0 := 204) (pc' := 209) rfl (hb hby at_204) (by decide) (by decide) k) ?_
                    refine own_go T206 m 211 #[iv x0, iv x1, iv x2, iv x3, iv x4, iv x5, iv 1, iv 1, iv v8, iv v9, iv v10, rv b144, iv (-1), iv 1, iv 1, iv (-1)] [] (fun t k => XS.istore X206.here hx rfl (hb hby at_209) rfl rfl k) ?_
                    refine own_go T206 m 217 #[iv x0, iv x1, iv x2, iv x3, iv x4, iv x5, iv 1, iv 1, iv v8, iv v9, iv v10, rv b144, iv (-1), iv 1, iv 1, iv (-1)] [] (fun t k => XS.goto X206.here hx rfl (pc0 := 211) (pc' := 217) rfl (hb hby at_211) (by decide) (by decide) k) ?_
                    refine own_go T206 m 219 #[iv x0, iv x1, iv x2, iv x3, iv x4, iv x5, iv 1, iv 1, iv v8, iv v9, iv v10, rv b144, iv (-1), iv 1, iv 1, iv (-1)] [(.int (-1))] (fun t k => XS.iload X206.here hx rfl (hb hby at_217) rfl k) ?_
                    refine own_go T206 m 221 #[iv x0, iv x1, iv x2, iv x3, iv x4, iv x5, iv 1, iv 1, iv v8, iv v9, iv v10, rv b144, iv (-1), iv 1, iv 1, iv (-1)] [(.int (-1)), (.int (-1))] (fun t k => XS.iload X206.here hx rfl (hb hby at_219) rfl k) ?_
                    refine own_go T206 m 224 #[iv x0, iv x1, iv x2, iv x3, iv x4, iv x5, iv 1, iv 1, iv v8, iv v9, iv v10, rv b144, iv (-1), iv 1, iv 1, iv (-1)] [] (fun t k => XS.icmpNo X206.here hx rfl (hb hby at_221) rfl (teq (by decide)).2 k) ?_
                    refine own_go T206 m 225 #[iv x0, iv x1, iv x2, iv x3, iv x4, iv x5, iv 1, iv 1, iv v8, iv v9, iv v10, rv b144, iv (-1), iv 1, iv 1, iv (-1)] [(.int 1)] (fun t k => XS.iconst X206.here hx rfl (hb hby at_224) k) ?_
                    refine own_go T206 m 229 #[iv x0, iv x1, iv x2, iv x3, iv x4, iv x5, iv 1, iv 1, iv v8, iv v9, iv v10, rv b144, iv (-1), iv 1, iv 1, iv (-1)] [(.int 1)] (fun t k => XS.goto X206.here hx rfl (pc0 := 225) (pc' := 229) rfl (hb hby at_225) (by decide) (by decide) k) ?_
                    refine own_retZ X206 hx hlk hret (by decide) (hb hby at_229) (by decide) (by decide) ?_
                    exact ⟨rfl, N206⟩
                  · obtain ⟨_, T213, L213, X213, ⟨rfl, Nq213, Kq213, fq0_213, fq1_213, fq2_213, fq3_213, fq4_213, fq5_213, fq6_213, fq7_213, fq8_213⟩, st213⟩ := own_virtual X169 hx hZ (y := (⟨OwnK0, "find", "(II)I"⟩ : MethodName)) (z := (⟨OwnK0, "find", "(II)I"⟩ : MethodName)) hown (own_w hw 43 rfl) (own_w hw 44 rfl) (notFace_of_selects (args := #[]) (mvT hZ (own_w hw 46 rfl))) (own_w hw 46 rfl) (own_w hw 45 rfl) (own_w hw 2 rfl) (own_w hw 47 rfl) (by decide) (sp34 l Z a0 hw [] b144 w1_145 w3_145 w2_145 w4_145 w0_145 v8 v10 v9 x3 x0 kw1_145 kw3_145 kw2_145 kw4_145 kw0_145 T169.heap n0 Z_169 cf170 cf175 cf176 cf177 cf178 cf179 cf180 cf181 cf183 cf182 cf172 fq0_169 cf173 cf174 cf171 ne_b144_w1_145 ne_b144_w3_145 ne_b144_w2_145 ne_b144_w4_145 ne_b144_w0_145 g_b144 hc144_185 hc144_194 hc144_196 (own_db16 (x5 &&& (1 : Int32)) (x5 &&& (2 : Int32)) v8 x0 v9 x3 v10 hc4_1 hc18_63 hc144_185 hc144_194 hc144_196 hc144_205) hc144_205) rfl cf170 0 (argsL := [(.int v8), (.int v10)]) (rest := []) (Ls := #[iv x0, iv x1, iv x2, iv x3, iv x4, iv x5, iv 1, iv 1, iv v8, iv v9, iv v10, rv b144, .unset, .unset, .unset, .unset]) (by rw [hml]; rfl) (lenOf pd__II_I rfl) rfl rfl (Nat.le_of_eq rfl) (hb hby at_144) (by decide) (by decide) (by decide) (by decide)
                    have N213 := Fr.app N169 Nq213
                    have cf214 := cf170.keep Kq213
                    have cf215 := cf171.keep Kq213 (ninS (Ne.symm ne_b144_w0_145) nin0)
                    have cf216 := cf172.keep Kq213 (ninS (Ne.symm ne_b144_w1_145) nin0)
                    have cf217 := cf173.keep Kq213 (ninS (Ne.symm ne_b144_w2_145) nin0)
                    have cf218 := cf174.keep Kq213 (ninS (Ne.symm ne_b144_w4_145) nin0)
                    have cf219 := fq0_169.keep Kq213 (ninS (Ne.symm ne_b144_w3_145) nin0)
                    have Z_213 : n0 ≤ T213.heap.size := Nat.le_trans Z_169 Kq213.1
                    refine own_go T213 m 147 #[iv x0, iv x1, iv x2, iv x3, iv x4, iv x5, iv 1, iv 1, iv v8, iv v9, iv v10, rv b144, .unset, .unset, .unset, .unset] [(.int (-2))] (st213) ?_
                    refine own_go T213 m 149 #[iv x0, iv x1, iv x2, iv x3, iv x4, iv x5, iv 1, iv 1, iv v8, iv v9, iv v10, rv b144, iv (-2), .unset, .unset, .unset] [] (fun t k => XS.istore X213.here hx rfl (hb hby at_147) rfl rfl k) ?_
                    refine own_go T213 m 151 #[iv x0, iv x1, iv x2, iv x3, iv x4, iv x5, iv 1, iv 1, iv v8, iv v9, iv v10, rv b144, iv (-2), .unset, .unset, .unset] [(.int v8)] (fun t k => XS.iload X213.here hx rfl (hb hby at_149) rfl k) ?_
                    refine own_go T213 m 152 #[iv x0, iv x1, iv x2, iv x3, iv x4, iv x5, iv 1, iv 1, iv v8, iv v9, iv v10, rv b144, iv (-2), .unset, .unset, .unset] [(.int x0), (.int v8)] (fun t k => XS.iloadN X213.here hx rfl (hb hby at_151) rfl k) ?_
                    refine own_go T213 m 155 #[iv x0, iv x1, iv x2, iv x3, iv x4, iv x5, iv 1, iv 1, iv v8, iv v9, iv v10, rv b144, iv (-2), .unset, .unset, .unset] [] (fun t k => XS.icmpNo X213.here hx rfl (hb hby at_152) rfl (flt hc144_185).1 k) ?_
                    refine own_go T213 m 157 #[iv x0, iv x1, iv x2, iv x3, iv x4, iv x5, iv 1, iv 1, iv v8, iv v9, iv v10, rv b144, iv (-2), .unset, .unset, .unset] [(.int v8)] (fun t k => XS.iload X213.here hx rfl (hb hby at_155) rfl k) ?_
                    refine own_go T213 m 159 #[iv x0, iv x1, iv x2, iv x3, iv x4, iv x5, iv 1, iv 1, iv v8, iv v9, iv v10, rv b144, iv (-2), .unset, .unset, .unset] [(.int v9), (.int v8)] (fun t k => XS.iload X213.here hx rfl (hb hby at_157) rfl k) ?_
                    refine own_go T213 m 162 #[iv x0, iv x1, iv x2, iv x3, iv x4, iv x5, iv 1, iv 1, iv v8, iv v9, iv v10, rv b144, iv (-2), .unset, .unset, .unset] [] (fun t k => XS.icmpNo X213.here hx rfl (hb hby at_159) rfl (tlt hc144_194).2.1 k) ?_
                    refine own_go T213 m 163 #[iv x0, iv x1, iv x2, iv x3, iv x4, iv x5, iv 1, iv 1, iv v8, iv v9, iv v10, rv b144, iv (-2), .unset, .unset, .unset] [(.int 1)] (fun t k => XS.iconst X213.here hx rfl (hb hby at_162) k) ?_
                    refine own_go T213 m 167 #[iv x0, iv x1, iv x2, iv x3, iv x4, iv x5, iv 1, iv 1, iv v8, iv v9, iv v10, rv b144, iv (-2), .unset, .unset, .unset] [(.int 1)] (fun t k => XS.goto X213.here hx rfl (pc0 := 163) (pc' := 167) rfl (hb hby at_163) (by decide) (by decide) k) ?_
                    refine own_go T213 m 169 #[iv x0, iv x1, iv x2, iv x3, iv x4, iv x5, iv 1, iv 1, iv v8, iv v9, iv v10, rv b144, iv (-2), iv 1, .unset, .unset] [] (fun t k => XS.istore X213.here hx rfl (hb hby at_167) rfl rfl k) ?_
                    refine own_go T213 m 171 #[iv x0, iv x1, iv x2, iv x3, iv x4, iv x5, iv 1, iv 1, iv v8, iv v9, iv v10, rv b144, iv (-2), iv 1, .unset, .unset] [(.int 1)] (fun t k => XS.iload X213.here hx rfl (hb hby at_169) rfl k) ?_
                    refine own_go T213 m 174 #[iv x0, iv x1, iv x2, iv x3, iv x4, iv x5, iv 1, iv 1, iv v8, iv v9, iv v10, rv b144, iv (-2), iv 1, .unset, .unset] [] (fun t k => XS.ifNo X213.here hx rfl (hb hby at_171) rfl ((if0 _ _).trans (feq (by decide)).1) k) ?_
                    refine own_go T213 m 176 #[iv x0, iv x1, iv x2, iv x3, iv x4, iv x5, iv 1, iv 1, iv v8, iv v9, iv v10, rv b144, iv (-2), iv 1, .unset, .unset] [(.int 1)] (fun t k => XS.iload X213.here hx rfl (hb hby at_174) rfl k) ?_
                    refine own_go T213 m 179 #[iv x0, iv x1, iv x2, iv x3, iv x4, iv x5, iv 1, iv 1, iv v8, iv v9, iv v10, rv b144, iv (-2), iv 1, .unset, .unset] [] (fun t k => XS.ifNo X213.here hx rfl (hb hby at_176) rfl ((if0 _ _).trans (feq (by decide)).1) k) ?_
                    refine own_go T213 m 181 #[iv x0, iv x1, iv x2, iv x3, iv x4, iv x5, iv 1, iv 1, iv v8, iv v9, iv v10, rv b144, iv (-2), iv 1, .unset, .unset] [(.int v8)] (fun t k => XS.iload X213.here hx rfl (hb hby at_179) rfl k) ?_
                    refine own_go T213 m 182 #[iv x0, iv x1, iv x2, iv x3, iv x4, iv x5, iv 1, iv 1, iv v8, iv v9, iv v10, rv b144, iv (-2), iv 1, .unset, .unset] [(.int x0), (.int v8)] (fun t k => XS.iloadN X213.here hx rfl (hb hby at_181) rfl k) ?_
                    refine own_go T213 m 185 #[iv x0, iv x1, iv x2, iv x3, iv x4, iv x5, iv 1, iv 1, iv v8, iv v9, iv v10, rv b144, iv (-2), iv 1, .unset, .unset] [] (fun t k => XS.icmpNo X213.here hx rfl (hb hby at_182) rfl (teq (own_db20 (x5 &&& (1 : Int32)) (x5 &&& (2 : Int32)) v8 x0 v9 x3 v10 hc4_1 hc18_63 hc144_185 hc144_194 hc144_196 hc144_205)).2 k) ?_
                    refine own_go T213 m 186 #[iv x0, iv x1, iv x2, iv x3, iv x4, iv x5, iv 1, iv 1, iv v8, iv v9, iv v10, rv b144, iv (-2), iv 1, .unset, .unset] [(.int 1)] (fun t k => XS.iconst X213.here hx rfl (hb hby at_185) k) ?_
                    refine own_go T213 m 190 #[iv x0, iv x1, iv x2, iv x3, iv x4, iv x5, iv 1, iv 1, iv v8, iv v9, iv v10, rv b144, iv (-2), iv 1, .unset, .unset] [(.int 1)] (fun t k => XS.goto X213.here hx rfl (pc0 := 186) (pc' := 190) rfl (hb hby at_186) (by decide) (by decide) k) ?_
                    refine own_go T213 m 192 #[iv x0, iv x1, iv x2, iv x3, iv x4, iv x5, iv 1, iv 1, iv v8, iv v9, iv v10, rv b144, iv (-2), iv 1, iv 1, .unset] [] (fun t k => XS.istore X213.here hx rfl (hb hby at_190) rfl rfl k) ?_
                    refine own_go T213 m 194 #[iv x0, iv x1, iv x2, iv x3, iv x4, iv x5, iv 1, iv 1, iv v8, iv v9, iv v10, rv b144, iv (-2), iv 1, iv 1, .unset] [(.int 1)] (fun t k => XS.iload X213.here hx rfl (hb hby at_192) rfl k) ?_
                    refine own_go T213 m 197 #[iv x0, iv x1, iv x2, iv x3, iv x4, iv x5, iv 1, iv 1, iv v8, iv v9, iv v10, rv b144, iv (-2), iv 1, iv 1, .unset] [] (fun t k => XS.ifNo X213.here hx rfl (hb hby at_194) rfl ((if0 _ _).trans (feq (by decide)).1) k) ?_
                    refine own_go T213 m 199 #[iv x0, iv x1, iv x2, iv x3, iv x4, iv x5, iv 1, iv 1, iv v8, iv v9, iv v10, rv b144, iv (-2), iv 1, iv 1, .unset] [(.int v10)] (fun t k => XS.iload X213.here hx rfl (hb hby at_197) rfl k) ?_
                    refine own_go T213 m 200 #[iv x0, iv x1, iv x2, iv x3, iv x4, iv x5, iv 1, iv 1, iv v8, iv v9, iv v10, rv b144, iv (-2), iv 1, iv 1, .unset] [(.int x3), (.int v10)] (fun t k => XS.iloadN X213.here hx rfl (hb hby at_199) rfl k) ?_
                    refine own_go T213 m 207 #[iv x0, iv x1, iv x2, iv x3, iv x4, iv x5, iv 1, iv 1, iv v8, iv v9, iv v10, rv b144, iv (-2), iv 1, iv 1, .unset] [] (fun t k => XS.icmpYes X213.here hx rfl (pc0 := 200) (pc' := 207) rfl (hb hby at_200) rfl (flt hc144_205).2.2.2 (by decide) (by decide) k) ?_
                    refine own_go T213 m 209 #[iv x0, iv x1, iv x2, iv x3, iv x4, iv x5, iv 1, iv 1, iv v8, iv v9, iv v10, rv b144, iv (-2), iv 1, iv 1, .unset] [(.int (-2))] (fun t k => XS.bipush X213.here hx rfl (hb hby at_207) k) ?_
                    refine own_go T213 m 211 #[iv x0, iv x1, iv x2, iv x3, iv x4, iv x5, iv 1, iv 1, iv v8, iv v9, iv v10, rv b144, iv (-2), iv 1, iv 1, iv (-2)] [] (fun t k => XS.istore X213.here hx rfl (hb hby at_209) rfl rfl k) ?_
                    refine own_go T213 m 217 #[iv x0, iv x1, iv x2, iv x3, iv x4, iv x5, iv 1, iv 1, iv v8, iv v9, iv v10, rv b144, iv (-2), iv 1, iv 1, iv (-2)] [] (fun t k => XS.goto X213.here hx rfl (pc0 := 211) (pc' := 217) rfl (hb hby at_211) (by decide) (by decide) k) ?_
                    refine own_go T213 m 219 #[iv x0, iv x1, iv x2, iv x3, iv x4, iv x5, iv 1, iv 1, iv v8, iv v9, iv v10, rv b144, iv (-2), iv 1, iv 1, iv (-2)] [(.int (-2))] (fun t k => XS.iload X213.here hx rfl (hb hby at_217) rfl k) ?_
                    refine own_go T213 m 221 #[iv x0, iv x1, iv x2, iv x3, iv x4, iv x5, iv 1, iv 1, iv v8, iv v9, iv v10, rv b144, iv (-2), iv 1, iv 1, iv (-2)] [(.int (-2)), (.int (-2))] (fun t k => XS.iload X213.here hx rfl (hb hby at_219) rfl k) ?_
                    refine own_go T213 m 224 #[iv x0, iv x1, iv x2, iv x3, iv x4, iv x5, iv 1, iv 1, iv v8, iv v9, iv v10, rv b144, iv (-2), iv 1, iv 1, iv (-2)] [] (fun t k => XS.icmpNo X213.here hx rfl (hb hby at_221) rfl (teq (by decide)).2 k) ?_
                    refine own_go T213 m 225 #[iv x0, iv x1, iv x2, iv x3, iv x4, iv x5, iv 1, iv 1, iv v8, iv v9, iv v10, rv b144, iv (-2), iv 1, iv 1, iv (-2)] [(.int 1)] (fun t k => XS.iconst X213.here hx rfl (hb hby at_224) k) ?_
                    refine own_go T213 m 229 #[iv x0, iv x1, iv x2, iv x3, iv x4, iv x5, iv 1, iv 1, iv v8, iv v9, iv v10, rv b144, iv (-2), iv 1, iv 1, iv (-2)] [(.int 1)] (fun t k => XS.goto X213.here hx rfl (pc0 := 225) (pc' := 229) rfl (hb hby at_225) (by decide) (by decide) k) ?_
                    refine own_retZ X213 hx hlk hret (by decide) (hb hby at_229) (by decide) (by decide) ?_
                    exact ⟨rfl, N213⟩
              · obtain ⟨_, T220, L220, X220, ⟨rfl, Nq220, Kq220, fq0_220, fq1_220, fq2_220, fq3_220, fq4_220, fq5_220, fq6_220, fq7_220, fq8_220⟩, st220⟩ := own_virtual X169 hx hZ (y := (⟨OwnK0, "find", "(II)I"⟩ : MethodName)) (z := (⟨OwnK0, "find", "(II)I"⟩ : MethodName)) hown (own_w hw 43 rfl) (own_w hw 44 rfl) (notFace_of_selects (args := #[]) (mvT hZ (own_w hw 46 rfl))) (own_w hw 46 rfl) (own_w hw 45 rfl) (own_w hw 2 rfl) (own_w hw 47 rfl) (by decide) (sp35 l Z a0 hw [] b144 w1_145 w3_145 w2_145 w4_145 w0_145 v8 v10 v9 x0 kw3_145 kw2_145 kw0_145 T169.heap n0 Z_169 cf170 cf175 cf176 cf177 cf178 cf179 cf180 cf181 cf183 cf182 fq0_169 cf173 cf171 ne_b144_w1_145 ne_b144_w3_145 ne_b144_w2_145 ne_b144_w4_145 ne_b144_w0_145 g_b144 hc144_185 hc144_194) rfl cf170 0 (argsL := [(.int v8), (.int v10)]) (rest := []) (Ls := #[iv x0, iv x1, iv x2, iv x3, iv x4, iv x5, iv 1, iv 1, iv v8, iv v9, iv v10, rv b144, .unset, .unset, .unset, .unset]) (by rw [hml]; rfl) (lenOf pd__II_I rfl) rfl rfl (Nat.le_of_eq rfl) (hb hby at_144) (by decide) (by decide) (by decide) (by decide)
                have N220 := Fr.app N169 Nq220
                have cf221 := cf170.keep Kq220
                have cf222 := cf171.keep Kq220 (ninS (Ne.symm ne_b144_w0_145) nin0)
                have cf223 := cf172.keep Kq220 (ninS (Ne.symm ne_b144_w1_145) nin0)
                have cf224 := cf173.keep Kq220 (ninS (Ne.symm ne_b144_w2_145) nin0)
                have cf225 := cf174.keep Kq220 (ninS (Ne.symm ne_b144_w4_145) nin0)
                have cf226 := fq0_169.keep Kq220 (ninS (Ne.symm ne_b144_w3_145) nin0)
                have Z_220 : n0 ≤ T220.heap.size := Nat.le_trans Z_169 Kq220.1
                refine own_go T220 m 147 #[iv x0, iv x1, iv x2, iv x3, iv x4, iv x5, iv 1, iv 1, iv v8, iv v9, iv v10, rv b144, .unset, .unset, .unset, .unset] [(.int (-1))] (st220) ?_
                refine own_go T220 m 149 #[iv x0, iv x1, iv x2, iv x3, iv x4, iv x5, iv 1, iv 1, iv v8, iv v9, iv v10, rv b144, iv (-1), .unset, .unset, .unset] [] (fun t k => XS.istore X220.here hx rfl (hb hby at_147) rfl rfl k) ?_
                refine own_go T220 m 151 #[iv x0, iv x1, iv x2, iv x3, iv x4, iv x5, iv 1, iv 1, iv v8, iv v9, iv v10, rv b144, iv (-1), .unset, .unset, .unset] [(.int v8)] (fun t k => XS.iload X220.here hx rfl (hb hby at_149) rfl k) ?_
                refine own_go T220 m 152 #[iv x0, iv x1, iv x2, iv x3, iv x4, iv x5, iv 1, iv 1, iv v8, iv v9, iv v10, rv b144, iv (-1), .unset, .unset, .unset] [(.int x0), (.int v8)] (fun t k => XS.iloadN X220.here hx rfl (hb hby at_151) rfl k) ?_
                refine own_go T220 m 155 #[iv x0, iv x1, iv x2, iv x3, iv x4, iv x5, iv 1, iv 1, iv v8, iv v9, iv v10, rv b144, iv (-1), .unset, .unset, .unset] [] (fun t k => XS.icmpNo X220.here hx rfl (hb hby at_152) rfl (flt hc144_185).1 k) ?_
                refine own_go T220 m 157 #[iv x0, iv x1, iv x2, iv x3, iv x4, iv x5, iv 1, iv 1, iv v8, iv v9, iv v10, rv b144, iv (-1), .unset, .unset, .unset] [(.int v8)] (fun t k => XS.iload X220.here hx rfl (hb hby at_155) rfl k) ?_
                refine own_go T220 m 159 #[iv x0, iv x1, iv x2, iv x3, iv x4, iv x5, iv 1, iv 1, iv v8, iv v9, iv v10, rv b144, iv (-1), .unset, .unset, .unset] [(.int v9), (.int v8)] (fun t k => XS.iload X220.here hx rfl (hb hby at_157) rfl k) ?_
                refine own_go T220 m 166 #[iv x0, iv x1, iv x2, iv x3, iv x4, iv x5, iv 1, iv 1, iv v8, iv v9, iv v10, rv b144, iv (-1), .unset, .unset, .unset] [] (fun t k => XS.icmpYes X220.here hx rfl (pc0 := 159) (pc' := 166) rfl (hb hby at_159) rfl (flt hc144_194).2.1 (by decide) (by decide) k) ?_
                refine own_go T220 m 167 #[iv x0, iv x1, iv x2, iv x3, iv x4, iv x5, iv 1, iv 1, iv v8, iv v9, iv v10, rv b144, iv (-1), .unset, .unset, .unset] [(.int 0)] (fun t k => XS.iconst X220.here hx rfl (hb hby at_166) k) ?_
                refine own_go T220 m 169 #[iv x0, iv x1, iv x2, iv x3, iv x4, iv x5, iv 1, iv 1, iv v8, iv v9, iv v10, rv b144, iv (-1), iv 0, .unset, .unset] [] (fun t k => XS.istore X220.here hx rfl (hb hby at_167) rfl rfl k) ?_
                refine own_go T220 m 171 #[iv x0, iv x1, iv x2, iv x3, iv x4, iv x5, iv 1, iv 1, iv v8, iv v9, iv v10, rv b144, iv (-1), iv 0, .unset, .unset] [(.int 1)] (fun t k => XS.iload X220.here hx rfl (hb hby at_169) rfl k) ?_
                refine own_go T220 m 174 #[iv x0, iv x1, iv x2, iv x3, iv x4, iv x5, iv 1, iv 1, iv v8, iv v9, iv v10, rv b144, iv (-1), iv 0, .unset, .unset] [] (fun t k => XS.ifNo X220.here hx rfl (hb hby at_171) rfl ((if0 _ _).trans (feq (by decide)).1) k) ?_
                refine own_go T220 m 176 #[iv x0, iv x1, iv x2, iv x3, iv x4, iv x5, iv 1, iv 1, iv v8, iv v9, iv v10, rv b144, iv (-1), iv 0, .unset, .unset] [(.int 0)] (fun t k => XS.iload X220.here hx rfl (hb hby at_174) rfl k) ?_
                refine own_go T220 m 189 #[iv x0, iv x1, iv x2, iv x3, iv x4, iv x5, iv 1, iv 1, iv v8, iv v9, iv v10, rv b144, iv (-1), iv 0, .unset, .unset] [] (fun t k => XS.ifYes X220.here hx rfl (pc0 := 176) (pc' := 189) rfl (hb hby at_176) rfl ((if0 _ _).trans (teq (by decide)).1) (by decide) (by decide) k) ?_
                refine own_go T220 m 190 #[iv x0, iv x1, iv x2, iv x3, iv x4, iv x5, iv 1, iv 1, iv v8, iv v9, iv v10, rv b144, iv (-1), iv 0, .unset, .unset] [(.int 0)] (fun t k => XS.iconst X220.here hx rfl (hb hby at_189) k) ?_
                refine own_go T220 m 192 #[iv x0, iv x1, iv x2, iv x3, iv x4, iv x5, iv 1, iv 1, iv v8, iv v9, iv v10, rv b144, iv (-1), iv 0, iv 0, .unset] [] (fun t k => XS.istore X220.here hx rfl (hb hby at_190) rfl rfl k) ?_
                refine own_go T220 m 194 #[iv x0, iv x1, iv x2, iv x3, iv x4, iv x5, iv 1, iv 1, iv v8, iv v9, iv v10, rv b144, iv (-1), iv 0, iv 0, .unset] [(.int 0)] (fun t k => XS.iload X220.here hx rfl (hb hby at_192) rfl k) ?_
                refine own_go T220 m 214 #[iv x0, iv x1, iv x2, iv x3, iv x4, iv x5, iv 1, iv 1, iv v8, iv v9, iv v10, rv b144, iv (-1), iv 0, iv 0, .unset] [] (fun t k => XS.ifYes X220.here hx rfl (pc0 := 194) (pc' := 214) rfl (hb hby at_194) rfl ((if0 _ _).trans (teq (by decide)).1) (by decide) (by decide) k) ?_
                refine own_go T220 m 215 #[iv x0, iv x1, iv x2, iv x3, iv x4, iv x5, iv 1, iv 1, iv v8, iv v9, iv v10, rv b144, iv (-1), iv 0, iv 0, .unset] [(.int (-1))] (fun t k => XS.iconst X220.here hx rfl (hb hby at_214) k) ?_
                refine own_go T220 m 217 #[iv x0, iv x1, iv x2, iv x3, iv x4, iv x5, iv 1, iv 1, iv v8, iv v9, iv v10, rv b144, iv (-1), iv 0, iv 0, iv (-1)] [] (fun t k => XS.istore X220.here hx rfl (hb hby at_215) rfl rfl k) ?_
                refine own_go T220 m 219 #[iv x0, iv x1, iv x2, iv x3, iv x4, iv x5, iv 1, iv 1, iv v8, iv v9, iv v10, rv b144, iv (-1), iv 0, iv 0, iv (-1)] [(.int (-1))] (fun t k => XS.iload X220.here hx rfl (hb hby at_217) rfl k) ?_
                refine own_go T220 m 221 #[iv x0, iv x1, iv x2, iv x3, iv x4, iv x5, iv 1, iv 1, iv v8, iv v9, iv v10, rv b144, iv (-1), iv 0, iv 0, iv (-1)] [(.int (-1)), (.int (-1))] (fun t k => XS.iload X220.here hx rfl (hb hby at_219) rfl k) ?_
                refine own_go T220 m 224 #[iv x0, iv x1, iv x2, iv x3, iv x4, iv x5, iv 1, iv 1, iv v8, iv v9, iv v10, rv b144, iv (-1), iv 0, iv 0, iv (-1)] [] (fun t k => XS.icmpNo X220.here hx rfl (hb hby at_221) rfl (teq (by decide)).2 k) ?_
                refine own_go T220 m 225 #[iv x0, iv x1, iv x2, iv x3, iv x4, iv x5, iv 1, iv 1, iv v8, iv v9, iv v10, rv b144, iv (-1), iv 0, iv 0, iv (-1)] [(.int 1)] (fun t k => XS.iconst X220.here hx rfl (hb hby at_224) k) ?_
                refine own_go T220 m 229 #[iv x0, iv x1, iv x2, iv x3, iv x4, iv x5, iv 1, iv 1, iv v8, iv v9, iv v10, rv b144, iv (-1), iv 0, iv 0, iv (-1)] [(.int 1)] (fun t k => XS.goto X220.here hx rfl (pc0 := 225) (pc' := 229) rfl (hb hby at_225) (by decide) (by decide) k) ?_
                refine own_retZ X220 hx hlk hret (by decide) (hb hby at_229) (by decide) (by decide) ?_
                exact ⟨rfl, N220⟩
          by_cases hc68_227 : (x5 &&& (16 : Int32)) = (0 : Int32)
          · refine own_go T0 m 82 #[iv x0, iv x1, iv x2, iv x3, iv x4, iv x5, iv 1, iv 1, iv v8, iv v9, .unset, .unset, .unset, .unset, .unset, .unset] [] (fun t k => XS.ifYes X0.here hx rfl (pc0 := 68) (pc' := 82) rfl (hb hby at_68) rfl ((if0 _ _).trans (teq hc68_227).1) (by decide) (by decide) k) ?_
            refine own_go T0 m 84 #[iv x0, iv x1, iv x2, iv x3, iv x4, iv x5, iv 1, iv 1, iv v8, iv v9, .unset, .unset, .unset, .unset, .unset, .unset] [(.int x4)] (fun t k => XS.iload X0.here hx rfl (hb hby at_82) rfl k) ?_
            refine own_go T0 m 86 #[iv x0, iv x1, iv x2, iv x3, iv x4, iv x5, iv 1, iv 1, iv v8, iv v9, iv x4, .unset, .unset, .unset, .unset, .unset] [] (fun t k => XS.istore X0.here hx rfl (hb hby at_84) rfl rfl k) ?_
            exact seg86 x4
          · refine own_go T0 m 71 #[iv x0, iv x1, iv x2, iv x3, iv x4, iv x5, iv 1, iv 1, iv v8, iv v9, .unset, .unset, .unset, .unset, .unset, .unset] [] (fun t k => XS.ifNo X0.here hx rfl (hb hby at_68) rfl ((if0 _ _).trans (feq hc68_227).1) k) ?_
            refine own_go T0 m 72 #[iv x0, iv x1, iv x2, iv x3, iv x4, iv x5, iv 1, iv 1, iv v8, iv v9, .unset, .unset, .unset, .unset, .unset, .unset] [(.int x3)] (fun t k => XS.iloadN X0.here hx rfl (hb hby at_71) rfl k) ?_
            refine own_go T0 m 74 #[iv x0, iv x1, iv x2, iv x3, iv x4, iv x5, iv 1, iv 1, iv v8, iv v9, .unset, .unset, .unset, .unset, .unset, .unset] [(.int x4), (.int x3)] (fun t k => XS.iload X0.here hx rfl (hb hby at_72) rfl k) ?_
            refine own_go T0 m 75 #[iv x0, iv x1, iv x2, iv x3, iv x4, iv x5, iv 1, iv 1, iv v8, iv v9, .unset, .unset, .unset, .unset, .unset, .unset] [(.int 3), (.int x4), (.int x3)] (fun t k => XS.iconst X0.here hx rfl (hb hby at_74) k) ?_
            refine own_go T0 m 76 #[iv x0, iv x1, iv x2, iv x3, iv x4, iv x5, iv 1, iv 1, iv v8, iv v9, .unset, .unset, .unset, .unset, .unset, .unset] [(.int (x4 &&& (3 : Int32))), (.int x3)] (fun t k => XS.iand X0.here hx rfl (hb hby at_75) rfl k) ?_
            refine own_go T0 m 77 #[iv x0, iv x1, iv x2, iv x3, iv x4, iv x5, iv 1, iv 1, iv v8, iv v9, .unset, .unset, .unset, .unset, .unset, .unset] [(.int 1), (.int (x4 &&& (3 : Int32))), (.int x3)] (fun t k => XS.iconst X0.here hx rfl (hb hby at_76) k) ?_
            refine own_go T0 m 78 #[iv x0, iv x1, iv x2, iv x3, iv x4, iv x5, iv 1, iv 1, iv v8, iv v9, .unset, .unset, .unset, .unset, .unset, .unset] [(.int ((x4 &&& (3 : Int32)) - (1 : Int32))), (.int x3)] (fun t k => XS.isub X0.here hx rfl (hb hby at_77) rfl k) ?_
            refine own_go T0 m 79 #[iv x0, iv x1, iv x2, iv x3, iv x4, iv x5, iv 1, iv 1, iv v8, iv v9, .unset, .unset, .unset, .unset, .unset, .unset] [(.int (x3 + ((x4 &&& (3 : Int32)) - (1 : Int32))))] (fun t k => XS.iadd X0.here hx rfl (hb hby at_78) rfl k) ?_
            refine own_go T0 m 84 #[iv x0, iv x1, iv x2, iv x3, iv x4, iv x5, iv 1, iv 1, iv v8, iv v9, .unset, .unset, .unset, .unset, .unset, .unset] [(.int (x3 + ((x4 &&& (3 : Int32)) - (1 : Int32))))] (fun t k => XS.goto X0.here hx rfl (pc0 := 79) (pc' := 84) rfl (hb hby at_79) (by decide) (by decide) k) ?_
            refine own_go T0 m 86 #[iv x0, iv x1, iv x2, iv x3, iv x4, iv x5, iv 1, iv 1, iv v8, iv v9, iv (x3 + ((x4 &&& (3 : Int32)) - (1 : Int32))), .unset, .unset, .unset, .unset, .unset] [] (fun t k => XS.istore X0.here hx rfl (hb hby at_84) rfl rfl k) ?_
            exact seg86 (x3 + ((x4 &&& (3 : Int32)) - (1 : Int32)))
        by_cases hc47_228 : (x5 &&& (8 : Int32)) = (0 : Int32)
        · refine own_go T0 m 60 #[iv x0, iv x1, iv x2, iv x3, iv x4, iv x5, iv 1, iv 1, iv v8, .unset, .unset, .unset, .unset, .unset, .unset, .unset] [] (fun t k => XS.ifYes X0.here hx rfl (pc0 := 47) (pc' := 60) rfl (hb hby at_47) rfl ((if0 _ _).trans (teq hc47_228).1) (by decide) (by decide) k) ?_
          refine own_go T0 m 61 #[iv x0, iv x1, iv x2, iv x3, iv x4, iv x5, iv 1, iv 1, iv v8, .unset, .unset, .unset, .unset, .unset, .unset, .unset] [(.int x1)] (fun t k => XS.iloadN X0.here hx rfl (hb hby at_60) rfl k) ?_
          refine own_go T0 m 63 #[iv x0, iv x1, iv x2, iv x3, iv x4, iv x5, iv 1, iv 1, iv v8, iv x1, .unset, .unset, .unset, .unset, .unset, .unset] [] (fun t k => XS.istore X0.here hx rfl (hb hby at_61) rfl rfl k) ?_
          exact seg63 x1
        · refine own_go T0 m 50 #[iv x0, iv x1, iv x2, iv x3, iv x4, iv x5, iv 1, iv 1, iv v8, .unset, .unset, .unset, .unset, .unset, .unset, .unset] [] (fun t k => XS.ifNo X0.here hx rfl (hb hby at_47) rfl ((if0 _ _).trans (feq hc47_228).1) k) ?_
          refine own_go T0 m 51 #[iv x0, iv x1, iv x2, iv x3, iv x4, iv x5, iv 1, iv 1, iv v8, .unset, .unset, .unset, .unset, .unset, .unset, .unset] [(.int x0)] (fun t k => XS.iloadN X0.here hx rfl (hb hby at_50) rfl k) ?_
          refine own_go T0 m 52 #[iv x0, iv x1, iv x2, iv x3, iv x4, iv x5, iv 1, iv 1, iv v8, .unset, .unset, .unset, .unset, .unset, .unset, .unset] [(.int x1), (.int x0)] (fun t k => XS.iloadN X0.here hx rfl (hb hby at_51) rfl k) ?_
          refine own_go T0 m 53 #[iv x0, iv x1, iv x2, iv x3, iv x4, iv x5, iv 1, iv 1, iv v8, .unset, .unset, .unset, .unset, .unset, .unset, .unset] [(.int 3), (.int x1), (.int x0)] (fun t k => XS.iconst X0.here hx rfl (hb hby at_52) k) ?_
          refine own_go T0 m 54 #[iv x0, iv x1, iv x2, iv x3, iv x4, iv x5, iv 1, iv 1, iv v8, .unset, .unset, .unset, .unset, .unset, .unset, .unset] [(.int (x1 &&& (3 : Int32))), (.int x0)] (fun t k => XS.iand X0.here hx rfl (hb hby at_53) rfl k) ?_
          refine own_go T0 m 55 #[iv x0, iv x1, iv x2, iv x3, iv x4, iv x5, iv 1, iv 1, iv v8, .unset, .unset, .unset, .unset, .unset, .unset, .unset] [(.int 1), (.int (x1 &&& (3 : Int32))), (.int x0)] (fun t k => XS.iconst X0.here hx rfl (hb hby at_54) k) ?_
          refine own_go T0 m 56 #[iv x0, iv x1, iv x2, iv x3, iv x4, iv x5, iv 1, iv 1, iv v8, .unset, .unset, .unset, .unset, .unset, .unset, .unset] [(.int ((x1 &&& (3 : Int32)) - (1 : Int32))), (.int x0)] (fun t k => XS.isub X0.here hx rfl (hb hby at_55) rfl k) ?_
          refine own_go T0 m 57 #[iv x0, iv x1, iv x2, iv x3, iv x4, iv x5, iv 1, iv 1, iv v8, .unset, .unset, .unset, .unset, .unset, .unset, .unset] [(.int (x0 + ((x1 &&& (3 : Int32)) - (1 : Int32))))] (fun t k => XS.iadd X0.here hx rfl (hb hby at_56) rfl k) ?_
          refine own_go T0 m 61 #[iv x0, iv x1, iv x2, iv x3, iv x4, iv x5, iv 1, iv 1, iv v8, .unset, .unset, .unset, .unset, .unset, .unset, .unset] [(.int (x0 + ((x1 &&& (3 : Int32)) - (1 : Int32))))] (fun t k => XS.goto X0.here hx rfl (pc0 := 57) (pc' := 61) rfl (hb hby at_57) (by decide) (by decide) k) ?_
          refine own_go T0 m 63 #[iv x0, iv x1, iv x2, iv x3, iv x4, iv x5, iv 1, iv 1, iv v8, iv (x0 + ((x1 &&& (3 : Int32)) - (1 : Int32))), .unset, .unset, .unset, .unset, .unset, .unset] [] (fun t k => XS.istore X0.here hx rfl (hb hby at_61) rfl rfl k) ?_
          exact seg63 (x0 + ((x1 &&& (3 : Int32)) - (1 : Int32)))
      by_cases hc32_229 : (x5 &&& (4 : Int32)) = (0 : Int32)
      · refine own_go T0 m 39 #[iv x0, iv x1, iv x2, iv x3, iv x4, iv x5, iv 1, iv 1, .unset, .unset, .unset, .unset, .unset, .unset, .unset, .unset] [] (fun t k => XS.ifYes X0.here hx rfl (pc0 := 32) (pc' := 39) rfl (hb hby at_32) rfl ((if0 _ _).trans (teq hc32_229).1) (by decide) (by decide) k) ?_
        refine own_go T0 m 40 #[iv x0, iv x1, iv x2, iv x3, iv x4, iv x5, iv 1, iv 1, .unset, .unset, .unset, .unset, .unset, .unset, .unset, .unset] [(.int x2)] (fun t k => XS.iloadN X0.here hx rfl (hb hby at_39) rfl k) ?_
        refine own_go T0 m 42 #[iv x0, iv x1, iv x2, iv x3, iv x4, iv x5, iv 1, iv 1, iv x2, .unset, .unset, .unset, .unset, .unset, .unset, .unset] [] (fun t k => XS.istore X0.here hx rfl (hb hby at_40) rfl rfl k) ?_
        exact seg42 x2
      · refine own_go T0 m 35 #[iv x0, iv x1, iv x2, iv x3, iv x4, iv x5, iv 1, iv 1, .unset, .unset, .unset, .unset, .unset, .unset, .unset, .unset] [] (fun t k => XS.ifNo X0.here hx rfl (hb hby at_32) rfl ((if0 _ _).trans (feq hc32_229).1) k) ?_
        refine own_go T0 m 36 #[iv x0, iv x1, iv x2, iv x3, iv x4, iv x5, iv 1, iv 1, .unset, .unset, .unset, .unset, .unset, .unset, .unset, .unset] [(.int x0)] (fun t k => XS.iloadN X0.here hx rfl (hb hby at_35) rfl k) ?_
        refine own_go T0 m 40 #[iv x0, iv x1, iv x2, iv x3, iv x4, iv x5, iv 1, iv 1, .unset, .unset, .unset, .unset, .unset, .unset, .unset, .unset] [(.int x0)] (fun t k => XS.goto X0.here hx rfl (pc0 := 36) (pc' := 40) rfl (hb hby at_36) (by decide) (by decide) k) ?_
        refine own_go T0 m 42 #[iv x0, iv x1, iv x2, iv x3, iv x4, iv x5, iv 1, iv 1, iv x0, .unset, .unset, .unset, .unset, .unset, .unset, .unset] [] (fun t k => XS.istore X0.here hx rfl (hb hby at_40) rfl rfl k) ?_
        exact seg42 x0
set_option maxRecDepth 65536 in
set_option maxHeartbeats 40000000 in
theorem comes_1 {Post : Tables → Env → Array Value → State → Outcome → State → Prop} (hpost : ∀ tb e args s v u, (limb_1_1.after args s (.returned v) u = true ∧ limb_1_2.after args s (.returned v) u = true ∧ True) → FrameEnd s (.returned v) u (Jvm.fieldLocs frame_1_writes args s ++ Jvm.arrayLocs frame_1_arrays args s ++ Jvm.staticLocs frame_1_statics s) 24 192 → Post tb e args s (.returned v) u) :
    ArmFor flags0 classFile x code maxLocals ret World_1 tables_1 room_1 Calls_1 rest_1 Pre_1 Post := by
  intro l hfl _ _ p e ha hc hk s m args below hf hA hF happ hP
  obtain ⟨hcalls, hrest, hpre⟩ := hP
  obtain ⟨-, -, -, hnamed, -, -, -, hat⟩ := (Spec.applies_iff hf).mp happ
  obtain ⟨hg, hn⟩ := and_e (Cond.before_iff.mp (show (Jvm.Cond.and given_1 narrow_1).before args s = true from hpre))
  obtain ⟨gg1, gg2⟩ := and_e hg
  obtain ⟨gg3, gg4⟩ := and_e gg2
  obtain ⟨gg5, gg6⟩ := and_e gg4
  obtain ⟨gg7, gg8⟩ := and_e gg6
  obtain ⟨gg9, gg10⟩ := and_e gg8
  obtain ⟨gg11, gg12⟩ := and_e gg10
  obtain ⟨w0, w1, w2, w3, w4, w5, rfl⟩ : ∃ w0 w1 w2 w3 w4 w5 : Value, args = #[w0, w1, w2, w3, w4, w5] := by
    have hs : args.size = 6 := by simpa [Cond.value, given_1] using gg1
    obtain ⟨L⟩ := args
    match L, hs with
    | [w0, w1, w2, w3, w4, w5], _ => exact ⟨w0, w1, w2, w3, w4, w5, rfl⟩
  have hw := fun d (hd : d ∈ tables_1) => atoms_spec (ws := Jvm.Cond.code x code maxLocals ret :: tables_1) hat d (List.mem_cons_of_mem _ hd)
  have hfit : Fit s := fun {y c} hc i hi => by
    obtain ⟨ha, rfl⟩ := Array.getElem?_eq_some_iff.mp hc
    have q := List.all_eq_true.mp ((Array.all_eq_true_iff_forall_mem.mp hF) _ (Array.getElem_mem ha)) i (List.mem_range.mpr hi)
    simpa [Array.getElem?_eq_getElem hi] using q
  obtain ⟨i0, ei0⟩ := is_v gg3
  obtain rfl : w0 = (.int i0) := Option.some.inj ei0
  obtain ⟨i1, ei1⟩ := is_v gg5
  obtain rfl : w1 = (.int i1) := Option.some.inj ei1
  obtain ⟨i2, ei2⟩ := is_v gg7
  obtain rfl : w2 = (.int i2) := Option.some.inj ei2
  obtain ⟨i3, ei3⟩ := is_v gg9
  obtain rfl : w3 = (.int i3) := Option.some.inj ei3
  obtain ⟨i4, ei4⟩ := is_v gg11
  obtain rfl : w4 = (.int i4) := Option.some.inj ei4
  obtain ⟨i5, ei5⟩ := is_v gg12
  obtain rfl : w5 = (.int i5) := Option.some.inj ei5
  obtain ⟨n, o, h1, h2, h3, _, L, rfl, ⟨rfl, N⟩, hq⟩ := rm0 l s _ hw tables_1 i0 i1 i2 i3 i4 i5 s.heap s.heap.size (Nat.le_refl _) p e ha hc hk s m _ below hf ((Spec.applies_iff_loose hf).mp happ).1 ⟨rfl, State.Warmed39.refl s, rfl⟩ trivial
  refine ⟨n, _, h1, h2, h3, hpost _ _ _ _ _ _ ⟨Cond.after_iff.mpr rfl, Cond.after_iff.mpr (eq_i res_at (Term.int_eval (1)) rfl), trivial⟩ ⟨hq.1, hq.2.1, (hq.2.2.sift fun y hy => Or.inr (N y hy)).mono (by decide) (by decide)⟩⟩
theorem main_1_1 : Claimed_1_1 := comes_1 fun _ _ _ _ _ _ h hF => ⟨h.1, hF⟩
theorem main_1_2 : Claimed_1_2 := comes_1 fun _ _ _ _ _ _ h hF => ⟨h.2.1, hF⟩
end Jvm.Pilot.@@N@@
namespace Jvm.Pilot.@@N@@
open Jvm Jvm.ClassFile Sem Op Lib Jvm.Free Jvm.Stand Jvm.Pilot.@@N@@.Jvm.D
/-! MADE BY PROGRAM (witnessworld.py) out of the Statement's table words and the real class files: 10 classes; the members and pool entries that the words name. The judged class is class 1, her method 1. -/
namespace start1
open Jvm.ClassFile
def u (s : String) : CpInfo := .utf8 (stringToUtf16 s)
/-- a pool by its gaps: so many unusable entries, then the entry; so many at the end -/
def gap : Nat → List CpInfo → List CpInfo
  | 0, r => r
  | n + 1, r => .unusable :: gap n r
def poolList (es : List (Nat × CpInfo)) (last : Nat) : List CpInfo := es.foldr (fun e r => gap e.1 (e.2 :: r)) (gap last [])
def pool (es : List (Nat × CpInfo)) (last : Nat) : Array CpInfo := ⟨poolList es last⟩
def fileOf (pool : Array CpInfo) (this : Nat) (attrs : Array Attribute := #[]) (ms : Array MethodInfo := #[]) (fl : Nat := 33) (sup : Nat := 0) (ifs : Array Nat := #[]) (fds : Array FieldInfo := #[]) : ClassFile where
  minorVersion := 0
  majorVersion := 65
  constantPool := pool
  accessFlags := fl
  thisClass := this
  superClass := sup
  interfaces := ifs
  fields := fds
  methods := ms
  attributes := attrs
def plain (name : String) (sup : Option ClassId) : Class where
  name := name
  kind := .ordinary
  loader := none
  accessFlags := 33
  super := sup
  interfaces := #[]
  cf := none
  fields := #[]
  methods := #[]
  instanceTypes := #[]
  staticTypes := #[]
  resolved := #[]
  callSites := []
  init := .initialized
  statics := none
  mirror := none

def pool0 : Array CpInfo := pool [(5, u "<init>"), (0, u "()V"), (1, .class_ 10), (1, u "java/lang/Object")] 113

def k0c0 : Code := { maxStack := 0, maxLocals := 1, code := object_method_1_code, exceptionTable := #[], attributes := #[] }
def k0m0 : Method := { name := "<init>", desc := "()V", sig := { parameters := [], returnType := none }, accessFlags := 1, code := some k0c0 }
/-- java/lang/Object -/
def k0 : Class := { plain "java/lang/Object" none with
  accessFlags := 33
  interfaces := #[]
  cf := some (fileOf pool0 8 #[] #[{ accessFlags := 1, nameIndex := 5, descriptorIndex := 6, attributes := #[] }] 33 0 #[] #[])
  fields := #[]
  methods := #[k0m0]
  instanceTypes := #[]
  staticTypes := #[]
  resolved := Array.replicate 124 none
  statics := none }

def pool1 : Array CpInfo := pool [(2, .class_ 4), (0, .nameAndType 5 6), (0, u "java/lang/Object"), (0, u "<init>"), (0, u "()V"), (0, .class_ 8), (0, u "com/example/wirelens/wirelens/wire/GroupEnds"), (0, .methodref 7 3), (0, .methodref 7 11), (0, .nameAndType 12 13), (0, u "beginRead"), (0, u "(I)V"), (0, .methodref 7 15), (0, .nameAndType 16 17), (0, u "opened"), (0, u "(I)I"), (0, .methodref 7 19), (0, .nameAndType 20 13), (0, u "endRead"), (0, .methodref 7 22), (0, .nameAndType 23 24), (0, u "find"), (0, u "(II)I"), (0, .class_ 26), (0, u "com/example/wirelens/wirelens/wire/GroupEndsEndReadPinLaw"), (2, u "law"), (0, u "(IIIIII)Z")] 3

def k1m0 : Method := { name := "<init>", desc := "()V", sig := { parameters := [], returnType := none }, accessFlags := 1, code := none }
def k1c1 : Code := { maxStack := 3, maxLocals := 16, code := code, exceptionTable := #[], attributes := #[] }
def k1m1 : Method := { name := "law", desc := "(IIIIII)Z", sig := { parameters := [.int, .int, .int, .int, .int, .int], returnType := some .boolean }, accessFlags := 9, code := some k1c1 }
/-- com/example/wirelens/wirelens/wire/GroupEndsEndReadPinLaw -/
def k1 : Class := { plain "com/example/wirelens/wirelens/wire/GroupEndsEndReadPinLaw" (some 0) with
  accessFlags := 49
  interfaces := #[]
  cf := some (fileOf pool1 25 #[] #[{ accessFlags := 1, nameIndex := 5, descriptorIndex := 6, attributes := #[] }, { accessFlags := 9, nameIndex := 29, descriptorIndex := 30, attributes := #[] }] 49 2 #[] #[])
  fields := #[]
  methods := #[k1m0, k1m1]
  instanceTypes := #[]
  staticTypes := #[]
  resolved := Array.replicate 34 none
  statics := none }

def pool2 : Array CpInfo := pool [(1, .methodref 2 3), (0, .class_ 4), (0, .nameAndType 5 6), (0, u "java/lang/Object"), (0, u "<init>"), (0, u "()V"), (0, .class_ 8), (0, u "com/example/wirelens/wirelens/wire/GroupEnds"), (0, .fieldref 7 10), (0, .nameAndType 11 12), (0, u "starts"), (0, u "[I"), (0, .fieldref 7 14), (0, .nameAndType 15 12), (0, u "ends"), (0, .fieldref 7 17), (0, .nameAndType 18 12), (0, u "segmentFirst"), (0, .fieldref 7 20), (0, .nameAndType 21 12), (0, u "segmentEnd"), (0, .fieldref 7 23), (0, .nameAndType 24 12), (0, u "segmentLimit"), (0, .fieldref 7 26), (0, .nameAndType 27 28), (0, u "cursor"), (0, u "I"), (0, .fieldref 7 30), (0, .nameAndType 31 28), (0, u "segments"), (0, .methodref 7 33), (0, .nameAndType 34 35), (0, u "newestCovers"), (0, u "(I)Z"), (0, .fieldref 7 37), (0, .nameAndType 38 28), (0, u "count"), (0, .methodref 7 40), (0, .nameAndType 41 42), (0, u "search"), (0, u "(I)I"), (0, .methodref 44 45), (0, .class_ 46), (0, .nameAndType 47 48), (0, u "java/util/Arrays"), (0, u "binarySearch"), (0, u "([IIII)I"), (4, .fieldref 7 54), (0, .nameAndType 55 28), (0, u "lastOpened"), (0, u "UNKNOWN"), (2, u "NOT_CLOSED"), (1, u "SMALL"), (1, u "FIRST_SIZE"), (3, u "find"), (0, u "(II)I"), (1, u "beginRead"), (0, u "(I)V"), (0, u "opened"), (2, u "endRead")] 2

def k2c0 : Code := { maxStack := 2, maxLocals := 1, code := prog_48_method_1_code, exceptionTable := #[], attributes := #[] }
def k2m0 : Method := { name := "<init>", desc := "()V", sig := { parameters := [], returnType := none }, accessFlags := 0, code := some k2c0 }
def k2c1 : Code := { maxStack := 4, maxLocals := 5, code := prog_48_method_2_code, exceptionTable := #[], attributes := #[] }
def k2m1 : Method := { name := "find", desc := "(II)I", sig := { parameters := [.int, .int], returnType := some .int }, accessFlags := 0, code := some k2c1 }
def k2c2 : Code := { maxStack := 4, maxLocals := 3, code := prog_48_method_3_code, exceptionTable := #[], attributes := #[] }
def k2m2 : Method := { name := "newestCovers", desc := "(I)Z", sig := { parameters := [.int], returnType := some .boolean }, accessFlags := 2, code := some k2c2 }
def k2c3 : Code := { maxStack := 4, maxLocals := 4, code := prog_48_method_4_code, exceptionTable := #[], attributes := #[] }
def k2m3 : Method := { name := "search", desc := "(I)I", sig := { parameters := [.int], returnType := some .int }, accessFlags := 2, code := some k2c3 }
def k2c4 : Code := { maxStack := 4, maxLocals := 2, code := prog_48_method_5_code, exceptionTable := #[], attributes := #[] }
def k2m4 : Method := { name := "beginRead", desc := "(I)V", sig := { parameters := [.int], returnType := none }, accessFlags := 0, code := some k2c4 }
def k2c5 : Code := { maxStack := 4, maxLocals := 2, code := prog_48_method_6_code, exceptionTable := #[], attributes := #[] }
def k2m5 : Method := { name := "opened", desc := "(I)I", sig := { parameters := [.int], returnType := some .int }, accessFlags := 0, code := some k2c5 }
def k2c6 : Code := { maxStack := 3, maxLocals := 3, code := prog_48_method_8_code, exceptionTable := #[], attributes := #[] }
def k2m6 : Method := { name := "endRead", desc := "(I)V", sig := { parameters := [.int], returnType := none }, accessFlags := 0, code := some k2c6 }
/-- com/example/wirelens/wirelens/wire/GroupEnds -/
def k2 : Class := { plain "com/example/wirelens/wirelens/wire/GroupEnds" (some 0) with
  accessFlags := 48
  interfaces := #[]
  cf := some (fileOf pool2 7 #[] #[{ accessFlags := 0, nameIndex := 5, descriptorIndex := 6, attributes := #[] }, { accessFlags := 0, nameIndex := 67, descriptorIndex := 68, attributes := #[] }, { accessFlags := 2, nameIndex := 34, descriptorIndex := 35, attributes := #[] }, { accessFlags := 2, nameIndex := 41, descriptorIndex := 42, attributes := #[] }, { accessFlags := 0, nameIndex := 70, descriptorIndex := 71, attributes := #[] }, { accessFlags := 0, nameIndex := 72, descriptorIndex := 42, attributes := #[] }, { accessFlags := 0, nameIndex := 75, descriptorIndex := 71, attributes := #[] }] 48 2 #[] #[{ accessFlags := 24, nameIndex := 56, descriptorIndex := 28, attributes := #[] }, { accessFlags := 24, nameIndex := 59, descriptorIndex := 28, attributes := #[] }, { accessFlags := 26, nameIndex := 61, descriptorIndex := 28, attributes := #[] }, { accessFlags := 26, nameIndex := 63, descriptorIndex := 28, attributes := #[] }, { accessFlags := 2, nameIndex := 11, descriptorIndex := 12, attributes := #[] }, { accessFlags := 2, nameIndex := 15, descriptorIndex := 12, attributes := #[] }, { accessFlags := 2, nameIndex := 38, descriptorIndex := 28, attributes := #[] }, { accessFlags := 2, nameIndex := 55, descriptorIndex := 28, attributes := #[] }, { accessFlags := 2, nameIndex := 18, descriptorIndex := 12, attributes := #[] }, { accessFlags := 2, nameIndex := 21, descriptorIndex := 12, attributes := #[] }, { accessFlags := 2, nameIndex := 24, descriptorIndex := 12, attributes := #[] }, { accessFlags := 2, nameIndex := 31, descriptorIndex := 28, attributes := #[] }, { accessFlags := 2, nameIndex := 27, descriptorIndex := 28, attributes := #[] }])
  fields := #[{ name := "UNKNOWN", type := .int, accessFlags := 24, slot := 0, constantValue := 0 }, { name := "NOT_CLOSED", type := .int, accessFlags := 24, slot := 1, constantValue := 0 }, { name := "SMALL", type := .int, accessFlags := 26, slot := 2, constantValue := 0 }, { name := "FIRST_SIZE", type := .int, accessFlags := 26, slot := 3, constantValue := 0 }, { name := "starts", type := (.array .int), accessFlags := 2, slot := 0, constantValue := 0 }, { name := "ends", type := (.array .int), accessFlags := 2, slot := 1, constantValue := 0 }, { name := "count", type := .int, accessFlags := 2, slot := 2, constantValue := 0 }, { name := "lastOpened", type := .int, accessFlags := 2, slot := 3, constantValue := 0 }, { name := "segmentFirst", type := (.array .int), accessFlags := 2, slot := 4, constantValue := 0 }, { name := "segmentEnd", type := (.array .int), accessFlags := 2, slot := 5, constantValue := 0 }, { name := "segmentLimit", type := (.array .int), accessFlags := 2, slot := 6, constantValue := 0 }, { name := "segments", type := .int, accessFlags := 2, slot := 7, constantValue := 0 }, { name := "cursor", type := .int, accessFlags := 2, slot := 8, constantValue := 0 }]
  methods := #[k2m0, k2m1, k2m2, k2m3, k2m4, k2m5, k2m6]
  instanceTypes := #[(.array .int), (.array .int), .int, .int, (.array .int), (.array .int), (.array .int), .int, .int]
  staticTypes := #[.int, .int, .int, .int]
  resolved := Array.replicate 78 none
  statics := none }

def pool3 : Array CpInfo := pool [(2, .class_ 4), (1, u "java/lang/Object"), (0, u "<init>"), (0, u "()V"), (6, .methodref 14 15), (0, .class_ 16), (0, .nameAndType 17 18), (0, u "java/util/Arrays"), (0, u "rangeCheck"), (0, u "(III)V"), (55, .class_ 76), (1, u "java/util/Arrays$NaturalOrder"), (36, .class_ 115), (1, u "java/util/Arrays$LegacyMergeSort"), (1, u "Z"), (89, u "binarySearch0"), (1, .methodref 14 210), (0, .nameAndType 207 211), (0, u "([IIII)I"), (163, .class_ 376), (0, u "java/util/Arrays$ArrayList"), (68, u "$assertionsDisabled"), (269, u "MIN_ARRAY_SORT_GRAN"), (0, u "I"), (2, u "INSERTIONSORT_THRESHOLD"), (74, u "binarySearch"), (180, .class_ 976), (0, u "java/util/Arrays$ArrayItr")] 52

def k3m0 : Method := { name := "<init>", desc := "()V", sig := { parameters := [], returnType := none }, accessFlags := 2, code := none }
def k3c1 : Code := { maxStack := 4, maxLocals := 3, code := jdk_65_method_30_code, exceptionTable := #[], attributes := #[] }
def k3m1 : Method := { name := "rangeCheck", desc := "(III)V", sig := { parameters := [.int, .int, .int], returnType := none }, accessFlags := 8, code := some k3c1 }
def k3c2 : Code := { maxStack := 4, maxLocals := 4, code := jdk_65_method_58_code, exceptionTable := #[], attributes := #[] }
def k3m2 : Method := { name := "binarySearch", desc := "([IIII)I", sig := { parameters := [(.array .int), .int, .int, .int], returnType := some .int }, accessFlags := 9, code := some k3c2 }
def k3c3 : Code := { maxStack := 2, maxLocals := 8, code := jdk_65_method_59_code, exceptionTable := #[], attributes := #[] }
def k3m3 : Method := { name := "binarySearch0", desc := "([IIII)I", sig := { parameters := [(.array .int), .int, .int, .int], returnType := some .int }, accessFlags := 10, code := some k3c3 }
/-- java/util/Arrays -/
def k3 : Class := { plain "java/util/Arrays" (some 0) with
  accessFlags := 49
  interfaces := #[]
  cf := some (fileOf pool3 14 #[.nestMembers #[975, 375, 113, 74]] #[{ accessFlags := 2, nameIndex := 5, descriptorIndex := 6, attributes := #[] }, { accessFlags := 8, nameIndex := 17, descriptorIndex := 18, attributes := #[] }, { accessFlags := 9, nameIndex := 794, descriptorIndex := 211, attributes := #[] }, { accessFlags := 10, nameIndex := 207, descriptorIndex := 211, attributes := #[] }] 49 2 #[] #[{ accessFlags := 26, nameIndex := 715, descriptorIndex := 716, attributes := #[] }, { accessFlags := 26, nameIndex := 719, descriptorIndex := 716, attributes := #[] }, { accessFlags := 4120, nameIndex := 445, descriptorIndex := 117, attributes := #[] }])
  fields := #[{ name := "MIN_ARRAY_SORT_GRAN", type := .int, accessFlags := 26, slot := 0, constantValue := 0 }, { name := "INSERTIONSORT_THRESHOLD", type := .int, accessFlags := 26, slot := 1, constantValue := 0 }, { name := "$assertionsDisabled", type := .boolean, accessFlags := 4120, slot := 2, constantValue := 0 }]
  methods := #[k3m0, k3m1, k3m2, k3m3]
  instanceTypes := #[]
  staticTypes := #[.int, .int, .boolean]
  resolved := Array.replicate 1029 none
  statics := none }

def pool4 : Array CpInfo := pool [(1, u "java/lang/Cloneable"), (0, .class_ 1), (0, u "java/lang/Object"), (0, .class_ 3)] 3

/-- java/lang/Cloneable -/
def k4 : Class := { plain "java/lang/Cloneable" (some 0) with
  accessFlags := 1537
  interfaces := #[]
  cf := some (fileOf pool4 2 #[] #[] 1537 4 #[] #[])
  fields := #[]
  methods := #[]
  instanceTypes := #[]
  staticTypes := #[]
  resolved := Array.replicate 8 none
  statics := none }

def pool5 : Array CpInfo := pool [(1, u "java/io/Serializable"), (0, .class_ 1), (0, u "java/lang/Object"), (0, .class_ 3)] 3

/-- java/io/Serializable -/
def k5 : Class := { plain "java/io/Serializable" (some 0) with
  accessFlags := 1537
  interfaces := #[]
  cf := some (fileOf pool5 2 #[] #[] 1537 4 #[] #[])
  fields := #[]
  methods := #[]
  instanceTypes := #[]
  staticTypes := #[]
  resolved := Array.replicate 8 none
  statics := none }

/-- the primitive byte -/
def k6 : Class := { plain "byte" none with kind := .primitive 'B', accessFlags := 0x411 }
/-- [B -/
def k7 : Class := { plain "[B" (some 0) with kind := .array 6 .byte, interfaces := #[4, 5], accessFlags := 1041 }

/-- the primitive int -/
def k8 : Class := { plain "int" none with kind := .primitive 'I', accessFlags := 0x411 }
/-- [I -/
def k9 : Class := { plain "[I" (some 0) with kind := .array 8 .int, interfaces := #[4, 5], accessFlags := 1041 }

def heap : Heap := #[]
def classes : Array Class := #[k0, k1, k2, k3, k4, k5, k6, k7, k8, k9]
def interned : List (Array UInt16 × Addr) := []
def slotsUsed : Nat := 0
def theMethod : MethodId := ⟨1, 1⟩
def args0 : Array Value := #[.int 0, .int 0, .int 0, .int 0, .int 0, .int 0]
def aboutOver (below : List Frame) : State where
  vm := { classes := classes, interned := interned.toArray }
  heap := heap
  slotsUsed := slotsUsed
  threads := #[{ frames := .invoking theMethod args0 :: below }]
def below0 : List Frame := [.native { method := ⟨0, 0⟩, args := #[] }]
def about1 : State := aboutOver below0
def p0 : Program := .bare "" "" ""
def e0 : Env := launch0.env 0 0 0
theorem w_frames : about1.frames = Frame.invoking theMethod args0 :: below0 := rfl
set_option maxRecDepth 65536 in
theorem w_args : argsFit about1.vm theMethod args0 = true := by decide +kernel
set_option maxRecDepth 65536 in
theorem w_heap : heapFits about1 = true := by decide +kernel
set_option maxRecDepth 65536 in
theorem w_runnable : about1.curStatus? = some .runnable := by decide +kernel
set_option maxRecDepth 65536 in
theorem w_alone : about1.alone = true := by decide +kernel
set_option maxRecDepth 65536 in
theorem w_named : about1.methodNamed? x = some theMethod := by decide +kernel
set_option maxRecDepth 65536 in
theorem w_hears : about1.hears theMethod below0 = true := by decide +kernel
set_option maxRecDepth 65536 in
theorem w_ripe : about1.ripe theMethod args0 below0 = true := by decide +kernel
theorem w_running : about1.status = .running := rfl
set_option maxRecDepth 65536 in
theorem w_room : about1.hasRoom e0.platform room_1 = true :=
  launch0.hasRoom_least _ room_1 (by decide +kernel) (by decide +kernel) (by decide +kernel) (by decide +kernel) (by decide +kernel) (by decide +kernel)
theorem allAtoms_all (ts : List Jvm.Cond) (a : Array Jvm.Value) (st : Jvm.State) : (allAtoms ts).before a st = ts.all (fun c => c.before a st) := by
  induction ts with
  | nil => rfl
  | cons c t ih =>
    show (Jvm.Cond.and c (allAtoms t)).before a st = _
    rw [Jvm.Cond.before_and, ih, List.all_cons]
def words1 : List Jvm.Cond := Jvm.Cond.code x code maxLocals ret :: tables_1
/-- a 'code' word, met by the world's own term for the bytes: nothing is compared byte by byte -/
theorem code_word {y : MethodName} {bytes : ByteArray} {mx : Nat} {rt : Option FieldType} {a : Array Value} {s : State} {m : MethodId} {meth : Method} {c : Code} (h1 : s.methodNamed? y = some m) (h2 : s.vm.method? m = some meth) (h3 : meth.code = some c) (h4 : c.code = bytes)
    (h5 : (c.maxLocals == mx && c.exceptionTable.isEmpty && decide (c.maxStack ≤ mostOperands) && decide (meth.sig.returnType = rt) && !meth.locks && decide (parseMethodDescriptor y.desc = some meth.sig)) = true) : (Jvm.Cond.code y bytes mx rt).before a s = true := by
  simp only [Bool.and_eq_true, beq_iff_eq, Bool.not_eq_true', decide_eq_true_eq] at h5
  obtain ⟨⟨⟨⟨⟨g1, g2⟩, g3⟩, g4⟩, g5⟩, g6⟩ := h5
  simp [Cond.before, Cond.holds, Cond.value, h1, h2, h3, h4, g1, g2, g3, g4, g5, g6]
def isCode : Jvm.Cond → Bool
  | .code _ _ _ _ => true
  | _ => false
theorem all_split {L : List Jvm.Cond} {P : Jvm.Cond → Bool} (h1 : L.all (fun c => isCode c || P c) = true) (h2 : ∀ c ∈ L.filter isCode, P c = true) : L.all P = true := by
  refine List.all_eq_true.mpr fun c hc => ?_
  have h := List.all_eq_true.mp h1 c hc
  rcases Bool.eq_false_or_eq_true (isCode c) with hi | hi
  · exact h2 c (List.mem_filter.mpr ⟨hc, hi⟩)
  · simpa [hi] using h
set_option maxRecDepth 65536 in
theorem w_c0 : (Jvm.Cond.code x code maxLocals ret).before args0 about1 = true := code_word (m := ⟨1, 1⟩) (meth := k1m1) (c := k1c1) (by decide +kernel) rfl rfl rfl (by decide +kernel)
set_option maxRecDepth 65536 in
theorem w_c1 : (Jvm.Cond.code ({ cls := "com/example/wirelens/wirelens/wire/GroupEnds", name := "<init>", desc := "()V" } : Jvm.MethodName) prog_48_method_1_code (1 : Nat) (Option.none : Option Jvm.ClassFile.FieldType)).before args0 about1 = true := code_word (m := ⟨2, 0⟩) (meth := k2m0) (c := k2c0) (by decide +kernel) rfl rfl rfl (by decide +kernel)
set_option maxRecDepth 65536 in
theorem w_c2 : (Jvm.Cond.code ({ cls := "java/lang/Object", name := "<init>", desc := "()V" } : Jvm.MethodName) object_method_1_code (1 : Nat) (Option.none : Option Jvm.ClassFile.FieldType)).before args0 about1 = true := code_word (m := ⟨0, 0⟩) (meth := k0m0) (c := k0c0) (by decide +kernel) rfl rfl rfl (by decide +kernel)
set_option maxRecDepth 65536 in
theorem w_c3 : (Jvm.Cond.code ({ cls := "com/example/wirelens/wirelens/wire/GroupEnds", name := "beginRead", desc := "(I)V" } : Jvm.MethodName) prog_48_method_5_code (2 : Nat) (Option.none : Option Jvm.ClassFile.FieldType)).before args0 about1 = true := code_word (m := ⟨2, 4⟩) (meth := k2m4) (c := k2c4) (by decide +kernel) rfl rfl rfl (by decide +kernel)
set_option maxRecDepth 65536 in
theorem w_c4 : (Jvm.Cond.code ({ cls := "com/example/wirelens/wirelens/wire/GroupEnds", name := "opened", desc := "(I)I" } : Jvm.MethodName) prog_48_method_6_code (2 : Nat) (Option.some Jvm.ClassFile.FieldType.int)).before args0 about1 = true := code_word (m := ⟨2, 5⟩) (meth := k2m5) (c := k2c5) (by decide +kernel) rfl rfl rfl (by decide +kernel)
set_option maxRecDepth 65536 in
theorem w_c5 : (Jvm.Cond.code ({ cls := "com/example/wirelens/wirelens/wire/GroupEnds", name := "endRead", desc := "(I)V" } : Jvm.MethodName) prog_48_method_8_code (3 : Nat) (Option.none : Option Jvm.ClassFile.FieldType)).before args0 about1 = true := code_word (m := ⟨2, 6⟩) (meth := k2m6) (c := k2c6) (by decide +kernel) rfl rfl rfl (by decide +kernel)
set_option maxRecDepth 65536 in
theorem w_c6 : (Jvm.Cond.code ({ cls := "com/example/wirelens/wirelens/wire/GroupEnds", name := "find", desc := "(II)I" } : Jvm.MethodName) prog_48_method_2_code (5 : Nat) (Option.some Jvm.ClassFile.FieldType.int)).before args0 about1 = true := code_word (m := ⟨2, 1⟩) (meth := k2m1) (c := k2c1) (by decide +kernel) rfl rfl rfl (by decide +kernel)
set_option maxRecDepth 65536 in
theorem w_c7 : (Jvm.Cond.code ({ cls := "com/example/wirelens/wirelens/wire/GroupEnds", name := "newestCovers", desc := "(I)Z" } : Jvm.MethodName) prog_48_method_3_code (3 : Nat) (Option.some Jvm.ClassFile.FieldType.boolean)).before args0 about1 = true := code_word (m := ⟨2, 2⟩) (meth := k2m2) (c := k2c2) (by decide +kernel) rfl rfl rfl (by decide +kernel)
set_option maxRecDepth 65536 in
theorem w_c8 : (Jvm.Cond.code ({ cls := "com/example/wirelens/wirelens/wire/GroupEnds", name := "search", desc := "(I)I" } : Jvm.MethodName) prog_48_method_4_code (4 : Nat) (Option.some Jvm.ClassFile.FieldType.int)).before args0 about1 = true := code_word (m := ⟨2, 3⟩) (meth := k2m3) (c := k2c3) (by decide +kernel) rfl rfl rfl (by decide +kernel)
set_option maxRecDepth 65536 in
theorem w_c9 : (Jvm.Cond.code ({ cls := "java/util/Arrays", name := "binarySearch", desc := "([IIII)I" } : Jvm.MethodName) jdk_65_method_58_code (4 : Nat) (Option.some Jvm.ClassFile.FieldType.int)).before args0 about1 = true := code_word (m := ⟨3, 2⟩) (meth := k3m2) (c := k3c2) (by decide +kernel) rfl rfl rfl (by decide +kernel)
set_option maxRecDepth 65536 in
theorem w_c10 : (Jvm.Cond.code ({ cls := "java/util/Arrays", name := "rangeCheck", desc := "(III)V" } : Jvm.MethodName) jdk_65_method_30_code (3 : Nat) (Option.none : Option Jvm.ClassFile.FieldType)).before args0 about1 = true := code_word (m := ⟨3, 1⟩) (meth := k3m1) (c := k3c1) (by decide +kernel) rfl rfl rfl (by decide +kernel)
set_option maxRecDepth 65536 in
theorem w_c11 : (Jvm.Cond.code ({ cls := "java/util/Arrays", name := "binarySearch0", desc := "([IIII)I" } : Jvm.MethodName) jdk_65_method_59_code (8 : Nat) (Option.some Jvm.ClassFile.FieldType.int)).before args0 about1 = true := code_word (m := ⟨3, 3⟩) (meth := k3m3) (c := k3c3) (by decide +kernel) rfl rfl rfl (by decide +kernel)
def codes1 : List Jvm.Cond := [Jvm.Cond.code x code maxLocals ret, Jvm.Cond.code ({ cls := "com/example/wirelens/wirelens/wire/GroupEnds", name := "<init>", desc := "()V" } : Jvm.MethodName) prog_48_method_1_code (1 : Nat) (Option.none : Option Jvm.ClassFile.FieldType), Jvm.Cond.code ({ cls := "java/lang/Object", name := "<init>", desc := "()V" } : Jvm.MethodName) object_method_1_code (1 : Nat) (Option.none : Option Jvm.ClassFile.FieldType), Jvm.Cond.code ({ cls := "com/example/wirelens/wirelens/wire/GroupEnds", name := "beginRead", desc := "(I)V" } : Jvm.MethodName) prog_48_method_5_code (2 : Nat) (Option.none : Option Jvm.ClassFile.FieldType), Jvm.Cond.code ({ cls := "com/example/wirelens/wirelens/wire/GroupEnds", name := "opened", desc := "(I)I" } : Jvm.MethodName) prog_48_method_6_code (2 : Nat) (Option.some Jvm.ClassFile.FieldType.int), Jvm.Cond.code ({ cls := "com/example/wirelens/wirelens/wire/GroupEnds", name := "endRead", desc := "(I)V" } : Jvm.MethodName) prog_48_method_8_code (3 : Nat) (Option.none : Option Jvm.ClassFile.FieldType), Jvm.Cond.code ({ cls := "com/example/wirelens/wirelens/wire/GroupEnds", name := "find", desc := "(II)I" } : Jvm.MethodName) prog_48_method_2_code (5 : Nat) (Option.some Jvm.ClassFile.FieldType.int), Jvm.Cond.code ({ cls := "com/example/wirelens/wirelens/wire/GroupEnds", name := "newestCovers", desc := "(I)Z" } : Jvm.MethodName) prog_48_method_3_code (3 : Nat) (Option.some Jvm.ClassFile.FieldType.boolean), Jvm.Cond.code ({ cls := "com/example/wirelens/wirelens/wire/GroupEnds", name := "search", desc := "(I)I" } : Jvm.MethodName) prog_48_method_4_code (4 : Nat) (Option.some Jvm.ClassFile.FieldType.int), Jvm.Cond.code ({ cls := "java/util/Arrays", name := "binarySearch", desc := "([IIII)I" } : Jvm.MethodName) jdk_65_method_58_code (4 : Nat) (Option.some Jvm.ClassFile.FieldType.int), Jvm.Cond.code ({ cls := "java/util/Arrays", name := "rangeCheck", desc := "(III)V" } : Jvm.MethodName) jdk_65_method_30_code (3 : Nat) (Option.none : Option Jvm.ClassFile.FieldType), Jvm.Cond.code ({ cls := "java/util/Arrays", name := "binarySearch0", desc := "([IIII)I" } : Jvm.MethodName) jdk_65_method_59_code (8 : Nat) (Option.some Jvm.ClassFile.FieldType.int)]
set_option maxRecDepth 65536 in
theorem codes_eq : words1.filter isCode = codes1 := rfl
theorem w_codes : ∀ c ∈ words1.filter isCode, c.before args0 about1 = true := by
  rw [codes_eq]
  intro c hc
  simp only [codes1, List.mem_cons, List.not_mem_nil, or_false] at hc
  rcases hc with rfl | rfl | rfl | rfl | rfl | rfl | rfl | rfl | rfl | rfl | rfl | rfl
  · exact w_c0
  · exact w_c1
  · exact w_c2
  · exact w_c3
  · exact w_c4
  · exact w_c5
  · exact w_c6
  · exact w_c7
  · exact w_c8
  · exact w_c9
  · exact w_c10
  · exact w_c11
set_option maxRecDepth 65536 in
theorem w_t1 : (words1.take 24).all (fun c => isCode c || c.before args0 about1) = true := by decide +kernel
set_option maxRecDepth 65536 in
theorem w_t2 : ((words1.drop 24).take 24).all (fun c => isCode c || c.before args0 about1) = true := by decide +kernel
set_option maxRecDepth 65536 in
theorem w_t3 : ((words1.drop 24).drop 24).all (fun c => isCode c || c.before args0 about1) = true := by decide +kernel
theorem w_tables : (allAtoms (Jvm.Cond.code x code maxLocals ret :: tables_1)).before args0 about1 = true := by
  rw [allAtoms_all]
  show words1.all (fun c => c.before args0 about1) = true
  refine all_split ?_ w_codes
  rw [← List.take_append_drop 24 words1, List.all_append, w_t1, ← List.take_append_drop 24 (words1.drop 24), List.all_append, w_t2, w_t3]
  rfl
set_option maxRecDepth 65536 in
theorem w_case : (Jvm.Cond.and given_1 narrow_1).before args0 about1 = true := by decide +kernel
theorem w_applies : (headSpec (Jvm.Cond.code x code maxLocals ret :: tables_1) room_1).applies x e0.platform about1 = true :=
  (Spec.applies_iff w_frames).mpr ⟨w_running, w_runnable, w_alone, w_named, w_hears, w_ripe, w_room, w_tables⟩
theorem atStart : AtStart classFile x code maxLocals ret World_1 tables_1 room_1 Calls_1 rest_1 Pre_1 launch0 p0 e0 about1 theMethod args0 below0 :=
  ⟨lists_1, trivial, launch0.admits_env _ _ _, launch0.least_env, fairChoices_fair.cas, fairChoices_fair.clock, w_frames, w_args, w_heap, w_applies, trivial, trivial, w_case⟩
end start1
theorem witness_1 : WitnessClaimed_1 := ⟨start1.p0, start1.e0, start1.about1, start1.theMethod, start1.args0, start1.below0, start1.atStart⟩
end Jvm.Pilot.@@N@@
