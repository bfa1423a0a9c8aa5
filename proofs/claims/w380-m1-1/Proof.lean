import JvmDerived
import JvmDerived.Pilot.@@N@@Statement
import JvmDerived.Pilot.@@N@@Code
set_option linter.unusedVariables false
set_option linter.unusedSimpArgs false
namespace Jvm.RoadKit
open Sem ClassFile Op Lib Jvm.Stand Jvm.Free Jvm.LawKit
section OwnKit
variable {p : Program} {l : Launch} {e : Env} {R : Room} {s : State} {m : MethodId} {args : Array Value} {below : List Frame} {meth : Method} {c : Code} {T : State} {locs : List Loc} {cells slots : Nat} {Z : State} {a0 : Array Value} {h : Heap}
abbrev OwnP : Type := Option Value → Heap → List Loc → Prop
/-- from the state A the run comes back with what P says -/
def OwnG (tb : Tables) (e : Env) (below : List Frame) (s : State) (P : OwnP) (rc rs : Nat) (A : State) : Prop :=
  ∃ s₂ o, Steps tb e below A s₂ ∧ s₂.status = .running ∧ Ended s₂ below o ∧ ∃ v L, o = .returned v ∧ P v s₂.heap L ∧ FrameEnd s o s₂ L rc rs
theorem own_go {tb : Tables} {P : OwnP} {rc rs : Nat} {A : State} (T' : State) (m' : MethodId) (pc : Nat) (Ls : Array Slot) (st : List Value) (f : ∀ t, Steps tb e below (T'.setTop (mkF m' pc Ls st)) t → Steps tb e below A t) (k : OwnG tb e below s P rc rs (T'.setTop (mkF m' pc Ls st))) : OwnG tb e below s P rc rs A := by
  obtain ⟨s₂, o, h1, h2⟩ := k
  exact ⟨s₂, o, f _ h1, h2⟩
theorem own_mono {tb : Tables} {P P' : OwnP} {rc rs : Nat} {A : State} (f : ∀ v h L, P v h L → P' v h L) (k : OwnG tb e below s P rc rs A) : OwnG tb e below s P' rc rs A := by
  obtain ⟨s₂, o, h1, h2, h3, v, L, h4, h5, h6⟩ := k
  exact ⟨s₂, o, h1, h2, h3, v, L, h4, f _ _ _ h5, h6⟩
/-- what a walk knows of the body -/
def OwnX (Z : State) (p : Program) (s : State) (m : MethodId) (meth : Method) (c : Code) (bytes : ByteArray) (maxL : Nat) (ret : Option FieldType) (own nm : String) : Prop :=
  p.tables.exec = Jvm.exec ∧ c.code = bytes ∧ c.maxLocals = maxL ∧ s.vm.findClass own = some m.cls ∧ meth.name = nm ∧ meth.sig.returnType = ret ∧ meth.locks = false ∧ Z.Warmed39 s.vm
/-- a body's contract -/
abbrev OwnC (l : Launch) (Z : State) (y : MethodName) (bytes : ByteArray) (maxL : Nat) (ret : Option FieldType) (ws : List Cond) (rm : Room) (as' : Array Value) (h0 : Heap) (P : OwnP) : Prop :=
  MetFree l y (head1 (Cond.code y bytes maxL ret :: ws) rm) (fun a U => a = as' ∧ Z.Warmed39 U.vm ∧ U.heap = h0) (fun _ _ _ _ _ => True) (fun _ U o U' => ∃ v L, o = .returned v ∧ P v U'.heap L ∧ FrameEnd U o U' L rm.cells rm.slots)
theorem own_entry {y : MethodName} {bytes : ByteArray} {maxL : Nat} {ret : Option FieldType} {ws : List Cond} {rm : Room} {as' : Array Value} {h0 : Heap} {P : OwnP} {Ls : Array Slot} (hpl : plainFor y = true) (ef : ∀ m, entryFrame m as' maxL = mkF m 0 Ls [])
    (body : ∀ (p : Program) (e : Env) (s : State) (m : MethodId) (below : List Frame) (meth : Method) (c : Code) (T : State), Stand p l e rm s m as' below meth c T [] 0 0 → OwnX Z p s m meth c bytes maxL ret y.cls y.name → T.heap = h0 → OwnG p.tables e below s P rm.cells rm.slots (T.setTop (mkF m 0 Ls []))) :
    OwnC l Z y bytes maxL ret ws rm as' h0 P := by
  refine MetFree.of_bodySF hpl hisR ?_
  intro p e s m args below meth c s₁ Bd hml0 hP hK
  obtain ⟨rfl, hZ, hh⟩ := hP
  have e0 : s₁.heap = h0 := by rw [← hh, Bd.state]; rfl
  obtain ⟨s₂, o, h1, h2⟩ := body p e s m below meth c s₁ (Stand.of_body Bd) ⟨Bd.exec, Bd.bytes, hml0, findClass_of_methodNamed Bd.named, (name_of_methodNamed Bd.named Bd.method).1, Bd.returns, Bd.notSynchronized, hZ⟩ e0
  exact ⟨s₂, o, castTop (ef m) h1, h2⟩
theorem own_ret {P : OwnP} {rc rs : Nat} (X : Stand p l e R s m args below meth c T locs cells slots) (hx : p.tables.exec = Jvm.exec) (hlk : meth.locks = false) {pc : Nat} {Ls : Array Slot} {w : Value} {t : FieldType} {i : Instr} {rest : List Value} (hret : meth.sig.returnType = some t) (hn : narrow t w = w)
    (hi : (i = .ireturn ∧ (t = .int ∨ t = .boolean ∨ t = .byte ∨ t = .char ∨ t = .short) ∧ ∃ z, w = .int z) ∨ (i = .lreturn ∧ t = .long ∧ ∃ z, w = .long z) ∨ (i = .dreturn ∧ t = .double ∧ ∃ z, w = .double z) ∨ (i = .freturn ∧ t = .float ∧ ∃ z, w = .float z) ∨ (i = .areturn ∧ t.isReference = true ∧ w.isRef = true))
    (hd : decode c.code pc = .ok (i, 1)) (hc : cells ≤ rc) (hs : slots ≤ rs) (hP : P (some w) T.heap locs) : OwnG p.tables e below s P rc rs (T.setTop (mkF m pc Ls (w :: rest))) := by
  obtain ⟨fs, hr, hrun, hended, hW, hsame⟩ := X.leave (v := some w) (fun h => by rw [hret] at h; cases h) hlk
  exact ⟨_, _, retOut X hx hret hn hi hd hr, hrun, hended, _, _, rfl, hP, ⟨_, rfl⟩, hW, hsame.mono hc hs⟩
theorem own_retI {P : OwnP} {rc rs : Nat} (X : Stand p l e R s m args below meth c T locs cells slots) (hx : p.tables.exec = Jvm.exec) (hlk : meth.locks = false) {pc : Nat} {Ls : Array Slot} {z : Int32} {rest : List Value} (hret : meth.sig.returnType = some .int)
    (hd : decode c.code pc = .ok (.ireturn, 1)) (hc : cells ≤ rc) (hs : slots ≤ rs) (hP : P (some (.int z)) T.heap locs) : OwnG p.tables e below s P rc rs (T.setTop (mkF m pc Ls (.int z :: rest))) :=
  own_ret X hx hlk hret rfl (Or.inl ⟨rfl, Or.inl rfl, z, rfl⟩) hd hc hs hP
theorem own_retZ {P : OwnP} {rc rs : Nat} (X : Stand p l e R s m args below meth c T locs cells slots) (hx : p.tables.exec = Jvm.exec) (hlk : meth.locks = false) {pc : Nat} {Ls : Array Slot} {z : Int32} {rest : List Value} (hret : meth.sig.returnType = some .boolean) (hz : z = 0 ∨ z = 1)
    (hd : decode c.code pc = .ok (.ireturn, 1)) (hc : cells ≤ rc) (hs : slots ≤ rs) (hP : P (some (.int z)) T.heap locs) : OwnG p.tables e below s P rc rs (T.setTop (mkF m pc Ls (.int z :: rest))) :=
  own_ret X hx hlk hret (by rcases hz with rfl | rfl <;> rfl) (Or.inl ⟨rfl, Or.inr (Or.inl rfl), z, rfl⟩) hd hc hs hP
theorem own_retB {P : OwnP} {rc rs : Nat} (X : Stand p l e R s m args below meth c T locs cells slots) (hx : p.tables.exec = Jvm.exec) (hlk : meth.locks = false) {pc : Nat} {Ls : Array Slot} {z : Int32} {rest : List Value} (hret : meth.sig.returnType = some .byte) (hz : narrow .byte (.int z) = .int z)
    (hd : decode c.code pc = .ok (.ireturn, 1)) (hc : cells ≤ rc) (hs : slots ≤ rs) (hP : P (some (.int z)) T.heap locs) : OwnG p.tables e below s P rc rs (T.setTop (mkF m pc Ls (.int z :: rest))) :=
  own_ret X hx hlk hret hz (Or.inl ⟨rfl, Or.inr (Or.inr (Or.inl rfl)), z, rfl⟩) hd hc hs hP
theorem own_retJ {P : OwnP} {rc rs : Nat} (X : Stand p l e R s m args below meth c T locs cells slots) (hx : p.tables.exec = Jvm.exec) (hlk : meth.locks = false) {pc : Nat} {Ls : Array Slot} {z : Int64} {rest : List Value} (hret : meth.sig.returnType = some .long)
    (hd : decode c.code pc = .ok (.lreturn, 1)) (hc : cells ≤ rc) (hs : slots ≤ rs) (hP : P (some (.long z)) T.heap locs) : OwnG p.tables e below s P rc rs (T.setTop (mkF m pc Ls (.long z :: rest))) :=
  own_ret X hx hlk hret rfl (Or.inr (Or.inl ⟨rfl, rfl, z, rfl⟩)) hd hc hs hP
theorem own_retA {P : OwnP} {rc rs : Nat} (X : Stand p l e R s m args below meth c T locs cells slots) (hx : p.tables.exec = Jvm.exec) (hlk : meth.locks = false) {pc : Nat} {Ls : Array Slot} {w : Value} {t : FieldType} {rest : List Value} (hret : meth.sig.returnType = some t) (hn : narrow t w = w) (ht : t.isReference = true) (hw : w.isRef = true)
    (hd : decode c.code pc = .ok (.areturn, 1)) (hc : cells ≤ rc) (hs : slots ≤ rs) (hP : P (some w) T.heap locs) : OwnG p.tables e below s P rc rs (T.setTop (mkF m pc Ls (w :: rest))) :=
  own_ret X hx hlk hret hn (Or.inr (Or.inr (Or.inr (Or.inr ⟨rfl, ht, hw⟩)))) hd hc hs hP
theorem own_retV {P : OwnP} {rc rs : Nat} (X : Stand p l e R s m args below meth c T locs cells slots) (hx : p.tables.exec = Jvm.exec) (hlk : meth.locks = false) {pc : Nat} {Ls : Array Slot} (hret : meth.sig.returnType = none)
    (hd : decode c.code pc = .ok (.return_, 1)) (hc : cells ≤ rc) (hs : slots ≤ rs) (hP : P none T.heap locs) : OwnG p.tables e below s P rc rs (T.setTop (mkF m pc Ls [])) := by
  obtain ⟨fs, hr, hrun, hended, hW, hsame⟩ := X.leave (v := none) (fun _ => rfl) hlk
  exact ⟨_, _, X.returnOut hx hret hd hr, hrun, hended, _, _, rfl, hP, ⟨_, rfl⟩, hW, hsame.mono hc hs⟩
theorem own_static (X : Stand p l e R s m args below meth c T locs cells slots) (hx : p.tables.exec = Jvm.exec) (hZ : Z.Warmed39 s.vm) {own : String} {index : Nat} {y : MethodName} {bytes : ByteArray} {maxL : Nat} {ret : Option FieldType} {rm : Room} {as' : Array Value} {P : OwnP}
    (hown : s.vm.findClass own = some m.cls) (w1 : (Cond.methodLink own index y).before a0 Z = true) (w2 : (Cond.static y).before a0 Z = true) (w3 : (Cond.initialized y.cls).before a0 Z = true) (w4 : (Cond.code y bytes maxL ret).before a0 Z = true) (hy : y.cls ≠ "java/lang/invoke/MethodHandle" ∧ y.cls ≠ "java/lang/invoke/VarHandle")
    (hM : OwnC l Z y bytes maxL ret [] rm as' h P) (eT : T.heap = h) {pc : Nat} {Ls : Array Slot} {argsL rest : List Value} (W : Nat) {st : List Value} (hsz : Ls.size = c.maxLocals) (hlen : ∀ sig, parseMethodDescriptor y.desc = some sig → argsL.length = sig.parameters.length) (has : argsL.toArray = as') (hst : st = argsL.reverse ++ rest) (hW : (rest.map fun v => v.category).sum ≤ W)
    (hd : decode c.code pc = .ok (.invokestatic index, 3)) (hf : rm.frames + 1 ≤ R.frames) (hl : W + (maxL + 11) + rm.locals ≤ R.locals) (hc : cells + rm.cells ≤ R.cells) (hs : slots + rm.slots ≤ R.slots) :
    ∃ v T' L, Stand p l e R s m args below meth c T' (locs ++ L) (cells + rm.cells) (slots + rm.slots) ∧ P v T'.heap L ∧ ∀ t, Steps p.tables e below (T'.setTop (mkF m (pc + 3) Ls (v.toList ++ rest))) t → Steps p.tables e below (T.setTop (mkF m pc Ls st)) t := by
  obtain ⟨v, vm₁, ⟨T', L', k', n'⟩, -, X', ⟨L, hQ, l1, l2, l3⟩, stp⟩ := Jvm.LawKit.callS X hx hown (mvT hZ w1) (mvT hZ w2) (mvT hZ w3) (mvT hZ w4) hy (backOf (W := W) hM hZ w4 w3 hf hl) (g := mkF m pc Ls st) rfl hsz (argsL := argsL) (rest := rest) hlen hst (by show 2 * 0 + _ ≤ _; omega) hd (fun _ _ => ⟨has, eT, hc, hs⟩)
  dsimp only [Pt.U, Pt.locs, Pt.cells, Pt.slots] at X' l1 l2 l3 stp hQ
  subst l1 l2 l3
  exact ⟨v, T', L, X', hQ, stp⟩
theorem own_init (X : Stand p l e R s m args below meth c T locs cells slots) (hx : p.tables.exec = Jvm.exec) (hZ : Z.Warmed39 s.vm) {own : String} {index : Nat} {y : MethodName} {bytes : ByteArray} {maxL : Nat} {rm : Room} {as' : Array Value} {P : OwnP} (hy1 : y.name = "<init>")
    (hown : s.vm.findClass own = some m.cls) (w1 : (Cond.methodLink own index y).before a0 Z = true) (w2 : (Cond.instanceMethod y).before a0 Z = true) (w3 : (Cond.initialized y.cls).before a0 Z = true) (w4 : (Cond.code y bytes maxL none).before a0 Z = true) (hy : y.cls ≠ "java/lang/invoke/MethodHandle" ∧ y.cls ≠ "java/lang/invoke/VarHandle")
    (hM : OwnC l Z y bytes maxL none [] rm as' h P) (eT : T.heap = h) {pc : Nat} {Ls : Array Slot} {a : Addr} {argsL rest : List Value} (W : Nat) {st : List Value} (hsz : Ls.size = c.maxLocals) (hlen : ∀ sig, parseMethodDescriptor y.desc = some sig → argsL.length = sig.parameters.length) (has : (.ref a :: argsL).toArray = as') (hst : st = argsL.reverse ++ .ref a :: rest) (hW : (rest.map fun v => v.category).sum ≤ W)
    (hd : decode c.code pc = .ok (.invokespecial index, 3)) (hf : rm.frames + 1 ≤ R.frames) (hl : W + (maxL + 11) + rm.locals ≤ R.locals) (hc : cells + rm.cells ≤ R.cells) (hs : slots + rm.slots ≤ R.slots) :
    ∃ v T' L, Stand p l e R s m args below meth c T' (locs ++ L) (cells + rm.cells) (slots + rm.slots) ∧ P v T'.heap L ∧ ∀ t, Steps p.tables e below (T'.setTop (mkF m (pc + 3) Ls (v.toList ++ rest))) t → Steps p.tables e below (T.setTop (mkF m pc Ls st)) t := by
  obtain ⟨v, vm₁, ⟨T', L', k', n'⟩, -, X', ⟨L, hQ, l1, l2, l3⟩, stp⟩ := X.specialBack hx hy1 hown (mvT hZ w1) (mvT hZ w2) (mvT hZ w4) hy (backOf (W := W) hM hZ w4 w3 hf hl) (g := mkF m pc Ls st) rfl hsz (Steps.refl _) (a := a) (argsL := argsL) (rest := rest) hlen hst (by show 2 * 0 + _ ≤ _; omega) hd (fun _ _ => ⟨has, eT, hc, hs⟩)
  dsimp only [Pt.U, Pt.locs, Pt.cells, Pt.slots] at X' l1 l2 l3 stp hQ
  subst l1 l2 l3
  exact ⟨v, T', L, X', hQ, fun t k => stp.trans k⟩
theorem own_virtual (X : Stand p l e R s m args below meth c T locs cells slots) (hx : p.tables.exec = Jvm.exec) (hZ : Z.Warmed39 s.vm) {own C : String} {index : Nat} {y z : MethodName} {bytes : ByteArray} {maxL : Nat} {ret : Option FieldType} {rm : Room} {as' : Array Value} {P : OwnP}
    (hown : s.vm.findClass own = some m.cls) (w1 : (Cond.methodLink own index y).before a0 Z = true) (w2 : (Cond.declares y).before a0 Z = true) (hnf : NotFace s y) (w5 : (Cond.selects C y z).before a0 Z = true) (w6 : (Cond.instanceMethod z).before a0 Z = true) (w3 : (Cond.initialized z.cls).before a0 Z = true) (w4 : (Cond.code z bytes maxL ret).before a0 Z = true) (hy : y.cls ≠ "java/lang/invoke/MethodHandle" ∧ y.cls ≠ "java/lang/invoke/VarHandle")
    (hM : OwnC l Z z bytes maxL ret [] rm as' h P) (eT : T.heap = h) {a : Addr} (E : Exa Z h a C) {pc : Nat} {Ls : Array Slot} {argsL rest : List Value} (W : Nat) {st : List Value} (hsz : Ls.size = c.maxLocals) (hlen : ∀ sig, parseMethodDescriptor y.desc = some sig → argsL.length = sig.parameters.length) (has : (.ref a :: argsL).toArray = as') (hst : st = argsL.reverse ++ .ref a :: rest) (hW : (rest.map fun v => v.category).sum ≤ W)
    (hd : decode c.code pc = .ok (.invokevirtual index, 3)) (hf : rm.frames + 1 ≤ R.frames) (hl : W + (maxL + 11) + rm.locals ≤ R.locals) (hc : cells + rm.cells ≤ R.cells) (hs : slots + rm.slots ≤ R.slots) :
    ∃ v T' L, Stand p l e R s m args below meth c T' (locs ++ L) (cells + rm.cells) (slots + rm.slots) ∧ P v T'.heap L ∧ ∀ t, Steps p.tables e below (T'.setTop (mkF m (pc + 3) Ls (v.toList ++ rest))) t → Steps p.tables e below (T.setTop (mkF m pc Ls st)) t := by
  obtain ⟨cq, kq, qa, qb, qc⟩ := isOf hZ eT E
  obtain ⟨v, vm₁, ⟨T', L', k', n'⟩, -, X', ⟨L, hQ, l1, l2, l3⟩, stp⟩ := X.virtualBack hx (y := y) (z := z) hown (mvT hZ w1) (mvT hZ w2) hnf (mvT hZ w5) (mvT hZ w6) hy (backOf (W := W) hM hZ w4 w3 hf hl) qa qc (g := mkF m pc Ls st) rfl hsz (Steps.refl _) (argsL := argsL) (rest := rest) hlen hst (by show 2 * 0 + _ ≤ _; omega) hd (fun _ _ => ⟨has, eT, hc, hs⟩)
  dsimp only [Pt.U, Pt.locs, Pt.cells, Pt.slots] at X' l1 l2 l3 stp hQ
  subst l1 l2 l3
  exact ⟨v, T', L, X', hQ, fun t k => stp.trans k⟩
/-- a body that writes nothing and makes nothing -/
def OwnPure (w : Value) (h0 : Heap) : OwnP := fun v h L => v = some w ∧ h = h0 ∧ L = []
theorem own_nil (X : Stand p l e R s m args below meth c T (locs ++ []) cells slots) : Stand p l e R s m args below meth c T locs cells slots := by rwa [List.append_nil] at X
theorem own_iaload (X : Stand p l e R s m args below meth c T locs cells slots) (hx : p.tables.exec = Jvm.exec) (hZ : Z.Warmed39 s.vm) (eT : T.heap = h) {a : Addr} {k : ClassId} {n : Int32} {vs : List Value} {dv : Value} (V : Arv Z h a k .int n vs dv) {j x : Int32} (hj : ¬ j < 0 ∧ j < n) (hv : vs.getD j.toNatClampNeg dv = .int x)
    {pc : Nat} {Ls : Array Slot} {rest : List Value} (hd : decode c.code pc = .ok (.iaload, 1)) : ∀ t, Steps p.tables e below (T.setTop (mkF m (pc + 1) Ls (.int x :: rest))) t → Steps p.tables e below (T.setTop (mkF m pc Ls (.int j :: .ref a :: rest))) t := by
  obtain ⟨cl, A, -, S, -, H, -⟩ := V
  exact fun t k => X.iaload hx (by rw [eT]; exact A.1) (State.isArrayOf_alike hZ.alike A.2.1) A.2.2 (inb_of S hj) (H.at (inb_of S hj) hv) (g := mkF m pc Ls (.int j :: .ref a :: rest)) rfl rfl hd t k
theorem own_baload (X : Stand p l e R s m args below meth c T locs cells slots) (hx : p.tables.exec = Jvm.exec) (hZ : Z.Warmed39 s.vm) (eT : T.heap = h) {a : Addr} {k : ClassId} {n : Int32} {vs : List Value} {dv : Value} (V : Arv Z h a k .byte n vs dv) {j x : Int32} (hj : ¬ j < 0 ∧ j < n) (hv : vs.getD j.toNatClampNeg dv = .int x)
    {pc : Nat} {Ls : Array Slot} {rest : List Value} (hd : decode c.code pc = .ok (.baload, 1)) : ∀ t, Steps p.tables e below (T.setTop (mkF m (pc + 1) Ls (.int x :: rest))) t → Steps p.tables e below (T.setTop (mkF m pc Ls (.int j :: .ref a :: rest))) t := by
  obtain ⟨cl, A, -, S, -, H, -⟩ := V
  exact fun t k => X.baloadBytes hx (by rw [eT]; exact A.1) (State.isArrayOf_alike hZ.alike A.2.1) A.2.2 (inb_of S hj) (H.at (inb_of S hj) hv) (g := mkF m pc Ls (.int j :: .ref a :: rest)) rfl rfl hd t k
theorem own_aaload (X : Stand p l e R s m args below meth c T locs cells slots) (hx : p.tables.exec = Jvm.exec) (hZ : Z.Warmed39 s.vm) (eT : T.heap = h) {a : Addr} {k : ClassId} {ty : FieldType} {n : Int32} {vs : List Value} {dv : Value} (V : Arv Z h a k ty n vs dv) (hty : ty.isReference = true) {j : Int32} {w : Value} (hj : ¬ j < 0 ∧ j < n) (hv : vs.getD j.toNatClampNeg dv = w)
    {pc : Nat} {Ls : Array Slot} {rest : List Value} (hd : decode c.code pc = .ok (.aaload, 1)) : ∀ t, Steps p.tables e below (T.setTop (mkF m (pc + 1) Ls (w :: rest))) t → Steps p.tables e below (T.setTop (mkF m pc Ls (.int j :: .ref a :: rest))) t := by
  obtain ⟨cl, A, -, S, -, H, -⟩ := V
  exact fun t k => X.aaload hx (by rw [eT]; exact A.1) (State.isArrayOf_alike hZ.alike A.2.1) hty A.2.2 (inb_of S hj) (H.at (inb_of S hj) hv) (g := mkF m pc Ls (.int j :: .ref a :: rest)) rfl rfl hd t k
theorem own_alen (X : Stand p l e R s m args below meth c T locs cells slots) (hx : p.tables.exec = Jvm.exec) (hZ : Z.Warmed39 s.vm) (eT : T.heap = h) {a : Addr} {k : ClassId} {ty : FieldType} {n : Int32} {vs : List Value} {dv : Value} (V : Arv Z h a k ty n vs dv)
    {pc : Nat} {Ls : Array Slot} {rest : List Value} (hd : decode c.code pc = .ok (.arraylength, 1)) : ∀ t, Steps p.tables e below (T.setTop (mkF m (pc + 1) Ls (.int n :: rest))) t → Steps p.tables e below (T.setTop (mkF m pc Ls (.ref a :: rest))) t := by
  obtain ⟨cl, A, -, S, N, H, -⟩ := V
  intro t q
  refine X.arraylength hx (by rw [eT]; exact A.1) (State.isArrayOf_alike hZ.alike A.2.1) (g := mkF m pc Ls (.ref a :: rest)) rfl rfl hd t ?_
  rw [len_of S N]
  exact q
theorem own_iastore (X : Stand p l e R s m args below meth c T locs cells slots) (hx : p.tables.exec = Jvm.exec) (hZ : Z.Warmed39 s.vm) (eT : T.heap = h) {a : Addr} {k : ClassId} {n : Int32} {vs : List Value} {dv : Value} (V : Arv Z h a k .int n vs dv) {j x : Int32} (hj : ¬ j < 0 ∧ j < n) (i : Nat) (hi : j.toNatClampNeg = i) (hl : i < vs.length)
    {pc : Nat} {Ls : Array Slot} {rest : List Value} (hd : decode c.code pc = .ok (.iastore, 1)) : ∃ T' h', Stand p l e R s m args below meth c T' (locs ++ [⟨a, i⟩]) cells slots ∧ T'.heap = h' ∧ Wr h h' a i (.int x) ∧ Arv Z h' a k .int n (vs.set i (.int x)) dv ∧ ∀ t, Steps p.tables e below (T'.setTop (mkF m (pc + 1) Ls rest)) t → Steps p.tables e below (T.setTop (mkF m pc Ls (.int x :: .int j :: .ref a :: rest))) t := by
  obtain ⟨cl, A, q1, S, N, H, G⟩ := V
  obtain ⟨T', h', X', e', W', st⟩ := stI X hx hZ eT A (j := j) (x := x) (inb_of S hj) (g := mkF m pc Ls (.int x :: .int j :: .ref a :: rest)) rfl rfl hd
  have V' := Arv.set A q1 S N H G (v := .int x) rfl W' i hi hl
  rw [hi] at X' W'
  exact ⟨T', h', X', e', W', V', st⟩
theorem own_bastore (X : Stand p l e R s m args below meth c T locs cells slots) (hx : p.tables.exec = Jvm.exec) (hZ : Z.Warmed39 s.vm) (eT : T.heap = h) {a : Addr} {k : ClassId} {n : Int32} {vs : List Value} {dv : Value} (V : Arv Z h a k .byte n vs dv) {j x : Int32} (hj : ¬ j < 0 ∧ j < n) (i : Nat) (hi : j.toNatClampNeg = i) (hl : i < vs.length)
    {pc : Nat} {Ls : Array Slot} {rest : List Value} (hd : decode c.code pc = .ok (.bastore, 1)) : ∃ T' h', Stand p l e R s m args below meth c T' (locs ++ [⟨a, i⟩]) cells slots ∧ T'.heap = h' ∧ Wr h h' a i (.int x.toInt8.toInt32) ∧ Arv Z h' a k .byte n (vs.set i (.int x.toInt8.toInt32)) dv ∧ ∀ t, Steps p.tables e below (T'.setTop (mkF m (pc + 1) Ls rest)) t → Steps p.tables e below (T.setTop (mkF m pc Ls (.int x :: .int j :: .ref a :: rest))) t := by
  obtain ⟨cl, A, q1, S, N, H, G⟩ := V
  obtain ⟨T', h', X', e', W', st⟩ := stB X hx hZ eT A (j := j) (x := x) (inb_of S hj) (g := mkF m pc Ls (.int x :: .int j :: .ref a :: rest)) rfl rfl hd
  have V' := Arv.set A q1 S N H G (v := .int x.toInt8.toInt32) (fits_nar_byte x) W' i hi hl
  rw [hi] at X' W'
  exact ⟨T', h', X', e', W', V', st⟩
theorem own_aastore (X : Stand p l e R s m args below meth c T locs cells slots) (hx : p.tables.exec = Jvm.exec) (hZ : Z.Warmed39 s.vm) (eT : T.heap = h) {a : Addr} {k : ClassId} {ty : FieldType} {n : Int32} {vs : List Value} {dv : Value} (V : Arv Z h a k ty n vs dv) (hty : ty.isReference = true) {C : String} (O : Ovr Z k C) {y : Addr} (I : Ins Z h y C true) {j : Int32} (hj : ¬ j < 0 ∧ j < n) (i : Nat) (hi : j.toNatClampNeg = i) (hl : i < vs.length)
    {pc : Nat} {Ls : Array Slot} {rest : List Value} (hd : decode c.code pc = .ok (.aastore, 1)) : ∃ T' h', Stand p l e R s m args below meth c T' (locs ++ [⟨a, i⟩]) cells slots ∧ T'.heap = h' ∧ Wr h h' a i (.ref y) ∧ Arv Z h' a k ty n (vs.set i (.ref y)) dv ∧ ∀ t, Steps p.tables e below (T'.setTop (mkF m (pc + 1) Ls rest)) t → Steps p.tables e below (T.setTop (mkF m pc Ls (.ref y :: .int j :: .ref a :: rest))) t := by
  obtain ⟨cl, A, q1, S, N, H, G⟩ := V
  obtain ⟨T', h', X', e', W', st⟩ := stR X hx hZ eT A (j := j) (v := .ref y) (inb_of S hj) hty (Sto.ofV A q1 O I) (g := mkF m pc Ls (.ref y :: .int j :: .ref a :: rest)) rfl rfl hd
  have V' := Arv.set A q1 S N H G (v := .ref y) (by cases ty <;> first | rfl | (simp [FieldType.isReference] at hty)) W' i hi hl
  rw [hi] at X' W'
  exact ⟨T', h', X', e', W', V', st⟩
theorem own_lt_eq {x y : Int64} (h : x = y) : lcmpW x y = 0 := (lw_eq x y).mpr h
theorem own_rem_ne {x y : Int32} {target : State} {g : JFrame} (X : Stand p l e R s m args below meth c T locs cells slots) (hx : p.tables.exec = Jvm.exec) (hg : g.method = m) {rest : List Value} (hd : decode c.code g.pc = .ok (.irem, 1)) (hs : g.stack = .int y :: .int x :: rest) (hy : y ≠ 0)
    (hr : Steps p.tables e below (T.setTop { g with pc := g.pc + 1, stack := .int (x % y) :: rest }) target) : Steps p.tables e below (T.setTop g) target := iremM X hx hg hd hs hy hr
theorem own_lrem {x y : Int64} {target : State} {g : JFrame} (X : Stand p l e R s m args below meth c T locs cells slots) (hx : p.tables.exec = Jvm.exec) (hg : g.method = m) {rest : List Value} (hd : decode c.code g.pc = .ok (.lrem, 1)) (hs : g.stack = .long y :: .long x :: rest) (hy : y ≠ 0)
    (hr : Steps p.tables e below (T.setTop { g with pc := g.pc + 1, stack := .long (x % y) :: rest }) target) : Steps p.tables e below (T.setTop g) target := by
  refine XS.lrem X.here hx hg hd hs hy ?_
  rw [lrem_mod]
  exact hr
theorem own_fld_int {args : Array Value} {t : Term} {C n d : String} {k : Int32} {a : Addr} (ev : t.eval args Z none [] Z = some (.ref a)) (h : (Cond.eq (Term.field t C n d) (Term.int k)).value args Z none Z [] = some true) : Fld Z Z.heap a C n d (.int k) := by
  obtain ⟨x, y, h1, h2, h3, h4⟩ := cmp_v (Or.inl h)
  have hy : y = .int k := by rw [Term.int_eval] at h2; exact (Option.some.inj h2).symm
  subst hy
  obtain ⟨z, rfl⟩ : ∃ z, x = .int z := h4
  have hz : z = k := by simpa [Cond.value, h1, h2] using h
  subst hz
  rw [fld_at ev] at h1
  exact Fld.start h1
theorem own_sta_keep {C n d : String} {v : Value} {h' : Heap} (F : Sta Z h C n d v) (K : Keep h h' []) : Sta Z h' C n d v := by
  obtain ⟨cf, i, k, f, st, cell, h1, h2, h3, h4, h5, h6⟩ := F
  exact ⟨cf, i, k, f, st, cell, h1, h2, h3, h4, K.2.1 _ _ h5 nin0, h6⟩
/-- the objects of C are no K: C's superclasses are named, K is a class that has objects -/
theorem own_nsroot {O K : String} {n : Nat} (w : (Cond.noSuperclass O).before a0 Z = true) (wk : (Cond.instantiable K n).before a0 Z = true) (hn : O ≠ K) : NS Z O K := by
  obtain ⟨c, k, h1, h2, h3, -, -⟩ := Cond.noSuperclass_spec w
  obtain ⟨t, kt, g1, -⟩ := Cond.instantiable_spec wk
  have ne := ids_ne h1 g1 hn
  refine ⟨c, t, h1, g1, fun fuel => ?_⟩
  cases fuel with
  | zero => rfl
  | succ f => simp [Vm.isSubclassAux, ne, h2, h3]
theorem own_nsno {C S K : String} {n : Nat} (w : (Cond.superclass C S).before a0 Z = true) (wk : (Cond.instantiable K n).before a0 Z = true) (q : NS Z C K) (hn : C ≠ K) : ∃ c t, Z.vm.findClass C = some c ∧ Z.vm.findClass K = some t ∧ Z.vm.assignable c t = false := by
  obtain ⟨c, t, h0, g0, n3⟩ := q
  obtain ⟨p, k, kp, h1, h2, h3, h4, h5, -, h7⟩ := Cond.superclass_spec h0 w
  obtain ⟨t', kt, g1, g2, g3, g4, -⟩ := Cond.instantiable_spec wk
  cases g0.symm.trans g1
  have g5 : kt.isInterface = false := by
    cases hq : kt.isInterface with
    | false => rfl
    | true => rw [hq] at g4; simp at g4
  have ne := ids_ne h0 g0 hn
  refine ⟨c, t, h0, g0, ?_⟩
  show Z.vm.assignableAux (255 + 1) c t = false
  simp [Vm.assignableAux, ne, h2, g2, h5, g3, g5, Vm.isSubclass, n3]
theorem own_s16 (x : Int32) : x.toInt16.toInt32.toInt16.toInt32 = x.toInt16.toInt32 := by simp
theorem own_virtualUp (X : Stand p l e R s m args below meth c T locs cells slots) (hx : p.tables.exec = Jvm.exec) (hZ : Z.Warmed39 s.vm) {own C owner : String} {index : Nat} {x y : MethodName} {bytes : ByteArray} {maxL : Nat} {ret : Option FieldType} {rm : Room} {as' : Array Value} {P : OwnP}
    (hown : s.vm.findClass own = some m.cls) (w1 : (Cond.methodLink own index x).before a0 Z = true) (w2 : (Cond.sameMethod x.cls owner x.name x.desc).before a0 Z = true) (w7 : (Cond.declares ⟨owner, x.name, x.desc⟩).before a0 Z = true) (hy : owner ≠ "java/lang/invoke/MethodHandle" ∧ owner ≠ "java/lang/invoke/VarHandle") (w5 : (Cond.selects C x y).before a0 Z = true) (w6 : (Cond.instanceMethod y).before a0 Z = true) (w3 : (Cond.initialized y.cls).before a0 Z = true) (w4 : (Cond.code y bytes maxL ret).before a0 Z = true)
    (hM : OwnC l Z y bytes maxL ret [] rm as' h P) (eT : T.heap = h) {a : Addr} (E : Exa Z h a C) {pc : Nat} {Ls : Array Slot} {argsL rest : List Value} (W : Nat) {st : List Value} (hsz : Ls.size = c.maxLocals) (hlen : ∀ sig, parseMethodDescriptor x.desc = some sig → argsL.length = sig.parameters.length) (has : (.ref a :: argsL).toArray = as') (hst : st = argsL.reverse ++ .ref a :: rest) (hW : (rest.map fun v => v.category).sum ≤ W)
    (hd : decode c.code pc = .ok (.invokevirtual index, 3)) (hf : rm.frames + 1 ≤ R.frames) (hl : W + (maxL + 11) + rm.locals ≤ R.locals) (hc : cells + rm.cells ≤ R.cells) (hs : slots + rm.slots ≤ R.slots) :
    ∃ v T' L, Stand p l e R s m args below meth c T' (locs ++ L) (cells + rm.cells) (slots + rm.slots) ∧ P v T'.heap L ∧ ∀ t, Steps p.tables e below (T'.setTop (mkF m (pc + 3) Ls (v.toList ++ rest))) t → Steps p.tables e below (T.setTop (mkF m pc Ls st)) t := by
  obtain ⟨cq, kq, qa, qb, qc⟩ := isOf hZ eT E
  obtain ⟨v, vm₁, ⟨T', L', k', n'⟩, -, X', ⟨L, hQ, l1, l2, l3⟩, stp⟩ := X.virtualBackUp hx (x := x) (y := y) hown (mvT hZ w1) (mvT hZ w2) (mvT hZ w7) hy (mvT hZ w5) (mvT hZ w6) (backOf (W := W) hM hZ w4 w3 hf hl) qa qc (g := mkF m pc Ls st) rfl hsz (Steps.refl _) (argsL := argsL) (rest := rest) hlen hst (by show 2 * 0 + _ ≤ _; omega) hd (fun _ _ => ⟨has, eT, hc, hs⟩)
  dsimp only [Pt.U, Pt.locs, Pt.cells, Pt.slots] at X' l1 l2 l3 stp hQ
  subst l1 l2 l3
  exact ⟨v, T', L, X', hQ, fun t k => stp.trans k⟩
theorem own_castore (X : Stand p l e R s m args below meth c T locs cells slots) (hx : p.tables.exec = Jvm.exec) (hZ : Z.Warmed39 s.vm) (eT : T.heap = h) {a : Addr} {k : ClassId} {n : Int32} {vs : List Value} {dv : Value} (V : Arv Z h a k .char n vs dv) {j x : Int32} (hj : ¬ j < 0 ∧ j < n) (i : Nat) (hi : j.toNatClampNeg = i) (hl : i < vs.length)
    {pc : Nat} {Ls : Array Slot} {rest : List Value} (hd : decode c.code pc = .ok (.castore, 1)) : ∃ T' h', Stand p l e R s m args below meth c T' (locs ++ [⟨a, i⟩]) cells slots ∧ T'.heap = h' ∧ Wr h h' a i (.int x.toUInt32.toUInt16.toUInt32.toInt32) ∧ Arv Z h' a k .char n (vs.set i (.int x.toUInt32.toUInt16.toUInt32.toInt32)) dv ∧ ∀ t, Steps p.tables e below (T'.setTop (mkF m (pc + 1) Ls rest)) t → Steps p.tables e below (T.setTop (mkF m pc Ls (.int x :: .int j :: .ref a :: rest))) t := by
  obtain ⟨cl, A, q1, S, N, H, G⟩ := V
  obtain ⟨T', h', X', e', W', st⟩ := stC X hx hZ eT A (j := j) (x := x) (inb_of S hj) (g := mkF m pc Ls (.int x :: .int j :: .ref a :: rest)) rfl rfl hd
  have V' := Arv.set A q1 S N H G (v := .int x.toUInt32.toUInt16.toUInt32.toInt32) (fits_nar_char x) W' i hi hl
  rw [hi] at X' W'
  exact ⟨T', h', X', e', W', V', st⟩
theorem own_sta_keep1 {C n d C' : String} {v : Value} {h' : Heap} {a : Addr} (F : Sta Z h C n d v) (K : Keep h h' [a]) (E : Exa Z h a C') : Sta Z h' C n d v := by
  obtain ⟨cf, i, k, f, st, cell, h1, h2, h3, h4, h5, h6, h7⟩ := F
  obtain ⟨cell', k', e1, -, -, e4, -⟩ := E
  have hne : st ≠ a := fun q => by
    subst q
    cases h5.symm.trans e1
    rw [h6] at e4
    cases e4
  exact ⟨cf, i, k, f, st, cell, h1, h2, h3, h4, K.2.1 _ _ h5 (ninS hne nin0), h6, h7⟩
theorem own_private (X : Stand p l e R s m args below meth c T locs cells slots) (hx : p.tables.exec = Jvm.exec) (hZ : Z.Warmed39 s.vm) {own C : String} {index n : Nat} {y : MethodName} {bytes : ByteArray} {maxL : Nat} {ret : Option FieldType} {rm : Room} {as' : Array Value} {P : OwnP}
    (hown : s.vm.findClass own = some m.cls) (w1 : (Cond.methodLink own index y).before a0 Z = true) (w2 : (Cond.instanceMethod y).before a0 Z = true) (wp : (Cond.privateMethod y).before a0 Z = true) (wi : (Cond.instantiable y.cls n).before a0 Z = true) (w3 : (Cond.initialized y.cls).before a0 Z = true) (w4 : (Cond.code y bytes maxL ret).before a0 Z = true) (hy : y.cls ≠ "java/lang/invoke/MethodHandle" ∧ y.cls ≠ "java/lang/invoke/VarHandle")
    (hM : OwnC l Z y bytes maxL ret [] rm as' h P) (eT : T.heap = h) {a : Addr} (E : Exa Z h a C) {pc : Nat} {Ls : Array Slot} {argsL rest : List Value} (W : Nat) {st : List Value} (hsz : Ls.size = c.maxLocals) (hlen : ∀ sig, parseMethodDescriptor y.desc = some sig → argsL.length = sig.parameters.length) (has : (.ref a :: argsL).toArray = as') (hst : st = argsL.reverse ++ .ref a :: rest) (hW : (rest.map fun v => v.category).sum ≤ W)
    (hd : decode c.code pc = .ok (.invokevirtual index, 3)) (hf : rm.frames + 1 ≤ R.frames) (hl : W + (maxL + 11) + rm.locals ≤ R.locals) (hc : cells + rm.cells ≤ R.cells) (hs : slots + rm.slots ≤ R.slots) :
    ∃ v T' L, Stand p l e R s m args below meth c T' (locs ++ L) (cells + rm.cells) (slots + rm.slots) ∧ P v T'.heap L ∧ ∀ t, Steps p.tables e below (T'.setTop (mkF m (pc + 3) Ls (v.toList ++ rest))) t → Steps p.tables e below (T.setTop (mkF m pc Ls st)) t := by
  obtain ⟨cell, hcell, hobj⟩ := E.cell
  have hpriv := Cond.privateMethod_at (mvP hZ wp (args := args))
  obtain ⟨ci, ki, i1, i2, i3, i4, -⟩ := Cond.instantiable_spec (show (Cond.instantiable y.cls n).before args s = true from mvT hZ wi)
  have hni : ki.isInterface = false := by
    cases hq : ki.isInterface with
    | false => rfl
    | true => rw [hq] at i4; simp at i4
  have hsel := selects_self_of_private (args := args) i1 i2 hni hpriv (mvT hZ w2) hy
  obtain ⟨v, vm₁, ⟨T', L', k', n'⟩, -, X', ⟨L, hQ, l1, l2, l3⟩, stp⟩ := X.privateBack hx (y := y) hown (mvT hZ w1) (mvT hZ w2) hsel hpriv (mvT hZ w4) hy (backOf (W := W) hM hZ w4 w3 hf hl) (g := mkF m pc Ls st) rfl hsz (Steps.refl _) (a := a) (by rw [eT]; exact hcell) hobj (argsL := argsL) (rest := rest) hlen hst (by show 2 * 0 + _ ≤ _; omega) hd (fun _ _ => ⟨has, eT, hc, hs⟩)
  dsimp only [Pt.U, Pt.locs, Pt.cells, Pt.slots] at X' l1 l2 l3 stp hQ
  subst l1 l2 l3
  exact ⟨v, T', L, X', hQ, fun t k => stp.trans k⟩
theorem own_interface (X : Stand p l e R s m args below meth c T locs cells slots) (hx : p.tables.exec = Jvm.exec) (hZ : Z.Warmed39 s.vm) {own C : String} {index count : Nat} {xi y : MethodName} {bytes : ByteArray} {maxL : Nat} {ret : Option FieldType} {rm : Room} {as' : Array Value} {P : OwnP}
    (hown : s.vm.findClass own = some m.cls) (w1 : (Cond.methodLink own index xi).before a0 Z = true) (w2 : (Cond.declares xi).before a0 Z = true) (w7 : (Cond.interfaceMethod xi.cls xi.cls xi.name xi.desc).before args s = true) (w5 : (Cond.selects C xi y).before a0 Z = true) (w6 : (Cond.instanceMethod y).before a0 Z = true) (w8 : (Cond.publicMethod y).before a0 Z = true) (w9 : (Cond.unhidden C xi.name xi.desc).before a0 Z = true) (w10 : (Cond.castable C xi.cls).before a0 Z = true) (w3 : (Cond.initialized y.cls).before a0 Z = true) (w4 : (Cond.code y bytes maxL ret).before a0 Z = true) (hy : xi.cls ≠ "java/lang/invoke/MethodHandle" ∧ xi.cls ≠ "java/lang/invoke/VarHandle")
    (hM : OwnC l Z y bytes maxL ret [] rm as' h P) (eT : T.heap = h) {a : Addr} (E : Exa Z h a C) {pc : Nat} {Ls : Array Slot} {argsL rest : List Value} (W : Nat) {st : List Value} (hsz : Ls.size = c.maxLocals) (hlen : ∀ sig, parseMethodDescriptor xi.desc = some sig → argsL.length = sig.parameters.length) (has : (.ref a :: argsL).toArray = as') (hst : st = argsL.reverse ++ .ref a :: rest) (hW : (rest.map fun v => v.category).sum ≤ W)
    (hd : decode c.code pc = .ok (.invokeinterface index count, 5)) (hf : rm.frames + 1 ≤ R.frames) (hl : W + (maxL + 11) + rm.locals ≤ R.locals) (hc : cells + rm.cells ≤ R.cells) (hs : slots + rm.slots ≤ R.slots) :
    ∃ v T' L, Stand p l e R s m args below meth c T' (locs ++ L) (cells + rm.cells) (slots + rm.slots) ∧ P v T'.heap L ∧ ∀ t, Steps p.tables e below (T'.setTop (mkF m (pc + 5) Ls (v.toList ++ rest))) t → Steps p.tables e below (T.setTop (mkF m pc Ls st)) t := by
  obtain ⟨cq, kq, qa, qb, qc⟩ := isOf hZ eT E
  obtain ⟨v, vm₁, ⟨T', L', k', n'⟩, -, X', ⟨L, hQ, l1, l2, l3⟩, stp⟩ := X.interfaceBack hx (xi := xi) (y := y) hown (mvT hZ w1) (mvT hZ w2) w7 (mvT hZ w5) (mvT hZ w6) (mvT hZ w8) (mvT hZ w9) (mvT hZ w10) hy (backOf (W := W) hM hZ w4 w3 hf hl) qa qb qc (g := mkF m pc Ls st) rfl hsz (Steps.refl _) (argsL := argsL) (rest := rest) hlen hst (by show 2 * 0 + _ ≤ _; omega) hd (fun _ _ => ⟨has, eT, hc, hs⟩)
  dsimp only [Pt.U, Pt.locs, Pt.cells, Pt.slots] at X' l1 l2 l3 stp hQ
  subst l1 l2 l3
  exact ⟨v, T', L, X', hQ, fun t k => stp.trans k⟩
theorem own_staticUp (X : Stand p l e R s m args below meth c T locs cells slots) (hx : p.tables.exec = Jvm.exec) (hZ : Z.Warmed39 s.vm) {own owner : String} {index : Nat} {x : MethodName} {bytes : ByteArray} {maxL : Nat} {ret : Option FieldType} {rm : Room} {as' : Array Value} {P : OwnP}
    (hown : s.vm.findClass own = some m.cls) (w1 : (Cond.methodLink own index x).before a0 Z = true) (w2 : (Cond.sameMethod x.cls owner x.name x.desc).before a0 Z = true) (hy : owner ≠ "java/lang/invoke/MethodHandle" ∧ owner ≠ "java/lang/invoke/VarHandle") (w5 : (Cond.static ⟨owner, x.name, x.desc⟩).before a0 Z = true) (w3 : (Cond.initialized owner).before a0 Z = true) (w4 : (Cond.code ⟨owner, x.name, x.desc⟩ bytes maxL ret).before a0 Z = true)
    (hM : OwnC l Z ⟨owner, x.name, x.desc⟩ bytes maxL ret [] rm as' h P) (eT : T.heap = h) {pc : Nat} {Ls : Array Slot} {argsL rest : List Value} (W : Nat) {st : List Value} (hsz : Ls.size = c.maxLocals) (hlen : ∀ sig, parseMethodDescriptor x.desc = some sig → argsL.length = sig.parameters.length) (has : argsL.toArray = as') (hst : st = argsL.reverse ++ rest) (hW : (rest.map fun v => v.category).sum ≤ W)
    (hd : decode c.code pc = .ok (.invokestatic index, 3)) (hf : rm.frames + 1 ≤ R.frames) (hl : W + (maxL + 11) + rm.locals ≤ R.locals) (hc : cells + rm.cells ≤ R.cells) (hs : slots + rm.slots ≤ R.slots) :
    ∃ v T' L, Stand p l e R s m args below meth c T' (locs ++ L) (cells + rm.cells) (slots + rm.slots) ∧ P v T'.heap L ∧ ∀ t, Steps p.tables e below (T'.setTop (mkF m (pc + 3) Ls (v.toList ++ rest))) t → Steps p.tables e below (T.setTop (mkF m pc Ls st)) t := by
  have c4 : (Cond.code ⟨owner, x.name, x.desc⟩ bytes maxL ret).before args s = true := mvT hZ w4
  obtain ⟨mk, hnamed⟩ := Cond.code_named c4
  obtain ⟨methM, cM, hmethM, -, -, -, -, -, -, hsigM⟩ := Cond.code_spec hnamed c4
  have hstatic : methM.isStatic = true := Cond.static_spec hnamed hmethM (mvT (args := args) hZ w5)
  obtain ⟨kP, hkP, -⟩ := className_of_methodNamed hnamed
  have hinitP : kP.init = .initialized := Cond.initialized_spec (findClass_of_methodNamed hnamed) hkP (mvT (args := args) hZ w3)
  obtain ⟨vm₁, X₁, hstep₁⟩ := X.invokestaticUp hx hown (mvT hZ w1) (mvT hZ w2) hy hnamed hmethM hstatic hkP hinitP (g := mkF m pc Ls st) rfl (argsL := argsL) (rest := rest) (hlen _ hsigM) hst hd
  obtain ⟨v, ⟨T', L', k', n'⟩, X', ⟨L, hQ, l1, l2, l3⟩, hsteps⟩ := (backOf (len := 3) (W := W) hM hZ w4 w3 hf hl) m meth c ⟨T.setVm vm₁, locs, cells, slots⟩ { mkF m pc Ls st with stack := rest } (.invokestatic index) mk argsL.toArray X₁ rfl hsz hd (by show 2 * 0 + (rest.map fun v => v.category).sum ≤ W; rw [Nat.mul_zero, Nat.zero_add]; exact hW) (X₁.named hnamed) ⟨has, eT, hc, hs⟩
  dsimp only [Pt.U, Pt.locs, Pt.cells, Pt.slots] at X' l1 l2 l3 hsteps hQ
  subst l1 l2 l3
  exact ⟨v, T', L, X', hQ, fun t k => ((hstep₁ _ fun acts => by rw [doInvoke_state]; exact Steps.refl _).trans hsteps).trans k⟩
theorem own_getfRef (X : Stand p l e R s m args below meth c T locs cells slots) (hx : p.tables.exec = Jvm.exec) (hZ : Z.Warmed39 s.vm) {own O n d : String} {index : Nat} (hown : s.vm.findClass own = some m.cls) (w : (Cond.fieldRef own index O n d).before a0 Z = true) (eT : T.heap = h) {a : Addr} {v : Value} (F : Fld Z h a O n d v)
    {pc : Nat} {Ls : Array Slot} {rest : List Value} (hd : decode c.code pc = .ok (.getfield index, 3)) : ∀ t, Steps p.tables e below (T.setTop (mkF m (pc + 3) Ls (v :: rest))) t → Steps p.tables e below (T.setTop (mkF m pc Ls (.ref a :: rest))) t := by
  obtain ⟨cell, cf, k, i, f, h1, h2, h3, h4, -, -, h7⟩ := F
  have hW : Z.Warmed39 T.vm := wtrans hZ X.warmed
  have hw := Cond.fieldRef_warmed39 hW w
  have hcur : (Z.setVm T.vm).vm.findClass own = some m.cls := by
    show T.vm.findClass own = _
    rw [X.warmed.alike.findClass]
    exact hown
  obtain ⟨c', k', i', f', q1, q2⟩ := Cond.fieldRef_spec hcur hw
  obtain ⟨k2, hi, -⟩ := State.fieldFound?_setVm (s := Z) hW.alike h2
  rw [hi] at q1
  cases q1
  exact fun t kk => (X.getfieldR hx (g := mkF m pc Ls (.ref a :: rest)) rfl q2 h3 rfl (by rw [eT]; exact h1) h4 h7 hd (Steps.refl _)).trans kk
theorem own_sneE {a b : Addr} {cell : Cell} {C : String} (h1 : h[a]? = some cell) (h2 : cell.vm.isStatics = true) (E : Exa Z h b C) : a ≠ b := fun q => by
  obtain ⟨cell', k', e1, -, -, e4, -⟩ := E
  subst q
  cases h1.symm.trans e1
  rw [h2] at e4
  cases e4
theorem own_sneA {a b : Addr} {cell : Cell} {k : ClassId} {ty : FieldType} {n : Int32} {vs : List Value} {dv : Value} (h1 : h[a]? = some cell) (h2 : cell.vm.isStatics = true) (V : Arv Z h b k ty n vs dv) : a ≠ b := fun q => by
  obtain ⟨cl, A, -⟩ := V
  subst q
  cases h1.symm.trans A.1
  have := A.plain
  rw [h2] at this
  cases this
theorem own_sta_keepL {C n d : String} {v : Value} {h' : Heap} {ws : List Addr} (F : Sta Z h C n d v) (K : Keep h h' ws) (q : ∀ (a : Addr) (cell : Cell), h[a]? = some cell → cell.vm.isStatics = true → a ∉ ws) : Sta Z h' C n d v := by
  obtain ⟨cf, i, k, f, st, cell, h1, h2, h3, h4, h5, h6, h7⟩ := F
  exact ⟨cf, i, k, f, st, cell, h1, h2, h3, h4, K.2.1 _ _ h5 (q _ _ h5 h6), h6, h7⟩
theorem own_nf {args : Array Value} {s : State} {C : String} {x y z : MethodName} (hsel : (Cond.selects C x z).before args s = true) (hc : y.cls = z.cls) : NotFace s y := fun r0 h0 => by
  obtain ⟨c2, r2, m2, q1, q2, q3, q4, kP, hkP, hkPi⟩ := Cond.selects_spec hsel
  have e1 := findClass_of_methodNamed h0
  have e2 := findClass_of_methodNamed q3
  rw [hc] at e1
  have e3 : r0.cls = m2.cls := Option.some.inj (e1.symm.trans e2)
  exact ⟨kP, by rw [e3]; exact hkP, hkPi⟩
end OwnKit
end Jvm.RoadKit
namespace Jvm.Pilot.@@N@@
open Jvm Jvm.ClassFile Sem Op Lib Jvm.Free Jvm.Stand Jvm.LawKit Jvm.RoadKit Bundle Jvm.Pilot.@@N@@.Jvm.D
theorem own_w {Z : State} {a0 : Array Value} (hw : ∀ d ∈ tables_1, d.before a0 Z = true) (i : Nat) {d : Jvm.Cond} (h : tables_1[i]? = some d) : d.before a0 Z = true := hw _ (List.mem_of_getElem? h)
theorem own_i {a : Addr} {L : List Addr} {Q : Prop} (i : Nat) (h : L[i]? = some a) : a ∈ L ∨ Q := Or.inl (List.mem_of_getElem? h)
theorem pd__I_Lorg_orderloom_book_OrderMessage_Type_ : parseMethodDescriptor "(I)Lorg/orderloom/book/OrderMessage$Type;" = some ⟨[.int], some (.object "org/orderloom/book/OrderMessage$Type")⟩ := by decide +kernel
def own_of (x : Int32) (a_OTHER a_NEW_ORDER_SINGLE a_CANCEL_REQUEST a_CANCEL_REPLACE_REQUEST a_EXECUTION_REPORT a_CANCEL_REJECT : Addr) : Addr := if x = 68 then a_NEW_ORDER_SINGLE else if x = 70 then a_CANCEL_REQUEST else if x = 71 then a_CANCEL_REPLACE_REQUEST else if x = 56 then a_EXECUTION_REPORT else if x = 57 then a_CANCEL_REJECT else a_OTHER
theorem d1_0 : decode prog_12_method_4_code 0 = .ok (.iload_n 0, 1) := by decide +kernel
theorem d1_1 : decode prog_12_method_4_code 1 = .ok (.lookupswitch 81 #[(56, 69), (57, 75), (68, 51), (70, 57), (71, 63)], 51) := by decide +kernel
theorem d1_52 : decode prog_12_method_4_code 52 = .ok (.getstatic 3, 3) := by decide +kernel
theorem d1_55 : decode prog_12_method_4_code 55 = .ok (.goto 30, 3) := by decide +kernel
theorem d1_58 : decode prog_12_method_4_code 58 = .ok (.getstatic 7, 3) := by decide +kernel
theorem d1_61 : decode prog_12_method_4_code 61 = .ok (.goto 24, 3) := by decide +kernel
theorem d1_64 : decode prog_12_method_4_code 64 = .ok (.getstatic 10, 3) := by decide +kernel
theorem d1_67 : decode prog_12_method_4_code 67 = .ok (.goto 18, 3) := by decide +kernel
theorem d1_70 : decode prog_12_method_4_code 70 = .ok (.getstatic 13, 3) := by decide +kernel
theorem d1_73 : decode prog_12_method_4_code 73 = .ok (.goto 12, 3) := by decide +kernel
theorem d1_76 : decode prog_12_method_4_code 76 = .ok (.getstatic 16, 3) := by decide +kernel
theorem d1_79 : decode prog_12_method_4_code 79 = .ok (.goto 6, 3) := by decide +kernel
theorem d1_82 : decode prog_12_method_4_code 82 = .ok (.getstatic 19, 3) := by decide +kernel
theorem d1_85 : decode prog_12_method_4_code 85 = .ok (.areturn, 1) := by decide +kernel
theorem pf_org_orderloom_book_OrderMessage_Type_of__I_Lorg_orderloom_book_OrderMessage_Type_ : plainFor (⟨"org/orderloom/book/OrderMessage$Type", "of", "(I)Lorg/orderloom/book/OrderMessage$Type;"⟩ : MethodName) = true := by first | exact plainFor_of_name (by first | (simp [plainName, overriddenIn]; done) | decide +kernel) | exact Jvm.Free.JP.mathPlain rfl (by decide +kernel) | decide +kernel
theorem ef_rm1 (m : MethodId) (q0 : Int32) : entryFrame m #[(.int q0)] 1 = mkF m 0 #[iv q0] [] := by first | (simp [entryFrame, mkF, argsToLocals, Value.category]; done) | rfl
set_option maxRecDepth 65536 in
set_option maxHeartbeats 40000000 in
theorem rm1 (l : Launch) (Z : State) (a0 : Array Value) (hw : ∀ d ∈ tables_1, d.before a0 Z = true) (ws : List Jvm.Cond) (x0 : Int32) (a_OTHER a_NEW_ORDER_SINGLE a_CANCEL_REQUEST a_CANCEL_REPLACE_REQUEST a_EXECUTION_REPORT a_CANCEL_REJECT : Addr) (h0 : Heap) (S_OTHER : Sta Z h0 "org/orderloom/book/OrderMessage$Type" "OTHER" "Lorg/orderloom/book/OrderMessage$Type;" (.ref a_OTHER)) (S_NEW_ORDER_SINGLE : Sta Z h0 "org/orderloom/book/OrderMessage$Type" "NEW_ORDER_SINGLE" "Lorg/orderloom/book/OrderMessage$Type;" (.ref a_NEW_ORDER_SINGLE)) (S_CANCEL_REQUEST : Sta Z h0 "org/orderloom/book/OrderMessage$Type" "CANCEL_REQUEST" "Lorg/orderloom/book/OrderMessage$Type;" (.ref a_CANCEL_REQUEST)) (S_CANCEL_REPLACE_REQUEST : Sta Z h0 "org/orderloom/book/OrderMessage$Type" "CANCEL_REPLACE_REQUEST" "Lorg/orderloom/book/OrderMessage$Type;" (.ref a_CANCEL_REPLACE_REQUEST)) (S_EXECUTION_REPORT : Sta Z h0 "org/orderloom/book/OrderMessage$Type" "EXECUTION_REPORT" "Lorg/orderloom/book/OrderMessage$Type;" (.ref a_EXECUTION_REPORT)) (S_CANCEL_REJECT : Sta Z h0 "org/orderloom/book/OrderMessage$Type" "CANCEL_REJECT" "Lorg/orderloom/book/OrderMessage$Type;" (.ref a_CANCEL_REJECT)) :
    OwnC l Z (⟨"org/orderloom/book/OrderMessage$Type", "of", "(I)Lorg/orderloom/book/OrderMessage$Type;"⟩ : MethodName) prog_12_method_4_code 1 (some (.object "org/orderloom/book/OrderMessage$Type")) ws ({ frames := 0, cells := 0, slots := 0, locals := 0 } : Room) #[(.int x0)] h0 (OwnPure (.ref (own_of x0 a_OTHER a_NEW_ORDER_SINGLE a_CANCEL_REQUEST a_CANCEL_REPLACE_REQUEST a_EXECUTION_REPORT a_CANCEL_REJECT)) h0) := by
  refine own_entry pf_org_orderloom_book_OrderMessage_Type_of__I_Lorg_orderloom_book_OrderMessage_Type_ (fun m => ef_rm1 m x0) ?_
  intro p e s m below meth c T0 X0 hC e0
  obtain ⟨hx, hby, hml, hown, hnm, hret, hlk, hZ⟩ := hC
  refine own_go T0 m 1 #[iv x0] [(.int x0)] (fun t k => XS.iloadN X0.here hx rfl (hb hby d1_0) rfl k) ?_
  by_cases hs1_1 : x0 = (56 : Int32)
  · refine own_go T0 m 70 #[iv x0] [] (X0.lookupswitchHit hx (g := (mkF m 1 #[iv x0] [(.int x0)])) rfl rfl (hb hby d1_1) (by decide) (a := 56) (off := 69) (by rw [(hs1_1 : x0 = (56 : Int32))]; rfl) (show (0 : Int) ≤ 1 + 69 from by decide)) ?_
    obtain ⟨T2, X2, e2, st2⟩ := getS2 X0 hx hZ hown (host := "") (Or.inl (own_w hw 4 rfl)) Via.refl e0 S_EXECUTION_REPORT (g := (mkF m 70 #[iv x0] [])) rfl (hb hby d1_70)
    refine own_go T2 m 73 #[iv x0] [(.ref a_EXECUTION_REPORT)] (st2) ?_
    refine own_go T2 m 85 #[iv x0] [(.ref a_EXECUTION_REPORT)] (fun t k => XS.goto X2.here hx rfl (pc0 := 73) (pc' := 85) rfl (hb hby d1_73) (by decide) (by decide) k) ?_
    refine own_retA X2 hx hlk hret rfl rfl rfl (hb hby d1_85) (by decide) (by decide) ?_
    refine ⟨?_, e2, rfl⟩
    first | (simp [own_of, hs1_1]; done) | (simp +decide [own_of, hs1_1]; done)
  · by_cases hs1_3 : x0 = (57 : Int32)
    · refine own_go T0 m 76 #[iv x0] [] (X0.lookupswitchHit hx (g := (mkF m 1 #[iv x0] [(.int x0)])) rfl rfl (hb hby d1_1) (by decide) (a := 57) (off := 75) (by rw [(hs1_3 : x0 = (57 : Int32))]; rfl) (show (0 : Int) ≤ 1 + 75 from by decide)) ?_
      obtain ⟨T4, X4, e4, st4⟩ := getS2 X0 hx hZ hown (host := "") (Or.inl (own_w hw 14 rfl)) Via.refl e0 S_CANCEL_REJECT (g := (mkF m 76 #[iv x0] [])) rfl (hb hby d1_76)
      refine own_go T4 m 79 #[iv x0] [(.ref a_CANCEL_REJECT)] (st4) ?_
      refine own_go T4 m 85 #[iv x0] [(.ref a_CANCEL_REJECT)] (fun t k => XS.goto X4.here hx rfl (pc0 := 79) (pc' := 85) rfl (hb hby d1_79) (by decide) (by decide) k) ?_
      refine own_retA X4 hx hlk hret rfl rfl rfl (hb hby d1_85) (by decide) (by decide) ?_
      refine ⟨?_, e4, rfl⟩
      first | (simp [own_of, hs1_1, hs1_3]; done) | (simp +decide [own_of, hs1_1, hs1_3]; done)
    · by_cases hs1_5 : x0 = (68 : Int32)
      · refine own_go T0 m 52 #[iv x0] [] (X0.lookupswitchHit hx (g := (mkF m 1 #[iv x0] [(.int x0)])) rfl rfl (hb hby d1_1) (by decide) (a := 68) (off := 51) (by rw [(hs1_5 : x0 = (68 : Int32))]; rfl) (show (0 : Int) ≤ 1 + 51 from by decide)) ?_
        obtain ⟨T6, X6, e6, st6⟩ := getS2 X0 hx hZ hown (host := "") (Or.inl (own_w hw 17 rfl)) Via.refl e0 S_NEW_ORDER_SINGLE (g := (mkF m 52 #[iv x0] [])) rfl (hb hby d1_52)
        refine own_go T6 m 55 #[iv x0] [(.ref a_NEW_ORDER_SINGLE)] (st6) ?_
        refine own_go T6 m 85 #[iv x0] [(.ref a_NEW_ORDER_SINGLE)] (fun t k => XS.goto X6.here hx rfl (pc0 := 55) (pc' := 85) rfl (hb hby d1_55) (by decide) (by decide) k) ?_
        refine own_retA X6 hx hlk hret rfl rfl rfl (hb hby d1_85) (by decide) (by decide) ?_
        refine ⟨?_, e6, rfl⟩
        first | (simp [own_of, hs1_1, hs1_3, hs1_5]; done) | (simp +decide [own_of, hs1_1, hs1_3, hs1_5]; done)
      · by_cases hs1_7 : x0 = (70 : Int32)
        · refine own_go T0 m 58 #[iv x0] [] (X0.lookupswitchHit hx (g := (mkF m 1 #[iv x0] [(.int x0)])) rfl rfl (hb hby d1_1) (by decide) (a := 70) (off := 57) (by rw [(hs1_7 : x0 = (70 : Int32))]; rfl) (show (0 : Int) ≤ 1 + 57 from by decide)) ?_
          obtain ⟨T8, X8, e8, st8⟩ := getS2 X0 hx hZ hown (host := "") (Or.inl (own_w hw 11 rfl)) Via.refl e0 S_CANCEL_REQUEST (g := (mkF m 58 #[iv x0] [])) rfl (hb hby d1_58)
          refine own_go T8 m 61 #[iv x0] [(.ref a_CANCEL_REQUEST)] (st8) ?_
          refine own_go T8 m 85 #[iv x0] [(.ref a_CANCEL_REQUEST)] (fun t k => XS.goto X8.here hx rfl (pc0 := 61) (pc' := 85) rfl (hb hby d1_61) (by decide) (by decide) k) ?_
          refine own_retA X8 hx hlk hret rfl rfl rfl (hb hby d1_85) (by decide) (by decide) ?_
          refine ⟨?_, e8, rfl⟩
          first | (simp [own_of, hs1_1, hs1_3, hs1_5, hs1_7]; done) | (simp +decide [own_of, hs1_1, hs1_3, hs1_5, hs1_7]; done)
        · by_cases hs1_9 : x0 = (71 : Int32)
          · refine own_go T0 m 64 #[iv x0] [] (X0.lookupswitchHit hx (g := (mkF m 1 #[iv x0] [(.int x0)])) rfl rfl (hb hby d1_1) (by decide) (a := 71) (off := 63) (by rw [(hs1_9 : x0 = (71 : Int32))]; rfl) (show (0 : Int) ≤ 1 + 63 from by decide)) ?_
            obtain ⟨T10, X10, e10, st10⟩ := getS2 X0 hx hZ hown (host := "") (Or.inl (own_w hw 23 rfl)) Via.refl e0 S_CANCEL_REPLACE_REQUEST (g := (mkF m 64 #[iv x0] [])) rfl (hb hby d1_64)
            refine own_go T10 m 67 #[iv x0] [(.ref a_CANCEL_REPLACE_REQUEST)] (st10) ?_
            refine own_go T10 m 85 #[iv x0] [(.ref a_CANCEL_REPLACE_REQUEST)] (fun t k => XS.goto X10.here hx rfl (pc0 := 67) (pc' := 85) rfl (hb hby d1_67) (by decide) (by decide) k) ?_
            refine own_retA X10 hx hlk hret rfl rfl rfl (hb hby d1_85) (by decide) (by decide) ?_
            refine ⟨?_, e10, rfl⟩
            first | (simp [own_of, hs1_1, hs1_3, hs1_5, hs1_7, hs1_9]; done) | (simp +decide [own_of, hs1_1, hs1_3, hs1_5, hs1_7, hs1_9]; done)
          · refine own_go T0 m 82 #[iv x0] [] (X0.lookupswitchMiss hx (g := (mkF m 1 #[iv x0] [(.int x0)])) rfl rfl (hb hby d1_1) (by decide) (find_miss (by intro q hq; simp only [List.mem_cons, List.not_mem_nil, or_false] at hq; rcases hq with rfl | rfl | rfl | rfl | rfl <;> (first | (intro hh; exact hs1_1 (Int32.toInt_inj.mp (by rw [← hh]; rfl))) | (intro hh; exact hs1_3 (Int32.toInt_inj.mp (by rw [← hh]; rfl))) | (intro hh; exact hs1_5 (Int32.toInt_inj.mp (by rw [← hh]; rfl))) | (intro hh; exact hs1_7 (Int32.toInt_inj.mp (by rw [← hh]; rfl))) | (intro hh; exact hs1_9 (Int32.toInt_inj.mp (by rw [← hh]; rfl)))))) (show (0 : Int) ≤ 1 + 81 from by decide)) ?_
            obtain ⟨T11, X11, e11, st11⟩ := getS2 X0 hx hZ hown (host := "") (Or.inl (own_w hw 20 rfl)) Via.refl e0 S_OTHER (g := (mkF m 82 #[iv x0] [])) rfl (hb hby d1_82)
            refine own_go T11 m 85 #[iv x0] [(.ref a_OTHER)] (st11) ?_
            refine own_retA X11 hx hlk hret rfl rfl rfl (hb hby d1_85) (by decide) (by decide) ?_
            refine ⟨?_, e11, rfl⟩
            first | (simp [own_of, hs1_1, hs1_3, hs1_5, hs1_7, hs1_9]; done) | (simp +decide [own_of, hs1_1, hs1_3, hs1_5, hs1_7, hs1_9]; done)
theorem d2_0 : decode method_2_code 0 = .ok (.iload_n 0, 1) := by decide +kernel
theorem d2_1 : decode method_2_code 1 = .ok (.bipush 68, 2) := by decide +kernel
theorem d2_3 : decode method_2_code 3 = .ok (.if_icmp .ne 7, 3) := by decide +kernel
theorem d2_6 : decode method_2_code 6 = .ok (.getstatic 7, 3) := by decide +kernel
theorem d2_9 : decode method_2_code 9 = .ok (.areturn, 1) := by decide +kernel
theorem d2_10 : decode method_2_code 10 = .ok (.iload_n 0, 1) := by decide +kernel
theorem d2_11 : decode method_2_code 11 = .ok (.bipush 70, 2) := by decide +kernel
theorem d2_13 : decode method_2_code 13 = .ok (.if_icmp .ne 7, 3) := by decide +kernel
theorem d2_16 : decode method_2_code 16 = .ok (.getstatic 13, 3) := by decide +kernel
theorem d2_19 : decode method_2_code 19 = .ok (.areturn, 1) := by decide +kernel
theorem d2_20 : decode method_2_code 20 = .ok (.iload_n 0, 1) := by decide +kernel
theorem d2_21 : decode method_2_code 21 = .ok (.bipush 71, 2) := by decide +kernel
theorem d2_23 : decode method_2_code 23 = .ok (.if_icmp .ne 7, 3) := by decide +kernel
theorem d2_26 : decode method_2_code 26 = .ok (.getstatic 16, 3) := by decide +kernel
theorem d2_29 : decode method_2_code 29 = .ok (.areturn, 1) := by decide +kernel
theorem d2_30 : decode method_2_code 30 = .ok (.iload_n 0, 1) := by decide +kernel
theorem d2_31 : decode method_2_code 31 = .ok (.bipush 56, 2) := by decide +kernel
theorem d2_33 : decode method_2_code 33 = .ok (.if_icmp .ne 7, 3) := by decide +kernel
theorem d2_36 : decode method_2_code 36 = .ok (.getstatic 19, 3) := by decide +kernel
theorem d2_39 : decode method_2_code 39 = .ok (.areturn, 1) := by decide +kernel
theorem d2_40 : decode method_2_code 40 = .ok (.iload_n 0, 1) := by decide +kernel
theorem d2_41 : decode method_2_code 41 = .ok (.bipush 57, 2) := by decide +kernel
theorem d2_43 : decode method_2_code 43 = .ok (.if_icmp .ne 7, 3) := by decide +kernel
theorem d2_46 : decode method_2_code 46 = .ok (.getstatic 22, 3) := by decide +kernel
theorem d2_49 : decode method_2_code 49 = .ok (.areturn, 1) := by decide +kernel
theorem d2_50 : decode method_2_code 50 = .ok (.getstatic 25, 3) := by decide +kernel
theorem d2_53 : decode method_2_code 53 = .ok (.areturn, 1) := by decide +kernel
theorem pf_org_orderloom_book_TypeOfPinLaw_expected__I_Lorg_orderloom_book_OrderMessage_Type_ : plainFor (⟨"org/orderloom/book/TypeOfPinLaw", "expected", "(I)Lorg/orderloom/book/OrderMessage$Type;"⟩ : MethodName) = true := by first | exact plainFor_of_name (by first | (simp [plainName, overriddenIn]; done) | decide +kernel) | exact Jvm.Free.JP.mathPlain rfl (by decide +kernel) | decide +kernel
theorem ef_rm2 (m : MethodId) (q0 : Int32) : entryFrame m #[(.int q0)] 1 = mkF m 0 #[iv q0] [] := by first | (simp [entryFrame, mkF, argsToLocals, Value.category]; done) | rfl
set_option maxRecDepth 65536 in
set_option maxHeartbeats 40000000 in
theorem rm2 (l : Launch) (Z : State) (a0 : Array Value) (hw : ∀ d ∈ tables_1, d.before a0 Z = true) (ws : List Jvm.Cond) (x0 : Int32) (a_OTHER a_NEW_ORDER_SINGLE a_CANCEL_REQUEST a_CANCEL_REPLACE_REQUEST a_EXECUTION_REPORT a_CANCEL_REJECT : Addr) (h0 : Heap) (S_OTHER : Sta Z h0 "org/orderloom/book/OrderMessage$Type" "OTHER" "Lorg/orderloom/book/OrderMessage$Type;" (.ref a_OTHER)) (S_NEW_ORDER_SINGLE : Sta Z h0 "org/orderloom/book/OrderMessage$Type" "NEW_ORDER_SINGLE" "Lorg/orderloom/book/OrderMessage$Type;" (.ref a_NEW_ORDER_SINGLE)) (S_CANCEL_REQUEST : Sta Z h0 "org/orderloom/book/OrderMessage$Type" "CANCEL_REQUEST" "Lorg/orderloom/book/OrderMessage$Type;" (.ref a_CANCEL_REQUEST)) (S_CANCEL_REPLACE_REQUEST : Sta Z h0 "org/orderloom/book/OrderMessage$Type" "CANCEL_REPLACE_REQUEST" "Lorg/orderloom/book/OrderMessage$Type;" (.ref a_CANCEL_REPLACE_REQUEST)) (S_EXECUTION_REPORT : Sta Z h0 "org/orderloom/book/OrderMessage$Type" "EXECUTION_REPORT" "Lorg/orderloom/book/OrderMessage$Type;" (.ref a_EXECUTION_REPORT)) (S_CANCEL_REJECT : Sta Z h0 "org/orderloom/book/OrderMessage$Type" "CANCEL_REJECT" "Lorg/orderloom/book/OrderMessage$Type;" (.ref a_CANCEL_REJECT)) :
    OwnC l Z (⟨"org/orderloom/book/TypeOfPinLaw", "expected", "(I)Lorg/orderloom/book/OrderMessage$Type;"⟩ : MethodName) method_2_code 1 (some (.object "org/orderloom/book/OrderMessage$Type")) ws ({ frames := 0, cells := 0, slots := 0, locals := 0 } : Room) #[(.int x0)] h0 (OwnPure (.ref (own_of x0 a_OTHER a_NEW_ORDER_SINGLE a_CANCEL_REQUEST a_CANCEL_REPLACE_REQUEST a_EXECUTION_REPORT a_CANCEL_REJECT)) h0) := by
  refine own_entry pf_org_orderloom_book_TypeOfPinLaw_expected__I_Lorg_orderloom_book_OrderMessage_Type_ (fun m => ef_rm2 m x0) ?_
  intro p e s m below meth c T0 X0 hC e0
  obtain ⟨hx, hby, hml, hown, hnm, hret, hlk, hZ⟩ := hC
  refine own_go T0 m 1 #[iv x0] [(.int x0)] (fun t k => XS.iloadN X0.here hx rfl (hb hby d2_0) rfl k) ?_
  refine own_go T0 m 3 #[iv x0] [(.int 68), (.int x0)] (fun t k => XS.bipush X0.here hx rfl (hb hby d2_1) k) ?_
  by_cases hc3_1 : x0 = (68 : Int32)
  · refine own_go T0 m 6 #[iv x0] [] (fun t k => XS.icmpNo X0.here hx rfl (hb hby d2_3) rfl (teq hc3_1).2 k) ?_
    obtain ⟨T2, X2, e2, st2⟩ := getS2 X0 hx hZ hown (host := "") (Or.inl (own_w hw 19 rfl)) Via.refl e0 S_NEW_ORDER_SINGLE (g := (mkF m 6 #[iv x0] [])) rfl (hb hby d2_6)
    refine own_go T2 m 9 #[iv x0] [(.ref a_NEW_ORDER_SINGLE)] (st2) ?_
    refine own_retA X2 hx hlk hret rfl rfl rfl (hb hby d2_9) (by decide) (by decide) ?_
    refine ⟨?_, e2, rfl⟩
    first | (simp [own_of, hc3_1]; done) | (simp +decide [own_of, hc3_1]; done)
  · refine own_go T0 m 10 #[iv x0] [] (fun t k => XS.icmpYes X0.here hx rfl (pc0 := 3) (pc' := 10) rfl (hb hby d2_3) rfl (feq hc3_1).2 (by decide) (by decide) k) ?_
    refine own_go T0 m 11 #[iv x0] [(.int x0)] (fun t k => XS.iloadN X0.here hx rfl (hb hby d2_10) rfl k) ?_
    refine own_go T0 m 13 #[iv x0] [(.int 70), (.int x0)] (fun t k => XS.bipush X0.here hx rfl (hb hby d2_11) k) ?_
    by_cases hc13_3 : x0 = (70 : Int32)
    · refine own_go T0 m 16 #[iv x0] [] (fun t k => XS.icmpNo X0.here hx rfl (hb hby d2_13) rfl (teq hc13_3).2 k) ?_
      obtain ⟨T4, X4, e4, st4⟩ := getS2 X0 hx hZ hown (host := "") (Or.inl (own_w hw 13 rfl)) Via.refl e0 S_CANCEL_REQUEST (g := (mkF m 16 #[iv x0] [])) rfl (hb hby d2_16)
      refine own_go T4 m 19 #[iv x0] [(.ref a_CANCEL_REQUEST)] (st4) ?_
      refine own_retA X4 hx hlk hret rfl rfl rfl (hb hby d2_19) (by decide) (by decide) ?_
      refine ⟨?_, e4, rfl⟩
      first | (simp [own_of, hc3_1, hc13_3]; done) | (simp +decide [own_of, hc3_1, hc13_3]; done)
    · refine own_go T0 m 20 #[iv x0] [] (fun t k => XS.icmpYes X0.here hx rfl (pc0 := 13) (pc' := 20) rfl (hb hby d2_13) rfl (feq hc13_3).2 (by decide) (by decide) k) ?_
      refine own_go T0 m 21 #[iv x0] [(.int x0)] (fun t k => XS.iloadN X0.here hx rfl (hb hby d2_20) rfl k) ?_
      refine own_go T0 m 23 #[iv x0] [(.int 71), (.int x0)] (fun t k => XS.bipush X0.here hx rfl (hb hby d2_21) k) ?_
      by_cases hc23_5 : x0 = (71 : Int32)
      · refine own_go T0 m 26 #[iv x0] [] (fun t k => XS.icmpNo X0.here hx rfl (hb hby d2_23) rfl (teq hc23_5).2 k) ?_
        obtain ⟨T6, X6, e6, st6⟩ := getS2 X0 hx hZ hown (host := "") (Or.inl (own_w hw 25 rfl)) Via.refl e0 S_CANCEL_REPLACE_REQUEST (g := (mkF m 26 #[iv x0] [])) rfl (hb hby d2_26)
        refine own_go T6 m 29 #[iv x0] [(.ref a_CANCEL_REPLACE_REQUEST)] (st6) ?_
        refine own_retA X6 hx hlk hret rfl rfl rfl (hb hby d2_29) (by decide) (by decide) ?_
        refine ⟨?_, e6, rfl⟩
        first | (simp [own_of, hc3_1, hc13_3, hc23_5]; done) | (simp +decide [own_of, hc3_1, hc13_3, hc23_5]; done)
      · refine own_go T0 m 30 #[iv x0] [] (fun t k => XS.icmpYes X0.here hx rfl (pc0 := 23) (pc' := 30) rfl (hb hby d2_23) rfl (feq hc23_5).2 (by decide) (by decide) k) ?_
        refine own_go T0 m 31 #[iv x0] [(.int x0)] (fun t k => XS.iloadN X0.here hx rfl (hb hby d2_30) rfl k) ?_
        refine own_go T0 m 33 #[iv x0] [(.int 56), (.int x0)] (fun t k => XS.bipush X0.here hx rfl (hb hby d2_31) k) ?_
        by_cases hc33_7 : x0 = (56 : Int32)
        · refine own_go T0 m 36 #[iv x0] [] (fun t k => XS.icmpNo X0.here hx rfl (hb hby d2_33) rfl (teq hc33_7).2 k) ?_
          obtain ⟨T8, X8, e8, st8⟩ := getS2 X0 hx hZ hown (host := "") (Or.inl (own_w hw 10 rfl)) Via.refl e0 S_EXECUTION_REPORT (g := (mkF m 36 #[iv x0] [])) rfl (hb hby d2_36)
          refine own_go T8 m 39 #[iv x0] [(.ref a_EXECUTION_REPORT)] (st8) ?_
          refine own_retA X8 hx hlk hret rfl rfl rfl (hb hby d2_39) (by decide) (by decide) ?_
          refine ⟨?_, e8, rfl⟩
          first | (simp [own_of, hc3_1, hc13_3, hc23_5, hc33_7]; done) | (simp +decide [own_of, hc3_1, hc13_3, hc23_5, hc33_7]; done)
        · refine own_go T0 m 40 #[iv x0] [] (fun t k => XS.icmpYes X0.here hx rfl (pc0 := 33) (pc' := 40) rfl (hb hby d2_33) rfl (feq hc33_7).2 (by decide) (by decide) k) ?_
          refine own_go T0 m 41 #[iv x0] [(.int x0)] (fun t k => XS.iloadN X0.here hx rfl (hb hby d2_40) rfl k) ?_
          refine own_go T0 m 43 #[iv x0] [(.int 57), (.int x0)] (fun t k => XS.bipush X0.here hx rfl (hb hby d2_41) k) ?_
          by_cases hc43_9 : x0 = (57 : Int32)
          · refine own_go T0 m 46 #[iv x0] [] (fun t k => XS.icmpNo X0.here hx rfl (hb hby d2_43) rfl (teq hc43_9).2 k) ?_
            obtain ⟨T10, X10, e10, st10⟩ := getS2 X0 hx hZ hown (host := "") (Or.inl (own_w hw 16 rfl)) Via.refl e0 S_CANCEL_REJECT (g := (mkF m 46 #[iv x0] [])) rfl (hb hby d2_46)
            refine own_go T10 m 49 #[iv x0] [(.ref a_CANCEL_REJECT)] (st10) ?_
            refine own_retA X10 hx hlk hret rfl rfl rfl (hb hby d2_49) (by decide) (by decide) ?_
            refine ⟨?_, e10, rfl⟩
            first | (simp [own_of, hc3_1, hc13_3, hc23_5, hc33_7, hc43_9]; done) | (simp +decide [own_of, hc3_1, hc13_3, hc23_5, hc33_7, hc43_9]; done)
          · refine own_go T0 m 50 #[iv x0] [] (fun t k => XS.icmpYes X0.here hx rfl (pc0 := 43) (pc' := 50) rfl (hb hby d2_43) rfl (feq hc43_9).2 (by decide) (by decide) k) ?_
            obtain ⟨T11, X11, e11, st11⟩ := getS2 X0 hx hZ hown (host := "") (Or.inl (own_w hw 22 rfl)) Via.refl e0 S_OTHER (g := (mkF m 50 #[iv x0] [])) rfl (hb hby d2_50)
            refine own_go T11 m 53 #[iv x0] [(.ref a_OTHER)] (st11) ?_
            refine own_retA X11 hx hlk hret rfl rfl rfl (hb hby d2_53) (by decide) (by decide) ?_
            refine ⟨?_, e11, rfl⟩
            first | (simp [own_of, hc3_1, hc13_3, hc23_5, hc33_7, hc43_9]; done) | (simp +decide [own_of, hc3_1, hc13_3, hc23_5, hc33_7, hc43_9]; done)
theorem pf_org_orderloom_book_TypeOfPinLaw_law__II_Z : plainFor (⟨"org/orderloom/book/TypeOfPinLaw", "law", "(II)Z"⟩ : MethodName) = true := by first | exact plainFor_of_name (by first | (simp [plainName, overriddenIn]; done) | decide +kernel) | exact Jvm.Free.JP.mathPlain rfl (by decide +kernel) | decide +kernel
theorem ef_rm0 (m : MethodId) (q0 : Int32) (q1 : Int32) : entryFrame m #[(.int q0), (.int q1)] maxLocals = mkF m 0 #[iv q0, iv q1, .unset, .unset, .unset] [] := by first | (simp [entryFrame, mkF, argsToLocals, Value.category, maxLocals]; done) | rfl
set_option maxRecDepth 65536 in
set_option maxHeartbeats 40000000 in
theorem rm0 (l : Launch) (Z : State) (a0 : Array Value) (hw : ∀ d ∈ tables_1, d.before a0 Z = true) (ws : List Jvm.Cond) (x0 : Int32) (x1 : Int32) (a_OTHER a_NEW_ORDER_SINGLE a_CANCEL_REQUEST a_CANCEL_REPLACE_REQUEST a_EXECUTION_REPORT a_CANCEL_REJECT : Addr) (h0 : Heap) (n0 : Nat) (Z0 : n0 ≤ h0.size) (S_OTHER : Sta Z h0 "org/orderloom/book/OrderMessage$Type" "OTHER" "Lorg/orderloom/book/OrderMessage$Type;" (.ref a_OTHER)) (S_NEW_ORDER_SINGLE : Sta Z h0 "org/orderloom/book/OrderMessage$Type" "NEW_ORDER_SINGLE" "Lorg/orderloom/book/OrderMessage$Type;" (.ref a_NEW_ORDER_SINGLE)) (S_CANCEL_REQUEST : Sta Z h0 "org/orderloom/book/OrderMessage$Type" "CANCEL_REQUEST" "Lorg/orderloom/book/OrderMessage$Type;" (.ref a_CANCEL_REQUEST)) (S_CANCEL_REPLACE_REQUEST : Sta Z h0 "org/orderloom/book/OrderMessage$Type" "CANCEL_REPLACE_REQUEST" "Lorg/orderloom/book/OrderMessage$Type;" (.ref a_CANCEL_REPLACE_REQUEST)) (S_EXECUTION_REPORT : Sta Z h0 "org/orderloom/book/OrderMessage$Type" "EXECUTION_REPORT" "Lorg/orderloom/book/OrderMessage$Type;" (.ref a_EXECUTION_REPORT)) (S_CANCEL_REJECT : Sta Z h0 "org/orderloom/book/OrderMessage$Type" "CANCEL_REJECT" "Lorg/orderloom/book/OrderMessage$Type;" (.ref a_CANCEL_REJECT)) :
    OwnC l Z x code maxLocals ret ws room_1 #[(.int x0), (.int x1)] h0 (fun v h L => v = some (.int 1) ∧ Fr n0 L) := by
  refine own_entry pf_org_orderloom_book_TypeOfPinLaw_law__II_Z (fun m => ef_rm0 m x0 x1) ?_
  intro p e s m below meth c T0 X0 hC e0
  obtain ⟨hx, hby, hml, hown, hnm, hret, hlk, hZ⟩ := hC
  have hml : c.maxLocals = 5 := hml
  have N0 := Fr.nil n0
  refine own_go T0 m 1 #[iv x0, iv x1, .unset, .unset, .unset] [(.int x1)] (fun t k => XS.iloadN X0.here hx rfl (hb hby at_0) rfl k) ?_
  refine own_go T0 m 3 #[iv x0, iv x1, .unset, .unset, .unset] [(.int 7), (.int x1)] (fun t k => XS.bipush X0.here hx rfl (hb hby at_1) k) ?_
  refine own_go T0 m 4 #[iv x0, iv x1, .unset, .unset, .unset] [(.int (x1 &&& (7 : Int32)))] (fun t k => XS.iand X0.here hx rfl (hb hby at_3) rfl k) ?_
  refine own_go T0 m 5 #[iv x0, iv x1, iv (x1 &&& (7 : Int32)), .unset, .unset] [] (fun t k => XS.istoreN X0.here hx rfl (hb hby at_4) rfl rfl k) ?_
  refine own_go T0 m 6 #[iv x0, iv x1, iv (x1 &&& (7 : Int32)), .unset, .unset] [(.int (x1 &&& (7 : Int32)))] (fun t k => XS.iloadN X0.here hx rfl (hb hby at_5) rfl k) ?_
  by_cases hc6_1 : (x1 &&& (7 : Int32)) = (0 : Int32)
  · refine own_go T0 m 9 #[iv x0, iv x1, iv (x1 &&& (7 : Int32)), .unset, .unset] [] (fun t k => XS.ifNo X0.here hx rfl (hb hby at_6) rfl ((if0 _ _).trans (teq hc6_1).2) k) ?_
    refine own_go T0 m 11 #[iv x0, iv x1, iv (x1 &&& (7 : Int32)), .unset, .unset] [(.int 68)] (fun t k => XS.bipush X0.here hx rfl (hb hby at_9) k) ?_
    refine own_go T0 m 12 #[iv x0, iv x1, iv (x1 &&& (7 : Int32)), iv 68, .unset] [] (fun t k => XS.istoreN X0.here hx rfl (hb hby at_11) rfl rfl k) ?_
    refine own_go T0 m 86 #[iv x0, iv x1, iv (x1 &&& (7 : Int32)), iv 68, .unset] [] (fun t k => XS.goto X0.here hx rfl (pc0 := 12) (pc' := 86) rfl (hb hby at_12) (by decide) (by decide) k) ?_
    refine own_go T0 m 87 #[iv x0, iv x1, iv (x1 &&& (7 : Int32)), iv 68, .unset] [(.int 68)] (fun t k => XS.iloadN X0.here hx rfl (hb hby at_86) rfl k) ?_
    obtain ⟨_, T2, L2, X2, ⟨rfl, e2, rfl⟩, st2⟩ := own_static X0 hx hZ (y := (⟨"org/orderloom/book/OrderMessage$Type", "of", "(I)Lorg/orderloom/book/OrderMessage$Type;"⟩ : MethodName)) hown (own_w hw 0 rfl) (own_w hw 1 rfl) (own_w hw 2 rfl) (own_w hw 3 rfl) (by decide) (rm1 l Z a0 hw [] (68 : Int32) a_OTHER a_NEW_ORDER_SINGLE a_CANCEL_REQUEST a_CANCEL_REPLACE_REQUEST a_EXECUTION_REPORT a_CANCEL_REJECT h0 S_OTHER S_NEW_ORDER_SINGLE S_CANCEL_REQUEST S_CANCEL_REPLACE_REQUEST S_EXECUTION_REPORT S_CANCEL_REJECT) e0 0 (argsL := [(.int 68)]) (rest := []) (Ls := #[iv x0, iv x1, iv (x1 &&& (7 : Int32)), iv 68, .unset]) (by rw [hml]; rfl) (lenOf pd__I_Lorg_orderloom_book_OrderMessage_Type_ rfl) rfl rfl (Nat.le_of_eq rfl) (hb hby at_87) (by decide) (by decide) (by decide) (by decide)
    replace X2 := own_nil X2
    refine own_go T2 m 90 #[iv x0, iv x1, iv (x1 &&& (7 : Int32)), iv 68, .unset] [(.ref (own_of (68 : Int32) a_OTHER a_NEW_ORDER_SINGLE a_CANCEL_REQUEST a_CANCEL_REPLACE_REQUEST a_EXECUTION_REPORT a_CANCEL_REJECT))] (st2) ?_
    refine own_go T2 m 92 #[iv x0, iv x1, iv (x1 &&& (7 : Int32)), iv 68, rv (own_of (68 : Int32) a_OTHER a_NEW_ORDER_SINGLE a_CANCEL_REQUEST a_CANCEL_REPLACE_REQUEST a_EXECUTION_REPORT a_CANCEL_REJECT)] [] (fun t k => XS.astore X2.here hx rfl (hb hby at_90) rfl rfl rfl k) ?_
    refine own_go T2 m 94 #[iv x0, iv x1, iv (x1 &&& (7 : Int32)), iv 68, rv (own_of (68 : Int32) a_OTHER a_NEW_ORDER_SINGLE a_CANCEL_REQUEST a_CANCEL_REPLACE_REQUEST a_EXECUTION_REPORT a_CANCEL_REJECT)] [(.ref (own_of (68 : Int32) a_OTHER a_NEW_ORDER_SINGLE a_CANCEL_REQUEST a_CANCEL_REPLACE_REQUEST a_EXECUTION_REPORT a_CANCEL_REJECT))] (fun t k => XS.aload X2.here hx rfl (hb hby at_92) rfl rfl k) ?_
    refine own_go T2 m 95 #[iv x0, iv x1, iv (x1 &&& (7 : Int32)), iv 68, rv (own_of (68 : Int32) a_OTHER a_NEW_ORDER_SINGLE a_CANCEL_REQUEST a_CANCEL_REPLACE_REQUEST a_EXECUTION_REPORT a_CANCEL_REJECT)] [(.int 68), (.ref (own_of (68 : Int32) a_OTHER a_NEW_ORDER_SINGLE a_CANCEL_REQUEST a_CANCEL_REPLACE_REQUEST a_EXECUTION_REPORT a_CANCEL_REJECT))] (fun t k => XS.iloadN X2.here hx rfl (hb hby at_94) rfl k) ?_
    obtain ⟨_, T3, L3, X3, ⟨rfl, e3, rfl⟩, st3⟩ := own_static X2 hx hZ (y := (⟨"org/orderloom/book/TypeOfPinLaw", "expected", "(I)Lorg/orderloom/book/OrderMessage$Type;"⟩ : MethodName)) hown (own_w hw 6 rfl) (own_w hw 7 rfl) (own_w hw 8 rfl) (own_w hw 9 rfl) (by decide) (rm2 l Z a0 hw [] (68 : Int32) a_OTHER a_NEW_ORDER_SINGLE a_CANCEL_REQUEST a_CANCEL_REPLACE_REQUEST a_EXECUTION_REPORT a_CANCEL_REJECT h0 S_OTHER S_NEW_ORDER_SINGLE S_CANCEL_REQUEST S_CANCEL_REPLACE_REQUEST S_EXECUTION_REPORT S_CANCEL_REJECT) e2 1 (argsL := [(.int 68)]) (rest := [(.ref (own_of (68 : Int32) a_OTHER a_NEW_ORDER_SINGLE a_CANCEL_REQUEST a_CANCEL_REPLACE_REQUEST a_EXECUTION_REPORT a_CANCEL_REJECT))]) (Ls := #[iv x0, iv x1, iv (x1 &&& (7 : Int32)), iv 68, rv (own_of (68 : Int32) a_OTHER a_NEW_ORDER_SINGLE a_CANCEL_REQUEST a_CANCEL_REPLACE_REQUEST a_EXECUTION_REPORT a_CANCEL_REJECT)]) (by rw [hml]; rfl) (lenOf pd__I_Lorg_orderloom_book_OrderMessage_Type_ rfl) rfl rfl (Nat.le_of_eq rfl) (hb hby at_95) (by decide) (by decide) (by decide) (by decide)
    replace X3 := own_nil X3
    refine own_go T3 m 98 #[iv x0, iv x1, iv (x1 &&& (7 : Int32)), iv 68, rv (own_of (68 : Int32) a_OTHER a_NEW_ORDER_SINGLE a_CANCEL_REQUEST a_CANCEL_REPLACE_REQUEST a_EXECUTION_REPORT a_CANCEL_REJECT)] [(.ref (own_of (68 : Int32) a_OTHER a_NEW_ORDER_SINGLE a_CANCEL_REQUEST a_CANCEL_REPLACE_REQUEST a_EXECUTION_REPORT a_CANCEL_REJECT)), (.ref (own_of (68 : Int32) a_OTHER a_NEW_ORDER_SINGLE a_CANCEL_REQUEST a_CANCEL_REPLACE_REQUEST a_EXECUTION_REPORT a_CANCEL_REJECT))] (st3) ?_
    refine own_go T3 m 101 #[iv x0, iv x1, iv (x1 &&& (7 : Int32)), iv 68, rv (own_of (68 : Int32) a_OTHER a_NEW_ORDER_SINGLE a_CANCEL_REQUEST a_CANCEL_REPLACE_REQUEST a_EXECUTION_REPORT a_CANCEL_REJECT)] [] (fun t k => Jvm.RoadKit.acmp (g := (mkF m 98 #[iv x0, iv x1, iv (x1 &&& (7 : Int32)), iv 68, rv (own_of (68 : Int32) a_OTHER a_NEW_ORDER_SINGLE a_CANCEL_REQUEST a_CANCEL_REPLACE_REQUEST a_EXECUTION_REPORT a_CANCEL_REJECT)] [(.ref (own_of (68 : Int32) a_OTHER a_NEW_ORDER_SINGLE a_CANCEL_REQUEST a_CANCEL_REPLACE_REQUEST a_EXECUTION_REPORT a_CANCEL_REJECT)), (.ref (own_of (68 : Int32) a_OTHER a_NEW_ORDER_SINGLE a_CANCEL_REQUEST a_CANCEL_REPLACE_REQUEST a_EXECUTION_REPORT a_CANCEL_REJECT))])) X3 hx rfl rfl rfl (pc0 := 98) (pc' := 101) (same := true) rfl (hb hby at_98) rfl (decide_eq_true rfl) (by decide) (by decide) k) ?_
    refine own_go T3 m 102 #[iv x0, iv x1, iv (x1 &&& (7 : Int32)), iv 68, rv (own_of (68 : Int32) a_OTHER a_NEW_ORDER_SINGLE a_CANCEL_REQUEST a_CANCEL_REPLACE_REQUEST a_EXECUTION_REPORT a_CANCEL_REJECT)] [(.int 1)] (fun t k => XS.iconst X3.here hx rfl (hb hby at_101) k) ?_
    refine own_go T3 m 106 #[iv x0, iv x1, iv (x1 &&& (7 : Int32)), iv 68, rv (own_of (68 : Int32) a_OTHER a_NEW_ORDER_SINGLE a_CANCEL_REQUEST a_CANCEL_REPLACE_REQUEST a_EXECUTION_REPORT a_CANCEL_REJECT)] [(.int 1)] (fun t k => XS.goto X3.here hx rfl (pc0 := 102) (pc' := 106) rfl (hb hby at_102) (by decide) (by decide) k) ?_
    refine own_retZ X3 hx hlk hret (by decide) (hb hby at_106) (by decide) (by decide) ?_
    exact ⟨rfl, N0⟩
  · refine own_go T0 m 15 #[iv x0, iv x1, iv (x1 &&& (7 : Int32)), .unset, .unset] [] (fun t k => XS.ifYes X0.here hx rfl (pc0 := 6) (pc' := 15) rfl (hb hby at_6) rfl ((if0 _ _).trans (feq hc6_1).2) (by decide) (by decide) k) ?_
    refine own_go T0 m 16 #[iv x0, iv x1, iv (x1 &&& (7 : Int32)), .unset, .unset] [(.int (x1 &&& (7 : Int32)))] (fun t k => XS.iloadN X0.here hx rfl (hb hby at_15) rfl k) ?_
    refine own_go T0 m 17 #[iv x0, iv x1, iv (x1 &&& (7 : Int32)), .unset, .unset] [(.int 1), (.int (x1 &&& (7 : Int32)))] (fun t k => XS.iconst X0.here hx rfl (hb hby at_16) k) ?_
    by_cases hc17_4 : (x1 &&& (7 : Int32)) = (1 : Int32)
    · refine own_go T0 m 20 #[iv x0, iv x1, iv (x1 &&& (7 : Int32)), .unset, .unset] [] (fun t k => XS.icmpNo X0.here hx rfl (hb hby at_17) rfl (teq hc17_4).2 k) ?_
      refine own_go T0 m 22 #[iv x0, iv x1, iv (x1 &&& (7 : Int32)), .unset, .unset] [(.int 70)] (fun t k => XS.bipush X0.here hx rfl (hb hby at_20) k) ?_
      refine own_go T0 m 23 #[iv x0, iv x1, iv (x1 &&& (7 : Int32)), iv 70, .unset] [] (fun t k => XS.istoreN X0.here hx rfl (hb hby at_22) rfl rfl k) ?_
      refine own_go T0 m 86 #[iv x0, iv x1, iv (x1 &&& (7 : Int32)), iv 70, .unset] [] (fun t k => XS.goto X0.here hx rfl (pc0 := 23) (pc' := 86) rfl (hb hby at_23) (by decide) (by decide) k) ?_
      refine own_go T0 m 87 #[iv x0, iv x1, iv (x1 &&& (7 : Int32)), iv 70, .unset] [(.int 70)] (fun t k => XS.iloadN X0.here hx rfl (hb hby at_86) rfl k) ?_
      obtain ⟨_, T5, L5, X5, ⟨rfl, e5, rfl⟩, st5⟩ := own_static X0 hx hZ (y := (⟨"org/orderloom/book/OrderMessage$Type", "of", "(I)Lorg/orderloom/book/OrderMessage$Type;"⟩ : MethodName)) hown (own_w hw 0 rfl) (own_w hw 1 rfl) (own_w hw 2 rfl) (own_w hw 3 rfl) (by decide) (rm1 l Z a0 hw [] (70 : Int32) a_OTHER a_NEW_ORDER_SINGLE a_CANCEL_REQUEST a_CANCEL_REPLACE_REQUEST a_EXECUTION_REPORT a_CANCEL_REJECT h0 S_OTHER S_NEW_ORDER_SINGLE S_CANCEL_REQUEST S_CANCEL_REPLACE_REQUEST S_EXECUTION_REPORT S_CANCEL_REJECT) e0 0 (argsL := [(.int 70)]) (rest := []) (Ls := #[iv x0, iv x1, iv (x1 &&& (7 : Int32)), iv 70, .unset]) (by rw [hml]; rfl) (lenOf pd__I_Lorg_orderloom_book_OrderMessage_Type_ rfl) rfl rfl (Nat.le_of_eq rfl) (hb hby at_87) (by decide) (by decide) (by decide) (by decide)
      replace X5 := own_nil X5
      refine own_go T5 m 90 #[iv x0, iv x1, iv (x1 &&& (7 : Int32)), iv 70, .unset] [(.ref (own_of (70 : Int32) a_OTHER a_NEW_ORDER_SINGLE a_CANCEL_REQUEST a_CANCEL_REPLACE_REQUEST a_EXECUTION_REPORT a_CANCEL_REJECT))] (st5) ?_
      refine own_go T5 m 92 #[iv x0, iv x1, iv (x1 &&& (7 : Int32)), iv 70, rv (own_of (70 : Int32) a_OTHER a_NEW_ORDER_SINGLE a_CANCEL_REQUEST a_CANCEL_REPLACE_REQUEST a_EXECUTION_REPORT a_CANCEL_REJECT)] [] (fun t k => XS.astore X5.here hx rfl (hb hby at_90) rfl rfl rfl k) ?_
      refine own_go T5 m 94 #[iv x0, iv x1, iv (x1 &&& (7 : Int32)), iv 70, rv (own_of (70 : Int32) a_OTHER a_NEW_ORDER_SINGLE a_CANCEL_REQUEST a_CANCEL_REPLACE_REQUEST a_EXECUTION_REPORT a_CANCEL_REJECT)] [(.ref (own_of (70 : Int32) a_OTHER a_NEW_ORDER_SINGLE a_CANCEL_REQUEST a_CANCEL_REPLACE_REQUEST a_EXECUTION_REPORT a_CANCEL_REJECT))] (fun t k => XS.aload X5.here hx rfl (hb hby at_92) rfl rfl k) ?_
      refine own_go T5 m 95 #[iv x0, iv x1, iv (x1 &&& (7 : Int32)), iv 70, rv (own_of (70 : Int32) a_OTHER a_NEW_ORDER_SINGLE a_CANCEL_REQUEST a_CANCEL_REPLACE_REQUEST a_EXECUTION_REPORT a_CANCEL_REJECT)] [(.int 70), (.ref (own_of (70 : Int32) a_OTHER a_NEW_ORDER_SINGLE a_CANCEL_REQUEST a_CANCEL_REPLACE_REQUEST a_EXECUTION_REPORT a_CANCEL_REJECT))] (fun t k => XS.iloadN X5.here hx rfl (hb hby at_94) rfl k) ?_
      obtain ⟨_, T6, L6, X6, ⟨rfl, e6, rfl⟩, st6⟩ := own_static X5 hx hZ (y := (⟨"org/orderloom/book/TypeOfPinLaw", "expected", "(I)Lorg/orderloom/book/OrderMessage$Type;"⟩ : MethodName)) hown (own_w hw 6 rfl) (own_w hw 7 rfl) (own_w hw 8 rfl) (own_w hw 9 rfl) (by decide) (rm2 l Z a0 hw [] (70 : Int32) a_OTHER a_NEW_ORDER_SINGLE a_CANCEL_REQUEST a_CANCEL_REPLACE_REQUEST a_EXECUTION_REPORT a_CANCEL_REJECT h0 S_OTHER S_NEW_ORDER_SINGLE S_CANCEL_REQUEST S_CANCEL_REPLACE_REQUEST S_EXECUTION_REPORT S_CANCEL_REJECT) e5 1 (argsL := [(.int 70)]) (rest := [(.ref (own_of (70 : Int32) a_OTHER a_NEW_ORDER_SINGLE a_CANCEL_REQUEST a_CANCEL_REPLACE_REQUEST a_EXECUTION_REPORT a_CANCEL_REJECT))]) (Ls := #[iv x0, iv x1, iv (x1 &&& (7 : Int32)), iv 70, rv (own_of (70 : Int32) a_OTHER a_NEW_ORDER_SINGLE a_CANCEL_REQUEST a_CANCEL_REPLACE_REQUEST a_EXECUTION_REPORT a_CANCEL_REJECT)]) (by rw [hml]; rfl) (lenOf pd__I_Lorg_orderloom_book_OrderMessage_Type_ rfl) rfl rfl (Nat.le_of_eq rfl) (hb hby at_95) (by decide) (by decide) (by decide) (by decide)
      replace X6 := own_nil X6
      refine own_go T6 m 98 #[iv x0, iv x1, iv (x1 &&& (7 : Int32)), iv 70, rv (own_of (70 : Int32) a_OTHER a_NEW_ORDER_SINGLE a_CANCEL_REQUEST a_CANCEL_REPLACE_REQUEST a_EXECUTION_REPORT a_CANCEL_REJECT)] [(.ref (own_of (70 : Int32) a_OTHER a_NEW_ORDER_SINGLE a_CANCEL_REQUEST a_CANCEL_REPLACE_REQUEST a_EXECUTION_REPORT a_CANCEL_REJECT)), (.ref (own_of (70 : Int32) a_OTHER a_NEW_ORDER_SINGLE a_CANCEL_REQUEST a_CANCEL_REPLACE_REQUEST a_EXECUTION_REPORT a_CANCEL_REJECT))] (st6) ?_
      refine own_go T6 m 101 #[iv x0, iv x1, iv (x1 &&& (7 : Int32)), iv 70, rv (own_of (70 : Int32) a_OTHER a_NEW_ORDER_SINGLE a_CANCEL_REQUEST a_CANCEL_REPLACE_REQUEST a_EXECUTION_REPORT a_CANCEL_REJECT)] [] (fun t k => Jvm.RoadKit.acmp (g := (mkF m 98 #[iv x0, iv x1, iv (x1 &&& (7 : Int32)), iv 70, rv (own_of (70 : Int32) a_OTHER a_NEW_ORDER_SINGLE a_CANCEL_REQUEST a_CANCEL_REPLACE_REQUEST a_EXECUTION_REPORT a_CANCEL_REJECT)] [(.ref (own_of (70 : Int32) a_OTHER a_NEW_ORDER_SINGLE a_CANCEL_REQUEST a_CANCEL_REPLACE_REQUEST a_EXECUTION_REPORT a_CANCEL_REJECT)), (.ref (own_of (70 : Int32) a_OTHER a_NEW_ORDER_SINGLE a_CANCEL_REQUEST a_CANCEL_REPLACE_REQUEST a_EXECUTION_REPORT a_CANCEL_REJECT))])) X6 hx rfl rfl rfl (pc0 := 98) (pc' := 101) (same := true) rfl (hb hby at_98) rfl (decide_eq_true rfl) (by decide) (by decide) k) ?_
      refine own_go T6 m 102 #[iv x0, iv x1, iv (x1 &&& (7 : Int32)), iv 70, rv (own_of (70 : Int32) a_OTHER a_NEW_ORDER_SINGLE a_CANCEL_REQUEST a_CANCEL_REPLACE_REQUEST a_EXECUTION_REPORT a_CANCEL_REJECT)] [(.int 1)] (fun t k => XS.iconst X6.here hx rfl (hb hby at_101) k) ?_
      refine own_go T6 m 106 #[iv x0, iv x1, iv (x1 &&& (7 : Int32)), iv 70, rv (own_of (70 : Int32) a_OTHER a_NEW_ORDER_SINGLE a_CANCEL_REQUEST a_CANCEL_REPLACE_REQUEST a_EXECUTION_REPORT a_CANCEL_REJECT)] [(.int 1)] (fun t k => XS.goto X6.here hx rfl (pc0 := 102) (pc' := 106) rfl (hb hby at_102) (by decide) (by decide) k) ?_
      refine own_retZ X6 hx hlk hret (by decide) (hb hby at_106) (by decide) (by decide) ?_
      exact ⟨rfl, N0⟩
    · refine own_go T0 m 26 #[iv x0, iv x1, iv (x1 &&& (7 : Int32)), .unset, .unset] [] (fun t k => XS.icmpYes X0.here hx rfl (pc0 := 17) (pc' := 26) rfl (hb hby at_17) rfl (feq hc17_4).2 (by decide) (by decide) k) ?_
      refine own_go T0 m 27 #[iv x0, iv x1, iv (x1 &&& (7 : Int32)), .unset, .unset] [(.int (x1 &&& (7 : Int32)))] (fun t k => XS.iloadN X0.here hx rfl (hb hby at_26) rfl k) ?_
      refine own_go T0 m 28 #[iv x0, iv x1, iv (x1 &&& (7 : Int32)), .unset, .unset] [(.int 2), (.int (x1 &&& (7 : Int32)))] (fun t k => XS.iconst X0.here hx rfl (hb hby at_27) k) ?_
      by_cases hc28_7 : (x1 &&& (7 : Int32)) = (2 : Int32)
      · refine own_go T0 m 31 #[iv x0, iv x1, iv (x1 &&& (7 : Int32)), .unset, .unset] [] (fun t k => XS.icmpNo X0.here hx rfl (hb hby at_28) rfl (teq hc28_7).2 k) ?_
        refine own_go T0 m 33 #[iv x0, iv x1, iv (x1 &&& (7 : Int32)), .unset, .unset] [(.int 71)] (fun t k => XS.bipush X0.here hx rfl (hb hby at_31) k) ?_
        refine own_go T0 m 34 #[iv x0, iv x1, iv (x1 &&& (7 : Int32)), iv 71, .unset] [] (fun t k => XS.istoreN X0.here hx rfl (hb hby at_33) rfl rfl k) ?_
        refine own_go T0 m 86 #[iv x0, iv x1, iv (x1 &&& (7 : Int32)), iv 71, .unset] [] (fun t k => XS.goto X0.here hx rfl (pc0 := 34) (pc' := 86) rfl (hb hby at_34) (by decide) (by decide) k) ?_
        refine own_go T0 m 87 #[iv x0, iv x1, iv (x1 &&& (7 : Int32)), iv 71, .unset] [(.int 71)] (fun t k => XS.iloadN X0.here hx rfl (hb hby at_86) rfl k) ?_
        obtain ⟨_, T8, L8, X8, ⟨rfl, e8, rfl⟩, st8⟩ := own_static X0 hx hZ (y := (⟨"org/orderloom/book/OrderMessage$Type", "of", "(I)Lorg/orderloom/book/OrderMessage$Type;"⟩ : MethodName)) hown (own_w hw 0 rfl) (own_w hw 1 rfl) (own_w hw 2 rfl) (own_w hw 3 rfl) (by decide) (rm1 l Z a0 hw [] (71 : Int32) a_OTHER a_NEW_ORDER_SINGLE a_CANCEL_REQUEST a_CANCEL_REPLACE_REQUEST a_EXECUTION_REPORT a_CANCEL_REJECT h0 S_OTHER S_NEW_ORDER_SINGLE S_CANCEL_REQUEST S_CANCEL_REPLACE_REQUEST S_EXECUTION_REPORT S_CANCEL_REJECT) e0 0 (argsL := [(.int 71)]) (rest := []) (Ls := #[iv x0, iv x1, iv (x1 &&& (7 : Int32)), iv 71, .unset]) (by rw [hml]; rfl) (lenOf pd__I_Lorg_orderloom_book_OrderMessage_Type_ rfl) rfl rfl (Nat.le_of_eq rfl) (hb hby at_87) (by decide) (by decide) (by decide) (by decide)
        replace X8 := own_nil X8
        refine own_go T8 m 90 #[iv x0, iv x1, iv (x1 &&& (7 : Int32)), iv 71, .unset] [(.ref (own_of (71 : Int32) a_OTHER a_NEW_ORDER_SINGLE a_CANCEL_REQUEST a_CANCEL_REPLACE_REQUEST a_EXECUTION_REPORT a_CANCEL_REJECT))] (st8) ?_
        refine own_go T8 m 92 #[iv x0, iv x1, iv (x1 &&& (7 : Int32)), iv 71, rv (own_of (71 : Int32) a_OTHER a_NEW_ORDER_SINGLE a_CANCEL_REQUEST a_CANCEL_REPLACE_REQUEST a_EXECUTION_REPORT a_CANCEL_REJECT)] [] (fun t k => XS.astore X8.here hx rfl (hb hby at_90) rfl rfl rfl k) ?_
        refine own_go T8 m 94 #[iv x0, iv x1, iv (x1 &&& (7 : Int32)), iv 71, rv (own_of (71 : Int32) a_OTHER a_NEW_ORDER_SINGLE a_CANCEL_REQUEST a_CANCEL_REPLACE_REQUEST a_EXECUTION_REPORT a_CANCEL_REJECT)] [(.ref (own_of (71 : Int32) a_OTHER a_NEW_ORDER_SINGLE a_CANCEL_REQUEST a_CANCEL_REPLACE_REQUEST a_EXECUTION_REPORT a_CANCEL_REJECT))] (fun t k => XS.aload X8.here hx rfl (hb hby at_92) rfl rfl k) ?_
        refine own_go T8 m 95 #[iv x0, iv x1, iv (x1 &&& (7 : Int32)), iv 71, rv (own_of (71 : Int32) a_OTHER a_NEW_ORDER_SINGLE a_CANCEL_REQUEST a_CANCEL_REPLACE_REQUEST a_EXECUTION_REPORT a_CANCEL_REJECT)] [(.int 71), (.ref (own_of (71 : Int32) a_OTHER a_NEW_ORDER_SINGLE a_CANCEL_REQUEST a_CANCEL_REPLACE_REQUEST a_EXECUTION_REPORT a_CANCEL_REJECT))] (fun t k => XS.iloadN X8.here hx rfl (hb hby at_94) rfl k) ?_
        obtain ⟨_, T9, L9, X9, ⟨rfl, e9, rfl⟩, st9⟩ := own_static X8 hx hZ (y := (⟨"org/orderloom/book/TypeOfPinLaw", "expected", "(I)Lorg/orderloom/book/OrderMessage$Type;"⟩ : MethodName)) hown (own_w hw 6 rfl) (own_w hw 7 rfl) (own_w hw 8 rfl) (own_w hw 9 rfl) (by decide) (rm2 l Z a0 hw [] (71 : Int32) a_OTHER a_NEW_ORDER_SINGLE a_CANCEL_REQUEST a_CANCEL_REPLACE_REQUEST a_EXECUTION_REPORT a_CANCEL_REJECT h0 S_OTHER S_NEW_ORDER_SINGLE S_CANCEL_REQUEST S_CANCEL_REPLACE_REQUEST S_EXECUTION_REPORT S_CANCEL_REJECT) e8 1 (argsL := [(.int 71)]) (rest := [(.ref (own_of (71 : Int32) a_OTHER a_NEW_ORDER_SINGLE a_CANCEL_REQUEST a_CANCEL_REPLACE_REQUEST a_EXECUTION_REPORT a_CANCEL_REJECT))]) (Ls := #[iv x0, iv x1, iv (x1 &&& (7 : Int32)), iv 71, rv (own_of (71 : Int32) a_OTHER a_NEW_ORDER_SINGLE a_CANCEL_REQUEST a_CANCEL_REPLACE_REQUEST a_EXECUTION_REPORT a_CANCEL_REJECT)]) (by rw [hml]; rfl) (lenOf pd__I_Lorg_orderloom_book_OrderMessage_Type_ rfl) rfl rfl (Nat.le_of_eq rfl) (hb hby at_95) (by decide) (by decide) (by decide) (by decide)
        replace X9 := own_nil X9
        refine own_go T9 m 98 #[iv x0, iv x1, iv (x1 &&& (7 : Int32)), iv 71, rv (own_of (71 : Int32) a_OTHER a_NEW_ORDER_SINGLE a_CANCEL_REQUEST a_CANCEL_REPLACE_REQUEST a_EXECUTION_REPORT a_CANCEL_REJECT)] [(.ref (own_of (71 : Int32) a_OTHER a_NEW_ORDER_SINGLE a_CANCEL_REQUEST a_CANCEL_REPLACE_REQUEST a_EXECUTION_REPORT a_CANCEL_REJECT)), (.ref (own_of (71 : Int32) a_OTHER a_NEW_ORDER_SINGLE a_CANCEL_REQUEST a_CANCEL_REPLACE_REQUEST a_EXECUTION_REPORT a_CANCEL_REJECT))] (st9) ?_
        refine own_go T9 m 101 #[iv x0, iv x1, iv (x1 &&& (7 : Int32)), iv 71, rv (own_of (71 : Int32) a_OTHER a_NEW_ORDER_SINGLE a_CANCEL_REQUEST a_CANCEL_REPLACE_REQUEST a_EXECUTION_REPORT a_CANCEL_REJECT)] [] (fun t k => Jvm.RoadKit.acmp (g := (mkF m 98 #[iv x0, iv x1, iv (x1 &&& (7 : Int32)), iv 71, rv (own_of (71 : Int32) a_OTHER a_NEW_ORDER_SINGLE a_CANCEL_REQUEST a_CANCEL_REPLACE_REQUEST a_EXECUTION_REPORT a_CANCEL_REJECT)] [(.ref (own_of (71 : Int32) a_OTHER a_NEW_ORDER_SINGLE a_CANCEL_REQUEST a_CANCEL_REPLACE_REQUEST a_EXECUTION_REPORT a_CANCEL_REJECT)), (.ref (own_of (71 : Int32) a_OTHER a_NEW_ORDER_SINGLE a_CANCEL_REQUEST a_CANCEL_REPLACE_REQUEST a_EXECUTION_REPORT a_CANCEL_REJECT))])) X9 hx rfl rfl rfl (pc0 := 98) (pc' := 101) (same := true) rfl (hb hby at_98) rfl (decide_eq_true rfl) (by decide) (by decide) k) ?_
        refine own_go T9 m 102 #[iv x0, iv x1, iv (x1 &&& (7 : Int32)), iv 71, rv (own_of (71 : Int32) a_OTHER a_NEW_ORDER_SINGLE a_CANCEL_REQUEST a_CANCEL_REPLACE_REQUEST a_EXECUTION_REPORT a_CANCEL_REJECT)] [(.int 1)] (fun t k => XS.iconst X9.here hx rfl (hb hby at_101) k) ?_
        refine own_go T9 m 106 #[iv x0, iv x1, iv (x1 &&& (7 : Int32)), iv 71, rv (own_of (71 : Int32) a_OTHER a_NEW_ORDER_SINGLE a_CANCEL_REQUEST a_CANCEL_REPLACE_REQUEST a_EXECUTION_REPORT a_CANCEL_REJECT)] [(.int 1)] (fun t k => XS.goto X9.here hx rfl (pc0 := 102) (pc' := 106) rfl (hb hby at_102) (by decide) (by decide) k) ?_
        refine own_retZ X9 hx hlk hret (by decide) (hb hby at_106) (by decide) (by decide) ?_
        exact ⟨rfl, N0⟩
      · refine own_go T0 m 37 #[iv x0, iv x1, iv (x1 &&& (7 : Int32)), .unset, .unset] [] (fun t k => XS.icmpYes X0.here hx rfl (pc0 := 28) (pc' := 37) rfl (hb hby at_28) rfl (feq hc28_7).2 (by decide) (by decide) k) ?_
        refine own_go T0 m 38 #[iv x0, iv x1, iv (x1 &&& (7 : Int32)), .unset, .unset] [(.int (x1 &&& (7 : Int32)))] (fun t k => XS.iloadN X0.here hx rfl (hb hby at_37) rfl k) ?_
        refine own_go T0 m 39 #[iv x0, iv x1, iv (x1 &&& (7 : Int32)), .unset, .unset] [(.int 3), (.int (x1 &&& (7 : Int32)))] (fun t k => XS.iconst X0.here hx rfl (hb hby at_38) k) ?_
        by_cases hc39_10 : (x1 &&& (7 : Int32)) = (3 : Int32)
        · refine own_go T0 m 42 #[iv x0, iv x1, iv (x1 &&& (7 : Int32)), .unset, .unset] [] (fun t k => XS.icmpNo X0.here hx rfl (hb hby at_39) rfl (teq hc39_10).2 k) ?_
          refine own_go T0 m 44 #[iv x0, iv x1, iv (x1 &&& (7 : Int32)), .unset, .unset] [(.int 56)] (fun t k => XS.bipush X0.here hx rfl (hb hby at_42) k) ?_
          refine own_go T0 m 45 #[iv x0, iv x1, iv (x1 &&& (7 : Int32)), iv 56, .unset] [] (fun t k => XS.istoreN X0.here hx rfl (hb hby at_44) rfl rfl k) ?_
          refine own_go T0 m 86 #[iv x0, iv x1, iv (x1 &&& (7 : Int32)), iv 56, .unset] [] (fun t k => XS.goto X0.here hx rfl (pc0 := 45) (pc' := 86) rfl (hb hby at_45) (by decide) (by decide) k) ?_
          refine own_go T0 m 87 #[iv x0, iv x1, iv (x1 &&& (7 : Int32)), iv 56, .unset] [(.int 56)] (fun t k => XS.iloadN X0.here hx rfl (hb hby at_86) rfl k) ?_
          obtain ⟨_, T11, L11, X11, ⟨rfl, e11, rfl⟩, st11⟩ := own_static X0 hx hZ (y := (⟨"org/orderloom/book/OrderMessage$Type", "of", "(I)Lorg/orderloom/book/OrderMessage$Type;"⟩ : MethodName)) hown (own_w hw 0 rfl) (own_w hw 1 rfl) (own_w hw 2 rfl) (own_w hw 3 rfl) (by decide) (rm1 l Z a0 hw [] (56 : Int32) a_OTHER a_NEW_ORDER_SINGLE a_CANCEL_REQUEST a_CANCEL_REPLACE_REQUEST a_EXECUTION_REPORT a_CANCEL_REJECT h0 S_OTHER S_NEW_ORDER_SINGLE S_CANCEL_REQUEST S_CANCEL_REPLACE_REQUEST S_EXECUTION_REPORT S_CANCEL_REJECT) e0 0 (argsL := [(.int 56)]) (rest := []) (Ls := #[iv x0, iv x1, iv (x1 &&& (7 : Int32)), iv 56, .unset]) (by rw [hml]; rfl) (lenOf pd__I_Lorg_orderloom_book_OrderMessage_Type_ rfl) rfl rfl (Nat.le_of_eq rfl) (hb hby at_87) (by decide) (by decide) (by decide) (by decide)
          replace X11 := own_nil X11
          refine own_go T11 m 90 #[iv x0, iv x1, iv (x1 &&& (7 : Int32)), iv 56, .unset] [(.ref (own_of (56 : Int32) a_OTHER a_NEW_ORDER_SINGLE a_CANCEL_REQUEST a_CANCEL_REPLACE_REQUEST a_EXECUTION_REPORT a_CANCEL_REJECT))] (st11) ?_
          refine own_go T11 m 92 #[iv x0, iv x1, iv (x1 &&& (7 : Int32)), iv 56, rv (own_of (56 : Int32) a_OTHER a_NEW_ORDER_SINGLE a_CANCEL_REQUEST a_CANCEL_REPLACE_REQUEST a_EXECUTION_REPORT a_CANCEL_REJECT)] [] (fun t k => XS.astore X11.here hx rfl (hb hby at_90) rfl rfl rfl k) ?_
          refine own_go T11 m 94 #[iv x0, iv x1, iv (x1 &&& (7 : Int32)), iv 56, rv (own_of (56 : Int32) a_OTHER a_NEW_ORDER_SINGLE a_CANCEL_REQUEST a_CANCEL_REPLACE_REQUEST a_EXECUTION_REPORT a_CANCEL_REJECT)] [(.ref (own_of (56 : Int32) a_OTHER a_NEW_ORDER_SINGLE a_CANCEL_REQUEST a_CANCEL_REPLACE_REQUEST a_EXECUTION_REPORT a_CANCEL_REJECT))] (fun t k => XS.aload X11.here hx rfl (hb hby at_92) rfl rfl k) ?_
          refine own_go T11 m 95 #[iv x0, iv x1, iv (x1 &&& (7 : Int32)), iv 56, rv (own_of (56 : Int32) a_OTHER a_NEW_ORDER_SINGLE a_CANCEL_REQUEST a_CANCEL_REPLACE_REQUEST a_EXECUTION_REPORT a_CANCEL_REJECT)] [(.int 56), (.ref (own_of (56 : Int32) a_OTHER a_NEW_ORDER_SINGLE a_CANCEL_REQUEST a_CANCEL_REPLACE_REQUEST a_EXECUTION_REPORT a_CANCEL_REJECT))] (fun t k => XS.iloadN X11.here hx rfl (hb hby at_94) rfl k) ?_
          obtain ⟨_, T12, L12, X12, ⟨rfl, e12, rfl⟩, st12⟩ := own_static X11 hx hZ (y := (⟨"org/orderloom/book/TypeOfPinLaw", "expected", "(I)Lorg/orderloom/book/OrderMessage$Type;"⟩ : MethodName)) hown (own_w hw 6 rfl) (own_w hw 7 rfl) (own_w hw 8 rfl) (own_w hw 9 rfl) (by decide) (rm2 l Z a0 hw [] (56 : Int32) a_OTHER a_NEW_ORDER_SINGLE a_CANCEL_REQUEST a_CANCEL_REPLACE_REQUEST a_EXECUTION_REPORT a_CANCEL_REJECT h0 S_OTHER S_NEW_ORDER_SINGLE S_CANCEL_REQUEST S_CANCEL_REPLACE_REQUEST S_EXECUTION_REPORT S_CANCEL_REJECT) e11 1 (argsL := [(.int 56)]) (rest := [(.ref (own_of (56 : Int32) a_OTHER a_NEW_ORDER_SINGLE a_CANCEL_REQUEST a_CANCEL_REPLACE_REQUEST a_EXECUTION_REPORT a_CANCEL_REJECT))]) (Ls := #[iv x0, iv x1, iv (x1 &&& (7 : Int32)), iv 56, rv (own_of (56 : Int32) a_OTHER a_NEW_ORDER_SINGLE a_CANCEL_REQUEST a_CANCEL_REPLACE_REQUEST a_EXECUTION_REPORT a_CANCEL_REJECT)]) (by rw [hml]; rfl) (lenOf pd__I_Lorg_orderloom_book_OrderMessage_Type_ rfl) rfl rfl (Nat.le_of_eq rfl) (hb hby at_95) (by decide) (by decide) (by decide) (by decide)
          replace X12 := own_nil X12
          refine own_go T12 m 98 #[iv x0, iv x1, iv (x1 &&& (7 : Int32)), iv 56, rv (own_of (56 : Int32) a_OTHER a_NEW_ORDER_SINGLE a_CANCEL_REQUEST a_CANCEL_REPLACE_REQUEST a_EXECUTION_REPORT a_CANCEL_REJECT)] [(.ref (own_of (56 : Int32) a_OTHER a_NEW_ORDER_SINGLE a_CANCEL_REQUEST a_CANCEL_REPLACE_REQUEST a_EXECUTION_REPORT a_CANCEL_REJECT)), (.ref (own_of (56 : Int32) a_OTHER a_NEW_ORDER_SINGLE a_CANCEL_REQUEST a_CANCEL_REPLACE_REQUEST a_EXECUTION_REPORT a_CANCEL_REJECT))] (st12) ?_
          refine own_go T12 m 101 #[iv x0, iv x1, iv (x1 &&& (7 : Int32)), iv 56, rv (own_of (56 : Int32) a_OTHER a_NEW_ORDER_SINGLE a_CANCEL_REQUEST a_CANCEL_REPLACE_REQUEST a_EXECUTION_REPORT a_CANCEL_REJECT)] [] (fun t k => Jvm.RoadKit.acmp (g := (mkF m 98 #[iv x0, iv x1, iv (x1 &&& (7 : Int32)), iv 56, rv (own_of (56 : Int32) a_OTHER a_NEW_ORDER_SINGLE a_CANCEL_REQUEST a_CANCEL_REPLACE_REQUEST a_EXECUTION_REPORT a_CANCEL_REJECT)] [(.ref (own_of (56 : Int32) a_OTHER a_NEW_ORDER_SINGLE a_CANCEL_REQUEST a_CANCEL_REPLACE_REQUEST a_EXECUTION_REPORT a_CANCEL_REJECT)), (.ref (own_of (56 : Int32) a_OTHER a_NEW_ORDER_SINGLE a_CANCEL_REQUEST a_CANCEL_REPLACE_REQUEST a_EXECUTION_REPORT a_CANCEL_REJECT))])) X12 hx rfl rfl rfl (pc0 := 98) (pc' := 101) (same := true) rfl (hb hby at_98) rfl (decide_eq_true rfl) (by decide) (by decide) k) ?_
          refine own_go T12 m 102 #[iv x0, iv x1, iv (x1 &&& (7 : Int32)), iv 56, rv (own_of (56 : Int32) a_OTHER a_NEW_ORDER_SINGLE a_CANCEL_REQUEST a_CANCEL_REPLACE_REQUEST a_EXECUTION_REPORT a_CANCEL_REJECT)] [(.int 1)] (fun t k => XS.iconst X12.here hx rfl (hb hby at_101) k) ?_
          refine own_go T12 m 106 #[iv x0, iv x1, iv (x1 &&& (7 : Int32)), iv 56, rv (own_of (56 : Int32) a_OTHER a_NEW_ORDER_SINGLE a_CANCEL_REQUEST a_CANCEL_REPLACE_REQUEST a_EXECUTION_REPORT a_CANCEL_REJECT)] [(.int 1)] (fun t k => XS.goto X12.here hx rfl (pc0 := 102) (pc' := 106) rfl (hb hby at_102) (by decide) (by decide) k) ?_
          refine own_retZ X12 hx hlk hret (by decide) (hb hby at_106) (by decide) (by decide) ?_
          exact ⟨rfl, N0⟩
        · refine own_go T0 m 48 #[iv x0, iv x1, iv (x1 &&& (7 : Int32)), .unset, .unset] [] (fun t k => XS.icmpYes X0.here hx rfl (pc0 := 39) (pc' := 48) rfl (hb hby at_39) rfl (feq hc39_10).2 (by decide) (by decide) k) ?_
          refine own_go T0 m 49 #[iv x0, iv x1, iv (x1 &&& (7 : Int32)), .unset, .unset] [(.int (x1 &&& (7 : Int32)))] (fun t k => XS.iloadN X0.here hx rfl (hb hby at_48) rfl k) ?_
          refine own_go T0 m 50 #[iv x0, iv x1, iv (x1 &&& (7 : Int32)), .unset, .unset] [(.int 4), (.int (x1 &&& (7 : Int32)))] (fun t k => XS.iconst X0.here hx rfl (hb hby at_49) k) ?_
          by_cases hc50_13 : (x1 &&& (7 : Int32)) = (4 : Int32)
          · refine own_go T0 m 53 #[iv x0, iv x1, iv (x1 &&& (7 : Int32)), .unset, .unset] [] (fun t k => XS.icmpNo X0.here hx rfl (hb hby at_50) rfl (teq hc50_13).2 k) ?_
            refine own_go T0 m 55 #[iv x0, iv x1, iv (x1 &&& (7 : Int32)), .unset, .unset] [(.int 57)] (fun t k => XS.bipush X0.here hx rfl (hb hby at_53) k) ?_
            refine own_go T0 m 56 #[iv x0, iv x1, iv (x1 &&& (7 : Int32)), iv 57, .unset] [] (fun t k => XS.istoreN X0.here hx rfl (hb hby at_55) rfl rfl k) ?_
            refine own_go T0 m 86 #[iv x0, iv x1, iv (x1 &&& (7 : Int32)), iv 57, .unset] [] (fun t k => XS.goto X0.here hx rfl (pc0 := 56) (pc' := 86) rfl (hb hby at_56) (by decide) (by decide) k) ?_
            refine own_go T0 m 87 #[iv x0, iv x1, iv (x1 &&& (7 : Int32)), iv 57, .unset] [(.int 57)] (fun t k => XS.iloadN X0.here hx rfl (hb hby at_86) rfl k) ?_
            obtain ⟨_, T14, L14, X14, ⟨rfl, e14, rfl⟩, st14⟩ := own_static X0 hx hZ (y := (⟨"org/orderloom/book/OrderMessage$Type", "of", "(I)Lorg/orderloom/book/OrderMessage$Type;"⟩ : MethodName)) hown (own_w hw 0 rfl) (own_w hw 1 rfl) (own_w hw 2 rfl) (own_w hw 3 rfl) (by decide) (rm1 l Z a0 hw [] (57 : Int32) a_OTHER a_NEW_ORDER_SINGLE a_CANCEL_REQUEST a_CANCEL_REPLACE_REQUEST a_EXECUTION_REPORT a_CANCEL_REJECT h0 S_OTHER S_NEW_ORDER_SINGLE S_CANCEL_REQUEST S_CANCEL_REPLACE_REQUEST S_EXECUTION_REPORT S_CANCEL_REJECT) e0 0 (argsL := [(.int 57)]) (rest := []) (Ls := #[iv x0, iv x1, iv (x1 &&& (7 : Int32)), iv 57, .unset]) (by rw [hml]; rfl) (lenOf pd__I_Lorg_orderloom_book_OrderMessage_Type_ rfl) rfl rfl (Nat.le_of_eq rfl) (hb hby at_87) (by decide) (by decide) (by decide) (by decide)
            replace X14 := own_nil X14
            refine own_go T14 m 90 #[iv x0, iv x1, iv (x1 &&& (7 : Int32)), iv 57, .unset] [(.ref (own_of (57 : Int32) a_OTHER a_NEW_ORDER_SINGLE a_CANCEL_REQUEST a_CANCEL_REPLACE_REQUEST a_EXECUTION_REPORT a_CANCEL_REJECT))] (st14) ?_
            refine own_go T14 m 92 #[iv x0, iv x1, iv (x1 &&& (7 : Int32)), iv 57, rv (own_of (57 : Int32) a_OTHER a_NEW_ORDER_SINGLE a_CANCEL_REQUEST a_CANCEL_REPLACE_REQUEST a_EXECUTION_REPORT a_CANCEL_REJECT)] [] (fun t k => XS.astore X14.here hx rfl (hb hby at_90) rfl rfl rfl k) ?_
            refine own_go T14 m 94 #[iv x0, iv x1, iv (x1 &&& (7 : Int32)), iv 57, rv (own_of (57 : Int32) a_OTHER a_NEW_ORDER_SINGLE a_CANCEL_REQUEST a_CANCEL_REPLACE_REQUEST a_EXECUTION_REPORT a_CANCEL_REJECT)] [(.ref (own_of (57 : Int32) a_OTHER a_NEW_ORDER_SINGLE a_CANCEL_REQUEST a_CANCEL_REPLACE_REQUEST a_EXECUTION_REPORT a_CANCEL_REJECT))] (fun t k => XS.aload X14.here hx rfl (hb hby at_92) rfl rfl k) ?_
            refine own_go T14 m 95 #[iv x0, iv x1, iv (x1 &&& (7 : Int32)), iv 57, rv (own_of (57 : Int32) a_OTHER a_NEW_ORDER_SINGLE a_CANCEL_REQUEST a_CANCEL_REPLACE_REQUEST a_EXECUTION_REPORT a_CANCEL_REJECT)] [(.int 57), (.ref (own_of (57 : Int32) a_OTHER a_NEW_ORDER_SINGLE a_CANCEL_REQUEST a_CANCEL_REPLACE_REQUEST a_EXECUTION_REPORT a_CANCEL_REJECT))] (fun t k => XS.iloadN X14.here hx rfl (hb hby at_94) rfl k) ?_
            obtain ⟨_, T15, L15, X15, ⟨rfl, e15, rfl⟩, st15⟩ := own_static X14 hx hZ (y := (⟨"org/orderloom/book/TypeOfPinLaw", "expected", "(I)Lorg/orderloom/book/OrderMessage$Type;"⟩ : MethodName)) hown (own_w hw 6 rfl) (own_w hw 7 rfl) (own_w hw 8 rfl) (own_w hw 9 rfl) (by decide) (rm2 l Z a0 hw [] (57 : Int32) a_OTHER a_NEW_ORDER_SINGLE a_CANCEL_REQUEST a_CANCEL_REPLACE_REQUEST a_EXECUTION_REPORT a_CANCEL_REJECT h0 S_OTHER S_NEW_ORDER_SINGLE S_CANCEL_REQUEST S_CANCEL_REPLACE_REQUEST S_EXECUTION_REPORT S_CANCEL_REJECT) e14 1 (argsL := [(.int 57)]) (rest := [(.ref (own_of (57 : Int32) a_OTHER a_NEW_ORDER_SINGLE a_CANCEL_REQUEST a_CANCEL_REPLACE_REQUEST a_EXECUTION_REPORT a_CANCEL_REJECT))]) (Ls := #[iv x0, iv x1, iv (x1 &&& (7 : Int32)), iv 57, rv (own_of (57 : Int32) a_OTHER a_NEW_ORDER_SINGLE a_CANCEL_REQUEST a_CANCEL_REPLACE_REQUEST a_EXECUTION_REPORT a_CANCEL_REJECT)]) (by rw [hml]; rfl) (lenOf pd__I_Lorg_orderloom_book_OrderMessage_Type_ rfl) rfl rfl (Nat.le_of_eq rfl) (hb hby at_95) (by decide) (by decide) (by decide) (by decide)
            replace X15 := own_nil X15
            refine own_go T15 m 98 #[iv x0, iv x1, iv (x1 &&& (7 : Int32)), iv 57, rv (own_of (57 : Int32) a_OTHER a_NEW_ORDER_SINGLE a_CANCEL_REQUEST a_CANCEL_REPLACE_REQUEST a_EXECUTION_REPORT a_CANCEL_REJECT)] [(.ref (own_of (57 : Int32) a_OTHER a_NEW_ORDER_SINGLE a_CANCEL_REQUEST a_CANCEL_REPLACE_REQUEST a_EXECUTION_REPORT a_CANCEL_REJECT)), (.ref (own_of (57 : Int32) a_OTHER a_NEW_ORDER_SINGLE a_CANCEL_REQUEST a_CANCEL_REPLACE_REQUEST a_EXECUTION_REPORT a_CANCEL_REJECT))] (st15) ?_
            refine own_go T15 m 101 #[iv x0, iv x1, iv (x1 &&& (7 : Int32)), iv 57, rv (own_of (57 : Int32) a_OTHER a_NEW_ORDER_SINGLE a_CANCEL_REQUEST a_CANCEL_REPLACE_REQUEST a_EXECUTION_REPORT a_CANCEL_REJECT)] [] (fun t k => Jvm.RoadKit.acmp (g := (mkF m 98 #[iv x0, iv x1, iv (x1 &&& (7 : Int32)), iv 57, rv (own_of (57 : Int32) a_OTHER a_NEW_ORDER_SINGLE a_CANCEL_REQUEST a_CANCEL_REPLACE_REQUEST a_EXECUTION_REPORT a_CANCEL_REJECT)] [(.ref (own_of (57 : Int32) a_OTHER a_NEW_ORDER_SINGLE a_CANCEL_REQUEST a_CANCEL_REPLACE_REQUEST a_EXECUTION_REPORT a_CANCEL_REJECT)), (.ref (own_of (57 : Int32) a_OTHER a_NEW_ORDER_SINGLE a_CANCEL_REQUEST a_CANCEL_REPLACE_REQUEST a_EXECUTION_REPORT a_CANCEL_REJECT))])) X15 hx rfl rfl rfl (pc0 := 98) (pc' := 101) (same := true) rfl (hb hby at_98) rfl (decide_eq_true rfl) (by decide) (by decide) k) ?_
            refine own_go T15 m 102 #[iv x0, iv x1, iv (x1 &&& (7 : Int32)), iv 57, rv (own_of (57 : Int32) a_OTHER a_NEW_ORDER_SINGLE a_CANCEL_REQUEST a_CANCEL_REPLACE_REQUEST a_EXECUTION_REPORT a_CANCEL_REJECT)] [(.int 1)] (fun t k => XS.iconst X15.here hx rfl (hb hby at_101) k) ?_
            refine own_go T15 m 106 #[iv x0, iv x1, iv (x1 &&& (7 : Int32)), iv 57, rv (own_of (57 : Int32) a_OTHER a_NEW_ORDER_SINGLE a_CANCEL_REQUEST a_CANCEL_REPLACE_REQUEST a_EXECUTION_REPORT a_CANCEL_REJECT)] [(.int 1)] (fun t k => XS.goto X15.here hx rfl (pc0 := 102) (pc' := 106) rfl (hb hby at_102) (by decide) (by decide) k) ?_
            refine own_retZ X15 hx hlk hret (by decide) (hb hby at_106) (by decide) (by decide) ?_
            exact ⟨rfl, N0⟩
          · refine own_go T0 m 59 #[iv x0, iv x1, iv (x1 &&& (7 : Int32)), .unset, .unset] [] (fun t k => XS.icmpYes X0.here hx rfl (pc0 := 50) (pc' := 59) rfl (hb hby at_50) rfl (feq hc50_13).2 (by decide) (by decide) k) ?_
            refine own_go T0 m 60 #[iv x0, iv x1, iv (x1 &&& (7 : Int32)), .unset, .unset] [(.int (x1 &&& (7 : Int32)))] (fun t k => XS.iloadN X0.here hx rfl (hb hby at_59) rfl k) ?_
            refine own_go T0 m 61 #[iv x0, iv x1, iv (x1 &&& (7 : Int32)), .unset, .unset] [(.int 5), (.int (x1 &&& (7 : Int32)))] (fun t k => XS.iconst X0.here hx rfl (hb hby at_60) k) ?_
            by_cases hc61_16 : (x1 &&& (7 : Int32)) = (5 : Int32)
            · refine own_go T0 m 64 #[iv x0, iv x1, iv (x1 &&& (7 : Int32)), .unset, .unset] [] (fun t k => XS.icmpNo X0.here hx rfl (hb hby at_61) rfl (teq hc61_16).2 k) ?_
              refine own_go T0 m 65 #[iv x0, iv x1, iv (x1 &&& (7 : Int32)), .unset, .unset] [(.int (-1))] (fun t k => XS.iconst X0.here hx rfl (hb hby at_64) k) ?_
              refine own_go T0 m 66 #[iv x0, iv x1, iv (x1 &&& (7 : Int32)), iv (-1), .unset] [] (fun t k => XS.istoreN X0.here hx rfl (hb hby at_65) rfl rfl k) ?_
              refine own_go T0 m 86 #[iv x0, iv x1, iv (x1 &&& (7 : Int32)), iv (-1), .unset] [] (fun t k => XS.goto X0.here hx rfl (pc0 := 66) (pc' := 86) rfl (hb hby at_66) (by decide) (by decide) k) ?_
              refine own_go T0 m 87 #[iv x0, iv x1, iv (x1 &&& (7 : Int32)), iv (-1), .unset] [(.int (-1))] (fun t k => XS.iloadN X0.here hx rfl (hb hby at_86) rfl k) ?_
              obtain ⟨_, T17, L17, X17, ⟨rfl, e17, rfl⟩, st17⟩ := own_static X0 hx hZ (y := (⟨"org/orderloom/book/OrderMessage$Type", "of", "(I)Lorg/orderloom/book/OrderMessage$Type;"⟩ : MethodName)) hown (own_w hw 0 rfl) (own_w hw 1 rfl) (own_w hw 2 rfl) (own_w hw 3 rfl) (by decide) (rm1 l Z a0 hw [] (-1 : Int32) a_OTHER a_NEW_ORDER_SINGLE a_CANCEL_REQUEST a_CANCEL_REPLACE_REQUEST a_EXECUTION_REPORT a_CANCEL_REJECT h0 S_OTHER S_NEW_ORDER_SINGLE S_CANCEL_REQUEST S_CANCEL_REPLACE_REQUEST S_EXECUTION_REPORT S_CANCEL_REJECT) e0 0 (argsL := [(.int (-1))]) (rest := []) (Ls := #[iv x0, iv x1, iv (x1 &&& (7 : Int32)), iv (-1), .unset]) (by rw [hml]; rfl) (lenOf pd__I_Lorg_orderloom_book_OrderMessage_Type_ rfl) rfl rfl (Nat.le_of_eq rfl) (hb hby at_87) (by decide) (by decide) (by decide) (by decide)
              replace X17 := own_nil X17
              refine own_go T17 m 90 #[iv x0, iv x1, iv (x1 &&& (7 : Int32)), iv (-1), .unset] [(.ref (own_of (-1 : Int32) a_OTHER a_NEW_ORDER_SINGLE a_CANCEL_REQUEST a_CANCEL_REPLACE_REQUEST a_EXECUTION_REPORT a_CANCEL_REJECT))] (st17) ?_
              refine own_go T17 m 92 #[iv x0, iv x1, iv (x1 &&& (7 : Int32)), iv (-1), rv (own_of (-1 : Int32) a_OTHER a_NEW_ORDER_SINGLE a_CANCEL_REQUEST a_CANCEL_REPLACE_REQUEST a_EXECUTION_REPORT a_CANCEL_REJECT)] [] (fun t k => XS.astore X17.here hx rfl (hb hby at_90) rfl rfl rfl k) ?_
              refine own_go T17 m 94 #[iv x0, iv x1, iv (x1 &&& (7 : Int32)), iv (-1), rv (own_of (-1 : Int32) a_OTHER a_NEW_ORDER_SINGLE a_CANCEL_REQUEST a_CANCEL_REPLACE_REQUEST a_EXECUTION_REPORT a_CANCEL_REJECT)] [(.ref (own_of (-1 : Int32) a_OTHER a_NEW_ORDER_SINGLE a_CANCEL_REQUEST a_CANCEL_REPLACE_REQUEST a_EXECUTION_REPORT a_CANCEL_REJECT))] (fun t k => XS.aload X17.here hx rfl (hb hby at_92) rfl rfl k) ?_
              refine own_go T17 m 95 #[iv x0, iv x1, iv (x1 &&& (7 : Int32)), iv (-1), rv (own_of (-1 : Int32) a_OTHER a_NEW_ORDER_SINGLE a_CANCEL_REQUEST a_CANCEL_REPLACE_REQUEST a_EXECUTION_REPORT a_CANCEL_REJECT)] [(.int (-1)), (.ref (own_of (-1 : Int32) a_OTHER a_NEW_ORDER_SINGLE a_CANCEL_REQUEST a_CANCEL_REPLACE_REQUEST a_EXECUTION_REPORT a_CANCEL_REJECT))] (fun t k => XS.iloadN X17.here hx rfl (hb hby at_94) rfl k) ?_
              obtain ⟨_, T18, L18, X18, ⟨rfl, e18, rfl⟩, st18⟩ := own_static X17 hx hZ (y := (⟨"org/orderloom/book/TypeOfPinLaw", "expected", "(I)Lorg/orderloom/book/OrderMessage$Type;"⟩ : MethodName)) hown (own_w hw 6 rfl) (own_w hw 7 rfl) (own_w hw 8 rfl) (own_w hw 9 rfl) (by decide) (rm2 l Z a0 hw [] (-1 : Int32) a_OTHER a_NEW_ORDER_SINGLE a_CANCEL_REQUEST a_CANCEL_REPLACE_REQUEST a_EXECUTION_REPORT a_CANCEL_REJECT h0 S_OTHER S_NEW_ORDER_SINGLE S_CANCEL_REQUEST S_CANCEL_REPLACE_REQUEST S_EXECUTION_REPORT S_CANCEL_REJECT) e17 1 (argsL := [(.int (-1))]) (rest := [(.ref (own_of (-1 : Int32) a_OTHER a_NEW_ORDER_SINGLE a_CANCEL_REQUEST a_CANCEL_REPLACE_REQUEST a_EXECUTION_REPORT a_CANCEL_REJECT))]) (Ls := #[iv x0, iv x1, iv (x1 &&& (7 : Int32)), iv (-1), rv (own_of (-1 : Int32) a_OTHER a_NEW_ORDER_SINGLE a_CANCEL_REQUEST a_CANCEL_REPLACE_REQUEST a_EXECUTION_REPORT a_CANCEL_REJECT)]) (by rw [hml]; rfl) (lenOf pd__I_Lorg_orderloom_book_OrderMessage_Type_ rfl) rfl rfl (Nat.le_of_eq rfl) (hb hby at_95) (by decide) (by decide) (by decide) (by decide)
              replace X18 := own_nil X18
              refine own_go T18 m 98 #[iv x0, iv x1, iv (x1 &&& (7 : Int32)), iv (-1), rv (own_of (-1 : Int32) a_OTHER a_NEW_ORDER_SINGLE a_CANCEL_REQUEST a_CANCEL_REPLACE_REQUEST a_EXECUTION_REPORT a_CANCEL_REJECT)] [(.ref (own_of (-1 : Int32) a_OTHER a_NEW_ORDER_SINGLE a_CANCEL_REQUEST a_CANCEL_REPLACE_REQUEST a_EXECUTION_REPORT a_CANCEL_REJECT)), (.ref (own_of (-1 : Int32) a_OTHER a_NEW_ORDER_SINGLE a_CANCEL_REQUEST a_CANCEL_REPLACE_REQUEST a_EXECUTION_REPORT a_CANCEL_REJECT))] (st18) ?_
              refine own_go T18 m 101 #[iv x0, iv x1, iv (x1 &&& (7 : Int32)), iv (-1), rv (own_of (-1 : Int32) a_OTHER a_NEW_ORDER_SINGLE a_CANCEL_REQUEST a_CANCEL_REPLACE_REQUEST a_EXECUTION_REPORT a_CANCEL_REJECT)] [] (fun t k => Jvm.RoadKit.acmp (g := (mkF m 98 #[iv x0, iv x1, iv (x1 &&& (7 : Int32)), iv (-1), rv (own_of (-1 : Int32) a_OTHER a_NEW_ORDER_SINGLE a_CANCEL_REQUEST a_CANCEL_REPLACE_REQUEST a_EXECUTION_REPORT a_CANCEL_REJECT)] [(.ref (own_of (-1 : Int32) a_OTHER a_NEW_ORDER_SINGLE a_CANCEL_REQUEST a_CANCEL_REPLACE_REQUEST a_EXECUTION_REPORT a_CANCEL_REJECT)), (.ref (own_of (-1 : Int32) a_OTHER a_NEW_ORDER_SINGLE a_CANCEL_REQUEST a_CANCEL_REPLACE_REQUEST a_EXECUTION_REPORT a_CANCEL_REJECT))])) X18 hx rfl rfl rfl (pc0 := 98) (pc' := 101) (same := true) rfl (hb hby at_98) rfl (decide_eq_true rfl) (by decide) (by decide) k) ?_
              refine own_go T18 m 102 #[iv x0, iv x1, iv (x1 &&& (7 : Int32)), iv (-1), rv (own_of (-1 : Int32) a_OTHER a_NEW_ORDER_SINGLE a_CANCEL_REQUEST a_CANCEL_REPLACE_REQUEST a_EXECUTION_REPORT a_CANCEL_REJECT)] [(.int 1)] (fun t k => XS.iconst X18.here hx rfl (hb hby at_101) k) ?_
              refine own_go T18 m 106 #[iv x0, iv x1, iv (x1 &&& (7 : Int32)), iv (-1), rv (own_of (-1 : Int32) a_OTHER a_NEW_ORDER_SINGLE a_CANCEL_REQUEST a_CANCEL_REPLACE_REQUEST a_EXECUTION_REPORT a_CANCEL_REJECT)] [(.int 1)] (fun t k => XS.goto X18.here hx rfl (pc0 := 102) (pc' := 106) rfl (hb hby at_102) (by decide) (by decide) k) ?_
              refine own_retZ X18 hx hlk hret (by decide) (hb hby at_106) (by decide) (by decide) ?_
              exact ⟨rfl, N0⟩
            · refine own_go T0 m 69 #[iv x0, iv x1, iv (x1 &&& (7 : Int32)), .unset, .unset] [] (fun t k => XS.icmpYes X0.here hx rfl (pc0 := 61) (pc' := 69) rfl (hb hby at_61) rfl (feq hc61_16).2 (by decide) (by decide) k) ?_
              refine own_go T0 m 70 #[iv x0, iv x1, iv (x1 &&& (7 : Int32)), .unset, .unset] [(.int (x1 &&& (7 : Int32)))] (fun t k => XS.iloadN X0.here hx rfl (hb hby at_69) rfl k) ?_
              refine own_go T0 m 72 #[iv x0, iv x1, iv (x1 &&& (7 : Int32)), .unset, .unset] [(.int 6), (.int (x1 &&& (7 : Int32)))] (fun t k => XS.bipush X0.here hx rfl (hb hby at_70) k) ?_
              by_cases hc72_19 : (x1 &&& (7 : Int32)) = (6 : Int32)
              · refine own_go T0 m 75 #[iv x0, iv x1, iv (x1 &&& (7 : Int32)), .unset, .unset] [] (fun t k => XS.icmpNo X0.here hx rfl (hb hby at_72) rfl (teq hc72_19).2 k) ?_
                refine own_go T0 m 76 #[iv x0, iv x1, iv (x1 &&& (7 : Int32)), .unset, .unset] [(.int x0)] (fun t k => XS.iloadN X0.here hx rfl (hb hby at_75) rfl k) ?_
                refine own_go T0 m 79 #[iv x0, iv x1, iv (x1 &&& (7 : Int32)), .unset, .unset] [(.int 255), (.int x0)] (fun t k => XS.sipush X0.here hx rfl (hb hby at_76) k) ?_
                refine own_go T0 m 80 #[iv x0, iv x1, iv (x1 &&& (7 : Int32)), .unset, .unset] [(.int (x0 &&& (255 : Int32)))] (fun t k => XS.iand X0.here hx rfl (hb hby at_79) rfl k) ?_
                refine own_go T0 m 81 #[iv x0, iv x1, iv (x1 &&& (7 : Int32)), iv (x0 &&& (255 : Int32)), .unset] [] (fun t k => XS.istoreN X0.here hx rfl (hb hby at_80) rfl rfl k) ?_
                refine own_go T0 m 86 #[iv x0, iv x1, iv (x1 &&& (7 : Int32)), iv (x0 &&& (255 : Int32)), .unset] [] (fun t k => XS.goto X0.here hx rfl (pc0 := 81) (pc' := 86) rfl (hb hby at_81) (by decide) (by decide) k) ?_
                refine own_go T0 m 87 #[iv x0, iv x1, iv (x1 &&& (7 : Int32)), iv (x0 &&& (255 : Int32)), .unset] [(.int (x0 &&& (255 : Int32)))] (fun t k => XS.iloadN X0.here hx rfl (hb hby at_86) rfl k) ?_
                obtain ⟨_, T20, L20, X20, ⟨rfl, e20, rfl⟩, st20⟩ := own_static X0 hx hZ (y := (⟨"org/orderloom/book/OrderMessage$Type", "of", "(I)Lorg/orderloom/book/OrderMessage$Type;"⟩ : MethodName)) hown (own_w hw 0 rfl) (own_w hw 1 rfl) (own_w hw 2 rfl) (own_w hw 3 rfl) (by decide) (rm1 l Z a0 hw [] (x0 &&& (255 : Int32)) a_OTHER a_NEW_ORDER_SINGLE a_CANCEL_REQUEST a_CANCEL_REPLACE_REQUEST a_EXECUTION_REPORT a_CANCEL_REJECT h0 S_OTHER S_NEW_ORDER_SINGLE S_CANCEL_REQUEST S_CANCEL_REPLACE_REQUEST S_EXECUTION_REPORT S_CANCEL_REJECT) e0 0 (argsL := [(.int (x0 &&& (255 : Int32)))]) (rest := []) (Ls := #[iv x0, iv x1, iv (x1 &&& (7 : Int32)), iv (x0 &&& (255 : Int32)), .unset]) (by rw [hml]; rfl) (lenOf pd__I_Lorg_orderloom_book_OrderMessage_Type_ rfl) rfl rfl (Nat.le_of_eq rfl) (hb hby at_87) (by decide) (by decide) (by decide) (by decide)
                replace X20 := own_nil X20
                refine own_go T20 m 90 #[iv x0, iv x1, iv (x1 &&& (7 : Int32)), iv (x0 &&& (255 : Int32)), .unset] [(.ref (own_of (x0 &&& (255 : Int32)) a_OTHER a_NEW_ORDER_SINGLE a_CANCEL_REQUEST a_CANCEL_REPLACE_REQUEST a_EXECUTION_REPORT a_CANCEL_REJECT))] (st20) ?_
                refine own_go T20 m 92 #[iv x0, iv x1, iv (x1 &&& (7 : Int32)), iv (x0 &&& (255 : Int32)), rv (own_of (x0 &&& (255 : Int32)) a_OTHER a_NEW_ORDER_SINGLE a_CANCEL_REQUEST a_CANCEL_REPLACE_REQUEST a_EXECUTION_REPORT a_CANCEL_REJECT)] [] (fun t k => XS.astore X20.here hx rfl (hb hby at_90) rfl rfl rfl k) ?_
                refine own_go T20 m 94 #[iv x0, iv x1, iv (x1 &&& (7 : Int32)), iv (x0 &&& (255 : Int32)), rv (own_of (x0 &&& (255 : Int32)) a_OTHER a_NEW_ORDER_SINGLE a_CANCEL_REQUEST a_CANCEL_REPLACE_REQUEST a_EXECUTION_REPORT a_CANCEL_REJECT)] [(.ref (own_of (x0 &&& (255 : Int32)) a_OTHER a_NEW_ORDER_SINGLE a_CANCEL_REQUEST a_CANCEL_REPLACE_REQUEST a_EXECUTION_REPORT a_CANCEL_REJECT))] (fun t k => XS.aload X20.here hx rfl (hb hby at_92) rfl rfl k) ?_
                refine own_go T20 m 95 #[iv x0, iv x1, iv (x1 &&& (7 : Int32)), iv (x0 &&& (255 : Int32)), rv (own_of (x0 &&& (255 : Int32)) a_OTHER a_NEW_ORDER_SINGLE a_CANCEL_REQUEST a_CANCEL_REPLACE_REQUEST a_EXECUTION_REPORT a_CANCEL_REJECT)] [(.int (x0 &&& (255 : Int32))), (.ref (own_of (x0 &&& (255 : Int32)) a_OTHER a_NEW_ORDER_SINGLE a_CANCEL_REQUEST a_CANCEL_REPLACE_REQUEST a_EXECUTION_REPORT a_CANCEL_REJECT))] (fun t k => XS.iloadN X20.here hx rfl (hb hby at_94) rfl k) ?_
                obtain ⟨_, T21, L21, X21, ⟨rfl, e21, rfl⟩, st21⟩ := own_static X20 hx hZ (y := (⟨"org/orderloom/book/TypeOfPinLaw", "expected", "(I)Lorg/orderloom/book/OrderMessage$Type;"⟩ : MethodName)) hown (own_w hw 6 rfl) (own_w hw 7 rfl) (own_w hw 8 rfl) (own_w hw 9 rfl) (by decide) (rm2 l Z a0 hw [] (x0 &&& (255 : Int32)) a_OTHER a_NEW_ORDER_SINGLE a_CANCEL_REQUEST a_CANCEL_REPLACE_REQUEST a_EXECUTION_REPORT a_CANCEL_REJECT h0 S_OTHER S_NEW_ORDER_SINGLE S_CANCEL_REQUEST S_CANCEL_REPLACE_REQUEST S_EXECUTION_REPORT S_CANCEL_REJECT) e20 1 (argsL := [(.int (x0 &&& (255 : Int32)))]) (rest := [(.ref (own_of (x0 &&& (255 : Int32)) a_OTHER a_NEW_ORDER_SINGLE a_CANCEL_REQUEST a_CANCEL_REPLACE_REQUEST a_EXECUTION_REPORT a_CANCEL_REJECT))]) (Ls := #[iv x0, iv x1, iv (x1 &&& (7 : Int32)), iv (x0 &&& (255 : Int32)), rv (own_of (x0 &&& (255 : Int32)) a_OTHER a_NEW_ORDER_SINGLE a_CANCEL_REQUEST a_CANCEL_REPLACE_REQUEST a_EXECUTION_REPORT a_CANCEL_REJECT)]) (by rw [hml]; rfl) (lenOf pd__I_Lorg_orderloom_book_OrderMessage_Type_ rfl) rfl rfl (Nat.le_of_eq rfl) (hb hby at_95) (by decide) (by decide) (by decide) (by decide)
                replace X21 := own_nil X21
                refine own_go T21 m 98 #[iv x0, iv x1, iv (x1 &&& (7 : Int32)), iv (x0 &&& (255 : Int32)), rv (own_of (x0 &&& (255 : Int32)) a_OTHER a_NEW_ORDER_SINGLE a_CANCEL_REQUEST a_CANCEL_REPLACE_REQUEST a_EXECUTION_REPORT a_CANCEL_REJECT)] [(.ref (own_of (x0 &&& (255 : Int32)) a_OTHER a_NEW_ORDER_SINGLE a_CANCEL_REQUEST a_CANCEL_REPLACE_REQUEST a_EXECUTION_REPORT a_CANCEL_REJECT)), (.ref (own_of (x0 &&& (255 : Int32)) a_OTHER a_NEW_ORDER_SINGLE a_CANCEL_REQUEST a_CANCEL_REPLACE_REQUEST a_EXECUTION_REPORT a_CANCEL_REJECT))] (st21) ?_
                refine own_go T21 m 101 #[iv x0, iv x1, iv (x1 &&& (7 : Int32)), iv (x0 &&& (255 : Int32)), rv (own_of (x0 &&& (255 : Int32)) a_OTHER a_NEW_ORDER_SINGLE a_CANCEL_REQUEST a_CANCEL_REPLACE_REQUEST a_EXECUTION_REPORT a_CANCEL_REJECT)] [] (fun t k => Jvm.RoadKit.acmp (g := (mkF m 98 #[iv x0, iv x1, iv (x1 &&& (7 : Int32)), iv (x0 &&& (255 : Int32)), rv (own_of (x0 &&& (255 : Int32)) a_OTHER a_NEW_ORDER_SINGLE a_CANCEL_REQUEST a_CANCEL_REPLACE_REQUEST a_EXECUTION_REPORT a_CANCEL_REJECT)] [(.ref (own_of (x0 &&& (255 : Int32)) a_OTHER a_NEW_ORDER_SINGLE a_CANCEL_REQUEST a_CANCEL_REPLACE_REQUEST a_EXECUTION_REPORT a_CANCEL_REJECT)), (.ref (own_of (x0 &&& (255 : Int32)) a_OTHER a_NEW_ORDER_SINGLE a_CANCEL_REQUEST a_CANCEL_REPLACE_REQUEST a_EXECUTION_REPORT a_CANCEL_REJECT))])) X21 hx rfl rfl rfl (pc0 := 98) (pc' := 101) (same := true) rfl (hb hby at_98) rfl (decide_eq_true rfl) (by decide) (by decide) k) ?_
                refine own_go T21 m 102 #[iv x0, iv x1, iv (x1 &&& (7 : Int32)), iv (x0 &&& (255 : Int32)), rv (own_of (x0 &&& (255 : Int32)) a_OTHER a_NEW_ORDER_SINGLE a_CANCEL_REQUEST a_CANCEL_REPLACE_REQUEST a_EXECUTION_REPORT a_CANCEL_REJECT)] [(.int 1)] (fun t k => XS.iconst X21.here hx rfl (hb hby at_101) k) ?_
                refine own_go T21 m 106 #[iv x0, iv x1, iv (x1 &&& (7 : Int32)), iv (x0 &&& (255 : Int32)), rv (own_of (x0 &&& (255 : Int32)) a_OTHER a_NEW_ORDER_SINGLE a_CANCEL_REQUEST a_CANCEL_REPLACE_REQUEST a_EXECUTION_REPORT a_CANCEL_REJECT)] [(.int 1)] (fun t k => XS.goto X21.here hx rfl (pc0 := 102) (pc' := 106) rfl (hb hby at_102) (by decide) (by decide) k) ?_
                refine own_retZ X21 hx hlk hret (by decide) (hb hby at_106) (by decide) (by decide) ?_
                exact ⟨rfl, N0⟩
              · refine own_go T0 m 84 #[iv x0, iv x1, iv (x1 &&& (7 : Int32)), .unset, .unset] [] (fun t k => XS.icmpYes X0.here hx rfl (pc0 := 72) (pc' := 84) rfl (hb hby at_72) rfl (feq hc72_19).2 (by decide) (by decide) k) ?_
                refine own_go T0 m 85 #[iv x0, iv x1, iv (x1 &&& (7 : Int32)), .unset, .unset] [(.int x0)] (fun t k => XS.iloadN X0.here hx rfl (hb hby at_84) rfl k) ?_
                refine own_go T0 m 86 #[iv x0, iv x1, iv (x1 &&& (7 : Int32)), iv x0, .unset] [] (fun t k => XS.istoreN X0.here hx rfl (hb hby at_85) rfl rfl k) ?_
                refine own_go T0 m 87 #[iv x0, iv x1, iv (x1 &&& (7 : Int32)), iv x0, .unset] [(.int x0)] (fun t k => XS.iloadN X0.here hx rfl (hb hby at_86) rfl k) ?_
                obtain ⟨_, T22, L22, X22, ⟨rfl, e22, rfl⟩, st22⟩ := own_static X0 hx hZ (y := (⟨"org/orderloom/book/OrderMessage$Type", "of", "(I)Lorg/orderloom/book/OrderMessage$Type;"⟩ : MethodName)) hown (own_w hw 0 rfl) (own_w hw 1 rfl) (own_w hw 2 rfl) (own_w hw 3 rfl) (by decide) (rm1 l Z a0 hw [] x0 a_OTHER a_NEW_ORDER_SINGLE a_CANCEL_REQUEST a_CANCEL_REPLACE_REQUEST a_EXECUTION_REPORT a_CANCEL_REJECT h0 S_OTHER S_NEW_ORDER_SINGLE S_CANCEL_REQUEST S_CANCEL_REPLACE_REQUEST S_EXECUTION_REPORT S_CANCEL_REJECT) e0 0 (argsL := [(.int x0)]) (rest := []) (Ls := #[iv x0, iv x1, iv (x1 &&& (7 : Int32)), iv x0, .unset]) (by rw [hml]; rfl) (lenOf pd__I_Lorg_orderloom_book_OrderMessage_Type_ rfl) rfl rfl (Nat.le_of_eq rfl) (hb hby at_87) (by decide) (by decide) (by decide) (by decide)
                replace X22 := own_nil X22
                refine own_go T22 m 90 #[iv x0, iv x1, iv (x1 &&& (7 : Int32)), iv x0, .unset] [(.ref (own_of x0 a_OTHER a_NEW_ORDER_SINGLE a_CANCEL_REQUEST a_CANCEL_REPLACE_REQUEST a_EXECUTION_REPORT a_CANCEL_REJECT))] (st22) ?_
                refine own_go T22 m 92 #[iv x0, iv x1, iv (x1 &&& (7 : Int32)), iv x0, rv (own_of x0 a_OTHER a_NEW_ORDER_SINGLE a_CANCEL_REQUEST a_CANCEL_REPLACE_REQUEST a_EXECUTION_REPORT a_CANCEL_REJECT)] [] (fun t k => XS.astore X22.here hx rfl (hb hby at_90) rfl rfl rfl k) ?_
                refine own_go T22 m 94 #[iv x0, iv x1, iv (x1 &&& (7 : Int32)), iv x0, rv (own_of x0 a_OTHER a_NEW_ORDER_SINGLE a_CANCEL_REQUEST a_CANCEL_REPLACE_REQUEST a_EXECUTION_REPORT a_CANCEL_REJECT)] [(.ref (own_of x0 a_OTHER a_NEW_ORDER_SINGLE a_CANCEL_REQUEST a_CANCEL_REPLACE_REQUEST a_EXECUTION_REPORT a_CANCEL_REJECT))] (fun t k => XS.aload X22.here hx rfl (hb hby at_92) rfl rfl k) ?_
                refine own_go T22 m 95 #[iv x0, iv x1, iv (x1 &&& (7 : Int32)), iv x0, rv (own_of x0 a_OTHER a_NEW_ORDER_SINGLE a_CANCEL_REQUEST a_CANCEL_REPLACE_REQUEST a_EXECUTION_REPORT a_CANCEL_REJECT)] [(.int x0), (.ref (own_of x0 a_OTHER a_NEW_ORDER_SINGLE a_CANCEL_REQUEST a_CANCEL_REPLACE_REQUEST a_EXECUTION_REPORT a_CANCEL_REJECT))] (fun t k => XS.iloadN X22.here hx rfl (hb hby at_94) rfl k) ?_
                obtain ⟨_, T23, L23, X23, ⟨rfl, e23, rfl⟩, st23⟩ := own_static X22 hx hZ (y := (⟨"org/orderloom/book/TypeOfPinLaw", "expected", "(I)Lorg/orderloom/book/OrderMessage$Type;"⟩ : MethodName)) hown (own_w hw 6 rfl) (own_w hw 7 rfl) (own_w hw 8 rfl) (own_w hw 9 rfl) (by decide) (rm2 l Z a0 hw [] x0 a_OTHER a_NEW_ORDER_SINGLE a_CANCEL_REQUEST a_CANCEL_REPLACE_REQUEST a_EXECUTION_REPORT a_CANCEL_REJECT h0 S_OTHER S_NEW_ORDER_SINGLE S_CANCEL_REQUEST S_CANCEL_REPLACE_REQUEST S_EXECUTION_REPORT S_CANCEL_REJECT) e22 1 (argsL := [(.int x0)]) (rest := [(.ref (own_of x0 a_OTHER a_NEW_ORDER_SINGLE a_CANCEL_REQUEST a_CANCEL_REPLACE_REQUEST a_EXECUTION_REPORT a_CANCEL_REJECT))]) (Ls := #[iv x0, iv x1, iv (x1 &&& (7 : Int32)), iv x0, rv (own_of x0 a_OTHER a_NEW_ORDER_SINGLE a_CANCEL_REQUEST a_CANCEL_REPLACE_REQUEST a_EXECUTION_REPORT a_CANCEL_REJECT)]) (by rw [hml]; rfl) (lenOf pd__I_Lorg_orderloom_book_OrderMessage_Type_ rfl) rfl rfl (Nat.le_of_eq rfl) (hb hby at_95) (by decide) (by decide) (by decide) (by decide)
                replace X23 := own_nil X23
                refine own_go T23 m 98 #[iv x0, iv x1, iv (x1 &&& (7 : Int32)), iv x0, rv (own_of x0 a_OTHER a_NEW_ORDER_SINGLE a_CANCEL_REQUEST a_CANCEL_REPLACE_REQUEST a_EXECUTION_REPORT a_CANCEL_REJECT)] [(.ref (own_of x0 a_OTHER a_NEW_ORDER_SINGLE a_CANCEL_REQUEST a_CANCEL_REPLACE_REQUEST a_EXECUTION_REPORT a_CANCEL_REJECT)), (.ref (own_of x0 a_OTHER a_NEW_ORDER_SINGLE a_CANCEL_REQUEST a_CANCEL_REPLACE_REQUEST a_EXECUTION_REPORT a_CANCEL_REJECT))] (st23) ?_
                refine own_go T23 m 101 #[iv x0, iv x1, iv (x1 &&& (7 : Int32)), iv x0, rv (own_of x0 a_OTHER a_NEW_ORDER_SINGLE a_CANCEL_REQUEST a_CANCEL_REPLACE_REQUEST a_EXECUTION_REPORT a_CANCEL_REJECT)] [] (fun t k => Jvm.RoadKit.acmp (g := (mkF m 98 #[iv x0, iv x1, iv (x1 &&& (7 : Int32)), iv x0, rv (own_of x0 a_OTHER a_NEW_ORDER_SINGLE a_CANCEL_REQUEST a_CANCEL_REPLACE_REQUEST a_EXECUTION_REPORT a_CANCEL_REJECT)] [(.ref (own_of x0 a_OTHER a_NEW_ORDER_SINGLE a_CANCEL_REQUEST a_CANCEL_REPLACE_REQUEST a_EXECUTION_REPORT a_CANCEL_REJECT)), (.ref (own_of x0 a_OTHER a_NEW_ORDER_SINGLE a_CANCEL_REQUEST a_CANCEL_REPLACE_REQUEST a_EXECUTION_REPORT a_CANCEL_REJECT))])) X23 hx rfl rfl rfl (pc0 := 98) (pc' := 101) (same := true) rfl (hb hby at_98) rfl (decide_eq_true rfl) (by decide) (by decide) k) ?_
                refine own_go T23 m 102 #[iv x0, iv x1, iv (x1 &&& (7 : Int32)), iv x0, rv (own_of x0 a_OTHER a_NEW_ORDER_SINGLE a_CANCEL_REQUEST a_CANCEL_REPLACE_REQUEST a_EXECUTION_REPORT a_CANCEL_REJECT)] [(.int 1)] (fun t k => XS.iconst X23.here hx rfl (hb hby at_101) k) ?_
                refine own_go T23 m 106 #[iv x0, iv x1, iv (x1 &&& (7 : Int32)), iv x0, rv (own_of x0 a_OTHER a_NEW_ORDER_SINGLE a_CANCEL_REQUEST a_CANCEL_REPLACE_REQUEST a_EXECUTION_REPORT a_CANCEL_REJECT)] [(.int 1)] (fun t k => XS.goto X23.here hx rfl (pc0 := 102) (pc' := 106) rfl (hb hby at_102) (by decide) (by decide) k) ?_
                refine own_retZ X23 hx hlk hret (by decide) (hb hby at_106) (by decide) (by decide) ?_
                exact ⟨rfl, N0⟩
set_option maxRecDepth 65536 in
set_option maxHeartbeats 40000000 in
theorem comes_1 {Post : Tables → Env → Array Value → State → Outcome → State → Prop} (hpost : ∀ tb e args s v u, (limb_1_1.after args s (.returned v) u = true ∧ limb_1_2.after args s (.returned v) u = true ∧ True) → FrameEnd s (.returned v) u (Jvm.fieldLocs frame_1_writes args s ++ Jvm.arrayLocs frame_1_arrays args s ++ Jvm.staticLocs frame_1_statics s) 0 0 → Post tb e args s (.returned v) u) :
    ArmFor flags0 classFile x code maxLocals ret World_1 tables_1 room_1 Calls_1 rest_1 Pre_1 Post := by
  intro l hfl _ _ p e ha hc hk s m args below hf hA hF happ hP
  obtain ⟨hcalls, hrest, hpre⟩ := hP
  obtain ⟨-, -, -, hnamed, -, -, -, hat⟩ := (Spec.applies_iff hf).mp happ
  obtain ⟨hg, hn⟩ := and_e (Cond.before_iff.mp (show (Jvm.Cond.and given_1 narrow_1).before args s = true from hpre))
  obtain ⟨gg1, gg2⟩ := and_e hg
  obtain ⟨gg3, gg4⟩ := and_e gg2
  obtain ⟨w0, w1, rfl⟩ : ∃ w0 w1 : Value, args = #[w0, w1] := by
    have hs : args.size = 2 := by simpa [Cond.value, given_1] using gg1
    obtain ⟨L⟩ := args
    match L, hs with
    | [w0, w1], _ => exact ⟨w0, w1, rfl⟩
  have hw := fun d (hd : d ∈ tables_1) => atoms_spec (ws := Jvm.Cond.code x code maxLocals ret :: tables_1) hat d (List.mem_cons_of_mem _ hd)
  have hfit : Fit s := fun {y c} hc i hi => by
    obtain ⟨ha, rfl⟩ := Array.getElem?_eq_some_iff.mp hc
    have q := List.all_eq_true.mp ((Array.all_eq_true_iff_forall_mem.mp hF) _ (Array.getElem_mem ha)) i (List.mem_range.mpr hi)
    simpa [Array.getElem?_eq_getElem hi] using q
  obtain ⟨i0, ei0⟩ := is_v gg3
  obtain rfl : w0 = (.int i0) := Option.some.inj ei0
  obtain ⟨i1, ei1⟩ := is_v gg4
  obtain rfl : w1 = (.int i1) := Option.some.inj ei1
  obtain ⟨hn0, hm0⟩ := and_e hn
  obtain ⟨a_EXECUTION_REPORT, ev_EXECUTION_REPORT⟩ := exa_v hn0
  have S_EXECUTION_REPORT := Sta.start ev_EXECUTION_REPORT (Or.inr ⟨(own_w hw 2 rfl), (own_w hw 5 rfl)⟩)
  obtain ⟨hn1, hm1⟩ := and_e hm0
  obtain ⟨a_CANCEL_REQUEST, ev_CANCEL_REQUEST⟩ := exa_v hn1
  have S_CANCEL_REQUEST := Sta.start ev_CANCEL_REQUEST (Or.inr ⟨(own_w hw 2 rfl), (own_w hw 12 rfl)⟩)
  obtain ⟨hn2, hm2⟩ := and_e hm1
  obtain ⟨a_CANCEL_REJECT, ev_CANCEL_REJECT⟩ := exa_v hn2
  have S_CANCEL_REJECT := Sta.start ev_CANCEL_REJECT (Or.inr ⟨(own_w hw 2 rfl), (own_w hw 15 rfl)⟩)
  obtain ⟨hn3, hm3⟩ := and_e hm2
  obtain ⟨a_NEW_ORDER_SINGLE, ev_NEW_ORDER_SINGLE⟩ := exa_v hn3
  have S_NEW_ORDER_SINGLE := Sta.start ev_NEW_ORDER_SINGLE (Or.inr ⟨(own_w hw 2 rfl), (own_w hw 18 rfl)⟩)
  obtain ⟨hn4, hm4⟩ := and_e hm3
  obtain ⟨a_OTHER, ev_OTHER⟩ := exa_v hn4
  have S_OTHER := Sta.start ev_OTHER (Or.inr ⟨(own_w hw 2 rfl), (own_w hw 21 rfl)⟩)
  obtain ⟨a_CANCEL_REPLACE_REQUEST, ev_CANCEL_REPLACE_REQUEST⟩ := exa_v hm4
  have S_CANCEL_REPLACE_REQUEST := Sta.start ev_CANCEL_REPLACE_REQUEST (Or.inr ⟨(own_w hw 2 rfl), (own_w hw 24 rfl)⟩)
  obtain ⟨n, o, h1, h2, h3, _, L, rfl, ⟨rfl, N⟩, hq⟩ := rm0 l s _ hw tables_1 i0 i1 a_OTHER a_NEW_ORDER_SINGLE a_CANCEL_REQUEST a_CANCEL_REPLACE_REQUEST a_EXECUTION_REPORT a_CANCEL_REJECT s.heap s.heap.size (Nat.le_refl _) S_OTHER S_NEW_ORDER_SINGLE S_CANCEL_REQUEST S_CANCEL_REPLACE_REQUEST S_EXECUTION_REPORT S_CANCEL_REJECT p e ha hc hk s m _ below hf ((Spec.applies_iff_loose hf).mp happ).1 ⟨rfl, State.Warmed39.refl s, rfl⟩ trivial
  refine ⟨n, _, h1, h2, h3, hpost _ _ _ _ _ _ ⟨Cond.after_iff.mpr rfl, Cond.after_iff.mpr (eq_i res_at (Term.int_eval (1)) rfl), trivial⟩ ⟨hq.1, hq.2.1, (hq.2.2.sift fun y hy => Or.inr (N y hy)).mono (by decide) (by decide)⟩⟩
theorem main_1_1 : Claimed_1_1 := comes_1 fun _ _ _ _ _ _ h hF => ⟨h.1, hF⟩
theorem main_1_2 : Claimed_1_2 := comes_1 fun _ _ _ _ _ _ h hF => ⟨h.2.1, hF⟩
end Jvm.Pilot.@@N@@
namespace Jvm.Pilot.@@N@@
open Jvm Jvm.ClassFile Sem Op Lib Jvm.Free Jvm.Stand Jvm.Pilot.@@N@@.Jvm.D
/-! MADE BY PROGRAM (witnessworld.py) out of the Statement's table words and the real class files: 12 classes; the members and pool entries that the words name. The judged class is class 1, her method 2. -/
namespace start1
open Jvm.ClassFile
def u (s : String) : CpInfo := .utf8 (stringToUtf16 s)
/-- a pool by its gaps: so many unusable entries, then the entry; so many at the end -/
def gap : Nat → List CpInfo → List CpInfo
  | 0, r => r
  | n + 1, r => .unusable :: gap n r
def poolList (es : List (Nat × CpInfo)) (last : Nat) : List CpInfo := es.foldr (fun e r => gap e.1 (e.2 :: r)) (gap last [])
def pool (es : List (Nat × CpInfo)) (last : Nat) : Array CpInfo := ⟨poolList es last⟩
def fileOf (pool : Array CpInfo) (this : Nat) (attrs : Array Attribute := #[]) (ms : Array MethodInfo := #[]) (fl : Nat := 33) (sup : Nat := 0) (ifs : Array Nat := #[]) (fds : Array FieldInfo := #[]) : ClassFile where
  minorVersion := 0
  majorVersion := 65
  constantPool := pool
  accessFlags := fl
  thisClass := this
  superClass := sup
  interfaces := ifs
  fields := fds
  methods := ms
  attributes := attrs
def plain (name : String) (sup : Option ClassId) : Class where
  name := name
  kind := .ordinary
  loader := none
  accessFlags := 33
  super := sup
  interfaces := #[]
  cf := none
  fields := #[]
  methods := #[]
  instanceTypes := #[]
  staticTypes := #[]
  resolved := #[]
  callSites := []
  init := .initialized
  statics := none
  mirror := none

def pool0 : Array CpInfo := pool [(5, u "<init>"), (0, u "()V"), (1, .class_ 10), (1, u "java/lang/Object")] 113

def k0m0 : Method := { name := "<init>", desc := "()V", sig := { parameters := [], returnType := none }, accessFlags := 1, code := none }
/-- java/lang/Object -/
def k0 : Class := { plain "java/lang/Object" none with
  accessFlags := 33
  interfaces := #[]
  cf := some (fileOf pool0 8 #[] #[{ accessFlags := 1, nameIndex := 5, descriptorIndex := 6, attributes := #[] }] 33 0 #[] #[])
  fields := #[]
  methods := #[k0m0]
  instanceTypes := #[]
  staticTypes := #[]
  resolved := Array.replicate 124 none
  statics := none }

def pool1 : Array CpInfo := pool [(2, .class_ 4), (1, u "java/lang/Object"), (0, u "<init>"), (0, u "()V"), (0, .fieldref 8 9), (0, .class_ 10), (0, .nameAndType 11 12), (0, u "org/orderloom/book/OrderMessage$Type"), (0, u "NEW_ORDER_SINGLE"), (0, u "Lorg/orderloom/book/OrderMessage$Type;"), (0, .fieldref 8 14), (0, .nameAndType 15 12), (0, u "CANCEL_REQUEST"), (0, .fieldref 8 17), (0, .nameAndType 18 12), (0, u "CANCEL_REPLACE_REQUEST"), (0, .fieldref 8 20), (0, .nameAndType 21 12), (0, u "EXECUTION_REPORT"), (0, .fieldref 8 23), (0, .nameAndType 24 12), (0, u "CANCEL_REJECT"), (0, .fieldref 8 26), (0, .nameAndType 27 12), (0, u "OTHER"), (0, .methodref 8 29), (0, .nameAndType 30 31), (0, u "of"), (0, u "(I)Lorg/orderloom/book/OrderMessage$Type;"), (0, .methodref 33 34), (0, .class_ 35), (0, .nameAndType 36 31), (0, u "org/orderloom/book/TypeOfPinLaw"), (0, u "expected"), (3, u "law"), (0, u "(II)Z")] 6

def k1m0 : Method := { name := "<init>", desc := "()V", sig := { parameters := [], returnType := none }, accessFlags := 2, code := none }
def k1c1 : Code := { maxStack := 2, maxLocals := 1, code := method_2_code, exceptionTable := #[], attributes := #[] }
def k1m1 : Method := { name := "expected", desc := "(I)Lorg/orderloom/book/OrderMessage$Type;", sig := { parameters := [.int], returnType := some (.object "org/orderloom/book/OrderMessage$Type") }, accessFlags := 10, code := some k1c1 }
def k1c2 : Code := { maxStack := 2, maxLocals := 5, code := code, exceptionTable := #[], attributes := #[] }
def k1m2 : Method := { name := "law", desc := "(II)Z", sig := { parameters := [.int, .int], returnType := some .boolean }, accessFlags := 9, code := some k1c2 }
/-- org/orderloom/book/TypeOfPinLaw -/
def k1 : Class := { plain "org/orderloom/book/TypeOfPinLaw" (some 0) with
  accessFlags := 49
  interfaces := #[]
  cf := some (fileOf pool1 33 #[] #[{ accessFlags := 2, nameIndex := 5, descriptorIndex := 6, attributes := #[] }, { accessFlags := 10, nameIndex := 36, descriptorIndex := 31, attributes := #[] }, { accessFlags := 9, nameIndex := 40, descriptorIndex := 41, attributes := #[] }] 49 2 #[] #[])
  fields := #[]
  methods := #[k1m0, k1m1, k1m2]
  instanceTypes := #[]
  staticTypes := #[]
  resolved := Array.replicate 48 none
  statics := none }

def pool2 : Array CpInfo := pool [(1, .class_ 2), (0, u "java/lang/constant/Constable"), (0, .class_ 4), (0, u "java/lang/Object")] 6

/-- java/lang/constant/Constable -/
def k2 : Class := { plain "java/lang/constant/Constable" (some 0) with
  accessFlags := 1537
  interfaces := #[]
  cf := some (fileOf pool2 1 #[] #[] 1537 3 #[] #[])
  fields := #[]
  methods := #[]
  instanceTypes := #[]
  staticTypes := #[]
  resolved := Array.replicate 11 none
  statics := none }

def pool3 : Array CpInfo := pool [(1, .class_ 2), (0, u "java/lang/Comparable"), (0, .class_ 4), (0, u "java/lang/Object")] 7

/-- java/lang/Comparable -/
def k3 : Class := { plain "java/lang/Comparable" (some 0) with
  accessFlags := 1537
  interfaces := #[]
  cf := some (fileOf pool3 1 #[] #[] 1537 3 #[] #[])
  fields := #[]
  methods := #[]
  instanceTypes := #[]
  staticTypes := #[]
  resolved := Array.replicate 12 none
  statics := none }

def pool4 : Array CpInfo := pool [(1, .class_ 2), (0, u "java/io/Serializable"), (0, .class_ 4), (0, u "java/lang/Object")] 2

/-- java/io/Serializable -/
def k4 : Class := { plain "java/io/Serializable" (some 0) with
  accessFlags := 1537
  interfaces := #[]
  cf := some (fileOf pool4 1 #[] #[] 1537 3 #[] #[])
  fields := #[]
  methods := #[]
  instanceTypes := #[]
  staticTypes := #[]
  resolved := Array.replicate 7 none
  statics := none }

def pool5 : Array CpInfo := pool [(2, .class_ 4), (1, u "java/lang/Enum"), (0, u "name"), (0, u "Ljava/lang/String;"), (2, u "ordinal"), (0, u "I"), (1, .class_ 14), (1, u "java/lang/Object"), (4, u "hash"), (86, .class_ 108), (1, u "java/lang/Enum$EnumDesc"), (2, .class_ 112), (0, u "java/lang/constant/Constable"), (0, .class_ 114), (0, u "java/lang/Comparable"), (0, .class_ 116), (0, u "java/io/Serializable")] 87

/-- java/lang/Enum -/
def k5 : Class := { plain "java/lang/Enum" (some 0) with
  accessFlags := 1057
  interfaces := #[2, 3, 4]
  cf := some (fileOf pool5 2 #[.nestMembers #[106]] #[] 1057 12 #[111, 113, 115] #[{ accessFlags := 18, nameIndex := 5, descriptorIndex := 6, attributes := #[] }, { accessFlags := 18, nameIndex := 9, descriptorIndex := 10, attributes := #[] }, { accessFlags := 2, nameIndex := 19, descriptorIndex := 10, attributes := #[] }])
  fields := #[{ name := "name", type := (.object "java/lang/String"), accessFlags := 18, slot := 0, constantValue := 0 }, { name := "ordinal", type := .int, accessFlags := 18, slot := 1, constantValue := 0 }, { name := "hash", type := .int, accessFlags := 2, slot := 2, constantValue := 0 }]
  methods := #[]
  instanceTypes := #[(.object "java/lang/String"), .int, .int]
  staticTypes := #[]
  resolved := Array.replicate 204 none
  statics := none }

def pool6 : Array CpInfo := pool [(1, .class_ 2), (0, u "org/orderloom/book/OrderMessage$Type"), (0, .fieldref 1 4), (0, .nameAndType 5 6), (0, u "NEW_ORDER_SINGLE"), (0, u "Lorg/orderloom/book/OrderMessage$Type;"), (0, .fieldref 1 8), (0, .nameAndType 9 6), (0, u "CANCEL_REQUEST"), (0, .fieldref 1 11), (0, .nameAndType 12 6), (0, u "CANCEL_REPLACE_REQUEST"), (0, .fieldref 1 14), (0, .nameAndType 15 6), (0, u "EXECUTION_REPORT"), (0, .fieldref 1 17), (0, .nameAndType 18 6), (0, u "CANCEL_REJECT"), (0, .fieldref 1 20), (0, .nameAndType 21 6), (0, u "OTHER"), (2, u "$VALUES"), (0, u "[Lorg/orderloom/book/OrderMessage$Type;"), (6, .class_ 34), (1, u "java/lang/Enum"), (24, u "of"), (0, u "(I)Lorg/orderloom/book/OrderMessage$Type;"), (6, .class_ 68), (0, u "org/orderloom/book/OrderMessage")] 2

def k6c0 : Code := { maxStack := 1, maxLocals := 1, code := prog_12_method_4_code, exceptionTable := #[], attributes := #[] }
def k6m0 : Method := { name := "of", desc := "(I)Lorg/orderloom/book/OrderMessage$Type;", sig := { parameters := [.int], returnType := some (.object "org/orderloom/book/OrderMessage$Type") }, accessFlags := 8, code := some k6c0 }
/-- org/orderloom/book/OrderMessage$Type -/
def k6 : Class := { plain "org/orderloom/book/OrderMessage$Type" (some 5) with
  accessFlags := 16433
  interfaces := #[]
  cf := some (fileOf pool6 1 #[.nestHost 67] #[{ accessFlags := 8, nameIndex := 59, descriptorIndex := 60, attributes := #[] }] 16433 32 #[] #[{ accessFlags := 16409, nameIndex := 5, descriptorIndex := 6, attributes := #[] }, { accessFlags := 16409, nameIndex := 9, descriptorIndex := 6, attributes := #[] }, { accessFlags := 16409, nameIndex := 12, descriptorIndex := 6, attributes := #[] }, { accessFlags := 16409, nameIndex := 15, descriptorIndex := 6, attributes := #[] }, { accessFlags := 16409, nameIndex := 18, descriptorIndex := 6, attributes := #[] }, { accessFlags := 16409, nameIndex := 21, descriptorIndex := 6, attributes := #[] }, { accessFlags := 4122, nameIndex := 24, descriptorIndex := 25, attributes := #[] }])
  fields := #[{ name := "NEW_ORDER_SINGLE", type := (.object "org/orderloom/book/OrderMessage$Type"), accessFlags := 16409, slot := 0, constantValue := 0 }, { name := "CANCEL_REQUEST", type := (.object "org/orderloom/book/OrderMessage$Type"), accessFlags := 16409, slot := 1, constantValue := 0 }, { name := "CANCEL_REPLACE_REQUEST", type := (.object "org/orderloom/book/OrderMessage$Type"), accessFlags := 16409, slot := 2, constantValue := 0 }, { name := "EXECUTION_REPORT", type := (.object "org/orderloom/book/OrderMessage$Type"), accessFlags := 16409, slot := 3, constantValue := 0 }, { name := "CANCEL_REJECT", type := (.object "org/orderloom/book/OrderMessage$Type"), accessFlags := 16409, slot := 4, constantValue := 0 }, { name := "OTHER", type := (.object "org/orderloom/book/OrderMessage$Type"), accessFlags := 16409, slot := 5, constantValue := 0 }, { name := "$VALUES", type := (.array (.object "org/orderloom/book/OrderMessage$Type")), accessFlags := 4122, slot := 6, constantValue := 0 }]
  methods := #[k6m0]
  instanceTypes := #[(.object "java/lang/String"), .int, .int]
  staticTypes := #[(.object "org/orderloom/book/OrderMessage$Type"), (.object "org/orderloom/book/OrderMessage$Type"), (.object "org/orderloom/book/OrderMessage$Type"), (.object "org/orderloom/book/OrderMessage$Type"), (.object "org/orderloom/book/OrderMessage$Type"), (.object "org/orderloom/book/OrderMessage$Type"), (.array (.object "org/orderloom/book/OrderMessage$Type"))]
  resolved := Array.replicate 71 none
  statics := some 0 }

def pool7 : Array CpInfo := pool [(1, u "java/lang/Cloneable"), (0, .class_ 1), (0, u "java/lang/Object"), (0, .class_ 3)] 3

/-- java/lang/Cloneable -/
def k7 : Class := { plain "java/lang/Cloneable" (some 0) with
  accessFlags := 1537
  interfaces := #[]
  cf := some (fileOf pool7 2 #[] #[] 1537 4 #[] #[])
  fields := #[]
  methods := #[]
  instanceTypes := #[]
  staticTypes := #[]
  resolved := Array.replicate 8 none
  statics := none }

/-- the primitive byte -/
def k8 : Class := { plain "byte" none with kind := .primitive 'B', accessFlags := 0x411 }
/-- [B -/
def k9 : Class := { plain "[B" (some 0) with kind := .array 8 .byte, interfaces := #[7, 4], accessFlags := 1041 }

/-- the primitive int -/
def k10 : Class := { plain "int" none with kind := .primitive 'I', accessFlags := 0x411 }
/-- [I -/
def k11 : Class := { plain "[I" (some 0) with kind := .array 10 .int, interfaces := #[7, 4], accessFlags := 1041 }

def heap : Heap := #[{ cls := 6, slots := #[.ref 1, .ref 2, .ref 3, .ref 4, .ref 5, .ref 6, .null], vm := .statics 6 },
  { cls := 6, slots := #[.null, .int 0, .int 0], vm := .none },
  { cls := 6, slots := #[.null, .int 1, .int 0], vm := .none },
  { cls := 6, slots := #[.null, .int 2, .int 0], vm := .none },
  { cls := 6, slots := #[.null, .int 3, .int 0], vm := .none },
  { cls := 6, slots := #[.null, .int 4, .int 0], vm := .none },
  { cls := 6, slots := #[.null, .int 5, .int 0], vm := .none }]
def classes : Array Class := #[k0, k1, k2, k3, k4, k5, k6, k7, k8, k9, k10, k11]
def interned : List (Array UInt16 × Addr) := []
def slotsUsed : Nat := 25
def theMethod : MethodId := ⟨1, 2⟩
def args0 : Array Value := #[.int 0, .int 0]
def aboutOver (below : List Frame) : State where
  vm := { classes := classes, interned := interned.toArray }
  heap := heap
  slotsUsed := slotsUsed
  threads := #[{ frames := .invoking theMethod args0 :: below }]
def below0 : List Frame := [.native { method := ⟨0, 0⟩, args := #[] }]
def about1 : State := aboutOver below0
def p0 : Program := .bare "" "" ""
def e0 : Env := launch0.env 0 0 0
theorem w_frames : about1.frames = Frame.invoking theMethod args0 :: below0 := rfl
set_option maxRecDepth 65536 in
theorem w_args : argsFit about1.vm theMethod args0 = true := by decide +kernel
set_option maxRecDepth 65536 in
theorem w_heap : heapFits about1 = true := by decide +kernel
set_option maxRecDepth 65536 in
theorem w_runnable : about1.curStatus? = some .runnable := by decide +kernel
set_option maxRecDepth 65536 in
theorem w_alone : about1.alone = true := by decide +kernel
set_option maxRecDepth 65536 in
theorem w_named : about1.methodNamed? x = some theMethod := by decide +kernel
set_option maxRecDepth 65536 in
theorem w_hears : about1.hears theMethod below0 = true := by decide +kernel
set_option maxRecDepth 65536 in
theorem w_ripe : about1.ripe theMethod args0 below0 = true := by decide +kernel
theorem w_running : about1.status = .running := rfl
set_option maxRecDepth 65536 in
theorem w_room : about1.hasRoom e0.platform room_1 = true :=
  launch0.hasRoom_least _ room_1 (by decide +kernel) (by decide +kernel) (by decide +kernel) (by decide +kernel) (by decide +kernel) (by decide +kernel)
theorem allAtoms_all (ts : List Jvm.Cond) (a : Array Jvm.Value) (st : Jvm.State) : (allAtoms ts).before a st = ts.all (fun c => c.before a st) := by
  induction ts with
  | nil => rfl
  | cons c t ih =>
    show (Jvm.Cond.and c (allAtoms t)).before a st = _
    rw [Jvm.Cond.before_and, ih, List.all_cons]
def words1 : List Jvm.Cond := Jvm.Cond.code x code maxLocals ret :: tables_1
/-- a 'code' word, met by the world's own term for the bytes: nothing is compared byte by byte -/
theorem code_word {y : MethodName} {bytes : ByteArray} {mx : Nat} {rt : Option FieldType} {a : Array Value} {s : State} {m : MethodId} {meth : Method} {c : Code} (h1 : s.methodNamed? y = some m) (h2 : s.vm.method? m = some meth) (h3 : meth.code = some c) (h4 : c.code = bytes)
    (h5 : (c.maxLocals == mx && c.exceptionTable.isEmpty && decide (c.maxStack ≤ mostOperands) && decide (meth.sig.returnType = rt) && !meth.locks && decide (parseMethodDescriptor y.desc = some meth.sig)) = true) : (Jvm.Cond.code y bytes mx rt).before a s = true := by
  simp only [Bool.and_eq_true, beq_iff_eq, Bool.not_eq_true', decide_eq_true_eq] at h5
  obtain ⟨⟨⟨⟨⟨g1, g2⟩, g3⟩, g4⟩, g5⟩, g6⟩ := h5
  simp [Cond.before, Cond.holds, Cond.value, h1, h2, h3, h4, g1, g2, g3, g4, g5, g6]
def isCode : Jvm.Cond → Bool
  | .code _ _ _ _ => true
  | _ => false
theorem all_split {L : List Jvm.Cond} {P : Jvm.Cond → Bool} (h1 : L.all (fun c => isCode c || P c) = true) (h2 : ∀ c ∈ L.filter isCode, P c = true) : L.all P = true := by
  refine List.all_eq_true.mpr fun c hc => ?_
  have h := List.all_eq_true.mp h1 c hc
  rcases Bool.eq_false_or_eq_true (isCode c) with hi | hi
  · exact h2 c (List.mem_filter.mpr ⟨hc, hi⟩)
  · simpa [hi] using h
set_option maxRecDepth 65536 in
theorem w_c0 : (Jvm.Cond.code x code maxLocals ret).before args0 about1 = true := code_word (m := ⟨1, 2⟩) (meth := k1m2) (c := k1c2) (by decide +kernel) rfl rfl rfl (by decide +kernel)
set_option maxRecDepth 65536 in
theorem w_c1 : (Jvm.Cond.code ({ cls := "org/orderloom/book/OrderMessage$Type", name := "of", desc := "(I)Lorg/orderloom/book/OrderMessage$Type;" } : Jvm.MethodName) prog_12_method_4_code (1 : Nat) (Option.some (Jvm.ClassFile.FieldType.object "org/orderloom/book/OrderMessage$Type"))).before args0 about1 = true := code_word (m := ⟨6, 0⟩) (meth := k6m0) (c := k6c0) (by decide +kernel) rfl rfl rfl (by decide +kernel)
set_option maxRecDepth 65536 in
theorem w_c2 : (Jvm.Cond.code ({ cls := "org/orderloom/book/TypeOfPinLaw", name := "expected", desc := "(I)Lorg/orderloom/book/OrderMessage$Type;" } : Jvm.MethodName) method_2_code (1 : Nat) (Option.some (Jvm.ClassFile.FieldType.object "org/orderloom/book/OrderMessage$Type"))).before args0 about1 = true := code_word (m := ⟨1, 1⟩) (meth := k1m1) (c := k1c1) (by decide +kernel) rfl rfl rfl (by decide +kernel)
def codes1 : List Jvm.Cond := [Jvm.Cond.code x code maxLocals ret, Jvm.Cond.code ({ cls := "org/orderloom/book/OrderMessage$Type", name := "of", desc := "(I)Lorg/orderloom/book/OrderMessage$Type;" } : Jvm.MethodName) prog_12_method_4_code (1 : Nat) (Option.some (Jvm.ClassFile.FieldType.object "org/orderloom/book/OrderMessage$Type")), Jvm.Cond.code ({ cls := "org/orderloom/book/TypeOfPinLaw", name := "expected", desc := "(I)Lorg/orderloom/book/OrderMessage$Type;" } : Jvm.MethodName) method_2_code (1 : Nat) (Option.some (Jvm.ClassFile.FieldType.object "org/orderloom/book/OrderMessage$Type"))]
set_option maxRecDepth 65536 in
theorem codes_eq : words1.filter isCode = codes1 := rfl
theorem w_codes : ∀ c ∈ words1.filter isCode, c.before args0 about1 = true := by
  rw [codes_eq]
  intro c hc
  simp only [codes1, List.mem_cons, List.not_mem_nil, or_false] at hc
  rcases hc with rfl | rfl | rfl
  · exact w_c0
  · exact w_c1
  · exact w_c2
set_option maxRecDepth 65536 in
theorem w_t1 : (words1.take 24).all (fun c => isCode c || c.before args0 about1) = true := by decide +kernel
set_option maxRecDepth 65536 in
theorem w_t2 : (words1.drop 24).all (fun c => isCode c || c.before args0 about1) = true := by decide +kernel
theorem w_tables : (allAtoms (Jvm.Cond.code x code maxLocals ret :: tables_1)).before args0 about1 = true := by
  rw [allAtoms_all]
  show words1.all (fun c => c.before args0 about1) = true
  refine all_split ?_ w_codes
  rw [← List.take_append_drop 24 words1, List.all_append, w_t1, w_t2]
  rfl
set_option maxRecDepth 65536 in
theorem w_case : (Jvm.Cond.and given_1 narrow_1).before args0 about1 = true := by decide +kernel
theorem w_applies : (headSpec (Jvm.Cond.code x code maxLocals ret :: tables_1) room_1).applies x e0.platform about1 = true :=
  (Spec.applies_iff w_frames).mpr ⟨w_running, w_runnable, w_alone, w_named, w_hears, w_ripe, w_room, w_tables⟩
theorem atStart : AtStart classFile x code maxLocals ret World_1 tables_1 room_1 Calls_1 rest_1 Pre_1 launch0 p0 e0 about1 theMethod args0 below0 :=
  ⟨lists_1, trivial, launch0.admits_env _ _ _, launch0.least_env, fairChoices_fair.cas, fairChoices_fair.clock, w_frames, w_args, w_heap, w_applies, trivial, trivial, w_case⟩
end start1
theorem witness_1 : WitnessClaimed_1 := ⟨start1.p0, start1.e0, start1.about1, start1.theMethod, start1.args0, start1.below0, start1.atStart⟩
end Jvm.Pilot.@@N@@
