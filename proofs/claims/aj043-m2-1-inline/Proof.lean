import JvmDerived
import JvmDerived.Pilot.@@N@@Statement
import JvmDerived.Pilot.@@N@@Code
set_option linter.unusedVariables false
set_option linter.unusedSimpArgs false
namespace Jvm.Pilot.@@N@@
open Jvm Jvm.ClassFile Sem Op Lib Jvm.Free Jvm.Stand Jvm.LawKit Jvm.RoadKit Bundle Jvm.Pilot.@@N@@.Jvm.D
/-! own kit: 'from this state the body comes to its end as asked', so that a walk may fork and join -/
def own_Rch (p : Program) (e : Env) (below : List Frame) (F : Outcome → State → Prop) (S : State) : Prop :=
  ∃ s₂ o, Steps p.tables e below S s₂ ∧ s₂.status = .running ∧ Ended s₂ below o ∧ F o s₂
theorem own_go {p : Program} {e : Env} {below : List Frame} {F : Outcome → State → Prop} {S S' : State}
    (h : ∀ t, Steps p.tables e below S' t → Steps p.tables e below S t) (k : own_Rch p e below F S') : own_Rch p e below F S := by
  obtain ⟨a, b, c, d⟩ := k
  exact ⟨a, b, h _ c, d⟩
theorem own_cast {p : Program} {e : Env} {below : List Frame} {F : Outcome → State → Prop} {T : State} {g g' : JFrame} (q : g = g')
    (k : own_Rch p e below F (T.setTop g')) : own_Rch p e below F (T.setTop g) := q ▸ k
theorem own_join {p : Program} {e : Env} {below : List Frame} {F : Outcome → State → Prop} {S S' : State} (h : own_Rch p e below F S' → own_Rch p e below F S) (k : own_Rch p e below F S') : own_Rch p e below F S := h k
theorem own_narR {v : Value} {c : String} (h : v.isRef = true) : narrow (.object c) v = v := by rcases ref_cases h with rfl | ⟨_, rfl⟩ <;> rfl
theorem own_fitR {v : Value} {c : String} (h : v.isRef = true) : fits (.object c) v = true := by rcases ref_cases h with rfl | ⟨_, rfl⟩ <;> rfl
theorem own_staK {Z : State} {h h' : Heap} {C n d : String} {w : Value} (F : Sta Z h C n d w) (K : Keep h h' []) : Sta Z h' C n d w := by
  obtain ⟨cf, i, k, f, st, cell, h1, h2, h3, h4, h5, r⟩ := F
  exact ⟨cf, i, k, f, st, cell, h1, h2, h3, h4, K.2.1 _ _ h5 nin0, r⟩
def own_Fin (s : State) (k n : Nat) (Q : Option Value → Heap → List Loc → Prop) (o : Outcome) (t : State) : Prop :=
  ∃ v L, o = .returned v ∧ Q v t.heap L ∧ FrameEnd s o t L k n
def own_Ctr (l : Launch) (Z : State) (y : MethodName) (bytes : ByteArray) (maxL : Nat) (ret : Option FieldType) (ws : List Jvm.Cond) (rm : Room) (h0 : Heap) (as' : Array Value)
    (Q : Option Value → Heap → List Loc → Prop) : Prop :=
  MetFree l y (head1 (Jvm.Cond.code y bytes maxL ret :: ws) rm) (fun a U => a = as' ∧ Z.Warmed39 U.vm ∧ U.heap = h0) (fun _ _ _ _ _ => True) (fun _ U o U' => ∃ v L, o = .returned v ∧ Q v U'.heap L ∧ FrameEnd U o U' L rm.cells rm.slots)
theorem own_ctr {l : Launch} {Z : State} {y : MethodName} {bytes : ByteArray} {maxL : Nat} {ret : Option FieldType} {ws : List Jvm.Cond} {rm : Room} {h0 : Heap} {as' : Array Value}
    {Q : Option Value → Heap → List Loc → Prop} (hp : plainFor y = true)
    (body : ∀ p e s m below meth c s₁, BodyLoose p l y (head1 (Jvm.Cond.code y bytes maxL ret :: ws) rm) bytes maxL ret e s m as' below meth c s₁ → c.maxLocals = maxL → p.tables.exec = Jvm.exec → c.code = bytes →
      Z.Warmed39 s.vm → s.vm.findClass y.cls = some m.cls → Stand p l e rm s m as' below meth c s₁ [] 0 0 → s₁.heap = h0 →
      own_Rch p e below (own_Fin s rm.cells rm.slots Q) (s₁.setTop (entryFrame m as' maxL))) : own_Ctr l Z y bytes maxL ret ws rm h0 as' Q := by
  refine MetFree.of_bodySF hp hisR ?_
  intro p e s m args below meth c s₁ Bd hml hP hK
  obtain ⟨rfl, hZ, hh⟩ := hP
  exact body p e s m below meth c s₁ Bd hml Bd.exec Bd.bytes hZ (findClass_of_methodNamed Bd.named) (Stand.of_body Bd) (by rw [← hh, Bd.state]; rfl)
section OwnKit
variable {p : Program} {l : Launch} {e : Env} {R : Room} {s : State} {m : MethodId} {args : Array Value} {below : List Frame} {meth : Method} {c : Code} {T : State} {locs : List Loc} {cells slots : Nat} {Z : State} {a0 : Array Value}
theorem own_retI0 (X : Stand p l e R s m args below meth c T locs cells slots) (hx : p.tables.exec = Jvm.exec) {pc : Nat} {Ls : Array Slot} {z : Int32} {rest : List Value} (hret : meth.sig.returnType = some .int) (hd : decode c.code pc = .ok (.ireturn, 1)) {fs : List Frame}
    (hl : ∀ (f : JFrame) (acts : List Action), f.method = m → f.locked = none → f.entered = [] → (doReturn e (T.setTop f) acts (some (.int z))).1 = T.setFrames fs) : Steps p.tables e below (T.setTop (mkF m pc Ls (.int z :: rest))) (T.setFrames fs) :=
  retOut X hx hret rfl (Or.inl ⟨rfl, Or.inl rfl, z, rfl⟩) hd hl
theorem own_retN {K N : Nat} {Q : Option Value → Heap → List Loc → Prop} (X : Stand p l e R s m args below meth c T locs cells slots) (hx : p.tables.exec = Jvm.exec) {pc : Nat} {Ls : Array Slot} {z w : Int32} {t : FieldType} {rest : List Value}
    (hret : meth.sig.returnType = some t) (hlocks : meth.locks = false) (ht : t = .boolean ∨ t = .byte ∨ t = .char ∨ t = .short) (hd : decode c.code pc = .ok (.ireturn, 1)) (hw : nar t z = w) (hK : cells ≤ K) (hN : slots ≤ N)
    (hq : Q (some (.int w)) T.heap locs) : own_Rch p e below (own_Fin s K N Q) (T.setTop (mkF m pc Ls (.int z :: rest))) := by
  subst hw
  obtain ⟨fs, hr, hrun, hended, hW, hsame⟩ := X.leave (v := some (.int (nar t z))) (fun h => by rw [hret] at h; cases h) hlocks
  exact ⟨_, _, retN X hx hret ht hd hr, hrun, hended, _, _, rfl, hq, ⟨_, rfl⟩, hW, hsame.mono hK hN⟩
theorem own_retI {K N : Nat} {Q : Option Value → Heap → List Loc → Prop} (X : Stand p l e R s m args below meth c T locs cells slots) (hx : p.tables.exec = Jvm.exec) {pc : Nat} {Ls : Array Slot} {z : Int32} {rest : List Value}
    (hret : meth.sig.returnType = some .int) (hlocks : meth.locks = false) (hd : decode c.code pc = .ok (.ireturn, 1)) (hK : cells ≤ K) (hN : slots ≤ N)
    (hq : Q (some (.int z)) T.heap locs) : own_Rch p e below (own_Fin s K N Q) (T.setTop (mkF m pc Ls (.int z :: rest))) := by
  obtain ⟨fs, hr, hrun, hended, hW, hsame⟩ := X.leave (v := some (.int z)) (fun h => by rw [hret] at h; cases h) hlocks
  exact ⟨_, _, own_retI0 X hx hret hd hr, hrun, hended, _, _, rfl, hq, ⟨_, rfl⟩, hW, hsame.mono hK hN⟩
theorem own_retJ {K N : Nat} {Q : Option Value → Heap → List Loc → Prop} (X : Stand p l e R s m args below meth c T locs cells slots) (hx : p.tables.exec = Jvm.exec) {pc : Nat} {Ls : Array Slot} {z : Int64} {rest : List Value}
    (hret : meth.sig.returnType = some .long) (hlocks : meth.locks = false) (hd : decode c.code pc = .ok (.lreturn, 1)) (hK : cells ≤ K) (hN : slots ≤ N)
    (hq : Q (some (.long z)) T.heap locs) : own_Rch p e below (own_Fin s K N Q) (T.setTop (mkF m pc Ls (.long z :: rest))) := by
  obtain ⟨fs, hr, hrun, hended, hW, hsame⟩ := X.leave (v := some (.long z)) (fun h => by rw [hret] at h; cases h) hlocks
  exact ⟨_, _, retOut X hx hret rfl (Or.inr (Or.inl ⟨rfl, rfl, z, rfl⟩)) hd hr, hrun, hended, _, _, rfl, hq, ⟨_, rfl⟩, hW, hsame.mono hK hN⟩
theorem own_retA {K N : Nat} {Q : Option Value → Heap → List Loc → Prop} (X : Stand p l e R s m args below meth c T locs cells slots) (hx : p.tables.exec = Jvm.exec) {pc : Nat} {Ls : Array Slot} {w : Value} {t : FieldType} {rest : List Value}
    (hret : meth.sig.returnType = some t) (hlocks : meth.locks = false) (ht : t.isReference = true) (hw : w.isRef = true) (hn : narrow t w = w) (hd : decode c.code pc = .ok (.areturn, 1)) (hK : cells ≤ K) (hN : slots ≤ N)
    (hq : Q (some w) T.heap locs) : own_Rch p e below (own_Fin s K N Q) (T.setTop (mkF m pc Ls (w :: rest))) := by
  obtain ⟨fs, hr, hrun, hended, hW, hsame⟩ := X.leave (v := some w) (fun h => by rw [hret] at h; cases h) hlocks
  exact ⟨_, _, retOut X hx hret hn (Or.inr (Or.inr (Or.inr (Or.inr ⟨rfl, ht, hw⟩)))) hd hr, hrun, hended, _, _, rfl, hq, ⟨_, rfl⟩, hW, hsame.mono hK hN⟩
theorem own_ret0 {K N : Nat} {Q : Option Value → Heap → List Loc → Prop} (X : Stand p l e R s m args below meth c T locs cells slots) (hx : p.tables.exec = Jvm.exec) {pc : Nat} {Ls : Array Slot}
    (hret : meth.sig.returnType = none) (hlocks : meth.locks = false) (hd : decode c.code pc = .ok (.return_, 1)) (hK : cells ≤ K) (hN : slots ≤ N)
    (hq : Q none T.heap locs) : own_Rch p e below (own_Fin s K N Q) (T.setTop (mkF m pc Ls [])) := by
  obtain ⟨fs, hr, hrun, hended, hW, hsame⟩ := X.leave (v := none) (fun _ => rfl) hlocks
  exact ⟨_, _, X.returnOut hx hret hd hr, hrun, hended, _, _, rfl, hq, ⟨_, rfl⟩, hW, hsame.mono hK hN⟩
theorem own_callS (X : Stand p l e R s m args below meth c T locs cells slots) (hx : p.tables.exec = Jvm.exec) (hZ : Z.Warmed39 s.vm) {own : String} {index : Nat} {y : MethodName} {bytes : ByteArray} {maxL : Nat} {ret : Option FieldType}
    (hown : s.vm.findClass own = some m.cls) (w1 : (Jvm.Cond.methodLink own index y).before a0 Z = true) (w2 : (Jvm.Cond.static y).before a0 Z = true) (w3 : (Jvm.Cond.initialized y.cls).before a0 Z = true) (w4 : (Jvm.Cond.code y bytes maxL ret).before a0 Z = true)
    (hy : y.cls ≠ "java/lang/invoke/MethodHandle" ∧ y.cls ≠ "java/lang/invoke/VarHandle") {rm : Room} {h : Heap} {as' : Array Value} {Q : Option Value → Heap → List Loc → Prop} (hM : own_Ctr l Z y bytes maxL ret [] rm h as' Q) (eT : T.heap = h)
    {W : Nat} (hf : rm.frames + 1 ≤ R.frames) (hl : W + (maxL + 11) + rm.locals ≤ R.locals) {g : JFrame} (hg : g.method = m) (hsize : g.locals.size = c.maxLocals) {argsL rest : List Value}
    (hlen : ∀ sig, parseMethodDescriptor y.desc = some sig → argsL.length = sig.parameters.length) (hstack : g.stack = argsL.reverse ++ rest) (has : argsL.toArray = as') (hW : 2 * g.monitorRoom + (rest.map fun v => v.category).sum = W)
    (hdg : decode c.code g.pc = .ok (.invokestatic index, 3)) (hc : cells + rm.cells ≤ R.cells) (hs : slots + rm.slots ≤ R.slots) :
    ∃ v T' L, Stand p l e R s m args below meth c T' (locs ++ L) (cells + rm.cells) (slots + rm.slots) ∧ Q v T'.heap L ∧
      ∀ t, Steps p.tables e below (T'.setTop { g with pc := g.pc + 3, stack := v.toList ++ rest }) t → Steps p.tables e below (T.setTop g) t := by
  obtain ⟨v, _, ⟨T', L', k', n'⟩, -, X', ⟨Lc, hQ, l', y', z'⟩, st⟩ := Jvm.LawKit.callS X hx hown (mvT hZ w1) (mvT hZ w2) (mvT hZ w3) (mvT hZ w4) hy (backOf (Q := Q) (W := W) hM hZ w4 w3 hf hl) hg hsize hlen hstack (Nat.le_of_eq hW) hdg (fun _ _ => ⟨has, eT, hc, hs⟩)
  dsimp only [Pt.U, Pt.locs, Pt.cells, Pt.slots] at X' l' y' z' st hQ
  subst l' y' z'
  exact ⟨v, T', Lc, X', hQ, st⟩
theorem own_callC (X : Stand p l e R s m args below meth c T locs cells slots) (hx : p.tables.exec = Jvm.exec) (hZ : Z.Warmed39 s.vm) {own : String} {index : Nat} {y : MethodName} {bytes : ByteArray} {maxL : Nat} (hy1 : y.name = "<init>")
    (hown : s.vm.findClass own = some m.cls) (w1 : (Jvm.Cond.methodLink own index y).before a0 Z = true) (w2 : (Jvm.Cond.instanceMethod y).before a0 Z = true) (w3 : (Jvm.Cond.initialized y.cls).before a0 Z = true) (w4 : (Jvm.Cond.code y bytes maxL none).before a0 Z = true)
    (hy : y.cls ≠ "java/lang/invoke/MethodHandle" ∧ y.cls ≠ "java/lang/invoke/VarHandle") {rm : Room} {h : Heap} {as' : Array Value} {Q : Option Value → Heap → List Loc → Prop} (hM : own_Ctr l Z y bytes maxL none [] rm h as' Q) (eT : T.heap = h)
    {W : Nat} (hf : rm.frames + 1 ≤ R.frames) (hl : W + (maxL + 11) + rm.locals ≤ R.locals) {g : JFrame} (hg : g.method = m) (hsize : g.locals.size = c.maxLocals) {a : Addr} {argsL rest : List Value}
    (hlen : ∀ sig, parseMethodDescriptor y.desc = some sig → argsL.length = sig.parameters.length) (hstack : g.stack = argsL.reverse ++ .ref a :: rest) (has : (.ref a :: argsL).toArray = as') (hW : 2 * g.monitorRoom + (rest.map fun v => v.category).sum = W)
    (hdg : decode c.code g.pc = .ok (.invokespecial index, 3)) (hc : cells + rm.cells ≤ R.cells) (hs : slots + rm.slots ≤ R.slots) :
    ∃ v T' L, Stand p l e R s m args below meth c T' (locs ++ L) (cells + rm.cells) (slots + rm.slots) ∧ Q v T'.heap L ∧
      ∀ t, Steps p.tables e below (T'.setTop { g with pc := g.pc + 3, stack := v.toList ++ rest }) t → Steps p.tables e below (T.setTop g) t := by
  obtain ⟨v, _, ⟨T', L', k', n'⟩, -, X', ⟨Lc, hQ, l', y', z'⟩, st⟩ := X.specialBack hx hy1 hown (mvT hZ w1) (mvT hZ w2) (mvT hZ w4) hy (backOf (Q := Q) (W := W) hM hZ w4 w3 hf hl) hg hsize (Steps.refl _) hlen hstack (Nat.le_of_eq hW) hdg (fun _ _ => ⟨has, eT, hc, hs⟩)
  dsimp only [Pt.U, Pt.locs, Pt.cells, Pt.slots] at X' l' y' z' st hQ
  subst l' y' z'
  exact ⟨v, T', Lc, X', hQ, fun t k => st.trans k⟩
theorem own_callV (X : Stand p l e R s m args below meth c T locs cells slots) (hx : p.tables.exec = Jvm.exec) (hZ : Z.Warmed39 s.vm) {own C : String} {index : Nat} {y z : MethodName} {bytes : ByteArray} {maxL : Nat} {ret : Option FieldType}
    (hown : s.vm.findClass own = some m.cls) (w1 : (Jvm.Cond.methodLink own index y).before a0 Z = true) (w2 : (Jvm.Cond.declares y).before a0 Z = true) (nf : NotFace s y) (w5 : (Jvm.Cond.selects C y z).before a0 Z = true) (w6 : (Jvm.Cond.instanceMethod z).before a0 Z = true)
    (w3 : (Jvm.Cond.initialized z.cls).before a0 Z = true) (w4 : (Jvm.Cond.code z bytes maxL ret).before a0 Z = true)
    (hy : y.cls ≠ "java/lang/invoke/MethodHandle" ∧ y.cls ≠ "java/lang/invoke/VarHandle") {rm : Room} {h : Heap} {as' : Array Value} {Q : Option Value → Heap → List Loc → Prop} (hM : own_Ctr l Z z bytes maxL ret [] rm h as' Q) (eT : T.heap = h)
    {b : Addr} (E : Exa Z h b C)
    {W : Nat} (hf : rm.frames + 1 ≤ R.frames) (hl : W + (maxL + 11) + rm.locals ≤ R.locals) {g : JFrame} (hg : g.method = m) (hsize : g.locals.size = c.maxLocals) {argsL rest : List Value}
    (hlen : ∀ sig, parseMethodDescriptor y.desc = some sig → argsL.length = sig.parameters.length) (hstack : g.stack = argsL.reverse ++ .ref b :: rest) (has : (.ref b :: argsL).toArray = as') (hW : 2 * g.monitorRoom + (rest.map fun v => v.category).sum = W)
    (hdg : decode c.code g.pc = .ok (.invokevirtual index, 3)) (hc : cells + rm.cells ≤ R.cells) (hs : slots + rm.slots ≤ R.slots) :
    ∃ v T' L, Stand p l e R s m args below meth c T' (locs ++ L) (cells + rm.cells) (slots + rm.slots) ∧ Q v T'.heap L ∧
      ∀ t, Steps p.tables e below (T'.setTop { g with pc := g.pc + 3, stack := v.toList ++ rest }) t → Steps p.tables e below (T.setTop g) t := by
  obtain ⟨cq, kq, qa, qb, qc⟩ := isOf hZ eT E
  obtain ⟨v, _, ⟨T', L', k', n'⟩, -, X', ⟨Lc, hQ, l', y', z'⟩, st⟩ := X.virtualBack hx hown (mvT hZ w1) (mvT hZ w2) nf (mvT hZ w5) (mvT hZ w6) hy (backOf (Q := Q) (W := W) hM hZ w4 w3 hf hl) qa qc hg hsize (Steps.refl _) hlen hstack (Nat.le_of_eq hW) hdg (fun _ _ => ⟨has, eT, hc, hs⟩)
  dsimp only [Pt.U, Pt.locs, Pt.cells, Pt.slots] at X' l' y' z' st hQ
  subst l' y' z'
  exact ⟨v, T', Lc, X', hQ, fun t k => st.trans k⟩
end OwnKit
section OwnArr
variable {p : Program} {l : Launch} {e : Env} {R : Room} {s : State} {m : MethodId} {args : Array Value} {below : List Frame} {meth : Method} {c : Code} {T : State} {locs : List Loc} {cells slots : Nat} {Z : State} {h : Heap} {a : Addr} {k : ClassId} {z j : Int32} {vs : List Value} {dv v : Value}
theorem own_len (X : Stand p l e R s m args below meth c T locs cells slots) (hx : p.tables.exec = Jvm.exec) (hZ : Z.Warmed39 s.vm) (eT : T.heap = h) {ty : FieldType} (V : Arv Z h a k ty z vs dv)
    {g : JFrame} (hg : g.method = m) {rest : List Value} (hs : g.stack = .ref a :: rest) (hd : decode c.code g.pc = .ok (.arraylength, 1)) :
    ∀ t, Steps p.tables e below (T.setTop { g with pc := g.pc + 1, stack := .int z :: rest }) t → Steps p.tables e below (T.setTop g) t := by
  obtain ⟨cl, A, -, S, N, -, -⟩ := V
  intro t k
  refine X.arraylength hx (by rw [eT]; exact A.1) (State.isArrayOf_alike hZ.alike A.2.1) hg hs hd _ ?_
  rw [len_of S N]; exact k
theorem own_bal (X : Stand p l e R s m args below meth c T locs cells slots) (hx : p.tables.exec = Jvm.exec) (hZ : Z.Warmed39 s.vm) (eT : T.heap = h) (V : Arv Z h a k .byte z vs dv) (hj : ¬ j < 0 ∧ j < z) (hv : vs.getD j.toNatClampNeg dv = v)
    {g : JFrame} (hg : g.method = m) {rest : List Value} (hs : g.stack = .int j :: .ref a :: rest) (hd : decode c.code g.pc = .ok (.baload, 1)) :
    ∀ t, Steps p.tables e below (T.setTop { g with pc := g.pc + 1, stack := v :: rest }) t → Steps p.tables e below (T.setTop g) t := by
  obtain ⟨cl, A, -, S, N, H, -⟩ := V
  have hin := inb_of S hj
  intro t k
  exact X.baloadBytes hx (by rw [eT]; exact A.1) (State.isArrayOf_alike hZ.alike A.2.1) A.2.2 hin (Has.at H hin hv) hg hs hd _ k
theorem own_ial (X : Stand p l e R s m args below meth c T locs cells slots) (hx : p.tables.exec = Jvm.exec) (hZ : Z.Warmed39 s.vm) (eT : T.heap = h) (V : Arv Z h a k .int z vs dv) (hj : ¬ j < 0 ∧ j < z) (hv : vs.getD j.toNatClampNeg dv = v)
    {g : JFrame} (hg : g.method = m) {rest : List Value} (hs : g.stack = .int j :: .ref a :: rest) (hd : decode c.code g.pc = .ok (.iaload, 1)) :
    ∀ t, Steps p.tables e below (T.setTop { g with pc := g.pc + 1, stack := v :: rest }) t → Steps p.tables e below (T.setTop g) t := by
  obtain ⟨cl, A, -, S, N, H, -⟩ := V
  have hin := inb_of S hj
  intro t k
  exact X.iaload hx (by rw [eT]; exact A.1) (State.isArrayOf_alike hZ.alike A.2.1) A.2.2 hin (Has.at H hin hv) hg hs hd _ k
theorem own_stB (X : Stand p l e R s m args below meth c T locs cells slots) (hx : p.tables.exec = Jvm.exec) (hZ : Z.Warmed39 s.vm) (eT : T.heap = h) (V : Arv Z h a k .byte z vs dv) (hj : ¬ j < 0 ∧ j < z) {i : Nat} (hi : j.toNatClampNeg = i) (hlt : i < vs.length) {x : Int32}
    {g : JFrame} (hg : g.method = m) {rest : List Value} (hs : g.stack = .int x :: .int j :: .ref a :: rest) (hd : decode c.code g.pc = .ok (.bastore, 1)) :
    ∃ T' h', Stand p l e R s m args below meth c T' (locs ++ [⟨a, j.toNatClampNeg⟩]) cells slots ∧ T'.heap = h' ∧ Wr h h' a j.toNatClampNeg (.int (nar .byte x)) ∧ Arv Z h' a k .byte z (vs.set i (.int (nar .byte x))) dv ∧
      ∀ t, Steps p.tables e below (T'.setTop { g with pc := g.pc + 1, stack := rest }) t → Steps p.tables e below (T.setTop g) t := by
  obtain ⟨cl, A, q, S, N, H, G⟩ := V
  obtain ⟨T', h', X', e', W, st⟩ := stB X hx hZ eT A (inb_of S hj) hg hs hd
  exact ⟨T', h', X', e', W, Arv.set A q S N H G (fits_nar_byte _) W i hi hlt, st⟩
theorem own_stI (X : Stand p l e R s m args below meth c T locs cells slots) (hx : p.tables.exec = Jvm.exec) (hZ : Z.Warmed39 s.vm) (eT : T.heap = h) (V : Arv Z h a k .int z vs dv) (hj : ¬ j < 0 ∧ j < z) {i : Nat} (hi : j.toNatClampNeg = i) (hlt : i < vs.length) {x : Int32}
    {g : JFrame} (hg : g.method = m) {rest : List Value} (hs : g.stack = .int x :: .int j :: .ref a :: rest) (hd : decode c.code g.pc = .ok (.iastore, 1)) :
    ∃ T' h', Stand p l e R s m args below meth c T' (locs ++ [⟨a, j.toNatClampNeg⟩]) cells slots ∧ T'.heap = h' ∧ Wr h h' a j.toNatClampNeg (.int x) ∧ Arv Z h' a k .int z (vs.set i (.int x)) dv ∧
      ∀ t, Steps p.tables e below (T'.setTop { g with pc := g.pc + 1, stack := rest }) t → Steps p.tables e below (T.setTop g) t := by
  obtain ⟨cl, A, q, S, N, H, G⟩ := V
  obtain ⟨T', h', X', e', W, st⟩ := stI X hx hZ eT A (inb_of S hj) hg hs hd
  exact ⟨T', h', X', e', W, Arv.set A q S N H G rfl W i hi hlt, st⟩
end OwnArr
section OwnMore
variable {p : Program} {l : Launch} {e : Env} {R : Room} {s : State} {m : MethodId} {args : Array Value} {below : List Frame} {meth : Method} {c : Code} {T : State} {locs : List Loc} {cells slots : Nat} {Z : State} {a0 : Array Value}
theorem own_callI (X : Stand p l e R s m args below meth c T locs cells slots) (hx : p.tables.exec = Jvm.exec) (hZ : Z.Warmed39 s.vm) {own C : String} {index count : Nat} {y z : MethodName} {bytes : ByteArray} {maxL : Nat} {ret : Option FieldType}
    (hown : s.vm.findClass own = some m.cls) (w1 : (Jvm.Cond.methodLink own index y).before a0 Z = true) (w2 : (Jvm.Cond.declares y).before a0 Z = true) (w7 : (Jvm.Cond.interfaceMethod y.cls y.cls y.name y.desc).before a0 Z = true) (w5 : (Jvm.Cond.selects C y z).before a0 Z = true) (w6 : (Jvm.Cond.instanceMethod z).before a0 Z = true)
    (w8 : (Jvm.Cond.publicMethod z).before a0 Z = true) (w9 : (Jvm.Cond.unhidden C y.name y.desc).before a0 Z = true) (w10 : (Jvm.Cond.castable C y.cls).before a0 Z = true) (w3 : (Jvm.Cond.initialized z.cls).before a0 Z = true) (w4 : (Jvm.Cond.code z bytes maxL ret).before a0 Z = true)
    (hy : y.cls ≠ "java/lang/invoke/MethodHandle" ∧ y.cls ≠ "java/lang/invoke/VarHandle") {rm : Room} {h : Heap} {as' : Array Value} {Q : Option Value → Heap → List Loc → Prop} (hM : own_Ctr l Z z bytes maxL ret [] rm h as' Q) (eT : T.heap = h)
    {b : Addr} (E : Exa Z h b C)
    {W : Nat} (hf : rm.frames + 1 ≤ R.frames) (hl : W + (maxL + 11) + rm.locals ≤ R.locals) {g : JFrame} (hg : g.method = m) (hsize : g.locals.size = c.maxLocals) {argsL rest : List Value}
    (hlen : ∀ sig, parseMethodDescriptor y.desc = some sig → argsL.length = sig.parameters.length) (hstack : g.stack = argsL.reverse ++ .ref b :: rest) (has : (.ref b :: argsL).toArray = as') (hW : 2 * g.monitorRoom + (rest.map fun v => v.category).sum = W)
    (hdg : decode c.code g.pc = .ok (.invokeinterface index count, 5)) (hc : cells + rm.cells ≤ R.cells) (hs : slots + rm.slots ≤ R.slots) :
    ∃ v T' L, Stand p l e R s m args below meth c T' (locs ++ L) (cells + rm.cells) (slots + rm.slots) ∧ Q v T'.heap L ∧
      ∀ t, Steps p.tables e below (T'.setTop { g with pc := g.pc + 5, stack := v.toList ++ rest }) t → Steps p.tables e below (T.setTop g) t := by
  obtain ⟨cq, kq, qa, qb, qc⟩ := isOf hZ eT E
  obtain ⟨v, _, ⟨T', L', k', n'⟩, -, X', ⟨Lc, hQ, l', y', z'⟩, st⟩ := X.interfaceBack hx hown (mvT hZ w1) (mvT hZ w2) (mvT hZ w7 (by simp [Cond.tabsN, Cond.tabsOnly, Cond.onTables, Cond.keepsFace, Cond.keeps, Cond.steady, Cond.faceAtom, hy.1, hy.2])) (mvT hZ w5) (mvT hZ w6) (mvT hZ w8) (mvT hZ w9) (mvT hZ w10) hy (backOf (Q := Q) (W := W) hM hZ w4 w3 hf hl) qa qb qc hg hsize (Steps.refl _) hlen hstack (Nat.le_of_eq hW) hdg (fun _ _ => ⟨has, eT, hc, hs⟩)
  dsimp only [Pt.U, Pt.locs, Pt.cells, Pt.slots] at X' l' y' z' st hQ
  subst l' y' z'
  exact ⟨v, T', Lc, X', hQ, fun t k => st.trans k⟩
theorem own_callP (X : Stand p l e R s m args below meth c T locs cells slots) (hx : p.tables.exec = Jvm.exec) (hZ : Z.Warmed39 s.vm) {own C : String} {index : Nat} {y : MethodName} {bytes : ByteArray} {maxL : Nat} {ret : Option FieldType}
    (hown : s.vm.findClass own = some m.cls) (w1 : (Jvm.Cond.methodLink own index y).before a0 Z = true) (w6 : (Jvm.Cond.instanceMethod y).before a0 Z = true) {C2 : String} (w5 : (Jvm.Cond.selects C2 y y).before a0 Z = true) (wp : (Jvm.Cond.privateMethod y).before a0 Z = true)
    (w3 : (Jvm.Cond.initialized y.cls).before a0 Z = true) (w4 : (Jvm.Cond.code y bytes maxL ret).before a0 Z = true)
    (hy : y.cls ≠ "java/lang/invoke/MethodHandle" ∧ y.cls ≠ "java/lang/invoke/VarHandle") {rm : Room} {h : Heap} {as' : Array Value} {Q : Option Value → Heap → List Loc → Prop} (hM : own_Ctr l Z y bytes maxL ret [] rm h as' Q) (eT : T.heap = h)
    {b : Addr} (E : Exa Z h b C)
    {W : Nat} (hf : rm.frames + 1 ≤ R.frames) (hl : W + (maxL + 11) + rm.locals ≤ R.locals) {g : JFrame} (hg : g.method = m) (hsize : g.locals.size = c.maxLocals) {argsL rest : List Value}
    (hlen : ∀ sig, parseMethodDescriptor y.desc = some sig → argsL.length = sig.parameters.length) (hstack : g.stack = argsL.reverse ++ .ref b :: rest) (has : (.ref b :: argsL).toArray = as') (hW : 2 * g.monitorRoom + (rest.map fun v => v.category).sum = W)
    (hdg : decode c.code g.pc = .ok (.invokevirtual index, 3)) (hc : cells + rm.cells ≤ R.cells) (hs : slots + rm.slots ≤ R.slots) :
    ∃ v T' L, Stand p l e R s m args below meth c T' (locs ++ L) (cells + rm.cells) (slots + rm.slots) ∧ Q v T'.heap L ∧
      ∀ t, Steps p.tables e below (T'.setTop { g with pc := g.pc + 3, stack := v.toList ++ rest }) t → Steps p.tables e below (T.setTop g) t := by
  obtain ⟨cq, q1, q2⟩ := E.cell
  have hsel : (Jvm.Cond.selects y.cls y y).before args s = true := by
    obtain ⟨_, _, mm, -, -, z3, -, mk, z4, z5⟩ := Cond.selects_spec (mvT (s := s) (args := args) hZ w5)
    exact selects_self_of_private (findClass_of_methodNamed z3) z4 z5 (Cond.privateMethod_at (mvP hZ wp (args := #[]))) (mvT hZ w6) hy
  obtain ⟨v, _, ⟨T', L', k', n'⟩, -, X', ⟨Lc, hQ, l', y', z'⟩, st⟩ := X.privateBack hx hown (mvT hZ w1) (mvT hZ w6) hsel (Cond.privateMethod_at (mvP hZ wp (args := #[]))) (mvT hZ w4) hy (backOf (Q := Q) (W := W) hM hZ w4 w3 hf hl) hg hsize (Steps.refl _) (by rw [eT]; exact q1) q2 hlen hstack (Nat.le_of_eq hW) hdg (fun _ _ => ⟨has, eT, hc, hs⟩)
  dsimp only [Pt.U, Pt.locs, Pt.cells, Pt.slots] at X' l' y' z' st hQ
  subst l' y' z'
  exact ⟨v, T', Lc, X', hQ, fun t k => st.trans k⟩
theorem own_same {y z z' : MethodName} {C : String} (wd : (Jvm.Cond.declares y).before a0 Z = true) (ws : (Jvm.Cond.selects C z z').before a0 Z = true) (hz : z'.cls = y.cls) (hy : y.cls ≠ "java/lang/invoke/MethodHandle" ∧ y.cls ≠ "java/lang/invoke/VarHandle") : (Jvm.Cond.sameMethod y.cls y.cls y.name y.desc).before a0 Z = true := by
  obtain ⟨mm, meth, h1, h2, -, -⟩ := Cond.declares_spec wd
  obtain ⟨_, _, m2, -, -, z3, -, mk, z4, z5⟩ := Cond.selects_spec ws
  have hf := findClass_of_methodNamed h1
  have hf2 := findClass_of_methodNamed z3
  rw [hz, hf] at hf2
  have e := Option.some.inj hf2
  rw [← e] at z4
  have hm := State.methodFound?_of_named h1 hy
  have h1' : Z.methodNamed? ⟨y.cls, y.name, y.desc⟩ = some mm := h1
  simp [Cond.before, Cond.holds, Cond.value, hf, hm, h1', z4, z5]
theorem own_callSup (X : Stand p l e R s m args below meth c T locs cells slots) (hx : p.tables.exec = Jvm.exec) (hZ : Z.Warmed39 s.vm) {own C K : String} {index : Nat} {y z z' : MethodName} {bytes : ByteArray} {maxL : Nat} {ret : Option FieldType}
    (hown : s.vm.findClass own = some m.cls) (w1 : (Jvm.Cond.methodLink own index y).before a0 Z = true) (w2 : (Jvm.Cond.declares y).before a0 Z = true) (w5 : (Jvm.Cond.selects C z z').before a0 Z = true) (hz : z'.cls = y.cls) (w6 : (Jvm.Cond.instanceMethod y).before a0 Z = true)
    (w7 : (Jvm.Cond.superclass own y.cls).before a0 Z = true) (hn : y.name ≠ "<init>") (w3 : (Jvm.Cond.initialized y.cls).before a0 Z = true) (w4 : (Jvm.Cond.code y bytes maxL ret).before a0 Z = true)
    (hy : y.cls ≠ "java/lang/invoke/MethodHandle" ∧ y.cls ≠ "java/lang/invoke/VarHandle") {rm : Room} {h : Heap} {as' : Array Value} {Q : Option Value → Heap → List Loc → Prop} (hM : own_Ctr l Z y bytes maxL ret [] rm h as' Q) (eT : T.heap = h)
    {b : Addr} (E : Exa Z h b K)
    {W : Nat} (hf : rm.frames + 1 ≤ R.frames) (hl : W + (maxL + 11) + rm.locals ≤ R.locals) {g : JFrame} (hg : g.method = m) (hsize : g.locals.size = c.maxLocals) {argsL rest : List Value}
    (hlen : ∀ sig, parseMethodDescriptor y.desc = some sig → argsL.length = sig.parameters.length) (hstack : g.stack = argsL.reverse ++ .ref b :: rest) (has : (.ref b :: argsL).toArray = as') (hW : 2 * g.monitorRoom + (rest.map fun v => v.category).sum = W)
    (hdg : decode c.code g.pc = .ok (.invokespecial index, 3)) (hc : cells + rm.cells ≤ R.cells) (hs : slots + rm.slots ≤ R.slots) :
    ∃ v T' L, Stand p l e R s m args below meth c T' (locs ++ L) (cells + rm.cells) (slots + rm.slots) ∧ Q v T'.heap L ∧
      ∀ t, Steps p.tables e below (T'.setTop { g with pc := g.pc + 3, stack := v.toList ++ rest }) t → Steps p.tables e below (T.setTop g) t := by
  obtain ⟨v, _, ⟨T', L', k', n'⟩, -, X', ⟨Lc, hQ, l', y', z'⟩, st⟩ := superBack X hx hZ hown w1 (own_same w2 w5 hz hy) w6 w7 hn (backOf (Q := Q) (W := W) hM hZ w4 w3 hf hl) eT (Ins.self E) hg hsize w4 hlen hstack (Nat.le_of_eq hW) hdg (fun _ _ => ⟨has, eT, hc, hs⟩)
  dsimp only [Pt.U, Pt.locs, Pt.cells, Pt.slots] at X' l' y' z' st hQ
  subst l' y' z'
  exact ⟨v, T', Lc, X', hQ, fun t k => st.trans k⟩
variable {h : Heap} {a : Addr} {k : ClassId} {z j : Int32} {vs : List Value} {dv v : Value}
theorem own_aal (X : Stand p l e R s m args below meth c T locs cells slots) (hx : p.tables.exec = Jvm.exec) (hZ : Z.Warmed39 s.vm) (eT : T.heap = h) {ty : FieldType} (V : Arv Z h a k ty z vs dv) (ht : ty.isReference = true) (hj : ¬ j < 0 ∧ j < z) (hv : vs.getD j.toNatClampNeg dv = v)
    {g : JFrame} (hg : g.method = m) {rest : List Value} (hs : g.stack = .int j :: .ref a :: rest) (hd : decode c.code g.pc = .ok (.aaload, 1)) :
    ∀ t, Steps p.tables e below (T.setTop { g with pc := g.pc + 1, stack := v :: rest }) t → Steps p.tables e below (T.setTop g) t := by
  obtain ⟨cl, A, -, S, N, H, -⟩ := V
  have hin := inb_of S hj
  intro t k
  exact X.aaload hx (by rw [eT]; exact A.1) (State.isArrayOf_alike hZ.alike A.2.1) ht A.2.2 hin (Has.at H hin hv) hg hs hd _ k
theorem own_stR (X : Stand p l e R s m args below meth c T locs cells slots) (hx : p.tables.exec = Jvm.exec) (hZ : Z.Warmed39 s.vm) (eT : T.heap = h) {C : String} (V : Arv Z h a k (.object C) z vs dv) (O : Ovr Z k C) {y : Addr} (I : Ins Z h y C true) (hj : ¬ j < 0 ∧ j < z) {i : Nat} (hi : j.toNatClampNeg = i) (hlt : i < vs.length)
    {g : JFrame} (hg : g.method = m) {rest : List Value} (hs : g.stack = .ref y :: .int j :: .ref a :: rest) (hd : decode c.code g.pc = .ok (.aastore, 1)) :
    ∃ T' h', Stand p l e R s m args below meth c T' (locs ++ [⟨a, j.toNatClampNeg⟩]) cells slots ∧ T'.heap = h' ∧ Wr h h' a j.toNatClampNeg (.ref y) ∧ Arv Z h' a k (.object C) z (vs.set i (.ref y)) dv ∧
      ∀ t, Steps p.tables e below (T'.setTop { g with pc := g.pc + 1, stack := rest }) t → Steps p.tables e below (T.setTop g) t := by
  obtain ⟨cl, A, q, S, N, H, G⟩ := V
  obtain ⟨T', h', X', e', W, st⟩ := stR X hx hZ eT A (inb_of S hj) rfl (Sto.ofV A q O I) hg hs hd
  exact ⟨T', h', X', e', W, Arv.set A q S N H G rfl W i hi hlt, st⟩
end OwnMore
section OwnWide
open Jvm.Free.SB Jvm.Free.SBG
variable {p : Program} {l : Launch} {e : Env} {R : Room} {s : State} {m : MethodId} {args : Array Value} {below : List Frame} {meth : Method} {c : Code} {T : State} {locs : List Loc} {cells slots : Nat} {Z : State} {a0 : Array Value} {EL : List (String × Nat)} {vm0 : Vm} {k0 : Nat} {h : Heap}
def own_FinW (Z : State) (EL : List (String × Nat)) (s : State) (k n : Nat) (Q : Option Value → Heap → List Loc → Prop) (o : Outcome) (t : State) : Prop :=
  ∃ v L, o = .returned v ∧ Q v t.heap L ∧ CHr Z EL s.vm s.heap t.vm t.heap ∧ ReturnedEndW s o t L k n
def own_CtrW (l : Launch) (Z : State) (EL : List (String × Nat)) (y : MethodName) (bytes : ByteArray) (maxL : Nat) (ret : Option FieldType) (ws : List Jvm.Cond) (rm : Room) (h0 : Heap) (as' : Array Value)
    (Q : Option Value → Heap → List Loc → Prop) : Prop :=
  MetFree l y (head1 (Jvm.Cond.code y bytes maxL ret :: ws) rm) (fun a U => a = as' ∧ Z.Warmed39 U.vm ∧ U.heap = h0 ∧ CHv Z EL U.vm h0) (fun _ _ _ _ _ => True) (fun _ U o U' => ∃ v L, o = .returned v ∧ Q v U'.heap L ∧ CHr Z EL U.vm U.heap U'.vm U'.heap ∧ ReturnedEndW U o U' L rm.cells rm.slots)
theorem own_ctrW {y : MethodName} {bytes : ByteArray} {maxL : Nat} {ret : Option FieldType} {ws : List Jvm.Cond} {rm : Room} {h0 : Heap} {as' : Array Value}
    {Q : Option Value → Heap → List Loc → Prop} (hp : plainFor y = true)
    (body : ∀ p e s m below meth c s₁, BodyLoose p l y (head1 (Jvm.Cond.code y bytes maxL ret :: ws) rm) bytes maxL ret e s m as' below meth c s₁ → c.maxLocals = maxL → p.tables.exec = Jvm.exec → c.code = bytes →
      Z.Warmed39 (s.setVm s.vm).vm → (s.setVm s.vm).vm.findClass y.cls = some m.cls → Stand p l e rm (s.setVm s.vm) m as' below meth c s₁ [] 0 0 → s₁.heap = h0 → s.heap = h0 → CHv Z EL s.vm h0 → s.Since s.vm 0 →
      own_Rch p e below (own_FinW Z EL s rm.cells rm.slots Q) (s₁.setTop (entryFrame m as' maxL))) : own_CtrW l Z EL y bytes maxL ret ws rm h0 as' Q := by
  refine MetFree.of_bodySF hp hisR ?_
  intro p e s m args below meth c s₁ Bd hml hP hK
  obtain ⟨rfl, hZ, hh, hC⟩ := hP
  exact body p e s m below meth c s₁ Bd hml Bd.exec Bd.bytes hZ (findClass_of_methodNamed Bd.named) (Stand.of_body Bd) (by rw [← hh, Bd.state]; rfl) hh hC ((State.WarmedH.refl s).since 0)
theorem own_retW {K N : Nat} {Q : Option Value → Heap → List Loc → Prop} {g : JFrame} (X : Stand p l e R (s.setVm vm0) m args below meth c T locs cells slots) (hZ : Z.Warmed39 vm0) (hEL : EW Z a0 EL) (hS : s.Since vm0 k0) (eT : T.heap = h) (hk : k0 ≤ h.size)
    (CR : CHr Z EL s.vm s.heap vm0 h) {v : Option Value} (hv : meth.sig.returnType = none → v = none) (hlocks : meth.locks = false)
    (hstep : ∀ fs, (∀ (f : JFrame) (acts : List Action), f.method = m → f.locked = none → f.entered = [] → (doReturn e (T.setTop f) acts v).1 = T.setFrames fs) → Steps p.tables e below (T.setTop g) (T.setFrames fs))
    (hK : cells ≤ K) (hN : slots ≤ N) (hq : Q v T.heap locs) : own_Rch p e below (own_FinW Z EL s K N Q) (T.setTop g) := by
  subst eT
  obtain ⟨fs, hr, hrun, hended, r1, r2, r3, r4⟩ := X.leaveW hS hk (v := v) hv hlocks
  exact ⟨_, _, hstep fs hr, hrun, hended, _, _, rfl, hq, (show CHr Z EL s.vm s.heap T.vm T.heap from CR.trans (CHv.at X hZ hEL CR.1)), r1, r2, r3, r4.mono hK hN⟩
theorem own_callVW (X : Stand p l e R (s.setVm vm0) m args below meth c T locs cells slots) (hx : p.tables.exec = Jvm.exec) (hZ : Z.Warmed39 vm0) {own C : String} {index : Nat} {y z : MethodName} {bytes : ByteArray} {maxL : Nat} {ret : Option FieldType}
    (hown : vm0.findClass own = some m.cls) (w1 : (Jvm.Cond.methodLink own index y).before a0 Z = true) (w2 : (Jvm.Cond.declares y).before a0 Z = true) (nf : NotFace (s.setVm vm0) y) (w5 : (Jvm.Cond.selects C y z).before a0 Z = true) (w6 : (Jvm.Cond.instanceMethod z).before a0 Z = true)
    (w3 : (Jvm.Cond.initialized z.cls).before a0 Z = true) (w4 : (Jvm.Cond.code z bytes maxL ret).before a0 Z = true)
    (hy : y.cls ≠ "java/lang/invoke/MethodHandle" ∧ y.cls ≠ "java/lang/invoke/VarHandle") {rm : Room} {as' : Array Value} {Q : Option Value → Heap → List Loc → Prop} (hM : own_CtrW l Z EL z bytes maxL ret [] rm h as' Q) (eT : T.heap = h)
    {b : Addr} (E : Exa Z h b C) (hEL : EW Z a0 EL) (H : CHv Z EL vm0 h) (hS : s.Since vm0 k0) (hk : k0 ≤ h.size)
    {W : Nat} (hf : rm.frames + 1 ≤ R.frames) (hl : W + (maxL + 11) + rm.locals ≤ R.locals) {g : JFrame} (hg : g.method = m) (hsize : g.locals.size = c.maxLocals) {argsL rest : List Value}
    (hlen : ∀ sig, parseMethodDescriptor y.desc = some sig → argsL.length = sig.parameters.length) (hstack : g.stack = argsL.reverse ++ .ref b :: rest) (has : (.ref b :: argsL).toArray = as') (hW : 2 * g.monitorRoom + (rest.map fun v => v.category).sum = W)
    (hdg : decode c.code g.pc = .ok (.invokevirtual index, 3)) (hc : cells + rm.cells ≤ R.cells) (hs : slots + rm.slots ≤ R.slots) :
    ∃ v T' L k1, Stand p l e R (s.setVm T'.vm) m args below meth c T' (locs ++ L) (cells + rm.cells) (slots + rm.slots) ∧ Q v T'.heap L ∧ CHr Z EL vm0 h T'.vm T'.heap ∧ s.Since T'.vm k1 ∧ k1 ≤ T'.heap.size ∧ Z.Warmed39 (s.setVm T'.vm).vm ∧ (s.setVm T'.vm).vm.findClass own = some m.cls ∧
      ∀ t, Steps p.tables e below (T'.setTop { g with pc := g.pc + 3, stack := v.toList ++ rest }) t → Steps p.tables e below (T.setTop g) t := by
  obtain ⟨cq, kq, qa, qb, qc⟩ := isOf (s := s.setVm vm0) hZ eT E
  obtain ⟨v, _, ⟨T', L', k', n'⟩, -, X', hS', hgr, ⟨Lc, hQ, l', y', z', hC⟩, st⟩ := X.virtualBackS hx hown (mvT (s := s.setVm vm0) hZ w1) (mvT (s := s.setVm vm0) hZ w2) nf (mvT (s := s.setVm vm0) hZ w5) (mvT (s := s.setVm vm0) hZ w6) hy (backOfSH (Q := Q) (W := W) hM hZ w4 w3 hf hl hEL H) qa qc hg hsize (Steps.refl _) hlen hstack (Nat.le_of_eq hW) hdg (fun _ _ => ⟨has, eT, hc, hs⟩)
  dsimp only [Pt.U, Pt.locs, Pt.cells, Pt.slots] at X' l' y' z' st hQ hS' hgr hC
  subst l' y' z'
  obtain ⟨X2, hS2, hZ2, hown2⟩ := rebS hS (by rw [← eT] at hk; exact hk) X' hS' hgr hZ hown
  exact ⟨v, T', Lc, _, X2, hQ, hC, hS2, Nat.le_refl _, hZ2, hown2, fun t k => st.trans k⟩
theorem own_callSW (X : Stand p l e R (s.setVm vm0) m args below meth c T locs cells slots) (hx : p.tables.exec = Jvm.exec) (hZ : Z.Warmed39 vm0) {own : String} {index : Nat} {y : MethodName} {bytes : ByteArray} {maxL : Nat} {ret : Option FieldType}
    (hown : vm0.findClass own = some m.cls) (w1 : (Jvm.Cond.methodLink own index y).before a0 Z = true) (w2 : (Jvm.Cond.static y).before a0 Z = true) (w3 : (Jvm.Cond.initialized y.cls).before a0 Z = true) (w4 : (Jvm.Cond.code y bytes maxL ret).before a0 Z = true)
    (hy : y.cls ≠ "java/lang/invoke/MethodHandle" ∧ y.cls ≠ "java/lang/invoke/VarHandle") {rm : Room} {as' : Array Value} {Q : Option Value → Heap → List Loc → Prop} (hM : own_CtrW l Z EL y bytes maxL ret [] rm h as' Q) (eT : T.heap = h)
    (hEL : EW Z a0 EL) (H : CHv Z EL vm0 h) (hS : s.Since vm0 k0) (hk : k0 ≤ h.size)
    {W : Nat} (hf : rm.frames + 1 ≤ R.frames) (hl : W + (maxL + 11) + rm.locals ≤ R.locals) {g : JFrame} (hg : g.method = m) (hsize : g.locals.size = c.maxLocals) {argsL rest : List Value}
    (hlen : ∀ sig, parseMethodDescriptor y.desc = some sig → argsL.length = sig.parameters.length) (hstack : g.stack = argsL.reverse ++ rest) (has : argsL.toArray = as') (hW : 2 * g.monitorRoom + (rest.map fun v => v.category).sum = W)
    (hdg : decode c.code g.pc = .ok (.invokestatic index, 3)) (hc : cells + rm.cells ≤ R.cells) (hs : slots + rm.slots ≤ R.slots) :
    ∃ v T' L k1, Stand p l e R (s.setVm T'.vm) m args below meth c T' (locs ++ L) (cells + rm.cells) (slots + rm.slots) ∧ Q v T'.heap L ∧ CHr Z EL vm0 h T'.vm T'.heap ∧ s.Since T'.vm k1 ∧ k1 ≤ T'.heap.size ∧ Z.Warmed39 (s.setVm T'.vm).vm ∧ (s.setVm T'.vm).vm.findClass own = some m.cls ∧
      ∀ t, Steps p.tables e below (T'.setTop { g with pc := g.pc + 3, stack := v.toList ++ rest }) t → Steps p.tables e below (T.setTop g) t := by
  obtain ⟨v, _, ⟨T', L', k', n'⟩, -, X', hS', hgr, ⟨Lc, hQ, l', y', z', hC⟩, st⟩ := callSS X hx hown (mvT (s := s.setVm vm0) hZ w1) (mvT (s := s.setVm vm0) hZ w2) (mvT (s := s.setVm vm0) hZ w3) (mvT (s := s.setVm vm0) hZ w4) hy (backOfSH (Q := Q) (W := W) hM hZ w4 w3 hf hl hEL H) hg hsize hlen hstack (Nat.le_of_eq hW) hdg (fun _ _ => ⟨has, eT, hc, hs⟩)
  dsimp only [Pt.U, Pt.locs, Pt.cells, Pt.slots] at X' l' y' z' st hQ hS' hgr hC
  subst l' y' z'
  obtain ⟨X2, hS2, hZ2, hown2⟩ := rebS hS (by rw [← eT] at hk; exact hk) X' hS' hgr hZ hown
  exact ⟨v, T', Lc, _, X2, hQ, hC, hS2, Nat.le_refl _, hZ2, hown2, fun t k => st.trans k⟩
end OwnWide
theorem own_hng {ng p1 : Int32} (eng : ng = if p1 < 0 then 1 else 0) : ng = (0 : Int32) ↔ ¬ p1 < (0 : Int32) := by
  rw [eng]
  by_cases q : p1 < (0 : Int32)
  · rw [if_pos q]; exact ⟨fun h => absurd h (by decide), fun h => absurd q h⟩
  · rw [if_neg q]; exact ⟨fun _ => q, fun _ => rfl⟩
theorem own_oz {Z : State} {n0 : Nat} {h : Heap} (O : Old Z n0 h) : n0 ≤ h.size := O.1 ▸ O.2.1
theorem own_nat {j : Nat} (h : j ≤ 1000) : (Int32.ofNat j).toInt = j ∧ (Int32.ofNat j).toNatClampNeg = j ∧ ¬ (Int32.ofNat j) < 0 ∧ Int32.ofNat j + (1 : Int32) = Int32.ofNat (j + 1) := by
  have e : ∀ k : Nat, k ≤ 2000 → (Int32.ofNat k).toInt = k := fun k hk => Int32.toInt_ofNat_of_lt (by omega)
  have e0 : (0 : Int32).toInt = 0 := by decide
  have e1 : (1 : Int32).toInt = 1 := by decide
  have h1 := e j (by omega)
  refine ⟨h1, by rw [Int32.toNatClampNeg, h1]; omega, by rw [Int32.lt_iff_toInt_lt, h1, e0]; omega, ?_⟩
  rw [← Int32.toInt_inj, e (j + 1) (by omega)]
  have h2 := c_iadd (Int32.ofNat j) 1
  have r := rng32 (Int32.ofNat j + 1)
  rw [h1, e1] at h2
  omega
theorem own_ltN {i j : Nat} (hi : i ≤ 1000) (hj : j ≤ 1000) : Int32.ofNat i < Int32.ofNat j ↔ i < j := by
  rw [Int32.lt_iff_toInt_lt, (own_nat hi).1, (own_nat hj).1]; omega
theorem own_injN {i j : Nat} (hi : i ≤ 1000) (hj : j ≤ 1000) : Int32.ofNat i = Int32.ofNat j ↔ i = j := by
  rw [← Int32.toInt_inj, (own_nat hi).1, (own_nat hj).1]; omega
theorem own_addN {i j : Nat} (hi : i ≤ 500) (hj : j ≤ 500) : Int32.ofNat i + Int32.ofNat j = Int32.ofNat (i + j) := by
  rw [← Int32.toInt_inj, (own_nat (by omega)).1]
  have h2 := c_iadd (Int32.ofNat i) (Int32.ofNat j)
  have r := rng32 (Int32.ofNat i + Int32.ofNat j)
  rw [(own_nat (by omega)).1, (own_nat (by omega)).1] at h2
  omega
theorem own_shr0 (z : Int32) : z >>> ((0 : Int32) &&& 31) = z := by
  have h := c_ishr z 0 0 (by decide)
  rw [← Int32.toInt_inj, h]; simp
theorem own_shl0 {z : Int32} : z <<< ((0 : Int32) &&& 31) = z := by
  rw [show ((0 : Int32) &&& 31) = 0 from by decide]; exact Int32.shiftLeft_zero
theorem own_irr (x : Int32) : ¬ x < x := Int32.lt_irrefl
theorem own_mapD (cs : List Int32) (i : Nat) : (cs.map Value.int).getD i (.int 0) = .int (cs.getD i 0) := by
  simp only [List.getD_eq_getElem?_getD, List.getElem?_map]
  cases cs[i]? <;> rfl
theorem own_nogrow {a b : Nat} (h : a ≤ b) (hb : b ≤ 500) : ¬ (0 : Int32) < (Int32.ofNat a - (Int32.ofNat b >>> ((0 : Int32) &&& 31))) := by
  rw [own_shr0, Int32.lt_iff_toInt_lt]
  have h2 := c_isub (Int32.ofNat a) (Int32.ofNat b)
  have r := rng32 (Int32.ofNat a - Int32.ofNat b)
  rw [(own_nat (by omega)).1, (own_nat (by omega)).1] at h2
  have e0 : (0 : Int32).toInt = 0 := by decide
  omega
theorem own_takeS {xs ys : List Int32} {j : Nat} (h : xs.take j = ys.take j) (hx : j < xs.length) (hy : j < ys.length) (e : xs.getD j 0 = ys.getD j 0) : xs.take (j + 1) = ys.take (j + 1) := by
  rw [List.take_add_one, List.take_add_one, h]
  simp only [List.getD_eq_getElem?_getD, List.getElem?_eq_getElem hx, List.getElem?_eq_getElem hy, Option.getD_some] at e ⊢
  rw [e]
theorem own_us (xs : List Int32) : xs.map Value.int = (List.range xs.length).map fun i => (xs.map Value.int).getD (0 + i) (.int 0) := by
  apply List.ext_getElem
  · simp
  · intro i h1 h2
    simp only [List.getElem_map, List.getElem_range, Nat.zero_add, own_mapD]
    simp at h1
    rw [List.getD_eq_getElem?_getD, List.getElem?_eq_getElem h1]; rfl
theorem own_arvU {Z : State} {h : Heap} {b : Addr} {k1 k2 : ClassId} {xs ys : List Int32} (hx : xs.length ≤ 1000) (hy : ys.length ≤ 1000) (V1 : Arv Z h b k1 .byte (Int32.ofNat xs.length) (xs.map Value.int) (.int 0)) (V2 : Arv Z h b k2 .byte (Int32.ofNat ys.length) (ys.map Value.int) (.int 0)) : xs = ys := by
  obtain ⟨c1, A1, -, S1, -, H1, -⟩ := V1
  obtain ⟨c2, A2, -, S2, -, H2, -⟩ := V2
  cases A1.1.symm.trans A2.1
  rw [(own_nat hx).2.1] at S1
  rw [(own_nat hy).2.1] at S2
  have hl : xs.length = ys.length := S1.symm.trans S2
  apply List.ext_getElem hl
  intro i h1 h2
  have e1 := H1 i (by omega)
  have e2 := H2 i (by omega)
  rw [e1, own_mapD, own_mapD] at e2
  have e3 := Value.int.inj (Option.some.inj e2)
  simp only [List.getD_eq_getElem?_getD, List.getElem?_eq_getElem h1, List.getElem?_eq_getElem h2, Option.getD_some] at e3
  exact e3
theorem own_fldU {Z : State} {h : Heap} {a : Addr} {C n d : String} {v w : Value} (F : Fld Z h a C n d v) (G : Fld Z h a C n d w) : v = w := by
  obtain ⟨c1, cf, k, i, f, h1, h2, -, -, -, -, h7⟩ := F
  obtain ⟨c2, cf', k', i', f', g1, g2, -, -, -, -, g7⟩ := G
  cases h1.symm.trans g1
  cases h2.symm.trans g2
  exact Option.some.inj (h7.symm.trans g7)
def own_dg : Nat → Nat → List Int32
  | 0, u => [48 + Int32.ofNat u]
  | f + 1, u => if u < 10 then [48 + Int32.ofNat u] else own_dg f (u / 10) ++ [48 + Int32.ofNat (u % 10)]
def own_digs (u : Nat) : List Int32 := own_dg 10 u
def own_dec (x : Int32) : List Int32 := if x < 0 then 45 :: own_digs x.toInt.natAbs else own_digs x.toInt.natAbs
theorem own_dg_stable : ∀ (f u : Nat), u < 10 ^ (f + 1) → own_dg (f + 1) u = own_dg f u
  | 0, u, h => by
    have h' : u < 10 := by simpa using h
    simp [own_dg, h']
  | f + 1, u, h => by
    unfold own_dg
    by_cases q : u < 10
    · simp [q]
    · simp only [q, if_false]
      rw [own_dg_stable f (u / 10) (by rw [Nat.pow_succ] at h; omega)]
theorem own_digs_small {u : Nat} (h : u < 10) : own_digs u = [48 + Int32.ofNat u] := by simp [own_digs, own_dg, h]
theorem own_digs_step {u : Nat} (h : ¬ u < 10) (hu : u < 10 ^ 11) : own_digs u = own_digs (u / 10) ++ [48 + Int32.ofNat (u % 10)] := by
  unfold own_digs
  rw [own_dg_stable 9 (u / 10) (by omega)]
  conv => lhs; unfold own_dg
  simp [h]
theorem own_digs_100 {u : Nat} (h : ¬ u < 100) (hu : u < 10 ^ 11) : own_digs u = own_digs (u / 100) ++ [48 + Int32.ofNat (u % 100 / 10), 48 + Int32.ofNat (u % 100 % 10)] := by
  rw [own_digs_step (by omega) hu, own_digs_step (u := u / 10) (by omega) (by omega)]
  have e1 : u / 10 / 10 = u / 100 := by omega
  have e2 : u / 10 % 10 = u % 100 / 10 := by omega
  have e3 : u % 10 = u % 100 % 10 := by omega
  rw [e1, e2, ← e3, List.append_assoc]; rfl
theorem own_digs_2 {u : Nat} (h : ¬ u < 10) (h' : u < 100) : own_digs u = [48 + Int32.ofNat (u / 10), 48 + Int32.ofNat (u % 10)] := by
  rw [own_digs_step h (by omega), own_digs_small (by omega)]; rfl
theorem own_digs_len {u k : Nat} : k ≤ 9 → (k = 0 ∨ 10 ^ k ≤ u) → u < 10 ^ (k + 1) → (own_digs u).length = k + 1 := by
  induction k generalizing u with
  | zero => intro _ _ h; rw [own_digs_small (by simpa using h)]; rfl
  | succ k ih =>
    intro h1 h2 h3
    have h4 : 10 ^ (k + 1) ≤ u := by rcases h2 with h2 | h2; · omega
                                     · exact h2
    have h5 : 10 ≤ u := Nat.le_trans (by rw [Nat.pow_succ]; have := Nat.pow_pos (n := k) (show 0 < 10 by omega); omega) h4
    have h6 : u < 10 ^ 11 := Nat.lt_of_lt_of_le h3 (Nat.pow_le_pow_right (by omega) (by omega))
    rw [own_digs_step (by omega) h6, List.length_append, ih (u := u / 10) (by omega) ?_ ?_]
    · rfl
    · rw [Nat.pow_succ] at h4; right; omega
    · rw [Nat.pow_succ] at h3; omega
theorem own_setl {ws dn : List Int32} {pos p0 : Nat} {x : Int32} (h1 : 0 < pos) (h2 : pos ≤ ws.length) : (ws.take pos ++ dn ++ ws.drop p0).set (pos - 1) x = ws.take (pos - 1) ++ (x :: dn) ++ ws.drop p0 := by
  obtain ⟨k, rfl⟩ : ∃ k, pos = k + 1 := ⟨pos - 1, by omega⟩
  have hk : k < ws.length := by omega
  rw [Nat.add_sub_cancel, List.take_add_one, List.getElem?_eq_getElem hk]
  simp only [Option.toList_some, List.append_assoc]
  rw [List.set_append_right _ _ (by simp; omega)]
  simp [Nat.min_eq_left (Nat.le_of_lt hk)]
theorem own_cat0 {ws x1 : List Int32} {n : Nat} (hn : n + x1.length ≤ ws.length) : (ws.take n ++ x1 ++ ws.drop (n + x1.length)).length = ws.length := by
  simp; omega
theorem own_cat {Z : State} {h : Heap} {b : Addr} {k : ClassId} {ws x1 : List Int32} {n : Nat} (hn : n + x1.length ≤ ws.length) (hw5 : ws.length ≤ 500)
    (V : Arv Z h b k .byte (Int32.ofNat ws.length) ((ws.map Value.int).take (Int32.ofNat n).toNatClampNeg ++ x1.map Value.int ++ (ws.map Value.int).drop ((Int32.ofNat n).toNatClampNeg + (Int32.ofNat x1.length).toNatClampNeg)) (.int 0)) :
    Arv Z h b k .byte (Int32.ofNat (ws.take n ++ x1 ++ ws.drop (n + x1.length)).length) ((ws.take n ++ x1 ++ ws.drop (n + x1.length)).map Value.int) (.int 0) := by
  rw [(own_nat (by omega)).2.1, (own_nat (by omega)).2.1] at V
  rw [own_cat0 hn, List.map_append, List.map_append, List.map_take, List.map_drop]
  exact V
theorem own_neg {p : Int32} : (if p < 0 then p else -p).toInt = -(p.toInt.natAbs : Int) := by
  have e0 : (0 : Int32).toInt = 0 := by decide
  by_cases h : p < 0
  · rw [if_pos h]; rw [Int32.lt_iff_toInt_lt, e0] at h; omega
  · rw [if_neg h]; rw [Int32.lt_iff_toInt_lt, e0] at h
    have h1 := c_ineg p
    have r := rng32 (-p)
    have r2 := rng32 p
    omega
theorem own_absB (p : Int32) : p.toInt.natAbs ≤ 2147483648 := by have := rng32 p; omega
theorem own_szL {p dd k : Int32} {i : Nat} (hl : (own_digs p.toInt.natAbs).length = i) (hd : dd = if p < 0 then 1 else 0) (hk : k = Int32.ofNat i) (hi : i ≤ 10) : k + dd = Int32.ofNat (own_dec p).length := by
  rw [own_dec]
  by_cases h : p < 0
  · rw [if_pos h] at hd ⊢; rw [hd, hk, List.length_cons, hl]; exact (own_nat (by omega)).2.2.2
  · rw [if_neg h] at hd ⊢; rw [hd, hk, hl]; simp

theorem own_cpT {Z : State} {h : Heap} {b : Addr} {k : ClassId} {ws : List Int32} {n : Nat} (V : Arv Z h b k .byte (Int32.ofNat n) (((List.replicate n (0 : Int32)).map Value.int).take (0 : Int32).toNatClampNeg ++ (ws.take n).map Value.int ++ ((List.replicate n (0 : Int32)).map Value.int).drop ((0 : Int32).toNatClampNeg + (Int32.ofNat n).toNatClampNeg)) (.int 0)) (hn : n ≤ 500 := by omega) : Arv Z h b k .byte (Int32.ofNat n) ((ws.take n).map Value.int) (.int 0) := by
  rw [(own_nat (by omega)).2.1, show (0 : Int32).toNatClampNeg = 0 from by decide, Nat.zero_add, List.take_zero, List.nil_append, List.drop_of_length_le (by simp), List.append_nil] at V
  exact V
theorem own_nfOf {s : State} {args : Array Value} {y z z' : MethodName} {C : String} (wd : (Jvm.Cond.declares y).before args s = true) (ws : (Jvm.Cond.selects C z z').before args s = true) (hz : z'.cls = y.cls) : NotFace s y := fun r0 h0 => by
  obtain ⟨_, _, m2, -, -, z3, -, mk, z4, z5⟩ := Cond.selects_spec ws
  have hf := findClass_of_methodNamed h0
  have hf2 := findClass_of_methodNamed z3
  rw [hz, hf] at hf2
  rw [← Option.some.inj hf2] at z4
  exact ⟨mk, z4, z5⟩
theorem own_neAX {Z : State} {a0 : Array Value} {h : Heap} {a b : Addr} {C : String} {k : ClassId} {ty : FieldType} {z : Int32} {vs : List Value} {d : Value} {n : Nat} (V : Arv Z h b k ty z vs d) (E : Exa Z h a C) (w : (Jvm.Cond.instantiable C n).before a0 Z = true) : b ≠ a := Ne.symm (Exa.neArv E V w)

theorem own_wS {a0 : Array Value} {Z : State} (hw : ∀ d ∈ tables_1, d.before a0 Z = true) : ∀ a ∈ Bundle.stringAtoms, a.before a0 Z = true := fun d hd => by
  simp only [Bundle.stringAtoms, List.mem_cons, List.not_mem_nil, or_false] at hd
  rcases hd with rfl | rfl | rfl | rfl | rfl | rfl | rfl
  · exact (hw _ (List.mem_of_getElem? (i := 4) rfl))
  · exact (hw _ (List.mem_of_getElem? (i := 5) rfl))
  · exact (hw _ (List.mem_of_getElem? (i := 6) rfl))
  · exact (hw _ (List.mem_of_getElem? (i := 7) rfl))
  · exact (hw _ (List.mem_of_getElem? (i := 8) rfl))
  · exact (hw _ (List.mem_of_getElem? (i := 9) rfl))
  · exact (hw _ (List.mem_of_getElem? (i := 10) rfl))
theorem own_takeCat {ws x : List Int32} {n : Nat} (hn : n ≤ ws.length) : (ws.take n ++ x ++ ws.drop (n + x.length)).take (n + x.length) = ws.take n ++ x := by
  rw [List.take_append_of_le_length (by simp; omega), List.take_of_length_le (by simp; omega)]
theorem own_d10_0 : decode jdk_42_method_152_code 0 = .ok (.getstatic 38, 3) := by decide +kernel
theorem own_d10_3 : decode jdk_42_method_152_code 3 = .ok (.ifCond .eq 10, 3) := by decide +kernel
theorem own_d10_6 : decode jdk_42_method_152_code 6 = .ok (.aload_n 0, 1) := by decide +kernel
theorem own_d10_7 : decode jdk_42_method_152_code 7 = .ok (.getfield 15, 3) := by decide +kernel
theorem own_d10_10 : decode jdk_42_method_152_code 10 = .ok (.goto 4, 3) := by decide +kernel
theorem own_d10_14 : decode jdk_42_method_152_code 14 = .ok (.ireturn, 1) := by decide +kernel
theorem own_c10_ef (m : MethodId) (x0 : Addr) : entryFrame m #[(.ref x0)] 1 = mkF m 0 #[.val (.ref x0)] [] := by first | (simp [entryFrame, mkF, argsToLocals, Value.category]; done) | rfl
theorem own_pn0 : plainName "java/lang/String" = true := by first | (simp [plainName, overriddenIn]; done) | decide +kernel
set_option maxRecDepth 65536 in
set_option maxHeartbeats 40000000 in
theorem own_c10 (l : Launch) (Z : State) (a0 : Array Value) (hw : ∀ d ∈ tables_1, d.before a0 Z = true) (wsC : List Jvm.Cond) (a1 : Addr) (cz : Int32) (CS : Sta Z Z.heap "java/lang/String" "COMPACT_STRINGS" "Z" (.int cz)) (hcz : ¬ cz = (0 : Int32)) (h0 : Heap) (n0 : Nat) (O : Old Z n0 h0) (C1 : Fld Z h0 a1 "java/lang/String" "coder" "B" (.int 0)) :
    own_Ctr l Z (⟨"java/lang/String", "coder", "()B"⟩ : MethodName) jdk_42_method_152_code 1 (some .byte) wsC ({ frames := 0, cells := 0, slots := 0, locals := 0 } : Room) h0 #[(.ref a1)] (fun v h L => v = some (.int 0) ∧ Fr n0 L ∧ h = h0) := by
  refine own_ctr (plainFor_of_name own_pn0) ?_
  intro p e s m below meth c s₁ Bd hml0 hx hby hZ hown0 X0 e0
  have hml : c.maxLocals = 1 := hml0
  have hown : s.vm.findClass "java/lang/String" = some m.cls := hown0
  have hnm := (name_of_methodNamed Bd.named Bd.method).1
  have N0 := Fr.nil n0
  refine own_cast (own_c10_ef m a1) ?_
  obtain ⟨T101, X101, e101, st101⟩ := getS2 X0 hx hZ hown (host := "") (Or.inl (hw _ (List.mem_of_getElem? (i := 26) rfl))) Via.refl e0 (CS.ext O.2) (g := (mkF m 0 #[.val (.ref a1)] [])) rfl (hb hby own_d10_0)
  refine own_go st101 ?_
  show own_Rch p e below _ (T101.setTop (mkF m 3 #[.val (.ref a1)] [(.int cz)]))
  refine own_go (S' := (T101.setTop (mkF m 7 #[.val (.ref a1)] [(.ref a1)]))) (fun t_ k_ => ?_) ?_
  · refine XS.ifNo X101.here hx rfl (hb hby own_d10_3) rfl ((if0 _ _).trans (feq hcz).1) ?_
    show Steps p.tables e below (T101.setTop (mkF m 6 #[.val (.ref a1)] [])) _
    refine XS.aloadN X101.here hx rfl (hb hby own_d10_6) rfl rfl ?_
    show Steps p.tables e below (T101.setTop (mkF m 7 #[.val (.ref a1)] [(.ref a1)])) _
    exact k_
  obtain ⟨T102, X102, e102, st102⟩ := getF X101 hx hZ hown (host := "") (Or.inl (hw _ (List.mem_of_getElem? (i := 27) rfl))) Via.refl e101 C1 (g := (mkF m 7 #[.val (.ref a1)] [(.ref a1)])) rfl rfl (hb hby own_d10_7)
  refine own_go st102 ?_
  show own_Rch p e below _ (T102.setTop (mkF m 10 #[.val (.ref a1)] [(.int (0 : Int32))]))
  refine own_go (S' := (T102.setTop (mkF m 14 #[.val (.ref a1)] [(.int (0 : Int32))]))) (fun t_ k_ => ?_) ?_
  · refine XS.goto X102.here hx rfl (pc0 := 10) (pc' := 14) rfl (hb hby own_d10_10) (by decide) (by decide) ?_
    show Steps p.tables e below (T102.setTop (mkF m 14 #[.val (.ref a1)] [(.int (0 : Int32))])) _
    exact k_
  refine own_retN X102 hx (t := .byte) Bd.returns Bd.notSynchronized (by simp) (hb hby own_d10_14) (show nar .byte (0 : Int32) = (0 : Int32) from rfl) (by decide) (by decide) ?_
  try rw [e102]
  exact ⟨rfl, N0, rfl⟩
theorem own_pd0 : parseMethodDescriptor "()B" = some ⟨[], some .byte⟩ := by decide +kernel
theorem own_d9_0 : decode jdk_42_method_54_code 0 = .ok (.aload_n 0, 1) := by decide +kernel
theorem own_d9_1 : decode jdk_42_method_54_code 1 = .ok (.getfield 9, 3) := by decide +kernel
theorem own_d9_4 : decode jdk_42_method_54_code 4 = .ok (.arraylength, 1) := by decide +kernel
theorem own_d9_5 : decode jdk_42_method_54_code 5 = .ok (.aload_n 0, 1) := by decide +kernel
theorem own_d9_6 : decode jdk_42_method_54_code 6 = .ok (.invokevirtual 335, 3) := by decide +kernel
theorem own_d9_9 : decode jdk_42_method_54_code 9 = .ok (.ishr, 1) := by decide +kernel
theorem own_d9_10 : decode jdk_42_method_54_code 10 = .ok (.ireturn, 1) := by decide +kernel
theorem own_c9_ef (m : MethodId) (x0 : Addr) : entryFrame m #[(.ref x0)] 1 = mkF m 0 #[.val (.ref x0)] [] := by first | (simp [entryFrame, mkF, argsToLocals, Value.category]; done) | rfl
set_option maxRecDepth 65536 in
set_option maxHeartbeats 40000000 in
theorem own_c9 (l : Launch) (Z : State) (a0 : Array Value) (hw : ∀ d ∈ tables_1, d.before a0 Z = true) (wsC : List Jvm.Cond) (a1 b1 : Addr) (k1 : ClassId) (x1 : List Int32) (cz : Int32) (CS : Sta Z Z.heap "java/lang/String" "COMPACT_STRINGS" "Z" (.int cz)) (hcz : ¬ cz = (0 : Int32)) (h0 : Heap) (n0 : Nat) (O : Old Z n0 h0) (E1 : Exa Z h0 a1 "java/lang/String") (C1 : Fld Z h0 a1 "java/lang/String" "coder" "B" (.int 0)) (F1 : Fld Z h0 a1 "java/lang/String" "value" "[B" (.ref b1)) (V1 : Arv Z h0 b1 k1 .byte (Int32.ofNat x1.length) (x1.map Value.int) (.int 0)) :
    own_Ctr l Z (⟨"java/lang/String", "length", "()I"⟩ : MethodName) jdk_42_method_54_code 1 (some .int) wsC ({ frames := 1, cells := 0, slots := 0, locals := 20 } : Room) h0 #[(.ref a1)] (fun v h L => v = some (.int (Int32.ofNat x1.length)) ∧ Fr n0 L ∧ h = h0) := by
  refine own_ctr (plainFor_of_name own_pn0) ?_
  intro p e s m below meth c s₁ Bd hml0 hx hby hZ hown0 X0 e0
  have hml : c.maxLocals = 1 := hml0
  have hown : s.vm.findClass "java/lang/String" = some m.cls := hown0
  have hnm := (name_of_methodNamed Bd.named Bd.method).1
  have N0 := Fr.nil n0
  refine own_cast (own_c9_ef m a1) ?_
  refine own_go (S' := (s₁.setTop (mkF m 1 #[.val (.ref a1)] [(.ref a1)]))) (fun t_ k_ => ?_) ?_
  · refine XS.aloadN X0.here hx rfl (hb hby own_d9_0) rfl rfl ?_
    show Steps p.tables e below (s₁.setTop (mkF m 1 #[.val (.ref a1)] [(.ref a1)])) _
    exact k_
  obtain ⟨T101, X101, e101, st101⟩ := getF X0 hx hZ hown (host := "") (Or.inl (hw _ (List.mem_of_getElem? (i := 28) rfl))) Via.refl e0 F1 (g := (mkF m 1 #[.val (.ref a1)] [(.ref a1)])) rfl rfl (hb hby own_d9_1)
  refine own_go st101 ?_
  show own_Rch p e below _ (T101.setTop (mkF m 4 #[.val (.ref a1)] [(.ref b1)]))
  refine own_go (own_len X101 hx hZ e101 V1 (g := (mkF m 4 #[.val (.ref a1)] [(.ref b1)])) rfl rfl (hb hby own_d9_4)) ?_
  show own_Rch p e below _ (T101.setTop (mkF m 5 #[.val (.ref a1)] [(.int (Int32.ofNat x1.length))]))
  refine own_go (S' := (T101.setTop (mkF m 6 #[.val (.ref a1)] [(.ref a1), (.int (Int32.ofNat x1.length))]))) (fun t_ k_ => ?_) ?_
  · refine XS.aloadN X101.here hx rfl (hb hby own_d9_5) rfl rfl ?_
    show Steps p.tables e below (T101.setTop (mkF m 6 #[.val (.ref a1)] [(.ref a1), (.int (Int32.ofNat x1.length))])) _
    exact k_
  obtain ⟨_, T102, L102, X102, ⟨rfl, N102q, k102⟩, st102⟩ := own_callV X101 hx hZ (y := (⟨"java/lang/String", "coder", "()B"⟩ : MethodName)) (z := (⟨"java/lang/String", "coder", "()B"⟩ : MethodName)) (C := "java/lang/String") hown (hw _ (List.mem_of_getElem? (i := 68) rfl)) (hw _ (List.mem_of_getElem? (i := 69) rfl)) (notFace_of_selects (args := #[]) (mvT hZ (hw _ (List.mem_of_getElem? (i := 71) rfl)))) (hw _ (List.mem_of_getElem? (i := 71) rfl)) (hw _ (List.mem_of_getElem? (i := 70) rfl)) (hw _ (List.mem_of_getElem? (i := 4) rfl)) (hw _ (List.mem_of_getElem? (i := 72) rfl)) (by decide) (own_c10 l Z a0 hw [] a1 cz CS hcz h0 n0 O C1) e101 E1 (W := 1) (by decide) (by decide) (g := (mkF m 6 #[.val (.ref a1)] [(.ref a1), (.int (Int32.ofNat x1.length))])) rfl (by rw [hml]; rfl) (argsL := []) (rest := [(.int (Int32.ofNat x1.length))]) (lenOf own_pd0 rfl) rfl rfl rfl (hb hby own_d9_6) (by decide) (by decide)
  have N102 := Fr.app N0 N102q
  refine own_go st102 ?_
  show own_Rch p e below _ (T102.setTop (mkF m 9 #[.val (.ref a1)] [(.int (0 : Int32)), (.int (Int32.ofNat x1.length))]))
  refine own_go (S' := (T102.setTop (mkF m 10 #[.val (.ref a1)] [(.int ((Int32.ofNat x1.length) >>> ((0 : Int32) &&& 31)))]))) (fun t_ k_ => ?_) ?_
  · refine XS.ishr X102.here hx rfl (hb hby own_d9_9) rfl ?_
    show Steps p.tables e below (T102.setTop (mkF m 10 #[.val (.ref a1)] [(.int ((Int32.ofNat x1.length) >>> ((0 : Int32) &&& 31)))])) _
    exact k_
  refine own_retI X102 hx Bd.returns Bd.notSynchronized (hb hby own_d9_10) (by decide) (by decide) ?_
  exact ⟨by rw [own_shr0], N102, k102⟩
theorem own_d3_0 : decode jdk_43_method_13_code 0 = .ok (.aload_n 0, 1) := by decide +kernel
theorem own_d3_1 : decode jdk_43_method_13_code 1 = .ok (.arraylength, 1) := by decide +kernel
theorem own_d3_2 : decode jdk_43_method_13_code 2 = .ok (.aload_n 1, 1) := by decide +kernel
theorem own_d3_3 : decode jdk_43_method_13_code 3 = .ok (.arraylength, 1) := by decide +kernel
theorem own_d3_4 : decode jdk_43_method_13_code 4 = .ok (.if_icmp .ne 30, 3) := by decide +kernel
theorem own_d3_7 : decode jdk_43_method_13_code 7 = .ok (.iconst 0, 1) := by decide +kernel
theorem own_d3_8 : decode jdk_43_method_13_code 8 = .ok (.istore_n 2, 1) := by decide +kernel
theorem own_d3_9 : decode jdk_43_method_13_code 9 = .ok (.iload_n 2, 1) := by decide +kernel
theorem own_d3_10 : decode jdk_43_method_13_code 10 = .ok (.aload_n 0, 1) := by decide +kernel
theorem own_d3_11 : decode jdk_43_method_13_code 11 = .ok (.arraylength, 1) := by decide +kernel
theorem own_d3_12 : decode jdk_43_method_13_code 12 = .ok (.if_icmp .ge 20, 3) := by decide +kernel
theorem own_d3_15 : decode jdk_43_method_13_code 15 = .ok (.aload_n 0, 1) := by decide +kernel
theorem own_d3_16 : decode jdk_43_method_13_code 16 = .ok (.iload_n 2, 1) := by decide +kernel
theorem own_d3_17 : decode jdk_43_method_13_code 17 = .ok (.baload, 1) := by decide +kernel
theorem own_d3_18 : decode jdk_43_method_13_code 18 = .ok (.aload_n 1, 1) := by decide +kernel
theorem own_d3_19 : decode jdk_43_method_13_code 19 = .ok (.iload_n 2, 1) := by decide +kernel
theorem own_d3_20 : decode jdk_43_method_13_code 20 = .ok (.baload, 1) := by decide +kernel
theorem own_d3_21 : decode jdk_43_method_13_code 21 = .ok (.if_icmp .eq 5, 3) := by decide +kernel
theorem own_d3_24 : decode jdk_43_method_13_code 24 = .ok (.iconst 0, 1) := by decide +kernel
theorem own_d3_25 : decode jdk_43_method_13_code 25 = .ok (.ireturn, 1) := by decide +kernel
theorem own_d3_26 : decode jdk_43_method_13_code 26 = .ok (.iinc 2 1, 3) := by decide +kernel
theorem own_d3_29 : decode jdk_43_method_13_code 29 = .ok (.goto (-20), 3) := by decide +kernel
theorem own_d3_32 : decode jdk_43_method_13_code 32 = .ok (.iconst 1, 1) := by decide +kernel
theorem own_d3_33 : decode jdk_43_method_13_code 33 = .ok (.ireturn, 1) := by decide +kernel
theorem own_d3_34 : decode jdk_43_method_13_code 34 = .ok (.iconst 0, 1) := by decide +kernel
theorem own_d3_35 : decode jdk_43_method_13_code 35 = .ok (.ireturn, 1) := by decide +kernel
theorem own_c3_ef (m : MethodId) (x0 : Addr) (x1 : Addr) : entryFrame m #[(.ref x0), (.ref x1)] 3 = mkF m 0 #[.val (.ref x0), .val (.ref x1), .unset] [] := by first | (simp [entryFrame, mkF, argsToLocals, Value.category]; done) | rfl
theorem own_pn1 : plainName "java/lang/StringLatin1" = true := by first | (simp [plainName, overriddenIn]; done) | decide +kernel
set_option maxRecDepth 65536 in
set_option maxHeartbeats 40000000 in
theorem own_c3 (l : Launch) (Z : State) (a0 : Array Value) (hw : ∀ d ∈ tables_1, d.before a0 Z = true) (wsC : List Jvm.Cond) (b1 b2 : Addr) (k1 k2 : ClassId) (x1 x2 : List Int32) (l1 : x1.length ≤ 1000) (l2 : x2.length ≤ 1000) (h0 : Heap) (n0 : Nat) (O : Old Z n0 h0) (V1 : Arv Z h0 b1 k1 .byte (Int32.ofNat x1.length) (x1.map Value.int) (.int 0)) (V2 : Arv Z h0 b2 k2 .byte (Int32.ofNat x2.length) (x2.map Value.int) (.int 0)) :
    own_Ctr l Z (⟨"java/lang/StringLatin1", "equals", "([B[B)Z"⟩ : MethodName) jdk_43_method_13_code 3 (some .boolean) wsC ({ frames := 0, cells := 0, slots := 0, locals := 0 } : Room) h0 #[(.ref b1), (.ref b2)] (fun v h L => v = some (.int (if x1 = x2 then 1 else 0)) ∧ Fr n0 L ∧ h = h0) := by
  refine own_ctr (plainFor_of_name own_pn1) ?_
  intro p e s m below meth c s₁ Bd hml0 hx hby hZ hown0 X0 e0
  have hml : c.maxLocals = 3 := hml0
  have hown : s.vm.findClass "java/lang/StringLatin1" = some m.cls := hown0
  have hnm := (name_of_methodNamed Bd.named Bd.method).1
  have N0 := Fr.nil n0
  refine own_cast (own_c3_ef m b1 b2) ?_
  refine own_go (S' := (s₁.setTop (mkF m 1 #[.val (.ref b1), .val (.ref b2), .unset] [(.ref b1)]))) (fun t_ k_ => ?_) ?_
  · refine XS.aloadN X0.here hx rfl (hb hby own_d3_0) rfl rfl ?_
    show Steps p.tables e below (s₁.setTop (mkF m 1 #[.val (.ref b1), .val (.ref b2), .unset] [(.ref b1)])) _
    exact k_
  refine own_go (own_len X0 hx hZ e0 V1 (g := (mkF m 1 #[.val (.ref b1), .val (.ref b2), .unset] [(.ref b1)])) rfl rfl (hb hby own_d3_1)) ?_
  show own_Rch p e below _ (s₁.setTop (mkF m 2 #[.val (.ref b1), .val (.ref b2), .unset] [(.int (Int32.ofNat x1.length))]))
  refine own_go (S' := (s₁.setTop (mkF m 3 #[.val (.ref b1), .val (.ref b2), .unset] [(.ref b2), (.int (Int32.ofNat x1.length))]))) (fun t_ k_ => ?_) ?_
  · refine XS.aloadN X0.here hx rfl (hb hby own_d3_2) rfl rfl ?_
    show Steps p.tables e below (s₁.setTop (mkF m 3 #[.val (.ref b1), .val (.ref b2), .unset] [(.ref b2), (.int (Int32.ofNat x1.length))])) _
    exact k_
  refine own_go (own_len X0 hx hZ e0 V2 (g := (mkF m 3 #[.val (.ref b1), .val (.ref b2), .unset] [(.ref b2), (.int (Int32.ofNat x1.length))])) rfl rfl (hb hby own_d3_3)) ?_
  show own_Rch p e below _ (s₁.setTop (mkF m 4 #[.val (.ref b1), .val (.ref b2), .unset] [(.int (Int32.ofNat x2.length)), (.int (Int32.ofNat x1.length))]))
  by_cases hl : (Int32.ofNat x1.length) = (Int32.ofNat x2.length)
  · skip
    have hl' : x1.length = x2.length := (own_injN l1 l2).mp hl
    refine own_go (S' := (s₁.setTop (mkF m 9 #[.val (.ref b1), .val (.ref b2), .val (.int (0 : Int32))] []))) (fun t_ k_ => ?_) ?_
    · refine XS.icmpNo X0.here hx rfl (hb hby own_d3_4) rfl (teq hl).2 ?_
      show Steps p.tables e below (s₁.setTop (mkF m 7 #[.val (.ref b1), .val (.ref b2), .unset] [])) _
      refine XS.iconst X0.here hx rfl (hb hby own_d3_7) ?_
      show Steps p.tables e below (s₁.setTop (mkF m 8 #[.val (.ref b1), .val (.ref b2), .unset] [(.int (0 : Int32))])) _
      refine XS.istoreN X0.here hx rfl (hb hby own_d3_8) rfl (l' := #[.val (.ref b1), .val (.ref b2), .val (.int (0 : Int32))]) rfl ?_
      show Steps p.tables e below (s₁.setTop (mkF m 9 #[.val (.ref b1), .val (.ref b2), .val (.int (0 : Int32))] [])) _
      exact k_
    have J : ∀ (rs : List Unit) (j : Nat) (TJ : State) (lcJ : List Loc) (hJ : Heap) (XJ : Stand p l e ({ frames := 0, cells := 0, slots := 0, locals := 0 } : Room) s m #[(.ref b1), (.ref b2)] below meth c TJ lcJ 0 0) (eJ : TJ.heap = hJ) (NJ : Fr n0 lcJ) (hj : rs.length + j = x1.length) (VJ : Arv Z hJ b1 k1 .byte (Int32.ofNat x1.length) (x1.map Value.int) (.int 0)) (VJ2 : Arv Z hJ b2 k2 .byte (Int32.ofNat x2.length) (x2.map Value.int) (.int 0)) (tk : x1.take j = x2.take j) (hJh : hJ = h0), own_Rch p e below (own_Fin s ({ frames := 0, cells := 0, slots := 0, locals := 0 } : Room).cells ({ frames := 0, cells := 0, slots := 0, locals := 0 } : Room).slots (fun v h L => v = some (.int (if x1 = x2 then 1 else 0)) ∧ Fr n0 L ∧ h = h0)) (TJ.setTop (mkF m 9 #[.val (.ref b1), .val (.ref b2), .val (.int (Int32.ofNat j))] [])) := by
      intro rs
      induction rs with
      | nil =>
        intro j TJ lcJ hJ XJ eJ NJ hj VJ VJ2 tk hJh
        have hjl : j = x1.length := by simp at hj; omega
        refine own_go (S' := (TJ.setTop (mkF m 11 #[.val (.ref b1), .val (.ref b2), .val (.int (Int32.ofNat j))] [(.ref b1), (.int (Int32.ofNat j))]))) (fun t_ k_ => ?_) ?_
        · refine XS.iloadN XJ.here hx rfl (hb hby own_d3_9) rfl ?_
          show Steps p.tables e below (TJ.setTop (mkF m 10 #[.val (.ref b1), .val (.ref b2), .val (.int (Int32.ofNat j))] [(.int (Int32.ofNat j))])) _
          refine XS.aloadN XJ.here hx rfl (hb hby own_d3_10) rfl rfl ?_
          show Steps p.tables e below (TJ.setTop (mkF m 11 #[.val (.ref b1), .val (.ref b2), .val (.int (Int32.ofNat j))] [(.ref b1), (.int (Int32.ofNat j))])) _
          exact k_
        refine own_go (own_len XJ hx hZ eJ VJ (g := (mkF m 11 #[.val (.ref b1), .val (.ref b2), .val (.int (Int32.ofNat j))] [(.ref b1), (.int (Int32.ofNat j))])) rfl rfl (hb hby own_d3_11)) ?_
        show own_Rch p e below _ (TJ.setTop (mkF m 12 #[.val (.ref b1), .val (.ref b2), .val (.int (Int32.ofNat j))] [(.int (Int32.ofNat x1.length)), (.int (Int32.ofNat j))]))
        refine own_go (S' := (TJ.setTop (mkF m 33 #[.val (.ref b1), .val (.ref b2), .val (.int (Int32.ofNat j))] [(.int (1 : Int32))]))) (fun t_ k_ => ?_) ?_
        · refine XS.icmpYes XJ.here hx rfl (pc0 := 12) (pc' := 32) rfl (hb hby own_d3_12) rfl (flt (by rw [hjl]; exact own_irr _)).2.1 (by decide) (by decide) ?_
          show Steps p.tables e below (TJ.setTop (mkF m 32 #[.val (.ref b1), .val (.ref b2), .val (.int (Int32.ofNat j))] [])) _
          refine XS.iconst XJ.here hx rfl (hb hby own_d3_32) ?_
          show Steps p.tables e below (TJ.setTop (mkF m 33 #[.val (.ref b1), .val (.ref b2), .val (.int (Int32.ofNat j))] [(.int (1 : Int32))])) _
          exact k_
        refine own_retN XJ hx (t := .boolean) Bd.returns Bd.notSynchronized (by simp) (hb hby own_d3_33) (show nar .boolean (1 : Int32) = (1 : Int32) from rfl) (by decide) (by decide) ?_
        try rw [eJ]
        exact ⟨by rw [if_pos (by rw [hjl, List.take_length, hl', List.take_length] at tk; exact tk)], NJ, hJh⟩
      | cons u rest ih =>
        intro j TJ lcJ hJ XJ eJ NJ hj VJ VJ2 tk hJh
        have hjn : j < x1.length := by simp at hj; omega
        have ij : ¬ Int32.ofNat j < 0 ∧ Int32.ofNat j < Int32.ofNat x1.length := ⟨(own_nat (by omega)).2.2.1, (own_ltN (by omega) l1).mpr hjn⟩
        have ij2 : ¬ Int32.ofNat j < 0 ∧ Int32.ofNat j < Int32.ofNat x2.length := ⟨ij.1, hl' ▸ ij.2⟩
        refine own_go (S' := (TJ.setTop (mkF m 11 #[.val (.ref b1), .val (.ref b2), .val (.int (Int32.ofNat j))] [(.ref b1), (.int (Int32.ofNat j))]))) (fun t_ k_ => ?_) ?_
        · refine XS.iloadN XJ.here hx rfl (hb hby own_d3_9) rfl ?_
          show Steps p.tables e below (TJ.setTop (mkF m 10 #[.val (.ref b1), .val (.ref b2), .val (.int (Int32.ofNat j))] [(.int (Int32.ofNat j))])) _
          refine XS.aloadN XJ.here hx rfl (hb hby own_d3_10) rfl rfl ?_
          show Steps p.tables e below (TJ.setTop (mkF m 11 #[.val (.ref b1), .val (.ref b2), .val (.int (Int32.ofNat j))] [(.ref b1), (.int (Int32.ofNat j))])) _
          exact k_
        refine own_go (own_len XJ hx hZ eJ VJ (g := (mkF m 11 #[.val (.ref b1), .val (.ref b2), .val (.int (Int32.ofNat j))] [(.ref b1), (.int (Int32.ofNat j))])) rfl rfl (hb hby own_d3_11)) ?_
        show own_Rch p e below _ (TJ.setTop (mkF m 12 #[.val (.ref b1), .val (.ref b2), .val (.int (Int32.ofNat j))] [(.int (Int32.ofNat x1.length)), (.int (Int32.ofNat j))]))
        refine own_go (S' := (TJ.setTop (mkF m 17 #[.val (.ref b1), .val (.ref b2), .val (.int (Int32.ofNat j))] [(.int (Int32.ofNat j)), (.ref b1)]))) (fun t_ k_ => ?_) ?_
        · refine XS.icmpNo XJ.here hx rfl (hb hby own_d3_12) rfl (tlt ij.2).2.1 ?_
          show Steps p.tables e below (TJ.setTop (mkF m 15 #[.val (.ref b1), .val (.ref b2), .val (.int (Int32.ofNat j))] [])) _
          refine XS.aloadN XJ.here hx rfl (hb hby own_d3_15) rfl rfl ?_
          show Steps p.tables e below (TJ.setTop (mkF m 16 #[.val (.ref b1), .val (.ref b2), .val (.int (Int32.ofNat j))] [(.ref b1)])) _
          refine XS.iloadN XJ.here hx rfl (hb hby own_d3_16) rfl ?_
          show Steps p.tables e below (TJ.setTop (mkF m 17 #[.val (.ref b1), .val (.ref b2), .val (.int (Int32.ofNat j))] [(.int (Int32.ofNat j)), (.ref b1)])) _
          exact k_
        refine own_go (own_bal XJ hx hZ eJ VJ ij (v := (.int (x1.getD j 0))) (by rw [(own_nat (by omega)).2.1, own_mapD]) (g := (mkF m 17 #[.val (.ref b1), .val (.ref b2), .val (.int (Int32.ofNat j))] [(.int (Int32.ofNat j)), (.ref b1)])) rfl rfl (hb hby own_d3_17)) ?_
        show own_Rch p e below _ (TJ.setTop (mkF m 18 #[.val (.ref b1), .val (.ref b2), .val (.int (Int32.ofNat j))] [(.int (x1.getD j 0))]))
        refine own_go (S' := (TJ.setTop (mkF m 20 #[.val (.ref b1), .val (.ref b2), .val (.int (Int32.ofNat j))] [(.int (Int32.ofNat j)), (.ref b2), (.int (x1.getD j 0))]))) (fun t_ k_ => ?_) ?_
        · refine XS.aloadN XJ.here hx rfl (hb hby own_d3_18) rfl rfl ?_
          show Steps p.tables e below (TJ.setTop (mkF m 19 #[.val (.ref b1), .val (.ref b2), .val (.int (Int32.ofNat j))] [(.ref b2), (.int (x1.getD j 0))])) _
          refine XS.iloadN XJ.here hx rfl (hb hby own_d3_19) rfl ?_
          show Steps p.tables e below (TJ.setTop (mkF m 20 #[.val (.ref b1), .val (.ref b2), .val (.int (Int32.ofNat j))] [(.int (Int32.ofNat j)), (.ref b2), (.int (x1.getD j 0))])) _
          exact k_
        refine own_go (own_bal XJ hx hZ eJ VJ2 ij2 (v := (.int (x2.getD j 0))) (by rw [(own_nat (by omega)).2.1, own_mapD]) (g := (mkF m 20 #[.val (.ref b1), .val (.ref b2), .val (.int (Int32.ofNat j))] [(.int (Int32.ofNat j)), (.ref b2), (.int (x1.getD j 0))])) rfl rfl (hb hby own_d3_20)) ?_
        show own_Rch p e below _ (TJ.setTop (mkF m 21 #[.val (.ref b1), .val (.ref b2), .val (.int (Int32.ofNat j))] [(.int (x2.getD j 0)), (.int (x1.getD j 0))]))
        by_cases he : (x1.getD j 0) = (x2.getD j 0)
        · skip
          refine own_go (S' := (TJ.setTop (mkF m 9 #[.val (.ref b1), .val (.ref b2), .val (.int ((Int32.ofNat j) + (1 : Int32)))] []))) (fun t_ k_ => ?_) ?_
          · refine XS.icmpYes XJ.here hx rfl (pc0 := 21) (pc' := 26) rfl (hb hby own_d3_21) rfl (teq he).1 (by decide) (by decide) ?_
            show Steps p.tables e below (TJ.setTop (mkF m 26 #[.val (.ref b1), .val (.ref b2), .val (.int (Int32.ofNat j))] [])) _
            refine XS.iinc XJ.here hx rfl (hb hby own_d3_26) rfl (l' := #[.val (.ref b1), .val (.ref b2), .val (.int ((Int32.ofNat j) + (1 : Int32)))]) rfl ?_
            show Steps p.tables e below (TJ.setTop (mkF m 29 #[.val (.ref b1), .val (.ref b2), .val (.int ((Int32.ofNat j) + (1 : Int32)))] [])) _
            refine XS.goto XJ.here hx rfl (pc0 := 29) (pc' := 9) rfl (hb hby own_d3_29) (by decide) (by decide) ?_
            show Steps p.tables e below (TJ.setTop (mkF m 9 #[.val (.ref b1), .val (.ref b2), .val (.int ((Int32.ofNat j) + (1 : Int32)))] [])) _
            exact k_
          rw [(own_nat (j := j) (by omega)).2.2.2]
          exact ih (j + 1) TJ lcJ hJ XJ eJ NJ (by simp at hj ⊢; omega) VJ VJ2 (own_takeS tk hjn (hl' ▸ hjn) he) hJh
        · skip
          refine own_go (S' := (TJ.setTop (mkF m 25 #[.val (.ref b1), .val (.ref b2), .val (.int (Int32.ofNat j))] [(.int (0 : Int32))]))) (fun t_ k_ => ?_) ?_
          · refine XS.icmpNo XJ.here hx rfl (hb hby own_d3_21) rfl (feq he).1 ?_
            show Steps p.tables e below (TJ.setTop (mkF m 24 #[.val (.ref b1), .val (.ref b2), .val (.int (Int32.ofNat j))] [])) _
            refine XS.iconst XJ.here hx rfl (hb hby own_d3_24) ?_
            show Steps p.tables e below (TJ.setTop (mkF m 25 #[.val (.ref b1), .val (.ref b2), .val (.int (Int32.ofNat j))] [(.int (0 : Int32))])) _
            exact k_
          refine own_retN XJ hx (t := .boolean) Bd.returns Bd.notSynchronized (by simp) (hb hby own_d3_25) (show nar .boolean (0 : Int32) = (0 : Int32) from rfl) (by decide) (by decide) ?_
          try rw [eJ]
          exact ⟨by rw [if_neg (fun q => he (by rw [q]))], NJ, hJh⟩
    exact J (List.replicate x1.length ()) 0 s₁ _ h0 X0 e0 N0 (by simp) V1 V2 rfl rfl
  · skip
    refine own_go (S' := (s₁.setTop (mkF m 35 #[.val (.ref b1), .val (.ref b2), .unset] [(.int (0 : Int32))]))) (fun t_ k_ => ?_) ?_
    · refine XS.icmpYes X0.here hx rfl (pc0 := 4) (pc' := 34) rfl (hb hby own_d3_4) rfl (feq hl).2 (by decide) (by decide) ?_
      show Steps p.tables e below (s₁.setTop (mkF m 34 #[.val (.ref b1), .val (.ref b2), .unset] [])) _
      refine XS.iconst X0.here hx rfl (hb hby own_d3_34) ?_
      show Steps p.tables e below (s₁.setTop (mkF m 35 #[.val (.ref b1), .val (.ref b2), .unset] [(.int (0 : Int32))])) _
      exact k_
    refine own_retN X0 hx (t := .boolean) Bd.returns Bd.notSynchronized (by simp) (hb hby own_d3_35) (show nar .boolean (0 : Int32) = (0 : Int32) from rfl) (by decide) (by decide) ?_
    try rw [e0]
    exact ⟨by rw [if_neg (fun q => hl (by rw [q]))], N0, rfl⟩
theorem own_pd1 : parseMethodDescriptor "([B[B)Z" = some ⟨[(.array .byte), (.array .byte)], some .boolean⟩ := by decide +kernel
theorem own_d2_0 : decode jdk_42_method_66_code 0 = .ok (.aload_n 0, 1) := by decide +kernel
theorem own_d2_1 : decode jdk_42_method_66_code 1 = .ok (.aload_n 1, 1) := by decide +kernel
theorem own_d2_2 : decode jdk_42_method_66_code 2 = .ok (.if_acmp .ne 5, 3) := by decide +kernel
theorem own_d2_5 : decode jdk_42_method_66_code 5 = .ok (.iconst 1, 1) := by decide +kernel
theorem own_d2_6 : decode jdk_42_method_66_code 6 = .ok (.ireturn, 1) := by decide +kernel
theorem own_d2_7 : decode jdk_42_method_66_code 7 = .ok (.aload_n 1, 1) := by decide +kernel
theorem own_d2_8 : decode jdk_42_method_66_code 8 = .ok (.instanceof 10, 3) := by decide +kernel
theorem own_d2_11 : decode jdk_42_method_66_code 11 = .ok (.ifCond .eq 43, 3) := by decide +kernel
theorem own_d2_14 : decode jdk_42_method_66_code 14 = .ok (.aload_n 1, 1) := by decide +kernel
theorem own_d2_15 : decode jdk_42_method_66_code 15 = .ok (.checkcast 10, 3) := by decide +kernel
theorem own_d2_18 : decode jdk_42_method_66_code 18 = .ok (.astore_n 2, 1) := by decide +kernel
theorem own_d2_19 : decode jdk_42_method_66_code 19 = .ok (.getstatic 38, 3) := by decide +kernel
theorem own_d2_22 : decode jdk_42_method_66_code 22 = .ok (.ifCond .eq 14, 3) := by decide +kernel
theorem own_d2_25 : decode jdk_42_method_66_code 25 = .ok (.aload_n 0, 1) := by decide +kernel
theorem own_d2_26 : decode jdk_42_method_66_code 26 = .ok (.getfield 15, 3) := by decide +kernel
theorem own_d2_29 : decode jdk_42_method_66_code 29 = .ok (.aload_n 2, 1) := by decide +kernel
theorem own_d2_30 : decode jdk_42_method_66_code 30 = .ok (.getfield 15, 3) := by decide +kernel
theorem own_d2_33 : decode jdk_42_method_66_code 33 = .ok (.if_icmp .ne 21, 3) := by decide +kernel
theorem own_d2_36 : decode jdk_42_method_66_code 36 = .ok (.aload_n 0, 1) := by decide +kernel
theorem own_d2_37 : decode jdk_42_method_66_code 37 = .ok (.getfield 9, 3) := by decide +kernel
theorem own_d2_40 : decode jdk_42_method_66_code 40 = .ok (.aload_n 2, 1) := by decide +kernel
theorem own_d2_41 : decode jdk_42_method_66_code 41 = .ok (.getfield 9, 3) := by decide +kernel
theorem own_d2_44 : decode jdk_42_method_66_code 44 = .ok (.invokestatic 541, 3) := by decide +kernel
theorem own_d2_47 : decode jdk_42_method_66_code 47 = .ok (.ifCond .eq 7, 3) := by decide +kernel
theorem own_d2_50 : decode jdk_42_method_66_code 50 = .ok (.iconst 1, 1) := by decide +kernel
theorem own_d2_51 : decode jdk_42_method_66_code 51 = .ok (.goto 4, 3) := by decide +kernel
theorem own_d2_54 : decode jdk_42_method_66_code 54 = .ok (.iconst 0, 1) := by decide +kernel
theorem own_d2_55 : decode jdk_42_method_66_code 55 = .ok (.ireturn, 1) := by decide +kernel
theorem own_c2_ef (m : MethodId) (x0 : Addr) (x1 : Addr) : entryFrame m #[(.ref x0), (.ref x1)] 3 = mkF m 0 #[.val (.ref x0), .val (.ref x1), .unset] [] := by first | (simp [entryFrame, mkF, argsToLocals, Value.category]; done) | rfl
set_option maxRecDepth 65536 in
set_option maxHeartbeats 40000000 in
theorem own_c2 (l : Launch) (Z : State) (a0 : Array Value) (hw : ∀ d ∈ tables_1, d.before a0 Z = true) (wsC : List Jvm.Cond) (a1 a2 b1 b2 : Addr) (k1 k2 : ClassId) (x1 x2 : List Int32) (l1 : x1.length ≤ 1000) (l2 : x2.length ≤ 1000) (cz : Int32) (CS : Sta Z Z.heap "java/lang/String" "COMPACT_STRINGS" "Z" (.int cz)) (hcz : ¬ cz = (0 : Int32)) (h0 : Heap) (n0 : Nat) (O : Old Z n0 h0) (E1 : Exa Z h0 a1 "java/lang/String") (C1 : Fld Z h0 a1 "java/lang/String" "coder" "B" (.int 0)) (F1 : Fld Z h0 a1 "java/lang/String" "value" "[B" (.ref b1)) (V1 : Arv Z h0 b1 k1 .byte (Int32.ofNat x1.length) (x1.map Value.int) (.int 0)) (E2 : Exa Z h0 a2 "java/lang/String") (C2 : Fld Z h0 a2 "java/lang/String" "coder" "B" (.int 0)) (F2 : Fld Z h0 a2 "java/lang/String" "value" "[B" (.ref b2)) (V2 : Arv Z h0 b2 k2 .byte (Int32.ofNat x2.length) (x2.map Value.int) (.int 0)) :
    own_Ctr l Z (⟨"java/lang/String", "equals", "(Ljava/lang/Object;)Z"⟩ : MethodName) jdk_42_method_66_code 3 (some .boolean) wsC ({ frames := 1, cells := 0, slots := 0, locals := 20 } : Room) h0 #[(.ref a1), (.ref a2)] (fun v h L => v = some (.int (if x1 = x2 then 1 else 0)) ∧ Fr n0 L ∧ h = h0) := by
  refine own_ctr (plainFor_of_name own_pn0) ?_
  intro p e s m below meth c s₁ Bd hml0 hx hby hZ hown0 X0 e0
  have hml : c.maxLocals = 3 := hml0
  have hown : s.vm.findClass "java/lang/String" = some m.cls := hown0
  have hnm := (name_of_methodNamed Bd.named Bd.method).1
  have N0 := Fr.nil n0
  refine own_cast (own_c2_ef m a1 a2) ?_
  refine own_go (S' := (s₁.setTop (mkF m 2 #[.val (.ref a1), .val (.ref a2), .unset] [(.ref a2), (.ref a1)]))) (fun t_ k_ => ?_) ?_
  · refine XS.aloadN X0.here hx rfl (hb hby own_d2_0) rfl rfl ?_
    show Steps p.tables e below (s₁.setTop (mkF m 1 #[.val (.ref a1), .val (.ref a2), .unset] [(.ref a1)])) _
    refine XS.aloadN X0.here hx rfl (hb hby own_d2_1) rfl rfl ?_
    show Steps p.tables e below (s₁.setTop (mkF m 2 #[.val (.ref a1), .val (.ref a2), .unset] [(.ref a2), (.ref a1)])) _
    exact k_
  by_cases ha : a1 = a2
  · skip
    refine own_go (S' := (s₁.setTop (mkF m 6 #[.val (.ref a1), .val (.ref a2), .unset] [(.int (1 : Int32))]))) (fun t_ k_ => ?_) ?_
    · refine Jvm.RoadKit.acmp (g := (mkF m 2 #[.val (.ref a1), .val (.ref a2), .unset] [(.ref a2), (.ref a1)])) X0 hx rfl rfl rfl (pc0 := 2) (pc' := 5) (same := true) rfl (hb hby own_d2_2) rfl (decide_eq_true (congrArg Value.ref ha)) (by decide) (by decide) ?_
      show Steps p.tables e below (s₁.setTop (mkF m 5 #[.val (.ref a1), .val (.ref a2), .unset] [])) _
      refine XS.iconst X0.here hx rfl (hb hby own_d2_5) ?_
      show Steps p.tables e below (s₁.setTop (mkF m 6 #[.val (.ref a1), .val (.ref a2), .unset] [(.int (1 : Int32))])) _
      exact k_
    refine own_retN X0 hx (t := .boolean) Bd.returns Bd.notSynchronized (by simp) (hb hby own_d2_6) (show nar .boolean (1 : Int32) = (1 : Int32) from rfl) (by decide) (by decide) ?_
    try rw [e0]
    exact ⟨by rw [if_pos (by subst ha; cases own_fldU F1 F2; exact own_arvU l1 l2 V1 V2)], N0, rfl⟩
  · skip
    refine own_go (S' := (s₁.setTop (mkF m 8 #[.val (.ref a1), .val (.ref a2), .unset] [(.ref a2)]))) (fun t_ k_ => ?_) ?_
    · refine Jvm.RoadKit.acmp (g := (mkF m 2 #[.val (.ref a1), .val (.ref a2), .unset] [(.ref a2), (.ref a1)])) X0 hx rfl rfl rfl (pc0 := 2) (pc' := 7) (same := false) rfl (hb hby own_d2_2) rfl (decide_eq_false fun q => ha (Value.ref.inj q)) (by decide) (by decide) ?_
      show Steps p.tables e below (s₁.setTop (mkF m 7 #[.val (.ref a1), .val (.ref a2), .unset] [])) _
      refine XS.aloadN X0.here hx rfl (hb hby own_d2_7) rfl rfl ?_
      show Steps p.tables e below (s₁.setTop (mkF m 8 #[.val (.ref a1), .val (.ref a2), .unset] [(.ref a2)])) _
      exact k_
    obtain ⟨T101, X101, e101, st101⟩ := instY X0 hx hZ hown (hw _ (List.mem_of_getElem? (i := 24) rfl)) e0 (Ins.self E2) (g := (mkF m 8 #[.val (.ref a1), .val (.ref a2), .unset] [(.ref a2)])) rfl rfl (hb hby own_d2_8)
    refine own_go st101 ?_
    show own_Rch p e below _ (T101.setTop (mkF m 11 #[.val (.ref a1), .val (.ref a2), .unset] [(.int (1 : Int32))]))
    refine own_go (S' := (T101.setTop (mkF m 15 #[.val (.ref a1), .val (.ref a2), .unset] [(.ref a2)]))) (fun t_ k_ => ?_) ?_
    · refine XS.ifNo X101.here hx rfl (hb hby own_d2_11) rfl ((if0 _ _).trans (feq (by decide)).1) ?_
      show Steps p.tables e below (T101.setTop (mkF m 14 #[.val (.ref a1), .val (.ref a2), .unset] [])) _
      refine XS.aloadN X101.here hx rfl (hb hby own_d2_14) rfl rfl ?_
      show Steps p.tables e below (T101.setTop (mkF m 15 #[.val (.ref a1), .val (.ref a2), .unset] [(.ref a2)])) _
      exact k_
    obtain ⟨T102, X102, e102, st102⟩ := castY X101 hx hZ hown (hw _ (List.mem_of_getElem? (i := 24) rfl)) e101 (Ins.self E2) (g := (mkF m 15 #[.val (.ref a1), .val (.ref a2), .unset] [(.ref a2)])) rfl rfl (hb hby own_d2_15)
    refine own_go st102 ?_
    show own_Rch p e below _ (T102.setTop (mkF m 18 #[.val (.ref a1), .val (.ref a2), .unset] [(.ref a2)]))
    refine own_go (S' := (T102.setTop (mkF m 19 #[.val (.ref a1), .val (.ref a2), .val (.ref a2)] []))) (fun t_ k_ => ?_) ?_
    · refine XS.astoreN X102.here hx rfl (hb hby own_d2_18) rfl rfl (l' := #[.val (.ref a1), .val (.ref a2), .val (.ref a2)]) rfl ?_
      show Steps p.tables e below (T102.setTop (mkF m 19 #[.val (.ref a1), .val (.ref a2), .val (.ref a2)] [])) _
      exact k_
    obtain ⟨T103, X103, e103, st103⟩ := getS2 X102 hx hZ hown (host := "") (Or.inl (hw _ (List.mem_of_getElem? (i := 26) rfl))) Via.refl e102 (CS.ext O.2) (g := (mkF m 19 #[.val (.ref a1), .val (.ref a2), .val (.ref a2)] [])) rfl (hb hby own_d2_19)
    refine own_go st103 ?_
    show own_Rch p e below _ (T103.setTop (mkF m 22 #[.val (.ref a1), .val (.ref a2), .val (.ref a2)] [(.int cz)]))
    refine own_go (S' := (T103.setTop (mkF m 26 #[.val (.ref a1), .val (.ref a2), .val (.ref a2)] [(.ref a1)]))) (fun t_ k_ => ?_) ?_
    · refine XS.ifNo X103.here hx rfl (hb hby own_d2_22) rfl ((if0 _ _).trans (feq hcz).1) ?_
      show Steps p.tables e below (T103.setTop (mkF m 25 #[.val (.ref a1), .val (.ref a2), .val (.ref a2)] [])) _
      refine XS.aloadN X103.here hx rfl (hb hby own_d2_25) rfl rfl ?_
      show Steps p.tables e below (T103.setTop (mkF m 26 #[.val (.ref a1), .val (.ref a2), .val (.ref a2)] [(.ref a1)])) _
      exact k_
    obtain ⟨T104, X104, e104, st104⟩ := getF X103 hx hZ hown (host := "") (Or.inl (hw _ (List.mem_of_getElem? (i := 27) rfl))) Via.refl e103 C1 (g := (mkF m 26 #[.val (.ref a1), .val (.ref a2), .val (.ref a2)] [(.ref a1)])) rfl rfl (hb hby own_d2_26)
    refine own_go st104 ?_
    show own_Rch p e below _ (T104.setTop (mkF m 29 #[.val (.ref a1), .val (.ref a2), .val (.ref a2)] [(.int (0 : Int32))]))
    refine own_go (S' := (T104.setTop (mkF m 30 #[.val (.ref a1), .val (.ref a2), .val (.ref a2)] [(.ref a2), (.int (0 : Int32))]))) (fun t_ k_ => ?_) ?_
    · refine XS.aloadN X104.here hx rfl (hb hby own_d2_29) rfl rfl ?_
      show Steps p.tables e below (T104.setTop (mkF m 30 #[.val (.ref a1), .val (.ref a2), .val (.ref a2)] [(.ref a2), (.int (0 : Int32))])) _
      exact k_
    obtain ⟨T105, X105, e105, st105⟩ := getF X104 hx hZ hown (host := "") (Or.inl (hw _ (List.mem_of_getElem? (i := 27) rfl))) Via.refl e104 C2 (g := (mkF m 30 #[.val (.ref a1), .val (.ref a2), .val (.ref a2)] [(.ref a2), (.int (0 : Int32))])) rfl rfl (hb hby own_d2_30)
    refine own_go st105 ?_
    show own_Rch p e below _ (T105.setTop (mkF m 33 #[.val (.ref a1), .val (.ref a2), .val (.ref a2)] [(.int (0 : Int32)), (.int (0 : Int32))]))
    refine own_go (S' := (T105.setTop (mkF m 37 #[.val (.ref a1), .val (.ref a2), .val (.ref a2)] [(.ref a1)]))) (fun t_ k_ => ?_) ?_
    · refine XS.icmpNo X105.here hx rfl (hb hby own_d2_33) rfl (teq rfl).2 ?_
      show Steps p.tables e below (T105.setTop (mkF m 36 #[.val (.ref a1), .val (.ref a2), .val (.ref a2)] [])) _
      refine XS.aloadN X105.here hx rfl (hb hby own_d2_36) rfl rfl ?_
      show Steps p.tables e below (T105.setTop (mkF m 37 #[.val (.ref a1), .val (.ref a2), .val (.ref a2)] [(.ref a1)])) _
      exact k_
    obtain ⟨T106, X106, e106, st106⟩ := getF X105 hx hZ hown (host := "") (Or.inl (hw _ (List.mem_of_getElem? (i := 28) rfl))) Via.refl e105 F1 (g := (mkF m 37 #[.val (.ref a1), .val (.ref a2), .val (.ref a2)] [(.ref a1)])) rfl rfl (hb hby own_d2_37)
    refine own_go st106 ?_
    show own_Rch p e below _ (T106.setTop (mkF m 40 #[.val (.ref a1), .val (.ref a2), .val (.ref a2)] [(.ref b1)]))
    refine own_go (S' := (T106.setTop (mkF m 41 #[.val (.ref a1), .val (.ref a2), .val (.ref a2)] [(.ref a2), (.ref b1)]))) (fun t_ k_ => ?_) ?_
    · refine XS.aloadN X106.here hx rfl (hb hby own_d2_40) rfl rfl ?_
      show Steps p.tables e below (T106.setTop (mkF m 41 #[.val (.ref a1), .val (.ref a2), .val (.ref a2)] [(.ref a2), (.ref b1)])) _
      exact k_
    obtain ⟨T107, X107, e107, st107⟩ := getF X106 hx hZ hown (host := "") (Or.inl (hw _ (List.mem_of_getElem? (i := 28) rfl))) Via.refl e106 F2 (g := (mkF m 41 #[.val (.ref a1), .val (.ref a2), .val (.ref a2)] [(.ref a2), (.ref b1)])) rfl rfl (hb hby own_d2_41)
    refine own_go st107 ?_
    show own_Rch p e below _ (T107.setTop (mkF m 44 #[.val (.ref a1), .val (.ref a2), .val (.ref a2)] [(.ref b2), (.ref b1)]))
    obtain ⟨_, T108, L108, X108, ⟨rfl, N108q, k108⟩, st108⟩ := own_callS X107 hx hZ (y := (⟨"java/lang/StringLatin1", "equals", "([B[B)Z"⟩ : MethodName)) hown (hw _ (List.mem_of_getElem? (i := 29) rfl)) (hw _ (List.mem_of_getElem? (i := 30) rfl)) (hw _ (List.mem_of_getElem? (i := 31) rfl)) (hw _ (List.mem_of_getElem? (i := 32) rfl)) (by decide) (own_c3 l Z a0 hw [] b1 b2 k1 k2 x1 x2 l1 l2 h0 n0 O V1 V2) e107 (W := 0) (by decide) (by decide) (g := (mkF m 44 #[.val (.ref a1), .val (.ref a2), .val (.ref a2)] [(.ref b2), (.ref b1)])) rfl (by rw [hml]; rfl) (argsL := [(.ref b1), (.ref b2)]) (rest := []) (lenOf own_pd1 rfl) rfl rfl rfl (hb hby own_d2_44) (by decide) (by decide)
    have N108 := Fr.app N0 N108q
    refine own_go st108 ?_
    show own_Rch p e below _ (T108.setTop (mkF m 47 #[.val (.ref a1), .val (.ref a2), .val (.ref a2)] [(.int (if x1 = x2 then (1 : Int32) else (0 : Int32)))]))
    by_cases hxy : x1 = x2
    · skip
      rw [if_pos hxy]
      show own_Rch p e below _ (T108.setTop (mkF m 47 #[.val (.ref a1), .val (.ref a2), .val (.ref a2)] [(.int (1 : Int32))]))
      refine own_go (S' := (T108.setTop (mkF m 55 #[.val (.ref a1), .val (.ref a2), .val (.ref a2)] [(.int (1 : Int32))]))) (fun t_ k_ => ?_) ?_
      · refine XS.ifNo X108.here hx rfl (hb hby own_d2_47) rfl ((if0 _ _).trans (feq (by decide)).1) ?_
        show Steps p.tables e below (T108.setTop (mkF m 50 #[.val (.ref a1), .val (.ref a2), .val (.ref a2)] [])) _
        refine XS.iconst X108.here hx rfl (hb hby own_d2_50) ?_
        show Steps p.tables e below (T108.setTop (mkF m 51 #[.val (.ref a1), .val (.ref a2), .val (.ref a2)] [(.int (1 : Int32))])) _
        refine XS.goto X108.here hx rfl (pc0 := 51) (pc' := 55) rfl (hb hby own_d2_51) (by decide) (by decide) ?_
        show Steps p.tables e below (T108.setTop (mkF m 55 #[.val (.ref a1), .val (.ref a2), .val (.ref a2)] [(.int (1 : Int32))])) _
        exact k_
      refine own_retN X108 hx (t := .boolean) Bd.returns Bd.notSynchronized (by simp) (hb hby own_d2_55) (show nar .boolean (1 : Int32) = (1 : Int32) from rfl) (by decide) (by decide) ?_
      exact ⟨by first | rfl | rw [if_pos hxy], N108, k108⟩
    · skip
      rw [if_neg hxy]
      show own_Rch p e below _ (T108.setTop (mkF m 47 #[.val (.ref a1), .val (.ref a2), .val (.ref a2)] [(.int (0 : Int32))]))
      refine own_go (S' := (T108.setTop (mkF m 55 #[.val (.ref a1), .val (.ref a2), .val (.ref a2)] [(.int (0 : Int32))]))) (fun t_ k_ => ?_) ?_
      · refine XS.ifYes X108.here hx rfl (pc0 := 47) (pc' := 54) rfl (hb hby own_d2_47) rfl ((if0 _ _).trans (teq rfl).1) (by decide) (by decide) ?_
        show Steps p.tables e below (T108.setTop (mkF m 54 #[.val (.ref a1), .val (.ref a2), .val (.ref a2)] [])) _
        refine XS.iconst X108.here hx rfl (hb hby own_d2_54) ?_
        show Steps p.tables e below (T108.setTop (mkF m 55 #[.val (.ref a1), .val (.ref a2), .val (.ref a2)] [(.int (0 : Int32))])) _
        exact k_
      refine own_retN X108 hx (t := .boolean) Bd.returns Bd.notSynchronized (by simp) (hb hby own_d2_55) (show nar .boolean (0 : Int32) = (0 : Int32) from rfl) (by decide) (by decide) ?_
      exact ⟨by first | rfl | rw [if_neg hxy], N108, k108⟩
theorem own_d5_0 : decode jdk_68_method_2_code 0 = .ok (.aload_n 0, 1) := by decide +kernel
theorem own_d5_1 : decode jdk_68_method_2_code 1 = .ok (.invokespecial 3, 3) := by decide +kernel
theorem own_d5_4 : decode jdk_68_method_2_code 4 = .ok (.getstatic 18, 3) := by decide +kernel
theorem own_d5_7 : decode jdk_68_method_2_code 7 = .ok (.ifCond .eq 18, 3) := by decide +kernel
theorem own_d5_10 : decode jdk_68_method_2_code 10 = .ok (.aload_n 0, 1) := by decide +kernel
theorem own_d5_11 : decode jdk_68_method_2_code 11 = .ok (.iload_n 1, 1) := by decide +kernel
theorem own_d5_12 : decode jdk_68_method_2_code 12 = .ok (.newarray .byte, 2) := by decide +kernel
theorem own_d5_14 : decode jdk_68_method_2_code 14 = .ok (.putfield 15, 3) := by decide +kernel
theorem own_d5_17 : decode jdk_68_method_2_code 17 = .ok (.aload_n 0, 1) := by decide +kernel
theorem own_d5_18 : decode jdk_68_method_2_code 18 = .ok (.iconst 0, 1) := by decide +kernel
theorem own_d5_19 : decode jdk_68_method_2_code 19 = .ok (.putfield 22, 3) := by decide +kernel
theorem own_d5_22 : decode jdk_68_method_2_code 22 = .ok (.goto 16, 3) := by decide +kernel
theorem own_d5_38 : decode jdk_68_method_2_code 38 = .ok (.return_, 1) := by decide +kernel
theorem own_c5_ef (m : MethodId) (x0 : Addr) (x1 : Int32) : entryFrame m #[(.ref x0), (.int x1)] 2 = mkF m 0 #[.val (.ref x0), .val (.int x1)] [] := by first | (simp [entryFrame, mkF, argsToLocals, Value.category]; done) | rfl
theorem own_pn2 : plainName "java/lang/AbstractStringBuilder" = true := by first | (simp [plainName, overriddenIn]; done) | decide +kernel
set_option maxRecDepth 65536 in
set_option maxHeartbeats 40000000 in
theorem own_c5 (l : Launch) (Z : State) (a0 : Array Value) (hw : ∀ d ∈ tables_1, d.before a0 Z = true) (wsC : List Jvm.Cond) (a1 : Addr) (cz : Int32) (CS : Sta Z Z.heap "java/lang/String" "COMPACT_STRINGS" "Z" (.int cz)) (hcz : ¬ cz = (0 : Int32)) (h0 : Heap) (n0 : Nat) (O : Old Z n0 h0) (F1 : Fld Z h0 a1 "java/lang/AbstractStringBuilder" "value" "[B" .null) (F2 : Fld Z h0 a1 "java/lang/AbstractStringBuilder" "coder" "B" (.int 0)) (F3 : Fld Z h0 a1 "java/lang/AbstractStringBuilder" "count" "I" (.int (Int32.ofNat 0))) (E : Exa Z h0 a1 "java/lang/StringBuilder") (g : n0 ≤ a1) :
    own_Ctr l Z (⟨"java/lang/AbstractStringBuilder", "<init>", "(I)V"⟩ : MethodName) jdk_68_method_2_code 2 none wsC ({ frames := 1, cells := 1, slots := 16, locals := 13 } : Room) h0 #[(.ref a1), (.int (16 : Int32))] (fun v h L => ∃ vb kb, v = none ∧ Fr n0 L ∧ Keep h0 h [a1] ∧ h0.size ≤ vb ∧ Exa Z h a1 "java/lang/StringBuilder" ∧ Fld Z h a1 "java/lang/AbstractStringBuilder" "value" "[B" (.ref vb) ∧ Fld Z h a1 "java/lang/AbstractStringBuilder" "coder" "B" (.int 0) ∧ Fld Z h a1 "java/lang/AbstractStringBuilder" "count" "I" (.int (Int32.ofNat 0)) ∧ Arv Z h vb kb .byte (Int32.ofNat (List.replicate 16 (0 : Int32)).length) ((List.replicate 16 (0 : Int32)).map Value.int) (.int 0)) := by
  refine own_ctr (plainFor_of_name own_pn2) ?_
  intro p e s m below meth c s₁ Bd hml0 hx hby hZ hown0 X0 e0
  have hml : c.maxLocals = 2 := hml0
  have hown : s.vm.findClass "java/lang/AbstractStringBuilder" = some m.cls := hown0
  have hnm := (name_of_methodNamed Bd.named Bd.method).1
  have N0 := Fr.nil n0
  refine own_cast (own_c5_ef m a1 (16 : Int32)) ?_
  refine own_go (S' := (s₁.setTop (mkF m 1 #[.val (.ref a1), .val (.int (16 : Int32))] [(.ref a1)]))) (fun t_ k_ => ?_) ?_
  · refine XS.aloadN X0.here hx rfl (hb hby own_d5_0) rfl rfl ?_
    show Steps p.tables e below (s₁.setTop (mkF m 1 #[.val (.ref a1), .val (.int (16 : Int32))] [(.ref a1)])) _
    exact k_
  obtain ⟨T101, X101, e101, st101⟩ := initO X0 hx hZ hown (hw _ (List.mem_of_getElem? (i := 45) rfl)) (hw _ (List.mem_of_getElem? (i := 46) rfl)) (hw _ (List.mem_of_getElem? (i := 47) rfl)) e0 (g := (mkF m 1 #[.val (.ref a1), .val (.int (16 : Int32))] [(.ref a1)])) rfl (by rw [hml]; rfl) rfl (hb hby own_d5_1) (by decide) (W := 0) (by show 2 * 0 + _ ≤ _; exact Nat.le_of_eq rfl) (by decide)
  refine own_go st101 ?_
  show own_Rch p e below _ (T101.setTop (mkF m 4 #[.val (.ref a1), .val (.int (16 : Int32))] []))
  obtain ⟨T102, X102, e102, st102⟩ := getS2 X101 hx hZ hown (host := "") (Or.inl (hw _ (List.mem_of_getElem? (i := 48) rfl))) Via.refl e101 (CS.ext O.2) (g := (mkF m 4 #[.val (.ref a1), .val (.int (16 : Int32))] [])) rfl (hb hby own_d5_4)
  refine own_go st102 ?_
  show own_Rch p e below _ (T102.setTop (mkF m 7 #[.val (.ref a1), .val (.int (16 : Int32))] [(.int cz)]))
  refine own_go (S' := (T102.setTop (mkF m 12 #[.val (.ref a1), .val (.int (16 : Int32))] [(.int (16 : Int32)), (.ref a1)]))) (fun t_ k_ => ?_) ?_
  · refine XS.ifNo X102.here hx rfl (hb hby own_d5_7) rfl ((if0 _ _).trans (feq hcz).1) ?_
    show Steps p.tables e below (T102.setTop (mkF m 10 #[.val (.ref a1), .val (.int (16 : Int32))] [])) _
    refine XS.aloadN X102.here hx rfl (hb hby own_d5_10) rfl rfl ?_
    show Steps p.tables e below (T102.setTop (mkF m 11 #[.val (.ref a1), .val (.int (16 : Int32))] [(.ref a1)])) _
    refine XS.iloadN X102.here hx rfl (hb hby own_d5_11) rfl ?_
    show Steps p.tables e below (T102.setTop (mkF m 12 #[.val (.ref a1), .val (.int (16 : Int32))] [(.int (16 : Int32)), (.ref a1)])) _
    exact k_
  obtain ⟨T103, h103, k103, X103, e103, E103, A103, Ex103, st103⟩ := newPE X102 hx hZ (hw _ (List.mem_of_getElem? (i := 6) rfl)) e102 (g := (mkF m 12 #[.val (.ref a1), .val (.int (16 : Int32))] [(.int (16 : Int32)), (.ref a1)])) rfl (hb hby own_d5_12) rfl (by decide) (cap := 16) (by decide) (by decide) (by decide) (by decide) (ad := "[B") (by decide)
  obtain ⟨b103, g103⟩ : ∃ z, z = h0.size := ⟨_, rfl⟩
  rw [← g103] at A103 Ex103 st103
  have gb103 : n0 ≤ b103 := Nat.le_trans (own_oz O) (Nat.le_of_eq g103.symm)
  have V103 := Arv.new A103 (by decide)
  refine own_go st103 ?_
  show own_Rch p e below _ (T103.setTop (mkF m 14 #[.val (.ref a1), .val (.int (16 : Int32))] [(.ref b103), (.ref a1)]))
  have Va : Arv Z h103 b103 k103 .byte (Int32.ofNat (List.replicate 16 (0 : Int32)).length) ((List.replicate 16 (0 : Int32)).map Value.int) (.int 0) := V103.pad (pad_rep [] (.int (0 : Int32)) 16)
  have nb : b103 ≠ a1 := Nat.ne_of_gt (Nat.lt_of_lt_of_le E.lt (Nat.le_of_eq g103.symm))
  obtain ⟨T104, h104, X104, e104, W104, st104⟩ := putF X103 hx hZ hown (host := "") (Or.inl (hw _ (List.mem_of_getElem? (i := 49) rfl))) Via.refl e103 (F1.ext E103) (E.ext E103) (Or.inl (hw _ (List.mem_of_getElem? (i := 50) rfl))) (hw _ (List.mem_of_getElem? (i := 34) rfl)) (ty := (.array .byte)) (by decide) rfl rfl (g := (mkF m 14 #[.val (.ref a1), .val (.int (16 : Int32))] [(.ref b103), (.ref a1)])) rfl rfl (hb hby own_d5_14)
  refine own_go st104 ?_
  have N104 := Fr.snoc X104 N0 g
  show own_Rch p e below _ (T104.setTop (mkF m 17 #[.val (.ref a1), .val (.int (16 : Int32))] []))
  have G104_0 := (F1.ext E103).same W104
  have G104_1 := (F2.ext E103).other W104 (Or.inr (slot_ne (Or.inl (hw _ (List.mem_of_getElem? (i := 52) rfl))) (Or.inl (hw _ (List.mem_of_getElem? (i := 50) rfl))) (by decide) (t := .byte) (t' := (.array .byte)) (by decide) (by decide)))
  have G104_2 := (F3.ext E103).other W104 (Or.inr (slot_ne (Or.inl (hw _ (List.mem_of_getElem? (i := 74) rfl))) (Or.inl (hw _ (List.mem_of_getElem? (i := 50) rfl))) (by decide) (t := .int) (t' := (.array .byte)) (by decide) (by decide)))
  have Ex104 := (E.ext E103).wr W104
  refine own_go (S' := (T104.setTop (mkF m 19 #[.val (.ref a1), .val (.int (16 : Int32))] [(.int (0 : Int32)), (.ref a1)]))) (fun t_ k_ => ?_) ?_
  · refine XS.aloadN X104.here hx rfl (hb hby own_d5_17) rfl rfl ?_
    show Steps p.tables e below (T104.setTop (mkF m 18 #[.val (.ref a1), .val (.int (16 : Int32))] [(.ref a1)])) _
    refine XS.iconst X104.here hx rfl (hb hby own_d5_18) ?_
    show Steps p.tables e below (T104.setTop (mkF m 19 #[.val (.ref a1), .val (.int (16 : Int32))] [(.int (0 : Int32)), (.ref a1)])) _
    exact k_
  obtain ⟨T105, h105, X105, e105, W105, st105⟩ := putFN X104 hx hZ hown (hw _ (List.mem_of_getElem? (i := 51) rfl)) Via.refl e104 G104_1 Ex104 (Or.inl (hw _ (List.mem_of_getElem? (i := 52) rfl))) (hw _ (List.mem_of_getElem? (i := 34) rfl)) (ty := .byte) (v' := (.int (0 : Int32))) (by decide) rfl (by first | exact fits_nar_byte _ | decide | rfl) (g := (mkF m 19 #[.val (.ref a1), .val (.int (16 : Int32))] [(.int (0 : Int32)), (.ref a1)])) rfl rfl (hb hby own_d5_19)
  refine own_go st105 ?_
  have N105 := Fr.snoc X105 N104 g
  show own_Rch p e below _ (T105.setTop (mkF m 22 #[.val (.ref a1), .val (.int (16 : Int32))] []))
  have G105_0 := G104_0.other W105 (Or.inr (slot_ne (Or.inl (hw _ (List.mem_of_getElem? (i := 50) rfl))) (Or.inl (hw _ (List.mem_of_getElem? (i := 52) rfl))) (by decide) (t := (.array .byte)) (t' := .byte) (by decide) (by decide)))
  have G105_1 := G104_1.same W105
  have G105_2 := G104_2.other W105 (Or.inr (slot_ne (Or.inl (hw _ (List.mem_of_getElem? (i := 74) rfl))) (Or.inl (hw _ (List.mem_of_getElem? (i := 52) rfl))) (by decide) (t := .int) (t' := .byte) (by decide) (by decide)))
  have Ex105 := Ex104.wr W105
  refine own_go (S' := (T105.setTop (mkF m 38 #[.val (.ref a1), .val (.int (16 : Int32))] []))) (fun t_ k_ => ?_) ?_
  · refine XS.goto X105.here hx rfl (pc0 := 22) (pc' := 38) rfl (hb hby own_d5_22) (by decide) (by decide) ?_
    show Steps p.tables e below (T105.setTop (mkF m 38 #[.val (.ref a1), .val (.int (16 : Int32))] [])) _
    exact k_
  refine own_ret0 X105 hx Bd.returns Bd.notSynchronized (hb hby own_d5_38) (by decide) (by decide) ?_
  try rw [e105]
  exact ⟨b103, k103, rfl, N105, (((Keep.refl h0 [a1]).ext E103).wr W104 (Or.inl (List.mem_of_getElem? (i := 0) rfl))).wr W105 (Or.inl (List.mem_of_getElem? (i := 0) rfl)), Nat.le_of_eq g103.symm, Ex105, G105_0, G105_1, G105_2, (Va.other W104 nb).other W105 nb⟩
theorem own_pd2 : parseMethodDescriptor "(I)V" = some ⟨[.int], none⟩ := by decide +kernel
theorem own_d4_0 : decode jdk_67_method_1_code 0 = .ok (.aload_n 0, 1) := by decide +kernel
theorem own_d4_1 : decode jdk_67_method_1_code 1 = .ok (.bipush 16, 2) := by decide +kernel
theorem own_d4_3 : decode jdk_67_method_1_code 3 = .ok (.invokespecial 1, 3) := by decide +kernel
theorem own_d4_6 : decode jdk_67_method_1_code 6 = .ok (.return_, 1) := by decide +kernel
theorem own_c4_ef (m : MethodId) (x0 : Addr) : entryFrame m #[(.ref x0)] 1 = mkF m 0 #[.val (.ref x0)] [] := by first | (simp [entryFrame, mkF, argsToLocals, Value.category]; done) | rfl
theorem own_pn3 : plainName "java/lang/StringBuilder" = true := by first | (simp [plainName, overriddenIn]; done) | decide +kernel
set_option maxRecDepth 65536 in
set_option maxHeartbeats 40000000 in
theorem own_c4 (l : Launch) (Z : State) (a0 : Array Value) (hw : ∀ d ∈ tables_1, d.before a0 Z = true) (wsC : List Jvm.Cond) (a1 : Addr) (cz : Int32) (CS : Sta Z Z.heap "java/lang/String" "COMPACT_STRINGS" "Z" (.int cz)) (hcz : ¬ cz = (0 : Int32)) (h0 : Heap) (n0 : Nat) (O : Old Z n0 h0) (F1 : Fld Z h0 a1 "java/lang/AbstractStringBuilder" "value" "[B" .null) (F2 : Fld Z h0 a1 "java/lang/AbstractStringBuilder" "coder" "B" (.int 0)) (F3 : Fld Z h0 a1 "java/lang/AbstractStringBuilder" "count" "I" (.int (Int32.ofNat 0))) (E : Exa Z h0 a1 "java/lang/StringBuilder") (g : n0 ≤ a1) :
    own_Ctr l Z (⟨"java/lang/StringBuilder", "<init>", "()V"⟩ : MethodName) jdk_67_method_1_code 1 none wsC ({ frames := 2, cells := 1, slots := 16, locals := 30 } : Room) h0 #[(.ref a1)] (fun v h L => ∃ vb kb, v = none ∧ Fr n0 L ∧ Keep h0 h [a1] ∧ h0.size ≤ vb ∧ Exa Z h a1 "java/lang/StringBuilder" ∧ Fld Z h a1 "java/lang/AbstractStringBuilder" "value" "[B" (.ref vb) ∧ Fld Z h a1 "java/lang/AbstractStringBuilder" "coder" "B" (.int 0) ∧ Fld Z h a1 "java/lang/AbstractStringBuilder" "count" "I" (.int (Int32.ofNat 0)) ∧ Arv Z h vb kb .byte (Int32.ofNat (List.replicate 16 (0 : Int32)).length) ((List.replicate 16 (0 : Int32)).map Value.int) (.int 0)) := by
  refine own_ctr (plainFor_of_name own_pn3) ?_
  intro p e s m below meth c s₁ Bd hml0 hx hby hZ hown0 X0 e0
  have hml : c.maxLocals = 1 := hml0
  have hown : s.vm.findClass "java/lang/StringBuilder" = some m.cls := hown0
  have hnm := (name_of_methodNamed Bd.named Bd.method).1
  have N0 := Fr.nil n0
  refine own_cast (own_c4_ef m a1) ?_
  refine own_go (S' := (s₁.setTop (mkF m 3 #[.val (.ref a1)] [(.int (16 : Int32)), (.ref a1)]))) (fun t_ k_ => ?_) ?_
  · refine XS.aloadN X0.here hx rfl (hb hby own_d4_0) rfl rfl ?_
    show Steps p.tables e below (s₁.setTop (mkF m 1 #[.val (.ref a1)] [(.ref a1)])) _
    refine XS.bipush X0.here hx rfl (hb hby own_d4_1) ?_
    show Steps p.tables e below (s₁.setTop (mkF m 3 #[.val (.ref a1)] [(.int (16 : Int32)), (.ref a1)])) _
    exact k_
  obtain ⟨_, T101, L101, X101, ⟨vb, kb, rfl, N101q, K101, z101, q101⟩, st101⟩ := own_callC X0 hx hZ (y := (⟨"java/lang/AbstractStringBuilder", "<init>", "(I)V"⟩ : MethodName)) rfl hown (hw _ (List.mem_of_getElem? (i := 39) rfl)) (hw _ (List.mem_of_getElem? (i := 40) rfl)) (hw _ (List.mem_of_getElem? (i := 43) rfl)) (hw _ (List.mem_of_getElem? (i := 44) rfl)) (by decide) (own_c5 l Z a0 hw [] a1 cz CS hcz h0 n0 O F1 F2 F3 E g) e0 (a := a1) (W := 0) (by decide) (by decide) (g := (mkF m 3 #[.val (.ref a1)] [(.int (16 : Int32)), (.ref a1)])) rfl (by rw [hml]; rfl) (argsL := [(.int (16 : Int32))]) (rest := []) (lenOf own_pd2 rfl) rfl rfl rfl (hb hby own_d4_3) (by decide) (by decide)
  have N101 := Fr.app N0 N101q
  refine own_go st101 ?_
  show own_Rch p e below _ (T101.setTop (mkF m 6 #[.val (.ref a1)] []))
  refine own_ret0 X101 hx Bd.returns Bd.notSynchronized (hb hby own_d4_6) (by decide) (by decide) ?_
  exact ⟨vb, kb, rfl, N101, K101, z101, q101⟩
theorem own_d11_0 : decode jdk_68_method_9_code 0 = .ok (.aload_n 0, 1) := by decide +kernel
theorem own_d11_1 : decode jdk_68_method_9_code 1 = .ok (.getfield 15, 3) := by decide +kernel
theorem own_d11_4 : decode jdk_68_method_9_code 4 = .ok (.arraylength, 1) := by decide +kernel
theorem own_d11_5 : decode jdk_68_method_9_code 5 = .ok (.aload_n 0, 1) := by decide +kernel
theorem own_d11_6 : decode jdk_68_method_9_code 6 = .ok (.getfield 22, 3) := by decide +kernel
theorem own_d11_9 : decode jdk_68_method_9_code 9 = .ok (.ishr, 1) := by decide +kernel
theorem own_d11_10 : decode jdk_68_method_9_code 10 = .ok (.istore_n 2, 1) := by decide +kernel
theorem own_d11_11 : decode jdk_68_method_9_code 11 = .ok (.iload_n 1, 1) := by decide +kernel
theorem own_d11_12 : decode jdk_68_method_9_code 12 = .ok (.iload_n 2, 1) := by decide +kernel
theorem own_d11_13 : decode jdk_68_method_9_code 13 = .ok (.isub, 1) := by decide +kernel
theorem own_d11_14 : decode jdk_68_method_9_code 14 = .ok (.ifCond .le 24, 3) := by decide +kernel
theorem own_d11_38 : decode jdk_68_method_9_code 38 = .ok (.return_, 1) := by decide +kernel
theorem own_c11_ef (m : MethodId) (x0 : Addr) (x1 : Int32) : entryFrame m #[(.ref x0), (.int x1)] 3 = mkF m 0 #[.val (.ref x0), .val (.int x1), .unset] [] := by first | (simp [entryFrame, mkF, argsToLocals, Value.category]; done) | rfl
set_option maxRecDepth 65536 in
set_option maxHeartbeats 40000000 in
theorem own_c11 (l : Launch) (Z : State) (a0 : Array Value) (hw : ∀ d ∈ tables_1, d.before a0 Z = true) (wsC : List Jvm.Cond) (a1 vb : Addr) (kb : ClassId) (ws : List Int32) (p2 : Int32) (n2 : Nat) (hp : p2 = Int32.ofNat n2) (hle : n2 ≤ ws.length) (hw5 : ws.length ≤ 500) (h0 : Heap) (n0 : Nat) (O : Old Z n0 h0) (F1 : Fld Z h0 a1 "java/lang/AbstractStringBuilder" "value" "[B" (.ref vb)) (F2 : Fld Z h0 a1 "java/lang/AbstractStringBuilder" "coder" "B" (.int 0)) (V : Arv Z h0 vb kb .byte (Int32.ofNat ws.length) (ws.map Value.int) (.int 0)) :
    own_Ctr l Z (⟨"java/lang/AbstractStringBuilder", "ensureCapacityInternal", "(I)V"⟩ : MethodName) jdk_68_method_9_code 3 none wsC ({ frames := 0, cells := 0, slots := 0, locals := 0 } : Room) h0 #[(.ref a1), (.int p2)] (fun v h L => v = none ∧ Fr n0 L ∧ h = h0) := by
  refine own_ctr (plainFor_of_name own_pn2) ?_
  intro p e s m below meth c s₁ Bd hml0 hx hby hZ hown0 X0 e0
  have hml : c.maxLocals = 3 := hml0
  have hown : s.vm.findClass "java/lang/AbstractStringBuilder" = some m.cls := hown0
  have hnm := (name_of_methodNamed Bd.named Bd.method).1
  have N0 := Fr.nil n0
  refine own_cast (own_c11_ef m a1 p2) ?_
  refine own_go (S' := (s₁.setTop (mkF m 1 #[.val (.ref a1), .val (.int p2), .unset] [(.ref a1)]))) (fun t_ k_ => ?_) ?_
  · refine XS.aloadN X0.here hx rfl (hb hby own_d11_0) rfl rfl ?_
    show Steps p.tables e below (s₁.setTop (mkF m 1 #[.val (.ref a1), .val (.int p2), .unset] [(.ref a1)])) _
    exact k_
  obtain ⟨T101, X101, e101, st101⟩ := getF X0 hx hZ hown (host := "") (Or.inl (hw _ (List.mem_of_getElem? (i := 49) rfl))) Via.refl e0 F1 (g := (mkF m 1 #[.val (.ref a1), .val (.int p2), .unset] [(.ref a1)])) rfl rfl (hb hby own_d11_1)
  refine own_go st101 ?_
  show own_Rch p e below _ (T101.setTop (mkF m 4 #[.val (.ref a1), .val (.int p2), .unset] [(.ref vb)]))
  refine own_go (own_len X101 hx hZ e101 V (g := (mkF m 4 #[.val (.ref a1), .val (.int p2), .unset] [(.ref vb)])) rfl rfl (hb hby own_d11_4)) ?_
  show own_Rch p e below _ (T101.setTop (mkF m 5 #[.val (.ref a1), .val (.int p2), .unset] [(.int (Int32.ofNat ws.length))]))
  refine own_go (S' := (T101.setTop (mkF m 6 #[.val (.ref a1), .val (.int p2), .unset] [(.ref a1), (.int (Int32.ofNat ws.length))]))) (fun t_ k_ => ?_) ?_
  · refine XS.aloadN X101.here hx rfl (hb hby own_d11_5) rfl rfl ?_
    show Steps p.tables e below (T101.setTop (mkF m 6 #[.val (.ref a1), .val (.int p2), .unset] [(.ref a1), (.int (Int32.ofNat ws.length))])) _
    exact k_
  obtain ⟨T102, X102, e102, st102⟩ := getF X101 hx hZ hown (host := "") (Or.inl (hw _ (List.mem_of_getElem? (i := 51) rfl))) Via.refl e101 F2 (g := (mkF m 6 #[.val (.ref a1), .val (.int p2), .unset] [(.ref a1), (.int (Int32.ofNat ws.length))])) rfl rfl (hb hby own_d11_6)
  refine own_go st102 ?_
  show own_Rch p e below _ (T102.setTop (mkF m 9 #[.val (.ref a1), .val (.int p2), .unset] [(.int (0 : Int32)), (.int (Int32.ofNat ws.length))]))
  refine own_go (S' := (T102.setTop (mkF m 14 #[.val (.ref a1), .val (.int p2), .val (.int ((Int32.ofNat ws.length) >>> ((0 : Int32) &&& 31)))] [(.int (p2 - ((Int32.ofNat ws.length) >>> ((0 : Int32) &&& 31))))]))) (fun t_ k_ => ?_) ?_
  · refine XS.ishr X102.here hx rfl (hb hby own_d11_9) rfl ?_
    show Steps p.tables e below (T102.setTop (mkF m 10 #[.val (.ref a1), .val (.int p2), .unset] [(.int ((Int32.ofNat ws.length) >>> ((0 : Int32) &&& 31)))])) _
    refine XS.istoreN X102.here hx rfl (hb hby own_d11_10) rfl (l' := #[.val (.ref a1), .val (.int p2), .val (.int ((Int32.ofNat ws.length) >>> ((0 : Int32) &&& 31)))]) rfl ?_
    show Steps p.tables e below (T102.setTop (mkF m 11 #[.val (.ref a1), .val (.int p2), .val (.int ((Int32.ofNat ws.length) >>> ((0 : Int32) &&& 31)))] [])) _
    refine XS.iloadN X102.here hx rfl (hb hby own_d11_11) rfl ?_
    show Steps p.tables e below (T102.setTop (mkF m 12 #[.val (.ref a1), .val (.int p2), .val (.int ((Int32.ofNat ws.length) >>> ((0 : Int32) &&& 31)))] [(.int p2)])) _
    refine XS.iloadN X102.here hx rfl (hb hby own_d11_12) rfl ?_
    show Steps p.tables e below (T102.setTop (mkF m 13 #[.val (.ref a1), .val (.int p2), .val (.int ((Int32.ofNat ws.length) >>> ((0 : Int32) &&& 31)))] [(.int ((Int32.ofNat ws.length) >>> ((0 : Int32) &&& 31))), (.int p2)])) _
    refine XS.isub X102.here hx rfl (hb hby own_d11_13) rfl ?_
    show Steps p.tables e below (T102.setTop (mkF m 14 #[.val (.ref a1), .val (.int p2), .val (.int ((Int32.ofNat ws.length) >>> ((0 : Int32) &&& 31)))] [(.int (p2 - ((Int32.ofNat ws.length) >>> ((0 : Int32) &&& 31))))])) _
    exact k_
  refine own_go (S' := (T102.setTop (mkF m 38 #[.val (.ref a1), .val (.int p2), .val (.int ((Int32.ofNat ws.length) >>> ((0 : Int32) &&& 31)))] []))) (fun t_ k_ => ?_) ?_
  · refine XS.ifYes X102.here hx rfl (pc0 := 14) (pc' := 38) rfl (hb hby own_d11_14) rfl ((if0 _ _).trans (flt (by rw [hp]; exact own_nogrow hle hw5)).2.2.2) (by decide) (by decide) ?_
    show Steps p.tables e below (T102.setTop (mkF m 38 #[.val (.ref a1), .val (.int p2), .val (.int ((Int32.ofNat ws.length) >>> ((0 : Int32) &&& 31)))] [])) _
    exact k_
  refine own_ret0 X102 hx Bd.returns Bd.notSynchronized (hb hby own_d11_38) (by decide) (by decide) ?_
  try rw [e102]
  exact ⟨rfl, N0, rfl⟩
theorem own_d13_0 : decode jdk_68_method_71_code 0 = .ok (.getstatic 18, 3) := by decide +kernel
theorem own_d13_3 : decode jdk_68_method_71_code 3 = .ok (.ifCond .eq 18, 3) := by decide +kernel
theorem own_d13_6 : decode jdk_68_method_71_code 6 = .ok (.aload_n 0, 1) := by decide +kernel
theorem own_d13_7 : decode jdk_68_method_71_code 7 = .ok (.getfield 22, 3) := by decide +kernel
theorem own_d13_10 : decode jdk_68_method_71_code 10 = .ok (.aload_n 1, 1) := by decide +kernel
theorem own_d13_11 : decode jdk_68_method_71_code 11 = .ok (.invokevirtual 40, 3) := by decide +kernel
theorem own_d13_14 : decode jdk_68_method_71_code 14 = .ok (.if_icmp .eq 7, 3) := by decide +kernel
theorem own_d13_21 : decode jdk_68_method_71_code 21 = .ok (.return_, 1) := by decide +kernel
theorem own_c13_ef (m : MethodId) (x0 : Addr) (x1 : Addr) : entryFrame m #[(.ref x0), (.ref x1)] 2 = mkF m 0 #[.val (.ref x0), .val (.ref x1)] [] := by first | (simp [entryFrame, mkF, argsToLocals, Value.category]; done) | rfl
set_option maxRecDepth 65536 in
set_option maxHeartbeats 40000000 in
theorem own_c13 (l : Launch) (Z : State) (a0 : Array Value) (hw : ∀ d ∈ tables_1, d.before a0 Z = true) (wsC : List Jvm.Cond) (a1 a2 : Addr) (cz : Int32) (CS : Sta Z Z.heap "java/lang/String" "COMPACT_STRINGS" "Z" (.int cz)) (hcz : ¬ cz = (0 : Int32)) (h0 : Heap) (n0 : Nat) (O : Old Z n0 h0) (F2 : Fld Z h0 a1 "java/lang/AbstractStringBuilder" "coder" "B" (.int 0)) (E2 : Exa Z h0 a2 "java/lang/String") (C2 : Fld Z h0 a2 "java/lang/String" "coder" "B" (.int 0)) :
    own_Ctr l Z (⟨"java/lang/AbstractStringBuilder", "inflateIfNeededFor", "(Ljava/lang/String;)V"⟩ : MethodName) jdk_68_method_71_code 2 none wsC ({ frames := 1, cells := 0, slots := 0, locals := 20 } : Room) h0 #[(.ref a1), (.ref a2)] (fun v h L => v = none ∧ Fr n0 L ∧ h = h0) := by
  refine own_ctr (plainFor_of_name own_pn2) ?_
  intro p e s m below meth c s₁ Bd hml0 hx hby hZ hown0 X0 e0
  have hml : c.maxLocals = 2 := hml0
  have hown : s.vm.findClass "java/lang/AbstractStringBuilder" = some m.cls := hown0
  have hnm := (name_of_methodNamed Bd.named Bd.method).1
  have N0 := Fr.nil n0
  refine own_cast (own_c13_ef m a1 a2) ?_
  obtain ⟨T101, X101, e101, st101⟩ := getS2 X0 hx hZ hown (host := "") (Or.inl (hw _ (List.mem_of_getElem? (i := 48) rfl))) Via.refl e0 (CS.ext O.2) (g := (mkF m 0 #[.val (.ref a1), .val (.ref a2)] [])) rfl (hb hby own_d13_0)
  refine own_go st101 ?_
  show own_Rch p e below _ (T101.setTop (mkF m 3 #[.val (.ref a1), .val (.ref a2)] [(.int cz)]))
  refine own_go (S' := (T101.setTop (mkF m 7 #[.val (.ref a1), .val (.ref a2)] [(.ref a1)]))) (fun t_ k_ => ?_) ?_
  · refine XS.ifNo X101.here hx rfl (hb hby own_d13_3) rfl ((if0 _ _).trans (feq hcz).1) ?_
    show Steps p.tables e below (T101.setTop (mkF m 6 #[.val (.ref a1), .val (.ref a2)] [])) _
    refine XS.aloadN X101.here hx rfl (hb hby own_d13_6) rfl rfl ?_
    show Steps p.tables e below (T101.setTop (mkF m 7 #[.val (.ref a1), .val (.ref a2)] [(.ref a1)])) _
    exact k_
  obtain ⟨T102, X102, e102, st102⟩ := getF X101 hx hZ hown (host := "") (Or.inl (hw _ (List.mem_of_getElem? (i := 51) rfl))) Via.refl e101 F2 (g := (mkF m 7 #[.val (.ref a1), .val (.ref a2)] [(.ref a1)])) rfl rfl (hb hby own_d13_7)
  refine own_go st102 ?_
  show own_Rch p e below _ (T102.setTop (mkF m 10 #[.val (.ref a1), .val (.ref a2)] [(.int (0 : Int32))]))
  refine own_go (S' := (T102.setTop (mkF m 11 #[.val (.ref a1), .val (.ref a2)] [(.ref a2), (.int (0 : Int32))]))) (fun t_ k_ => ?_) ?_
  · refine XS.aloadN X102.here hx rfl (hb hby own_d13_10) rfl rfl ?_
    show Steps p.tables e below (T102.setTop (mkF m 11 #[.val (.ref a1), .val (.ref a2)] [(.ref a2), (.int (0 : Int32))])) _
    exact k_
  obtain ⟨_, T103, L103, X103, ⟨rfl, N103q, k103⟩, st103⟩ := own_callV X102 hx hZ (y := (⟨"java/lang/String", "coder", "()B"⟩ : MethodName)) (z := (⟨"java/lang/String", "coder", "()B"⟩ : MethodName)) (C := "java/lang/String") hown (hw _ (List.mem_of_getElem? (i := 90) rfl)) (hw _ (List.mem_of_getElem? (i := 69) rfl)) (notFace_of_selects (args := #[]) (mvT hZ (hw _ (List.mem_of_getElem? (i := 71) rfl)))) (hw _ (List.mem_of_getElem? (i := 71) rfl)) (hw _ (List.mem_of_getElem? (i := 70) rfl)) (hw _ (List.mem_of_getElem? (i := 4) rfl)) (hw _ (List.mem_of_getElem? (i := 72) rfl)) (by decide) (own_c10 l Z a0 hw [] a2 cz CS hcz h0 n0 O C2) e102 E2 (W := 1) (by decide) (by decide) (g := (mkF m 11 #[.val (.ref a1), .val (.ref a2)] [(.ref a2), (.int (0 : Int32))])) rfl (by rw [hml]; rfl) (argsL := []) (rest := [(.int (0 : Int32))]) (lenOf own_pd0 rfl) rfl rfl rfl (hb hby own_d13_11) (by decide) (by decide)
  have N103 := Fr.app N0 N103q
  refine own_go st103 ?_
  show own_Rch p e below _ (T103.setTop (mkF m 14 #[.val (.ref a1), .val (.ref a2)] [(.int (0 : Int32)), (.int (0 : Int32))]))
  refine own_go (S' := (T103.setTop (mkF m 21 #[.val (.ref a1), .val (.ref a2)] []))) (fun t_ k_ => ?_) ?_
  · refine XS.icmpYes X103.here hx rfl (pc0 := 14) (pc' := 21) rfl (hb hby own_d13_14) rfl (teq rfl).1 (by decide) (by decide) ?_
    show Steps p.tables e below (T103.setTop (mkF m 21 #[.val (.ref a1), .val (.ref a2)] [])) _
    exact k_
  refine own_ret0 X103 hx Bd.returns Bd.notSynchronized (hb hby own_d13_21) (by decide) (by decide) ?_
  exact ⟨rfl, N103, k103⟩
theorem own_d14_0 : decode jdk_42_method_147_code 0 = .ok (.aload_n 0, 1) := by decide +kernel
theorem own_d14_1 : decode jdk_42_method_147_code 1 = .ok (.invokevirtual 335, 3) := by decide +kernel
theorem own_d14_4 : decode jdk_42_method_147_code 4 = .ok (.iload_n 3, 1) := by decide +kernel
theorem own_d14_5 : decode jdk_42_method_147_code 5 = .ok (.if_icmp .ne 23, 3) := by decide +kernel
theorem own_d14_8 : decode jdk_42_method_147_code 8 = .ok (.aload_n 0, 1) := by decide +kernel
theorem own_d14_9 : decode jdk_42_method_147_code 9 = .ok (.getfield 9, 3) := by decide +kernel
theorem own_d14_12 : decode jdk_42_method_147_code 12 = .ok (.iconst 0, 1) := by decide +kernel
theorem own_d14_13 : decode jdk_42_method_147_code 13 = .ok (.aload_n 1, 1) := by decide +kernel
theorem own_d14_14 : decode jdk_42_method_147_code 14 = .ok (.iload_n 2, 1) := by decide +kernel
theorem own_d14_15 : decode jdk_42_method_147_code 15 = .ok (.iload_n 3, 1) := by decide +kernel
theorem own_d14_16 : decode jdk_42_method_147_code 16 = .ok (.ishl, 1) := by decide +kernel
theorem own_d14_17 : decode jdk_42_method_147_code 17 = .ok (.aload_n 0, 1) := by decide +kernel
theorem own_d14_18 : decode jdk_42_method_147_code 18 = .ok (.getfield 9, 3) := by decide +kernel
theorem own_d14_21 : decode jdk_42_method_147_code 21 = .ok (.arraylength, 1) := by decide +kernel
theorem own_d14_22 : decode jdk_42_method_147_code 22 = .ok (.invokestatic 212, 3) := by decide +kernel
theorem own_d14_25 : decode jdk_42_method_147_code 25 = .ok (.goto 18, 3) := by decide +kernel
theorem own_d14_43 : decode jdk_42_method_147_code 43 = .ok (.return_, 1) := by decide +kernel
theorem own_c14_ef (m : MethodId) (x0 : Addr) (x1 : Addr) (x2 : Int32) (x3 : Int32) : entryFrame m #[(.ref x0), (.ref x1), (.int x2), (.int x3)] 4 = mkF m 0 #[.val (.ref x0), .val (.ref x1), .val (.int x2), .val (.int x3)] [] := by first | (simp [entryFrame, mkF, argsToLocals, Value.category]; done) | rfl
set_option maxRecDepth 65536 in
set_option maxHeartbeats 40000000 in
theorem own_c14 (l : Launch) (Z : State) (a0 : Array Value) (hw : ∀ d ∈ tables_1, d.before a0 Z = true) (wsC : List Jvm.Cond) (a1 b1 a2 : Addr) (k1 k2 : ClassId) (x1 ws : List Int32) (n : Nat) (hn : n + x1.length ≤ ws.length) (hw5 : ws.length ≤ 500) (cz : Int32) (CS : Sta Z Z.heap "java/lang/String" "COMPACT_STRINGS" "Z" (.int cz)) (hcz : ¬ cz = (0 : Int32)) (h0 : Heap) (n0 : Nat) (O : Old Z n0 h0) (E1 : Exa Z h0 a1 "java/lang/String") (C1 : Fld Z h0 a1 "java/lang/String" "coder" "B" (.int 0)) (F1 : Fld Z h0 a1 "java/lang/String" "value" "[B" (.ref b1)) (V1 : Arv Z h0 b1 k1 .byte (Int32.ofNat x1.length) (x1.map Value.int) (.int 0)) (V2 : Arv Z h0 a2 k2 .byte (Int32.ofNat ws.length) (ws.map Value.int) (.int 0)) (g2 : n0 ≤ a2) :
    own_Ctr l Z (⟨"java/lang/String", "getBytes", "([BIB)V"⟩ : MethodName) jdk_42_method_147_code 4 none wsC ({ frames := 1, cells := 0, slots := 0, locals := 30 } : Room) h0 #[(.ref a1), (.ref a2), (.int (Int32.ofNat n)), (.int (0 : Int32))] (fun v h L => v = none ∧ Fr n0 L ∧ Keep h0 h [a2] ∧ Arv Z h a2 k2 .byte (Int32.ofNat (ws.take n ++ x1 ++ ws.drop (n + x1.length)).length) ((ws.take n ++ x1 ++ ws.drop (n + x1.length)).map Value.int) (.int 0)) := by
  refine own_ctr (plainFor_of_name own_pn0) ?_
  intro p e s m below meth c s₁ Bd hml0 hx hby hZ hown0 X0 e0
  have hml : c.maxLocals = 4 := hml0
  have hown : s.vm.findClass "java/lang/String" = some m.cls := hown0
  have hnm := (name_of_methodNamed Bd.named Bd.method).1
  have N0 := Fr.nil n0
  refine own_cast (own_c14_ef m a1 a2 (Int32.ofNat n) (0 : Int32)) ?_
  refine own_go (S' := (s₁.setTop (mkF m 1 #[.val (.ref a1), .val (.ref a2), .val (.int (Int32.ofNat n)), .val (.int (0 : Int32))] [(.ref a1)]))) (fun t_ k_ => ?_) ?_
  · refine XS.aloadN X0.here hx rfl (hb hby own_d14_0) rfl rfl ?_
    show Steps p.tables e below (s₁.setTop (mkF m 1 #[.val (.ref a1), .val (.ref a2), .val (.int (Int32.ofNat n)), .val (.int (0 : Int32))] [(.ref a1)])) _
    exact k_
  obtain ⟨_, T101, L101, X101, ⟨rfl, N101q, k101⟩, st101⟩ := own_callV X0 hx hZ (y := (⟨"java/lang/String", "coder", "()B"⟩ : MethodName)) (z := (⟨"java/lang/String", "coder", "()B"⟩ : MethodName)) (C := "java/lang/String") hown (hw _ (List.mem_of_getElem? (i := 68) rfl)) (hw _ (List.mem_of_getElem? (i := 69) rfl)) (notFace_of_selects (args := #[]) (mvT hZ (hw _ (List.mem_of_getElem? (i := 71) rfl)))) (hw _ (List.mem_of_getElem? (i := 71) rfl)) (hw _ (List.mem_of_getElem? (i := 70) rfl)) (hw _ (List.mem_of_getElem? (i := 4) rfl)) (hw _ (List.mem_of_getElem? (i := 72) rfl)) (by decide) (own_c10 l Z a0 hw [] a1 cz CS hcz h0 n0 O C1) e0 E1 (W := 0) (by decide) (by decide) (g := (mkF m 1 #[.val (.ref a1), .val (.ref a2), .val (.int (Int32.ofNat n)), .val (.int (0 : Int32))] [(.ref a1)])) rfl (by rw [hml]; rfl) (argsL := []) (rest := []) (lenOf own_pd0 rfl) rfl rfl rfl (hb hby own_d14_1) (by decide) (by decide)
  have N101 := Fr.app N0 N101q
  refine own_go st101 ?_
  show own_Rch p e below _ (T101.setTop (mkF m 4 #[.val (.ref a1), .val (.ref a2), .val (.int (Int32.ofNat n)), .val (.int (0 : Int32))] [(.int (0 : Int32))]))
  rw [← k101] at F1 V1 V2
  refine own_go (S' := (T101.setTop (mkF m 5 #[.val (.ref a1), .val (.ref a2), .val (.int (Int32.ofNat n)), .val (.int (0 : Int32))] [(.int (0 : Int32)), (.int (0 : Int32))]))) (fun t_ k_ => ?_) ?_
  · refine XS.iloadN X101.here hx rfl (hb hby own_d14_4) rfl ?_
    show Steps p.tables e below (T101.setTop (mkF m 5 #[.val (.ref a1), .val (.ref a2), .val (.int (Int32.ofNat n)), .val (.int (0 : Int32))] [(.int (0 : Int32)), (.int (0 : Int32))])) _
    exact k_
  refine own_go (S' := (T101.setTop (mkF m 9 #[.val (.ref a1), .val (.ref a2), .val (.int (Int32.ofNat n)), .val (.int (0 : Int32))] [(.ref a1)]))) (fun t_ k_ => ?_) ?_
  · refine XS.icmpNo X101.here hx rfl (hb hby own_d14_5) rfl (teq rfl).2 ?_
    show Steps p.tables e below (T101.setTop (mkF m 8 #[.val (.ref a1), .val (.ref a2), .val (.int (Int32.ofNat n)), .val (.int (0 : Int32))] [])) _
    refine XS.aloadN X101.here hx rfl (hb hby own_d14_8) rfl rfl ?_
    show Steps p.tables e below (T101.setTop (mkF m 9 #[.val (.ref a1), .val (.ref a2), .val (.int (Int32.ofNat n)), .val (.int (0 : Int32))] [(.ref a1)])) _
    exact k_
  obtain ⟨T102, X102, e102, st102⟩ := getF X101 hx hZ hown (host := "") (Or.inl (hw _ (List.mem_of_getElem? (i := 28) rfl))) Via.refl rfl F1 (g := (mkF m 9 #[.val (.ref a1), .val (.ref a2), .val (.int (Int32.ofNat n)), .val (.int (0 : Int32))] [(.ref a1)])) rfl rfl (hb hby own_d14_9)
  refine own_go st102 ?_
  show own_Rch p e below _ (T102.setTop (mkF m 12 #[.val (.ref a1), .val (.ref a2), .val (.int (Int32.ofNat n)), .val (.int (0 : Int32))] [(.ref b1)]))
  refine own_go (S' := (T102.setTop (mkF m 18 #[.val (.ref a1), .val (.ref a2), .val (.int (Int32.ofNat n)), .val (.int (0 : Int32))] [(.ref a1), (.int ((Int32.ofNat n) <<< ((0 : Int32) &&& 31))), (.ref a2), (.int (0 : Int32)), (.ref b1)]))) (fun t_ k_ => ?_) ?_
  · refine XS.iconst X102.here hx rfl (hb hby own_d14_12) ?_
    show Steps p.tables e below (T102.setTop (mkF m 13 #[.val (.ref a1), .val (.ref a2), .val (.int (Int32.ofNat n)), .val (.int (0 : Int32))] [(.int (0 : Int32)), (.ref b1)])) _
    refine XS.aloadN X102.here hx rfl (hb hby own_d14_13) rfl rfl ?_
    show Steps p.tables e below (T102.setTop (mkF m 14 #[.val (.ref a1), .val (.ref a2), .val (.int (Int32.ofNat n)), .val (.int (0 : Int32))] [(.ref a2), (.int (0 : Int32)), (.ref b1)])) _
    refine XS.iloadN X102.here hx rfl (hb hby own_d14_14) rfl ?_
    show Steps p.tables e below (T102.setTop (mkF m 15 #[.val (.ref a1), .val (.ref a2), .val (.int (Int32.ofNat n)), .val (.int (0 : Int32))] [(.int (Int32.ofNat n)), (.ref a2), (.int (0 : Int32)), (.ref b1)])) _
    refine XS.iloadN X102.here hx rfl (hb hby own_d14_15) rfl ?_
    show Steps p.tables e below (T102.setTop (mkF m 16 #[.val (.ref a1), .val (.ref a2), .val (.int (Int32.ofNat n)), .val (.int (0 : Int32))] [(.int (0 : Int32)), (.int (Int32.ofNat n)), (.ref a2), (.int (0 : Int32)), (.ref b1)])) _
    refine XS.ishl X102.here hx rfl (hb hby own_d14_16) rfl ?_
    show Steps p.tables e below (T102.setTop (mkF m 17 #[.val (.ref a1), .val (.ref a2), .val (.int (Int32.ofNat n)), .val (.int (0 : Int32))] [(.int ((Int32.ofNat n) <<< ((0 : Int32) &&& 31))), (.ref a2), (.int (0 : Int32)), (.ref b1)])) _
    refine XS.aloadN X102.here hx rfl (hb hby own_d14_17) rfl rfl ?_
    show Steps p.tables e below (T102.setTop (mkF m 18 #[.val (.ref a1), .val (.ref a2), .val (.int (Int32.ofNat n)), .val (.int (0 : Int32))] [(.ref a1), (.int ((Int32.ofNat n) <<< ((0 : Int32) &&& 31))), (.ref a2), (.int (0 : Int32)), (.ref b1)])) _
    exact k_
  obtain ⟨T103, X103, e103, st103⟩ := getF X102 hx hZ hown (host := "") (Or.inl (hw _ (List.mem_of_getElem? (i := 28) rfl))) Via.refl e102 F1 (g := (mkF m 18 #[.val (.ref a1), .val (.ref a2), .val (.int (Int32.ofNat n)), .val (.int (0 : Int32))] [(.ref a1), (.int ((Int32.ofNat n) <<< ((0 : Int32) &&& 31))), (.ref a2), (.int (0 : Int32)), (.ref b1)])) rfl rfl (hb hby own_d14_18)
  refine own_go st103 ?_
  show own_Rch p e below _ (T103.setTop (mkF m 21 #[.val (.ref a1), .val (.ref a2), .val (.int (Int32.ofNat n)), .val (.int (0 : Int32))] [(.ref b1), (.int ((Int32.ofNat n) <<< ((0 : Int32) &&& 31))), (.ref a2), (.int (0 : Int32)), (.ref b1)]))
  refine own_go (own_len X103 hx hZ e103 V1 (g := (mkF m 21 #[.val (.ref a1), .val (.ref a2), .val (.int (Int32.ofNat n)), .val (.int (0 : Int32))] [(.ref b1), (.int ((Int32.ofNat n) <<< ((0 : Int32) &&& 31))), (.ref a2), (.int (0 : Int32)), (.ref b1)])) rfl rfl (hb hby own_d14_21)) ?_
  show own_Rch p e below _ (T103.setTop (mkF m 22 #[.val (.ref a1), .val (.ref a2), .val (.int (Int32.ofNat n)), .val (.int (0 : Int32))] [(.int (Int32.ofNat x1.length)), (.int ((Int32.ofNat n) <<< ((0 : Int32) &&& 31))), (.ref a2), (.int (0 : Int32)), (.ref b1)]))
  rw [own_shl0]
  show own_Rch p e below _ (T103.setTop (mkF m 22 #[.val (.ref a1), .val (.ref a2), .val (.int (Int32.ofNat n)), .val (.int (0 : Int32))] [(.int (Int32.ofNat x1.length)), (.int (Int32.ofNat n)), (.ref a2), (.int (0 : Int32)), (.ref b1)]))
  obtain ⟨T104, h104, L104, X104, e104, N104, K104, V104, st104⟩ := cpA X103 hx hZ hown (hw _ (List.mem_of_getElem? (i := 96) rfl)) (hw _ (List.mem_of_getElem? (i := 99) rfl)) (hw _ (List.mem_of_getElem? (i := 97) rfl)) (hw _ (List.mem_of_getElem? (i := 98) rfl)) e103 V1 V2 (Or.inl ⟨rfl, rfl⟩) (by decide) (own_nat (by omega)).2.2.1 (own_nat (by omega)).2.2.1 (by rw [(own_nat (by omega)).2.1]; exact Nat.le_of_eq (Nat.zero_add _)) (by rw [(own_nat (by omega)).2.1, (own_nat (by omega)).2.1, (own_nat (by omega)).2.1]; exact hn) (us := x1.map Value.int) (by rw [(own_nat (by omega)).2.1]; exact own_us x1) (by rw [(own_nat (by omega)).2.1, (own_nat (by omega)).2.1, List.length_map]; exact hn) N101 g2 (g := (mkF m 22 #[.val (.ref a1), .val (.ref a2), .val (.int (Int32.ofNat n)), .val (.int (0 : Int32))] [(.int (Int32.ofNat x1.length)), (.int (Int32.ofNat n)), (.ref a2), (.int (0 : Int32)), (.ref b1)])) rfl (by rw [hml]; rfl) (rest := []) rfl (hb hby own_d14_22) (by decide) (W := 0) (by show 2 * 0 + _ ≤ _; exact Nat.le_of_eq rfl) (by decide)
  refine own_go st104 ?_
  show own_Rch p e below _ (T104.setTop (mkF m 25 #[.val (.ref a1), .val (.ref a2), .val (.int (Int32.ofNat n)), .val (.int (0 : Int32))] []))
  refine own_go (S' := (T104.setTop (mkF m 43 #[.val (.ref a1), .val (.ref a2), .val (.int (Int32.ofNat n)), .val (.int (0 : Int32))] []))) (fun t_ k_ => ?_) ?_
  · refine XS.goto X104.here hx rfl (pc0 := 25) (pc' := 43) rfl (hb hby own_d14_25) (by decide) (by decide) ?_
    show Steps p.tables e below (T104.setTop (mkF m 43 #[.val (.ref a1), .val (.ref a2), .val (.int (Int32.ofNat n)), .val (.int (0 : Int32))] [])) _
    exact k_
  have eK : T101.heap = h0 := k101
  refine own_ret0 X104 hx Bd.returns Bd.notSynchronized (hb hby own_d14_43) (by decide) (by decide) ?_
  try rw [e104]
  exact ⟨rfl, N104, eK ▸ K104, own_cat hn hw5 V104⟩
theorem own_pd3 : parseMethodDescriptor "(Ljava/lang/String;)V" = some ⟨[(.object "java/lang/String")], none⟩ := by decide +kernel
theorem own_pd4 : parseMethodDescriptor "([BIB)V" = some ⟨[(.array .byte), .int, .byte], none⟩ := by decide +kernel
theorem own_d12_0 : decode jdk_68_method_73_code 0 = .ok (.aload_n 0, 1) := by decide +kernel
theorem own_d12_1 : decode jdk_68_method_73_code 1 = .ok (.aload_n 2, 1) := by decide +kernel
theorem own_d12_2 : decode jdk_68_method_73_code 2 = .ok (.invokevirtual 397, 3) := by decide +kernel
theorem own_d12_5 : decode jdk_68_method_73_code 5 = .ok (.aload_n 2, 1) := by decide +kernel
theorem own_d12_6 : decode jdk_68_method_73_code 6 = .ok (.aload_n 0, 1) := by decide +kernel
theorem own_d12_7 : decode jdk_68_method_73_code 7 = .ok (.getfield 15, 3) := by decide +kernel
theorem own_d12_10 : decode jdk_68_method_73_code 10 = .ok (.iload_n 1, 1) := by decide +kernel
theorem own_d12_11 : decode jdk_68_method_73_code 11 = .ok (.aload_n 0, 1) := by decide +kernel
theorem own_d12_12 : decode jdk_68_method_73_code 12 = .ok (.getfield 22, 3) := by decide +kernel
theorem own_d12_15 : decode jdk_68_method_73_code 15 = .ok (.invokevirtual 399, 3) := by decide +kernel
theorem own_d12_18 : decode jdk_68_method_73_code 18 = .ok (.return_, 1) := by decide +kernel
theorem own_c12_ef (m : MethodId) (x0 : Addr) (x1 : Int32) (x2 : Addr) : entryFrame m #[(.ref x0), (.int x1), (.ref x2)] 3 = mkF m 0 #[.val (.ref x0), .val (.int x1), .val (.ref x2)] [] := by first | (simp [entryFrame, mkF, argsToLocals, Value.category]; done) | rfl
set_option maxRecDepth 65536 in
set_option maxHeartbeats 40000000 in
theorem own_c12 (l : Launch) (Z : State) (a0 : Array Value) (hw : ∀ d ∈ tables_1, d.before a0 Z = true) (wsC : List Jvm.Cond) (a2 a1 b1 vb : Addr) (k1 kb : ClassId) (x1 ws : List Int32) (n : Nat) (hn : n + x1.length ≤ ws.length) (hw5 : ws.length ≤ 500) (cz : Int32) (CS : Sta Z Z.heap "java/lang/String" "COMPACT_STRINGS" "Z" (.int cz)) (hcz : ¬ cz = (0 : Int32)) (h0 : Heap) (n0 : Nat) (O : Old Z n0 h0) (E1 : Exa Z h0 a1 "java/lang/String") (C1 : Fld Z h0 a1 "java/lang/String" "coder" "B" (.int 0)) (F1 : Fld Z h0 a1 "java/lang/String" "value" "[B" (.ref b1)) (V1 : Arv Z h0 b1 k1 .byte (Int32.ofNat x1.length) (x1.map Value.int) (.int 0)) (B1 : Fld Z h0 a2 "java/lang/AbstractStringBuilder" "value" "[B" (.ref vb)) (B2 : Fld Z h0 a2 "java/lang/AbstractStringBuilder" "coder" "B" (.int 0)) (EB : Exa Z h0 a2 "java/lang/StringBuilder") (VB : Arv Z h0 vb kb .byte (Int32.ofNat ws.length) (ws.map Value.int) (.int 0)) (gv : n0 ≤ vb) :
    own_Ctr l Z (⟨"java/lang/AbstractStringBuilder", "putStringAt", "(ILjava/lang/String;)V"⟩ : MethodName) jdk_68_method_73_code 3 none wsC ({ frames := 2, cells := 0, slots := 0, locals := 50 } : Room) h0 #[(.ref a2), (.int (Int32.ofNat n)), (.ref a1)] (fun v h L => v = none ∧ Fr n0 L ∧ Keep h0 h [vb] ∧ Arv Z h vb kb .byte (Int32.ofNat (ws.take n ++ x1 ++ ws.drop (n + x1.length)).length) ((ws.take n ++ x1 ++ ws.drop (n + x1.length)).map Value.int) (.int 0)) := by
  refine own_ctr (plainFor_of_name own_pn2) ?_
  intro p e s m below meth c s₁ Bd hml0 hx hby hZ hown0 X0 e0
  have hml : c.maxLocals = 3 := hml0
  have hown : s.vm.findClass "java/lang/AbstractStringBuilder" = some m.cls := hown0
  have hnm := (name_of_methodNamed Bd.named Bd.method).1
  have N0 := Fr.nil n0
  refine own_cast (own_c12_ef m a2 (Int32.ofNat n) a1) ?_
  refine own_go (S' := (s₁.setTop (mkF m 2 #[.val (.ref a2), .val (.int (Int32.ofNat n)), .val (.ref a1)] [(.ref a1), (.ref a2)]))) (fun t_ k_ => ?_) ?_
  · refine XS.aloadN X0.here hx rfl (hb hby own_d12_0) rfl rfl ?_
    show Steps p.tables e below (s₁.setTop (mkF m 1 #[.val (.ref a2), .val (.int (Int32.ofNat n)), .val (.ref a1)] [(.ref a2)])) _
    refine XS.aloadN X0.here hx rfl (hb hby own_d12_1) rfl rfl ?_
    show Steps p.tables e below (s₁.setTop (mkF m 2 #[.val (.ref a2), .val (.int (Int32.ofNat n)), .val (.ref a1)] [(.ref a1), (.ref a2)])) _
    exact k_
  obtain ⟨_, T101, L101, X101, ⟨rfl, N101q, k101⟩, st101⟩ := own_callP X0 hx hZ (y := (⟨"java/lang/AbstractStringBuilder", "inflateIfNeededFor", "(Ljava/lang/String;)V"⟩ : MethodName)) hown (hw _ (List.mem_of_getElem? (i := 85) rfl)) (hw _ (List.mem_of_getElem? (i := 86) rfl)) (hw _ (List.mem_of_getElem? (i := 88) rfl)) (hw _ (List.mem_of_getElem? (i := 87) rfl)) (hw _ (List.mem_of_getElem? (i := 43) rfl)) (hw _ (List.mem_of_getElem? (i := 89) rfl)) (by decide) (own_c13 l Z a0 hw [] a2 a1 cz CS hcz h0 n0 O B2 E1 C1) e0 EB (W := 0) (by decide) (by decide) (g := (mkF m 2 #[.val (.ref a2), .val (.int (Int32.ofNat n)), .val (.ref a1)] [(.ref a1), (.ref a2)])) rfl (by rw [hml]; rfl) (argsL := [(.ref a1)]) (rest := []) (lenOf own_pd3 rfl) rfl rfl rfl (hb hby own_d12_2) (by decide) (by decide)
  have N101 := Fr.app N0 N101q
  refine own_go st101 ?_
  show own_Rch p e below _ (T101.setTop (mkF m 5 #[.val (.ref a2), .val (.int (Int32.ofNat n)), .val (.ref a1)] []))
  have O1 := O
  rw [← k101] at B1 B2 E1 C1 F1 V1 VB O1
  refine own_go (S' := (T101.setTop (mkF m 7 #[.val (.ref a2), .val (.int (Int32.ofNat n)), .val (.ref a1)] [(.ref a2), (.ref a1)]))) (fun t_ k_ => ?_) ?_
  · refine XS.aloadN X101.here hx rfl (hb hby own_d12_5) rfl rfl ?_
    show Steps p.tables e below (T101.setTop (mkF m 6 #[.val (.ref a2), .val (.int (Int32.ofNat n)), .val (.ref a1)] [(.ref a1)])) _
    refine XS.aloadN X101.here hx rfl (hb hby own_d12_6) rfl rfl ?_
    show Steps p.tables e below (T101.setTop (mkF m 7 #[.val (.ref a2), .val (.int (Int32.ofNat n)), .val (.ref a1)] [(.ref a2), (.ref a1)])) _
    exact k_
  obtain ⟨T102, X102, e102, st102⟩ := getF X101 hx hZ hown (host := "") (Or.inl (hw _ (List.mem_of_getElem? (i := 49) rfl))) Via.refl rfl B1 (g := (mkF m 7 #[.val (.ref a2), .val (.int (Int32.ofNat n)), .val (.ref a1)] [(.ref a2), (.ref a1)])) rfl rfl (hb hby own_d12_7)
  refine own_go st102 ?_
  show own_Rch p e below _ (T102.setTop (mkF m 10 #[.val (.ref a2), .val (.int (Int32.ofNat n)), .val (.ref a1)] [(.ref vb), (.ref a1)]))
  refine own_go (S' := (T102.setTop (mkF m 12 #[.val (.ref a2), .val (.int (Int32.ofNat n)), .val (.ref a1)] [(.ref a2), (.int (Int32.ofNat n)), (.ref vb), (.ref a1)]))) (fun t_ k_ => ?_) ?_
  · refine XS.iloadN X102.here hx rfl (hb hby own_d12_10) rfl ?_
    show Steps p.tables e below (T102.setTop (mkF m 11 #[.val (.ref a2), .val (.int (Int32.ofNat n)), .val (.ref a1)] [(.int (Int32.ofNat n)), (.ref vb), (.ref a1)])) _
    refine XS.aloadN X102.here hx rfl (hb hby own_d12_11) rfl rfl ?_
    show Steps p.tables e below (T102.setTop (mkF m 12 #[.val (.ref a2), .val (.int (Int32.ofNat n)), .val (.ref a1)] [(.ref a2), (.int (Int32.ofNat n)), (.ref vb), (.ref a1)])) _
    exact k_
  obtain ⟨T103, X103, e103, st103⟩ := getF X102 hx hZ hown (host := "") (Or.inl (hw _ (List.mem_of_getElem? (i := 51) rfl))) Via.refl e102 B2 (g := (mkF m 12 #[.val (.ref a2), .val (.int (Int32.ofNat n)), .val (.ref a1)] [(.ref a2), (.int (Int32.ofNat n)), (.ref vb), (.ref a1)])) rfl rfl (hb hby own_d12_12)
  refine own_go st103 ?_
  show own_Rch p e below _ (T103.setTop (mkF m 15 #[.val (.ref a2), .val (.int (Int32.ofNat n)), .val (.ref a1)] [(.int (0 : Int32)), (.int (Int32.ofNat n)), (.ref vb), (.ref a1)]))
  obtain ⟨_, T104, L104, X104, ⟨rfl, N104q, K104, V104⟩, st104⟩ := own_callV X103 hx hZ (y := (⟨"java/lang/String", "getBytes", "([BIB)V"⟩ : MethodName)) (z := (⟨"java/lang/String", "getBytes", "([BIB)V"⟩ : MethodName)) (C := "java/lang/String") hown (hw _ (List.mem_of_getElem? (i := 91) rfl)) (hw _ (List.mem_of_getElem? (i := 92) rfl)) (notFace_of_selects (args := #[]) (mvT hZ (hw _ (List.mem_of_getElem? (i := 94) rfl)))) (hw _ (List.mem_of_getElem? (i := 94) rfl)) (hw _ (List.mem_of_getElem? (i := 93) rfl)) (hw _ (List.mem_of_getElem? (i := 4) rfl)) (hw _ (List.mem_of_getElem? (i := 95) rfl)) (by decide) (own_c14 l Z a0 hw [] a1 b1 vb k1 kb x1 ws n hn hw5 cz CS hcz T101.heap n0 O1 E1 C1 F1 V1 VB gv) e103 E1 (W := 0) (by decide) (by decide) (g := (mkF m 15 #[.val (.ref a2), .val (.int (Int32.ofNat n)), .val (.ref a1)] [(.int (0 : Int32)), (.int (Int32.ofNat n)), (.ref vb), (.ref a1)])) rfl (by rw [hml]; rfl) (argsL := [(.ref vb), (.int (Int32.ofNat n)), (.int (0 : Int32))]) (rest := []) (lenOf own_pd4 rfl) rfl rfl rfl (hb hby own_d12_15) (by decide) (by decide)
  have N104 := Fr.app N101 N104q
  refine own_go st104 ?_
  show own_Rch p e below _ (T104.setTop (mkF m 18 #[.val (.ref a2), .val (.int (Int32.ofNat n)), .val (.ref a1)] []))
  refine own_ret0 X104 hx Bd.returns Bd.notSynchronized (hb hby own_d12_18) (by decide) (by decide) ?_
  exact ⟨rfl, N104, k101 ▸ K104, V104⟩
theorem own_pd5 : parseMethodDescriptor "()I" = some ⟨[], some .int⟩ := by decide +kernel
theorem own_pd6 : parseMethodDescriptor "(ILjava/lang/String;)V" = some ⟨[.int, (.object "java/lang/String")], none⟩ := by decide +kernel
theorem own_d8_0 : decode jdk_68_method_22_code 0 = .ok (.aload_n 1, 1) := by decide +kernel
theorem own_d8_1 : decode jdk_68_method_22_code 1 = .ok (.ifnonnull 8, 3) := by decide +kernel
theorem own_d8_9 : decode jdk_68_method_22_code 9 = .ok (.aload_n 1, 1) := by decide +kernel
theorem own_d8_10 : decode jdk_68_method_22_code 10 = .ok (.invokevirtual 32, 3) := by decide +kernel
theorem own_d8_13 : decode jdk_68_method_22_code 13 = .ok (.istore_n 2, 1) := by decide +kernel
theorem own_d8_14 : decode jdk_68_method_22_code 14 = .ok (.aload_n 0, 1) := by decide +kernel
theorem own_d8_15 : decode jdk_68_method_22_code 15 = .ok (.aload_n 0, 1) := by decide +kernel
theorem own_d8_16 : decode jdk_68_method_22_code 16 = .ok (.getfield 79, 3) := by decide +kernel
theorem own_d8_19 : decode jdk_68_method_22_code 19 = .ok (.iload_n 2, 1) := by decide +kernel
theorem own_d8_20 : decode jdk_68_method_22_code 20 = .ok (.iadd, 1) := by decide +kernel
theorem own_d8_21 : decode jdk_68_method_22_code 21 = .ok (.invokevirtual 100, 3) := by decide +kernel
theorem own_d8_24 : decode jdk_68_method_22_code 24 = .ok (.aload_n 0, 1) := by decide +kernel
theorem own_d8_25 : decode jdk_68_method_22_code 25 = .ok (.aload_n 0, 1) := by decide +kernel
theorem own_d8_26 : decode jdk_68_method_22_code 26 = .ok (.getfield 79, 3) := by decide +kernel
theorem own_d8_29 : decode jdk_68_method_22_code 29 = .ok (.aload_n 1, 1) := by decide +kernel
theorem own_d8_30 : decode jdk_68_method_22_code 30 = .ok (.invokevirtual 208, 3) := by decide +kernel
theorem own_d8_33 : decode jdk_68_method_22_code 33 = .ok (.aload_n 0, 1) := by decide +kernel
theorem own_d8_34 : decode jdk_68_method_22_code 34 = .ok (.dup, 1) := by decide +kernel
theorem own_d8_35 : decode jdk_68_method_22_code 35 = .ok (.getfield 79, 3) := by decide +kernel
theorem own_d8_38 : decode jdk_68_method_22_code 38 = .ok (.iload_n 2, 1) := by decide +kernel
theorem own_d8_39 : decode jdk_68_method_22_code 39 = .ok (.iadd, 1) := by decide +kernel
theorem own_d8_40 : decode jdk_68_method_22_code 40 = .ok (.putfield 79, 3) := by decide +kernel
theorem own_d8_43 : decode jdk_68_method_22_code 43 = .ok (.aload_n 0, 1) := by decide +kernel
theorem own_d8_44 : decode jdk_68_method_22_code 44 = .ok (.areturn, 1) := by decide +kernel
theorem own_c8_ef (m : MethodId) (x0 : Addr) (x1 : Addr) : entryFrame m #[(.ref x0), (.ref x1)] 3 = mkF m 0 #[.val (.ref x0), .val (.ref x1), .unset] [] := by first | (simp [entryFrame, mkF, argsToLocals, Value.category]; done) | rfl
set_option maxRecDepth 65536 in
set_option maxHeartbeats 40000000 in
theorem own_c8 (l : Launch) (Z : State) (a0 : Array Value) (hw : ∀ d ∈ tables_1, d.before a0 Z = true) (wsC : List Jvm.Cond) (a2 a1 b1 vb : Addr) (k1 kb : ClassId) (x1 ws : List Int32) (n : Nat) (hn : n + x1.length ≤ ws.length) (hw5 : ws.length ≤ 500) (cz : Int32) (CS : Sta Z Z.heap "java/lang/String" "COMPACT_STRINGS" "Z" (.int cz)) (hcz : ¬ cz = (0 : Int32)) (h0 : Heap) (n0 : Nat) (O : Old Z n0 h0) (E1 : Exa Z h0 a1 "java/lang/String") (C1 : Fld Z h0 a1 "java/lang/String" "coder" "B" (.int 0)) (F1 : Fld Z h0 a1 "java/lang/String" "value" "[B" (.ref b1)) (V1 : Arv Z h0 b1 k1 .byte (Int32.ofNat x1.length) (x1.map Value.int) (.int 0)) (B1 : Fld Z h0 a2 "java/lang/AbstractStringBuilder" "value" "[B" (.ref vb)) (B2 : Fld Z h0 a2 "java/lang/AbstractStringBuilder" "coder" "B" (.int 0)) (B3 : Fld Z h0 a2 "java/lang/AbstractStringBuilder" "count" "I" (.int (Int32.ofNat n))) (EB : Exa Z h0 a2 "java/lang/StringBuilder") (VB : Arv Z h0 vb kb .byte (Int32.ofNat ws.length) (ws.map Value.int) (.int 0)) (ga : n0 ≤ a2) (gv : n0 ≤ vb) (nv : a2 ≠ vb) :
    own_Ctr l Z (⟨"java/lang/AbstractStringBuilder", "append", "(Ljava/lang/String;)Ljava/lang/AbstractStringBuilder;"⟩ : MethodName) jdk_68_method_22_code 3 (some (.object "java/lang/AbstractStringBuilder")) wsC ({ frames := 3, cells := 0, slots := 0, locals := 70 } : Room) h0 #[(.ref a2), (.ref a1)] (fun v h L => v = some (.ref a2) ∧ Fr n0 L ∧ Keep h0 h [a2, vb] ∧ Exa Z h a2 "java/lang/StringBuilder" ∧ Fld Z h a2 "java/lang/AbstractStringBuilder" "value" "[B" (.ref vb) ∧ Fld Z h a2 "java/lang/AbstractStringBuilder" "coder" "B" (.int 0) ∧ Fld Z h a2 "java/lang/AbstractStringBuilder" "count" "I" (.int (Int32.ofNat (n + x1.length))) ∧ Arv Z h vb kb .byte (Int32.ofNat (ws.take n ++ x1 ++ ws.drop (n + x1.length)).length) ((ws.take n ++ x1 ++ ws.drop (n + x1.length)).map Value.int) (.int 0)) := by
  refine own_ctr (plainFor_of_name own_pn2) ?_
  intro p e s m below meth c s₁ Bd hml0 hx hby hZ hown0 X0 e0
  have hml : c.maxLocals = 3 := hml0
  have hown : s.vm.findClass "java/lang/AbstractStringBuilder" = some m.cls := hown0
  have hnm := (name_of_methodNamed Bd.named Bd.method).1
  have N0 := Fr.nil n0
  refine own_cast (own_c8_ef m a2 a1) ?_
  refine own_go (S' := (s₁.setTop (mkF m 1 #[.val (.ref a2), .val (.ref a1), .unset] [(.ref a1)]))) (fun t_ k_ => ?_) ?_
  · refine XS.aloadN X0.here hx rfl (hb hby own_d8_0) rfl rfl ?_
    show Steps p.tables e below (s₁.setTop (mkF m 1 #[.val (.ref a2), .val (.ref a1), .unset] [(.ref a1)])) _
    exact k_
  refine own_go (S' := (s₁.setTop (mkF m 10 #[.val (.ref a2), .val (.ref a1), .unset] [(.ref a1)]))) (fun t_ k_ => ?_) ?_
  · refine XS.ifnonnullYes X0.here hx rfl (pc0 := 1) (pc' := 9) rfl (hb hby own_d8_1) rfl (by decide) (by decide) ?_
    show Steps p.tables e below (s₁.setTop (mkF m 9 #[.val (.ref a2), .val (.ref a1), .unset] [])) _
    refine XS.aloadN X0.here hx rfl (hb hby own_d8_9) rfl rfl ?_
    show Steps p.tables e below (s₁.setTop (mkF m 10 #[.val (.ref a2), .val (.ref a1), .unset] [(.ref a1)])) _
    exact k_
  obtain ⟨_, T101, L101, X101, ⟨rfl, N101q, k101⟩, st101⟩ := own_callV X0 hx hZ (y := (⟨"java/lang/String", "length", "()I"⟩ : MethodName)) (z := (⟨"java/lang/String", "length", "()I"⟩ : MethodName)) (C := "java/lang/String") hown (hw _ (List.mem_of_getElem? (i := 63) rfl)) (hw _ (List.mem_of_getElem? (i := 64) rfl)) (notFace_of_selects (args := #[]) (mvT hZ (hw _ (List.mem_of_getElem? (i := 66) rfl)))) (hw _ (List.mem_of_getElem? (i := 66) rfl)) (hw _ (List.mem_of_getElem? (i := 65) rfl)) (hw _ (List.mem_of_getElem? (i := 4) rfl)) (hw _ (List.mem_of_getElem? (i := 67) rfl)) (by decide) (own_c9 l Z a0 hw [] a1 b1 k1 x1 cz CS hcz h0 n0 O E1 C1 F1 V1) e0 E1 (W := 0) (by decide) (by decide) (g := (mkF m 10 #[.val (.ref a2), .val (.ref a1), .unset] [(.ref a1)])) rfl (by rw [hml]; rfl) (argsL := []) (rest := []) (lenOf own_pd5 rfl) rfl rfl rfl (hb hby own_d8_10) (by decide) (by decide)
  have N101 := Fr.app N0 N101q
  refine own_go st101 ?_
  show own_Rch p e below _ (T101.setTop (mkF m 13 #[.val (.ref a2), .val (.ref a1), .unset] [(.int (Int32.ofNat x1.length))]))
  have O1 := O
  rw [← k101] at O1 E1 C1 F1 V1 B1 B2 B3 EB VB
  refine own_go (S' := (T101.setTop (mkF m 16 #[.val (.ref a2), .val (.ref a1), .val (.int (Int32.ofNat x1.length))] [(.ref a2), (.ref a2)]))) (fun t_ k_ => ?_) ?_
  · refine XS.istoreN X101.here hx rfl (hb hby own_d8_13) rfl (l' := #[.val (.ref a2), .val (.ref a1), .val (.int (Int32.ofNat x1.length))]) rfl ?_
    show Steps p.tables e below (T101.setTop (mkF m 14 #[.val (.ref a2), .val (.ref a1), .val (.int (Int32.ofNat x1.length))] [])) _
    refine XS.aloadN X101.here hx rfl (hb hby own_d8_14) rfl rfl ?_
    show Steps p.tables e below (T101.setTop (mkF m 15 #[.val (.ref a2), .val (.ref a1), .val (.int (Int32.ofNat x1.length))] [(.ref a2)])) _
    refine XS.aloadN X101.here hx rfl (hb hby own_d8_15) rfl rfl ?_
    show Steps p.tables e below (T101.setTop (mkF m 16 #[.val (.ref a2), .val (.ref a1), .val (.int (Int32.ofNat x1.length))] [(.ref a2), (.ref a2)])) _
    exact k_
  obtain ⟨T102, X102, e102, st102⟩ := getF X101 hx hZ hown (host := "") (Or.inl (hw _ (List.mem_of_getElem? (i := 73) rfl))) Via.refl rfl B3 (g := (mkF m 16 #[.val (.ref a2), .val (.ref a1), .val (.int (Int32.ofNat x1.length))] [(.ref a2), (.ref a2)])) rfl rfl (hb hby own_d8_16)
  refine own_go st102 ?_
  show own_Rch p e below _ (T102.setTop (mkF m 19 #[.val (.ref a2), .val (.ref a1), .val (.int (Int32.ofNat x1.length))] [(.int (Int32.ofNat n)), (.ref a2)]))
  refine own_go (S' := (T102.setTop (mkF m 21 #[.val (.ref a2), .val (.ref a1), .val (.int (Int32.ofNat x1.length))] [(.int ((Int32.ofNat n) + (Int32.ofNat x1.length))), (.ref a2)]))) (fun t_ k_ => ?_) ?_
  · refine XS.iloadN X102.here hx rfl (hb hby own_d8_19) rfl ?_
    show Steps p.tables e below (T102.setTop (mkF m 20 #[.val (.ref a2), .val (.ref a1), .val (.int (Int32.ofNat x1.length))] [(.int (Int32.ofNat x1.length)), (.int (Int32.ofNat n)), (.ref a2)])) _
    refine XS.iadd X102.here hx rfl (hb hby own_d8_20) rfl ?_
    show Steps p.tables e below (T102.setTop (mkF m 21 #[.val (.ref a2), .val (.ref a1), .val (.int (Int32.ofNat x1.length))] [(.int ((Int32.ofNat n) + (Int32.ofNat x1.length))), (.ref a2)])) _
    exact k_
  obtain ⟨_, T103, L103, X103, ⟨rfl, N103q, k103⟩, st103⟩ := own_callP X102 hx hZ (y := (⟨"java/lang/AbstractStringBuilder", "ensureCapacityInternal", "(I)V"⟩ : MethodName)) hown (hw _ (List.mem_of_getElem? (i := 75) rfl)) (hw _ (List.mem_of_getElem? (i := 76) rfl)) (hw _ (List.mem_of_getElem? (i := 78) rfl)) (hw _ (List.mem_of_getElem? (i := 77) rfl)) (hw _ (List.mem_of_getElem? (i := 43) rfl)) (hw _ (List.mem_of_getElem? (i := 79) rfl)) (by decide) (own_c11 l Z a0 hw [] a2 vb kb ws (Int32.ofNat n + Int32.ofNat x1.length) (n + x1.length) (own_addN (by omega) (by omega)) hn hw5 T101.heap n0 O1 B1 B2 VB) e102 EB (W := 0) (by decide) (by decide) (g := (mkF m 21 #[.val (.ref a2), .val (.ref a1), .val (.int (Int32.ofNat x1.length))] [(.int ((Int32.ofNat n) + (Int32.ofNat x1.length))), (.ref a2)])) rfl (by rw [hml]; rfl) (argsL := [(.int ((Int32.ofNat n) + (Int32.ofNat x1.length)))]) (rest := []) (lenOf own_pd2 rfl) rfl rfl rfl (hb hby own_d8_21) (by decide) (by decide)
  have N103 := Fr.app N101 N103q
  refine own_go st103 ?_
  show own_Rch p e below _ (T103.setTop (mkF m 24 #[.val (.ref a2), .val (.ref a1), .val (.int (Int32.ofNat x1.length))] []))
  rw [← k103] at O1 E1 C1 F1 V1 B1 B2 B3 EB VB
  refine own_go (S' := (T103.setTop (mkF m 26 #[.val (.ref a2), .val (.ref a1), .val (.int (Int32.ofNat x1.length))] [(.ref a2), (.ref a2)]))) (fun t_ k_ => ?_) ?_
  · refine XS.aloadN X103.here hx rfl (hb hby own_d8_24) rfl rfl ?_
    show Steps p.tables e below (T103.setTop (mkF m 25 #[.val (.ref a2), .val (.ref a1), .val (.int (Int32.ofNat x1.length))] [(.ref a2)])) _
    refine XS.aloadN X103.here hx rfl (hb hby own_d8_25) rfl rfl ?_
    show Steps p.tables e below (T103.setTop (mkF m 26 #[.val (.ref a2), .val (.ref a1), .val (.int (Int32.ofNat x1.length))] [(.ref a2), (.ref a2)])) _
    exact k_
  obtain ⟨T104, X104, e104, st104⟩ := getF X103 hx hZ hown (host := "") (Or.inl (hw _ (List.mem_of_getElem? (i := 73) rfl))) Via.refl rfl B3 (g := (mkF m 26 #[.val (.ref a2), .val (.ref a1), .val (.int (Int32.ofNat x1.length))] [(.ref a2), (.ref a2)])) rfl rfl (hb hby own_d8_26)
  refine own_go st104 ?_
  show own_Rch p e below _ (T104.setTop (mkF m 29 #[.val (.ref a2), .val (.ref a1), .val (.int (Int32.ofNat x1.length))] [(.int (Int32.ofNat n)), (.ref a2)]))
  refine own_go (S' := (T104.setTop (mkF m 30 #[.val (.ref a2), .val (.ref a1), .val (.int (Int32.ofNat x1.length))] [(.ref a1), (.int (Int32.ofNat n)), (.ref a2)]))) (fun t_ k_ => ?_) ?_
  · refine XS.aloadN X104.here hx rfl (hb hby own_d8_29) rfl rfl ?_
    show Steps p.tables e below (T104.setTop (mkF m 30 #[.val (.ref a2), .val (.ref a1), .val (.int (Int32.ofNat x1.length))] [(.ref a1), (.int (Int32.ofNat n)), (.ref a2)])) _
    exact k_
  obtain ⟨_, T105, L105, X105, ⟨rfl, N105q, K105, V105⟩, st105⟩ := own_callP X104 hx hZ (y := (⟨"java/lang/AbstractStringBuilder", "putStringAt", "(ILjava/lang/String;)V"⟩ : MethodName)) hown (hw _ (List.mem_of_getElem? (i := 80) rfl)) (hw _ (List.mem_of_getElem? (i := 81) rfl)) (hw _ (List.mem_of_getElem? (i := 83) rfl)) (hw _ (List.mem_of_getElem? (i := 82) rfl)) (hw _ (List.mem_of_getElem? (i := 43) rfl)) (hw _ (List.mem_of_getElem? (i := 84) rfl)) (by decide) (own_c12 l Z a0 hw [] a2 a1 b1 vb k1 kb x1 ws n hn hw5 cz CS hcz T103.heap n0 O1 E1 C1 F1 V1 B1 B2 EB VB gv) e104 EB (W := 0) (by decide) (by decide) (g := (mkF m 30 #[.val (.ref a2), .val (.ref a1), .val (.int (Int32.ofNat x1.length))] [(.ref a1), (.int (Int32.ofNat n)), (.ref a2)])) rfl (by rw [hml]; rfl) (argsL := [(.int (Int32.ofNat n)), (.ref a1)]) (rest := []) (lenOf own_pd6 rfl) rfl rfl rfl (hb hby own_d8_30) (by decide) (by decide)
  have N105 := Fr.app N103 N105q
  refine own_go st105 ?_
  show own_Rch p e below _ (T105.setTop (mkF m 33 #[.val (.ref a2), .val (.ref a1), .val (.int (Int32.ofNat x1.length))] []))
  refine own_go (S' := (T105.setTop (mkF m 35 #[.val (.ref a2), .val (.ref a1), .val (.int (Int32.ofNat x1.length))] [(.ref a2), (.ref a2)]))) (fun t_ k_ => ?_) ?_
  · refine XS.aloadN X105.here hx rfl (hb hby own_d8_33) rfl rfl ?_
    show Steps p.tables e below (T105.setTop (mkF m 34 #[.val (.ref a2), .val (.ref a1), .val (.int (Int32.ofNat x1.length))] [(.ref a2)])) _
    refine XS.dup X105.here hx rfl (hb hby own_d8_34) rfl rfl ?_
    show Steps p.tables e below (T105.setTop (mkF m 35 #[.val (.ref a2), .val (.ref a1), .val (.int (Int32.ofNat x1.length))] [(.ref a2), (.ref a2)])) _
    exact k_
  have D1 := B1.keep K105 (ninS nv nin0)
  have D2 := B2.keep K105 (ninS nv nin0)
  have D3 := B3.keep K105 (ninS nv nin0)
  obtain ⟨T106, X106, e106, st106⟩ := getF X105 hx hZ hown (host := "") (Or.inl (hw _ (List.mem_of_getElem? (i := 73) rfl))) Via.refl rfl D3 (g := (mkF m 35 #[.val (.ref a2), .val (.ref a1), .val (.int (Int32.ofNat x1.length))] [(.ref a2), (.ref a2)])) rfl rfl (hb hby own_d8_35)
  refine own_go st106 ?_
  show own_Rch p e below _ (T106.setTop (mkF m 38 #[.val (.ref a2), .val (.ref a1), .val (.int (Int32.ofNat x1.length))] [(.int (Int32.ofNat n)), (.ref a2)]))
  refine own_go (S' := (T106.setTop (mkF m 40 #[.val (.ref a2), .val (.ref a1), .val (.int (Int32.ofNat x1.length))] [(.int ((Int32.ofNat n) + (Int32.ofNat x1.length))), (.ref a2)]))) (fun t_ k_ => ?_) ?_
  · refine XS.iloadN X106.here hx rfl (hb hby own_d8_38) rfl ?_
    show Steps p.tables e below (T106.setTop (mkF m 39 #[.val (.ref a2), .val (.ref a1), .val (.int (Int32.ofNat x1.length))] [(.int (Int32.ofNat x1.length)), (.int (Int32.ofNat n)), (.ref a2)])) _
    refine XS.iadd X106.here hx rfl (hb hby own_d8_39) rfl ?_
    show Steps p.tables e below (T106.setTop (mkF m 40 #[.val (.ref a2), .val (.ref a1), .val (.int (Int32.ofNat x1.length))] [(.int ((Int32.ofNat n) + (Int32.ofNat x1.length))), (.ref a2)])) _
    exact k_
  obtain ⟨T107, h107, X107, e107, W107, st107⟩ := putF X106 hx hZ hown (host := "") (Or.inl (hw _ (List.mem_of_getElem? (i := 73) rfl))) Via.refl e106 D3 (EB.keep K105) (Or.inl (hw _ (List.mem_of_getElem? (i := 74) rfl))) (hw _ (List.mem_of_getElem? (i := 34) rfl)) (ty := .int) (by decide) rfl rfl (g := (mkF m 40 #[.val (.ref a2), .val (.ref a1), .val (.int (Int32.ofNat x1.length))] [(.int ((Int32.ofNat n) + (Int32.ofNat x1.length))), (.ref a2)])) rfl rfl (hb hby own_d8_40)
  refine own_go st107 ?_
  have N107 := Fr.snoc X107 N105 ga
  show own_Rch p e below _ (T107.setTop (mkF m 43 #[.val (.ref a2), .val (.ref a1), .val (.int (Int32.ofNat x1.length))] []))
  have G107_0 := D1.other W107 (Or.inr (slot_ne (Or.inl (hw _ (List.mem_of_getElem? (i := 50) rfl))) (Or.inl (hw _ (List.mem_of_getElem? (i := 74) rfl))) (by decide) (t := (.array .byte)) (t' := .int) (by decide) (by decide)))
  have G107_1 := D2.other W107 (Or.inr (slot_ne (Or.inl (hw _ (List.mem_of_getElem? (i := 52) rfl))) (Or.inl (hw _ (List.mem_of_getElem? (i := 74) rfl))) (by decide) (t := .byte) (t' := .int) (by decide) (by decide)))
  have G107_2 := D3.same W107
  have Ex107 := (EB.keep K105).wr W107
  refine own_go (S' := (T107.setTop (mkF m 44 #[.val (.ref a2), .val (.ref a1), .val (.int (Int32.ofNat x1.length))] [(.ref a2)]))) (fun t_ k_ => ?_) ?_
  · refine XS.aloadN X107.here hx rfl (hb hby own_d8_43) rfl rfl ?_
    show Steps p.tables e below (T107.setTop (mkF m 44 #[.val (.ref a2), .val (.ref a1), .val (.int (Int32.ofNat x1.length))] [(.ref a2)])) _
    exact k_
  have kk : T103.heap = h0 := by rw [k103, k101]
  have KK : Keep h0 T105.heap [a2, vb] := kk ▸ (Keep.refl _ [a2, vb]).trans K105 (fun x hx => Or.inl (by cases List.mem_singleton.mp hx; exact List.mem_of_getElem? (i := 1) rfl))
  have c3 := G107_2
  rw [own_addN (by omega) (by omega)] at c3
  refine own_retA X107 hx Bd.returns Bd.notSynchronized rfl rfl rfl (hb hby own_d8_44) (by decide) (by decide) ?_
  try rw [e107]
  exact ⟨rfl, N107, KK.wr W107 (Or.inl (List.mem_of_getElem? (i := 0) rfl)), Ex107, G107_0, G107_1, c3, V105.other W107 (Ne.symm nv)⟩
theorem own_pd7 : parseMethodDescriptor "(Ljava/lang/String;)Ljava/lang/AbstractStringBuilder;" = some ⟨[(.object "java/lang/String")], some (.object "java/lang/AbstractStringBuilder")⟩ := by decide +kernel
theorem own_d7_0 : decode jdk_67_method_7_code 0 = .ok (.aload_n 0, 1) := by decide +kernel
theorem own_d7_1 : decode jdk_67_method_7_code 1 = .ok (.aload_n 1, 1) := by decide +kernel
theorem own_d7_2 : decode jdk_67_method_7_code 2 = .ok (.invokespecial 29, 3) := by decide +kernel
theorem own_d7_5 : decode jdk_67_method_7_code 5 = .ok (.pop, 1) := by decide +kernel
theorem own_d7_6 : decode jdk_67_method_7_code 6 = .ok (.aload_n 0, 1) := by decide +kernel
theorem own_d7_7 : decode jdk_67_method_7_code 7 = .ok (.areturn, 1) := by decide +kernel
theorem own_c7_ef (m : MethodId) (x0 : Addr) (x1 : Addr) : entryFrame m #[(.ref x0), (.ref x1)] 2 = mkF m 0 #[.val (.ref x0), .val (.ref x1)] [] := by first | (simp [entryFrame, mkF, argsToLocals, Value.category]; done) | rfl
set_option maxRecDepth 65536 in
set_option maxHeartbeats 40000000 in
theorem own_c7 (l : Launch) (Z : State) (a0 : Array Value) (hw : ∀ d ∈ tables_1, d.before a0 Z = true) (wsC : List Jvm.Cond) (a2 a1 b1 vb : Addr) (k1 kb : ClassId) (x1 ws : List Int32) (n : Nat) (hn : n + x1.length ≤ ws.length) (hw5 : ws.length ≤ 500) (cz : Int32) (CS : Sta Z Z.heap "java/lang/String" "COMPACT_STRINGS" "Z" (.int cz)) (hcz : ¬ cz = (0 : Int32)) (h0 : Heap) (n0 : Nat) (O : Old Z n0 h0) (E1 : Exa Z h0 a1 "java/lang/String") (C1 : Fld Z h0 a1 "java/lang/String" "coder" "B" (.int 0)) (F1 : Fld Z h0 a1 "java/lang/String" "value" "[B" (.ref b1)) (V1 : Arv Z h0 b1 k1 .byte (Int32.ofNat x1.length) (x1.map Value.int) (.int 0)) (B1 : Fld Z h0 a2 "java/lang/AbstractStringBuilder" "value" "[B" (.ref vb)) (B2 : Fld Z h0 a2 "java/lang/AbstractStringBuilder" "coder" "B" (.int 0)) (B3 : Fld Z h0 a2 "java/lang/AbstractStringBuilder" "count" "I" (.int (Int32.ofNat n))) (EB : Exa Z h0 a2 "java/lang/StringBuilder") (VB : Arv Z h0 vb kb .byte (Int32.ofNat ws.length) (ws.map Value.int) (.int 0)) (ga : n0 ≤ a2) (gv : n0 ≤ vb) (nv : a2 ≠ vb) :
    own_Ctr l Z (⟨"java/lang/StringBuilder", "append", "(Ljava/lang/String;)Ljava/lang/StringBuilder;"⟩ : MethodName) jdk_67_method_7_code 2 (some (.object "java/lang/StringBuilder")) wsC ({ frames := 4, cells := 0, slots := 0, locals := 90 } : Room) h0 #[(.ref a2), (.ref a1)] (fun v h L => v = some (.ref a2) ∧ Fr n0 L ∧ Keep h0 h [a2, vb] ∧ Exa Z h a2 "java/lang/StringBuilder" ∧ Fld Z h a2 "java/lang/AbstractStringBuilder" "value" "[B" (.ref vb) ∧ Fld Z h a2 "java/lang/AbstractStringBuilder" "coder" "B" (.int 0) ∧ Fld Z h a2 "java/lang/AbstractStringBuilder" "count" "I" (.int (Int32.ofNat (n + x1.length))) ∧ Arv Z h vb kb .byte (Int32.ofNat (ws.take n ++ x1 ++ ws.drop (n + x1.length)).length) ((ws.take n ++ x1 ++ ws.drop (n + x1.length)).map Value.int) (.int 0)) := by
  refine own_ctr (plainFor_of_name own_pn3) ?_
  intro p e s m below meth c s₁ Bd hml0 hx hby hZ hown0 X0 e0
  have hml : c.maxLocals = 2 := hml0
  have hown : s.vm.findClass "java/lang/StringBuilder" = some m.cls := hown0
  have hnm := (name_of_methodNamed Bd.named Bd.method).1
  have N0 := Fr.nil n0
  refine own_cast (own_c7_ef m a2 a1) ?_
  refine own_go (S' := (s₁.setTop (mkF m 2 #[.val (.ref a2), .val (.ref a1)] [(.ref a1), (.ref a2)]))) (fun t_ k_ => ?_) ?_
  · refine XS.aloadN X0.here hx rfl (hb hby own_d7_0) rfl rfl ?_
    show Steps p.tables e below (s₁.setTop (mkF m 1 #[.val (.ref a2), .val (.ref a1)] [(.ref a2)])) _
    refine XS.aloadN X0.here hx rfl (hb hby own_d7_1) rfl rfl ?_
    show Steps p.tables e below (s₁.setTop (mkF m 2 #[.val (.ref a2), .val (.ref a1)] [(.ref a1), (.ref a2)])) _
    exact k_
  obtain ⟨_, T101, L101, X101, ⟨rfl, N101q, q101⟩, st101⟩ := own_callSup X0 hx hZ (y := (⟨"java/lang/AbstractStringBuilder", "append", "(Ljava/lang/String;)Ljava/lang/AbstractStringBuilder;"⟩ : MethodName)) hown (hw _ (List.mem_of_getElem? (i := 58) rfl)) (hw _ (List.mem_of_getElem? (i := 61) rfl)) (hw _ (List.mem_of_getElem? (i := 78) rfl)) rfl (hw _ (List.mem_of_getElem? (i := 59) rfl)) (hw _ (List.mem_of_getElem? (i := 60) rfl)) (by decide) (hw _ (List.mem_of_getElem? (i := 43) rfl)) (hw _ (List.mem_of_getElem? (i := 62) rfl)) (by decide) (own_c8 l Z a0 hw [] a2 a1 b1 vb k1 kb x1 ws n hn hw5 cz CS hcz h0 n0 O E1 C1 F1 V1 B1 B2 B3 EB VB ga gv nv) e0 EB (W := 0) (by decide) (by decide) (g := (mkF m 2 #[.val (.ref a2), .val (.ref a1)] [(.ref a1), (.ref a2)])) rfl (by rw [hml]; rfl) (argsL := [(.ref a1)]) (rest := []) (lenOf own_pd7 rfl) rfl rfl rfl (hb hby own_d7_2) (by decide) (by decide)
  have N101 := Fr.app N0 N101q
  refine own_go st101 ?_
  show own_Rch p e below _ (T101.setTop (mkF m 5 #[.val (.ref a2), .val (.ref a1)] [(.ref a2)]))
  refine own_go (S' := (T101.setTop (mkF m 7 #[.val (.ref a2), .val (.ref a1)] [(.ref a2)]))) (fun t_ k_ => ?_) ?_
  · refine XS.pop X101.here hx rfl (hb hby own_d7_5) rfl rfl ?_
    show Steps p.tables e below (T101.setTop (mkF m 6 #[.val (.ref a2), .val (.ref a1)] [])) _
    refine XS.aloadN X101.here hx rfl (hb hby own_d7_6) rfl rfl ?_
    show Steps p.tables e below (T101.setTop (mkF m 7 #[.val (.ref a2), .val (.ref a1)] [(.ref a2)])) _
    exact k_
  refine own_retA X101 hx Bd.returns Bd.notSynchronized rfl rfl rfl (hb hby own_d7_7) (by decide) (by decide) ?_
  exact ⟨rfl, N101, q101⟩
theorem own_d19_0 : decode jdk_68_method_68_code 0 = .ok (.getstatic 18, 3) := by decide +kernel
theorem own_d19_3 : decode jdk_68_method_68_code 3 = .ok (.ifCond .eq 14, 3) := by decide +kernel
theorem own_d19_6 : decode jdk_68_method_68_code 6 = .ok (.aload_n 0, 1) := by decide +kernel
theorem own_d19_7 : decode jdk_68_method_68_code 7 = .ok (.getfield 22, 3) := by decide +kernel
theorem own_d19_10 : decode jdk_68_method_68_code 10 = .ok (.ifCond .ne 7, 3) := by decide +kernel
theorem own_d19_13 : decode jdk_68_method_68_code 13 = .ok (.iconst 1, 1) := by decide +kernel
theorem own_d19_14 : decode jdk_68_method_68_code 14 = .ok (.goto 4, 3) := by decide +kernel
theorem own_d19_18 : decode jdk_68_method_68_code 18 = .ok (.ireturn, 1) := by decide +kernel
theorem own_c19_ef (m : MethodId) (x0 : Addr) : entryFrame m #[(.ref x0)] 1 = mkF m 0 #[.val (.ref x0)] [] := by first | (simp [entryFrame, mkF, argsToLocals, Value.category]; done) | rfl
set_option maxRecDepth 65536 in
set_option maxHeartbeats 40000000 in
theorem own_c19 (l : Launch) (Z : State) (a0 : Array Value) (hw : ∀ d ∈ tables_1, d.before a0 Z = true) (wsC : List Jvm.Cond) (a1 : Addr) (cz : Int32) (CS : Sta Z Z.heap "java/lang/String" "COMPACT_STRINGS" "Z" (.int cz)) (hcz : ¬ cz = (0 : Int32)) (h0 : Heap) (n0 : Nat) (O : Old Z n0 h0) (F2 : Fld Z h0 a1 "java/lang/AbstractStringBuilder" "coder" "B" (.int 0)) :
    own_Ctr l Z (⟨"java/lang/AbstractStringBuilder", "isLatin1", "()Z"⟩ : MethodName) jdk_68_method_68_code 1 (some .boolean) wsC ({ frames := 0, cells := 0, slots := 0, locals := 0 } : Room) h0 #[(.ref a1)] (fun v h L => v = some (.int 1) ∧ Fr n0 L ∧ h = h0) := by
  refine own_ctr (plainFor_of_name own_pn2) ?_
  intro p e s m below meth c s₁ Bd hml0 hx hby hZ hown0 X0 e0
  have hml : c.maxLocals = 1 := hml0
  have hown : s.vm.findClass "java/lang/AbstractStringBuilder" = some m.cls := hown0
  have hnm := (name_of_methodNamed Bd.named Bd.method).1
  have N0 := Fr.nil n0
  refine own_cast (own_c19_ef m a1) ?_
  obtain ⟨T101, X101, e101, st101⟩ := getS2 X0 hx hZ hown (host := "") (Or.inl (hw _ (List.mem_of_getElem? (i := 48) rfl))) Via.refl e0 (CS.ext O.2) (g := (mkF m 0 #[.val (.ref a1)] [])) rfl (hb hby own_d19_0)
  refine own_go st101 ?_
  show own_Rch p e below _ (T101.setTop (mkF m 3 #[.val (.ref a1)] [(.int cz)]))
  refine own_go (S' := (T101.setTop (mkF m 7 #[.val (.ref a1)] [(.ref a1)]))) (fun t_ k_ => ?_) ?_
  · refine XS.ifNo X101.here hx rfl (hb hby own_d19_3) rfl ((if0 _ _).trans (feq hcz).1) ?_
    show Steps p.tables e below (T101.setTop (mkF m 6 #[.val (.ref a1)] [])) _
    refine XS.aloadN X101.here hx rfl (hb hby own_d19_6) rfl rfl ?_
    show Steps p.tables e below (T101.setTop (mkF m 7 #[.val (.ref a1)] [(.ref a1)])) _
    exact k_
  obtain ⟨T102, X102, e102, st102⟩ := getF X101 hx hZ hown (host := "") (Or.inl (hw _ (List.mem_of_getElem? (i := 51) rfl))) Via.refl e101 F2 (g := (mkF m 7 #[.val (.ref a1)] [(.ref a1)])) rfl rfl (hb hby own_d19_7)
  refine own_go st102 ?_
  show own_Rch p e below _ (T102.setTop (mkF m 10 #[.val (.ref a1)] [(.int (0 : Int32))]))
  refine own_go (S' := (T102.setTop (mkF m 18 #[.val (.ref a1)] [(.int (1 : Int32))]))) (fun t_ k_ => ?_) ?_
  · refine XS.ifNo X102.here hx rfl (hb hby own_d19_10) rfl ((if0 _ _).trans (teq rfl).2) ?_
    show Steps p.tables e below (T102.setTop (mkF m 13 #[.val (.ref a1)] [])) _
    refine XS.iconst X102.here hx rfl (hb hby own_d19_13) ?_
    show Steps p.tables e below (T102.setTop (mkF m 14 #[.val (.ref a1)] [(.int (1 : Int32))])) _
    refine XS.goto X102.here hx rfl (pc0 := 14) (pc' := 18) rfl (hb hby own_d19_14) (by decide) (by decide) ?_
    show Steps p.tables e below (T102.setTop (mkF m 18 #[.val (.ref a1)] [(.int (1 : Int32))])) _
    exact k_
  refine own_retN X102 hx (t := .boolean) Bd.returns Bd.notSynchronized (by simp) (hb hby own_d19_18) (show nar .boolean (1 : Int32) = (1 : Int32) from rfl) (by decide) (by decide) ?_
  try rw [e102]
  exact ⟨rfl, N0, rfl⟩
theorem own_d24_0 : decode jdk_68_method_64_code 0 = .ok (.aload_n 0, 1) := by decide +kernel
theorem own_d24_1 : decode jdk_68_method_64_code 1 = .ok (.getfield 15, 3) := by decide +kernel
theorem own_d24_4 : decode jdk_68_method_64_code 4 = .ok (.areturn, 1) := by decide +kernel
theorem own_c24_ef (m : MethodId) (x0 : Addr) : entryFrame m #[(.ref x0)] 1 = mkF m 0 #[.val (.ref x0)] [] := by first | (simp [entryFrame, mkF, argsToLocals, Value.category]; done) | rfl
set_option maxRecDepth 65536 in
set_option maxHeartbeats 40000000 in
theorem own_c24 (l : Launch) (Z : State) (a0 : Array Value) (hw : ∀ d ∈ tables_1, d.before a0 Z = true) (wsC : List Jvm.Cond) (a1 vb : Addr) (h0 : Heap) (n0 : Nat) (O : Old Z n0 h0) (F1 : Fld Z h0 a1 "java/lang/AbstractStringBuilder" "value" "[B" (.ref vb)) :
    own_Ctr l Z (⟨"java/lang/AbstractStringBuilder", "getValue", "()[B"⟩ : MethodName) jdk_68_method_64_code 1 (some (.array .byte)) wsC ({ frames := 0, cells := 0, slots := 0, locals := 0 } : Room) h0 #[(.ref a1)] (fun v h L => v = some (.ref vb) ∧ Fr n0 L ∧ h = h0) := by
  refine own_ctr (plainFor_of_name own_pn2) ?_
  intro p e s m below meth c s₁ Bd hml0 hx hby hZ hown0 X0 e0
  have hml : c.maxLocals = 1 := hml0
  have hown : s.vm.findClass "java/lang/AbstractStringBuilder" = some m.cls := hown0
  have hnm := (name_of_methodNamed Bd.named Bd.method).1
  have N0 := Fr.nil n0
  refine own_cast (own_c24_ef m a1) ?_
  refine own_go (S' := (s₁.setTop (mkF m 1 #[.val (.ref a1)] [(.ref a1)]))) (fun t_ k_ => ?_) ?_
  · refine XS.aloadN X0.here hx rfl (hb hby own_d24_0) rfl rfl ?_
    show Steps p.tables e below (s₁.setTop (mkF m 1 #[.val (.ref a1)] [(.ref a1)])) _
    exact k_
  obtain ⟨T101, X101, e101, st101⟩ := getF X0 hx hZ hown (host := "") (Or.inl (hw _ (List.mem_of_getElem? (i := 49) rfl))) Via.refl e0 F1 (g := (mkF m 1 #[.val (.ref a1)] [(.ref a1)])) rfl rfl (hb hby own_d24_1)
  refine own_go st101 ?_
  show own_Rch p e below _ (T101.setTop (mkF m 4 #[.val (.ref a1)] [(.ref vb)]))
  refine own_retA X101 hx Bd.returns Bd.notSynchronized rfl rfl rfl (hb hby own_d24_4) (by decide) (by decide) ?_
  try rw [e101]
  exact ⟨rfl, N0, rfl⟩
theorem own_d26_0 : decode jdk_68_method_6_code 0 = .ok (.aload_n 0, 1) := by decide +kernel
theorem own_d26_1 : decode jdk_68_method_6_code 1 = .ok (.getfield 79, 3) := by decide +kernel
theorem own_d26_4 : decode jdk_68_method_6_code 4 = .ok (.ireturn, 1) := by decide +kernel
theorem own_c26_ef (m : MethodId) (x0 : Addr) : entryFrame m #[(.ref x0)] 1 = mkF m 0 #[.val (.ref x0)] [] := by first | (simp [entryFrame, mkF, argsToLocals, Value.category]; done) | rfl
set_option maxRecDepth 65536 in
set_option maxHeartbeats 40000000 in
theorem own_c26 (l : Launch) (Z : State) (a0 : Array Value) (hw : ∀ d ∈ tables_1, d.before a0 Z = true) (wsC : List Jvm.Cond) (a1 : Addr) (n : Nat) (h0 : Heap) (n0 : Nat) (O : Old Z n0 h0) (F3 : Fld Z h0 a1 "java/lang/AbstractStringBuilder" "count" "I" (.int (Int32.ofNat n))) :
    own_Ctr l Z (⟨"java/lang/AbstractStringBuilder", "length", "()I"⟩ : MethodName) jdk_68_method_6_code 1 (some .int) wsC ({ frames := 0, cells := 0, slots := 0, locals := 0 } : Room) h0 #[(.ref a1)] (fun v h L => v = some (.int (Int32.ofNat n)) ∧ Fr n0 L ∧ h = h0) := by
  refine own_ctr (plainFor_of_name own_pn2) ?_
  intro p e s m below meth c s₁ Bd hml0 hx hby hZ hown0 X0 e0
  have hml : c.maxLocals = 1 := hml0
  have hown : s.vm.findClass "java/lang/AbstractStringBuilder" = some m.cls := hown0
  have hnm := (name_of_methodNamed Bd.named Bd.method).1
  have N0 := Fr.nil n0
  refine own_cast (own_c26_ef m a1) ?_
  refine own_go (S' := (s₁.setTop (mkF m 1 #[.val (.ref a1)] [(.ref a1)]))) (fun t_ k_ => ?_) ?_
  · refine XS.aloadN X0.here hx rfl (hb hby own_d26_0) rfl rfl ?_
    show Steps p.tables e below (s₁.setTop (mkF m 1 #[.val (.ref a1)] [(.ref a1)])) _
    exact k_
  obtain ⟨T101, X101, e101, st101⟩ := getF X0 hx hZ hown (host := "") (Or.inl (hw _ (List.mem_of_getElem? (i := 73) rfl))) Via.refl e0 F3 (g := (mkF m 1 #[.val (.ref a1)] [(.ref a1)])) rfl rfl (hb hby own_d26_1)
  refine own_go st101 ?_
  show own_Rch p e below _ (T101.setTop (mkF m 4 #[.val (.ref a1)] [(.int (Int32.ofNat n))]))
  refine own_retI X101 hx Bd.returns Bd.notSynchronized (hb hby own_d26_4) (by decide) (by decide) ?_
  try rw [e101]
  exact ⟨rfl, N0, rfl⟩
theorem own_d25_0 : decode jdk_67_method_93_code 0 = .ok (.aload_n 0, 1) := by decide +kernel
theorem own_d25_1 : decode jdk_67_method_93_code 1 = .ok (.invokespecial 343, 3) := by decide +kernel
theorem own_d25_4 : decode jdk_67_method_93_code 4 = .ok (.ireturn, 1) := by decide +kernel
theorem own_c25_ef (m : MethodId) (x0 : Addr) : entryFrame m #[(.ref x0)] 1 = mkF m 0 #[.val (.ref x0)] [] := by first | (simp [entryFrame, mkF, argsToLocals, Value.category]; done) | rfl
set_option maxRecDepth 65536 in
set_option maxHeartbeats 40000000 in
theorem own_c25 (l : Launch) (Z : State) (a0 : Array Value) (hw : ∀ d ∈ tables_1, d.before a0 Z = true) (wsC : List Jvm.Cond) (a1 : Addr) (n : Nat) (h0 : Heap) (n0 : Nat) (O : Old Z n0 h0) (F3 : Fld Z h0 a1 "java/lang/AbstractStringBuilder" "count" "I" (.int (Int32.ofNat n))) (E : Exa Z h0 a1 "java/lang/StringBuilder") :
    own_Ctr l Z (⟨"java/lang/StringBuilder", "length", "()I"⟩ : MethodName) jdk_67_method_93_code 1 (some .int) wsC ({ frames := 1, cells := 0, slots := 0, locals := 20 } : Room) h0 #[(.ref a1)] (fun v h L => v = some (.int (Int32.ofNat n)) ∧ Fr n0 L ∧ h = h0) := by
  refine own_ctr (plainFor_of_name own_pn3) ?_
  intro p e s m below meth c s₁ Bd hml0 hx hby hZ hown0 X0 e0
  have hml : c.maxLocals = 1 := hml0
  have hown : s.vm.findClass "java/lang/StringBuilder" = some m.cls := hown0
  have hnm := (name_of_methodNamed Bd.named Bd.method).1
  have N0 := Fr.nil n0
  refine own_cast (own_c25_ef m a1) ?_
  refine own_go (S' := (s₁.setTop (mkF m 1 #[.val (.ref a1)] [(.ref a1)]))) (fun t_ k_ => ?_) ?_
  · refine XS.aloadN X0.here hx rfl (hb hby own_d25_0) rfl rfl ?_
    show Steps p.tables e below (s₁.setTop (mkF m 1 #[.val (.ref a1)] [(.ref a1)])) _
    exact k_
  obtain ⟨_, T101, L101, X101, ⟨rfl, N101q, k101⟩, st101⟩ := own_callSup X0 hx hZ (y := (⟨"java/lang/AbstractStringBuilder", "length", "()I"⟩ : MethodName)) hown (hw _ (List.mem_of_getElem? (i := 157) rfl)) (hw _ (List.mem_of_getElem? (i := 152) rfl)) (hw _ (List.mem_of_getElem? (i := 78) rfl)) rfl (hw _ (List.mem_of_getElem? (i := 153) rfl)) (hw _ (List.mem_of_getElem? (i := 60) rfl)) (by decide) (hw _ (List.mem_of_getElem? (i := 43) rfl)) (hw _ (List.mem_of_getElem? (i := 158) rfl)) (by decide) (own_c26 l Z a0 hw [] a1 n h0 n0 O F3) e0 E (W := 0) (by decide) (by decide) (g := (mkF m 1 #[.val (.ref a1)] [(.ref a1)])) rfl (by rw [hml]; rfl) (argsL := []) (rest := []) (lenOf own_pd5 rfl) rfl rfl rfl (hb hby own_d25_1) (by decide) (by decide)
  have N101 := Fr.app N0 N101q
  refine own_go st101 ?_
  show own_Rch p e below _ (T101.setTop (mkF m 4 #[.val (.ref a1)] [(.int (Int32.ofNat n))]))
  refine own_retI X101 hx Bd.returns Bd.notSynchronized (hb hby own_d25_4) (by decide) (by decide) ?_
  exact ⟨rfl, N101, k101⟩
def own_ones : List Int32 := (List.range 100).map fun i => 48 + Int32.ofNat (i % 10)
def own_tens : List Int32 := (List.range 100).map fun i => 48 + Int32.ofNat (i / 10)
theorem own_onesD {r : Nat} (h : r < 100) : own_ones.getD r 0 = 48 + Int32.ofNat (r % 10) := by simp [own_ones, List.getD_eq_getElem?_getD, h]
theorem own_tensD {r : Nat} (h : r < 100) : own_tens.getD r 0 = 48 + Int32.ofNat (r / 10) := by simp [own_tens, List.getD_eq_getElem?_getD, h]
theorem own_nb48 {k : Nat} (h : k < 10) : nar .byte (48 + Int32.ofNat k) = 48 + Int32.ofNat k := by
  have q : ∀ k : Fin 10, (48 + Int32.ofNat k.1).toInt8.toInt32 = 48 + Int32.ofNat k.1 := by decide +kernel
  exact q ⟨k, h⟩
theorem own_bnd {nx P : Int32} {u a : Nat} (hu : nx.toInt = -(u : Int)) (hP : P.toInt = -(a : Int)) : P < nx ↔ u < a := by rw [Int32.lt_iff_toInt_lt, hu, hP]; omega
theorem own_d18_0 : decode jdk_33_method_13_code 0 = .ok (.iconst 1, 1) := by decide +kernel
theorem own_d18_1 : decode jdk_33_method_13_code 1 = .ok (.istore_n 1, 1) := by decide +kernel
theorem own_d18_2 : decode jdk_33_method_13_code 2 = .ok (.iload_n 0, 1) := by decide +kernel
theorem own_d18_3 : decode jdk_33_method_13_code 3 = .ok (.ifCond .lt 8, 3) := by decide +kernel
theorem own_d18_6 : decode jdk_33_method_13_code 6 = .ok (.iconst 0, 1) := by decide +kernel
theorem own_d18_7 : decode jdk_33_method_13_code 7 = .ok (.istore_n 1, 1) := by decide +kernel
theorem own_d18_8 : decode jdk_33_method_13_code 8 = .ok (.iload_n 0, 1) := by decide +kernel
theorem own_d18_9 : decode jdk_33_method_13_code 9 = .ok (.ineg, 1) := by decide +kernel
theorem own_d18_10 : decode jdk_33_method_13_code 10 = .ok (.istore_n 0, 1) := by decide +kernel
theorem own_d18_11 : decode jdk_33_method_13_code 11 = .ok (.bipush (-10), 2) := by decide +kernel
theorem own_d18_13 : decode jdk_33_method_13_code 13 = .ok (.istore_n 2, 1) := by decide +kernel
theorem own_d18_14 : decode jdk_33_method_13_code 14 = .ok (.iconst 1, 1) := by decide +kernel
theorem own_d18_15 : decode jdk_33_method_13_code 15 = .ok (.istore_n 3, 1) := by decide +kernel
theorem own_d18_16 : decode jdk_33_method_13_code 16 = .ok (.iload_n 3, 1) := by decide +kernel
theorem own_d18_17 : decode jdk_33_method_13_code 17 = .ok (.bipush 10, 2) := by decide +kernel
theorem own_d18_19 : decode jdk_33_method_13_code 19 = .ok (.if_icmp .ge 23, 3) := by decide +kernel
theorem own_d18_22 : decode jdk_33_method_13_code 22 = .ok (.iload_n 0, 1) := by decide +kernel
theorem own_d18_23 : decode jdk_33_method_13_code 23 = .ok (.iload_n 2, 1) := by decide +kernel
theorem own_d18_24 : decode jdk_33_method_13_code 24 = .ok (.if_icmp .le 7, 3) := by decide +kernel
theorem own_d18_27 : decode jdk_33_method_13_code 27 = .ok (.iload_n 3, 1) := by decide +kernel
theorem own_d18_28 : decode jdk_33_method_13_code 28 = .ok (.iload_n 1, 1) := by decide +kernel
theorem own_d18_29 : decode jdk_33_method_13_code 29 = .ok (.iadd, 1) := by decide +kernel
theorem own_d18_30 : decode jdk_33_method_13_code 30 = .ok (.ireturn, 1) := by decide +kernel
theorem own_d18_31 : decode jdk_33_method_13_code 31 = .ok (.bipush 10, 2) := by decide +kernel
theorem own_d18_33 : decode jdk_33_method_13_code 33 = .ok (.iload_n 2, 1) := by decide +kernel
theorem own_d18_34 : decode jdk_33_method_13_code 34 = .ok (.imul, 1) := by decide +kernel
theorem own_d18_35 : decode jdk_33_method_13_code 35 = .ok (.istore_n 2, 1) := by decide +kernel
theorem own_d18_36 : decode jdk_33_method_13_code 36 = .ok (.iinc 3 1, 3) := by decide +kernel
theorem own_d18_39 : decode jdk_33_method_13_code 39 = .ok (.goto (-23), 3) := by decide +kernel
theorem own_d18_42 : decode jdk_33_method_13_code 42 = .ok (.bipush 10, 2) := by decide +kernel
theorem own_d18_44 : decode jdk_33_method_13_code 44 = .ok (.iload_n 1, 1) := by decide +kernel
theorem own_d18_45 : decode jdk_33_method_13_code 45 = .ok (.iadd, 1) := by decide +kernel
theorem own_d18_46 : decode jdk_33_method_13_code 46 = .ok (.ireturn, 1) := by decide +kernel
theorem own_c18_ef (m : MethodId) (x0 : Int32) : entryFrame m #[(.int x0)] 4 = mkF m 0 #[.val (.int x0), .unset, .unset, .unset] [] := by first | (simp [entryFrame, mkF, argsToLocals, Value.category]; done) | rfl
theorem own_pn4 : plainName "java/lang/Integer" = true := by first | (simp [plainName, overriddenIn]; done) | decide +kernel
set_option maxRecDepth 65536 in
set_option maxHeartbeats 40000000 in
theorem own_c18 (l : Launch) (Z : State) (a0 : Array Value) (hw : ∀ d ∈ tables_1, d.before a0 Z = true) (wsC : List Jvm.Cond) (p1 : Int32) (h0 : Heap) (n0 : Nat) (O : Old Z n0 h0) :
    own_Ctr l Z (⟨"java/lang/Integer", "stringSize", "(I)I"⟩ : MethodName) jdk_33_method_13_code 4 (some .int) wsC ({ frames := 0, cells := 0, slots := 0, locals := 0 } : Room) h0 #[(.int p1)] (fun v h L => v = some (.int (Int32.ofNat (own_dec p1).length)) ∧ Fr n0 L ∧ h = h0) := by
  refine own_ctr (plainFor_of_name own_pn4) ?_
  intro p e s m below meth c s₁ Bd hml0 hx hby hZ hown0 X0 e0
  have hml : c.maxLocals = 4 := hml0
  have hown : s.vm.findClass "java/lang/Integer" = some m.cls := hown0
  have hnm := (name_of_methodNamed Bd.named Bd.method).1
  have N0 := Fr.nil n0
  refine own_cast (own_c18_ef m p1) ?_
  obtain ⟨nx, enx⟩ : ∃ z : Int32, z = if p1 < (0 : Int32) then p1 else -p1 := ⟨_, rfl⟩
  obtain ⟨dd, edd⟩ : ∃ z : Int32, z = if p1 < (0 : Int32) then 1 else 0 := ⟨_, rfl⟩
  have hu : nx.toInt = -(p1.toInt.natAbs : Int) := by rw [enx]; exact own_neg
  have hub := own_absB p1
  refine own_go (S' := (s₁.setTop (mkF m 3 #[.val (.int p1), .val (.int (1 : Int32)), .unset, .unset] [(.int p1)]))) (fun t_ k_ => ?_) ?_
  · refine XS.iconst X0.here hx rfl (hb hby own_d18_0) ?_
    show Steps p.tables e below (s₁.setTop (mkF m 1 #[.val (.int p1), .unset, .unset, .unset] [(.int (1 : Int32))])) _
    refine XS.istoreN X0.here hx rfl (hb hby own_d18_1) rfl (l' := #[.val (.int p1), .val (.int (1 : Int32)), .unset, .unset]) rfl ?_
    show Steps p.tables e below (s₁.setTop (mkF m 2 #[.val (.int p1), .val (.int (1 : Int32)), .unset, .unset] [])) _
    refine XS.iloadN X0.here hx rfl (hb hby own_d18_2) rfl ?_
    show Steps p.tables e below (s₁.setTop (mkF m 3 #[.val (.int p1), .val (.int (1 : Int32)), .unset, .unset] [(.int p1)])) _
    exact k_
  refine own_join (S' := (s₁.setTop (mkF m 11 #[.val (.int nx), .val (.int dd), .unset, .unset] []))) (fun J101 => ?_) ?_
  · skip
    by_cases hs : p1 < (0 : Int32)
    · skip
      refine own_go (S' := (s₁.setTop (mkF m 11 #[.val (.int p1), .val (.int (1 : Int32)), .unset, .unset] []))) (fun t_ k_ => ?_) ?_
      · refine XS.ifYes X0.here hx rfl (pc0 := 3) (pc' := 11) rfl (hb hby own_d18_3) rfl ((if0 _ _).trans (tlt hs).1) (by decide) (by decide) ?_
        show Steps p.tables e below (s₁.setTop (mkF m 11 #[.val (.int p1), .val (.int (1 : Int32)), .unset, .unset] [])) _
        exact k_
      rw [if_pos hs] at enx edd; subst enx edd; exact J101
    · skip
      refine own_go (S' := (s₁.setTop (mkF m 11 #[.val (.int (-p1)), .val (.int (0 : Int32)), .unset, .unset] []))) (fun t_ k_ => ?_) ?_
      · refine XS.ifNo X0.here hx rfl (hb hby own_d18_3) rfl ((if0 _ _).trans (flt hs).1) ?_
        show Steps p.tables e below (s₁.setTop (mkF m 6 #[.val (.int p1), .val (.int (1 : Int32)), .unset, .unset] [])) _
        refine XS.iconst X0.here hx rfl (hb hby own_d18_6) ?_
        show Steps p.tables e below (s₁.setTop (mkF m 7 #[.val (.int p1), .val (.int (1 : Int32)), .unset, .unset] [(.int (0 : Int32))])) _
        refine XS.istoreN X0.here hx rfl (hb hby own_d18_7) rfl (l' := #[.val (.int p1), .val (.int (0 : Int32)), .unset, .unset]) rfl ?_
        show Steps p.tables e below (s₁.setTop (mkF m 8 #[.val (.int p1), .val (.int (0 : Int32)), .unset, .unset] [])) _
        refine XS.iloadN X0.here hx rfl (hb hby own_d18_8) rfl ?_
        show Steps p.tables e below (s₁.setTop (mkF m 9 #[.val (.int p1), .val (.int (0 : Int32)), .unset, .unset] [(.int p1)])) _
        refine XS.ineg X0.here hx rfl (hb hby own_d18_9) rfl ?_
        show Steps p.tables e below (s₁.setTop (mkF m 10 #[.val (.int p1), .val (.int (0 : Int32)), .unset, .unset] [(.int (-p1))])) _
        refine XS.istoreN X0.here hx rfl (hb hby own_d18_10) rfl (l' := #[.val (.int (-p1)), .val (.int (0 : Int32)), .unset, .unset]) rfl ?_
        show Steps p.tables e below (s₁.setTop (mkF m 11 #[.val (.int (-p1)), .val (.int (0 : Int32)), .unset, .unset] [])) _
        exact k_
      rw [if_neg hs] at enx edd; subst enx edd; exact J101
  refine own_go (S' := (s₁.setTop (mkF m 19 #[.val (.int nx), .val (.int dd), .val (.int (-10 : Int32)), .val (.int (1 : Int32))] [(.int (10 : Int32)), (.int (1 : Int32))]))) (fun t_ k_ => ?_) ?_
  · refine XS.bipush X0.here hx rfl (hb hby own_d18_11) ?_
    show Steps p.tables e below (s₁.setTop (mkF m 13 #[.val (.int nx), .val (.int dd), .unset, .unset] [(.int (-10 : Int32))])) _
    refine XS.istoreN X0.here hx rfl (hb hby own_d18_13) rfl (l' := #[.val (.int nx), .val (.int dd), .val (.int (-10 : Int32)), .unset]) rfl ?_
    show Steps p.tables e below (s₁.setTop (mkF m 14 #[.val (.int nx), .val (.int dd), .val (.int (-10 : Int32)), .unset] [])) _
    refine XS.iconst X0.here hx rfl (hb hby own_d18_14) ?_
    show Steps p.tables e below (s₁.setTop (mkF m 15 #[.val (.int nx), .val (.int dd), .val (.int (-10 : Int32)), .unset] [(.int (1 : Int32))])) _
    refine XS.istoreN X0.here hx rfl (hb hby own_d18_15) rfl (l' := #[.val (.int nx), .val (.int dd), .val (.int (-10 : Int32)), .val (.int (1 : Int32))]) rfl ?_
    show Steps p.tables e below (s₁.setTop (mkF m 16 #[.val (.int nx), .val (.int dd), .val (.int (-10 : Int32)), .val (.int (1 : Int32))] [])) _
    refine XS.iloadN X0.here hx rfl (hb hby own_d18_16) rfl ?_
    show Steps p.tables e below (s₁.setTop (mkF m 17 #[.val (.int nx), .val (.int dd), .val (.int (-10 : Int32)), .val (.int (1 : Int32))] [(.int (1 : Int32))])) _
    refine XS.bipush X0.here hx rfl (hb hby own_d18_17) ?_
    show Steps p.tables e below (s₁.setTop (mkF m 19 #[.val (.int nx), .val (.int dd), .val (.int (-10 : Int32)), .val (.int (1 : Int32))] [(.int (10 : Int32)), (.int (1 : Int32))])) _
    exact k_
  refine own_go (S' := (s₁.setTop (mkF m 24 #[.val (.int nx), .val (.int dd), .val (.int (-10 : Int32)), .val (.int (1 : Int32))] [(.int (-10 : Int32)), (.int nx)]))) (fun t_ k_ => ?_) ?_
  · refine XS.icmpNo X0.here hx rfl (hb hby own_d18_19) rfl (tlt (by decide)).2.1 ?_
    show Steps p.tables e below (s₁.setTop (mkF m 22 #[.val (.int nx), .val (.int dd), .val (.int (-10 : Int32)), .val (.int (1 : Int32))] [])) _
    refine XS.iloadN X0.here hx rfl (hb hby own_d18_22) rfl ?_
    show Steps p.tables e below (s₁.setTop (mkF m 23 #[.val (.int nx), .val (.int dd), .val (.int (-10 : Int32)), .val (.int (1 : Int32))] [(.int nx)])) _
    refine XS.iloadN X0.here hx rfl (hb hby own_d18_23) rfl ?_
    show Steps p.tables e below (s₁.setTop (mkF m 24 #[.val (.int nx), .val (.int dd), .val (.int (-10 : Int32)), .val (.int (1 : Int32))] [(.int (-10 : Int32)), (.int nx)])) _
    exact k_
  by_cases g1 : (-10 : Int32) < nx
  · skip
    refine own_go (S' := (s₁.setTop (mkF m 30 #[.val (.int nx), .val (.int dd), .val (.int (-10 : Int32)), .val (.int (1 : Int32))] [(.int ((1 : Int32) + dd))]))) (fun t_ k_ => ?_) ?_
    · refine XS.icmpNo X0.here hx rfl (hb hby own_d18_24) rfl (tlt g1).2.2.2 ?_
      show Steps p.tables e below (s₁.setTop (mkF m 27 #[.val (.int nx), .val (.int dd), .val (.int (-10 : Int32)), .val (.int (1 : Int32))] [])) _
      refine XS.iloadN X0.here hx rfl (hb hby own_d18_27) rfl ?_
      show Steps p.tables e below (s₁.setTop (mkF m 28 #[.val (.int nx), .val (.int dd), .val (.int (-10 : Int32)), .val (.int (1 : Int32))] [(.int (1 : Int32))])) _
      refine XS.iloadN X0.here hx rfl (hb hby own_d18_28) rfl ?_
      show Steps p.tables e below (s₁.setTop (mkF m 29 #[.val (.int nx), .val (.int dd), .val (.int (-10 : Int32)), .val (.int (1 : Int32))] [(.int dd), (.int (1 : Int32))])) _
      refine XS.iadd X0.here hx rfl (hb hby own_d18_29) rfl ?_
      show Steps p.tables e below (s₁.setTop (mkF m 30 #[.val (.int nx), .val (.int dd), .val (.int (-10 : Int32)), .val (.int (1 : Int32))] [(.int ((1 : Int32) + dd))])) _
      exact k_
    refine own_retI X0 hx Bd.returns Bd.notSynchronized (hb hby own_d18_30) (by decide) (by decide) ?_
    try rw [e0]
    exact ⟨by rw [own_szL (i := 1) (own_digs_len (k := 0) (by omega) (Or.inl rfl) ((own_bnd hu (a := 10 ^ 1) (by decide)).mp g1)) edd (by decide) (by omega)], N0, rfl⟩
  · skip
    refine own_go (S' := (s₁.setTop (mkF m 16 #[.val (.int nx), .val (.int dd), .val (.int ((10 : Int32) * (-10 : Int32))), .val (.int ((1 : Int32) + (1 : Int32)))] []))) (fun t_ k_ => ?_) ?_
    · refine XS.icmpYes X0.here hx rfl (pc0 := 24) (pc' := 31) rfl (hb hby own_d18_24) rfl (flt g1).2.2.2 (by decide) (by decide) ?_
      show Steps p.tables e below (s₁.setTop (mkF m 31 #[.val (.int nx), .val (.int dd), .val (.int (-10 : Int32)), .val (.int (1 : Int32))] [])) _
      refine XS.bipush X0.here hx rfl (hb hby own_d18_31) ?_
      show Steps p.tables e below (s₁.setTop (mkF m 33 #[.val (.int nx), .val (.int dd), .val (.int (-10 : Int32)), .val (.int (1 : Int32))] [(.int (10 : Int32))])) _
      refine XS.iloadN X0.here hx rfl (hb hby own_d18_33) rfl ?_
      show Steps p.tables e below (s₁.setTop (mkF m 34 #[.val (.int nx), .val (.int dd), .val (.int (-10 : Int32)), .val (.int (1 : Int32))] [(.int (-10 : Int32)), (.int (10 : Int32))])) _
      refine XS.imul X0.here hx rfl (hb hby own_d18_34) rfl ?_
      show Steps p.tables e below (s₁.setTop (mkF m 35 #[.val (.int nx), .val (.int dd), .val (.int (-10 : Int32)), .val (.int (1 : Int32))] [(.int ((10 : Int32) * (-10 : Int32)))])) _
      refine XS.istoreN X0.here hx rfl (hb hby own_d18_35) rfl (l' := #[.val (.int nx), .val (.int dd), .val (.int ((10 : Int32) * (-10 : Int32))), .val (.int (1 : Int32))]) rfl ?_
      show Steps p.tables e below (s₁.setTop (mkF m 36 #[.val (.int nx), .val (.int dd), .val (.int ((10 : Int32) * (-10 : Int32))), .val (.int (1 : Int32))] [])) _
      refine XS.iinc X0.here hx rfl (hb hby own_d18_36) rfl (l' := #[.val (.int nx), .val (.int dd), .val (.int ((10 : Int32) * (-10 : Int32))), .val (.int ((1 : Int32) + (1 : Int32)))]) rfl ?_
      show Steps p.tables e below (s₁.setTop (mkF m 39 #[.val (.int nx), .val (.int dd), .val (.int ((10 : Int32) * (-10 : Int32))), .val (.int ((1 : Int32) + (1 : Int32)))] [])) _
      refine XS.goto X0.here hx rfl (pc0 := 39) (pc' := 16) rfl (hb hby own_d18_39) (by decide) (by decide) ?_
      show Steps p.tables e below (s₁.setTop (mkF m 16 #[.val (.int nx), .val (.int dd), .val (.int ((10 : Int32) * (-10 : Int32))), .val (.int ((1 : Int32) + (1 : Int32)))] [])) _
      exact k_
    refine own_go (S' := (s₁.setTop (mkF m 19 #[.val (.int nx), .val (.int dd), .val (.int ((10 : Int32) * (-10 : Int32))), .val (.int ((1 : Int32) + (1 : Int32)))] [(.int (10 : Int32)), (.int ((1 : Int32) + (1 : Int32)))]))) (fun t_ k_ => ?_) ?_
    · refine XS.iloadN X0.here hx rfl (hb hby own_d18_16) rfl ?_
      show Steps p.tables e below (s₁.setTop (mkF m 17 #[.val (.int nx), .val (.int dd), .val (.int ((10 : Int32) * (-10 : Int32))), .val (.int ((1 : Int32) + (1 : Int32)))] [(.int ((1 : Int32) + (1 : Int32)))])) _
      refine XS.bipush X0.here hx rfl (hb hby own_d18_17) ?_
      show Steps p.tables e below (s₁.setTop (mkF m 19 #[.val (.int nx), .val (.int dd), .val (.int ((10 : Int32) * (-10 : Int32))), .val (.int ((1 : Int32) + (1 : Int32)))] [(.int (10 : Int32)), (.int ((1 : Int32) + (1 : Int32)))])) _
      exact k_
    refine own_go (S' := (s₁.setTop (mkF m 24 #[.val (.int nx), .val (.int dd), .val (.int ((10 : Int32) * (-10 : Int32))), .val (.int ((1 : Int32) + (1 : Int32)))] [(.int ((10 : Int32) * (-10 : Int32))), (.int nx)]))) (fun t_ k_ => ?_) ?_
    · refine XS.icmpNo X0.here hx rfl (hb hby own_d18_19) rfl (tlt (by decide)).2.1 ?_
      show Steps p.tables e below (s₁.setTop (mkF m 22 #[.val (.int nx), .val (.int dd), .val (.int ((10 : Int32) * (-10 : Int32))), .val (.int ((1 : Int32) + (1 : Int32)))] [])) _
      refine XS.iloadN X0.here hx rfl (hb hby own_d18_22) rfl ?_
      show Steps p.tables e below (s₁.setTop (mkF m 23 #[.val (.int nx), .val (.int dd), .val (.int ((10 : Int32) * (-10 : Int32))), .val (.int ((1 : Int32) + (1 : Int32)))] [(.int nx)])) _
      refine XS.iloadN X0.here hx rfl (hb hby own_d18_23) rfl ?_
      show Steps p.tables e below (s₁.setTop (mkF m 24 #[.val (.int nx), .val (.int dd), .val (.int ((10 : Int32) * (-10 : Int32))), .val (.int ((1 : Int32) + (1 : Int32)))] [(.int ((10 : Int32) * (-10 : Int32))), (.int nx)])) _
      exact k_
    by_cases g2 : ((10 : Int32) * (-10 : Int32)) < nx
    · skip
      refine own_go (S' := (s₁.setTop (mkF m 30 #[.val (.int nx), .val (.int dd), .val (.int ((10 : Int32) * (-10 : Int32))), .val (.int ((1 : Int32) + (1 : Int32)))] [(.int (((1 : Int32) + (1 : Int32)) + dd))]))) (fun t_ k_ => ?_) ?_
      · refine XS.icmpNo X0.here hx rfl (hb hby own_d18_24) rfl (tlt g2).2.2.2 ?_
        show Steps p.tables e below (s₁.setTop (mkF m 27 #[.val (.int nx), .val (.int dd), .val (.int ((10 : Int32) * (-10 : Int32))), .val (.int ((1 : Int32) + (1 : Int32)))] [])) _
        refine XS.iloadN X0.here hx rfl (hb hby own_d18_27) rfl ?_
        show Steps p.tables e below (s₁.setTop (mkF m 28 #[.val (.int nx), .val (.int dd), .val (.int ((10 : Int32) * (-10 : Int32))), .val (.int ((1 : Int32) + (1 : Int32)))] [(.int ((1 : Int32) + (1 : Int32)))])) _
        refine XS.iloadN X0.here hx rfl (hb hby own_d18_28) rfl ?_
        show Steps p.tables e below (s₁.setTop (mkF m 29 #[.val (.int nx), .val (.int dd), .val (.int ((10 : Int32) * (-10 : Int32))), .val (.int ((1 : Int32) + (1 : Int32)))] [(.int dd), (.int ((1 : Int32) + (1 : Int32)))])) _
        refine XS.iadd X0.here hx rfl (hb hby own_d18_29) rfl ?_
        show Steps p.tables e below (s₁.setTop (mkF m 30 #[.val (.int nx), .val (.int dd), .val (.int ((10 : Int32) * (-10 : Int32))), .val (.int ((1 : Int32) + (1 : Int32)))] [(.int (((1 : Int32) + (1 : Int32)) + dd))])) _
        exact k_
      refine own_retI X0 hx Bd.returns Bd.notSynchronized (hb hby own_d18_30) (by decide) (by decide) ?_
      try rw [e0]
      exact ⟨by rw [own_szL (i := 2) (own_digs_len (k := 1) (by omega) (Or.inr (by have := mt (own_bnd hu (a := 10 ^ 1) (by decide)).mpr g1; omega)) ((own_bnd hu (a := 10 ^ 2) (by decide)).mp g2)) edd (by decide) (by omega)], N0, rfl⟩
    · skip
      refine own_go (S' := (s₁.setTop (mkF m 16 #[.val (.int nx), .val (.int dd), .val (.int ((10 : Int32) * ((10 : Int32) * (-10 : Int32)))), .val (.int (((1 : Int32) + (1 : Int32)) + (1 : Int32)))] []))) (fun t_ k_ => ?_) ?_
      · refine XS.icmpYes X0.here hx rfl (pc0 := 24) (pc' := 31) rfl (hb hby own_d18_24) rfl (flt g2).2.2.2 (by decide) (by decide) ?_
        show Steps p.tables e below (s₁.setTop (mkF m 31 #[.val (.int nx), .val (.int dd), .val (.int ((10 : Int32) * (-10 : Int32))), .val (.int ((1 : Int32) + (1 : Int32)))] [])) _
        refine XS.bipush X0.here hx rfl (hb hby own_d18_31) ?_
        show Steps p.tables e below (s₁.setTop (mkF m 33 #[.val (.int nx), .val (.int dd), .val (.int ((10 : Int32) * (-10 : Int32))), .val (.int ((1 : Int32) + (1 : Int32)))] [(.int (10 : Int32))])) _
        refine XS.iloadN X0.here hx rfl (hb hby own_d18_33) rfl ?_
        show Steps p.tables e below (s₁.setTop (mkF m 34 #[.val (.int nx), .val (.int dd), .val (.int ((10 : Int32) * (-10 : Int32))), .val (.int ((1 : Int32) + (1 : Int32)))] [(.int ((10 : Int32) * (-10 : Int32))), (.int (10 : Int32))])) _
        refine XS.imul X0.here hx rfl (hb hby own_d18_34) rfl ?_
        show Steps p.tables e below (s₁.setTop (mkF m 35 #[.val (.int nx), .val (.int dd), .val (.int ((10 : Int32) * (-10 : Int32))), .val (.int ((1 : Int32) + (1 : Int32)))] [(.int ((10 : Int32) * ((10 : Int32) * (-10 : Int32))))])) _
        refine XS.istoreN X0.here hx rfl (hb hby own_d18_35) rfl (l' := #[.val (.int nx), .val (.int dd), .val (.int ((10 : Int32) * ((10 : Int32) * (-10 : Int32)))), .val (.int ((1 : Int32) + (1 : Int32)))]) rfl ?_
        show Steps p.tables e below (s₁.setTop (mkF m 36 #[.val (.int nx), .val (.int dd), .val (.int ((10 : Int32) * ((10 : Int32) * (-10 : Int32)))), .val (.int ((1 : Int32) + (1 : Int32)))] [])) _
        refine XS.iinc X0.here hx rfl (hb hby own_d18_36) rfl (l' := #[.val (.int nx), .val (.int dd), .val (.int ((10 : Int32) * ((10 : Int32) * (-10 : Int32)))), .val (.int (((1 : Int32) + (1 : Int32)) + (1 : Int32)))]) rfl ?_
        show Steps p.tables e below (s₁.setTop (mkF m 39 #[.val (.int nx), .val (.int dd), .val (.int ((10 : Int32) * ((10 : Int32) * (-10 : Int32)))), .val (.int (((1 : Int32) + (1 : Int32)) + (1 : Int32)))] [])) _
        refine XS.goto X0.here hx rfl (pc0 := 39) (pc' := 16) rfl (hb hby own_d18_39) (by decide) (by decide) ?_
        show Steps p.tables e below (s₁.setTop (mkF m 16 #[.val (.int nx), .val (.int dd), .val (.int ((10 : Int32) * ((10 : Int32) * (-10 : Int32)))), .val (.int (((1 : Int32) + (1 : Int32)) + (1 : Int32)))] [])) _
        exact k_
      refine own_go (S' := (s₁.setTop (mkF m 19 #[.val (.int nx), .val (.int dd), .val (.int ((10 : Int32) * ((10 : Int32) * (-10 : Int32)))), .val (.int (((1 : Int32) + (1 : Int32)) + (1 : Int32)))] [(.int (10 : Int32)), (.int (((1 : Int32) + (1 : Int32)) + (1 : Int32)))]))) (fun t_ k_ => ?_) ?_
      · refine XS.iloadN X0.here hx rfl (hb hby own_d18_16) rfl ?_
        show Steps p.tables e below (s₁.setTop (mkF m 17 #[.val (.int nx), .val (.int dd), .val (.int ((10 : Int32) * ((10 : Int32) * (-10 : Int32)))), .val (.int (((1 : Int32) + (1 : Int32)) + (1 : Int32)))] [(.int (((1 : Int32) + (1 : Int32)) + (1 : Int32)))])) _
        refine XS.bipush X0.here hx rfl (hb hby own_d18_17) ?_
        show Steps p.tables e below (s₁.setTop (mkF m 19 #[.val (.int nx), .val (.int dd), .val (.int ((10 : Int32) * ((10 : Int32) * (-10 : Int32)))), .val (.int (((1 : Int32) + (1 : Int32)) + (1 : Int32)))] [(.int (10 : Int32)), (.int (((1 : Int32) + (1 : Int32)) + (1 : Int32)))])) _
        exact k_
      refine own_go (S' := (s₁.setTop (mkF m 24 #[.val (.int nx), .val (.int dd), .val (.int ((10 : Int32) * ((10 : Int32) * (-10 : Int32)))), .val (.int (((1 : Int32) + (1 : Int32)) + (1 : Int32)))] [(.int ((10 : Int32) * ((10 : Int32) * (-10 : Int32)))), (.int nx)]))) (fun t_ k_ => ?_) ?_
      · refine XS.icmpNo X0.here hx rfl (hb hby own_d18_19) rfl (tlt (by decide)).2.1 ?_
        show Steps p.tables e below (s₁.setTop (mkF m 22 #[.val (.int nx), .val (.int dd), .val (.int ((10 : Int32) * ((10 : Int32) * (-10 : Int32)))), .val (.int (((1 : Int32) + (1 : Int32)) + (1 : Int32)))] [])) _
        refine XS.iloadN X0.here hx rfl (hb hby own_d18_22) rfl ?_
        show Steps p.tables e below (s₁.setTop (mkF m 23 #[.val (.int nx), .val (.int dd), .val (.int ((10 : Int32) * ((10 : Int32) * (-10 : Int32)))), .val (.int (((1 : Int32) + (1 : Int32)) + (1 : Int32)))] [(.int nx)])) _
        refine XS.iloadN X0.here hx rfl (hb hby own_d18_23) rfl ?_
        show Steps p.tables e below (s₁.setTop (mkF m 24 #[.val (.int nx), .val (.int dd), .val (.int ((10 : Int32) * ((10 : Int32) * (-10 : Int32)))), .val (.int (((1 : Int32) + (1 : Int32)) + (1 : Int32)))] [(.int ((10 : Int32) * ((10 : Int32) * (-10 : Int32)))), (.int nx)])) _
        exact k_
      by_cases g3 : ((10 : Int32) * ((10 : Int32) * (-10 : Int32))) < nx
      · skip
        refine own_go (S' := (s₁.setTop (mkF m 30 #[.val (.int nx), .val (.int dd), .val (.int ((10 : Int32) * ((10 : Int32) * (-10 : Int32)))), .val (.int (((1 : Int32) + (1 : Int32)) + (1 : Int32)))] [(.int ((((1 : Int32) + (1 : Int32)) + (1 : Int32)) + dd))]))) (fun t_ k_ => ?_) ?_
        · refine XS.icmpNo X0.here hx rfl (hb hby own_d18_24) rfl (tlt g3).2.2.2 ?_
          show Steps p.tables e below (s₁.setTop (mkF m 27 #[.val (.int nx), .val (.int dd), .val (.int ((10 : Int32) * ((10 : Int32) * (-10 : Int32)))), .val (.int (((1 : Int32) + (1 : Int32)) + (1 : Int32)))] [])) _
          refine XS.iloadN X0.here hx rfl (hb hby own_d18_27) rfl ?_
          show Steps p.tables e below (s₁.setTop (mkF m 28 #[.val (.int nx), .val (.int dd), .val (.int ((10 : Int32) * ((10 : Int32) * (-10 : Int32)))), .val (.int (((1 : Int32) + (1 : Int32)) + (1 : Int32)))] [(.int (((1 : Int32) + (1 : Int32)) + (1 : Int32)))])) _
          refine XS.iloadN X0.here hx rfl (hb hby own_d18_28) rfl ?_
          show Steps p.tables e below (s₁.setTop (mkF m 29 #[.val (.int nx), .val (.int dd), .val (.int ((10 : Int32) * ((10 : Int32) * (-10 : Int32)))), .val (.int (((1 : Int32) + (1 : Int32)) + (1 : Int32)))] [(.int dd), (.int (((1 : Int32) + (1 : Int32)) + (1 : Int32)))])) _
          refine XS.iadd X0.here hx rfl (hb hby own_d18_29) rfl ?_
          show Steps p.tables e below (s₁.setTop (mkF m 30 #[.val (.int nx), .val (.int dd), .val (.int ((10 : Int32) * ((10 : Int32) * (-10 : Int32)))), .val (.int (((1 : Int32) + (1 : Int32)) + (1 : Int32)))] [(.int ((((1 : Int32) + (1 : Int32)) + (1 : Int32)) + dd))])) _
          exact k_
        refine own_retI X0 hx Bd.returns Bd.notSynchronized (hb hby own_d18_30) (by decide) (by decide) ?_
        try rw [e0]
        exact ⟨by rw [own_szL (i := 3) (own_digs_len (k := 2) (by omega) (Or.inr (by have := mt (own_bnd hu (a := 10 ^ 2) (by decide)).mpr g2; omega)) ((own_bnd hu (a := 10 ^ 3) (by decide)).mp g3)) edd (by decide) (by omega)], N0, rfl⟩
      · skip
        refine own_go (S' := (s₁.setTop (mkF m 16 #[.val (.int nx), .val (.int dd), .val (.int ((10 : Int32) * ((10 : Int32) * ((10 : Int32) * (-10 : Int32))))), .val (.int ((((1 : Int32) + (1 : Int32)) + (1 : Int32)) + (1 : Int32)))] []))) (fun t_ k_ => ?_) ?_
        · refine XS.icmpYes X0.here hx rfl (pc0 := 24) (pc' := 31) rfl (hb hby own_d18_24) rfl (flt g3).2.2.2 (by decide) (by decide) ?_
          show Steps p.tables e below (s₁.setTop (mkF m 31 #[.val (.int nx), .val (.int dd), .val (.int ((10 : Int32) * ((10 : Int32) * (-10 : Int32)))), .val (.int (((1 : Int32) + (1 : Int32)) + (1 : Int32)))] [])) _
          refine XS.bipush X0.here hx rfl (hb hby own_d18_31) ?_
          show Steps p.tables e below (s₁.setTop (mkF m 33 #[.val (.int nx), .val (.int dd), .val (.int ((10 : Int32) * ((10 : Int32) * (-10 : Int32)))), .val (.int (((1 : Int32) + (1 : Int32)) + (1 : Int32)))] [(.int (10 : Int32))])) _
          refine XS.iloadN X0.here hx rfl (hb hby own_d18_33) rfl ?_
          show Steps p.tables e below (s₁.setTop (mkF m 34 #[.val (.int nx), .val (.int dd), .val (.int ((10 : Int32) * ((10 : Int32) * (-10 : Int32)))), .val (.int (((1 : Int32) + (1 : Int32)) + (1 : Int32)))] [(.int ((10 : Int32) * ((10 : Int32) * (-10 : Int32)))), (.int (10 : Int32))])) _
          refine XS.imul X0.here hx rfl (hb hby own_d18_34) rfl ?_
          show Steps p.tables e below (s₁.setTop (mkF m 35 #[.val (.int nx), .val (.int dd), .val (.int ((10 : Int32) * ((10 : Int32) * (-10 : Int32)))), .val (.int (((1 : Int32) + (1 : Int32)) + (1 : Int32)))] [(.int ((10 : Int32) * ((10 : Int32) * ((10 : Int32) * (-10 : Int32)))))])) _
          refine XS.istoreN X0.here hx rfl (hb hby own_d18_35) rfl (l' := #[.val (.int nx), .val (.int dd), .val (.int ((10 : Int32) * ((10 : Int32) * ((10 : Int32) * (-10 : Int32))))), .val (.int (((1 : Int32) + (1 : Int32)) + (1 : Int32)))]) rfl ?_
          show Steps p.tables e below (s₁.setTop (mkF m 36 #[.val (.int nx), .val (.int dd), .val (.int ((10 : Int32) * ((10 : Int32) * ((10 : Int32) * (-10 : Int32))))), .val (.int (((1 : Int32) + (1 : Int32)) + (1 : Int32)))] [])) _
          refine XS.iinc X0.here hx rfl (hb hby own_d18_36) rfl (l' := #[.val (.int nx), .val (.int dd), .val (.int ((10 : Int32) * ((10 : Int32) * ((10 : Int32) * (-10 : Int32))))), .val (.int ((((1 : Int32) + (1 : Int32)) + (1 : Int32)) + (1 : Int32)))]) rfl ?_
          show Steps p.tables e below (s₁.setTop (mkF m 39 #[.val (.int nx), .val (.int dd), .val (.int ((10 : Int32) * ((10 : Int32) * ((10 : Int32) * (-10 : Int32))))), .val (.int ((((1 : Int32) + (1 : Int32)) + (1 : Int32)) + (1 : Int32)))] [])) _
          refine XS.goto X0.here hx rfl (pc0 := 39) (pc' := 16) rfl (hb hby own_d18_39) (by decide) (by decide) ?_
          show Steps p.tables e below (s₁.setTop (mkF m 16 #[.val (.int nx), .val (.int dd), .val (.int ((10 : Int32) * ((10 : Int32) * ((10 : Int32) * (-10 : Int32))))), .val (.int ((((1 : Int32) + (1 : Int32)) + (1 : Int32)) + (1 : Int32)))] [])) _
          exact k_
        refine own_go (S' := (s₁.setTop (mkF m 19 #[.val (.int nx), .val (.int dd), .val (.int ((10 : Int32) * ((10 : Int32) * ((10 : Int32) * (-10 : Int32))))), .val (.int ((((1 : Int32) + (1 : Int32)) + (1 : Int32)) + (1 : Int32)))] [(.int (10 : Int32)), (.int ((((1 : Int32) + (1 : Int32)) + (1 : Int32)) + (1 : Int32)))]))) (fun t_ k_ => ?_) ?_
        · refine XS.iloadN X0.here hx rfl (hb hby own_d18_16) rfl ?_
          show Steps p.tables e below (s₁.setTop (mkF m 17 #[.val (.int nx), .val (.int dd), .val (.int ((10 : Int32) * ((10 : Int32) * ((10 : Int32) * (-10 : Int32))))), .val (.int ((((1 : Int32) + (1 : Int32)) + (1 : Int32)) + (1 : Int32)))] [(.int ((((1 : Int32) + (1 : Int32)) + (1 : Int32)) + (1 : Int32)))])) _
          refine XS.bipush X0.here hx rfl (hb hby own_d18_17) ?_
          show Steps p.tables e below (s₁.setTop (mkF m 19 #[.val (.int nx), .val (.int dd), .val (.int ((10 : Int32) * ((10 : Int32) * ((10 : Int32) * (-10 : Int32))))), .val (.int ((((1 : Int32) + (1 : Int32)) + (1 : Int32)) + (1 : Int32)))] [(.int (10 : Int32)), (.int ((((1 : Int32) + (1 : Int32)) + (1 : Int32)) + (1 : Int32)))])) _
          exact k_
        refine own_go (S' := (s₁.setTop (mkF m 24 #[.val (.int nx), .val (.int dd), .val (.int ((10 : Int32) * ((10 : Int32) * ((10 : Int32) * (-10 : Int32))))), .val (.int ((((1 : Int32) + (1 : Int32)) + (1 : Int32)) + (1 : Int32)))] [(.int ((10 : Int32) * ((10 : Int32) * ((10 : Int32) * (-10 : Int32))))), (.int nx)]))) (fun t_ k_ => ?_) ?_
        · refine XS.icmpNo X0.here hx rfl (hb hby own_d18_19) rfl (tlt (by decide)).2.1 ?_
          show Steps p.tables e below (s₁.setTop (mkF m 22 #[.val (.int nx), .val (.int dd), .val (.int ((10 : Int32) * ((10 : Int32) * ((10 : Int32) * (-10 : Int32))))), .val (.int ((((1 : Int32) + (1 : Int32)) + (1 : Int32)) + (1 : Int32)))] [])) _
          refine XS.iloadN X0.here hx rfl (hb hby own_d18_22) rfl ?_
          show Steps p.tables e below (s₁.setTop (mkF m 23 #[.val (.int nx), .val (.int dd), .val (.int ((10 : Int32) * ((10 : Int32) * ((10 : Int32) * (-10 : Int32))))), .val (.int ((((1 : Int32) + (1 : Int32)) + (1 : Int32)) + (1 : Int32)))] [(.int nx)])) _
          refine XS.iloadN X0.here hx rfl (hb hby own_d18_23) rfl ?_
          show Steps p.tables e below (s₁.setTop (mkF m 24 #[.val (.int nx), .val (.int dd), .val (.int ((10 : Int32) * ((10 : Int32) * ((10 : Int32) * (-10 : Int32))))), .val (.int ((((1 : Int32) + (1 : Int32)) + (1 : Int32)) + (1 : Int32)))] [(.int ((10 : Int32) * ((10 : Int32) * ((10 : Int32) * (-10 : Int32))))), (.int nx)])) _
          exact k_
        by_cases g4 : ((10 : Int32) * ((10 : Int32) * ((10 : Int32) * (-10 : Int32)))) < nx
        · skip
          refine own_go (S' := (s₁.setTop (mkF m 30 #[.val (.int nx), .val (.int dd), .val (.int ((10 : Int32) * ((10 : Int32) * ((10 : Int32) * (-10 : Int32))))), .val (.int ((((1 : Int32) + (1 : Int32)) + (1 : Int32)) + (1 : Int32)))] [(.int (((((1 : Int32) + (1 : Int32)) + (1 : Int32)) + (1 : Int32)) + dd))]))) (fun t_ k_ => ?_) ?_
          · refine XS.icmpNo X0.here hx rfl (hb hby own_d18_24) rfl (tlt g4).2.2.2 ?_
            show Steps p.tables e below (s₁.setTop (mkF m 27 #[.val (.int nx), .val (.int dd), .val (.int ((10 : Int32) * ((10 : Int32) * ((10 : Int32) * (-10 : Int32))))), .val (.int ((((1 : Int32) + (1 : Int32)) + (1 : Int32)) + (1 : Int32)))] [])) _
            refine XS.iloadN X0.here hx rfl (hb hby own_d18_27) rfl ?_
            show Steps p.tables e below (s₁.setTop (mkF m 28 #[.val (.int nx), .val (.int dd), .val (.int ((10 : Int32) * ((10 : Int32) * ((10 : Int32) * (-10 : Int32))))), .val (.int ((((1 : Int32) + (1 : Int32)) + (1 : Int32)) + (1 : Int32)))] [(.int ((((1 : Int32) + (1 : Int32)) + (1 : Int32)) + (1 : Int32)))])) _
            refine XS.iloadN X0.here hx rfl (hb hby own_d18_28) rfl ?_
            show Steps p.tables e below (s₁.setTop (mkF m 29 #[.val (.int nx), .val (.int dd), .val (.int ((10 : Int32) * ((10 : Int32) * ((10 : Int32) * (-10 : Int32))))), .val (.int ((((1 : Int32) + (1 : Int32)) + (1 : Int32)) + (1 : Int32)))] [(.int dd), (.int ((((1 : Int32) + (1 : Int32)) + (1 : Int32)) + (1 : Int32)))])) _
            refine XS.iadd X0.here hx rfl (hb hby own_d18_29) rfl ?_
            show Steps p.tables e below (s₁.setTop (mkF m 30 #[.val (.int nx), .val (.int dd), .val (.int ((10 : Int32) * ((10 : Int32) * ((10 : Int32) * (-10 : Int32))))), .val (.int ((((1 : Int32) + (1 : Int32)) + (1 : Int32)) + (1 : Int32)))] [(.int (((((1 : Int32) + (1 : Int32)) + (1 : Int32)) + (1 : Int32)) + dd))])) _
            exact k_
          refine own_retI X0 hx Bd.returns Bd.notSynchronized (hb hby own_d18_30) (by decide) (by decide) ?_
          try rw [e0]
          exact ⟨by rw [own_szL (i := 4) (own_digs_len (k := 3) (by omega) (Or.inr (by have := mt (own_bnd hu (a := 10 ^ 3) (by decide)).mpr g3; omega)) ((own_bnd hu (a := 10 ^ 4) (by decide)).mp g4)) edd (by decide) (by omega)], N0, rfl⟩
        · skip
          refine own_go (S' := (s₁.setTop (mkF m 16 #[.val (.int nx), .val (.int dd), .val (.int ((10 : Int32) * ((10 : Int32) * ((10 : Int32) * ((10 : Int32) * (-10 : Int32)))))), .val (.int (((((1 : Int32) + (1 : Int32)) + (1 : Int32)) + (1 : Int32)) + (1 : Int32)))] []))) (fun t_ k_ => ?_) ?_
          · refine XS.icmpYes X0.here hx rfl (pc0 := 24) (pc' := 31) rfl (hb hby own_d18_24) rfl (flt g4).2.2.2 (by decide) (by decide) ?_
            show Steps p.tables e below (s₁.setTop (mkF m 31 #[.val (.int nx), .val (.int dd), .val (.int ((10 : Int32) * ((10 : Int32) * ((10 : Int32) * (-10 : Int32))))), .val (.int ((((1 : Int32) + (1 : Int32)) + (1 : Int32)) + (1 : Int32)))] [])) _
            refine XS.bipush X0.here hx rfl (hb hby own_d18_31) ?_
            show Steps p.tables e below (s₁.setTop (mkF m 33 #[.val (.int nx), .val (.int dd), .val (.int ((10 : Int32) * ((10 : Int32) * ((10 : Int32) * (-10 : Int32))))), .val (.int ((((1 : Int32) + (1 : Int32)) + (1 : Int32)) + (1 : Int32)))] [(.int (10 : Int32))])) _
            refine XS.iloadN X0.here hx rfl (hb hby own_d18_33) rfl ?_
            show Steps p.tables e below (s₁.setTop (mkF m 34 #[.val (.int nx), .val (.int dd), .val (.int ((10 : Int32) * ((10 : Int32) * ((10 : Int32) * (-10 : Int32))))), .val (.int ((((1 : Int32) + (1 : Int32)) + (1 : Int32)) + (1 : Int32)))] [(.int ((10 : Int32) * ((10 : Int32) * ((10 : Int32) * (-10 : Int32))))), (.int (10 : Int32))])) _
            refine XS.imul X0.here hx rfl (hb hby own_d18_34) rfl ?_
            show Steps p.tables e below (s₁.setTop (mkF m 35 #[.val (.int nx), .val (.int dd), .val (.int ((10 : Int32) * ((10 : Int32) * ((10 : Int32) * (-10 : Int32))))), .val (.int ((((1 : Int32) + (1 : Int32)) + (1 : Int32)) + (1 : Int32)))] [(.int ((10 : Int32) * ((10 : Int32) * ((10 : Int32) * ((10 : Int32) * (-10 : Int32))))))])) _
            refine XS.istoreN X0.here hx rfl (hb hby own_d18_35) rfl (l' := #[.val (.int nx), .val (.int dd), .val (.int ((10 : Int32) * ((10 : Int32) * ((10 : Int32) * ((10 : Int32) * (-10 : Int32)))))), .val (.int ((((1 : Int32) + (1 : Int32)) + (1 : Int32)) + (1 : Int32)))]) rfl ?_
            show Steps p.tables e below (s₁.setTop (mkF m 36 #[.val (.int nx), .val (.int dd), .val (.int ((10 : Int32) * ((10 : Int32) * ((10 : Int32) * ((10 : Int32) * (-10 : Int32)))))), .val (.int ((((1 : Int32) + (1 : Int32)) + (1 : Int32)) + (1 : Int32)))] [])) _
            refine XS.iinc X0.here hx rfl (hb hby own_d18_36) rfl (l' := #[.val (.int nx), .val (.int dd), .val (.int ((10 : Int32) * ((10 : Int32) * ((10 : Int32) * ((10 : Int32) * (-10 : Int32)))))), .val (.int (((((1 : Int32) + (1 : Int32)) + (1 : Int32)) + (1 : Int32)) + (1 : Int32)))]) rfl ?_
            show Steps p.tables e below (s₁.setTop (mkF m 39 #[.val (.int nx), .val (.int dd), .val (.int ((10 : Int32) * ((10 : Int32) * ((10 : Int32) * ((10 : Int32) * (-10 : Int32)))))), .val (.int (((((1 : Int32) + (1 : Int32)) + (1 : Int32)) + (1 : Int32)) + (1 : Int32)))] [])) _
            refine XS.goto X0.here hx rfl (pc0 := 39) (pc' := 16) rfl (hb hby own_d18_39) (by decide) (by decide) ?_
            show Steps p.tables e below (s₁.setTop (mkF m 16 #[.val (.int nx), .val (.int dd), .val (.int ((10 : Int32) * ((10 : Int32) * ((10 : Int32) * ((10 : Int32) * (-10 : Int32)))))), .val (.int (((((1 : Int32) + (1 : Int32)) + (1 : Int32)) + (1 : Int32)) + (1 : Int32)))] [])) _
            exact k_
          refine own_go (S' := (s₁.setTop (mkF m 19 #[.val (.int nx), .val (.int dd), .val (.int ((10 : Int32) * ((10 : Int32) * ((10 : Int32) * ((10 : Int32) * (-10 : Int32)))))), .val (.int (((((1 : Int32) + (1 : Int32)) + (1 : Int32)) + (1 : Int32)) + (1 : Int32)))] [(.int (10 : Int32)), (.int (((((1 : Int32) + (1 : Int32)) + (1 : Int32)) + (1 : Int32)) + (1 : Int32)))]))) (fun t_ k_ => ?_) ?_
          · refine XS.iloadN X0.here hx rfl (hb hby own_d18_16) rfl ?_
            show Steps p.tables e below (s₁.setTop (mkF m 17 #[.val (.int nx), .val (.int dd), .val (.int ((10 : Int32) * ((10 : Int32) * ((10 : Int32) * ((10 : Int32) * (-10 : Int32)))))), .val (.int (((((1 : Int32) + (1 : Int32)) + (1 : Int32)) + (1 : Int32)) + (1 : Int32)))] [(.int (((((1 : Int32) + (1 : Int32)) + (1 : Int32)) + (1 : Int32)) + (1 : Int32)))])) _
            refine XS.bipush X0.here hx rfl (hb hby own_d18_17) ?_
            show Steps p.tables e below (s₁.setTop (mkF m 19 #[.val (.int nx), .val (.int dd), .val (.int ((10 : Int32) * ((10 : Int32) * ((10 : Int32) * ((10 : Int32) * (-10 : Int32)))))), .val (.int (((((1 : Int32) + (1 : Int32)) + (1 : Int32)) + (1 : Int32)) + (1 : Int32)))] [(.int (10 : Int32)), (.int (((((1 : Int32) + (1 : Int32)) + (1 : Int32)) + (1 : Int32)) + (1 : Int32)))])) _
            exact k_
          refine own_go (S' := (s₁.setTop (mkF m 24 #[.val (.int nx), .val (.int dd), .val (.int ((10 : Int32) * ((10 : Int32) * ((10 : Int32) * ((10 : Int32) * (-10 : Int32)))))), .val (.int (((((1 : Int32) + (1 : Int32)) + (1 : Int32)) + (1 : Int32)) + (1 : Int32)))] [(.int ((10 : Int32) * ((10 : Int32) * ((10 : Int32) * ((10 : Int32) * (-10 : Int32)))))), (.int nx)]))) (fun t_ k_ => ?_) ?_
          · refine XS.icmpNo X0.here hx rfl (hb hby own_d18_19) rfl (tlt (by decide)).2.1 ?_
            show Steps p.tables e below (s₁.setTop (mkF m 22 #[.val (.int nx), .val (.int dd), .val (.int ((10 : Int32) * ((10 : Int32) * ((10 : Int32) * ((10 : Int32) * (-10 : Int32)))))), .val (.int (((((1 : Int32) + (1 : Int32)) + (1 : Int32)) + (1 : Int32)) + (1 : Int32)))] [])) _
            refine XS.iloadN X0.here hx rfl (hb hby own_d18_22) rfl ?_
            show Steps p.tables e below (s₁.setTop (mkF m 23 #[.val (.int nx), .val (.int dd), .val (.int ((10 : Int32) * ((10 : Int32) * ((10 : Int32) * ((10 : Int32) * (-10 : Int32)))))), .val (.int (((((1 : Int32) + (1 : Int32)) + (1 : Int32)) + (1 : Int32)) + (1 : Int32)))] [(.int nx)])) _
            refine XS.iloadN X0.here hx rfl (hb hby own_d18_23) rfl ?_
            show Steps p.tables e below (s₁.setTop (mkF m 24 #[.val (.int nx), .val (.int dd), .val (.int ((10 : Int32) * ((10 : Int32) * ((10 : Int32) * ((10 : Int32) * (-10 : Int32)))))), .val (.int (((((1 : Int32) + (1 : Int32)) + (1 : Int32)) + (1 : Int32)) + (1 : Int32)))] [(.int ((10 : Int32) * ((10 : Int32) * ((10 : Int32) * ((10 : Int32) * (-10 : Int32)))))), (.int nx)])) _
            exact k_
          by_cases g5 : ((10 : Int32) * ((10 : Int32) * ((10 : Int32) * ((10 : Int32) * (-10 : Int32))))) < nx
          · skip
            refine own_go (S' := (s₁.setTop (mkF m 30 #[.val (.int nx), .val (.int dd), .val (.int ((10 : Int32) * ((10 : Int32) * ((10 : Int32) * ((10 : Int32) * (-10 : Int32)))))), .val (.int (((((1 : Int32) + (1 : Int32)) + (1 : Int32)) + (1 : Int32)) + (1 : Int32)))] [(.int ((((((1 : Int32) + (1 : Int32)) + (1 : Int32)) + (1 : Int32)) + (1 : Int32)) + dd))]))) (fun t_ k_ => ?_) ?_
            · refine XS.icmpNo X0.here hx rfl (hb hby own_d18_24) rfl (tlt g5).2.2.2 ?_
              show Steps p.tables e below (s₁.setTop (mkF m 27 #[.val (.int nx), .val (.int dd), .val (.int ((10 : Int32) * ((10 : Int32) * ((10 : Int32) * ((10 : Int32) * (-10 : Int32)))))), .val (.int (((((1 : Int32) + (1 : Int32)) + (1 : Int32)) + (1 : Int32)) + (1 : Int32)))] [])) _
              refine XS.iloadN X0.here hx rfl (hb hby own_d18_27) rfl ?_
              show Steps p.tables e below (s₁.setTop (mkF m 28 #[.val (.int nx), .val (.int dd), .val (.int ((10 : Int32) * ((10 : Int32) * ((10 : Int32) * ((10 : Int32) * (-10 : Int32)))))), .val (.int (((((1 : Int32) + (1 : Int32)) + (1 : Int32)) + (1 : Int32)) + (1 : Int32)))] [(.int (((((1 : Int32) + (1 : Int32)) + (1 : Int32)) + (1 : Int32)) + (1 : Int32)))])) _
              refine XS.iloadN X0.here hx rfl (hb hby own_d18_28) rfl ?_
              show Steps p.tables e below (s₁.setTop (mkF m 29 #[.val (.int nx), .val (.int dd), .val (.int ((10 : Int32) * ((10 : Int32) * ((10 : Int32) * ((10 : Int32) * (-10 : Int32)))))), .val (.int (((((1 : Int32) + (1 : Int32)) + (1 : Int32)) + (1 : Int32)) + (1 : Int32)))] [(.int dd), (.int (((((1 : Int32) + (1 : Int32)) + (1 : Int32)) + (1 : Int32)) + (1 : Int32)))])) _
              refine XS.iadd X0.here hx rfl (hb hby own_d18_29) rfl ?_
              show Steps p.tables e below (s₁.setTop (mkF m 30 #[.val (.int nx), .val (.int dd), .val (.int ((10 : Int32) * ((10 : Int32) * ((10 : Int32) * ((10 : Int32) * (-10 : Int32)))))), .val (.int (((((1 : Int32) + (1 : Int32)) + (1 : Int32)) + (1 : Int32)) + (1 : Int32)))] [(.int ((((((1 : Int32) + (1 : Int32)) + (1 : Int32)) + (1 : Int32)) + (1 : Int32)) + dd))])) _
              exact k_
            refine own_retI X0 hx Bd.returns Bd.notSynchronized (hb hby own_d18_30) (by decide) (by decide) ?_
            try rw [e0]
            exact ⟨by rw [own_szL (i := 5) (own_digs_len (k := 4) (by omega) (Or.inr (by have := mt (own_bnd hu (a := 10 ^ 4) (by decide)).mpr g4; omega)) ((own_bnd hu (a := 10 ^ 5) (by decide)).mp g5)) edd (by decide) (by omega)], N0, rfl⟩
          · skip
            refine own_go (S' := (s₁.setTop (mkF m 16 #[.val (.int nx), .val (.int dd), .val (.int ((10 : Int32) * ((10 : Int32) * ((10 : Int32) * ((10 : Int32) * ((10 : Int32) * (-10 : Int32))))))), .val (.int ((((((1 : Int32) + (1 : Int32)) + (1 : Int32)) + (1 : Int32)) + (1 : Int32)) + (1 : Int32)))] []))) (fun t_ k_ => ?_) ?_
            · refine XS.icmpYes X0.here hx rfl (pc0 := 24) (pc' := 31) rfl (hb hby own_d18_24) rfl (flt g5).2.2.2 (by decide) (by decide) ?_
              show Steps p.tables e below (s₁.setTop (mkF m 31 #[.val (.int nx), .val (.int dd), .val (.int ((10 : Int32) * ((10 : Int32) * ((10 : Int32) * ((10 : Int32) * (-10 : Int32)))))), .val (.int (((((1 : Int32) + (1 : Int32)) + (1 : Int32)) + (1 : Int32)) + (1 : Int32)))] [])) _
              refine XS.bipush X0.here hx rfl (hb hby own_d18_31) ?_
              show Steps p.tables e below (s₁.setTop (mkF m 33 #[.val (.int nx), .val (.int dd), .val (.int ((10 : Int32) * ((10 : Int32) * ((10 : Int32) * ((10 : Int32) * (-10 : Int32)))))), .val (.int (((((1 : Int32) + (1 : Int32)) + (1 : Int32)) + (1 : Int32)) + (1 : Int32)))] [(.int (10 : Int32))])) _
              refine XS.iloadN X0.here hx rfl (hb hby own_d18_33) rfl ?_
              show Steps p.tables e below (s₁.setTop (mkF m 34 #[.val (.int nx), .val (.int dd), .val (.int ((10 : Int32) * ((10 : Int32) * ((10 : Int32) * ((10 : Int32) * (-10 : Int32)))))), .val (.int (((((1 : Int32) + (1 : Int32)) + (1 : Int32)) + (1 : Int32)) + (1 : Int32)))] [(.int ((10 : Int32) * ((10 : Int32) * ((10 : Int32) * ((10 : Int32) * (-10 : Int32)))))), (.int (10 : Int32))])) _
              refine XS.imul X0.here hx rfl (hb hby own_d18_34) rfl ?_
              show Steps p.tables e below (s₁.setTop (mkF m 35 #[.val (.int nx), .val (.int dd), .val (.int ((10 : Int32) * ((10 : Int32) * ((10 : Int32) * ((10 : Int32) * (-10 : Int32)))))), .val (.int (((((1 : Int32) + (1 : Int32)) + (1 : Int32)) + (1 : Int32)) + (1 : Int32)))] [(.int ((10 : Int32) * ((10 : Int32) * ((10 : Int32) * ((10 : Int32) * ((10 : Int32) * (-10 : Int32)))))))])) _
              refine XS.istoreN X0.here hx rfl (hb hby own_d18_35) rfl (l' := #[.val (.int nx), .val (.int dd), .val (.int ((10 : Int32) * ((10 : Int32) * ((10 : Int32) * ((10 : Int32) * ((10 : Int32) * (-10 : Int32))))))), .val (.int (((((1 : Int32) + (1 : Int32)) + (1 : Int32)) + (1 : Int32)) + (1 : Int32)))]) rfl ?_
              show Steps p.tables e below (s₁.setTop (mkF m 36 #[.val (.int nx), .val (.int dd), .val (.int ((10 : Int32) * ((10 : Int32) * ((10 : Int32) * ((10 : Int32) * ((10 : Int32) * (-10 : Int32))))))), .val (.int (((((1 : Int32) + (1 : Int32)) + (1 : Int32)) + (1 : Int32)) + (1 : Int32)))] [])) _
              refine XS.iinc X0.here hx rfl (hb hby own_d18_36) rfl (l' := #[.val (.int nx), .val (.int dd), .val (.int ((10 : Int32) * ((10 : Int32) * ((10 : Int32) * ((10 : Int32) * ((10 : Int32) * (-10 : Int32))))))), .val (.int ((((((1 : Int32) + (1 : Int32)) + (1 : Int32)) + (1 : Int32)) + (1 : Int32)) + (1 : Int32)))]) rfl ?_
              show Steps p.tables e below (s₁.setTop (mkF m 39 #[.val (.int nx), .val (.int dd), .val (.int ((10 : Int32) * ((10 : Int32) * ((10 : Int32) * ((10 : Int32) * ((10 : Int32) * (-10 : Int32))))))), .val (.int ((((((1 : Int32) + (1 : Int32)) + (1 : Int32)) + (1 : Int32)) + (1 : Int32)) + (1 : Int32)))] [])) _
              refine XS.goto X0.here hx rfl (pc0 := 39) (pc' := 16) rfl (hb hby own_d18_39) (by decide) (by decide) ?_
              show Steps p.tables e below (s₁.setTop (mkF m 16 #[.val (.int nx), .val (.int dd), .val (.int ((10 : Int32) * ((10 : Int32) * ((10 : Int32) * ((10 : Int32) * ((10 : Int32) * (-10 : Int32))))))), .val (.int ((((((1 : Int32) + (1 : Int32)) + (1 : Int32)) + (1 : Int32)) + (1 : Int32)) + (1 : Int32)))] [])) _
              exact k_
            refine own_go (S' := (s₁.setTop (mkF m 19 #[.val (.int nx), .val (.int dd), .val (.int ((10 : Int32) * ((10 : Int32) * ((10 : Int32) * ((10 : Int32) * ((10 : Int32) * (-10 : Int32))))))), .val (.int ((((((1 : Int32) + (1 : Int32)) + (1 : Int32)) + (1 : Int32)) + (1 : Int32)) + (1 : Int32)))] [(.int (10 : Int32)), (.int ((((((1 : Int32) + (1 : Int32)) + (1 : Int32)) + (1 : Int32)) + (1 : Int32)) + (1 : Int32)))]))) (fun t_ k_ => ?_) ?_
            · refine XS.iloadN X0.here hx rfl (hb hby own_d18_16) rfl ?_
              show Steps p.tables e below (s₁.setTop (mkF m 17 #[.val (.int nx), .val (.int dd), .val (.int ((10 : Int32) * ((10 : Int32) * ((10 : Int32) * ((10 : Int32) * ((10 : Int32) * (-10 : Int32))))))), .val (.int ((((((1 : Int32) + (1 : Int32)) + (1 : Int32)) + (1 : Int32)) + (1 : Int32)) + (1 : Int32)))] [(.int ((((((1 : Int32) + (1 : Int32)) + (1 : Int32)) + (1 : Int32)) + (1 : Int32)) + (1 : Int32)))])) _
              refine XS.bipush X0.here hx rfl (hb hby own_d18_17) ?_
              show Steps p.tables e below (s₁.setTop (mkF m 19 #[.val (.int nx), .val (.int dd), .val (.int ((10 : Int32) * ((10 : Int32) * ((10 : Int32) * ((10 : Int32) * ((10 : Int32) * (-10 : Int32))))))), .val (.int ((((((1 : Int32) + (1 : Int32)) + (1 : Int32)) + (1 : Int32)) + (1 : Int32)) + (1 : Int32)))] [(.int (10 : Int32)), (.int ((((((1 : Int32) + (1 : Int32)) + (1 : Int32)) + (1 : Int32)) + (1 : Int32)) + (1 : Int32)))])) _
              exact k_
            refine own_go (S' := (s₁.setTop (mkF m 24 #[.val (.int nx), .val (.int dd), .val (.int ((10 : Int32) * ((10 : Int32) * ((10 : Int32) * ((10 : Int32) * ((10 : Int32) * (-10 : Int32))))))), .val (.int ((((((1 : Int32) + (1 : Int32)) + (1 : Int32)) + (1 : Int32)) + (1 : Int32)) + (1 : Int32)))] [(.int ((10 : Int32) * ((10 : Int32) * ((10 : Int32) * ((10 : Int32) * ((10 : Int32) * (-10 : Int32))))))), (.int nx)]))) (fun t_ k_ => ?_) ?_
            · refine XS.icmpNo X0.here hx rfl (hb hby own_d18_19) rfl (tlt (by decide)).2.1 ?_
              show Steps p.tables e below (s₁.setTop (mkF m 22 #[.val (.int nx), .val (.int dd), .val (.int ((10 : Int32) * ((10 : Int32) * ((10 : Int32) * ((10 : Int32) * ((10 : Int32) * (-10 : Int32))))))), .val (.int ((((((1 : Int32) + (1 : Int32)) + (1 : Int32)) + (1 : Int32)) + (1 : Int32)) + (1 : Int32)))] [])) _
              refine XS.iloadN X0.here hx rfl (hb hby own_d18_22) rfl ?_
              show Steps p.tables e below (s₁.setTop (mkF m 23 #[.val (.int nx), .val (.int dd), .val (.int ((10 : Int32) * ((10 : Int32) * ((10 : Int32) * ((10 : Int32) * ((10 : Int32) * (-10 : Int32))))))), .val (.int ((((((1 : Int32) + (1 : Int32)) + (1 : Int32)) + (1 : Int32)) + (1 : Int32)) + (1 : Int32)))] [(.int nx)])) _
              refine XS.iloadN X0.here hx rfl (hb hby own_d18_23) rfl ?_
              show Steps p.tables e below (s₁.setTop (mkF m 24 #[.val (.int nx), .val (.int dd), .val (.int ((10 : Int32) * ((10 : Int32) * ((10 : Int32) * ((10 : Int32) * ((10 : Int32) * (-10 : Int32))))))), .val (.int ((((((1 : Int32) + (1 : Int32)) + (1 : Int32)) + (1 : Int32)) + (1 : Int32)) + (1 : Int32)))] [(.int ((10 : Int32) * ((10 : Int32) * ((10 : Int32) * ((10 : Int32) * ((10 : Int32) * (-10 : Int32))))))), (.int nx)])) _
              exact k_
            by_cases g6 : ((10 : Int32) * ((10 : Int32) * ((10 : Int32) * ((10 : Int32) * ((10 : Int32) * (-10 : Int32)))))) < nx
            · skip
              refine own_go (S' := (s₁.setTop (mkF m 30 #[.val (.int nx), .val (.int dd), .val (.int ((10 : Int32) * ((10 : Int32) * ((10 : Int32) * ((10 : Int32) * ((10 : Int32) * (-10 : Int32))))))), .val (.int ((((((1 : Int32) + (1 : Int32)) + (1 : Int32)) + (1 : Int32)) + (1 : Int32)) + (1 : Int32)))] [(.int (((((((1 : Int32) + (1 : Int32)) + (1 : Int32)) + (1 : Int32)) + (1 : Int32)) + (1 : Int32)) + dd))]))) (fun t_ k_ => ?_) ?_
              · refine XS.icmpNo X0.here hx rfl (hb hby own_d18_24) rfl (tlt g6).2.2.2 ?_
                show Steps p.tables e below (s₁.setTop (mkF m 27 #[.val (.int nx), .val (.int dd), .val (.int ((10 : Int32) * ((10 : Int32) * ((10 : Int32) * ((10 : Int32) * ((10 : Int32) * (-10 : Int32))))))), .val (.int ((((((1 : Int32) + (1 : Int32)) + (1 : Int32)) + (1 : Int32)) + (1 : Int32)) + (1 : Int32)))] [])) _
                refine XS.iloadN X0.here hx rfl (hb hby own_d18_27) rfl ?_
                show Steps p.tables e below (s₁.setTop (mkF m 28 #[.val (.int nx), .val (.int dd), .val (.int ((10 : Int32) * ((10 : Int32) * ((10 : Int32) * ((10 : Int32) * ((10 : Int32) * (-10 : Int32))))))), .val (.int ((((((1 : Int32) + (1 : Int32)) + (1 : Int32)) + (1 : Int32)) + (1 : Int32)) + (1 : Int32)))] [(.int ((((((1 : Int32) + (1 : Int32)) + (1 : Int32)) + (1 : Int32)) + (1 : Int32)) + (1 : Int32)))])) _
                refine XS.iloadN X0.here hx rfl (hb hby own_d18_28) rfl ?_
                show Steps p.tables e below (s₁.setTop (mkF m 29 #[.val (.int nx), .val (.int dd), .val (.int ((10 : Int32) * ((10 : Int32) * ((10 : Int32) * ((10 : Int32) * ((10 : Int32) * (-10 : Int32))))))), .val (.int ((((((1 : Int32) + (1 : Int32)) + (1 : Int32)) + (1 : Int32)) + (1 : Int32)) + (1 : Int32)))] [(.int dd), (.int ((((((1 : Int32) + (1 : Int32)) + (1 : Int32)) + (1 : Int32)) + (1 : Int32)) + (1 : Int32)))])) _
                refine XS.iadd X0.here hx rfl (hb hby own_d18_29) rfl ?_
                show Steps p.tables e below (s₁.setTop (mkF m 30 #[.val (.int nx), .val (.int dd), .val (.int ((10 : Int32) * ((10 : Int32) * ((10 : Int32) * ((10 : Int32) * ((10 : Int32) * (-10 : Int32))))))), .val (.int ((((((1 : Int32) + (1 : Int32)) + (1 : Int32)) + (1 : Int32)) + (1 : Int32)) + (1 : Int32)))] [(.int (((((((1 : Int32) + (1 : Int32)) + (1 : Int32)) + (1 : Int32)) + (1 : Int32)) + (1 : Int32)) + dd))])) _
                exact k_
              refine own_retI X0 hx Bd.returns Bd.notSynchronized (hb hby own_d18_30) (by decide) (by decide) ?_
              try rw [e0]
              exact ⟨by rw [own_szL (i := 6) (own_digs_len (k := 5) (by omega) (Or.inr (by have := mt (own_bnd hu (a := 10 ^ 5) (by decide)).mpr g5; omega)) ((own_bnd hu (a := 10 ^ 6) (by decide)).mp g6)) edd (by decide) (by omega)], N0, rfl⟩
            · skip
              refine own_go (S' := (s₁.setTop (mkF m 16 #[.val (.int nx), .val (.int dd), .val (.int ((10 : Int32) * ((10 : Int32) * ((10 : Int32) * ((10 : Int32) * ((10 : Int32) * ((10 : Int32) * (-10 : Int32)))))))), .val (.int (((((((1 : Int32) + (1 : Int32)) + (1 : Int32)) + (1 : Int32)) + (1 : Int32)) + (1 : Int32)) + (1 : Int32)))] []))) (fun t_ k_ => ?_) ?_
              · refine XS.icmpYes X0.here hx rfl (pc0 := 24) (pc' := 31) rfl (hb hby own_d18_24) rfl (flt g6).2.2.2 (by decide) (by decide) ?_
                show Steps p.tables e below (s₁.setTop (mkF m 31 #[.val (.int nx), .val (.int dd), .val (.int ((10 : Int32) * ((10 : Int32) * ((10 : Int32) * ((10 : Int32) * ((10 : Int32) * (-10 : Int32))))))), .val (.int ((((((1 : Int32) + (1 : Int32)) + (1 : Int32)) + (1 : Int32)) + (1 : Int32)) + (1 : Int32)))] [])) _
                refine XS.bipush X0.here hx rfl (hb hby own_d18_31) ?_
                show Steps p.tables e below (s₁.setTop (mkF m 33 #[.val (.int nx), .val (.int dd), .val (.int ((10 : Int32) * ((10 : Int32) * ((10 : Int32) * ((10 : Int32) * ((10 : Int32) * (-10 : Int32))))))), .val (.int ((((((1 : Int32) + (1 : Int32)) + (1 : Int32)) + (1 : Int32)) + (1 : Int32)) + (1 : Int32)))] [(.int (10 : Int32))])) _
                refine XS.iloadN X0.here hx rfl (hb hby own_d18_33) rfl ?_
                show Steps p.tables e below (s₁.setTop (mkF m 34 #[.val (.int nx), .val (.int dd), .val (.int ((10 : Int32) * ((10 : Int32) * ((10 : Int32) * ((10 : Int32) * ((10 : Int32) * (-10 : Int32))))))), .val (.int ((((((1 : Int32) + (1 : Int32)) + (1 : Int32)) + (1 : Int32)) + (1 : Int32)) + (1 : Int32)))] [(.int ((10 : Int32) * ((10 : Int32) * ((10 : Int32) * ((10 : Int32) * ((10 : Int32) * (-10 : Int32))))))), (.int (10 : Int32))])) _
                refine XS.imul X0.here hx rfl (hb hby own_d18_34) rfl ?_
                show Steps p.tables e below (s₁.setTop (mkF m 35 #[.val (.int nx), .val (.int dd), .val (.int ((10 : Int32) * ((10 : Int32) * ((10 : Int32) * ((10 : Int32) * ((10 : Int32) * (-10 : Int32))))))), .val (.int ((((((1 : Int32) + (1 : Int32)) + (1 : Int32)) + (1 : Int32)) + (1 : Int32)) + (1 : Int32)))] [(.int ((10 : Int32) * ((10 : Int32) * ((10 : Int32) * ((10 : Int32) * ((10 : Int32) * ((10 : Int32) * (-10 : Int32))))))))])) _
                refine XS.istoreN X0.here hx rfl (hb hby own_d18_35) rfl (l' := #[.val (.int nx), .val (.int dd), .val (.int ((10 : Int32) * ((10 : Int32) * ((10 : Int32) * ((10 : Int32) * ((10 : Int32) * ((10 : Int32) * (-10 : Int32)))))))), .val (.int ((((((1 : Int32) + (1 : Int32)) + (1 : Int32)) + (1 : Int32)) + (1 : Int32)) + (1 : Int32)))]) rfl ?_
                show Steps p.tables e below (s₁.setTop (mkF m 36 #[.val (.int nx), .val (.int dd), .val (.int ((10 : Int32) * ((10 : Int32) * ((10 : Int32) * ((10 : Int32) * ((10 : Int32) * ((10 : Int32) * (-10 : Int32)))))))), .val (.int ((((((1 : Int32) + (1 : Int32)) + (1 : Int32)) + (1 : Int32)) + (1 : Int32)) + (1 : Int32)))] [])) _
                refine XS.iinc X0.here hx rfl (hb hby own_d18_36) rfl (l' := #[.val (.int nx), .val (.int dd), .val (.int ((10 : Int32) * ((10 : Int32) * ((10 : Int32) * ((10 : Int32) * ((10 : Int32) * ((10 : Int32) * (-10 : Int32)))))))), .val (.int (((((((1 : Int32) + (1 : Int32)) + (1 : Int32)) + (1 : Int32)) + (1 : Int32)) + (1 : Int32)) + (1 : Int32)))]) rfl ?_
                show Steps p.tables e below (s₁.setTop (mkF m 39 #[.val (.int nx), .val (.int dd), .val (.int ((10 : Int32) * ((10 : Int32) * ((10 : Int32) * ((10 : Int32) * ((10 : Int32) * ((10 : Int32) * (-10 : Int32)))))))), .val (.int (((((((1 : Int32) + (1 : Int32)) + (1 : Int32)) + (1 : Int32)) + (1 : Int32)) + (1 : Int32)) + (1 : Int32)))] [])) _
                refine XS.goto X0.here hx rfl (pc0 := 39) (pc' := 16) rfl (hb hby own_d18_39) (by decide) (by decide) ?_
                show Steps p.tables e below (s₁.setTop (mkF m 16 #[.val (.int nx), .val (.int dd), .val (.int ((10 : Int32) * ((10 : Int32) * ((10 : Int32) * ((10 : Int32) * ((10 : Int32) * ((10 : Int32) * (-10 : Int32)))))))), .val (.int (((((((1 : Int32) + (1 : Int32)) + (1 : Int32)) + (1 : Int32)) + (1 : Int32)) + (1 : Int32)) + (1 : Int32)))] [])) _
                exact k_
              refine own_go (S' := (s₁.setTop (mkF m 19 #[.val (.int nx), .val (.int dd), .val (.int ((10 : Int32) * ((10 : Int32) * ((10 : Int32) * ((10 : Int32) * ((10 : Int32) * ((10 : Int32) * (-10 : Int32)))))))), .val (.int (((((((1 : Int32) + (1 : Int32)) + (1 : Int32)) + (1 : Int32)) + (1 : Int32)) + (1 : Int32)) + (1 : Int32)))] [(.int (10 : Int32)), (.int (((((((1 : Int32) + (1 : Int32)) + (1 : Int32)) + (1 : Int32)) + (1 : Int32)) + (1 : Int32)) + (1 : Int32)))]))) (fun t_ k_ => ?_) ?_
              · refine XS.iloadN X0.here hx rfl (hb hby own_d18_16) rfl ?_
                show Steps p.tables e below (s₁.setTop (mkF m 17 #[.val (.int nx), .val (.int dd), .val (.int ((10 : Int32) * ((10 : Int32) * ((10 : Int32) * ((10 : Int32) * ((10 : Int32) * ((10 : Int32) * (-10 : Int32)))))))), .val (.int (((((((1 : Int32) + (1 : Int32)) + (1 : Int32)) + (1 : Int32)) + (1 : Int32)) + (1 : Int32)) + (1 : Int32)))] [(.int (((((((1 : Int32) + (1 : Int32)) + (1 : Int32)) + (1 : Int32)) + (1 : Int32)) + (1 : Int32)) + (1 : Int32)))])) _
                refine XS.bipush X0.here hx rfl (hb hby own_d18_17) ?_
                show Steps p.tables e below (s₁.setTop (mkF m 19 #[.val (.int nx), .val (.int dd), .val (.int ((10 : Int32) * ((10 : Int32) * ((10 : Int32) * ((10 : Int32) * ((10 : Int32) * ((10 : Int32) * (-10 : Int32)))))))), .val (.int (((((((1 : Int32) + (1 : Int32)) + (1 : Int32)) + (1 : Int32)) + (1 : Int32)) + (1 : Int32)) + (1 : Int32)))] [(.int (10 : Int32)), (.int (((((((1 : Int32) + (1 : Int32)) + (1 : Int32)) + (1 : Int32)) + (1 : Int32)) + (1 : Int32)) + (1 : Int32)))])) _
                exact k_
              refine own_go (S' := (s₁.setTop (mkF m 24 #[.val (.int nx), .val (.int dd), .val (.int ((10 : Int32) * ((10 : Int32) * ((10 : Int32) * ((10 : Int32) * ((10 : Int32) * ((10 : Int32) * (-10 : Int32)))))))), .val (.int (((((((1 : Int32) + (1 : Int32)) + (1 : Int32)) + (1 : Int32)) + (1 : Int32)) + (1 : Int32)) + (1 : Int32)))] [(.int ((10 : Int32) * ((10 : Int32) * ((10 : Int32) * ((10 : Int32) * ((10 : Int32) * ((10 : Int32) * (-10 : Int32)))))))), (.int nx)]))) (fun t_ k_ => ?_) ?_
              · refine XS.icmpNo X0.here hx rfl (hb hby own_d18_19) rfl (tlt (by decide)).2.1 ?_
                show Steps p.tables e below (s₁.setTop (mkF m 22 #[.val (.int nx), .val (.int dd), .val (.int ((10 : Int32) * ((10 : Int32) * ((10 : Int32) * ((10 : Int32) * ((10 : Int32) * ((10 : Int32) * (-10 : Int32)))))))), .val (.int (((((((1 : Int32) + (1 : Int32)) + (1 : Int32)) + (1 : Int32)) + (1 : Int32)) + (1 : Int32)) + (1 : Int32)))] [])) _
                refine XS.iloadN X0.here hx rfl (hb hby own_d18_22) rfl ?_
                show Steps p.tables e below (s₁.setTop (mkF m 23 #[.val (.int nx), .val (.int dd), .val (.int ((10 : Int32) * ((10 : Int32) * ((10 : Int32) * ((10 : Int32) * ((10 : Int32) * ((10 : Int32) * (-10 : Int32)))))))), .val (.int (((((((1 : Int32) + (1 : Int32)) + (1 : Int32)) + (1 : Int32)) + (1 : Int32)) + (1 : Int32)) + (1 : Int32)))] [(.int nx)])) _
                refine XS.iloadN X0.here hx rfl (hb hby own_d18_23) rfl ?_
                show Steps p.tables e below (s₁.setTop (mkF m 24 #[.val (.int nx), .val (.int dd), .val (.int ((10 : Int32) * ((10 : Int32) * ((10 : Int32) * ((10 : Int32) * ((10 : Int32) * ((10 : Int32) * (-10 : Int32)))))))), .val (.int (((((((1 : Int32) + (1 : Int32)) + (1 : Int32)) + (1 : Int32)) + (1 : Int32)) + (1 : Int32)) + (1 : Int32)))] [(.int ((10 : Int32) * ((10 : Int32) * ((10 : Int32) * ((10 : Int32) * ((10 : Int32) * ((10 : Int32) * (-10 : Int32)))))))), (.int nx)])) _
                exact k_
              by_cases g7 : ((10 : Int32) * ((10 : Int32) * ((10 : Int32) * ((10 : Int32) * ((10 : Int32) * ((10 : Int32) * (-10 : Int32))))))) < nx
              · skip
                refine own_go (S' := (s₁.setTop (mkF m 30 #[.val (.int nx), .val (.int dd), .val (.int ((10 : Int32) * ((10 : Int32) * ((10 : Int32) * ((10 : Int32) * ((10 : Int32) * ((10 : Int32) * (-10 : Int32)))))))), .val (.int (((((((1 : Int32) + (1 : Int32)) + (1 : Int32)) + (1 : Int32)) + (1 : Int32)) + (1 : Int32)) + (1 : Int32)))] [(.int ((((((((1 : Int32) + (1 : Int32)) + (1 : Int32)) + (1 : Int32)) + (1 : Int32)) + (1 : Int32)) + (1 : Int32)) + dd))]))) (fun t_ k_ => ?_) ?_
                · refine XS.icmpNo X0.here hx rfl (hb hby own_d18_24) rfl (tlt g7).2.2.2 ?_
                  show Steps p.tables e below (s₁.setTop (mkF m 27 #[.val (.int nx), .val (.int dd), .val (.int ((10 : Int32) * ((10 : Int32) * ((10 : Int32) * ((10 : Int32) * ((10 : Int32) * ((10 : Int32) * (-10 : Int32)))))))), .val (.int (((((((1 : Int32) + (1 : Int32)) + (1 : Int32)) + (1 : Int32)) + (1 : Int32)) + (1 : Int32)) + (1 : Int32)))] [])) _
                  refine XS.iloadN X0.here hx rfl (hb hby own_d18_27) rfl ?_
                  show Steps p.tables e below (s₁.setTop (mkF m 28 #[.val (.int nx), .val (.int dd), .val (.int ((10 : Int32) * ((10 : Int32) * ((10 : Int32) * ((10 : Int32) * ((10 : Int32) * ((10 : Int32) * (-10 : Int32)))))))), .val (.int (((((((1 : Int32) + (1 : Int32)) + (1 : Int32)) + (1 : Int32)) + (1 : Int32)) + (1 : Int32)) + (1 : Int32)))] [(.int (((((((1 : Int32) + (1 : Int32)) + (1 : Int32)) + (1 : Int32)) + (1 : Int32)) + (1 : Int32)) + (1 : Int32)))])) _
                  refine XS.iloadN X0.here hx rfl (hb hby own_d18_28) rfl ?_
                  show Steps p.tables e below (s₁.setTop (mkF m 29 #[.val (.int nx), .val (.int dd), .val (.int ((10 : Int32) * ((10 : Int32) * ((10 : Int32) * ((10 : Int32) * ((10 : Int32) * ((10 : Int32) * (-10 : Int32)))))))), .val (.int (((((((1 : Int32) + (1 : Int32)) + (1 : Int32)) + (1 : Int32)) + (1 : Int32)) + (1 : Int32)) + (1 : Int32)))] [(.int dd), (.int (((((((1 : Int32) + (1 : Int32)) + (1 : Int32)) + (1 : Int32)) + (1 : Int32)) + (1 : Int32)) + (1 : Int32)))])) _
                  refine XS.iadd X0.here hx rfl (hb hby own_d18_29) rfl ?_
                  show Steps p.tables e below (s₁.setTop (mkF m 30 #[.val (.int nx), .val (.int dd), .val (.int ((10 : Int32) * ((10 : Int32) * ((10 : Int32) * ((10 : Int32) * ((10 : Int32) * ((10 : Int32) * (-10 : Int32)))))))), .val (.int (((((((1 : Int32) + (1 : Int32)) + (1 : Int32)) + (1 : Int32)) + (1 : Int32)) + (1 : Int32)) + (1 : Int32)))] [(.int ((((((((1 : Int32) + (1 : Int32)) + (1 : Int32)) + (1 : Int32)) + (1 : Int32)) + (1 : Int32)) + (1 : Int32)) + dd))])) _
                  exact k_
                refine own_retI X0 hx Bd.returns Bd.notSynchronized (hb hby own_d18_30) (by decide) (by decide) ?_
                try rw [e0]
                exact ⟨by rw [own_szL (i := 7) (own_digs_len (k := 6) (by omega) (Or.inr (by have := mt (own_bnd hu (a := 10 ^ 6) (by decide)).mpr g6; omega)) ((own_bnd hu (a := 10 ^ 7) (by decide)).mp g7)) edd (by decide) (by omega)], N0, rfl⟩
              · skip
                refine own_go (S' := (s₁.setTop (mkF m 16 #[.val (.int nx), .val (.int dd), .val (.int ((10 : Int32) * ((10 : Int32) * ((10 : Int32) * ((10 : Int32) * ((10 : Int32) * ((10 : Int32) * ((10 : Int32) * (-10 : Int32))))))))), .val (.int ((((((((1 : Int32) + (1 : Int32)) + (1 : Int32)) + (1 : Int32)) + (1 : Int32)) + (1 : Int32)) + (1 : Int32)) + (1 : Int32)))] []))) (fun t_ k_ => ?_) ?_
                · refine XS.icmpYes X0.here hx rfl (pc0 := 24) (pc' := 31) rfl (hb hby own_d18_24) rfl (flt g7).2.2.2 (by decide) (by decide) ?_
                  show Steps p.tables e below (s₁.setTop (mkF m 31 #[.val (.int nx), .val (.int dd), .val (.int ((10 : Int32) * ((10 : Int32) * ((10 : Int32) * ((10 : Int32) * ((10 : Int32) * ((10 : Int32) * (-10 : Int32)))))))), .val (.int (((((((1 : Int32) + (1 : Int32)) + (1 : Int32)) + (1 : Int32)) + (1 : Int32)) + (1 : Int32)) + (1 : Int32)))] [])) _
                  refine XS.bipush X0.here hx rfl (hb hby own_d18_31) ?_
                  show Steps p.tables e below (s₁.setTop (mkF m 33 #[.val (.int nx), .val (.int dd), .val (.int ((10 : Int32) * ((10 : Int32) * ((10 : Int32) * ((10 : Int32) * ((10 : Int32) * ((10 : Int32) * (-10 : Int32)))))))), .val (.int (((((((1 : Int32) + (1 : Int32)) + (1 : Int32)) + (1 : Int32)) + (1 : Int32)) + (1 : Int32)) + (1 : Int32)))] [(.int (10 : Int32))])) _
                  refine XS.iloadN X0.here hx rfl (hb hby own_d18_33) rfl ?_
                  show Steps p.tables e below (s₁.setTop (mkF m 34 #[.val (.int nx), .val (.int dd), .val (.int ((10 : Int32) * ((10 : Int32) * ((10 : Int32) * ((10 : Int32) * ((10 : Int32) * ((10 : Int32) * (-10 : Int32)))))))), .val (.int (((((((1 : Int32) + (1 : Int32)) + (1 : Int32)) + (1 : Int32)) + (1 : Int32)) + (1 : Int32)) + (1 : Int32)))] [(.int ((10 : Int32) * ((10 : Int32) * ((10 : Int32) * ((10 : Int32) * ((10 : Int32) * ((10 : Int32) * (-10 : Int32)))))))), (.int (10 : Int32))])) _
                  refine XS.imul X0.here hx rfl (hb hby own_d18_34) rfl ?_
                  show Steps p.tables e below (s₁.setTop (mkF m 35 #[.val (.int nx), .val (.int dd), .val (.int ((10 : Int32) * ((10 : Int32) * ((10 : Int32) * ((10 : Int32) * ((10 : Int32) * ((10 : Int32) * (-10 : Int32)))))))), .val (.int (((((((1 : Int32) + (1 : Int32)) + (1 : Int32)) + (1 : Int32)) + (1 : Int32)) + (1 : Int32)) + (1 : Int32)))] [(.int ((10 : Int32) * ((10 : Int32) * ((10 : Int32) * ((10 : Int32) * ((10 : Int32) * ((10 : Int32) * ((10 : Int32) * (-10 : Int32)))))))))])) _
                  refine XS.istoreN X0.here hx rfl (hb hby own_d18_35) rfl (l' := #[.val (.int nx), .val (.int dd), .val (.int ((10 : Int32) * ((10 : Int32) * ((10 : Int32) * ((10 : Int32) * ((10 : Int32) * ((10 : Int32) * ((10 : Int32) * (-10 : Int32))))))))), .val (.int (((((((1 : Int32) + (1 : Int32)) + (1 : Int32)) + (1 : Int32)) + (1 : Int32)) + (1 : Int32)) + (1 : Int32)))]) rfl ?_
                  show Steps p.tables e below (s₁.setTop (mkF m 36 #[.val (.int nx), .val (.int dd), .val (.int ((10 : Int32) * ((10 : Int32) * ((10 : Int32) * ((10 : Int32) * ((10 : Int32) * ((10 : Int32) * ((10 : Int32) * (-10 : Int32))))))))), .val (.int (((((((1 : Int32) + (1 : Int32)) + (1 : Int32)) + (1 : Int32)) + (1 : Int32)) + (1 : Int32)) + (1 : Int32)))] [])) _
                  refine XS.iinc X0.here hx rfl (hb hby own_d18_36) rfl (l' := #[.val (.int nx), .val (.int dd), .val (.int ((10 : Int32) * ((10 : Int32) * ((10 : Int32) * ((10 : Int32) * ((10 : Int32) * ((10 : Int32) * ((10 : Int32) * (-10 : Int32))))))))), .val (.int ((((((((1 : Int32) + (1 : Int32)) + (1 : Int32)) + (1 : Int32)) + (1 : Int32)) + (1 : Int32)) + (1 : Int32)) + (1 : Int32)))]) rfl ?_
                  show Steps p.tables e below (s₁.setTop (mkF m 39 #[.val (.int nx), .val (.int dd), .val (.int ((10 : Int32) * ((10 : Int32) * ((10 : Int32) * ((10 : Int32) * ((10 : Int32) * ((10 : Int32) * ((10 : Int32) * (-10 : Int32))))))))), .val (.int ((((((((1 : Int32) + (1 : Int32)) + (1 : Int32)) + (1 : Int32)) + (1 : Int32)) + (1 : Int32)) + (1 : Int32)) + (1 : Int32)))] [])) _
                  refine XS.goto X0.here hx rfl (pc0 := 39) (pc' := 16) rfl (hb hby own_d18_39) (by decide) (by decide) ?_
                  show Steps p.tables e below (s₁.setTop (mkF m 16 #[.val (.int nx), .val (.int dd), .val (.int ((10 : Int32) * ((10 : Int32) * ((10 : Int32) * ((10 : Int32) * ((10 : Int32) * ((10 : Int32) * ((10 : Int32) * (-10 : Int32))))))))), .val (.int ((((((((1 : Int32) + (1 : Int32)) + (1 : Int32)) + (1 : Int32)) + (1 : Int32)) + (1 : Int32)) + (1 : Int32)) + (1 : Int32)))] [])) _
                  exact k_
                refine own_go (S' := (s₁.setTop (mkF m 19 #[.val (.int nx), .val (.int dd), .val (.int ((10 : Int32) * ((10 : Int32) * ((10 : Int32) * ((10 : Int32) * ((10 : Int32) * ((10 : Int32) * ((10 : Int32) * (-10 : Int32))))))))), .val (.int ((((((((1 : Int32) + (1 : Int32)) + (1 : Int32)) + (1 : Int32)) + (1 : Int32)) + (1 : Int32)) + (1 : Int32)) + (1 : Int32)))] [(.int (10 : Int32)), (.int ((((((((1 : Int32) + (1 : Int32)) + (1 : Int32)) + (1 : Int32)) + (1 : Int32)) + (1 : Int32)) + (1 : Int32)) + (1 : Int32)))]))) (fun t_ k_ => ?_) ?_
                · refine XS.iloadN X0.here hx rfl (hb hby own_d18_16) rfl ?_
                  show Steps p.tables e below (s₁.setTop (mkF m 17 #[.val (.int nx), .val (.int dd), .val (.int ((10 : Int32) * ((10 : Int32) * ((10 : Int32) * ((10 : Int32) * ((10 : Int32) * ((10 : Int32) * ((10 : Int32) * (-10 : Int32))))))))), .val (.int ((((((((1 : Int32) + (1 : Int32)) + (1 : Int32)) + (1 : Int32)) + (1 : Int32)) + (1 : Int32)) + (1 : Int32)) + (1 : Int32)))] [(.int ((((((((1 : Int32) + (1 : Int32)) + (1 : Int32)) + (1 : Int32)) + (1 : Int32)) + (1 : Int32)) + (1 : Int32)) + (1 : Int32)))])) _
                  refine XS.bipush X0.here hx rfl (hb hby own_d18_17) ?_
                  show Steps p.tables e below (s₁.setTop (mkF m 19 #[.val (.int nx), .val (.int dd), .val (.int ((10 : Int32) * ((10 : Int32) * ((10 : Int32) * ((10 : Int32) * ((10 : Int32) * ((10 : Int32) * ((10 : Int32) * (-10 : Int32))))))))), .val (.int ((((((((1 : Int32) + (1 : Int32)) + (1 : Int32)) + (1 : Int32)) + (1 : Int32)) + (1 : Int32)) + (1 : Int32)) + (1 : Int32)))] [(.int (10 : Int32)), (.int ((((((((1 : Int32) + (1 : Int32)) + (1 : Int32)) + (1 : Int32)) + (1 : Int32)) + (1 : Int32)) + (1 : Int32)) + (1 : Int32)))])) _
                  exact k_
                refine own_go (S' := (s₁.setTop (mkF m 24 #[.val (.int nx), .val (.int dd), .val (.int ((10 : Int32) * ((10 : Int32) * ((10 : Int32) * ((10 : Int32) * ((10 : Int32) * ((10 : Int32) * ((10 : Int32) * (-10 : Int32))))))))), .val (.int ((((((((1 : Int32) + (1 : Int32)) + (1 : Int32)) + (1 : Int32)) + (1 : Int32)) + (1 : Int32)) + (1 : Int32)) + (1 : Int32)))] [(.int ((10 : Int32) * ((10 : Int32) * ((10 : Int32) * ((10 : Int32) * ((10 : Int32) * ((10 : Int32) * ((10 : Int32) * (-10 : Int32))))))))), (.int nx)]))) (fun t_ k_ => ?_) ?_
                · refine XS.icmpNo X0.here hx rfl (hb hby own_d18_19) rfl (tlt (by decide)).2.1 ?_
                  show Steps p.tables e below (s₁.setTop (mkF m 22 #[.val (.int nx), .val (.int dd), .val (.int ((10 : Int32) * ((10 : Int32) * ((10 : Int32) * ((10 : Int32) * ((10 : Int32) * ((10 : Int32) * ((10 : Int32) * (-10 : Int32))))))))), .val (.int ((((((((1 : Int32) + (1 : Int32)) + (1 : Int32)) + (1 : Int32)) + (1 : Int32)) + (1 : Int32)) + (1 : Int32)) + (1 : Int32)))] [])) _
                  refine XS.iloadN X0.here hx rfl (hb hby own_d18_22) rfl ?_
                  show Steps p.tables e below (s₁.setTop (mkF m 23 #[.val (.int nx), .val (.int dd), .val (.int ((10 : Int32) * ((10 : Int32) * ((10 : Int32) * ((10 : Int32) * ((10 : Int32) * ((10 : Int32) * ((10 : Int32) * (-10 : Int32))))))))), .val (.int ((((((((1 : Int32) + (1 : Int32)) + (1 : Int32)) + (1 : Int32)) + (1 : Int32)) + (1 : Int32)) + (1 : Int32)) + (1 : Int32)))] [(.int nx)])) _
                  refine XS.iloadN X0.here hx rfl (hb hby own_d18_23) rfl ?_
                  show Steps p.tables e below (s₁.setTop (mkF m 24 #[.val (.int nx), .val (.int dd), .val (.int ((10 : Int32) * ((10 : Int32) * ((10 : Int32) * ((10 : Int32) * ((10 : Int32) * ((10 : Int32) * ((10 : Int32) * (-10 : Int32))))))))), .val (.int ((((((((1 : Int32) + (1 : Int32)) + (1 : Int32)) + (1 : Int32)) + (1 : Int32)) + (1 : Int32)) + (1 : Int32)) + (1 : Int32)))] [(.int ((10 : Int32) * ((10 : Int32) * ((10 : Int32) * ((10 : Int32) * ((10 : Int32) * ((10 : Int32) * ((10 : Int32) * (-10 : Int32))))))))), (.int nx)])) _
                  exact k_
                by_cases g8 : ((10 : Int32) * ((10 : Int32) * ((10 : Int32) * ((10 : Int32) * ((10 : Int32) * ((10 : Int32) * ((10 : Int32) * (-10 : Int32)))))))) < nx
                · skip
                  refine own_go (S' := (s₁.setTop (mkF m 30 #[.val (.int nx), .val (.int dd), .val (.int ((10 : Int32) * ((10 : Int32) * ((10 : Int32) * ((10 : Int32) * ((10 : Int32) * ((10 : Int32) * ((10 : Int32) * (-10 : Int32))))))))), .val (.int ((((((((1 : Int32) + (1 : Int32)) + (1 : Int32)) + (1 : Int32)) + (1 : Int32)) + (1 : Int32)) + (1 : Int32)) + (1 : Int32)))] [(.int (((((((((1 : Int32) + (1 : Int32)) + (1 : Int32)) + (1 : Int32)) + (1 : Int32)) + (1 : Int32)) + (1 : Int32)) + (1 : Int32)) + dd))]))) (fun t_ k_ => ?_) ?_
                  · refine XS.icmpNo X0.here hx rfl (hb hby own_d18_24) rfl (tlt g8).2.2.2 ?_
                    show Steps p.tables e below (s₁.setTop (mkF m 27 #[.val (.int nx), .val (.int dd), .val (.int ((10 : Int32) * ((10 : Int32) * ((10 : Int32) * ((10 : Int32) * ((10 : Int32) * ((10 : Int32) * ((10 : Int32) * (-10 : Int32))))))))), .val (.int ((((((((1 : Int32) + (1 : Int32)) + (1 : Int32)) + (1 : Int32)) + (1 : Int32)) + (1 : Int32)) + (1 : Int32)) + (1 : Int32)))] [])) _
                    refine XS.iloadN X0.here hx rfl (hb hby own_d18_27) rfl ?_
                    show Steps p.tables e below (s₁.setTop (mkF m 28 #[.val (.int nx), .val (.int dd), .val (.int ((10 : Int32) * ((10 : Int32) * ((10 : Int32) * ((10 : Int32) * ((10 : Int32) * ((10 : Int32) * ((10 : Int32) * (-10 : Int32))))))))), .val (.int ((((((((1 : Int32) + (1 : Int32)) + (1 : Int32)) + (1 : Int32)) + (1 : Int32)) + (1 : Int32)) + (1 : Int32)) + (1 : Int32)))] [(.int ((((((((1 : Int32) + (1 : Int32)) + (1 : Int32)) + (1 : Int32)) + (1 : Int32)) + (1 : Int32)) + (1 : Int32)) + (1 : Int32)))])) _
                    refine XS.iloadN X0.here hx rfl (hb hby own_d18_28) rfl ?_
                    show Steps p.tables e below (s₁.setTop (mkF m 29 #[.val (.int nx), .val (.int dd), .val (.int ((10 : Int32) * ((10 : Int32) * ((10 : Int32) * ((10 : Int32) * ((10 : Int32) * ((10 : Int32) * ((10 : Int32) * (-10 : Int32))))))))), .val (.int ((((((((1 : Int32) + (1 : Int32)) + (1 : Int32)) + (1 : Int32)) + (1 : Int32)) + (1 : Int32)) + (1 : Int32)) + (1 : Int32)))] [(.int dd), (.int ((((((((1 : Int32) + (1 : Int32)) + (1 : Int32)) + (1 : Int32)) + (1 : Int32)) + (1 : Int32)) + (1 : Int32)) + (1 : Int32)))])) _
                    refine XS.iadd X0.here hx rfl (hb hby own_d18_29) rfl ?_
                    show Steps p.tables e below (s₁.setTop (mkF m 30 #[.val (.int nx), .val (.int dd), .val (.int ((10 : Int32) * ((10 : Int32) * ((10 : Int32) * ((10 : Int32) * ((10 : Int32) * ((10 : Int32) * ((10 : Int32) * (-10 : Int32))))))))), .val (.int ((((((((1 : Int32) + (1 : Int32)) + (1 : Int32)) + (1 : Int32)) + (1 : Int32)) + (1 : Int32)) + (1 : Int32)) + (1 : Int32)))] [(.int (((((((((1 : Int32) + (1 : Int32)) + (1 : Int32)) + (1 : Int32)) + (1 : Int32)) + (1 : Int32)) + (1 : Int32)) + (1 : Int32)) + dd))])) _
                    exact k_
                  refine own_retI X0 hx Bd.returns Bd.notSynchronized (hb hby own_d18_30) (by decide) (by decide) ?_
                  try rw [e0]
                  exact ⟨by rw [own_szL (i := 8) (own_digs_len (k := 7) (by omega) (Or.inr (by have := mt (own_bnd hu (a := 10 ^ 7) (by decide)).mpr g7; omega)) ((own_bnd hu (a := 10 ^ 8) (by decide)).mp g8)) edd (by decide) (by omega)], N0, rfl⟩
                · skip
                  refine own_go (S' := (s₁.setTop (mkF m 16 #[.val (.int nx), .val (.int dd), .val (.int ((10 : Int32) * ((10 : Int32) * ((10 : Int32) * ((10 : Int32) * ((10 : Int32) * ((10 : Int32) * ((10 : Int32) * ((10 : Int32) * (-10 : Int32)))))))))), .val (.int (((((((((1 : Int32) + (1 : Int32)) + (1 : Int32)) + (1 : Int32)) + (1 : Int32)) + (1 : Int32)) + (1 : Int32)) + (1 : Int32)) + (1 : Int32)))] []))) (fun t_ k_ => ?_) ?_
                  · refine XS.icmpYes X0.here hx rfl (pc0 := 24) (pc' := 31) rfl (hb hby own_d18_24) rfl (flt g8).2.2.2 (by decide) (by decide) ?_
                    show Steps p.tables e below (s₁.setTop (mkF m 31 #[.val (.int nx), .val (.int dd), .val (.int ((10 : Int32) * ((10 : Int32) * ((10 : Int32) * ((10 : Int32) * ((10 : Int32) * ((10 : Int32) * ((10 : Int32) * (-10 : Int32))))))))), .val (.int ((((((((1 : Int32) + (1 : Int32)) + (1 : Int32)) + (1 : Int32)) + (1 : Int32)) + (1 : Int32)) + (1 : Int32)) + (1 : Int32)))] [])) _
                    refine XS.bipush X0.here hx rfl (hb hby own_d18_31) ?_
                    show Steps p.tables e below (s₁.setTop (mkF m 33 #[.val (.int nx), .val (.int dd), .val (.int ((10 : Int32) * ((10 : Int32) * ((10 : Int32) * ((10 : Int32) * ((10 : Int32) * ((10 : Int32) * ((10 : Int32) * (-10 : Int32))))))))), .val (.int ((((((((1 : Int32) + (1 : Int32)) + (1 : Int32)) + (1 : Int32)) + (1 : Int32)) + (1 : Int32)) + (1 : Int32)) + (1 : Int32)))] [(.int (10 : Int32))])) _
                    refine XS.iloadN X0.here hx rfl (hb hby own_d18_33) rfl ?_
                    show Steps p.tables e below (s₁.setTop (mkF m 34 #[.val (.int nx), .val (.int dd), .val (.int ((10 : Int32) * ((10 : Int32) * ((10 : Int32) * ((10 : Int32) * ((10 : Int32) * ((10 : Int32) * ((10 : Int32) * (-10 : Int32))))))))), .val (.int ((((((((1 : Int32) + (1 : Int32)) + (1 : Int32)) + (1 : Int32)) + (1 : Int32)) + (1 : Int32)) + (1 : Int32)) + (1 : Int32)))] [(.int ((10 : Int32) * ((10 : Int32) * ((10 : Int32) * ((10 : Int32) * ((10 : Int32) * ((10 : Int32) * ((10 : Int32) * (-10 : Int32))))))))), (.int (10 : Int32))])) _
                    refine XS.imul X0.here hx rfl (hb hby own_d18_34) rfl ?_
                    show Steps p.tables e below (s₁.setTop (mkF m 35 #[.val (.int nx), .val (.int dd), .val (.int ((10 : Int32) * ((10 : Int32) * ((10 : Int32) * ((10 : Int32) * ((10 : Int32) * ((10 : Int32) * ((10 : Int32) * (-10 : Int32))))))))), .val (.int ((((((((1 : Int32) + (1 : Int32)) + (1 : Int32)) + (1 : Int32)) + (1 : Int32)) + (1 : Int32)) + (1 : Int32)) + (1 : Int32)))] [(.int ((10 : Int32) * ((10 : Int32) * ((10 : Int32) * ((10 : Int32) * ((10 : Int32) * ((10 : Int32) * ((10 : Int32) * ((10 : Int32) * (-10 : Int32))))))))))])) _
                    refine XS.istoreN X0.here hx rfl (hb hby own_d18_35) rfl (l' := #[.val (.int nx), .val (.int dd), .val (.int ((10 : Int32) * ((10 : Int32) * ((10 : Int32) * ((10 : Int32) * ((10 : Int32) * ((10 : Int32) * ((10 : Int32) * ((10 : Int32) * (-10 : Int32)))))))))), .val (.int ((((((((1 : Int32) + (1 : Int32)) + (1 : Int32)) + (1 : Int32)) + (1 : Int32)) + (1 : Int32)) + (1 : Int32)) + (1 : Int32)))]) rfl ?_
                    show Steps p.tables e below (s₁.setTop (mkF m 36 #[.val (.int nx), .val (.int dd), .val (.int ((10 : Int32) * ((10 : Int32) * ((10 : Int32) * ((10 : Int32) * ((10 : Int32) * ((10 : Int32) * ((10 : Int32) * ((10 : Int32) * (-10 : Int32)))))))))), .val (.int ((((((((1 : Int32) + (1 : Int32)) + (1 : Int32)) + (1 : Int32)) + (1 : Int32)) + (1 : Int32)) + (1 : Int32)) + (1 : Int32)))] [])) _
                    refine XS.iinc X0.here hx rfl (hb hby own_d18_36) rfl (l' := #[.val (.int nx), .val (.int dd), .val (.int ((10 : Int32) * ((10 : Int32) * ((10 : Int32) * ((10 : Int32) * ((10 : Int32) * ((10 : Int32) * ((10 : Int32) * ((10 : Int32) * (-10 : Int32)))))))))), .val (.int (((((((((1 : Int32) + (1 : Int32)) + (1 : Int32)) + (1 : Int32)) + (1 : Int32)) + (1 : Int32)) + (1 : Int32)) + (1 : Int32)) + (1 : Int32)))]) rfl ?_
                    show Steps p.tables e below (s₁.setTop (mkF m 39 #[.val (.int nx), .val (.int dd), .val (.int ((10 : Int32) * ((10 : Int32) * ((10 : Int32) * ((10 : Int32) * ((10 : Int32) * ((10 : Int32) * ((10 : Int32) * ((10 : Int32) * (-10 : Int32)))))))))), .val (.int (((((((((1 : Int32) + (1 : Int32)) + (1 : Int32)) + (1 : Int32)) + (1 : Int32)) + (1 : Int32)) + (1 : Int32)) + (1 : Int32)) + (1 : Int32)))] [])) _
                    refine XS.goto X0.here hx rfl (pc0 := 39) (pc' := 16) rfl (hb hby own_d18_39) (by decide) (by decide) ?_
                    show Steps p.tables e below (s₁.setTop (mkF m 16 #[.val (.int nx), .val (.int dd), .val (.int ((10 : Int32) * ((10 : Int32) * ((10 : Int32) * ((10 : Int32) * ((10 : Int32) * ((10 : Int32) * ((10 : Int32) * ((10 : Int32) * (-10 : Int32)))))))))), .val (.int (((((((((1 : Int32) + (1 : Int32)) + (1 : Int32)) + (1 : Int32)) + (1 : Int32)) + (1 : Int32)) + (1 : Int32)) + (1 : Int32)) + (1 : Int32)))] [])) _
                    exact k_
                  refine own_go (S' := (s₁.setTop (mkF m 19 #[.val (.int nx), .val (.int dd), .val (.int ((10 : Int32) * ((10 : Int32) * ((10 : Int32) * ((10 : Int32) * ((10 : Int32) * ((10 : Int32) * ((10 : Int32) * ((10 : Int32) * (-10 : Int32)))))))))), .val (.int (((((((((1 : Int32) + (1 : Int32)) + (1 : Int32)) + (1 : Int32)) + (1 : Int32)) + (1 : Int32)) + (1 : Int32)) + (1 : Int32)) + (1 : Int32)))] [(.int (10 : Int32)), (.int (((((((((1 : Int32) + (1 : Int32)) + (1 : Int32)) + (1 : Int32)) + (1 : Int32)) + (1 : Int32)) + (1 : Int32)) + (1 : Int32)) + (1 : Int32)))]))) (fun t_ k_ => ?_) ?_
                  · refine XS.iloadN X0.here hx rfl (hb hby own_d18_16) rfl ?_
                    show Steps p.tables e below (s₁.setTop (mkF m 17 #[.val (.int nx), .val (.int dd), .val (.int ((10 : Int32) * ((10 : Int32) * ((10 : Int32) * ((10 : Int32) * ((10 : Int32) * ((10 : Int32) * ((10 : Int32) * ((10 : Int32) * (-10 : Int32)))))))))), .val (.int (((((((((1 : Int32) + (1 : Int32)) + (1 : Int32)) + (1 : Int32)) + (1 : Int32)) + (1 : Int32)) + (1 : Int32)) + (1 : Int32)) + (1 : Int32)))] [(.int (((((((((1 : Int32) + (1 : Int32)) + (1 : Int32)) + (1 : Int32)) + (1 : Int32)) + (1 : Int32)) + (1 : Int32)) + (1 : Int32)) + (1 : Int32)))])) _
                    refine XS.bipush X0.here hx rfl (hb hby own_d18_17) ?_
                    show Steps p.tables e below (s₁.setTop (mkF m 19 #[.val (.int nx), .val (.int dd), .val (.int ((10 : Int32) * ((10 : Int32) * ((10 : Int32) * ((10 : Int32) * ((10 : Int32) * ((10 : Int32) * ((10 : Int32) * ((10 : Int32) * (-10 : Int32)))))))))), .val (.int (((((((((1 : Int32) + (1 : Int32)) + (1 : Int32)) + (1 : Int32)) + (1 : Int32)) + (1 : Int32)) + (1 : Int32)) + (1 : Int32)) + (1 : Int32)))] [(.int (10 : Int32)), (.int (((((((((1 : Int32) + (1 : Int32)) + (1 : Int32)) + (1 : Int32)) + (1 : Int32)) + (1 : Int32)) + (1 : Int32)) + (1 : Int32)) + (1 : Int32)))])) _
                    exact k_
                  refine own_go (S' := (s₁.setTop (mkF m 24 #[.val (.int nx), .val (.int dd), .val (.int ((10 : Int32) * ((10 : Int32) * ((10 : Int32) * ((10 : Int32) * ((10 : Int32) * ((10 : Int32) * ((10 : Int32) * ((10 : Int32) * (-10 : Int32)))))))))), .val (.int (((((((((1 : Int32) + (1 : Int32)) + (1 : Int32)) + (1 : Int32)) + (1 : Int32)) + (1 : Int32)) + (1 : Int32)) + (1 : Int32)) + (1 : Int32)))] [(.int ((10 : Int32) * ((10 : Int32) * ((10 : Int32) * ((10 : Int32) * ((10 : Int32) * ((10 : Int32) * ((10 : Int32) * ((10 : Int32) * (-10 : Int32)))))))))), (.int nx)]))) (fun t_ k_ => ?_) ?_
                  · refine XS.icmpNo X0.here hx rfl (hb hby own_d18_19) rfl (tlt (by decide)).2.1 ?_
                    show Steps p.tables e below (s₁.setTop (mkF m 22 #[.val (.int nx), .val (.int dd), .val (.int ((10 : Int32) * ((10 : Int32) * ((10 : Int32) * ((10 : Int32) * ((10 : Int32) * ((10 : Int32) * ((10 : Int32) * ((10 : Int32) * (-10 : Int32)))))))))), .val (.int (((((((((1 : Int32) + (1 : Int32)) + (1 : Int32)) + (1 : Int32)) + (1 : Int32)) + (1 : Int32)) + (1 : Int32)) + (1 : Int32)) + (1 : Int32)))] [])) _
                    refine XS.iloadN X0.here hx rfl (hb hby own_d18_22) rfl ?_
                    show Steps p.tables e below (s₁.setTop (mkF m 23 #[.val (.int nx), .val (.int dd), .val (.int ((10 : Int32) * ((10 : Int32) * ((10 : Int32) * ((10 : Int32) * ((10 : Int32) * ((10 : Int32) * ((10 : Int32) * ((10 : Int32) * (-10 : Int32)))))))))), .val (.int (((((((((1 : Int32) + (1 : Int32)) + (1 : Int32)) + (1 : Int32)) + (1 : Int32)) + (1 : Int32)) + (1 : Int32)) + (1 : Int32)) + (1 : Int32)))] [(.int nx)])) _
                    refine XS.iloadN X0.here hx rfl (hb hby own_d18_23) rfl ?_
                    show Steps p.tables e below (s₁.setTop (mkF m 24 #[.val (.int nx), .val (.int dd), .val (.int ((10 : Int32) * ((10 : Int32) * ((10 : Int32) * ((10 : Int32) * ((10 : Int32) * ((10 : Int32) * ((10 : Int32) * ((10 : Int32) * (-10 : Int32)))))))))), .val (.int (((((((((1 : Int32) + (1 : Int32)) + (1 : Int32)) + (1 : Int32)) + (1 : Int32)) + (1 : Int32)) + (1 : Int32)) + (1 : Int32)) + (1 : Int32)))] [(.int ((10 : Int32) * ((10 : Int32) * ((10 : Int32) * ((10 : Int32) * ((10 : Int32) * ((10 : Int32) * ((10 : Int32) * ((10 : Int32) * (-10 : Int32)))))))))), (.int nx)])) _
                    exact k_
                  by_cases g9 : ((10 : Int32) * ((10 : Int32) * ((10 : Int32) * ((10 : Int32) * ((10 : Int32) * ((10 : Int32) * ((10 : Int32) * ((10 : Int32) * (-10 : Int32))))))))) < nx
                  · skip
                    refine own_go (S' := (s₁.setTop (mkF m 30 #[.val (.int nx), .val (.int dd), .val (.int ((10 : Int32) * ((10 : Int32) * ((10 : Int32) * ((10 : Int32) * ((10 : Int32) * ((10 : Int32) * ((10 : Int32) * ((10 : Int32) * (-10 : Int32)))))))))), .val (.int (((((((((1 : Int32) + (1 : Int32)) + (1 : Int32)) + (1 : Int32)) + (1 : Int32)) + (1 : Int32)) + (1 : Int32)) + (1 : Int32)) + (1 : Int32)))] [(.int ((((((((((1 : Int32) + (1 : Int32)) + (1 : Int32)) + (1 : Int32)) + (1 : Int32)) + (1 : Int32)) + (1 : Int32)) + (1 : Int32)) + (1 : Int32)) + dd))]))) (fun t_ k_ => ?_) ?_
                    · refine XS.icmpNo X0.here hx rfl (hb hby own_d18_24) rfl (tlt g9).2.2.2 ?_
                      show Steps p.tables e below (s₁.setTop (mkF m 27 #[.val (.int nx), .val (.int dd), .val (.int ((10 : Int32) * ((10 : Int32) * ((10 : Int32) * ((10 : Int32) * ((10 : Int32) * ((10 : Int32) * ((10 : Int32) * ((10 : Int32) * (-10 : Int32)))))))))), .val (.int (((((((((1 : Int32) + (1 : Int32)) + (1 : Int32)) + (1 : Int32)) + (1 : Int32)) + (1 : Int32)) + (1 : Int32)) + (1 : Int32)) + (1 : Int32)))] [])) _
                      refine XS.iloadN X0.here hx rfl (hb hby own_d18_27) rfl ?_
                      show Steps p.tables e below (s₁.setTop (mkF m 28 #[.val (.int nx), .val (.int dd), .val (.int ((10 : Int32) * ((10 : Int32) * ((10 : Int32) * ((10 : Int32) * ((10 : Int32) * ((10 : Int32) * ((10 : Int32) * ((10 : Int32) * (-10 : Int32)))))))))), .val (.int (((((((((1 : Int32) + (1 : Int32)) + (1 : Int32)) + (1 : Int32)) + (1 : Int32)) + (1 : Int32)) + (1 : Int32)) + (1 : Int32)) + (1 : Int32)))] [(.int (((((((((1 : Int32) + (1 : Int32)) + (1 : Int32)) + (1 : Int32)) + (1 : Int32)) + (1 : Int32)) + (1 : Int32)) + (1 : Int32)) + (1 : Int32)))])) _
                      refine XS.iloadN X0.here hx rfl (hb hby own_d18_28) rfl ?_
                      show Steps p.tables e below (s₁.setTop (mkF m 29 #[.val (.int nx), .val (.int dd), .val (.int ((10 : Int32) * ((10 : Int32) * ((10 : Int32) * ((10 : Int32) * ((10 : Int32) * ((10 : Int32) * ((10 : Int32) * ((10 : Int32) * (-10 : Int32)))))))))), .val (.int (((((((((1 : Int32) + (1 : Int32)) + (1 : Int32)) + (1 : Int32)) + (1 : Int32)) + (1 : Int32)) + (1 : Int32)) + (1 : Int32)) + (1 : Int32)))] [(.int dd), (.int (((((((((1 : Int32) + (1 : Int32)) + (1 : Int32)) + (1 : Int32)) + (1 : Int32)) + (1 : Int32)) + (1 : Int32)) + (1 : Int32)) + (1 : Int32)))])) _
                      refine XS.iadd X0.here hx rfl (hb hby own_d18_29) rfl ?_
                      show Steps p.tables e below (s₁.setTop (mkF m 30 #[.val (.int nx), .val (.int dd), .val (.int ((10 : Int32) * ((10 : Int32) * ((10 : Int32) * ((10 : Int32) * ((10 : Int32) * ((10 : Int32) * ((10 : Int32) * ((10 : Int32) * (-10 : Int32)))))))))), .val (.int (((((((((1 : Int32) + (1 : Int32)) + (1 : Int32)) + (1 : Int32)) + (1 : Int32)) + (1 : Int32)) + (1 : Int32)) + (1 : Int32)) + (1 : Int32)))] [(.int ((((((((((1 : Int32) + (1 : Int32)) + (1 : Int32)) + (1 : Int32)) + (1 : Int32)) + (1 : Int32)) + (1 : Int32)) + (1 : Int32)) + (1 : Int32)) + dd))])) _
                      exact k_
                    refine own_retI X0 hx Bd.returns Bd.notSynchronized (hb hby own_d18_30) (by decide) (by decide) ?_
                    try rw [e0]
                    exact ⟨by rw [own_szL (i := 9) (own_digs_len (k := 8) (by omega) (Or.inr (by have := mt (own_bnd hu (a := 10 ^ 8) (by decide)).mpr g8; omega)) ((own_bnd hu (a := 10 ^ 9) (by decide)).mp g9)) edd (by decide) (by omega)], N0, rfl⟩
                  · skip
                    refine own_go (S' := (s₁.setTop (mkF m 16 #[.val (.int nx), .val (.int dd), .val (.int ((10 : Int32) * ((10 : Int32) * ((10 : Int32) * ((10 : Int32) * ((10 : Int32) * ((10 : Int32) * ((10 : Int32) * ((10 : Int32) * ((10 : Int32) * (-10 : Int32))))))))))), .val (.int ((((((((((1 : Int32) + (1 : Int32)) + (1 : Int32)) + (1 : Int32)) + (1 : Int32)) + (1 : Int32)) + (1 : Int32)) + (1 : Int32)) + (1 : Int32)) + (1 : Int32)))] []))) (fun t_ k_ => ?_) ?_
                    · refine XS.icmpYes X0.here hx rfl (pc0 := 24) (pc' := 31) rfl (hb hby own_d18_24) rfl (flt g9).2.2.2 (by decide) (by decide) ?_
                      show Steps p.tables e below (s₁.setTop (mkF m 31 #[.val (.int nx), .val (.int dd), .val (.int ((10 : Int32) * ((10 : Int32) * ((10 : Int32) * ((10 : Int32) * ((10 : Int32) * ((10 : Int32) * ((10 : Int32) * ((10 : Int32) * (-10 : Int32)))))))))), .val (.int (((((((((1 : Int32) + (1 : Int32)) + (1 : Int32)) + (1 : Int32)) + (1 : Int32)) + (1 : Int32)) + (1 : Int32)) + (1 : Int32)) + (1 : Int32)))] [])) _
                      refine XS.bipush X0.here hx rfl (hb hby own_d18_31) ?_
                      show Steps p.tables e below (s₁.setTop (mkF m 33 #[.val (.int nx), .val (.int dd), .val (.int ((10 : Int32) * ((10 : Int32) * ((10 : Int32) * ((10 : Int32) * ((10 : Int32) * ((10 : Int32) * ((10 : Int32) * ((10 : Int32) * (-10 : Int32)))))))))), .val (.int (((((((((1 : Int32) + (1 : Int32)) + (1 : Int32)) + (1 : Int32)) + (1 : Int32)) + (1 : Int32)) + (1 : Int32)) + (1 : Int32)) + (1 : Int32)))] [(.int (10 : Int32))])) _
                      refine XS.iloadN X0.here hx rfl (hb hby own_d18_33) rfl ?_
                      show Steps p.tables e below (s₁.setTop (mkF m 34 #[.val (.int nx), .val (.int dd), .val (.int ((10 : Int32) * ((10 : Int32) * ((10 : Int32) * ((10 : Int32) * ((10 : Int32) * ((10 : Int32) * ((10 : Int32) * ((10 : Int32) * (-10 : Int32)))))))))), .val (.int (((((((((1 : Int32) + (1 : Int32)) + (1 : Int32)) + (1 : Int32)) + (1 : Int32)) + (1 : Int32)) + (1 : Int32)) + (1 : Int32)) + (1 : Int32)))] [(.int ((10 : Int32) * ((10 : Int32) * ((10 : Int32) * ((10 : Int32) * ((10 : Int32) * ((10 : Int32) * ((10 : Int32) * ((10 : Int32) * (-10 : Int32)))))))))), (.int (10 : Int32))])) _
                      refine XS.imul X0.here hx rfl (hb hby own_d18_34) rfl ?_
                      show Steps p.tables e below (s₁.setTop (mkF m 35 #[.val (.int nx), .val (.int dd), .val (.int ((10 : Int32) * ((10 : Int32) * ((10 : Int32) * ((10 : Int32) * ((10 : Int32) * ((10 : Int32) * ((10 : Int32) * ((10 : Int32) * (-10 : Int32)))))))))), .val (.int (((((((((1 : Int32) + (1 : Int32)) + (1 : Int32)) + (1 : Int32)) + (1 : Int32)) + (1 : Int32)) + (1 : Int32)) + (1 : Int32)) + (1 : Int32)))] [(.int ((10 : Int32) * ((10 : Int32) * ((10 : Int32) * ((10 : Int32) * ((10 : Int32) * ((10 : Int32) * ((10 : Int32) * ((10 : Int32) * ((10 : Int32) * (-10 : Int32)))))))))))])) _
                      refine XS.istoreN X0.here hx rfl (hb hby own_d18_35) rfl (l' := #[.val (.int nx), .val (.int dd), .val (.int ((10 : Int32) * ((10 : Int32) * ((10 : Int32) * ((10 : Int32) * ((10 : Int32) * ((10 : Int32) * ((10 : Int32) * ((10 : Int32) * ((10 : Int32) * (-10 : Int32))))))))))), .val (.int (((((((((1 : Int32) + (1 : Int32)) + (1 : Int32)) + (1 : Int32)) + (1 : Int32)) + (1 : Int32)) + (1 : Int32)) + (1 : Int32)) + (1 : Int32)))]) rfl ?_
                      show Steps p.tables e below (s₁.setTop (mkF m 36 #[.val (.int nx), .val (.int dd), .val (.int ((10 : Int32) * ((10 : Int32) * ((10 : Int32) * ((10 : Int32) * ((10 : Int32) * ((10 : Int32) * ((10 : Int32) * ((10 : Int32) * ((10 : Int32) * (-10 : Int32))))))))))), .val (.int (((((((((1 : Int32) + (1 : Int32)) + (1 : Int32)) + (1 : Int32)) + (1 : Int32)) + (1 : Int32)) + (1 : Int32)) + (1 : Int32)) + (1 : Int32)))] [])) _
                      refine XS.iinc X0.here hx rfl (hb hby own_d18_36) rfl (l' := #[.val (.int nx), .val (.int dd), .val (.int ((10 : Int32) * ((10 : Int32) * ((10 : Int32) * ((10 : Int32) * ((10 : Int32) * ((10 : Int32) * ((10 : Int32) * ((10 : Int32) * ((10 : Int32) * (-10 : Int32))))))))))), .val (.int ((((((((((1 : Int32) + (1 : Int32)) + (1 : Int32)) + (1 : Int32)) + (1 : Int32)) + (1 : Int32)) + (1 : Int32)) + (1 : Int32)) + (1 : Int32)) + (1 : Int32)))]) rfl ?_
                      show Steps p.tables e below (s₁.setTop (mkF m 39 #[.val (.int nx), .val (.int dd), .val (.int ((10 : Int32) * ((10 : Int32) * ((10 : Int32) * ((10 : Int32) * ((10 : Int32) * ((10 : Int32) * ((10 : Int32) * ((10 : Int32) * ((10 : Int32) * (-10 : Int32))))))))))), .val (.int ((((((((((1 : Int32) + (1 : Int32)) + (1 : Int32)) + (1 : Int32)) + (1 : Int32)) + (1 : Int32)) + (1 : Int32)) + (1 : Int32)) + (1 : Int32)) + (1 : Int32)))] [])) _
                      refine XS.goto X0.here hx rfl (pc0 := 39) (pc' := 16) rfl (hb hby own_d18_39) (by decide) (by decide) ?_
                      show Steps p.tables e below (s₁.setTop (mkF m 16 #[.val (.int nx), .val (.int dd), .val (.int ((10 : Int32) * ((10 : Int32) * ((10 : Int32) * ((10 : Int32) * ((10 : Int32) * ((10 : Int32) * ((10 : Int32) * ((10 : Int32) * ((10 : Int32) * (-10 : Int32))))))))))), .val (.int ((((((((((1 : Int32) + (1 : Int32)) + (1 : Int32)) + (1 : Int32)) + (1 : Int32)) + (1 : Int32)) + (1 : Int32)) + (1 : Int32)) + (1 : Int32)) + (1 : Int32)))] [])) _
                      exact k_
                    refine own_go (S' := (s₁.setTop (mkF m 19 #[.val (.int nx), .val (.int dd), .val (.int ((10 : Int32) * ((10 : Int32) * ((10 : Int32) * ((10 : Int32) * ((10 : Int32) * ((10 : Int32) * ((10 : Int32) * ((10 : Int32) * ((10 : Int32) * (-10 : Int32))))))))))), .val (.int ((((((((((1 : Int32) + (1 : Int32)) + (1 : Int32)) + (1 : Int32)) + (1 : Int32)) + (1 : Int32)) + (1 : Int32)) + (1 : Int32)) + (1 : Int32)) + (1 : Int32)))] [(.int (10 : Int32)), (.int ((((((((((1 : Int32) + (1 : Int32)) + (1 : Int32)) + (1 : Int32)) + (1 : Int32)) + (1 : Int32)) + (1 : Int32)) + (1 : Int32)) + (1 : Int32)) + (1 : Int32)))]))) (fun t_ k_ => ?_) ?_
                    · refine XS.iloadN X0.here hx rfl (hb hby own_d18_16) rfl ?_
                      show Steps p.tables e below (s₁.setTop (mkF m 17 #[.val (.int nx), .val (.int dd), .val (.int ((10 : Int32) * ((10 : Int32) * ((10 : Int32) * ((10 : Int32) * ((10 : Int32) * ((10 : Int32) * ((10 : Int32) * ((10 : Int32) * ((10 : Int32) * (-10 : Int32))))))))))), .val (.int ((((((((((1 : Int32) + (1 : Int32)) + (1 : Int32)) + (1 : Int32)) + (1 : Int32)) + (1 : Int32)) + (1 : Int32)) + (1 : Int32)) + (1 : Int32)) + (1 : Int32)))] [(.int ((((((((((1 : Int32) + (1 : Int32)) + (1 : Int32)) + (1 : Int32)) + (1 : Int32)) + (1 : Int32)) + (1 : Int32)) + (1 : Int32)) + (1 : Int32)) + (1 : Int32)))])) _
                      refine XS.bipush X0.here hx rfl (hb hby own_d18_17) ?_
                      show Steps p.tables e below (s₁.setTop (mkF m 19 #[.val (.int nx), .val (.int dd), .val (.int ((10 : Int32) * ((10 : Int32) * ((10 : Int32) * ((10 : Int32) * ((10 : Int32) * ((10 : Int32) * ((10 : Int32) * ((10 : Int32) * ((10 : Int32) * (-10 : Int32))))))))))), .val (.int ((((((((((1 : Int32) + (1 : Int32)) + (1 : Int32)) + (1 : Int32)) + (1 : Int32)) + (1 : Int32)) + (1 : Int32)) + (1 : Int32)) + (1 : Int32)) + (1 : Int32)))] [(.int (10 : Int32)), (.int ((((((((((1 : Int32) + (1 : Int32)) + (1 : Int32)) + (1 : Int32)) + (1 : Int32)) + (1 : Int32)) + (1 : Int32)) + (1 : Int32)) + (1 : Int32)) + (1 : Int32)))])) _
                      exact k_
                    refine own_go (S' := (s₁.setTop (mkF m 46 #[.val (.int nx), .val (.int dd), .val (.int ((10 : Int32) * ((10 : Int32) * ((10 : Int32) * ((10 : Int32) * ((10 : Int32) * ((10 : Int32) * ((10 : Int32) * ((10 : Int32) * ((10 : Int32) * (-10 : Int32))))))))))), .val (.int ((((((((((1 : Int32) + (1 : Int32)) + (1 : Int32)) + (1 : Int32)) + (1 : Int32)) + (1 : Int32)) + (1 : Int32)) + (1 : Int32)) + (1 : Int32)) + (1 : Int32)))] [(.int ((10 : Int32) + dd))]))) (fun t_ k_ => ?_) ?_
                    · refine XS.icmpYes X0.here hx rfl (pc0 := 19) (pc' := 42) rfl (hb hby own_d18_19) rfl (flt (by decide)).2.1 (by decide) (by decide) ?_
                      show Steps p.tables e below (s₁.setTop (mkF m 42 #[.val (.int nx), .val (.int dd), .val (.int ((10 : Int32) * ((10 : Int32) * ((10 : Int32) * ((10 : Int32) * ((10 : Int32) * ((10 : Int32) * ((10 : Int32) * ((10 : Int32) * ((10 : Int32) * (-10 : Int32))))))))))), .val (.int ((((((((((1 : Int32) + (1 : Int32)) + (1 : Int32)) + (1 : Int32)) + (1 : Int32)) + (1 : Int32)) + (1 : Int32)) + (1 : Int32)) + (1 : Int32)) + (1 : Int32)))] [])) _
                      refine XS.bipush X0.here hx rfl (hb hby own_d18_42) ?_
                      show Steps p.tables e below (s₁.setTop (mkF m 44 #[.val (.int nx), .val (.int dd), .val (.int ((10 : Int32) * ((10 : Int32) * ((10 : Int32) * ((10 : Int32) * ((10 : Int32) * ((10 : Int32) * ((10 : Int32) * ((10 : Int32) * ((10 : Int32) * (-10 : Int32))))))))))), .val (.int ((((((((((1 : Int32) + (1 : Int32)) + (1 : Int32)) + (1 : Int32)) + (1 : Int32)) + (1 : Int32)) + (1 : Int32)) + (1 : Int32)) + (1 : Int32)) + (1 : Int32)))] [(.int (10 : Int32))])) _
                      refine XS.iloadN X0.here hx rfl (hb hby own_d18_44) rfl ?_
                      show Steps p.tables e below (s₁.setTop (mkF m 45 #[.val (.int nx), .val (.int dd), .val (.int ((10 : Int32) * ((10 : Int32) * ((10 : Int32) * ((10 : Int32) * ((10 : Int32) * ((10 : Int32) * ((10 : Int32) * ((10 : Int32) * ((10 : Int32) * (-10 : Int32))))))))))), .val (.int ((((((((((1 : Int32) + (1 : Int32)) + (1 : Int32)) + (1 : Int32)) + (1 : Int32)) + (1 : Int32)) + (1 : Int32)) + (1 : Int32)) + (1 : Int32)) + (1 : Int32)))] [(.int dd), (.int (10 : Int32))])) _
                      refine XS.iadd X0.here hx rfl (hb hby own_d18_45) rfl ?_
                      show Steps p.tables e below (s₁.setTop (mkF m 46 #[.val (.int nx), .val (.int dd), .val (.int ((10 : Int32) * ((10 : Int32) * ((10 : Int32) * ((10 : Int32) * ((10 : Int32) * ((10 : Int32) * ((10 : Int32) * ((10 : Int32) * ((10 : Int32) * (-10 : Int32))))))))))), .val (.int ((((((((((1 : Int32) + (1 : Int32)) + (1 : Int32)) + (1 : Int32)) + (1 : Int32)) + (1 : Int32)) + (1 : Int32)) + (1 : Int32)) + (1 : Int32)) + (1 : Int32)))] [(.int ((10 : Int32) + dd))])) _
                      exact k_
                    refine own_retI X0 hx Bd.returns Bd.notSynchronized (hb hby own_d18_46) (by decide) (by decide) ?_
                    try rw [e0]
                    exact ⟨congrArg (fun z => some (Value.int z)) (own_szL (k := (10 : Int32)) (i := 10) (own_digs_len (k := 9) (by omega) (Or.inr (by have := mt (own_bnd hu (a := 10 ^ 9) (by decide)).mpr g9; omega)) (by omega)) edd (by decide) (by omega)), N0, rfl⟩
theorem own_pred {k : Nat} (h : 0 < k) (h' : k ≤ 1000) : Int32.ofNat k + (-1 : Int32) = Int32.ofNat (k - 1) := by
  rw [← Int32.toInt_inj, (own_nat (by omega)).1]
  have h2 := c_iadd (Int32.ofNat k) (-1)
  have r := rng32 (Int32.ofNat k + (-1))
  have e1 : (-1 : Int32).toInt = -1 := by decide
  rw [(own_nat (by omega)).1, e1] at h2
  omega
theorem own_ctL {ws dn : List Int32} {pos p0 : Nat} (h1 : pos + dn.length = p0) (h2 : p0 ≤ ws.length) : (ws.take pos ++ dn ++ ws.drop p0).length = ws.length := by simp; omega
theorem own_d20_0 : decode jdk_33_method_12_code 0 = .ok (.iload_n 1, 1) := by decide +kernel
theorem own_d20_1 : decode jdk_33_method_12_code 1 = .ok (.istore 5, 2) := by decide +kernel
theorem own_d20_3 : decode jdk_33_method_12_code 3 = .ok (.iload_n 0, 1) := by decide +kernel
theorem own_d20_4 : decode jdk_33_method_12_code 4 = .ok (.ifCond .ge 7, 3) := by decide +kernel
theorem own_d20_7 : decode jdk_33_method_12_code 7 = .ok (.iconst 1, 1) := by decide +kernel
theorem own_d20_8 : decode jdk_33_method_12_code 8 = .ok (.goto 4, 3) := by decide +kernel
theorem own_d20_11 : decode jdk_33_method_12_code 11 = .ok (.iconst 0, 1) := by decide +kernel
theorem own_d20_12 : decode jdk_33_method_12_code 12 = .ok (.istore 6, 2) := by decide +kernel
theorem own_d20_14 : decode jdk_33_method_12_code 14 = .ok (.iload 6, 2) := by decide +kernel
theorem own_d20_16 : decode jdk_33_method_12_code 16 = .ok (.ifCond .ne 6, 3) := by decide +kernel
theorem own_d20_19 : decode jdk_33_method_12_code 19 = .ok (.iload_n 0, 1) := by decide +kernel
theorem own_d20_20 : decode jdk_33_method_12_code 20 = .ok (.ineg, 1) := by decide +kernel
theorem own_d20_21 : decode jdk_33_method_12_code 21 = .ok (.istore_n 0, 1) := by decide +kernel
theorem own_d20_22 : decode jdk_33_method_12_code 22 = .ok (.iload_n 0, 1) := by decide +kernel
theorem own_d20_23 : decode jdk_33_method_12_code 23 = .ok (.bipush (-100), 2) := by decide +kernel
theorem own_d20_25 : decode jdk_33_method_12_code 25 = .ok (.if_icmp .gt 47, 3) := by decide +kernel
theorem own_d20_28 : decode jdk_33_method_12_code 28 = .ok (.iload_n 0, 1) := by decide +kernel
theorem own_d20_29 : decode jdk_33_method_12_code 29 = .ok (.bipush 100, 2) := by decide +kernel
theorem own_d20_31 : decode jdk_33_method_12_code 31 = .ok (.idiv, 1) := by decide +kernel
theorem own_d20_32 : decode jdk_33_method_12_code 32 = .ok (.istore_n 3, 1) := by decide +kernel
theorem own_d20_33 : decode jdk_33_method_12_code 33 = .ok (.iload_n 3, 1) := by decide +kernel
theorem own_d20_34 : decode jdk_33_method_12_code 34 = .ok (.bipush 100, 2) := by decide +kernel
theorem own_d20_36 : decode jdk_33_method_12_code 36 = .ok (.imul, 1) := by decide +kernel
theorem own_d20_37 : decode jdk_33_method_12_code 37 = .ok (.iload_n 0, 1) := by decide +kernel
theorem own_d20_38 : decode jdk_33_method_12_code 38 = .ok (.isub, 1) := by decide +kernel
theorem own_d20_39 : decode jdk_33_method_12_code 39 = .ok (.istore 4, 2) := by decide +kernel
theorem own_d20_41 : decode jdk_33_method_12_code 41 = .ok (.iload_n 3, 1) := by decide +kernel
theorem own_d20_42 : decode jdk_33_method_12_code 42 = .ok (.istore_n 0, 1) := by decide +kernel
theorem own_d20_43 : decode jdk_33_method_12_code 43 = .ok (.aload_n 2, 1) := by decide +kernel
theorem own_d20_44 : decode jdk_33_method_12_code 44 = .ok (.iinc 5 (-1), 3) := by decide +kernel
theorem own_d20_47 : decode jdk_33_method_12_code 47 = .ok (.iload 5, 2) := by decide +kernel
theorem own_d20_49 : decode jdk_33_method_12_code 49 = .ok (.getstatic 83, 3) := by decide +kernel
theorem own_d20_52 : decode jdk_33_method_12_code 52 = .ok (.iload 4, 2) := by decide +kernel
theorem own_d20_54 : decode jdk_33_method_12_code 54 = .ok (.baload, 1) := by decide +kernel
theorem own_d20_55 : decode jdk_33_method_12_code 55 = .ok (.bastore, 1) := by decide +kernel
theorem own_d20_56 : decode jdk_33_method_12_code 56 = .ok (.aload_n 2, 1) := by decide +kernel
theorem own_d20_57 : decode jdk_33_method_12_code 57 = .ok (.iinc 5 (-1), 3) := by decide +kernel
theorem own_d20_60 : decode jdk_33_method_12_code 60 = .ok (.iload 5, 2) := by decide +kernel
theorem own_d20_62 : decode jdk_33_method_12_code 62 = .ok (.getstatic 87, 3) := by decide +kernel
theorem own_d20_65 : decode jdk_33_method_12_code 65 = .ok (.iload 4, 2) := by decide +kernel
theorem own_d20_67 : decode jdk_33_method_12_code 67 = .ok (.baload, 1) := by decide +kernel
theorem own_d20_68 : decode jdk_33_method_12_code 68 = .ok (.bastore, 1) := by decide +kernel
theorem own_d20_69 : decode jdk_33_method_12_code 69 = .ok (.goto (-47), 3) := by decide +kernel
theorem own_d20_72 : decode jdk_33_method_12_code 72 = .ok (.aload_n 2, 1) := by decide +kernel
theorem own_d20_73 : decode jdk_33_method_12_code 73 = .ok (.iinc 5 (-1), 3) := by decide +kernel
theorem own_d20_76 : decode jdk_33_method_12_code 76 = .ok (.iload 5, 2) := by decide +kernel
theorem own_d20_78 : decode jdk_33_method_12_code 78 = .ok (.getstatic 83, 3) := by decide +kernel
theorem own_d20_81 : decode jdk_33_method_12_code 81 = .ok (.iload_n 0, 1) := by decide +kernel
theorem own_d20_82 : decode jdk_33_method_12_code 82 = .ok (.ineg, 1) := by decide +kernel
theorem own_d20_83 : decode jdk_33_method_12_code 83 = .ok (.baload, 1) := by decide +kernel
theorem own_d20_84 : decode jdk_33_method_12_code 84 = .ok (.bastore, 1) := by decide +kernel
theorem own_d20_85 : decode jdk_33_method_12_code 85 = .ok (.iload_n 0, 1) := by decide +kernel
theorem own_d20_86 : decode jdk_33_method_12_code 86 = .ok (.bipush (-9), 2) := by decide +kernel
theorem own_d20_88 : decode jdk_33_method_12_code 88 = .ok (.if_icmp .ge 16, 3) := by decide +kernel
theorem own_d20_91 : decode jdk_33_method_12_code 91 = .ok (.aload_n 2, 1) := by decide +kernel
theorem own_d20_92 : decode jdk_33_method_12_code 92 = .ok (.iinc 5 (-1), 3) := by decide +kernel
theorem own_d20_95 : decode jdk_33_method_12_code 95 = .ok (.iload 5, 2) := by decide +kernel
theorem own_d20_97 : decode jdk_33_method_12_code 97 = .ok (.getstatic 87, 3) := by decide +kernel
theorem own_d20_100 : decode jdk_33_method_12_code 100 = .ok (.iload_n 0, 1) := by decide +kernel
theorem own_d20_101 : decode jdk_33_method_12_code 101 = .ok (.ineg, 1) := by decide +kernel
theorem own_d20_102 : decode jdk_33_method_12_code 102 = .ok (.baload, 1) := by decide +kernel
theorem own_d20_103 : decode jdk_33_method_12_code 103 = .ok (.bastore, 1) := by decide +kernel
theorem own_d20_104 : decode jdk_33_method_12_code 104 = .ok (.iload 6, 2) := by decide +kernel
theorem own_d20_106 : decode jdk_33_method_12_code 106 = .ok (.ifCond .eq 12, 3) := by decide +kernel
theorem own_d20_109 : decode jdk_33_method_12_code 109 = .ok (.aload_n 2, 1) := by decide +kernel
theorem own_d20_110 : decode jdk_33_method_12_code 110 = .ok (.iinc 5 (-1), 3) := by decide +kernel
theorem own_d20_113 : decode jdk_33_method_12_code 113 = .ok (.iload 5, 2) := by decide +kernel
theorem own_d20_115 : decode jdk_33_method_12_code 115 = .ok (.bipush 45, 2) := by decide +kernel
theorem own_d20_117 : decode jdk_33_method_12_code 117 = .ok (.bastore, 1) := by decide +kernel
theorem own_d20_118 : decode jdk_33_method_12_code 118 = .ok (.iload 5, 2) := by decide +kernel
theorem own_d20_120 : decode jdk_33_method_12_code 120 = .ok (.ireturn, 1) := by decide +kernel
theorem own_c20_ef (m : MethodId) (x0 : Int32) (x1 : Int32) (x2 : Addr) : entryFrame m #[(.int x0), (.int x1), (.ref x2)] 7 = mkF m 0 #[.val (.int x0), .val (.int x1), .val (.ref x2), .unset, .unset, .unset, .unset] [] := by first | (simp [entryFrame, mkF, argsToLocals, Value.category]; done) | rfl
set_option maxRecDepth 65536 in
set_option maxHeartbeats 40000000 in
theorem own_c20 (l : Launch) (Z : State) (a0 : Array Value) (hw : ∀ d ∈ tables_1, d.before a0 Z = true) (wsC : List Jvm.Cond) (p1 : Int32) (a3 : Addr) (k3 : ClassId) (ws : List Int32) (st p0 : Nat) (hp0 : st + (own_dec p1).length = p0) (hp1 : p0 ≤ ws.length) (hw5 : ws.length ≤ 500) (d1 d2 : Addr) (kd1 kd2 : ClassId) (D1 : Sta Z Z.heap "java/lang/Integer" "DigitOnes" "[B" (.ref d1)) (D2 : Sta Z Z.heap "java/lang/Integer" "DigitTens" "[B" (.ref d2)) (T1 : Arv Z Z.heap d1 kd1 .byte 100 (own_ones.map Value.int) (.int 0)) (T2 : Arv Z Z.heap d2 kd2 .byte 100 (own_tens.map Value.int) (.int 0)) (h0 : Heap) (n0 : Nat) (O : Old Z n0 h0) (V3 : Arv Z h0 a3 k3 .byte (Int32.ofNat ws.length) (ws.map Value.int) (.int 0)) (g3 : n0 ≤ a3) :
    own_Ctr l Z (⟨"java/lang/Integer", "getChars", "(II[B)I"⟩ : MethodName) jdk_33_method_12_code 7 (some .int) wsC ({ frames := 0, cells := 0, slots := 0, locals := 0 } : Room) h0 #[(.int p1), (.int (Int32.ofNat p0)), (.ref a3)] (fun v h L => v = some (.int (Int32.ofNat st)) ∧ Fr n0 L ∧ Keep h0 h [a3] ∧ Arv Z h a3 k3 .byte (Int32.ofNat ws.length) ((ws.take st ++ own_dec p1 ++ ws.drop p0).map Value.int) (.int 0)) := by
  refine own_ctr (plainFor_of_name own_pn4) ?_
  intro p e s m below meth c s₁ Bd hml0 hx hby hZ hown0 X0 e0
  have hml : c.maxLocals = 7 := hml0
  have hown : s.vm.findClass "java/lang/Integer" = some m.cls := hown0
  have hnm := (name_of_methodNamed Bd.named Bd.method).1
  have N0 := Fr.nil n0
  refine own_cast (own_c20_ef m p1 (Int32.ofNat p0) a3) ?_
  obtain ⟨nx, enx⟩ : ∃ z : Int32, z = if p1 < (0 : Int32) then p1 else -p1 := ⟨_, rfl⟩
  obtain ⟨ng, eng⟩ : ∃ z : Int32, z = if p1 < (0 : Int32) then 1 else 0 := ⟨_, rfl⟩
  have hu : nx.toInt = -(p1.toInt.natAbs : Int) := by rw [enx]; exact own_neg
  have hub := own_absB p1
  obtain ⟨sg, hsg⟩ : ∃ z : Nat, z = if p1 < (0 : Int32) then 1 else 0 := ⟨_, rfl⟩
  have hdl : (own_dec p1).length = sg + (own_digs p1.toInt.natAbs).length := by rw [own_dec, hsg]; split <;> simp; omega
  have O100 : (Int32.ofNat 100) = (100 : Int32) := by decide
  refine own_go (S' := (s₁.setTop (mkF m 4 #[.val (.int p1), .val (.int (Int32.ofNat p0)), .val (.ref a3), .unset, .unset, .val (.int (Int32.ofNat p0)), .unset] [(.int p1)]))) (fun t_ k_ => ?_) ?_
  · refine XS.iloadN X0.here hx rfl (hb hby own_d20_0) rfl ?_
    show Steps p.tables e below (s₁.setTop (mkF m 1 #[.val (.int p1), .val (.int (Int32.ofNat p0)), .val (.ref a3), .unset, .unset, .unset, .unset] [(.int (Int32.ofNat p0))])) _
    refine XS.istore X0.here hx rfl (hb hby own_d20_1) rfl (l' := #[.val (.int p1), .val (.int (Int32.ofNat p0)), .val (.ref a3), .unset, .unset, .val (.int (Int32.ofNat p0)), .unset]) rfl ?_
    show Steps p.tables e below (s₁.setTop (mkF m 3 #[.val (.int p1), .val (.int (Int32.ofNat p0)), .val (.ref a3), .unset, .unset, .val (.int (Int32.ofNat p0)), .unset] [])) _
    refine XS.iloadN X0.here hx rfl (hb hby own_d20_3) rfl ?_
    show Steps p.tables e below (s₁.setTop (mkF m 4 #[.val (.int p1), .val (.int (Int32.ofNat p0)), .val (.ref a3), .unset, .unset, .val (.int (Int32.ofNat p0)), .unset] [(.int p1)])) _
    exact k_
  refine own_join (S' := (s₁.setTop (mkF m 12 #[.val (.int p1), .val (.int (Int32.ofNat p0)), .val (.ref a3), .unset, .unset, .val (.int (Int32.ofNat p0)), .unset] [(.int ng)]))) (fun J101 => ?_) ?_
  · skip
    by_cases hs : p1 < (0 : Int32)
    · skip
      refine own_go (S' := (s₁.setTop (mkF m 12 #[.val (.int p1), .val (.int (Int32.ofNat p0)), .val (.ref a3), .unset, .unset, .val (.int (Int32.ofNat p0)), .unset] [(.int (1 : Int32))]))) (fun t_ k_ => ?_) ?_
      · refine XS.ifNo X0.here hx rfl (hb hby own_d20_4) rfl ((if0 _ _).trans (tlt hs).2.1) ?_
        show Steps p.tables e below (s₁.setTop (mkF m 7 #[.val (.int p1), .val (.int (Int32.ofNat p0)), .val (.ref a3), .unset, .unset, .val (.int (Int32.ofNat p0)), .unset] [])) _
        refine XS.iconst X0.here hx rfl (hb hby own_d20_7) ?_
        show Steps p.tables e below (s₁.setTop (mkF m 8 #[.val (.int p1), .val (.int (Int32.ofNat p0)), .val (.ref a3), .unset, .unset, .val (.int (Int32.ofNat p0)), .unset] [(.int (1 : Int32))])) _
        refine XS.goto X0.here hx rfl (pc0 := 8) (pc' := 12) rfl (hb hby own_d20_8) (by decide) (by decide) ?_
        show Steps p.tables e below (s₁.setTop (mkF m 12 #[.val (.int p1), .val (.int (Int32.ofNat p0)), .val (.ref a3), .unset, .unset, .val (.int (Int32.ofNat p0)), .unset] [(.int (1 : Int32))])) _
        exact k_
      rw [if_pos hs] at eng; subst eng; exact J101
    · skip
      refine own_go (S' := (s₁.setTop (mkF m 12 #[.val (.int p1), .val (.int (Int32.ofNat p0)), .val (.ref a3), .unset, .unset, .val (.int (Int32.ofNat p0)), .unset] [(.int (0 : Int32))]))) (fun t_ k_ => ?_) ?_
      · refine XS.ifYes X0.here hx rfl (pc0 := 4) (pc' := 11) rfl (hb hby own_d20_4) rfl ((if0 _ _).trans (flt hs).2.1) (by decide) (by decide) ?_
        show Steps p.tables e below (s₁.setTop (mkF m 11 #[.val (.int p1), .val (.int (Int32.ofNat p0)), .val (.ref a3), .unset, .unset, .val (.int (Int32.ofNat p0)), .unset] [])) _
        refine XS.iconst X0.here hx rfl (hb hby own_d20_11) ?_
        show Steps p.tables e below (s₁.setTop (mkF m 12 #[.val (.int p1), .val (.int (Int32.ofNat p0)), .val (.ref a3), .unset, .unset, .val (.int (Int32.ofNat p0)), .unset] [(.int (0 : Int32))])) _
        exact k_
      rw [if_neg hs] at eng; subst eng; exact J101
  refine own_go (S' := (s₁.setTop (mkF m 16 #[.val (.int p1), .val (.int (Int32.ofNat p0)), .val (.ref a3), .unset, .unset, .val (.int (Int32.ofNat p0)), .val (.int ng)] [(.int ng)]))) (fun t_ k_ => ?_) ?_
  · refine XS.istore X0.here hx rfl (hb hby own_d20_12) rfl (l' := #[.val (.int p1), .val (.int (Int32.ofNat p0)), .val (.ref a3), .unset, .unset, .val (.int (Int32.ofNat p0)), .val (.int ng)]) rfl ?_
    show Steps p.tables e below (s₁.setTop (mkF m 14 #[.val (.int p1), .val (.int (Int32.ofNat p0)), .val (.ref a3), .unset, .unset, .val (.int (Int32.ofNat p0)), .val (.int ng)] [])) _
    refine XS.iload X0.here hx rfl (hb hby own_d20_14) rfl ?_
    show Steps p.tables e below (s₁.setTop (mkF m 16 #[.val (.int p1), .val (.int (Int32.ofNat p0)), .val (.ref a3), .unset, .unset, .val (.int (Int32.ofNat p0)), .val (.int ng)] [(.int ng)])) _
    exact k_
  have hngI : ng = (0 : Int32) ↔ ¬ p1 < (0 : Int32) := own_hng eng
  refine own_join (S' := (s₁.setTop (mkF m 22 #[.val (.int nx), .val (.int (Int32.ofNat p0)), .val (.ref a3), .unset, .unset, .val (.int (Int32.ofNat p0)), .val (.int ng)] []))) (fun J102 => ?_) ?_
  · skip
    by_cases hz : ng = (0 : Int32)
    · skip
      refine own_go (S' := (s₁.setTop (mkF m 22 #[.val (.int (-p1)), .val (.int (Int32.ofNat p0)), .val (.ref a3), .unset, .unset, .val (.int (Int32.ofNat p0)), .val (.int ng)] []))) (fun t_ k_ => ?_) ?_
      · refine XS.ifNo X0.here hx rfl (hb hby own_d20_16) rfl ((if0 _ _).trans (teq hz).2) ?_
        show Steps p.tables e below (s₁.setTop (mkF m 19 #[.val (.int p1), .val (.int (Int32.ofNat p0)), .val (.ref a3), .unset, .unset, .val (.int (Int32.ofNat p0)), .val (.int ng)] [])) _
        refine XS.iloadN X0.here hx rfl (hb hby own_d20_19) rfl ?_
        show Steps p.tables e below (s₁.setTop (mkF m 20 #[.val (.int p1), .val (.int (Int32.ofNat p0)), .val (.ref a3), .unset, .unset, .val (.int (Int32.ofNat p0)), .val (.int ng)] [(.int p1)])) _
        refine XS.ineg X0.here hx rfl (hb hby own_d20_20) rfl ?_
        show Steps p.tables e below (s₁.setTop (mkF m 21 #[.val (.int p1), .val (.int (Int32.ofNat p0)), .val (.ref a3), .unset, .unset, .val (.int (Int32.ofNat p0)), .val (.int ng)] [(.int (-p1))])) _
        refine XS.istoreN X0.here hx rfl (hb hby own_d20_21) rfl (l' := #[.val (.int (-p1)), .val (.int (Int32.ofNat p0)), .val (.ref a3), .unset, .unset, .val (.int (Int32.ofNat p0)), .val (.int ng)]) rfl ?_
        show Steps p.tables e below (s₁.setTop (mkF m 22 #[.val (.int (-p1)), .val (.int (Int32.ofNat p0)), .val (.ref a3), .unset, .unset, .val (.int (Int32.ofNat p0)), .val (.int ng)] [])) _
        exact k_
      rw [if_neg (hngI.mp hz)] at enx; subst enx; exact J102
    · skip
      refine own_go (S' := (s₁.setTop (mkF m 22 #[.val (.int p1), .val (.int (Int32.ofNat p0)), .val (.ref a3), .unset, .unset, .val (.int (Int32.ofNat p0)), .val (.int ng)] []))) (fun t_ k_ => ?_) ?_
      · refine XS.ifYes X0.here hx rfl (pc0 := 16) (pc' := 22) rfl (hb hby own_d20_16) rfl ((if0 _ _).trans (feq hz).2) (by decide) (by decide) ?_
        show Steps p.tables e below (s₁.setTop (mkF m 22 #[.val (.int p1), .val (.int (Int32.ofNat p0)), .val (.ref a3), .unset, .unset, .val (.int (Int32.ofNat p0)), .val (.int ng)] [])) _
        exact k_
      rw [if_pos (Decidable.of_not_not (mt hngI.mpr hz))] at enx; subst enx; exact J102
  have S : ∀ (TS : State) (lcS : List Loc) (hS : Heap) (cS : Int32) (pS : Nat) (dS : List Int32) (s3 s4 : Slot) (XSs : Stand p l e ({ frames := 0, cells := 0, slots := 0, locals := 0 } : Room) s m #[(.int p1), (.int (Int32.ofNat p0)), (.ref a3)] below meth c TS lcS 0 0) (eS : TS.heap = hS) (NS : Fr n0 lcS) (hpS : pS = st + sg) (hlS : pS + dS.length = p0) (hdS : dS = own_digs p1.toInt.natAbs) (KS : Keep h0 hS [a3]) (VS : Arv Z hS a3 k3 .byte (Int32.ofNat ws.length) ((ws.take pS ++ dS ++ ws.drop p0).map Value.int) (.int 0)) (o3 : One s3) (o4 : One s4), own_Rch p e below (own_Fin s ({ frames := 0, cells := 0, slots := 0, locals := 0 } : Room).cells ({ frames := 0, cells := 0, slots := 0, locals := 0 } : Room).slots (fun v h L => v = some (.int (Int32.ofNat st)) ∧ Fr n0 L ∧ Keep h0 h [a3] ∧ Arv Z h a3 k3 .byte (Int32.ofNat ws.length) ((ws.take st ++ own_dec p1 ++ ws.drop p0).map Value.int) (.int 0))) (TS.setTop (mkF m 104 #[.val (.int cS), .val (.int (Int32.ofNat p0)), .val (.ref a3), s3, s4, .val (.int (Int32.ofNat pS)), .val (.int ng)] [])) := by
    intro TS lcS hS cS pS dS s3 s4 XSs eS NS hpS hlS hdS KS VS o3 o4
    refine own_go (S' := (TS.setTop (mkF m 106 #[.val (.int cS), .val (.int (Int32.ofNat p0)), .val (.ref a3), s3, s4, .val (.int (Int32.ofNat pS)), .val (.int ng)] [(.int ng)]))) (fun t_ k_ => ?_) ?_
    · refine XS.iload XSs.here hx rfl (hb hby own_d20_104) rfl ?_
      show Steps p.tables e below (TS.setTop (mkF m 106 #[.val (.int cS), .val (.int (Int32.ofNat p0)), .val (.ref a3), s3, s4, .val (.int (Int32.ofNat pS)), .val (.int ng)] [(.int ng)])) _
      exact k_
    by_cases hz2 : ng = (0 : Int32)
    · skip
      have hpn := hngI.mp hz2
      refine own_go (S' := (TS.setTop (mkF m 120 #[.val (.int cS), .val (.int (Int32.ofNat p0)), .val (.ref a3), s3, s4, .val (.int (Int32.ofNat pS)), .val (.int ng)] [(.int (Int32.ofNat pS))]))) (fun t_ k_ => ?_) ?_
      · refine XS.ifYes XSs.here hx rfl (pc0 := 106) (pc' := 118) rfl (hb hby own_d20_106) rfl ((if0 _ _).trans (teq hz2).1) (by decide) (by decide) ?_
        show Steps p.tables e below (TS.setTop (mkF m 118 #[.val (.int cS), .val (.int (Int32.ofNat p0)), .val (.ref a3), s3, s4, .val (.int (Int32.ofNat pS)), .val (.int ng)] [])) _
        refine XS.iload XSs.here hx rfl (hb hby own_d20_118) rfl ?_
        show Steps p.tables e below (TS.setTop (mkF m 120 #[.val (.int cS), .val (.int (Int32.ofNat p0)), .val (.ref a3), s3, s4, .val (.int (Int32.ofNat pS)), .val (.int ng)] [(.int (Int32.ofNat pS))])) _
        exact k_
      obtain rfl : pS = st := by rw [hsg, if_neg hpn] at hpS; omega
      refine own_retI XSs hx Bd.returns Bd.notSynchronized (hb hby own_d20_120) (by decide) (by decide) ?_
      try rw [eS]
      exact ⟨rfl, NS, KS, by rw [own_dec, if_neg hpn, ← hdS]; exact VS⟩
    · skip
      have hpn := Decidable.of_not_not (mt hngI.mpr hz2)
      rw [if_pos hpn] at hsg
      refine own_go (S' := (TS.setTop (mkF m 115 #[.val (.int cS), .val (.int (Int32.ofNat p0)), .val (.ref a3), s3, s4, .val (.int ((Int32.ofNat pS) + (-1 : Int32))), .val (.int ng)] [(.int ((Int32.ofNat pS) + (-1 : Int32))), (.ref a3)]))) (fun t_ k_ => ?_) ?_
      · refine XS.ifNo XSs.here hx rfl (hb hby own_d20_106) rfl ((if0 _ _).trans (feq hz2).1) ?_
        show Steps p.tables e below (TS.setTop (mkF m 109 #[.val (.int cS), .val (.int (Int32.ofNat p0)), .val (.ref a3), s3, s4, .val (.int (Int32.ofNat pS)), .val (.int ng)] [])) _
        refine XS.aloadN XSs.here hx rfl (hb hby own_d20_109) rfl rfl ?_
        show Steps p.tables e below (TS.setTop (mkF m 110 #[.val (.int cS), .val (.int (Int32.ofNat p0)), .val (.ref a3), s3, s4, .val (.int (Int32.ofNat pS)), .val (.int ng)] [(.ref a3)])) _
        refine XS.iinc XSs.here hx rfl (hb hby own_d20_110) rfl (l' := #[.val (.int cS), .val (.int (Int32.ofNat p0)), .val (.ref a3), s3, s4, .val (.int ((Int32.ofNat pS) + (-1 : Int32))), .val (.int ng)]) rfl ?_
        show Steps p.tables e below (TS.setTop (mkF m 113 #[.val (.int cS), .val (.int (Int32.ofNat p0)), .val (.ref a3), s3, s4, .val (.int ((Int32.ofNat pS) + (-1 : Int32))), .val (.int ng)] [(.ref a3)])) _
        refine XS.iload XSs.here hx rfl (hb hby own_d20_113) rfl ?_
        show Steps p.tables e below (TS.setTop (mkF m 115 #[.val (.int cS), .val (.int (Int32.ofNat p0)), .val (.ref a3), s3, s4, .val (.int ((Int32.ofNat pS) + (-1 : Int32))), .val (.int ng)] [(.int ((Int32.ofNat pS) + (-1 : Int32))), (.ref a3)])) _
        exact k_
      rw [own_pred (by omega : 0 < pS) (by omega)]
      show own_Rch p e below _ (TS.setTop (mkF m 115 #[.val (.int cS), .val (.int (Int32.ofNat p0)), .val (.ref a3), s3, s4, .val (.int (Int32.ofNat (pS - 1))), .val (.int ng)] [(.int (Int32.ofNat (pS - 1))), (.ref a3)]))
      refine own_go (S' := (TS.setTop (mkF m 117 #[.val (.int cS), .val (.int (Int32.ofNat p0)), .val (.ref a3), s3, s4, .val (.int (Int32.ofNat (pS - 1))), .val (.int ng)] [(.int (45 : Int32)), (.int (Int32.ofNat (pS - 1))), (.ref a3)]))) (fun t_ k_ => ?_) ?_
      · refine XS.bipush XSs.here hx rfl (hb hby own_d20_115) ?_
        show Steps p.tables e below (TS.setTop (mkF m 117 #[.val (.int cS), .val (.int (Int32.ofNat p0)), .val (.ref a3), s3, s4, .val (.int (Int32.ofNat (pS - 1))), .val (.int ng)] [(.int (45 : Int32)), (.int (Int32.ofNat (pS - 1))), (.ref a3)])) _
        exact k_
      obtain ⟨T103, h103, X103, e103, W103, V103, st103⟩ := own_stB XSs hx hZ eS VS ⟨(own_nat (by omega)).2.2.1, (own_ltN (by omega) (by omega)).mpr (by omega)⟩ (i := (pS - 1)) (own_nat (by omega)).2.1 (by rw [List.length_map, own_ctL (by first | omega | (simp; omega)) hp1]; omega) (g := (mkF m 117 #[.val (.int cS), .val (.int (Int32.ofNat p0)), .val (.ref a3), s3, s4, .val (.int (Int32.ofNat (pS - 1))), .val (.int ng)] [(.int (45 : Int32)), (.int (Int32.ofNat (pS - 1))), (.ref a3)])) rfl rfl (hb hby own_d20_117)
      refine own_go st103 ?_
      have N103 := Fr.snoc X103 NS g3
      show own_Rch p e below _ (T103.setTop (mkF m 118 #[.val (.int cS), .val (.int (Int32.ofNat p0)), .val (.ref a3), s3, s4, .val (.int (Int32.ofNat (pS - 1))), .val (.int ng)] []))
      have Vw103 : Arv Z h103 a3 k3 .byte (Int32.ofNat ws.length) ((ws.take (pS - 1) ++ (45 :: dS) ++ ws.drop p0).map Value.int) (.int 0) := by have q := V103; rw [show nar .byte (45 : Int32) = 45 from rfl, ← List.map_set, own_setl (by omega) (by omega)] at q; exact q
      have Kw103 := KS.wr W103 (Or.inl (List.mem_of_getElem? (i := 0) rfl))
      refine own_go (S' := (T103.setTop (mkF m 120 #[.val (.int cS), .val (.int (Int32.ofNat p0)), .val (.ref a3), s3, s4, .val (.int (Int32.ofNat (pS - 1))), .val (.int ng)] [(.int (Int32.ofNat (pS - 1)))]))) (fun t_ k_ => ?_) ?_
      · refine XS.iload X103.here hx rfl (hb hby own_d20_118) rfl ?_
        show Steps p.tables e below (T103.setTop (mkF m 120 #[.val (.int cS), .val (.int (Int32.ofNat p0)), .val (.ref a3), s3, s4, .val (.int (Int32.ofNat (pS - 1))), .val (.int ng)] [(.int (Int32.ofNat (pS - 1)))])) _
        exact k_
      have eST : pS - 1 = st := by omega
      rw [eST]
      show own_Rch p e below _ (T103.setTop (mkF m 120 #[.val (.int cS), .val (.int (Int32.ofNat p0)), .val (.ref a3), s3, s4, .val (.int (Int32.ofNat st)), .val (.int ng)] [(.int (Int32.ofNat st))]))
      refine own_retI X103 hx Bd.returns Bd.notSynchronized (hb hby own_d20_120) (by decide) (by decide) ?_
      try rw [e103]
      exact ⟨rfl, N103, Kw103, by rw [own_dec, if_pos hpn, ← hdS]; rw [eST] at Vw103; exact Vw103⟩
  have E : ∀ (TE : State) (lcE : List Loc) (hE : Heap) (cE : Int32) (uc pE : Nat) (dE : List Int32) (s3 s4 : Slot) (XE : Stand p l e ({ frames := 0, cells := 0, slots := 0, locals := 0 } : Room) s m #[(.int p1), (.int (Int32.ofNat p0)), (.ref a3)] below meth c TE lcE 0 0) (eE : TE.heap = hE) (NE : Fr n0 lcE) (hc1 : uc < 100) (hcE : cE.toInt = -(uc : Int)) (hpE : pE = st + sg + (own_digs uc).length) (hlE : pE + dE.length = p0) (hdE : own_digs p1.toInt.natAbs = own_digs uc ++ dE) (KE : Keep h0 hE [a3]) (VE : Arv Z hE a3 k3 .byte (Int32.ofNat ws.length) ((ws.take pE ++ dE ++ ws.drop p0).map Value.int) (.int 0)) (o3 : One s3) (o4 : One s4), own_Rch p e below (own_Fin s ({ frames := 0, cells := 0, slots := 0, locals := 0 } : Room).cells ({ frames := 0, cells := 0, slots := 0, locals := 0 } : Room).slots (fun v h L => v = some (.int (Int32.ofNat st)) ∧ Fr n0 L ∧ Keep h0 h [a3] ∧ Arv Z h a3 k3 .byte (Int32.ofNat ws.length) ((ws.take st ++ own_dec p1 ++ ws.drop p0).map Value.int) (.int 0))) (TE.setTop (mkF m 72 #[.val (.int cE), .val (.int (Int32.ofNat p0)), .val (.ref a3), s3, s4, .val (.int (Int32.ofNat pE)), .val (.int ng)] [])) := by
    intro TE lcE hE cE uc pE dE s3 s4 XE eE NE hc1 hcE hpE hlE hdE KE VE o3 o4
    have hdd : (own_digs uc).length = if uc < 10 then 1 else 2 := by split <;> first | (rw [own_digs_small (by assumption)]; rfl) | (rw [own_digs_2 (by assumption) hc1]; rfl)
    have hpos : 0 < pE := by rw [hpE]; split at hdd <;> omega
    have hng : (-cE).toInt = (uc : Int) := by have h1 := c_ineg cE; have r := rng32 (-cE); omega
    have hngN : (-cE).toNatClampNeg = uc := by rw [Int32.toNatClampNeg, hng]; omega
    have hin : ¬ (-cE) < 0 ∧ (-cE) < (100 : Int32) := by rw [Int32.lt_iff_toInt_lt, Int32.lt_iff_toInt_lt, hng, show (0 : Int32).toInt = 0 from by decide, show (100 : Int32).toInt = 100 from by decide]; omega
    refine own_go (S' := (TE.setTop (mkF m 76 #[.val (.int cE), .val (.int (Int32.ofNat p0)), .val (.ref a3), s3, s4, .val (.int ((Int32.ofNat pE) + (-1 : Int32))), .val (.int ng)] [(.ref a3)]))) (fun t_ k_ => ?_) ?_
    · refine XS.aloadN XE.here hx rfl (hb hby own_d20_72) rfl rfl ?_
      show Steps p.tables e below (TE.setTop (mkF m 73 #[.val (.int cE), .val (.int (Int32.ofNat p0)), .val (.ref a3), s3, s4, .val (.int (Int32.ofNat pE)), .val (.int ng)] [(.ref a3)])) _
      refine XS.iinc XE.here hx rfl (hb hby own_d20_73) rfl (l' := #[.val (.int cE), .val (.int (Int32.ofNat p0)), .val (.ref a3), s3, s4, .val (.int ((Int32.ofNat pE) + (-1 : Int32))), .val (.int ng)]) rfl ?_
      show Steps p.tables e below (TE.setTop (mkF m 76 #[.val (.int cE), .val (.int (Int32.ofNat p0)), .val (.ref a3), s3, s4, .val (.int ((Int32.ofNat pE) + (-1 : Int32))), .val (.int ng)] [(.ref a3)])) _
      exact k_
    rw [own_pred (by omega : 0 < pE) (by omega)]
    show own_Rch p e below _ (TE.setTop (mkF m 76 #[.val (.int cE), .val (.int (Int32.ofNat p0)), .val (.ref a3), s3, s4, .val (.int (Int32.ofNat (pE - 1))), .val (.int ng)] [(.ref a3)]))
    refine own_go (S' := (TE.setTop (mkF m 78 #[.val (.int cE), .val (.int (Int32.ofNat p0)), .val (.ref a3), s3, s4, .val (.int (Int32.ofNat (pE - 1))), .val (.int ng)] [(.int (Int32.ofNat (pE - 1))), (.ref a3)]))) (fun t_ k_ => ?_) ?_
    · refine XS.iload XE.here hx rfl (hb hby own_d20_76) rfl ?_
      show Steps p.tables e below (TE.setTop (mkF m 78 #[.val (.int cE), .val (.int (Int32.ofNat p0)), .val (.ref a3), s3, s4, .val (.int (Int32.ofNat (pE - 1))), .val (.int ng)] [(.int (Int32.ofNat (pE - 1))), (.ref a3)])) _
      exact k_
    have OE := O.keep KE (allS g3 all0)
    obtain ⟨T104, X104, e104, st104⟩ := getS2 XE hx hZ hown (host := "") (Or.inl (hw _ (List.mem_of_getElem? (i := 131) rfl))) Via.refl eE (D1.ext OE.2) (g := (mkF m 78 #[.val (.int cE), .val (.int (Int32.ofNat p0)), .val (.ref a3), s3, s4, .val (.int (Int32.ofNat (pE - 1))), .val (.int ng)] [(.int (Int32.ofNat (pE - 1))), (.ref a3)])) rfl (hb hby own_d20_78)
    refine own_go st104 ?_
    show own_Rch p e below _ (T104.setTop (mkF m 81 #[.val (.int cE), .val (.int (Int32.ofNat p0)), .val (.ref a3), s3, s4, .val (.int (Int32.ofNat (pE - 1))), .val (.int ng)] [(.ref d1), (.int (Int32.ofNat (pE - 1))), (.ref a3)]))
    refine own_go (S' := (T104.setTop (mkF m 83 #[.val (.int cE), .val (.int (Int32.ofNat p0)), .val (.ref a3), s3, s4, .val (.int (Int32.ofNat (pE - 1))), .val (.int ng)] [(.int (-cE)), (.ref d1), (.int (Int32.ofNat (pE - 1))), (.ref a3)]))) (fun t_ k_ => ?_) ?_
    · refine XS.iloadN X104.here hx rfl (hb hby own_d20_81) rfl ?_
      show Steps p.tables e below (T104.setTop (mkF m 82 #[.val (.int cE), .val (.int (Int32.ofNat p0)), .val (.ref a3), s3, s4, .val (.int (Int32.ofNat (pE - 1))), .val (.int ng)] [(.int cE), (.ref d1), (.int (Int32.ofNat (pE - 1))), (.ref a3)])) _
      refine XS.ineg X104.here hx rfl (hb hby own_d20_82) rfl ?_
      show Steps p.tables e below (T104.setTop (mkF m 83 #[.val (.int cE), .val (.int (Int32.ofNat p0)), .val (.ref a3), s3, s4, .val (.int (Int32.ofNat (pE - 1))), .val (.int ng)] [(.int (-cE)), (.ref d1), (.int (Int32.ofNat (pE - 1))), (.ref a3)])) _
      exact k_
    refine own_go (own_bal X104 hx hZ e104 (T1.ext OE.2) hin (v := (.int (48 + Int32.ofNat (uc % 10)))) (by rw [hngN, own_mapD, own_onesD hc1]) (g := (mkF m 83 #[.val (.int cE), .val (.int (Int32.ofNat p0)), .val (.ref a3), s3, s4, .val (.int (Int32.ofNat (pE - 1))), .val (.int ng)] [(.int (-cE)), (.ref d1), (.int (Int32.ofNat (pE - 1))), (.ref a3)])) rfl rfl (hb hby own_d20_83)) ?_
    show own_Rch p e below _ (T104.setTop (mkF m 84 #[.val (.int cE), .val (.int (Int32.ofNat p0)), .val (.ref a3), s3, s4, .val (.int (Int32.ofNat (pE - 1))), .val (.int ng)] [(.int (48 + Int32.ofNat (uc % 10))), (.int (Int32.ofNat (pE - 1))), (.ref a3)]))
    obtain ⟨T105, h105, X105, e105, W105, V105, st105⟩ := own_stB X104 hx hZ e104 VE ⟨(own_nat (by omega)).2.2.1, (own_ltN (by omega) (by omega)).mpr (by omega)⟩ (i := (pE - 1)) (own_nat (by omega)).2.1 (by rw [List.length_map, own_ctL (by first | omega | (simp; omega)) hp1]; omega) (g := (mkF m 84 #[.val (.int cE), .val (.int (Int32.ofNat p0)), .val (.ref a3), s3, s4, .val (.int (Int32.ofNat (pE - 1))), .val (.int ng)] [(.int (48 + Int32.ofNat (uc % 10))), (.int (Int32.ofNat (pE - 1))), (.ref a3)])) rfl rfl (hb hby own_d20_84)
    refine own_go st105 ?_
    have N105 := Fr.snoc X105 NE g3
    show own_Rch p e below _ (T105.setTop (mkF m 85 #[.val (.int cE), .val (.int (Int32.ofNat p0)), .val (.ref a3), s3, s4, .val (.int (Int32.ofNat (pE - 1))), .val (.int ng)] []))
    have Vw105 : Arv Z h105 a3 k3 .byte (Int32.ofNat ws.length) ((ws.take (pE - 1) ++ ((48 + Int32.ofNat (uc % 10)) :: dE) ++ ws.drop p0).map Value.int) (.int 0) := by have q := V105; rw [own_nb48 (by omega), ← List.map_set, own_setl (by omega) (by omega)] at q; exact q
    have Kw105 := KE.wr W105 (Or.inl (List.mem_of_getElem? (i := 0) rfl))
    refine own_go (S' := (T105.setTop (mkF m 88 #[.val (.int cE), .val (.int (Int32.ofNat p0)), .val (.ref a3), s3, s4, .val (.int (Int32.ofNat (pE - 1))), .val (.int ng)] [(.int (-9 : Int32)), (.int cE)]))) (fun t_ k_ => ?_) ?_
    · refine XS.iloadN X105.here hx rfl (hb hby own_d20_85) rfl ?_
      show Steps p.tables e below (T105.setTop (mkF m 86 #[.val (.int cE), .val (.int (Int32.ofNat p0)), .val (.ref a3), s3, s4, .val (.int (Int32.ofNat (pE - 1))), .val (.int ng)] [(.int cE)])) _
      refine XS.bipush X105.here hx rfl (hb hby own_d20_86) ?_
      show Steps p.tables e below (T105.setTop (mkF m 88 #[.val (.int cE), .val (.int (Int32.ofNat p0)), .val (.ref a3), s3, s4, .val (.int (Int32.ofNat (pE - 1))), .val (.int ng)] [(.int (-9 : Int32)), (.int cE)])) _
      exact k_
    by_cases h9 : cE < (-9 : Int32)
    · skip
      have hu10 : ¬ uc < 10 := by rw [Int32.lt_iff_toInt_lt, hcE, show (-9 : Int32).toInt = -9 from by decide] at h9; omega
      rw [if_neg hu10] at hdd
      refine own_go (S' := (T105.setTop (mkF m 95 #[.val (.int cE), .val (.int (Int32.ofNat p0)), .val (.ref a3), s3, s4, .val (.int ((Int32.ofNat (pE - 1)) + (-1 : Int32))), .val (.int ng)] [(.ref a3)]))) (fun t_ k_ => ?_) ?_
      · refine XS.icmpNo X105.here hx rfl (hb hby own_d20_88) rfl (tlt h9).2.1 ?_
        show Steps p.tables e below (T105.setTop (mkF m 91 #[.val (.int cE), .val (.int (Int32.ofNat p0)), .val (.ref a3), s3, s4, .val (.int (Int32.ofNat (pE - 1))), .val (.int ng)] [])) _
        refine XS.aloadN X105.here hx rfl (hb hby own_d20_91) rfl rfl ?_
        show Steps p.tables e below (T105.setTop (mkF m 92 #[.val (.int cE), .val (.int (Int32.ofNat p0)), .val (.ref a3), s3, s4, .val (.int (Int32.ofNat (pE - 1))), .val (.int ng)] [(.ref a3)])) _
        refine XS.iinc X105.here hx rfl (hb hby own_d20_92) rfl (l' := #[.val (.int cE), .val (.int (Int32.ofNat p0)), .val (.ref a3), s3, s4, .val (.int ((Int32.ofNat (pE - 1)) + (-1 : Int32))), .val (.int ng)]) rfl ?_
        show Steps p.tables e below (T105.setTop (mkF m 95 #[.val (.int cE), .val (.int (Int32.ofNat p0)), .val (.ref a3), s3, s4, .val (.int ((Int32.ofNat (pE - 1)) + (-1 : Int32))), .val (.int ng)] [(.ref a3)])) _
        exact k_
      rw [own_pred (by omega : 0 < pE - 1) (by omega)]
      show own_Rch p e below _ (T105.setTop (mkF m 95 #[.val (.int cE), .val (.int (Int32.ofNat p0)), .val (.ref a3), s3, s4, .val (.int (Int32.ofNat (pE - 1 - 1))), .val (.int ng)] [(.ref a3)]))
      refine own_go (S' := (T105.setTop (mkF m 97 #[.val (.int cE), .val (.int (Int32.ofNat p0)), .val (.ref a3), s3, s4, .val (.int (Int32.ofNat (pE - 1 - 1))), .val (.int ng)] [(.int (Int32.ofNat (pE - 1 - 1))), (.ref a3)]))) (fun t_ k_ => ?_) ?_
      · refine XS.iload X105.here hx rfl (hb hby own_d20_95) rfl ?_
        show Steps p.tables e below (T105.setTop (mkF m 97 #[.val (.int cE), .val (.int (Int32.ofNat p0)), .val (.ref a3), s3, s4, .val (.int (Int32.ofNat (pE - 1 - 1))), .val (.int ng)] [(.int (Int32.ofNat (pE - 1 - 1))), (.ref a3)])) _
        exact k_
      have OE2 := O.keep Kw105 (allS g3 all0)
      obtain ⟨T106, X106, e106, st106⟩ := getS2 X105 hx hZ hown (host := "") (Or.inl (hw _ (List.mem_of_getElem? (i := 132) rfl))) Via.refl e105 (D2.ext OE2.2) (g := (mkF m 97 #[.val (.int cE), .val (.int (Int32.ofNat p0)), .val (.ref a3), s3, s4, .val (.int (Int32.ofNat (pE - 1 - 1))), .val (.int ng)] [(.int (Int32.ofNat (pE - 1 - 1))), (.ref a3)])) rfl (hb hby own_d20_97)
      refine own_go st106 ?_
      show own_Rch p e below _ (T106.setTop (mkF m 100 #[.val (.int cE), .val (.int (Int32.ofNat p0)), .val (.ref a3), s3, s4, .val (.int (Int32.ofNat (pE - 1 - 1))), .val (.int ng)] [(.ref d2), (.int (Int32.ofNat (pE - 1 - 1))), (.ref a3)]))
      refine own_go (S' := (T106.setTop (mkF m 102 #[.val (.int cE), .val (.int (Int32.ofNat p0)), .val (.ref a3), s3, s4, .val (.int (Int32.ofNat (pE - 1 - 1))), .val (.int ng)] [(.int (-cE)), (.ref d2), (.int (Int32.ofNat (pE - 1 - 1))), (.ref a3)]))) (fun t_ k_ => ?_) ?_
      · refine XS.iloadN X106.here hx rfl (hb hby own_d20_100) rfl ?_
        show Steps p.tables e below (T106.setTop (mkF m 101 #[.val (.int cE), .val (.int (Int32.ofNat p0)), .val (.ref a3), s3, s4, .val (.int (Int32.ofNat (pE - 1 - 1))), .val (.int ng)] [(.int cE), (.ref d2), (.int (Int32.ofNat (pE - 1 - 1))), (.ref a3)])) _
        refine XS.ineg X106.here hx rfl (hb hby own_d20_101) rfl ?_
        show Steps p.tables e below (T106.setTop (mkF m 102 #[.val (.int cE), .val (.int (Int32.ofNat p0)), .val (.ref a3), s3, s4, .val (.int (Int32.ofNat (pE - 1 - 1))), .val (.int ng)] [(.int (-cE)), (.ref d2), (.int (Int32.ofNat (pE - 1 - 1))), (.ref a3)])) _
        exact k_
      refine own_go (own_bal X106 hx hZ e106 (T2.ext OE2.2) hin (v := (.int (48 + Int32.ofNat (uc / 10)))) (by rw [hngN, own_mapD, own_tensD hc1]) (g := (mkF m 102 #[.val (.int cE), .val (.int (Int32.ofNat p0)), .val (.ref a3), s3, s4, .val (.int (Int32.ofNat (pE - 1 - 1))), .val (.int ng)] [(.int (-cE)), (.ref d2), (.int (Int32.ofNat (pE - 1 - 1))), (.ref a3)])) rfl rfl (hb hby own_d20_102)) ?_
      show own_Rch p e below _ (T106.setTop (mkF m 103 #[.val (.int cE), .val (.int (Int32.ofNat p0)), .val (.ref a3), s3, s4, .val (.int (Int32.ofNat (pE - 1 - 1))), .val (.int ng)] [(.int (48 + Int32.ofNat (uc / 10))), (.int (Int32.ofNat (pE - 1 - 1))), (.ref a3)]))
      obtain ⟨T107, h107, X107, e107, W107, V107, st107⟩ := own_stB X106 hx hZ e106 Vw105 ⟨(own_nat (by omega)).2.2.1, (own_ltN (by omega) (by omega)).mpr (by omega)⟩ (i := ((pE - 1) - 1)) (own_nat (by omega)).2.1 (by rw [List.length_map, own_ctL (by first | omega | (simp; omega)) hp1]; omega) (g := (mkF m 103 #[.val (.int cE), .val (.int (Int32.ofNat p0)), .val (.ref a3), s3, s4, .val (.int (Int32.ofNat (pE - 1 - 1))), .val (.int ng)] [(.int (48 + Int32.ofNat (uc / 10))), (.int (Int32.ofNat (pE - 1 - 1))), (.ref a3)])) rfl rfl (hb hby own_d20_103)
      refine own_go st107 ?_
      have N107 := Fr.snoc X107 N105 g3
      show own_Rch p e below _ (T107.setTop (mkF m 104 #[.val (.int cE), .val (.int (Int32.ofNat p0)), .val (.ref a3), s3, s4, .val (.int (Int32.ofNat (pE - 1 - 1))), .val (.int ng)] []))
      have Vw107 : Arv Z h107 a3 k3 .byte (Int32.ofNat ws.length) ((ws.take ((pE - 1) - 1) ++ ((48 + Int32.ofNat (uc / 10)) :: ((48 + Int32.ofNat (uc % 10)) :: dE)) ++ ws.drop p0).map Value.int) (.int 0) := by have q := V107; rw [own_nb48 (by omega), ← List.map_set, own_setl (by omega) (by omega)] at q; exact q
      have Kw107 := Kw105.wr W107 (Or.inl (List.mem_of_getElem? (i := 0) rfl))
      exact S _ _ _ cE (pE - 1 - 1) ((48 + Int32.ofNat (uc / 10)) :: (48 + Int32.ofNat (uc % 10)) :: dE) s3 s4 X107 e107 N107 (by omega) (by simp; omega) (by rw [hdE, own_digs_2 hu10 hc1]; rfl) Kw107 Vw107 o3 o4
    · skip
      refine own_go (S' := (T105.setTop (mkF m 104 #[.val (.int cE), .val (.int (Int32.ofNat p0)), .val (.ref a3), s3, s4, .val (.int (Int32.ofNat (pE - 1))), .val (.int ng)] []))) (fun t_ k_ => ?_) ?_
      · refine XS.icmpYes X105.here hx rfl (pc0 := 88) (pc' := 104) rfl (hb hby own_d20_88) rfl (flt h9).2.1 (by decide) (by decide) ?_
        show Steps p.tables e below (T105.setTop (mkF m 104 #[.val (.int cE), .val (.int (Int32.ofNat p0)), .val (.ref a3), s3, s4, .val (.int (Int32.ofNat (pE - 1))), .val (.int ng)] [])) _
        exact k_
      have hu10 : uc < 10 := by have q := mt Int32.lt_iff_toInt_lt.mpr h9; rw [hcE, show (-9 : Int32).toInt = -9 from by decide] at q; omega
      rw [if_pos hu10] at hdd
      exact S _ _ _ cE (pE - 1) ((48 + Int32.ofNat (uc % 10)) :: dE) s3 s4 X105 e105 N105 (by omega) (by simp; omega) (by rw [hdE, own_digs_small hu10, Nat.mod_eq_of_lt hu10]; rfl) Kw105 Vw105 o3 o4
  have J : ∀ (rs : List Unit) (cJ : Int32) (uc pJ : Nat) (dJ : List Int32) (s3 s4 : Slot) (TJ : State) (lcJ : List Loc) (hJ : Heap) (XJ : Stand p l e ({ frames := 0, cells := 0, slots := 0, locals := 0 } : Room) s m #[(.int p1), (.int (Int32.ofNat p0)), (.ref a3)] below meth c TJ lcJ 0 0) (eJ : TJ.heap = hJ) (NJ : Fr n0 lcJ) (hcJ : cJ.toInt = -(uc : Int)) (hcb : uc < 100 ^ (rs.length + 1)) (hcu : uc ≤ 2147483648) (hpJ : pJ = st + sg + (own_digs uc).length) (hlJ : pJ + dJ.length = p0) (hdJ : own_digs p1.toInt.natAbs = own_digs uc ++ dJ) (KJ : Keep h0 hJ [a3]) (VJ : Arv Z hJ a3 k3 .byte (Int32.ofNat ws.length) ((ws.take pJ ++ dJ ++ ws.drop p0).map Value.int) (.int 0)) (o3 : One s3) (o4 : One s4), own_Rch p e below (own_Fin s ({ frames := 0, cells := 0, slots := 0, locals := 0 } : Room).cells ({ frames := 0, cells := 0, slots := 0, locals := 0 } : Room).slots (fun v h L => v = some (.int (Int32.ofNat st)) ∧ Fr n0 L ∧ Keep h0 h [a3] ∧ Arv Z h a3 k3 .byte (Int32.ofNat ws.length) ((ws.take st ++ own_dec p1 ++ ws.drop p0).map Value.int) (.int 0))) (TJ.setTop (mkF m 22 #[.val (.int cJ), .val (.int (Int32.ofNat p0)), .val (.ref a3), s3, s4, .val (.int (Int32.ofNat pJ)), .val (.int ng)] [])) := by
    intro rs
    induction rs with
    | nil =>
      intro cJ uc pJ dJ s3 s4 TJ lcJ hJ XJ eJ NJ hcJ hcb hcu hpJ hlJ hdJ KJ VJ o3 o4
      have hc1 : uc < 100 := by simpa using hcb
      refine own_go (S' := (TJ.setTop (mkF m 25 #[.val (.int cJ), .val (.int (Int32.ofNat p0)), .val (.ref a3), s3, s4, .val (.int (Int32.ofNat pJ)), .val (.int ng)] [(.int (-100 : Int32)), (.int cJ)]))) (fun t_ k_ => ?_) ?_
      · refine XS.iloadN XJ.here hx rfl (hb hby own_d20_22) rfl ?_
        show Steps p.tables e below (TJ.setTop (mkF m 23 #[.val (.int cJ), .val (.int (Int32.ofNat p0)), .val (.ref a3), s3, s4, .val (.int (Int32.ofNat pJ)), .val (.int ng)] [(.int cJ)])) _
        refine XS.bipush XJ.here hx rfl (hb hby own_d20_23) ?_
        show Steps p.tables e below (TJ.setTop (mkF m 25 #[.val (.int cJ), .val (.int (Int32.ofNat p0)), .val (.ref a3), s3, s4, .val (.int (Int32.ofNat pJ)), .val (.int ng)] [(.int (-100 : Int32)), (.int cJ)])) _
        exact k_
      refine own_go (S' := (TJ.setTop (mkF m 72 #[.val (.int cJ), .val (.int (Int32.ofNat p0)), .val (.ref a3), s3, s4, .val (.int (Int32.ofNat pJ)), .val (.int ng)] []))) (fun t_ k_ => ?_) ?_
      · refine XS.icmpYes XJ.here hx rfl (pc0 := 25) (pc' := 72) rfl (hb hby own_d20_25) rfl (tlt ((own_bnd hcJ (a := 100) (by decide)).mpr hc1)).2.2.1 (by decide) (by decide) ?_
        show Steps p.tables e below (TJ.setTop (mkF m 72 #[.val (.int cJ), .val (.int (Int32.ofNat p0)), .val (.ref a3), s3, s4, .val (.int (Int32.ofNat pJ)), .val (.int ng)] [])) _
        exact k_
      exact E _ _ _ cJ uc pJ dJ s3 s4 XJ eJ NJ hc1 hcJ hpJ hlJ hdJ KJ VJ o3 o4
    | cons u rest ih =>
      intro cJ uc pJ dJ s3 s4 TJ lcJ hJ XJ eJ NJ hcJ hcb hcu hpJ hlJ hdJ KJ VJ o3 o4
      refine own_go (S' := (TJ.setTop (mkF m 25 #[.val (.int cJ), .val (.int (Int32.ofNat p0)), .val (.ref a3), s3, s4, .val (.int (Int32.ofNat pJ)), .val (.int ng)] [(.int (-100 : Int32)), (.int cJ)]))) (fun t_ k_ => ?_) ?_
      · refine XS.iloadN XJ.here hx rfl (hb hby own_d20_22) rfl ?_
        show Steps p.tables e below (TJ.setTop (mkF m 23 #[.val (.int cJ), .val (.int (Int32.ofNat p0)), .val (.ref a3), s3, s4, .val (.int (Int32.ofNat pJ)), .val (.int ng)] [(.int cJ)])) _
        refine XS.bipush XJ.here hx rfl (hb hby own_d20_23) ?_
        show Steps p.tables e below (TJ.setTop (mkF m 25 #[.val (.int cJ), .val (.int (Int32.ofNat p0)), .val (.ref a3), s3, s4, .val (.int (Int32.ofNat pJ)), .val (.int ng)] [(.int (-100 : Int32)), (.int cJ)])) _
        exact k_
      by_cases hc : (-100 : Int32) < cJ
      · skip
        refine own_go (S' := (TJ.setTop (mkF m 72 #[.val (.int cJ), .val (.int (Int32.ofNat p0)), .val (.ref a3), s3, s4, .val (.int (Int32.ofNat pJ)), .val (.int ng)] []))) (fun t_ k_ => ?_) ?_
        · refine XS.icmpYes XJ.here hx rfl (pc0 := 25) (pc' := 72) rfl (hb hby own_d20_25) rfl (tlt hc).2.2.1 (by decide) (by decide) ?_
          show Steps p.tables e below (TJ.setTop (mkF m 72 #[.val (.int cJ), .val (.int (Int32.ofNat p0)), .val (.ref a3), s3, s4, .val (.int (Int32.ofNat pJ)), .val (.int ng)] [])) _
          exact k_
        exact E _ _ _ cJ uc pJ dJ s3 s4 XJ eJ NJ ((own_bnd hcJ (a := 100) (by decide)).mp hc) hcJ hpJ hlJ hdJ KJ VJ o3 o4
      · skip
        have hc1 : ¬ uc < 100 := mt (own_bnd hcJ (a := 100) (by decide)).mpr hc
        have e100 : (100 : Int32).toInt = 100 := by decide
        have hq : (cJ / (100 : Int32)).toInt = -((uc / 100 : Nat) : Int) := by have q := (c_idiv cJ 100 100 e100 (by decide)).2 (by omega); rw [q, hcJ]; omega
        have hr : ((cJ / (100 : Int32)) * (100 : Int32) - cJ).toInt = ((uc % 100 : Nat) : Int) := by have h1 := c_imul (cJ / 100) 100; have h2 := c_isub (cJ / 100 * 100) cJ; have r1 := rng32 (cJ / 100 * 100); have r2 := rng32 (cJ / 100 * 100 - cJ); rw [hq, e100] at h1; omega
        have hrN : ((cJ / (100 : Int32)) * (100 : Int32) - cJ).toNatClampNeg = uc % 100 := by rw [Int32.toNatClampNeg, hr]; omega
        have hin : ¬ ((cJ / (100 : Int32)) * (100 : Int32) - cJ) < 0 ∧ ((cJ / (100 : Int32)) * (100 : Int32) - cJ) < (100 : Int32) := by rw [Int32.lt_iff_toInt_lt, Int32.lt_iff_toInt_lt, hr, show (0 : Int32).toInt = 0 from by decide, e100]; omega
        have h100 := own_digs_100 hc1 (by omega : uc < 10 ^ 11)
        have hl2 : (own_digs uc).length = (own_digs (uc / 100)).length + 2 := by rw [h100]; simp
        have hm : uc % 100 < 100 := Nat.mod_lt _ (by omega)
        refine own_go (S' := (TJ.setTop (mkF m 47 #[.val (.int (cJ / (100 : Int32))), .val (.int (Int32.ofNat p0)), .val (.ref a3), .val (.int (cJ / (100 : Int32))), .val (.int (((cJ / (100 : Int32)) * (100 : Int32)) - cJ)), .val (.int ((Int32.ofNat pJ) + (-1 : Int32))), .val (.int ng)] [(.ref a3)]))) (fun t_ k_ => ?_) ?_
        · refine XS.icmpNo XJ.here hx rfl (hb hby own_d20_25) rfl (flt hc).2.2.1 ?_
          show Steps p.tables e below (TJ.setTop (mkF m 28 #[.val (.int cJ), .val (.int (Int32.ofNat p0)), .val (.ref a3), s3, s4, .val (.int (Int32.ofNat pJ)), .val (.int ng)] [])) _
          refine XS.iloadN XJ.here hx rfl (hb hby own_d20_28) rfl ?_
          show Steps p.tables e below (TJ.setTop (mkF m 29 #[.val (.int cJ), .val (.int (Int32.ofNat p0)), .val (.ref a3), s3, s4, .val (.int (Int32.ofNat pJ)), .val (.int ng)] [(.int cJ)])) _
          refine XS.bipush XJ.here hx rfl (hb hby own_d20_29) ?_
          show Steps p.tables e below (TJ.setTop (mkF m 31 #[.val (.int cJ), .val (.int (Int32.ofNat p0)), .val (.ref a3), s3, s4, .val (.int (Int32.ofNat pJ)), .val (.int ng)] [(.int (100 : Int32)), (.int cJ)])) _
          refine XS.idiv XJ.here hx rfl (hb hby own_d20_31) rfl (by decide) ?_
          show Steps p.tables e below (TJ.setTop (mkF m 32 #[.val (.int cJ), .val (.int (Int32.ofNat p0)), .val (.ref a3), s3, s4, .val (.int (Int32.ofNat pJ)), .val (.int ng)] [(.int (cJ / (100 : Int32)))])) _
          refine XS.istoreNS XJ.here hx rfl (hb hby own_d20_32) rfl rfl o3 ?_
          show Steps p.tables e below (TJ.setTop (mkF m 33 #[.val (.int cJ), .val (.int (Int32.ofNat p0)), .val (.ref a3), .val (.int (cJ / (100 : Int32))), s4, .val (.int (Int32.ofNat pJ)), .val (.int ng)] [])) _
          refine XS.iloadN XJ.here hx rfl (hb hby own_d20_33) rfl ?_
          show Steps p.tables e below (TJ.setTop (mkF m 34 #[.val (.int cJ), .val (.int (Int32.ofNat p0)), .val (.ref a3), .val (.int (cJ / (100 : Int32))), s4, .val (.int (Int32.ofNat pJ)), .val (.int ng)] [(.int (cJ / (100 : Int32)))])) _
          refine XS.bipush XJ.here hx rfl (hb hby own_d20_34) ?_
          show Steps p.tables e below (TJ.setTop (mkF m 36 #[.val (.int cJ), .val (.int (Int32.ofNat p0)), .val (.ref a3), .val (.int (cJ / (100 : Int32))), s4, .val (.int (Int32.ofNat pJ)), .val (.int ng)] [(.int (100 : Int32)), (.int (cJ / (100 : Int32)))])) _
          refine XS.imul XJ.here hx rfl (hb hby own_d20_36) rfl ?_
          show Steps p.tables e below (TJ.setTop (mkF m 37 #[.val (.int cJ), .val (.int (Int32.ofNat p0)), .val (.ref a3), .val (.int (cJ / (100 : Int32))), s4, .val (.int (Int32.ofNat pJ)), .val (.int ng)] [(.int ((cJ / (100 : Int32)) * (100 : Int32)))])) _
          refine XS.iloadN XJ.here hx rfl (hb hby own_d20_37) rfl ?_
          show Steps p.tables e below (TJ.setTop (mkF m 38 #[.val (.int cJ), .val (.int (Int32.ofNat p0)), .val (.ref a3), .val (.int (cJ / (100 : Int32))), s4, .val (.int (Int32.ofNat pJ)), .val (.int ng)] [(.int cJ), (.int ((cJ / (100 : Int32)) * (100 : Int32)))])) _
          refine XS.isub XJ.here hx rfl (hb hby own_d20_38) rfl ?_
          show Steps p.tables e below (TJ.setTop (mkF m 39 #[.val (.int cJ), .val (.int (Int32.ofNat p0)), .val (.ref a3), .val (.int (cJ / (100 : Int32))), s4, .val (.int (Int32.ofNat pJ)), .val (.int ng)] [(.int (((cJ / (100 : Int32)) * (100 : Int32)) - cJ))])) _
          refine XS.istoreS XJ.here hx rfl (hb hby own_d20_39) rfl rfl o4 ?_
          show Steps p.tables e below (TJ.setTop (mkF m 41 #[.val (.int cJ), .val (.int (Int32.ofNat p0)), .val (.ref a3), .val (.int (cJ / (100 : Int32))), .val (.int (((cJ / (100 : Int32)) * (100 : Int32)) - cJ)), .val (.int (Int32.ofNat pJ)), .val (.int ng)] [])) _
          refine XS.iloadN XJ.here hx rfl (hb hby own_d20_41) rfl ?_
          show Steps p.tables e below (TJ.setTop (mkF m 42 #[.val (.int cJ), .val (.int (Int32.ofNat p0)), .val (.ref a3), .val (.int (cJ / (100 : Int32))), .val (.int (((cJ / (100 : Int32)) * (100 : Int32)) - cJ)), .val (.int (Int32.ofNat pJ)), .val (.int ng)] [(.int (cJ / (100 : Int32)))])) _
          refine XS.istoreN XJ.here hx rfl (hb hby own_d20_42) rfl (l' := #[.val (.int (cJ / (100 : Int32))), .val (.int (Int32.ofNat p0)), .val (.ref a3), .val (.int (cJ / (100 : Int32))), .val (.int (((cJ / (100 : Int32)) * (100 : Int32)) - cJ)), .val (.int (Int32.ofNat pJ)), .val (.int ng)]) rfl ?_
          show Steps p.tables e below (TJ.setTop (mkF m 43 #[.val (.int (cJ / (100 : Int32))), .val (.int (Int32.ofNat p0)), .val (.ref a3), .val (.int (cJ / (100 : Int32))), .val (.int (((cJ / (100 : Int32)) * (100 : Int32)) - cJ)), .val (.int (Int32.ofNat pJ)), .val (.int ng)] [])) _
          refine XS.aloadN XJ.here hx rfl (hb hby own_d20_43) rfl rfl ?_
          show Steps p.tables e below (TJ.setTop (mkF m 44 #[.val (.int (cJ / (100 : Int32))), .val (.int (Int32.ofNat p0)), .val (.ref a3), .val (.int (cJ / (100 : Int32))), .val (.int (((cJ / (100 : Int32)) * (100 : Int32)) - cJ)), .val (.int (Int32.ofNat pJ)), .val (.int ng)] [(.ref a3)])) _
          refine XS.iinc XJ.here hx rfl (hb hby own_d20_44) rfl (l' := #[.val (.int (cJ / (100 : Int32))), .val (.int (Int32.ofNat p0)), .val (.ref a3), .val (.int (cJ / (100 : Int32))), .val (.int (((cJ / (100 : Int32)) * (100 : Int32)) - cJ)), .val (.int ((Int32.ofNat pJ) + (-1 : Int32))), .val (.int ng)]) rfl ?_
          show Steps p.tables e below (TJ.setTop (mkF m 47 #[.val (.int (cJ / (100 : Int32))), .val (.int (Int32.ofNat p0)), .val (.ref a3), .val (.int (cJ / (100 : Int32))), .val (.int (((cJ / (100 : Int32)) * (100 : Int32)) - cJ)), .val (.int ((Int32.ofNat pJ) + (-1 : Int32))), .val (.int ng)] [(.ref a3)])) _
          exact k_
        rw [own_pred (by omega : 0 < pJ) (by omega)]
        show own_Rch p e below _ (TJ.setTop (mkF m 47 #[.val (.int (cJ / (100 : Int32))), .val (.int (Int32.ofNat p0)), .val (.ref a3), .val (.int (cJ / (100 : Int32))), .val (.int (((cJ / (100 : Int32)) * (100 : Int32)) - cJ)), .val (.int (Int32.ofNat (pJ - 1))), .val (.int ng)] [(.ref a3)]))
        refine own_go (S' := (TJ.setTop (mkF m 49 #[.val (.int (cJ / (100 : Int32))), .val (.int (Int32.ofNat p0)), .val (.ref a3), .val (.int (cJ / (100 : Int32))), .val (.int (((cJ / (100 : Int32)) * (100 : Int32)) - cJ)), .val (.int (Int32.ofNat (pJ - 1))), .val (.int ng)] [(.int (Int32.ofNat (pJ - 1))), (.ref a3)]))) (fun t_ k_ => ?_) ?_
        · refine XS.iload XJ.here hx rfl (hb hby own_d20_47) rfl ?_
          show Steps p.tables e below (TJ.setTop (mkF m 49 #[.val (.int (cJ / (100 : Int32))), .val (.int (Int32.ofNat p0)), .val (.ref a3), .val (.int (cJ / (100 : Int32))), .val (.int (((cJ / (100 : Int32)) * (100 : Int32)) - cJ)), .val (.int (Int32.ofNat (pJ - 1))), .val (.int ng)] [(.int (Int32.ofNat (pJ - 1))), (.ref a3)])) _
          exact k_
        have OJ := O.keep KJ (allS g3 all0)
        obtain ⟨T108, X108, e108, st108⟩ := getS2 XJ hx hZ hown (host := "") (Or.inl (hw _ (List.mem_of_getElem? (i := 131) rfl))) Via.refl eJ (D1.ext OJ.2) (g := (mkF m 49 #[.val (.int (cJ / (100 : Int32))), .val (.int (Int32.ofNat p0)), .val (.ref a3), .val (.int (cJ / (100 : Int32))), .val (.int (((cJ / (100 : Int32)) * (100 : Int32)) - cJ)), .val (.int (Int32.ofNat (pJ - 1))), .val (.int ng)] [(.int (Int32.ofNat (pJ - 1))), (.ref a3)])) rfl (hb hby own_d20_49)
        refine own_go st108 ?_
        show own_Rch p e below _ (T108.setTop (mkF m 52 #[.val (.int (cJ / (100 : Int32))), .val (.int (Int32.ofNat p0)), .val (.ref a3), .val (.int (cJ / (100 : Int32))), .val (.int (((cJ / (100 : Int32)) * (100 : Int32)) - cJ)), .val (.int (Int32.ofNat (pJ - 1))), .val (.int ng)] [(.ref d1), (.int (Int32.ofNat (pJ - 1))), (.ref a3)]))
        refine own_go (S' := (T108.setTop (mkF m 54 #[.val (.int (cJ / (100 : Int32))), .val (.int (Int32.ofNat p0)), .val (.ref a3), .val (.int (cJ / (100 : Int32))), .val (.int (((cJ / (100 : Int32)) * (100 : Int32)) - cJ)), .val (.int (Int32.ofNat (pJ - 1))), .val (.int ng)] [(.int (((cJ / (100 : Int32)) * (100 : Int32)) - cJ)), (.ref d1), (.int (Int32.ofNat (pJ - 1))), (.ref a3)]))) (fun t_ k_ => ?_) ?_
        · refine XS.iload X108.here hx rfl (hb hby own_d20_52) rfl ?_
          show Steps p.tables e below (T108.setTop (mkF m 54 #[.val (.int (cJ / (100 : Int32))), .val (.int (Int32.ofNat p0)), .val (.ref a3), .val (.int (cJ / (100 : Int32))), .val (.int (((cJ / (100 : Int32)) * (100 : Int32)) - cJ)), .val (.int (Int32.ofNat (pJ - 1))), .val (.int ng)] [(.int (((cJ / (100 : Int32)) * (100 : Int32)) - cJ)), (.ref d1), (.int (Int32.ofNat (pJ - 1))), (.ref a3)])) _
          exact k_
        refine own_go (own_bal X108 hx hZ e108 (T1.ext OJ.2) hin (v := (.int (48 + Int32.ofNat (uc % 100 % 10)))) (by rw [hrN, own_mapD, own_onesD hm]) (g := (mkF m 54 #[.val (.int (cJ / (100 : Int32))), .val (.int (Int32.ofNat p0)), .val (.ref a3), .val (.int (cJ / (100 : Int32))), .val (.int (((cJ / (100 : Int32)) * (100 : Int32)) - cJ)), .val (.int (Int32.ofNat (pJ - 1))), .val (.int ng)] [(.int (((cJ / (100 : Int32)) * (100 : Int32)) - cJ)), (.ref d1), (.int (Int32.ofNat (pJ - 1))), (.ref a3)])) rfl rfl (hb hby own_d20_54)) ?_
        show own_Rch p e below _ (T108.setTop (mkF m 55 #[.val (.int (cJ / (100 : Int32))), .val (.int (Int32.ofNat p0)), .val (.ref a3), .val (.int (cJ / (100 : Int32))), .val (.int (((cJ / (100 : Int32)) * (100 : Int32)) - cJ)), .val (.int (Int32.ofNat (pJ - 1))), .val (.int ng)] [(.int (48 + Int32.ofNat (uc % 100 % 10))), (.int (Int32.ofNat (pJ - 1))), (.ref a3)]))
        obtain ⟨T109, h109, X109, e109, W109, V109, st109⟩ := own_stB X108 hx hZ e108 VJ ⟨(own_nat (by omega)).2.2.1, (own_ltN (by omega) (by omega)).mpr (by omega)⟩ (i := (pJ - 1)) (own_nat (by omega)).2.1 (by rw [List.length_map, own_ctL (by first | omega | (simp; omega)) hp1]; omega) (g := (mkF m 55 #[.val (.int (cJ / (100 : Int32))), .val (.int (Int32.ofNat p0)), .val (.ref a3), .val (.int (cJ / (100 : Int32))), .val (.int (((cJ / (100 : Int32)) * (100 : Int32)) - cJ)), .val (.int (Int32.ofNat (pJ - 1))), .val (.int ng)] [(.int (48 + Int32.ofNat (uc % 100 % 10))), (.int (Int32.ofNat (pJ - 1))), (.ref a3)])) rfl rfl (hb hby own_d20_55)
        refine own_go st109 ?_
        have N109 := Fr.snoc X109 NJ g3
        show own_Rch p e below _ (T109.setTop (mkF m 56 #[.val (.int (cJ / (100 : Int32))), .val (.int (Int32.ofNat p0)), .val (.ref a3), .val (.int (cJ / (100 : Int32))), .val (.int (((cJ / (100 : Int32)) * (100 : Int32)) - cJ)), .val (.int (Int32.ofNat (pJ - 1))), .val (.int ng)] []))
        have Vw109 : Arv Z h109 a3 k3 .byte (Int32.ofNat ws.length) ((ws.take (pJ - 1) ++ ((48 + Int32.ofNat (uc % 100 % 10)) :: dJ) ++ ws.drop p0).map Value.int) (.int 0) := by have q := V109; rw [own_nb48 (by omega), ← List.map_set, own_setl (by omega) (by omega)] at q; exact q
        have Kw109 := KJ.wr W109 (Or.inl (List.mem_of_getElem? (i := 0) rfl))
        refine own_go (S' := (T109.setTop (mkF m 60 #[.val (.int (cJ / (100 : Int32))), .val (.int (Int32.ofNat p0)), .val (.ref a3), .val (.int (cJ / (100 : Int32))), .val (.int (((cJ / (100 : Int32)) * (100 : Int32)) - cJ)), .val (.int ((Int32.ofNat (pJ - 1)) + (-1 : Int32))), .val (.int ng)] [(.ref a3)]))) (fun t_ k_ => ?_) ?_
        · refine XS.aloadN X109.here hx rfl (hb hby own_d20_56) rfl rfl ?_
          show Steps p.tables e below (T109.setTop (mkF m 57 #[.val (.int (cJ / (100 : Int32))), .val (.int (Int32.ofNat p0)), .val (.ref a3), .val (.int (cJ / (100 : Int32))), .val (.int (((cJ / (100 : Int32)) * (100 : Int32)) - cJ)), .val (.int (Int32.ofNat (pJ - 1))), .val (.int ng)] [(.ref a3)])) _
          refine XS.iinc X109.here hx rfl (hb hby own_d20_57) rfl (l' := #[.val (.int (cJ / (100 : Int32))), .val (.int (Int32.ofNat p0)), .val (.ref a3), .val (.int (cJ / (100 : Int32))), .val (.int (((cJ / (100 : Int32)) * (100 : Int32)) - cJ)), .val (.int ((Int32.ofNat (pJ - 1)) + (-1 : Int32))), .val (.int ng)]) rfl ?_
          show Steps p.tables e below (T109.setTop (mkF m 60 #[.val (.int (cJ / (100 : Int32))), .val (.int (Int32.ofNat p0)), .val (.ref a3), .val (.int (cJ / (100 : Int32))), .val (.int (((cJ / (100 : Int32)) * (100 : Int32)) - cJ)), .val (.int ((Int32.ofNat (pJ - 1)) + (-1 : Int32))), .val (.int ng)] [(.ref a3)])) _
          exact k_
        rw [own_pred (by omega : 0 < pJ - 1) (by omega)]
        show own_Rch p e below _ (T109.setTop (mkF m 60 #[.val (.int (cJ / (100 : Int32))), .val (.int (Int32.ofNat p0)), .val (.ref a3), .val (.int (cJ / (100 : Int32))), .val (.int (((cJ / (100 : Int32)) * (100 : Int32)) - cJ)), .val (.int (Int32.ofNat (pJ - 1 - 1))), .val (.int ng)] [(.ref a3)]))
        refine own_go (S' := (T109.setTop (mkF m 62 #[.val (.int (cJ / (100 : Int32))), .val (.int (Int32.ofNat p0)), .val (.ref a3), .val (.int (cJ / (100 : Int32))), .val (.int (((cJ / (100 : Int32)) * (100 : Int32)) - cJ)), .val (.int (Int32.ofNat (pJ - 1 - 1))), .val (.int ng)] [(.int (Int32.ofNat (pJ - 1 - 1))), (.ref a3)]))) (fun t_ k_ => ?_) ?_
        · refine XS.iload X109.here hx rfl (hb hby own_d20_60) rfl ?_
          show Steps p.tables e below (T109.setTop (mkF m 62 #[.val (.int (cJ / (100 : Int32))), .val (.int (Int32.ofNat p0)), .val (.ref a3), .val (.int (cJ / (100 : Int32))), .val (.int (((cJ / (100 : Int32)) * (100 : Int32)) - cJ)), .val (.int (Int32.ofNat (pJ - 1 - 1))), .val (.int ng)] [(.int (Int32.ofNat (pJ - 1 - 1))), (.ref a3)])) _
          exact k_
        have OJ2 := O.keep Kw109 (allS g3 all0)
        obtain ⟨T110, X110, e110, st110⟩ := getS2 X109 hx hZ hown (host := "") (Or.inl (hw _ (List.mem_of_getElem? (i := 132) rfl))) Via.refl e109 (D2.ext OJ2.2) (g := (mkF m 62 #[.val (.int (cJ / (100 : Int32))), .val (.int (Int32.ofNat p0)), .val (.ref a3), .val (.int (cJ / (100 : Int32))), .val (.int (((cJ / (100 : Int32)) * (100 : Int32)) - cJ)), .val (.int (Int32.ofNat (pJ - 1 - 1))), .val (.int ng)] [(.int (Int32.ofNat (pJ - 1 - 1))), (.ref a3)])) rfl (hb hby own_d20_62)
        refine own_go st110 ?_
        show own_Rch p e below _ (T110.setTop (mkF m 65 #[.val (.int (cJ / (100 : Int32))), .val (.int (Int32.ofNat p0)), .val (.ref a3), .val (.int (cJ / (100 : Int32))), .val (.int (((cJ / (100 : Int32)) * (100 : Int32)) - cJ)), .val (.int (Int32.ofNat (pJ - 1 - 1))), .val (.int ng)] [(.ref d2), (.int (Int32.ofNat (pJ - 1 - 1))), (.ref a3)]))
        refine own_go (S' := (T110.setTop (mkF m 67 #[.val (.int (cJ / (100 : Int32))), .val (.int (Int32.ofNat p0)), .val (.ref a3), .val (.int (cJ / (100 : Int32))), .val (.int (((cJ / (100 : Int32)) * (100 : Int32)) - cJ)), .val (.int (Int32.ofNat (pJ - 1 - 1))), .val (.int ng)] [(.int (((cJ / (100 : Int32)) * (100 : Int32)) - cJ)), (.ref d2), (.int (Int32.ofNat (pJ - 1 - 1))), (.ref a3)]))) (fun t_ k_ => ?_) ?_
        · refine XS.iload X110.here hx rfl (hb hby own_d20_65) rfl ?_
          show Steps p.tables e below (T110.setTop (mkF m 67 #[.val (.int (cJ / (100 : Int32))), .val (.int (Int32.ofNat p0)), .val (.ref a3), .val (.int (cJ / (100 : Int32))), .val (.int (((cJ / (100 : Int32)) * (100 : Int32)) - cJ)), .val (.int (Int32.ofNat (pJ - 1 - 1))), .val (.int ng)] [(.int (((cJ / (100 : Int32)) * (100 : Int32)) - cJ)), (.ref d2), (.int (Int32.ofNat (pJ - 1 - 1))), (.ref a3)])) _
          exact k_
        refine own_go (own_bal X110 hx hZ e110 (T2.ext OJ2.2) hin (v := (.int (48 + Int32.ofNat (uc % 100 / 10)))) (by rw [hrN, own_mapD, own_tensD hm]) (g := (mkF m 67 #[.val (.int (cJ / (100 : Int32))), .val (.int (Int32.ofNat p0)), .val (.ref a3), .val (.int (cJ / (100 : Int32))), .val (.int (((cJ / (100 : Int32)) * (100 : Int32)) - cJ)), .val (.int (Int32.ofNat (pJ - 1 - 1))), .val (.int ng)] [(.int (((cJ / (100 : Int32)) * (100 : Int32)) - cJ)), (.ref d2), (.int (Int32.ofNat (pJ - 1 - 1))), (.ref a3)])) rfl rfl (hb hby own_d20_67)) ?_
        show own_Rch p e below _ (T110.setTop (mkF m 68 #[.val (.int (cJ / (100 : Int32))), .val (.int (Int32.ofNat p0)), .val (.ref a3), .val (.int (cJ / (100 : Int32))), .val (.int (((cJ / (100 : Int32)) * (100 : Int32)) - cJ)), .val (.int (Int32.ofNat (pJ - 1 - 1))), .val (.int ng)] [(.int (48 + Int32.ofNat (uc % 100 / 10))), (.int (Int32.ofNat (pJ - 1 - 1))), (.ref a3)]))
        obtain ⟨T111, h111, X111, e111, W111, V111, st111⟩ := own_stB X110 hx hZ e110 Vw109 ⟨(own_nat (by omega)).2.2.1, (own_ltN (by omega) (by omega)).mpr (by omega)⟩ (i := ((pJ - 1) - 1)) (own_nat (by omega)).2.1 (by rw [List.length_map, own_ctL (by first | omega | (simp; omega)) hp1]; omega) (g := (mkF m 68 #[.val (.int (cJ / (100 : Int32))), .val (.int (Int32.ofNat p0)), .val (.ref a3), .val (.int (cJ / (100 : Int32))), .val (.int (((cJ / (100 : Int32)) * (100 : Int32)) - cJ)), .val (.int (Int32.ofNat (pJ - 1 - 1))), .val (.int ng)] [(.int (48 + Int32.ofNat (uc % 100 / 10))), (.int (Int32.ofNat (pJ - 1 - 1))), (.ref a3)])) rfl rfl (hb hby own_d20_68)
        refine own_go st111 ?_
        have N111 := Fr.snoc X111 N109 g3
        show own_Rch p e below _ (T111.setTop (mkF m 69 #[.val (.int (cJ / (100 : Int32))), .val (.int (Int32.ofNat p0)), .val (.ref a3), .val (.int (cJ / (100 : Int32))), .val (.int (((cJ / (100 : Int32)) * (100 : Int32)) - cJ)), .val (.int (Int32.ofNat (pJ - 1 - 1))), .val (.int ng)] []))
        have Vw111 : Arv Z h111 a3 k3 .byte (Int32.ofNat ws.length) ((ws.take ((pJ - 1) - 1) ++ ((48 + Int32.ofNat (uc % 100 / 10)) :: ((48 + Int32.ofNat (uc % 100 % 10)) :: dJ)) ++ ws.drop p0).map Value.int) (.int 0) := by have q := V111; rw [own_nb48 (by omega), ← List.map_set, own_setl (by omega) (by omega)] at q; exact q
        have Kw111 := Kw109.wr W111 (Or.inl (List.mem_of_getElem? (i := 0) rfl))
        refine own_go (S' := (T111.setTop (mkF m 22 #[.val (.int (cJ / (100 : Int32))), .val (.int (Int32.ofNat p0)), .val (.ref a3), .val (.int (cJ / (100 : Int32))), .val (.int (((cJ / (100 : Int32)) * (100 : Int32)) - cJ)), .val (.int (Int32.ofNat (pJ - 1 - 1))), .val (.int ng)] []))) (fun t_ k_ => ?_) ?_
        · refine XS.goto X111.here hx rfl (pc0 := 69) (pc' := 22) rfl (hb hby own_d20_69) (by decide) (by decide) ?_
          show Steps p.tables e below (T111.setTop (mkF m 22 #[.val (.int (cJ / (100 : Int32))), .val (.int (Int32.ofNat p0)), .val (.ref a3), .val (.int (cJ / (100 : Int32))), .val (.int (((cJ / (100 : Int32)) * (100 : Int32)) - cJ)), .val (.int (Int32.ofNat (pJ - 1 - 1))), .val (.int ng)] [])) _
          exact k_
        exact ih (cJ / (100 : Int32)) (uc / 100) (pJ - 1 - 1) ((48 + Int32.ofNat (uc % 100 / 10)) :: (48 + Int32.ofNat (uc % 100 % 10)) :: dJ) _ _ T111 _ h111 X111 e111 N111 hq (by simp at hcb ⊢; rw [Nat.pow_succ] at hcb; omega) (by omega) (by omega) (by simp; omega) (by rw [hdJ, h100, List.append_assoc]; rfl) Kw111 Vw111 (One.val rfl) (One.val rfl)
  exact J [(), (), (), (), ()] nx p1.toInt.natAbs p0 [] .unset .unset s₁ _ h0 X0 e0 N0 hu (by show _ < 100 ^ 6; omega) hub (by omega) (by simp) (by simp) (Keep.refl h0 [a3]) (by simpa using V3) One.u One.u
theorem own_pd8 : parseMethodDescriptor "(I)I" = some ⟨[.int], some .int⟩ := by decide +kernel
theorem own_pd9 : parseMethodDescriptor "()Z" = some ⟨[], some .boolean⟩ := by decide +kernel
theorem own_pd10 : parseMethodDescriptor "(II[B)I" = some ⟨[.int, .int, (.array .byte)], some .int⟩ := by decide +kernel
theorem own_d17_0 : decode jdk_68_method_32_code 0 = .ok (.aload_n 0, 1) := by decide +kernel
theorem own_d17_1 : decode jdk_68_method_32_code 1 = .ok (.getfield 79, 3) := by decide +kernel
theorem own_d17_4 : decode jdk_68_method_32_code 4 = .ok (.istore_n 2, 1) := by decide +kernel
theorem own_d17_5 : decode jdk_68_method_32_code 5 = .ok (.iload_n 2, 1) := by decide +kernel
theorem own_d17_6 : decode jdk_68_method_32_code 6 = .ok (.iload_n 1, 1) := by decide +kernel
theorem own_d17_7 : decode jdk_68_method_32_code 7 = .ok (.invokestatic 245, 3) := by decide +kernel
theorem own_d17_10 : decode jdk_68_method_32_code 10 = .ok (.iadd, 1) := by decide +kernel
theorem own_d17_11 : decode jdk_68_method_32_code 11 = .ok (.istore_n 3, 1) := by decide +kernel
theorem own_d17_12 : decode jdk_68_method_32_code 12 = .ok (.aload_n 0, 1) := by decide +kernel
theorem own_d17_13 : decode jdk_68_method_32_code 13 = .ok (.iload_n 3, 1) := by decide +kernel
theorem own_d17_14 : decode jdk_68_method_32_code 14 = .ok (.invokevirtual 100, 3) := by decide +kernel
theorem own_d17_17 : decode jdk_68_method_32_code 17 = .ok (.aload_n 0, 1) := by decide +kernel
theorem own_d17_18 : decode jdk_68_method_32_code 18 = .ok (.invokevirtual 83, 3) := by decide +kernel
theorem own_d17_21 : decode jdk_68_method_32_code 21 = .ok (.ifCond .eq 16, 3) := by decide +kernel
theorem own_d17_24 : decode jdk_68_method_32_code 24 = .ok (.iload_n 1, 1) := by decide +kernel
theorem own_d17_25 : decode jdk_68_method_32_code 25 = .ok (.iload_n 3, 1) := by decide +kernel
theorem own_d17_26 : decode jdk_68_method_32_code 26 = .ok (.aload_n 0, 1) := by decide +kernel
theorem own_d17_27 : decode jdk_68_method_32_code 27 = .ok (.getfield 15, 3) := by decide +kernel
theorem own_d17_30 : decode jdk_68_method_32_code 30 = .ok (.invokestatic 248, 3) := by decide +kernel
theorem own_d17_33 : decode jdk_68_method_32_code 33 = .ok (.pop, 1) := by decide +kernel
theorem own_d17_34 : decode jdk_68_method_32_code 34 = .ok (.goto 14, 3) := by decide +kernel
theorem own_d17_48 : decode jdk_68_method_32_code 48 = .ok (.aload_n 0, 1) := by decide +kernel
theorem own_d17_49 : decode jdk_68_method_32_code 49 = .ok (.iload_n 3, 1) := by decide +kernel
theorem own_d17_50 : decode jdk_68_method_32_code 50 = .ok (.putfield 79, 3) := by decide +kernel
theorem own_d17_53 : decode jdk_68_method_32_code 53 = .ok (.aload_n 0, 1) := by decide +kernel
theorem own_d17_54 : decode jdk_68_method_32_code 54 = .ok (.areturn, 1) := by decide +kernel
theorem own_c17_ef (m : MethodId) (x0 : Addr) (x1 : Int32) : entryFrame m #[(.ref x0), (.int x1)] 4 = mkF m 0 #[.val (.ref x0), .val (.int x1), .unset, .unset] [] := by first | (simp [entryFrame, mkF, argsToLocals, Value.category]; done) | rfl
set_option maxRecDepth 65536 in
set_option maxHeartbeats 40000000 in
theorem own_c17 (l : Launch) (Z : State) (a0 : Array Value) (hw : ∀ d ∈ tables_1, d.before a0 Z = true) (wsC : List Jvm.Cond) (a2 vb : Addr) (kb : ClassId) (p1 : Int32) (ws : List Int32) (n : Nat) (hn : n + (own_dec p1).length ≤ ws.length) (hw5 : ws.length ≤ 500) (d1 d2 : Addr) (kd1 kd2 : ClassId) (D1 : Sta Z Z.heap "java/lang/Integer" "DigitOnes" "[B" (.ref d1)) (D2 : Sta Z Z.heap "java/lang/Integer" "DigitTens" "[B" (.ref d2)) (T1 : Arv Z Z.heap d1 kd1 .byte 100 (own_ones.map Value.int) (.int 0)) (T2 : Arv Z Z.heap d2 kd2 .byte 100 (own_tens.map Value.int) (.int 0)) (cz : Int32) (CS : Sta Z Z.heap "java/lang/String" "COMPACT_STRINGS" "Z" (.int cz)) (hcz : ¬ cz = (0 : Int32)) (h0 : Heap) (n0 : Nat) (O : Old Z n0 h0) (B1 : Fld Z h0 a2 "java/lang/AbstractStringBuilder" "value" "[B" (.ref vb)) (B2 : Fld Z h0 a2 "java/lang/AbstractStringBuilder" "coder" "B" (.int 0)) (B3 : Fld Z h0 a2 "java/lang/AbstractStringBuilder" "count" "I" (.int (Int32.ofNat n))) (EB : Exa Z h0 a2 "java/lang/StringBuilder") (VB : Arv Z h0 vb kb .byte (Int32.ofNat ws.length) (ws.map Value.int) (.int 0)) (ga : n0 ≤ a2) (gv : n0 ≤ vb) (nv : a2 ≠ vb) :
    own_Ctr l Z (⟨"java/lang/AbstractStringBuilder", "append", "(I)Ljava/lang/AbstractStringBuilder;"⟩ : MethodName) jdk_68_method_32_code 4 (some (.object "java/lang/AbstractStringBuilder")) wsC ({ frames := 1, cells := 0, slots := 0, locals := 30 } : Room) h0 #[(.ref a2), (.int p1)] (fun v h L => v = some (.ref a2) ∧ Fr n0 L ∧ Keep h0 h [a2, vb] ∧ Exa Z h a2 "java/lang/StringBuilder" ∧ Fld Z h a2 "java/lang/AbstractStringBuilder" "value" "[B" (.ref vb) ∧ Fld Z h a2 "java/lang/AbstractStringBuilder" "coder" "B" (.int 0) ∧ Fld Z h a2 "java/lang/AbstractStringBuilder" "count" "I" (.int (Int32.ofNat (n + (own_dec p1).length))) ∧ Arv Z h vb kb .byte (Int32.ofNat (ws.take n ++ own_dec p1 ++ ws.drop (n + (own_dec p1).length)).length) ((ws.take n ++ own_dec p1 ++ ws.drop (n + (own_dec p1).length)).map Value.int) (.int 0)) := by
  refine own_ctr (plainFor_of_name own_pn2) ?_
  intro p e s m below meth c s₁ Bd hml0 hx hby hZ hown0 X0 e0
  have hml : c.maxLocals = 4 := hml0
  have hown : s.vm.findClass "java/lang/AbstractStringBuilder" = some m.cls := hown0
  have hnm := (name_of_methodNamed Bd.named Bd.method).1
  have N0 := Fr.nil n0
  refine own_cast (own_c17_ef m a2 p1) ?_
  refine own_go (S' := (s₁.setTop (mkF m 1 #[.val (.ref a2), .val (.int p1), .unset, .unset] [(.ref a2)]))) (fun t_ k_ => ?_) ?_
  · refine XS.aloadN X0.here hx rfl (hb hby own_d17_0) rfl rfl ?_
    show Steps p.tables e below (s₁.setTop (mkF m 1 #[.val (.ref a2), .val (.int p1), .unset, .unset] [(.ref a2)])) _
    exact k_
  obtain ⟨T101, X101, e101, st101⟩ := getF X0 hx hZ hown (host := "") (Or.inl (hw _ (List.mem_of_getElem? (i := 73) rfl))) Via.refl e0 B3 (g := (mkF m 1 #[.val (.ref a2), .val (.int p1), .unset, .unset] [(.ref a2)])) rfl rfl (hb hby own_d17_1)
  refine own_go st101 ?_
  show own_Rch p e below _ (T101.setTop (mkF m 4 #[.val (.ref a2), .val (.int p1), .unset, .unset] [(.int (Int32.ofNat n))]))
  refine own_go (S' := (T101.setTop (mkF m 7 #[.val (.ref a2), .val (.int p1), .val (.int (Int32.ofNat n)), .unset] [(.int p1), (.int (Int32.ofNat n))]))) (fun t_ k_ => ?_) ?_
  · refine XS.istoreN X101.here hx rfl (hb hby own_d17_4) rfl (l' := #[.val (.ref a2), .val (.int p1), .val (.int (Int32.ofNat n)), .unset]) rfl ?_
    show Steps p.tables e below (T101.setTop (mkF m 5 #[.val (.ref a2), .val (.int p1), .val (.int (Int32.ofNat n)), .unset] [])) _
    refine XS.iloadN X101.here hx rfl (hb hby own_d17_5) rfl ?_
    show Steps p.tables e below (T101.setTop (mkF m 6 #[.val (.ref a2), .val (.int p1), .val (.int (Int32.ofNat n)), .unset] [(.int (Int32.ofNat n))])) _
    refine XS.iloadN X101.here hx rfl (hb hby own_d17_6) rfl ?_
    show Steps p.tables e below (T101.setTop (mkF m 7 #[.val (.ref a2), .val (.int p1), .val (.int (Int32.ofNat n)), .unset] [(.int p1), (.int (Int32.ofNat n))])) _
    exact k_
  obtain ⟨_, T102, L102, X102, ⟨rfl, N102q, k102⟩, st102⟩ := own_callS X101 hx hZ (y := (⟨"java/lang/Integer", "stringSize", "(I)I"⟩ : MethodName)) hown (hw _ (List.mem_of_getElem? (i := 119) rfl)) (hw _ (List.mem_of_getElem? (i := 120) rfl)) (hw _ (List.mem_of_getElem? (i := 121) rfl)) (hw _ (List.mem_of_getElem? (i := 122) rfl)) (by decide) (own_c18 l Z a0 hw [] p1 h0 n0 O) e101 (W := 1) (by decide) (by decide) (g := (mkF m 7 #[.val (.ref a2), .val (.int p1), .val (.int (Int32.ofNat n)), .unset] [(.int p1), (.int (Int32.ofNat n))])) rfl (by rw [hml]; rfl) (argsL := [(.int p1)]) (rest := [(.int (Int32.ofNat n))]) (lenOf own_pd8 rfl) rfl rfl rfl (hb hby own_d17_7) (by decide) (by decide)
  have N102 := Fr.app N0 N102q
  refine own_go st102 ?_
  show own_Rch p e below _ (T102.setTop (mkF m 10 #[.val (.ref a2), .val (.int p1), .val (.int (Int32.ofNat n)), .unset] [(.int (Int32.ofNat (own_dec p1).length)), (.int (Int32.ofNat n))]))
  have O1 := O
  rw [← k102] at O1 B1 B2 B3 EB VB
  refine own_go (S' := (T102.setTop (mkF m 11 #[.val (.ref a2), .val (.int p1), .val (.int (Int32.ofNat n)), .unset] [(.int ((Int32.ofNat n) + (Int32.ofNat (own_dec p1).length)))]))) (fun t_ k_ => ?_) ?_
  · refine XS.iadd X102.here hx rfl (hb hby own_d17_10) rfl ?_
    show Steps p.tables e below (T102.setTop (mkF m 11 #[.val (.ref a2), .val (.int p1), .val (.int (Int32.ofNat n)), .unset] [(.int ((Int32.ofNat n) + (Int32.ofNat (own_dec p1).length)))])) _
    exact k_
  rw [own_addN (by omega) (by omega)]
  show own_Rch p e below _ (T102.setTop (mkF m 11 #[.val (.ref a2), .val (.int p1), .val (.int (Int32.ofNat n)), .unset] [(.int (Int32.ofNat (n + (own_dec p1).length)))]))
  refine own_go (S' := (T102.setTop (mkF m 14 #[.val (.ref a2), .val (.int p1), .val (.int (Int32.ofNat n)), .val (.int (Int32.ofNat (n + (own_dec p1).length)))] [(.int (Int32.ofNat (n + (own_dec p1).length))), (.ref a2)]))) (fun t_ k_ => ?_) ?_
  · refine XS.istoreN X102.here hx rfl (hb hby own_d17_11) rfl (l' := #[.val (.ref a2), .val (.int p1), .val (.int (Int32.ofNat n)), .val (.int (Int32.ofNat (n + (own_dec p1).length)))]) rfl ?_
    show Steps p.tables e below (T102.setTop (mkF m 12 #[.val (.ref a2), .val (.int p1), .val (.int (Int32.ofNat n)), .val (.int (Int32.ofNat (n + (own_dec p1).length)))] [])) _
    refine XS.aloadN X102.here hx rfl (hb hby own_d17_12) rfl rfl ?_
    show Steps p.tables e below (T102.setTop (mkF m 13 #[.val (.ref a2), .val (.int p1), .val (.int (Int32.ofNat n)), .val (.int (Int32.ofNat (n + (own_dec p1).length)))] [(.ref a2)])) _
    refine XS.iloadN X102.here hx rfl (hb hby own_d17_13) rfl ?_
    show Steps p.tables e below (T102.setTop (mkF m 14 #[.val (.ref a2), .val (.int p1), .val (.int (Int32.ofNat n)), .val (.int (Int32.ofNat (n + (own_dec p1).length)))] [(.int (Int32.ofNat (n + (own_dec p1).length))), (.ref a2)])) _
    exact k_
  obtain ⟨_, T103, L103, X103, ⟨rfl, N103q, k103⟩, st103⟩ := own_callP X102 hx hZ (y := (⟨"java/lang/AbstractStringBuilder", "ensureCapacityInternal", "(I)V"⟩ : MethodName)) hown (hw _ (List.mem_of_getElem? (i := 75) rfl)) (hw _ (List.mem_of_getElem? (i := 76) rfl)) (hw _ (List.mem_of_getElem? (i := 78) rfl)) (hw _ (List.mem_of_getElem? (i := 77) rfl)) (hw _ (List.mem_of_getElem? (i := 43) rfl)) (hw _ (List.mem_of_getElem? (i := 79) rfl)) (by decide) (own_c11 l Z a0 hw [] a2 vb kb ws (Int32.ofNat (n + (own_dec p1).length)) (n + (own_dec p1).length) rfl hn hw5 T102.heap n0 O1 B1 B2 VB) rfl EB (W := 0) (by decide) (by decide) (g := (mkF m 14 #[.val (.ref a2), .val (.int p1), .val (.int (Int32.ofNat n)), .val (.int (Int32.ofNat (n + (own_dec p1).length)))] [(.int (Int32.ofNat (n + (own_dec p1).length))), (.ref a2)])) rfl (by rw [hml]; rfl) (argsL := [(.int (Int32.ofNat (n + (own_dec p1).length)))]) (rest := []) (lenOf own_pd2 rfl) rfl rfl rfl (hb hby own_d17_14) (by decide) (by decide)
  have N103 := Fr.app N102 N103q
  refine own_go st103 ?_
  show own_Rch p e below _ (T103.setTop (mkF m 17 #[.val (.ref a2), .val (.int p1), .val (.int (Int32.ofNat n)), .val (.int (Int32.ofNat (n + (own_dec p1).length)))] []))
  rw [← k103] at O1 B1 B2 B3 EB VB
  refine own_go (S' := (T103.setTop (mkF m 18 #[.val (.ref a2), .val (.int p1), .val (.int (Int32.ofNat n)), .val (.int (Int32.ofNat (n + (own_dec p1).length)))] [(.ref a2)]))) (fun t_ k_ => ?_) ?_
  · refine XS.aloadN X103.here hx rfl (hb hby own_d17_17) rfl rfl ?_
    show Steps p.tables e below (T103.setTop (mkF m 18 #[.val (.ref a2), .val (.int p1), .val (.int (Int32.ofNat n)), .val (.int (Int32.ofNat (n + (own_dec p1).length)))] [(.ref a2)])) _
    exact k_
  obtain ⟨_, T104, L104, X104, ⟨rfl, N104q, k104⟩, st104⟩ := own_callV X103 hx hZ (y := (⟨"java/lang/AbstractStringBuilder", "isLatin1", "()Z"⟩ : MethodName)) (z := (⟨"java/lang/AbstractStringBuilder", "isLatin1", "()Z"⟩ : MethodName)) (C := "java/lang/StringBuilder") hown (hw _ (List.mem_of_getElem? (i := 123) rfl)) (hw _ (List.mem_of_getElem? (i := 124) rfl)) (notFace_of_selects (args := #[]) (mvT hZ (hw _ (List.mem_of_getElem? (i := 126) rfl)))) (hw _ (List.mem_of_getElem? (i := 126) rfl)) (hw _ (List.mem_of_getElem? (i := 125) rfl)) (hw _ (List.mem_of_getElem? (i := 43) rfl)) (hw _ (List.mem_of_getElem? (i := 127) rfl)) (by decide) (own_c19 l Z a0 hw [] a2 cz CS hcz T103.heap n0 O1 B2) rfl EB (W := 0) (by decide) (by decide) (g := (mkF m 18 #[.val (.ref a2), .val (.int p1), .val (.int (Int32.ofNat n)), .val (.int (Int32.ofNat (n + (own_dec p1).length)))] [(.ref a2)])) rfl (by rw [hml]; rfl) (argsL := []) (rest := []) (lenOf own_pd9 rfl) rfl rfl rfl (hb hby own_d17_18) (by decide) (by decide)
  have N104 := Fr.app N103 N104q
  refine own_go st104 ?_
  show own_Rch p e below _ (T104.setTop (mkF m 21 #[.val (.ref a2), .val (.int p1), .val (.int (Int32.ofNat n)), .val (.int (Int32.ofNat (n + (own_dec p1).length)))] [(.int (1 : Int32))]))
  rw [← k104] at O1 B1 B2 B3 EB VB
  refine own_go (S' := (T104.setTop (mkF m 27 #[.val (.ref a2), .val (.int p1), .val (.int (Int32.ofNat n)), .val (.int (Int32.ofNat (n + (own_dec p1).length)))] [(.ref a2), (.int (Int32.ofNat (n + (own_dec p1).length))), (.int p1)]))) (fun t_ k_ => ?_) ?_
  · refine XS.ifNo X104.here hx rfl (hb hby own_d17_21) rfl ((if0 _ _).trans (feq (by decide)).1) ?_
    show Steps p.tables e below (T104.setTop (mkF m 24 #[.val (.ref a2), .val (.int p1), .val (.int (Int32.ofNat n)), .val (.int (Int32.ofNat (n + (own_dec p1).length)))] [])) _
    refine XS.iloadN X104.here hx rfl (hb hby own_d17_24) rfl ?_
    show Steps p.tables e below (T104.setTop (mkF m 25 #[.val (.ref a2), .val (.int p1), .val (.int (Int32.ofNat n)), .val (.int (Int32.ofNat (n + (own_dec p1).length)))] [(.int p1)])) _
    refine XS.iloadN X104.here hx rfl (hb hby own_d17_25) rfl ?_
    show Steps p.tables e below (T104.setTop (mkF m 26 #[.val (.ref a2), .val (.int p1), .val (.int (Int32.ofNat n)), .val (.int (Int32.ofNat (n + (own_dec p1).length)))] [(.int (Int32.ofNat (n + (own_dec p1).length))), (.int p1)])) _
    refine XS.aloadN X104.here hx rfl (hb hby own_d17_26) rfl rfl ?_
    show Steps p.tables e below (T104.setTop (mkF m 27 #[.val (.ref a2), .val (.int p1), .val (.int (Int32.ofNat n)), .val (.int (Int32.ofNat (n + (own_dec p1).length)))] [(.ref a2), (.int (Int32.ofNat (n + (own_dec p1).length))), (.int p1)])) _
    exact k_
  obtain ⟨T105, X105, e105, st105⟩ := getF X104 hx hZ hown (host := "") (Or.inl (hw _ (List.mem_of_getElem? (i := 49) rfl))) Via.refl rfl B1 (g := (mkF m 27 #[.val (.ref a2), .val (.int p1), .val (.int (Int32.ofNat n)), .val (.int (Int32.ofNat (n + (own_dec p1).length)))] [(.ref a2), (.int (Int32.ofNat (n + (own_dec p1).length))), (.int p1)])) rfl rfl (hb hby own_d17_27)
  refine own_go st105 ?_
  show own_Rch p e below _ (T105.setTop (mkF m 30 #[.val (.ref a2), .val (.int p1), .val (.int (Int32.ofNat n)), .val (.int (Int32.ofNat (n + (own_dec p1).length)))] [(.ref vb), (.int (Int32.ofNat (n + (own_dec p1).length))), (.int p1)]))
  obtain ⟨_, T106, L106, X106, ⟨rfl, N106q, K106, V106⟩, st106⟩ := own_callS X105 hx hZ (y := (⟨"java/lang/Integer", "getChars", "(II[B)I"⟩ : MethodName)) hown (hw _ (List.mem_of_getElem? (i := 128) rfl)) (hw _ (List.mem_of_getElem? (i := 129) rfl)) (hw _ (List.mem_of_getElem? (i := 121) rfl)) (hw _ (List.mem_of_getElem? (i := 130) rfl)) (by decide) (own_c20 l Z a0 hw [] p1 vb kb ws n (n + (own_dec p1).length) rfl hn hw5 d1 d2 kd1 kd2 D1 D2 T1 T2 T104.heap n0 O1 VB gv) e105 (W := 0) (by decide) (by decide) (g := (mkF m 30 #[.val (.ref a2), .val (.int p1), .val (.int (Int32.ofNat n)), .val (.int (Int32.ofNat (n + (own_dec p1).length)))] [(.ref vb), (.int (Int32.ofNat (n + (own_dec p1).length))), (.int p1)])) rfl (by rw [hml]; rfl) (argsL := [(.int p1), (.int (Int32.ofNat (n + (own_dec p1).length))), (.ref vb)]) (rest := []) (lenOf own_pd10 rfl) rfl rfl rfl (hb hby own_d17_30) (by decide) (by decide)
  have N106 := Fr.app N104 N106q
  refine own_go st106 ?_
  show own_Rch p e below _ (T106.setTop (mkF m 33 #[.val (.ref a2), .val (.int p1), .val (.int (Int32.ofNat n)), .val (.int (Int32.ofNat (n + (own_dec p1).length)))] [(.int (Int32.ofNat n))]))
  refine own_go (S' := (T106.setTop (mkF m 50 #[.val (.ref a2), .val (.int p1), .val (.int (Int32.ofNat n)), .val (.int (Int32.ofNat (n + (own_dec p1).length)))] [(.int (Int32.ofNat (n + (own_dec p1).length))), (.ref a2)]))) (fun t_ k_ => ?_) ?_
  · refine XS.pop X106.here hx rfl (hb hby own_d17_33) rfl rfl ?_
    show Steps p.tables e below (T106.setTop (mkF m 34 #[.val (.ref a2), .val (.int p1), .val (.int (Int32.ofNat n)), .val (.int (Int32.ofNat (n + (own_dec p1).length)))] [])) _
    refine XS.goto X106.here hx rfl (pc0 := 34) (pc' := 48) rfl (hb hby own_d17_34) (by decide) (by decide) ?_
    show Steps p.tables e below (T106.setTop (mkF m 48 #[.val (.ref a2), .val (.int p1), .val (.int (Int32.ofNat n)), .val (.int (Int32.ofNat (n + (own_dec p1).length)))] [])) _
    refine XS.aloadN X106.here hx rfl (hb hby own_d17_48) rfl rfl ?_
    show Steps p.tables e below (T106.setTop (mkF m 49 #[.val (.ref a2), .val (.int p1), .val (.int (Int32.ofNat n)), .val (.int (Int32.ofNat (n + (own_dec p1).length)))] [(.ref a2)])) _
    refine XS.iloadN X106.here hx rfl (hb hby own_d17_49) rfl ?_
    show Steps p.tables e below (T106.setTop (mkF m 50 #[.val (.ref a2), .val (.int p1), .val (.int (Int32.ofNat n)), .val (.int (Int32.ofNat (n + (own_dec p1).length)))] [(.int (Int32.ofNat (n + (own_dec p1).length))), (.ref a2)])) _
    exact k_
  have D1_ := B1.keep K106 (ninS nv nin0)
  have D2_ := B2.keep K106 (ninS nv nin0)
  have D3_ := B3.keep K106 (ninS nv nin0)
  obtain ⟨T107, h107, X107, e107, W107, st107⟩ := putF X106 hx hZ hown (host := "") (Or.inl (hw _ (List.mem_of_getElem? (i := 73) rfl))) Via.refl rfl D3_ (EB.keep K106) (Or.inl (hw _ (List.mem_of_getElem? (i := 74) rfl))) (hw _ (List.mem_of_getElem? (i := 34) rfl)) (ty := .int) (by decide) rfl rfl (g := (mkF m 50 #[.val (.ref a2), .val (.int p1), .val (.int (Int32.ofNat n)), .val (.int (Int32.ofNat (n + (own_dec p1).length)))] [(.int (Int32.ofNat (n + (own_dec p1).length))), (.ref a2)])) rfl rfl (hb hby own_d17_50)
  refine own_go st107 ?_
  have N107 := Fr.snoc X107 N106 ga
  show own_Rch p e below _ (T107.setTop (mkF m 53 #[.val (.ref a2), .val (.int p1), .val (.int (Int32.ofNat n)), .val (.int (Int32.ofNat (n + (own_dec p1).length)))] []))
  have G107_0 := D1_.other W107 (Or.inr (slot_ne (Or.inl (hw _ (List.mem_of_getElem? (i := 50) rfl))) (Or.inl (hw _ (List.mem_of_getElem? (i := 74) rfl))) (by decide) (t := (.array .byte)) (t' := .int) (by decide) (by decide)))
  have G107_1 := D2_.other W107 (Or.inr (slot_ne (Or.inl (hw _ (List.mem_of_getElem? (i := 52) rfl))) (Or.inl (hw _ (List.mem_of_getElem? (i := 74) rfl))) (by decide) (t := .byte) (t' := .int) (by decide) (by decide)))
  have G107_2 := D3_.same W107
  have Ex107 := (EB.keep K106).wr W107
  refine own_go (S' := (T107.setTop (mkF m 54 #[.val (.ref a2), .val (.int p1), .val (.int (Int32.ofNat n)), .val (.int (Int32.ofNat (n + (own_dec p1).length)))] [(.ref a2)]))) (fun t_ k_ => ?_) ?_
  · refine XS.aloadN X107.here hx rfl (hb hby own_d17_53) rfl rfl ?_
    show Steps p.tables e below (T107.setTop (mkF m 54 #[.val (.ref a2), .val (.int p1), .val (.int (Int32.ofNat n)), .val (.int (Int32.ofNat (n + (own_dec p1).length)))] [(.ref a2)])) _
    exact k_
  have kk : T104.heap = h0 := by rw [k104, k103, k102]
  have KK : Keep h0 T106.heap [a2, vb] := kk ▸ (Keep.refl _ [a2, vb]).trans K106 (fun x hx => Or.inl (by cases List.mem_singleton.mp hx; exact List.mem_of_getElem? (i := 1) rfl))
  refine own_retA X107 hx Bd.returns Bd.notSynchronized rfl rfl rfl (hb hby own_d17_54) (by decide) (by decide) ?_
  try rw [e107]
  exact ⟨rfl, N107, KK.wr W107 (Or.inl (List.mem_of_getElem? (i := 0) rfl)), Ex107, G107_0, G107_1, G107_2, by rw [own_cat0 hn]; exact V106.other W107 (Ne.symm nv)⟩
theorem own_pd11 : parseMethodDescriptor "(I)Ljava/lang/AbstractStringBuilder;" = some ⟨[.int], some (.object "java/lang/AbstractStringBuilder")⟩ := by decide +kernel
theorem own_d16_0 : decode jdk_67_method_15_code 0 = .ok (.aload_n 0, 1) := by decide +kernel
theorem own_d16_1 : decode jdk_67_method_15_code 1 = .ok (.iload_n 1, 1) := by decide +kernel
theorem own_d16_2 : decode jdk_67_method_15_code 2 = .ok (.invokespecial 53, 3) := by decide +kernel
theorem own_d16_5 : decode jdk_67_method_15_code 5 = .ok (.pop, 1) := by decide +kernel
theorem own_d16_6 : decode jdk_67_method_15_code 6 = .ok (.aload_n 0, 1) := by decide +kernel
theorem own_d16_7 : decode jdk_67_method_15_code 7 = .ok (.areturn, 1) := by decide +kernel
theorem own_c16_ef (m : MethodId) (x0 : Addr) (x1 : Int32) : entryFrame m #[(.ref x0), (.int x1)] 2 = mkF m 0 #[.val (.ref x0), .val (.int x1)] [] := by first | (simp [entryFrame, mkF, argsToLocals, Value.category]; done) | rfl
set_option maxRecDepth 65536 in
set_option maxHeartbeats 40000000 in
theorem own_c16 (l : Launch) (Z : State) (a0 : Array Value) (hw : ∀ d ∈ tables_1, d.before a0 Z = true) (wsC : List Jvm.Cond) (a2 vb : Addr) (kb : ClassId) (p1 : Int32) (ws : List Int32) (n : Nat) (hn : n + (own_dec p1).length ≤ ws.length) (hw5 : ws.length ≤ 500) (d1 d2 : Addr) (kd1 kd2 : ClassId) (D1 : Sta Z Z.heap "java/lang/Integer" "DigitOnes" "[B" (.ref d1)) (D2 : Sta Z Z.heap "java/lang/Integer" "DigitTens" "[B" (.ref d2)) (T1 : Arv Z Z.heap d1 kd1 .byte 100 (own_ones.map Value.int) (.int 0)) (T2 : Arv Z Z.heap d2 kd2 .byte 100 (own_tens.map Value.int) (.int 0)) (cz : Int32) (CS : Sta Z Z.heap "java/lang/String" "COMPACT_STRINGS" "Z" (.int cz)) (hcz : ¬ cz = (0 : Int32)) (h0 : Heap) (n0 : Nat) (O : Old Z n0 h0) (B1 : Fld Z h0 a2 "java/lang/AbstractStringBuilder" "value" "[B" (.ref vb)) (B2 : Fld Z h0 a2 "java/lang/AbstractStringBuilder" "coder" "B" (.int 0)) (B3 : Fld Z h0 a2 "java/lang/AbstractStringBuilder" "count" "I" (.int (Int32.ofNat n))) (EB : Exa Z h0 a2 "java/lang/StringBuilder") (VB : Arv Z h0 vb kb .byte (Int32.ofNat ws.length) (ws.map Value.int) (.int 0)) (ga : n0 ≤ a2) (gv : n0 ≤ vb) (nv : a2 ≠ vb) :
    own_Ctr l Z (⟨"java/lang/StringBuilder", "append", "(I)Ljava/lang/StringBuilder;"⟩ : MethodName) jdk_67_method_15_code 2 (some (.object "java/lang/StringBuilder")) wsC ({ frames := 2, cells := 0, slots := 0, locals := 50 } : Room) h0 #[(.ref a2), (.int p1)] (fun v h L => v = some (.ref a2) ∧ Fr n0 L ∧ Keep h0 h [a2, vb] ∧ Exa Z h a2 "java/lang/StringBuilder" ∧ Fld Z h a2 "java/lang/AbstractStringBuilder" "value" "[B" (.ref vb) ∧ Fld Z h a2 "java/lang/AbstractStringBuilder" "coder" "B" (.int 0) ∧ Fld Z h a2 "java/lang/AbstractStringBuilder" "count" "I" (.int (Int32.ofNat (n + (own_dec p1).length))) ∧ Arv Z h vb kb .byte (Int32.ofNat (ws.take n ++ own_dec p1 ++ ws.drop (n + (own_dec p1).length)).length) ((ws.take n ++ own_dec p1 ++ ws.drop (n + (own_dec p1).length)).map Value.int) (.int 0)) := by
  refine own_ctr (plainFor_of_name own_pn3) ?_
  intro p e s m below meth c s₁ Bd hml0 hx hby hZ hown0 X0 e0
  have hml : c.maxLocals = 2 := hml0
  have hown : s.vm.findClass "java/lang/StringBuilder" = some m.cls := hown0
  have hnm := (name_of_methodNamed Bd.named Bd.method).1
  have N0 := Fr.nil n0
  refine own_cast (own_c16_ef m a2 p1) ?_
  refine own_go (S' := (s₁.setTop (mkF m 2 #[.val (.ref a2), .val (.int p1)] [(.int p1), (.ref a2)]))) (fun t_ k_ => ?_) ?_
  · refine XS.aloadN X0.here hx rfl (hb hby own_d16_0) rfl rfl ?_
    show Steps p.tables e below (s₁.setTop (mkF m 1 #[.val (.ref a2), .val (.int p1)] [(.ref a2)])) _
    refine XS.iloadN X0.here hx rfl (hb hby own_d16_1) rfl ?_
    show Steps p.tables e below (s₁.setTop (mkF m 2 #[.val (.ref a2), .val (.int p1)] [(.int p1), (.ref a2)])) _
    exact k_
  obtain ⟨_, T101, L101, X101, ⟨rfl, N101q, q101⟩, st101⟩ := own_callSup X0 hx hZ (y := (⟨"java/lang/AbstractStringBuilder", "append", "(I)Ljava/lang/AbstractStringBuilder;"⟩ : MethodName)) hown (hw _ (List.mem_of_getElem? (i := 115) rfl)) (hw _ (List.mem_of_getElem? (i := 117) rfl)) (hw _ (List.mem_of_getElem? (i := 78) rfl)) rfl (hw _ (List.mem_of_getElem? (i := 116) rfl)) (hw _ (List.mem_of_getElem? (i := 60) rfl)) (by decide) (hw _ (List.mem_of_getElem? (i := 43) rfl)) (hw _ (List.mem_of_getElem? (i := 118) rfl)) (by decide) (own_c17 l Z a0 hw [] a2 vb kb p1 ws n hn hw5 d1 d2 kd1 kd2 D1 D2 T1 T2 cz CS hcz h0 n0 O B1 B2 B3 EB VB ga gv nv) e0 EB (W := 0) (by decide) (by decide) (g := (mkF m 2 #[.val (.ref a2), .val (.int p1)] [(.int p1), (.ref a2)])) rfl (by rw [hml]; rfl) (argsL := [(.int p1)]) (rest := []) (lenOf own_pd11 rfl) rfl rfl rfl (hb hby own_d16_2) (by decide) (by decide)
  have N101 := Fr.app N0 N101q
  refine own_go st101 ?_
  show own_Rch p e below _ (T101.setTop (mkF m 5 #[.val (.ref a2), .val (.int p1)] [(.ref a2)]))
  refine own_go (S' := (T101.setTop (mkF m 7 #[.val (.ref a2), .val (.int p1)] [(.ref a2)]))) (fun t_ k_ => ?_) ?_
  · refine XS.pop X101.here hx rfl (hb hby own_d16_5) rfl rfl ?_
    show Steps p.tables e below (T101.setTop (mkF m 6 #[.val (.ref a2), .val (.int p1)] [])) _
    refine XS.aloadN X101.here hx rfl (hb hby own_d16_6) rfl rfl ?_
    show Steps p.tables e below (T101.setTop (mkF m 7 #[.val (.ref a2), .val (.int p1)] [(.ref a2)])) _
    exact k_
  refine own_retA X101 hx Bd.returns Bd.notSynchronized rfl rfl rfl (hb hby own_d16_7) (by decide) (by decide) ?_
  exact ⟨rfl, N101, q101⟩
theorem own_d29_0 : decode jdk_65_method_131_code 0 = .ok (.iload_n 1, 1) := by decide +kernel
theorem own_d29_1 : decode jdk_65_method_131_code 1 = .ok (.iload_n 0, 1) := by decide +kernel
theorem own_d29_2 : decode jdk_65_method_131_code 2 = .ok (.if_icmp .ge 35, 3) := by decide +kernel
theorem own_d29_37 : decode jdk_65_method_131_code 37 = .ok (.return_, 1) := by decide +kernel
theorem own_c29_ef (m : MethodId) (x0 : Int32) (x1 : Int32) : entryFrame m #[(.int x0), (.int x1)] 2 = mkF m 0 #[.val (.int x0), .val (.int x1)] [] := by first | (simp [entryFrame, mkF, argsToLocals, Value.category]; done) | rfl
theorem own_pn5 : plainName "java/util/Arrays" = true := by first | (simp [plainName, overriddenIn]; done) | decide +kernel
set_option maxRecDepth 65536 in
set_option maxHeartbeats 40000000 in
theorem own_c29 (l : Launch) (Z : State) (a0 : Array Value) (hw : ∀ d ∈ tables_1, d.before a0 Z = true) (wsC : List Jvm.Cond) (p1 p2 : Int32) (h0 : Heap) (n0 : Nat) (O : Old Z n0 h0) (hle : ¬ p2 < p1) :
    own_Ctr l Z (⟨"java/util/Arrays", "checkLength", "(II)V"⟩ : MethodName) jdk_65_method_131_code 2 none wsC ({ frames := 0, cells := 0, slots := 0, locals := 0 } : Room) h0 #[(.int p1), (.int p2)] (fun v h L => v = none ∧ Fr n0 L ∧ h = h0) := by
  refine own_ctr (plainFor_of_name own_pn5) ?_
  intro p e s m below meth c s₁ Bd hml0 hx hby hZ hown0 X0 e0
  have hml : c.maxLocals = 2 := hml0
  have hown : s.vm.findClass "java/util/Arrays" = some m.cls := hown0
  have hnm := (name_of_methodNamed Bd.named Bd.method).1
  have N0 := Fr.nil n0
  refine own_cast (own_c29_ef m p1 p2) ?_
  refine own_go (S' := (s₁.setTop (mkF m 2 #[.val (.int p1), .val (.int p2)] [(.int p1), (.int p2)]))) (fun t_ k_ => ?_) ?_
  · refine XS.iloadN X0.here hx rfl (hb hby own_d29_0) rfl ?_
    show Steps p.tables e below (s₁.setTop (mkF m 1 #[.val (.int p1), .val (.int p2)] [(.int p2)])) _
    refine XS.iloadN X0.here hx rfl (hb hby own_d29_1) rfl ?_
    show Steps p.tables e below (s₁.setTop (mkF m 2 #[.val (.int p1), .val (.int p2)] [(.int p1), (.int p2)])) _
    exact k_
  refine own_go (S' := (s₁.setTop (mkF m 37 #[.val (.int p1), .val (.int p2)] []))) (fun t_ k_ => ?_) ?_
  · refine XS.icmpYes X0.here hx rfl (pc0 := 2) (pc' := 37) rfl (hb hby own_d29_2) rfl (flt hle).2.1 (by decide) (by decide) ?_
    show Steps p.tables e below (s₁.setTop (mkF m 37 #[.val (.int p1), .val (.int p2)] [])) _
    exact k_
  refine own_ret0 X0 hx Bd.returns Bd.notSynchronized (hb hby own_d29_37) (by decide) (by decide) ?_
  try rw [e0]
  exact ⟨rfl, N0, rfl⟩
theorem own_d30_0 : decode jdk_29_method_69_code 0 = .ok (.iload_n 0, 1) := by decide +kernel
theorem own_d30_1 : decode jdk_29_method_69_code 1 = .ok (.iload_n 1, 1) := by decide +kernel
theorem own_d30_2 : decode jdk_29_method_69_code 2 = .ok (.if_icmp .gt 7, 3) := by decide +kernel
theorem own_d30_5 : decode jdk_29_method_69_code 5 = .ok (.iload_n 0, 1) := by decide +kernel
theorem own_d30_6 : decode jdk_29_method_69_code 6 = .ok (.goto 4, 3) := by decide +kernel
theorem own_d30_9 : decode jdk_29_method_69_code 9 = .ok (.iload_n 1, 1) := by decide +kernel
theorem own_d30_10 : decode jdk_29_method_69_code 10 = .ok (.ireturn, 1) := by decide +kernel
theorem own_c30_ef (m : MethodId) (x0 : Int32) (x1 : Int32) : entryFrame m #[(.int x0), (.int x1)] 2 = mkF m 0 #[.val (.int x0), .val (.int x1)] [] := by first | (simp [entryFrame, mkF, argsToLocals, Value.category]; done) | rfl
set_option maxRecDepth 65536 in
set_option maxHeartbeats 40000000 in
theorem own_c30 (l : Launch) (Z : State) (a0 : Array Value) (hw : ∀ d ∈ tables_1, d.before a0 Z = true) (wsC : List Jvm.Cond) (p1 p2 r : Int32) (h0 : Heap) (n0 : Nat) (O : Old Z n0 h0) (hr : (if p2 < p1 then p2 else p1) = r) :
    own_Ctr l Z (⟨"java/lang/Math", "min", "(II)I"⟩ : MethodName) jdk_29_method_69_code 2 (some .int) wsC ({ frames := 0, cells := 0, slots := 0, locals := 0 } : Room) h0 #[(.int p1), (.int p2)] (fun v h L => v = some (.int r) ∧ Fr n0 L ∧ h = h0) := by
  refine own_ctr (Jvm.Free.JP.mathPlain rfl (by decide +kernel)) ?_
  intro p e s m below meth c s₁ Bd hml0 hx hby hZ hown0 X0 e0
  have hml : c.maxLocals = 2 := hml0
  have hown : s.vm.findClass "java/lang/Math" = some m.cls := hown0
  have hnm := (name_of_methodNamed Bd.named Bd.method).1
  have N0 := Fr.nil n0
  refine own_cast (own_c30_ef m p1 p2) ?_
  refine own_go (S' := (s₁.setTop (mkF m 2 #[.val (.int p1), .val (.int p2)] [(.int p2), (.int p1)]))) (fun t_ k_ => ?_) ?_
  · refine XS.iloadN X0.here hx rfl (hb hby own_d30_0) rfl ?_
    show Steps p.tables e below (s₁.setTop (mkF m 1 #[.val (.int p1), .val (.int p2)] [(.int p1)])) _
    refine XS.iloadN X0.here hx rfl (hb hby own_d30_1) rfl ?_
    show Steps p.tables e below (s₁.setTop (mkF m 2 #[.val (.int p1), .val (.int p2)] [(.int p2), (.int p1)])) _
    exact k_
  by_cases h1 : p2 < p1
  · skip
    refine own_go (S' := (s₁.setTop (mkF m 10 #[.val (.int p1), .val (.int p2)] [(.int p2)]))) (fun t_ k_ => ?_) ?_
    · refine XS.icmpYes X0.here hx rfl (pc0 := 2) (pc' := 9) rfl (hb hby own_d30_2) rfl (tlt h1).2.2.1 (by decide) (by decide) ?_
      show Steps p.tables e below (s₁.setTop (mkF m 9 #[.val (.int p1), .val (.int p2)] [])) _
      refine XS.iloadN X0.here hx rfl (hb hby own_d30_9) rfl ?_
      show Steps p.tables e below (s₁.setTop (mkF m 10 #[.val (.int p1), .val (.int p2)] [(.int p2)])) _
      exact k_
    refine own_retI X0 hx Bd.returns Bd.notSynchronized (hb hby own_d30_10) (by decide) (by decide) ?_
    try rw [e0]
    exact ⟨by rw [← hr, if_pos h1], N0, rfl⟩
  · skip
    refine own_go (S' := (s₁.setTop (mkF m 10 #[.val (.int p1), .val (.int p2)] [(.int p1)]))) (fun t_ k_ => ?_) ?_
    · refine XS.icmpNo X0.here hx rfl (hb hby own_d30_2) rfl (flt h1).2.2.1 ?_
      show Steps p.tables e below (s₁.setTop (mkF m 5 #[.val (.int p1), .val (.int p2)] [])) _
      refine XS.iloadN X0.here hx rfl (hb hby own_d30_5) rfl ?_
      show Steps p.tables e below (s₁.setTop (mkF m 6 #[.val (.int p1), .val (.int p2)] [(.int p1)])) _
      refine XS.goto X0.here hx rfl (pc0 := 6) (pc' := 10) rfl (hb hby own_d30_6) (by decide) (by decide) ?_
      show Steps p.tables e below (s₁.setTop (mkF m 10 #[.val (.int p1), .val (.int p2)] [(.int p1)])) _
      exact k_
    refine own_retI X0 hx Bd.returns Bd.notSynchronized (hb hby own_d30_10) (by decide) (by decide) ?_
    try rw [e0]
    exact ⟨by rw [← hr, if_neg h1], N0, rfl⟩
theorem own_sub0 {z : Int32} : z - (0 : Int32) = z := by simp
theorem own_padB (n : Nat) : ∀ i, ((List.replicate n (0 : Int32)).map Value.int).getD i (.int 0) = ([] : List Value).getD i (.int 0) := by
  rw [List.map_replicate]; exact pad_rep [] (.int 0) n
theorem own_usT {ws : List Int32} {n : Nat} (h : n ≤ ws.length) : (ws.take n).map Value.int = (List.range n).map fun i => (ws.map Value.int).getD (0 + i) (.int 0) := by
  apply List.ext_getElem
  · simp; omega
  · intro i h1 h2
    simp only [List.getElem_map, List.getElem_range, Nat.zero_add, own_mapD, List.getElem_take]
    simp at h1
    rw [List.getD_eq_getElem?_getD, List.getElem?_eq_getElem (by omega)]; rfl
theorem own_pd12 : parseMethodDescriptor "(II)V" = some ⟨[.int, .int], none⟩ := by decide +kernel
theorem own_pd13 : parseMethodDescriptor "(II)I" = some ⟨[.int, .int], some .int⟩ := by decide +kernel
theorem own_d28_0 : decode jdk_65_method_133_code 0 = .ok (.iload_n 1, 1) := by decide +kernel
theorem own_d28_1 : decode jdk_65_method_133_code 1 = .ok (.iload_n 2, 1) := by decide +kernel
theorem own_d28_2 : decode jdk_65_method_133_code 2 = .ok (.invokestatic 343, 3) := by decide +kernel
theorem own_d28_5 : decode jdk_65_method_133_code 5 = .ok (.iload_n 2, 1) := by decide +kernel
theorem own_d28_6 : decode jdk_65_method_133_code 6 = .ok (.iload_n 1, 1) := by decide +kernel
theorem own_d28_7 : decode jdk_65_method_133_code 7 = .ok (.isub, 1) := by decide +kernel
theorem own_d28_8 : decode jdk_65_method_133_code 8 = .ok (.istore_n 3, 1) := by decide +kernel
theorem own_d28_9 : decode jdk_65_method_133_code 9 = .ok (.iload_n 3, 1) := by decide +kernel
theorem own_d28_10 : decode jdk_65_method_133_code 10 = .ok (.newarray .byte, 2) := by decide +kernel
theorem own_d28_12 : decode jdk_65_method_133_code 12 = .ok (.astore 4, 2) := by decide +kernel
theorem own_d28_14 : decode jdk_65_method_133_code 14 = .ok (.aload_n 0, 1) := by decide +kernel
theorem own_d28_15 : decode jdk_65_method_133_code 15 = .ok (.iload_n 1, 1) := by decide +kernel
theorem own_d28_16 : decode jdk_65_method_133_code 16 = .ok (.aload 4, 2) := by decide +kernel
theorem own_d28_18 : decode jdk_65_method_133_code 18 = .ok (.iconst 0, 1) := by decide +kernel
theorem own_d28_19 : decode jdk_65_method_133_code 19 = .ok (.aload_n 0, 1) := by decide +kernel
theorem own_d28_20 : decode jdk_65_method_133_code 20 = .ok (.arraylength, 1) := by decide +kernel
theorem own_d28_21 : decode jdk_65_method_133_code 21 = .ok (.iload_n 1, 1) := by decide +kernel
theorem own_d28_22 : decode jdk_65_method_133_code 22 = .ok (.isub, 1) := by decide +kernel
theorem own_d28_23 : decode jdk_65_method_133_code 23 = .ok (.iload_n 3, 1) := by decide +kernel
theorem own_d28_24 : decode jdk_65_method_133_code 24 = .ok (.invokestatic 304, 3) := by decide +kernel
theorem own_d28_27 : decode jdk_65_method_133_code 27 = .ok (.invokestatic 150, 3) := by decide +kernel
theorem own_d28_30 : decode jdk_65_method_133_code 30 = .ok (.aload 4, 2) := by decide +kernel
theorem own_d28_32 : decode jdk_65_method_133_code 32 = .ok (.areturn, 1) := by decide +kernel
theorem own_c28_ef (m : MethodId) (x0 : Addr) (x1 : Int32) (x2 : Int32) : entryFrame m #[(.ref x0), (.int x1), (.int x2)] 5 = mkF m 0 #[.val (.ref x0), .val (.int x1), .val (.int x2), .unset, .unset] [] := by first | (simp [entryFrame, mkF, argsToLocals, Value.category]; done) | rfl
set_option maxRecDepth 65536 in
set_option maxHeartbeats 40000000 in
theorem own_c28 (l : Launch) (Z : State) (a0 : Array Value) (hw : ∀ d ∈ tables_1, d.before a0 Z = true) (wsC : List Jvm.Cond) (a1 : Addr) (k1 : ClassId) (ws : List Int32) (n : Nat) (hn : n ≤ ws.length) (hn20 : n ≤ 20) (hw5 : ws.length ≤ 500) (h0 : Heap) (n0 : Nat) (O : Old Z n0 h0) (V1 : Arv Z h0 a1 k1 .byte (Int32.ofNat ws.length) (ws.map Value.int) (.int 0)) :
    own_Ctr l Z (⟨"java/util/Arrays", "copyOfRangeByte", "([BII)[B"⟩ : MethodName) jdk_65_method_133_code 5 (some (.array .byte)) wsC ({ frames := 1, cells := 1, slots := 20, locals := 30 } : Room) h0 #[(.ref a1), (.int (0 : Int32)), (.int (Int32.ofNat n))] (fun v h L => ∃ b2 k2, v = some (.ref b2) ∧ Fr n0 L ∧ Keep h0 h [] ∧ h0.size ≤ b2 ∧ Arv Z h b2 k2 .byte (Int32.ofNat n) ((ws.take n).map Value.int) (.int 0)) := by
  refine own_ctr (plainFor_of_name own_pn5) ?_
  intro p e s m below meth c s₁ Bd hml0 hx hby hZ hown0 X0 e0
  have hml : c.maxLocals = 5 := hml0
  have hown : s.vm.findClass "java/util/Arrays" = some m.cls := hown0
  have hnm := (name_of_methodNamed Bd.named Bd.method).1
  have N0 := Fr.nil n0
  refine own_cast (own_c28_ef m a1 (0 : Int32) (Int32.ofNat n)) ?_
  refine own_go (S' := (s₁.setTop (mkF m 2 #[.val (.ref a1), .val (.int (0 : Int32)), .val (.int (Int32.ofNat n)), .unset, .unset] [(.int (Int32.ofNat n)), (.int (0 : Int32))]))) (fun t_ k_ => ?_) ?_
  · refine XS.iloadN X0.here hx rfl (hb hby own_d28_0) rfl ?_
    show Steps p.tables e below (s₁.setTop (mkF m 1 #[.val (.ref a1), .val (.int (0 : Int32)), .val (.int (Int32.ofNat n)), .unset, .unset] [(.int (0 : Int32))])) _
    refine XS.iloadN X0.here hx rfl (hb hby own_d28_1) rfl ?_
    show Steps p.tables e below (s₁.setTop (mkF m 2 #[.val (.ref a1), .val (.int (0 : Int32)), .val (.int (Int32.ofNat n)), .unset, .unset] [(.int (Int32.ofNat n)), (.int (0 : Int32))])) _
    exact k_
  obtain ⟨_, T101, L101, X101, ⟨rfl, N101q, k101⟩, st101⟩ := own_callS X0 hx hZ (y := (⟨"java/util/Arrays", "checkLength", "(II)V"⟩ : MethodName)) hown (hw _ (List.mem_of_getElem? (i := 167) rfl)) (hw _ (List.mem_of_getElem? (i := 168) rfl)) (hw _ (List.mem_of_getElem? (i := 162) rfl)) (hw _ (List.mem_of_getElem? (i := 169) rfl)) (by decide) (own_c29 l Z a0 hw [] 0 (Int32.ofNat n) h0 n0 O (own_nat (by omega)).2.2.1) e0 (W := 0) (by decide) (by decide) (g := (mkF m 2 #[.val (.ref a1), .val (.int (0 : Int32)), .val (.int (Int32.ofNat n)), .unset, .unset] [(.int (Int32.ofNat n)), (.int (0 : Int32))])) rfl (by rw [hml]; rfl) (argsL := [(.int (0 : Int32)), (.int (Int32.ofNat n))]) (rest := []) (lenOf own_pd12 rfl) rfl rfl rfl (hb hby own_d28_2) (by decide) (by decide)
  have N101 := Fr.app N0 N101q
  refine own_go st101 ?_
  show own_Rch p e below _ (T101.setTop (mkF m 5 #[.val (.ref a1), .val (.int (0 : Int32)), .val (.int (Int32.ofNat n)), .unset, .unset] []))
  have O1 := O
  rw [← k101] at O1 V1
  refine own_go (S' := (T101.setTop (mkF m 8 #[.val (.ref a1), .val (.int (0 : Int32)), .val (.int (Int32.ofNat n)), .unset, .unset] [(.int ((Int32.ofNat n) - (0 : Int32)))]))) (fun t_ k_ => ?_) ?_
  · refine XS.iloadN X101.here hx rfl (hb hby own_d28_5) rfl ?_
    show Steps p.tables e below (T101.setTop (mkF m 6 #[.val (.ref a1), .val (.int (0 : Int32)), .val (.int (Int32.ofNat n)), .unset, .unset] [(.int (Int32.ofNat n))])) _
    refine XS.iloadN X101.here hx rfl (hb hby own_d28_6) rfl ?_
    show Steps p.tables e below (T101.setTop (mkF m 7 #[.val (.ref a1), .val (.int (0 : Int32)), .val (.int (Int32.ofNat n)), .unset, .unset] [(.int (0 : Int32)), (.int (Int32.ofNat n))])) _
    refine XS.isub X101.here hx rfl (hb hby own_d28_7) rfl ?_
    show Steps p.tables e below (T101.setTop (mkF m 8 #[.val (.ref a1), .val (.int (0 : Int32)), .val (.int (Int32.ofNat n)), .unset, .unset] [(.int ((Int32.ofNat n) - (0 : Int32)))])) _
    exact k_
  rw [own_sub0]
  show own_Rch p e below _ (T101.setTop (mkF m 8 #[.val (.ref a1), .val (.int (0 : Int32)), .val (.int (Int32.ofNat n)), .unset, .unset] [(.int (Int32.ofNat n))]))
  refine own_go (S' := (T101.setTop (mkF m 10 #[.val (.ref a1), .val (.int (0 : Int32)), .val (.int (Int32.ofNat n)), .val (.int (Int32.ofNat n)), .unset] [(.int (Int32.ofNat n))]))) (fun t_ k_ => ?_) ?_
  · refine XS.istoreN X101.here hx rfl (hb hby own_d28_8) rfl (l' := #[.val (.ref a1), .val (.int (0 : Int32)), .val (.int (Int32.ofNat n)), .val (.int (Int32.ofNat n)), .unset]) rfl ?_
    show Steps p.tables e below (T101.setTop (mkF m 9 #[.val (.ref a1), .val (.int (0 : Int32)), .val (.int (Int32.ofNat n)), .val (.int (Int32.ofNat n)), .unset] [])) _
    refine XS.iloadN X101.here hx rfl (hb hby own_d28_9) rfl ?_
    show Steps p.tables e below (T101.setTop (mkF m 10 #[.val (.ref a1), .val (.int (0 : Int32)), .val (.int (Int32.ofNat n)), .val (.int (Int32.ofNat n)), .unset] [(.int (Int32.ofNat n))])) _
    exact k_
  obtain ⟨T102, h102, k102, X102, e102, E102, A102, Ex102, st102⟩ := newPE X101 hx hZ (hw _ (List.mem_of_getElem? (i := 6) rfl)) rfl (g := (mkF m 10 #[.val (.ref a1), .val (.int (0 : Int32)), .val (.int (Int32.ofNat n)), .val (.int (Int32.ofNat n)), .unset] [(.int (Int32.ofNat n))])) rfl (hb hby own_d28_10) rfl (own_nat (by omega)).2.2.1 (cap := 20) (by rw [(own_nat (by omega)).2.1]; exact hn20) (by decide) (by decide) (by decide) (ad := "[B") (by decide)
  obtain ⟨b102, g102⟩ : ∃ z, z = T101.heap.size := ⟨_, rfl⟩
  rw [← g102] at A102 Ex102 st102
  have gb102 : n0 ≤ b102 := Nat.le_trans (own_oz O1) (Nat.le_of_eq g102.symm)
  have V102 := Arv.new A102 (own_nat (by omega)).2.2.1
  refine own_go st102 ?_
  show own_Rch p e below _ (T102.setTop (mkF m 12 #[.val (.ref a1), .val (.int (0 : Int32)), .val (.int (Int32.ofNat n)), .val (.int (Int32.ofNat n)), .unset] [(.ref b102)]))
  have Va := V102.pad (own_padB n)
  have V1' := V1.ext E102
  refine own_go (S' := (T102.setTop (mkF m 20 #[.val (.ref a1), .val (.int (0 : Int32)), .val (.int (Int32.ofNat n)), .val (.int (Int32.ofNat n)), .val (.ref b102)] [(.ref a1), (.int (0 : Int32)), (.ref b102), (.int (0 : Int32)), (.ref a1)]))) (fun t_ k_ => ?_) ?_
  · refine XS.astore X102.here hx rfl (hb hby own_d28_12) rfl rfl (l' := #[.val (.ref a1), .val (.int (0 : Int32)), .val (.int (Int32.ofNat n)), .val (.int (Int32.ofNat n)), .val (.ref b102)]) rfl ?_
    show Steps p.tables e below (T102.setTop (mkF m 14 #[.val (.ref a1), .val (.int (0 : Int32)), .val (.int (Int32.ofNat n)), .val (.int (Int32.ofNat n)), .val (.ref b102)] [])) _
    refine XS.aloadN X102.here hx rfl (hb hby own_d28_14) rfl rfl ?_
    show Steps p.tables e below (T102.setTop (mkF m 15 #[.val (.ref a1), .val (.int (0 : Int32)), .val (.int (Int32.ofNat n)), .val (.int (Int32.ofNat n)), .val (.ref b102)] [(.ref a1)])) _
    refine XS.iloadN X102.here hx rfl (hb hby own_d28_15) rfl ?_
    show Steps p.tables e below (T102.setTop (mkF m 16 #[.val (.ref a1), .val (.int (0 : Int32)), .val (.int (Int32.ofNat n)), .val (.int (Int32.ofNat n)), .val (.ref b102)] [(.int (0 : Int32)), (.ref a1)])) _
    refine XS.aload X102.here hx rfl (hb hby own_d28_16) rfl rfl ?_
    show Steps p.tables e below (T102.setTop (mkF m 18 #[.val (.ref a1), .val (.int (0 : Int32)), .val (.int (Int32.ofNat n)), .val (.int (Int32.ofNat n)), .val (.ref b102)] [(.ref b102), (.int (0 : Int32)), (.ref a1)])) _
    refine XS.iconst X102.here hx rfl (hb hby own_d28_18) ?_
    show Steps p.tables e below (T102.setTop (mkF m 19 #[.val (.ref a1), .val (.int (0 : Int32)), .val (.int (Int32.ofNat n)), .val (.int (Int32.ofNat n)), .val (.ref b102)] [(.int (0 : Int32)), (.ref b102), (.int (0 : Int32)), (.ref a1)])) _
    refine XS.aloadN X102.here hx rfl (hb hby own_d28_19) rfl rfl ?_
    show Steps p.tables e below (T102.setTop (mkF m 20 #[.val (.ref a1), .val (.int (0 : Int32)), .val (.int (Int32.ofNat n)), .val (.int (Int32.ofNat n)), .val (.ref b102)] [(.ref a1), (.int (0 : Int32)), (.ref b102), (.int (0 : Int32)), (.ref a1)])) _
    exact k_
  refine own_go (own_len X102 hx hZ e102 V1' (g := (mkF m 20 #[.val (.ref a1), .val (.int (0 : Int32)), .val (.int (Int32.ofNat n)), .val (.int (Int32.ofNat n)), .val (.ref b102)] [(.ref a1), (.int (0 : Int32)), (.ref b102), (.int (0 : Int32)), (.ref a1)])) rfl rfl (hb hby own_d28_20)) ?_
  show own_Rch p e below _ (T102.setTop (mkF m 21 #[.val (.ref a1), .val (.int (0 : Int32)), .val (.int (Int32.ofNat n)), .val (.int (Int32.ofNat n)), .val (.ref b102)] [(.int (Int32.ofNat ws.length)), (.int (0 : Int32)), (.ref b102), (.int (0 : Int32)), (.ref a1)]))
  refine own_go (S' := (T102.setTop (mkF m 23 #[.val (.ref a1), .val (.int (0 : Int32)), .val (.int (Int32.ofNat n)), .val (.int (Int32.ofNat n)), .val (.ref b102)] [(.int ((Int32.ofNat ws.length) - (0 : Int32))), (.int (0 : Int32)), (.ref b102), (.int (0 : Int32)), (.ref a1)]))) (fun t_ k_ => ?_) ?_
  · refine XS.iloadN X102.here hx rfl (hb hby own_d28_21) rfl ?_
    show Steps p.tables e below (T102.setTop (mkF m 22 #[.val (.ref a1), .val (.int (0 : Int32)), .val (.int (Int32.ofNat n)), .val (.int (Int32.ofNat n)), .val (.ref b102)] [(.int (0 : Int32)), (.int (Int32.ofNat ws.length)), (.int (0 : Int32)), (.ref b102), (.int (0 : Int32)), (.ref a1)])) _
    refine XS.isub X102.here hx rfl (hb hby own_d28_22) rfl ?_
    show Steps p.tables e below (T102.setTop (mkF m 23 #[.val (.ref a1), .val (.int (0 : Int32)), .val (.int (Int32.ofNat n)), .val (.int (Int32.ofNat n)), .val (.ref b102)] [(.int ((Int32.ofNat ws.length) - (0 : Int32))), (.int (0 : Int32)), (.ref b102), (.int (0 : Int32)), (.ref a1)])) _
    exact k_
  rw [own_sub0]
  show own_Rch p e below _ (T102.setTop (mkF m 23 #[.val (.ref a1), .val (.int (0 : Int32)), .val (.int (Int32.ofNat n)), .val (.int (Int32.ofNat n)), .val (.ref b102)] [(.int (Int32.ofNat ws.length)), (.int (0 : Int32)), (.ref b102), (.int (0 : Int32)), (.ref a1)]))
  refine own_go (S' := (T102.setTop (mkF m 24 #[.val (.ref a1), .val (.int (0 : Int32)), .val (.int (Int32.ofNat n)), .val (.int (Int32.ofNat n)), .val (.ref b102)] [(.int (Int32.ofNat n)), (.int (Int32.ofNat ws.length)), (.int (0 : Int32)), (.ref b102), (.int (0 : Int32)), (.ref a1)]))) (fun t_ k_ => ?_) ?_
  · refine XS.iloadN X102.here hx rfl (hb hby own_d28_23) rfl ?_
    show Steps p.tables e below (T102.setTop (mkF m 24 #[.val (.ref a1), .val (.int (0 : Int32)), .val (.int (Int32.ofNat n)), .val (.int (Int32.ofNat n)), .val (.ref b102)] [(.int (Int32.ofNat n)), (.int (Int32.ofNat ws.length)), (.int (0 : Int32)), (.ref b102), (.int (0 : Int32)), (.ref a1)])) _
    exact k_
  have O2 := O1.ext E102
  obtain ⟨_, T103, L103, X103, ⟨rfl, N103q, k103⟩, st103⟩ := own_callS X102 hx hZ (y := (⟨"java/lang/Math", "min", "(II)I"⟩ : MethodName)) hown (hw _ (List.mem_of_getElem? (i := 170) rfl)) (hw _ (List.mem_of_getElem? (i := 171) rfl)) (hw _ (List.mem_of_getElem? (i := 172) rfl)) (hw _ (List.mem_of_getElem? (i := 173) rfl)) (by decide) (own_c30 l Z a0 hw [] (Int32.ofNat ws.length) (Int32.ofNat n) (Int32.ofNat n) h102 n0 O2 (by split <;> first | rfl | (rename_i hh; rw [own_ltN (by omega) (by omega)] at hh; congr 1; omega))) e102 (W := 4) (by decide) (by decide) (g := (mkF m 24 #[.val (.ref a1), .val (.int (0 : Int32)), .val (.int (Int32.ofNat n)), .val (.int (Int32.ofNat n)), .val (.ref b102)] [(.int (Int32.ofNat n)), (.int (Int32.ofNat ws.length)), (.int (0 : Int32)), (.ref b102), (.int (0 : Int32)), (.ref a1)])) rfl (by rw [hml]; rfl) (argsL := [(.int (Int32.ofNat ws.length)), (.int (Int32.ofNat n))]) (rest := [(.int (0 : Int32)), (.ref b102), (.int (0 : Int32)), (.ref a1)]) (lenOf own_pd13 rfl) rfl rfl rfl (hb hby own_d28_24) (by decide) (by decide)
  have N103 := Fr.app N101 N103q
  refine own_go st103 ?_
  show own_Rch p e below _ (T103.setTop (mkF m 27 #[.val (.ref a1), .val (.int (0 : Int32)), .val (.int (Int32.ofNat n)), .val (.int (Int32.ofNat n)), .val (.ref b102)] [(.int (Int32.ofNat n)), (.int (0 : Int32)), (.ref b102), (.int (0 : Int32)), (.ref a1)]))
  rw [← k103] at V1' Va
  obtain ⟨T104, h104, L104, X104, e104, N104, K104, V104, st104⟩ := cpA X103 hx hZ hown (hw _ (List.mem_of_getElem? (i := 174) rfl)) (hw _ (List.mem_of_getElem? (i := 99) rfl)) (hw _ (List.mem_of_getElem? (i := 97) rfl)) (hw _ (List.mem_of_getElem? (i := 98) rfl)) rfl V1' Va (Or.inl ⟨rfl, rfl⟩) (by decide) (by decide) (own_nat (by omega)).2.2.1 (by rw [(own_nat (by omega)).2.1, (own_nat (by omega)).2.1]; show 0 + n ≤ _; omega) (by rw [(own_nat (by omega)).2.1]; show 0 + n ≤ n; omega) (us := (ws.take n).map Value.int) (by rw [(own_nat (by omega)).2.1]; exact own_usT hn) (by rw [(own_nat (by omega)).2.1, List.length_map, List.length_replicate]; show 0 + n ≤ n; omega) N103 gb102 (g := (mkF m 27 #[.val (.ref a1), .val (.int (0 : Int32)), .val (.int (Int32.ofNat n)), .val (.int (Int32.ofNat n)), .val (.ref b102)] [(.int (Int32.ofNat n)), (.int (0 : Int32)), (.ref b102), (.int (0 : Int32)), (.ref a1)])) rfl (by rw [hml]; rfl) (rest := []) rfl (hb hby own_d28_27) (by decide) (W := 0) (by show 2 * 0 + _ ≤ _; exact Nat.le_of_eq rfl) (by decide)
  refine own_go st104 ?_
  show own_Rch p e below _ (T104.setTop (mkF m 30 #[.val (.ref a1), .val (.int (0 : Int32)), .val (.int (Int32.ofNat n)), .val (.int (Int32.ofNat n)), .val (.ref b102)] []))
  refine own_go (S' := (T104.setTop (mkF m 32 #[.val (.ref a1), .val (.int (0 : Int32)), .val (.int (Int32.ofNat n)), .val (.int (Int32.ofNat n)), .val (.ref b102)] [(.ref b102)]))) (fun t_ k_ => ?_) ?_
  · refine XS.aload X104.here hx rfl (hb hby own_d28_30) rfl rfl ?_
    show Steps p.tables e below (T104.setTop (mkF m 32 #[.val (.ref a1), .val (.int (0 : Int32)), .val (.int (Int32.ofNat n)), .val (.int (Int32.ofNat n)), .val (.ref b102)] [(.ref b102)])) _
    exact k_
  have kk : T103.heap = h102 := k103
  have km : T101.heap = h0 := k101
  have KE : Keep h0 h102 [] := km ▸ (Keep.refl _ []).ext E102
  have sb : h0.size ≤ b102 := km ▸ Nat.le_of_eq g102.symm
  have KW : Keep h0 h104 [] := KE.trans (kk ▸ K104) (fun x hx => Or.inr (by cases List.mem_singleton.mp hx; exact sb))
  refine own_retA X104 hx Bd.returns Bd.notSynchronized rfl rfl rfl (hb hby own_d28_32) (by decide) (by decide) ?_
  try rw [e104]
  exact ⟨b102, k102, rfl, N104, KW, sb, own_cpT V104⟩
theorem own_pd14 : parseMethodDescriptor "([BII)[B" = some ⟨[(.array .byte), .int, .int], some (.array .byte)⟩ := by decide +kernel
theorem own_d27_0 : decode jdk_65_method_132_code 0 = .ok (.iload_n 1, 1) := by decide +kernel
theorem own_d27_1 : decode jdk_65_method_132_code 1 = .ok (.ifCond .ne 9, 3) := by decide +kernel
theorem own_d27_4 : decode jdk_65_method_132_code 4 = .ok (.iload_n 2, 1) := by decide +kernel
theorem own_d27_5 : decode jdk_65_method_132_code 5 = .ok (.aload_n 0, 1) := by decide +kernel
theorem own_d27_6 : decode jdk_65_method_132_code 6 = .ok (.arraylength, 1) := by decide +kernel
theorem own_d27_7 : decode jdk_65_method_132_code 7 = .ok (.if_icmp .eq 10, 3) := by decide +kernel
theorem own_d27_10 : decode jdk_65_method_132_code 10 = .ok (.aload_n 0, 1) := by decide +kernel
theorem own_d27_11 : decode jdk_65_method_132_code 11 = .ok (.iload_n 1, 1) := by decide +kernel
theorem own_d27_12 : decode jdk_65_method_132_code 12 = .ok (.iload_n 2, 1) := by decide +kernel
theorem own_d27_13 : decode jdk_65_method_132_code 13 = .ok (.invokestatic 339, 3) := by decide +kernel
theorem own_d27_16 : decode jdk_65_method_132_code 16 = .ok (.areturn, 1) := by decide +kernel
theorem own_c27_ef (m : MethodId) (x0 : Addr) (x1 : Int32) (x2 : Int32) : entryFrame m #[(.ref x0), (.int x1), (.int x2)] 3 = mkF m 0 #[.val (.ref x0), .val (.int x1), .val (.int x2)] [] := by first | (simp [entryFrame, mkF, argsToLocals, Value.category]; done) | rfl
set_option maxRecDepth 65536 in
set_option maxHeartbeats 40000000 in
theorem own_c27 (l : Launch) (Z : State) (a0 : Array Value) (hw : ∀ d ∈ tables_1, d.before a0 Z = true) (wsC : List Jvm.Cond) (a1 : Addr) (k1 : ClassId) (ws : List Int32) (n : Nat) (hn : n < ws.length) (hn20 : n ≤ 20) (hw5 : ws.length ≤ 500) (h0 : Heap) (n0 : Nat) (O : Old Z n0 h0) (V1 : Arv Z h0 a1 k1 .byte (Int32.ofNat ws.length) (ws.map Value.int) (.int 0)) :
    own_Ctr l Z (⟨"java/util/Arrays", "copyOfRange", "([BII)[B"⟩ : MethodName) jdk_65_method_132_code 3 (some (.array .byte)) wsC ({ frames := 2, cells := 1, slots := 20, locals := 50 } : Room) h0 #[(.ref a1), (.int (0 : Int32)), (.int (Int32.ofNat n))] (fun v h L => ∃ b2 k2, v = some (.ref b2) ∧ Fr n0 L ∧ Keep h0 h [] ∧ h0.size ≤ b2 ∧ Arv Z h b2 k2 .byte (Int32.ofNat n) ((ws.take n).map Value.int) (.int 0)) := by
  refine own_ctr (plainFor_of_name own_pn5) ?_
  intro p e s m below meth c s₁ Bd hml0 hx hby hZ hown0 X0 e0
  have hml : c.maxLocals = 3 := hml0
  have hown : s.vm.findClass "java/util/Arrays" = some m.cls := hown0
  have hnm := (name_of_methodNamed Bd.named Bd.method).1
  have N0 := Fr.nil n0
  refine own_cast (own_c27_ef m a1 (0 : Int32) (Int32.ofNat n)) ?_
  refine own_go (S' := (s₁.setTop (mkF m 1 #[.val (.ref a1), .val (.int (0 : Int32)), .val (.int (Int32.ofNat n))] [(.int (0 : Int32))]))) (fun t_ k_ => ?_) ?_
  · refine XS.iloadN X0.here hx rfl (hb hby own_d27_0) rfl ?_
    show Steps p.tables e below (s₁.setTop (mkF m 1 #[.val (.ref a1), .val (.int (0 : Int32)), .val (.int (Int32.ofNat n))] [(.int (0 : Int32))])) _
    exact k_
  refine own_go (S' := (s₁.setTop (mkF m 6 #[.val (.ref a1), .val (.int (0 : Int32)), .val (.int (Int32.ofNat n))] [(.ref a1), (.int (Int32.ofNat n))]))) (fun t_ k_ => ?_) ?_
  · refine XS.ifNo X0.here hx rfl (hb hby own_d27_1) rfl ((if0 _ _).trans (teq rfl).2) ?_
    show Steps p.tables e below (s₁.setTop (mkF m 4 #[.val (.ref a1), .val (.int (0 : Int32)), .val (.int (Int32.ofNat n))] [])) _
    refine XS.iloadN X0.here hx rfl (hb hby own_d27_4) rfl ?_
    show Steps p.tables e below (s₁.setTop (mkF m 5 #[.val (.ref a1), .val (.int (0 : Int32)), .val (.int (Int32.ofNat n))] [(.int (Int32.ofNat n))])) _
    refine XS.aloadN X0.here hx rfl (hb hby own_d27_5) rfl rfl ?_
    show Steps p.tables e below (s₁.setTop (mkF m 6 #[.val (.ref a1), .val (.int (0 : Int32)), .val (.int (Int32.ofNat n))] [(.ref a1), (.int (Int32.ofNat n))])) _
    exact k_
  refine own_go (own_len X0 hx hZ e0 V1 (g := (mkF m 6 #[.val (.ref a1), .val (.int (0 : Int32)), .val (.int (Int32.ofNat n))] [(.ref a1), (.int (Int32.ofNat n))])) rfl rfl (hb hby own_d27_6)) ?_
  show own_Rch p e below _ (s₁.setTop (mkF m 7 #[.val (.ref a1), .val (.int (0 : Int32)), .val (.int (Int32.ofNat n))] [(.int (Int32.ofNat ws.length)), (.int (Int32.ofNat n))]))
  refine own_go (S' := (s₁.setTop (mkF m 13 #[.val (.ref a1), .val (.int (0 : Int32)), .val (.int (Int32.ofNat n))] [(.int (Int32.ofNat n)), (.int (0 : Int32)), (.ref a1)]))) (fun t_ k_ => ?_) ?_
  · refine XS.icmpNo X0.here hx rfl (hb hby own_d27_7) rfl (feq (fun q => by rw [own_injN (by omega) (by omega)] at q; omega)).1 ?_
    show Steps p.tables e below (s₁.setTop (mkF m 10 #[.val (.ref a1), .val (.int (0 : Int32)), .val (.int (Int32.ofNat n))] [])) _
    refine XS.aloadN X0.here hx rfl (hb hby own_d27_10) rfl rfl ?_
    show Steps p.tables e below (s₁.setTop (mkF m 11 #[.val (.ref a1), .val (.int (0 : Int32)), .val (.int (Int32.ofNat n))] [(.ref a1)])) _
    refine XS.iloadN X0.here hx rfl (hb hby own_d27_11) rfl ?_
    show Steps p.tables e below (s₁.setTop (mkF m 12 #[.val (.ref a1), .val (.int (0 : Int32)), .val (.int (Int32.ofNat n))] [(.int (0 : Int32)), (.ref a1)])) _
    refine XS.iloadN X0.here hx rfl (hb hby own_d27_12) rfl ?_
    show Steps p.tables e below (s₁.setTop (mkF m 13 #[.val (.ref a1), .val (.int (0 : Int32)), .val (.int (Int32.ofNat n))] [(.int (Int32.ofNat n)), (.int (0 : Int32)), (.ref a1)])) _
    exact k_
  obtain ⟨_, T101, L101, X101, ⟨bb, kk, rfl, N101q, q101⟩, st101⟩ := own_callS X0 hx hZ (y := (⟨"java/util/Arrays", "copyOfRangeByte", "([BII)[B"⟩ : MethodName)) hown (hw _ (List.mem_of_getElem? (i := 164) rfl)) (hw _ (List.mem_of_getElem? (i := 165) rfl)) (hw _ (List.mem_of_getElem? (i := 162) rfl)) (hw _ (List.mem_of_getElem? (i := 166) rfl)) (by decide) (own_c28 l Z a0 hw [] a1 k1 ws n (by omega) hn20 hw5 h0 n0 O V1) e0 (W := 0) (by decide) (by decide) (g := (mkF m 13 #[.val (.ref a1), .val (.int (0 : Int32)), .val (.int (Int32.ofNat n))] [(.int (Int32.ofNat n)), (.int (0 : Int32)), (.ref a1)])) rfl (by rw [hml]; rfl) (argsL := [(.ref a1), (.int (0 : Int32)), (.int (Int32.ofNat n))]) (rest := []) (lenOf own_pd14 rfl) rfl rfl rfl (hb hby own_d27_13) (by decide) (by decide)
  have N101 := Fr.app N0 N101q
  refine own_go st101 ?_
  show own_Rch p e below _ (T101.setTop (mkF m 16 #[.val (.ref a1), .val (.int (0 : Int32)), .val (.int (Int32.ofNat n))] [(.ref bb)]))
  refine own_retA X101 hx Bd.returns Bd.notSynchronized rfl rfl rfl (hb hby own_d27_16) (by decide) (by decide) ?_
  exact ⟨bb, kk, rfl, N101, q101⟩

theorem own_pd15 : parseMethodDescriptor "()[B" = some ⟨[], some (.array .byte)⟩ := by decide +kernel
theorem own_d23_0 : decode jdk_42_method_150_code 0 = .ok (.aload_n 0, 1) := by decide +kernel
theorem own_d23_1 : decode jdk_42_method_150_code 1 = .ok (.invokespecial 1, 3) := by decide +kernel
theorem own_d23_4 : decode jdk_42_method_150_code 4 = .ok (.aload_n 1, 1) := by decide +kernel
theorem own_d23_5 : decode jdk_42_method_150_code 5 = .ok (.invokevirtual 552, 3) := by decide +kernel
theorem own_d23_8 : decode jdk_42_method_150_code 8 = .ok (.astore_n 3, 1) := by decide +kernel
theorem own_d23_9 : decode jdk_42_method_150_code 9 = .ok (.aload_n 1, 1) := by decide +kernel
theorem own_d23_10 : decode jdk_42_method_150_code 10 = .ok (.invokevirtual 549, 3) := by decide +kernel
theorem own_d23_13 : decode jdk_42_method_150_code 13 = .ok (.istore 4, 2) := by decide +kernel
theorem own_d23_15 : decode jdk_42_method_150_code 15 = .ok (.aload_n 1, 1) := by decide +kernel
theorem own_d23_16 : decode jdk_42_method_150_code 16 = .ok (.invokevirtual 1047, 3) := by decide +kernel
theorem own_d23_19 : decode jdk_42_method_150_code 19 = .ok (.ifCond .eq 22, 3) := by decide +kernel
theorem own_d23_22 : decode jdk_42_method_150_code 22 = .ok (.aload_n 0, 1) := by decide +kernel
theorem own_d23_23 : decode jdk_42_method_150_code 23 = .ok (.iconst 0, 1) := by decide +kernel
theorem own_d23_24 : decode jdk_42_method_150_code 24 = .ok (.putfield 15, 3) := by decide +kernel
theorem own_d23_27 : decode jdk_42_method_150_code 27 = .ok (.aload_n 0, 1) := by decide +kernel
theorem own_d23_28 : decode jdk_42_method_150_code 28 = .ok (.aload_n 3, 1) := by decide +kernel
theorem own_d23_29 : decode jdk_42_method_150_code 29 = .ok (.iconst 0, 1) := by decide +kernel
theorem own_d23_30 : decode jdk_42_method_150_code 30 = .ok (.iload 4, 2) := by decide +kernel
theorem own_d23_32 : decode jdk_42_method_150_code 32 = .ok (.invokestatic 54, 3) := by decide +kernel
theorem own_d23_35 : decode jdk_42_method_150_code 35 = .ok (.putfield 9, 3) := by decide +kernel
theorem own_d23_38 : decode jdk_42_method_150_code 38 = .ok (.goto 59, 3) := by decide +kernel
theorem own_d23_97 : decode jdk_42_method_150_code 97 = .ok (.return_, 1) := by decide +kernel
theorem own_c23_ef (m : MethodId) (x0 : Addr) (x1 : Addr) : entryFrame m #[(.ref x0), (.ref x1), .null] 5 = mkF m 0 #[.val (.ref x0), .val (.ref x1), .val .null, .unset, .unset] [] := by first | (simp [entryFrame, mkF, argsToLocals, Value.category]; done) | rfl
set_option maxRecDepth 65536 in
set_option maxHeartbeats 40000000 in
theorem own_c23 (l : Launch) (Z : State) (a0 : Array Value) (hw : ∀ d ∈ tables_1, d.before a0 Z = true) (wsC : List Jvm.Cond) (a1 a2 vb : Addr) (kb : ClassId) (ws : List Int32) (n : Nat) (hn : n < ws.length) (hn20 : n ≤ 20) (hw5 : ws.length ≤ 500) (cz : Int32) (CS : Sta Z Z.heap "java/lang/String" "COMPACT_STRINGS" "Z" (.int cz)) (hcz : ¬ cz = (0 : Int32)) (h0 : Heap) (n0 : Nat) (O : Old Z n0 h0) (B1 : Fld Z h0 a2 "java/lang/AbstractStringBuilder" "value" "[B" (.ref vb)) (B2 : Fld Z h0 a2 "java/lang/AbstractStringBuilder" "coder" "B" (.int 0)) (B3 : Fld Z h0 a2 "java/lang/AbstractStringBuilder" "count" "I" (.int (Int32.ofNat n))) (EB : Exa Z h0 a2 "java/lang/StringBuilder") (VB : Arv Z h0 vb kb .byte (Int32.ofNat ws.length) (ws.map Value.int) (.int 0)) (C1 : Fld Z h0 a1 "java/lang/String" "coder" "B" (.int 0)) (F1 : Fld Z h0 a1 "java/lang/String" "value" "[B" .null) (E1 : Exa Z h0 a1 "java/lang/String") (g1 : n0 ≤ a1) :
    own_Ctr l Z (⟨"java/lang/String", "<init>", "(Ljava/lang/AbstractStringBuilder;Ljava/lang/Void;)V"⟩ : MethodName) jdk_42_method_150_code 5 none wsC ({ frames := 3, cells := 1, slots := 20, locals := 70 } : Room) h0 #[(.ref a1), (.ref a2), .null] (fun v h L => ∃ b1 k1, v = none ∧ Fr n0 L ∧ Keep h0 h [a1] ∧ h0.size ≤ b1 ∧ Exa Z h a1 "java/lang/String" ∧ Fld Z h a1 "java/lang/String" "coder" "B" (.int 0) ∧ Fld Z h a1 "java/lang/String" "value" "[B" (.ref b1) ∧ Arv Z h b1 k1 .byte (Int32.ofNat n) ((ws.take n).map Value.int) (.int 0)) := by
  refine own_ctr (plainFor_of_name own_pn0) ?_
  intro p e s m below meth c s₁ Bd hml0 hx hby hZ hown0 X0 e0
  have hml : c.maxLocals = 5 := hml0
  have hown : s.vm.findClass "java/lang/String" = some m.cls := hown0
  have hnm := (name_of_methodNamed Bd.named Bd.method).1
  have N0 := Fr.nil n0
  refine own_cast (own_c23_ef m a1 a2) ?_
  refine own_go (S' := (s₁.setTop (mkF m 1 #[.val (.ref a1), .val (.ref a2), .val .null, .unset, .unset] [(.ref a1)]))) (fun t_ k_ => ?_) ?_
  · refine XS.aloadN X0.here hx rfl (hb hby own_d23_0) rfl rfl ?_
    show Steps p.tables e below (s₁.setTop (mkF m 1 #[.val (.ref a1), .val (.ref a2), .val .null, .unset, .unset] [(.ref a1)])) _
    exact k_
  obtain ⟨T101, X101, e101, st101⟩ := initO X0 hx hZ hown (hw _ (List.mem_of_getElem? (i := 145) rfl)) (hw _ (List.mem_of_getElem? (i := 46) rfl)) (hw _ (List.mem_of_getElem? (i := 47) rfl)) e0 (g := (mkF m 1 #[.val (.ref a1), .val (.ref a2), .val .null, .unset, .unset] [(.ref a1)])) rfl (by rw [hml]; rfl) rfl (hb hby own_d23_1) (by decide) (W := 0) (by show 2 * 0 + _ ≤ _; exact Nat.le_of_eq rfl) (by decide)
  refine own_go st101 ?_
  show own_Rch p e below _ (T101.setTop (mkF m 4 #[.val (.ref a1), .val (.ref a2), .val .null, .unset, .unset] []))
  refine own_go (S' := (T101.setTop (mkF m 5 #[.val (.ref a1), .val (.ref a2), .val .null, .unset, .unset] [(.ref a2)]))) (fun t_ k_ => ?_) ?_
  · refine XS.aloadN X101.here hx rfl (hb hby own_d23_4) rfl rfl ?_
    show Steps p.tables e below (T101.setTop (mkF m 5 #[.val (.ref a1), .val (.ref a2), .val .null, .unset, .unset] [(.ref a2)])) _
    exact k_
  obtain ⟨_, T102, L102, X102, ⟨rfl, N102q, k102⟩, st102⟩ := own_callV X101 hx hZ (y := (⟨"java/lang/AbstractStringBuilder", "getValue", "()[B"⟩ : MethodName)) (z := (⟨"java/lang/AbstractStringBuilder", "getValue", "()[B"⟩ : MethodName)) (C := "java/lang/StringBuilder") hown (hw _ (List.mem_of_getElem? (i := 146) rfl)) (hw _ (List.mem_of_getElem? (i := 147) rfl)) (notFace_of_selects (args := #[]) (mvT hZ (hw _ (List.mem_of_getElem? (i := 149) rfl)))) (hw _ (List.mem_of_getElem? (i := 149) rfl)) (hw _ (List.mem_of_getElem? (i := 148) rfl)) (hw _ (List.mem_of_getElem? (i := 43) rfl)) (hw _ (List.mem_of_getElem? (i := 150) rfl)) (by decide) (own_c24 l Z a0 hw [] a2 vb h0 n0 O B1) e101 EB (W := 0) (by decide) (by decide) (g := (mkF m 5 #[.val (.ref a1), .val (.ref a2), .val .null, .unset, .unset] [(.ref a2)])) rfl (by rw [hml]; rfl) (argsL := []) (rest := []) (lenOf own_pd15 rfl) rfl rfl rfl (hb hby own_d23_5) (by decide) (by decide)
  have N102 := Fr.app N0 N102q
  refine own_go st102 ?_
  show own_Rch p e below _ (T102.setTop (mkF m 8 #[.val (.ref a1), .val (.ref a2), .val .null, .unset, .unset] [(.ref vb)]))
  have O1 := O
  rw [← k102] at O1 B1 B2 B3 EB VB C1 F1 E1
  refine own_go (S' := (T102.setTop (mkF m 10 #[.val (.ref a1), .val (.ref a2), .val .null, .val (.ref vb), .unset] [(.ref a2)]))) (fun t_ k_ => ?_) ?_
  · refine XS.astoreN X102.here hx rfl (hb hby own_d23_8) rfl rfl (l' := #[.val (.ref a1), .val (.ref a2), .val .null, .val (.ref vb), .unset]) rfl ?_
    show Steps p.tables e below (T102.setTop (mkF m 9 #[.val (.ref a1), .val (.ref a2), .val .null, .val (.ref vb), .unset] [])) _
    refine XS.aloadN X102.here hx rfl (hb hby own_d23_9) rfl rfl ?_
    show Steps p.tables e below (T102.setTop (mkF m 10 #[.val (.ref a1), .val (.ref a2), .val .null, .val (.ref vb), .unset] [(.ref a2)])) _
    exact k_
  obtain ⟨_, T103, L103, X103, ⟨rfl, N103q, k103⟩, st103⟩ := own_callV X102 hx hZ (y := (⟨"java/lang/AbstractStringBuilder", "length", "()I"⟩ : MethodName)) (z := (⟨"java/lang/StringBuilder", "length", "()I"⟩ : MethodName)) (C := "java/lang/StringBuilder") hown (hw _ (List.mem_of_getElem? (i := 151) rfl)) (hw _ (List.mem_of_getElem? (i := 152) rfl)) (own_nfOf (args := #[]) (mvT hZ (hw _ (List.mem_of_getElem? (i := 152) rfl))) (mvT hZ (hw _ (List.mem_of_getElem? (i := 78) rfl))) rfl) (hw _ (List.mem_of_getElem? (i := 154) rfl)) (hw _ (List.mem_of_getElem? (i := 155) rfl)) (hw _ (List.mem_of_getElem? (i := 35) rfl)) (hw _ (List.mem_of_getElem? (i := 156) rfl)) (by decide) (own_c25 l Z a0 hw [] a2 n T102.heap n0 O1 B3 EB) rfl EB (W := 0) (by decide) (by decide) (g := (mkF m 10 #[.val (.ref a1), .val (.ref a2), .val .null, .val (.ref vb), .unset] [(.ref a2)])) rfl (by rw [hml]; rfl) (argsL := []) (rest := []) (lenOf own_pd5 rfl) rfl rfl rfl (hb hby own_d23_10) (by decide) (by decide)
  have N103 := Fr.app N102 N103q
  refine own_go st103 ?_
  show own_Rch p e below _ (T103.setTop (mkF m 13 #[.val (.ref a1), .val (.ref a2), .val .null, .val (.ref vb), .unset] [(.int (Int32.ofNat n))]))
  rw [← k103] at O1 B1 B2 B3 EB VB C1 F1 E1
  refine own_go (S' := (T103.setTop (mkF m 16 #[.val (.ref a1), .val (.ref a2), .val .null, .val (.ref vb), .val (.int (Int32.ofNat n))] [(.ref a2)]))) (fun t_ k_ => ?_) ?_
  · refine XS.istore X103.here hx rfl (hb hby own_d23_13) rfl (l' := #[.val (.ref a1), .val (.ref a2), .val .null, .val (.ref vb), .val (.int (Int32.ofNat n))]) rfl ?_
    show Steps p.tables e below (T103.setTop (mkF m 15 #[.val (.ref a1), .val (.ref a2), .val .null, .val (.ref vb), .val (.int (Int32.ofNat n))] [])) _
    refine XS.aloadN X103.here hx rfl (hb hby own_d23_15) rfl rfl ?_
    show Steps p.tables e below (T103.setTop (mkF m 16 #[.val (.ref a1), .val (.ref a2), .val .null, .val (.ref vb), .val (.int (Int32.ofNat n))] [(.ref a2)])) _
    exact k_
  obtain ⟨_, T104, L104, X104, ⟨rfl, N104q, k104⟩, st104⟩ := own_callV X103 hx hZ (y := (⟨"java/lang/AbstractStringBuilder", "isLatin1", "()Z"⟩ : MethodName)) (z := (⟨"java/lang/AbstractStringBuilder", "isLatin1", "()Z"⟩ : MethodName)) (C := "java/lang/StringBuilder") hown (hw _ (List.mem_of_getElem? (i := 159) rfl)) (hw _ (List.mem_of_getElem? (i := 124) rfl)) (notFace_of_selects (args := #[]) (mvT hZ (hw _ (List.mem_of_getElem? (i := 126) rfl)))) (hw _ (List.mem_of_getElem? (i := 126) rfl)) (hw _ (List.mem_of_getElem? (i := 125) rfl)) (hw _ (List.mem_of_getElem? (i := 43) rfl)) (hw _ (List.mem_of_getElem? (i := 127) rfl)) (by decide) (own_c19 l Z a0 hw [] a2 cz CS hcz T103.heap n0 O1 B2) rfl EB (W := 0) (by decide) (by decide) (g := (mkF m 16 #[.val (.ref a1), .val (.ref a2), .val .null, .val (.ref vb), .val (.int (Int32.ofNat n))] [(.ref a2)])) rfl (by rw [hml]; rfl) (argsL := []) (rest := []) (lenOf own_pd9 rfl) rfl rfl rfl (hb hby own_d23_16) (by decide) (by decide)
  have N104 := Fr.app N103 N104q
  refine own_go st104 ?_
  show own_Rch p e below _ (T104.setTop (mkF m 19 #[.val (.ref a1), .val (.ref a2), .val .null, .val (.ref vb), .val (.int (Int32.ofNat n))] [(.int (1 : Int32))]))
  rw [← k104] at O1 B1 B2 B3 EB VB C1 F1 E1
  refine own_go (S' := (T104.setTop (mkF m 24 #[.val (.ref a1), .val (.ref a2), .val .null, .val (.ref vb), .val (.int (Int32.ofNat n))] [(.int (0 : Int32)), (.ref a1)]))) (fun t_ k_ => ?_) ?_
  · refine XS.ifNo X104.here hx rfl (hb hby own_d23_19) rfl ((if0 _ _).trans (feq (by decide)).1) ?_
    show Steps p.tables e below (T104.setTop (mkF m 22 #[.val (.ref a1), .val (.ref a2), .val .null, .val (.ref vb), .val (.int (Int32.ofNat n))] [])) _
    refine XS.aloadN X104.here hx rfl (hb hby own_d23_22) rfl rfl ?_
    show Steps p.tables e below (T104.setTop (mkF m 23 #[.val (.ref a1), .val (.ref a2), .val .null, .val (.ref vb), .val (.int (Int32.ofNat n))] [(.ref a1)])) _
    refine XS.iconst X104.here hx rfl (hb hby own_d23_23) ?_
    show Steps p.tables e below (T104.setTop (mkF m 24 #[.val (.ref a1), .val (.ref a2), .val .null, .val (.ref vb), .val (.int (Int32.ofNat n))] [(.int (0 : Int32)), (.ref a1)])) _
    exact k_
  obtain ⟨T105, h105, X105, e105, W105, st105⟩ := putFN X104 hx hZ hown (hw _ (List.mem_of_getElem? (i := 27) rfl)) Via.refl rfl C1 E1 (Or.inr ⟨(hw _ (List.mem_of_getElem? (i := 8) rfl)), rfl, hnm⟩) (hw _ (List.mem_of_getElem? (i := 5) rfl)) (ty := .byte) (v' := (.int (0 : Int32))) (by decide) rfl (by first | exact fits_nar_byte _ | decide | rfl) (g := (mkF m 24 #[.val (.ref a1), .val (.ref a2), .val .null, .val (.ref vb), .val (.int (Int32.ofNat n))] [(.int (0 : Int32)), (.ref a1)])) rfl rfl (hb hby own_d23_24)
  refine own_go st105 ?_
  have N105 := Fr.snoc X105 N104 g1
  show own_Rch p e below _ (T105.setTop (mkF m 27 #[.val (.ref a1), .val (.ref a2), .val .null, .val (.ref vb), .val (.int (Int32.ofNat n))] []))
  have C2 := C1.same W105
  have F2 := F1.other W105 (Or.inr (slot_ne (Or.inr (hw _ (List.mem_of_getElem? (i := 7) rfl))) (Or.inr (hw _ (List.mem_of_getElem? (i := 8) rfl))) (by decide) (t := (.array .byte)) (t' := .byte) (by decide) (by decide)))
  have E2 := E1.wr W105
  have na : vb ≠ a1 := own_neAX VB E1 (hw _ (List.mem_of_getElem? (i := 5) rfl))
  have VB2 := VB.other W105 na
  have O2 := O1.wr W105 g1
  refine own_go (S' := (T105.setTop (mkF m 32 #[.val (.ref a1), .val (.ref a2), .val .null, .val (.ref vb), .val (.int (Int32.ofNat n))] [(.int (Int32.ofNat n)), (.int (0 : Int32)), (.ref vb), (.ref a1)]))) (fun t_ k_ => ?_) ?_
  · refine XS.aloadN X105.here hx rfl (hb hby own_d23_27) rfl rfl ?_
    show Steps p.tables e below (T105.setTop (mkF m 28 #[.val (.ref a1), .val (.ref a2), .val .null, .val (.ref vb), .val (.int (Int32.ofNat n))] [(.ref a1)])) _
    refine XS.aloadN X105.here hx rfl (hb hby own_d23_28) rfl rfl ?_
    show Steps p.tables e below (T105.setTop (mkF m 29 #[.val (.ref a1), .val (.ref a2), .val .null, .val (.ref vb), .val (.int (Int32.ofNat n))] [(.ref vb), (.ref a1)])) _
    refine XS.iconst X105.here hx rfl (hb hby own_d23_29) ?_
    show Steps p.tables e below (T105.setTop (mkF m 30 #[.val (.ref a1), .val (.ref a2), .val .null, .val (.ref vb), .val (.int (Int32.ofNat n))] [(.int (0 : Int32)), (.ref vb), (.ref a1)])) _
    refine XS.iload X105.here hx rfl (hb hby own_d23_30) rfl ?_
    show Steps p.tables e below (T105.setTop (mkF m 32 #[.val (.ref a1), .val (.ref a2), .val .null, .val (.ref vb), .val (.int (Int32.ofNat n))] [(.int (Int32.ofNat n)), (.int (0 : Int32)), (.ref vb), (.ref a1)])) _
    exact k_
  obtain ⟨_, T106, L106, X106, ⟨bb, kk, rfl, N106q, K106, z106, V106⟩, st106⟩ := own_callS X105 hx hZ (y := (⟨"java/util/Arrays", "copyOfRange", "([BII)[B"⟩ : MethodName)) hown (hw _ (List.mem_of_getElem? (i := 160) rfl)) (hw _ (List.mem_of_getElem? (i := 161) rfl)) (hw _ (List.mem_of_getElem? (i := 162) rfl)) (hw _ (List.mem_of_getElem? (i := 163) rfl)) (by decide) (own_c27 l Z a0 hw [] vb kb ws n hn hn20 hw5 h105 n0 O2 VB2) e105 (W := 1) (by decide) (by decide) (g := (mkF m 32 #[.val (.ref a1), .val (.ref a2), .val .null, .val (.ref vb), .val (.int (Int32.ofNat n))] [(.int (Int32.ofNat n)), (.int (0 : Int32)), (.ref vb), (.ref a1)])) rfl (by rw [hml]; rfl) (argsL := [(.ref vb), (.int (0 : Int32)), (.int (Int32.ofNat n))]) (rest := [(.ref a1)]) (lenOf own_pd14 rfl) rfl rfl rfl (hb hby own_d23_32) (by decide) (by decide)
  have N106 := Fr.app N105 N106q
  refine own_go st106 ?_
  show own_Rch p e below _ (T106.setTop (mkF m 35 #[.val (.ref a1), .val (.ref a2), .val .null, .val (.ref vb), .val (.int (Int32.ofNat n))] [(.ref bb), (.ref a1)]))
  obtain ⟨T107, h107, X107, e107, W107, st107⟩ := putF X106 hx hZ hown (host := "") (Or.inl (hw _ (List.mem_of_getElem? (i := 28) rfl))) Via.refl rfl (F2.keep K106 nin0) (E2.keep K106) (Or.inr ⟨(hw _ (List.mem_of_getElem? (i := 7) rfl)), rfl, hnm⟩) (hw _ (List.mem_of_getElem? (i := 5) rfl)) (ty := (.array .byte)) (by decide) rfl rfl (g := (mkF m 35 #[.val (.ref a1), .val (.ref a2), .val .null, .val (.ref vb), .val (.int (Int32.ofNat n))] [(.ref bb), (.ref a1)])) rfl rfl (hb hby own_d23_35)
  refine own_go st107 ?_
  have N107 := Fr.snoc X107 N106 g1
  show own_Rch p e below _ (T107.setTop (mkF m 38 #[.val (.ref a1), .val (.ref a2), .val .null, .val (.ref vb), .val (.int (Int32.ofNat n))] []))
  refine own_go (S' := (T107.setTop (mkF m 97 #[.val (.ref a1), .val (.ref a2), .val .null, .val (.ref vb), .val (.int (Int32.ofNat n))] []))) (fun t_ k_ => ?_) ?_
  · refine XS.goto X107.here hx rfl (pc0 := 38) (pc' := 97) rfl (hb hby own_d23_38) (by decide) (by decide) ?_
    show Steps p.tables e below (T107.setTop (mkF m 97 #[.val (.ref a1), .val (.ref a2), .val .null, .val (.ref vb), .val (.int (Int32.ofNat n))] [])) _
    exact k_
  have nb : bb ≠ a1 := Nat.ne_of_gt (Nat.lt_of_lt_of_le E2.lt z106)
  have k0_ : T104.heap = h0 := by rw [k104, k103, k102]
  have KA : Keep h0 h105 [a1] := k0_ ▸ (Keep.refl _ [a1]).wr W105 (Or.inl (List.mem_of_getElem? (i := 0) rfl))
  have sz : h0.size ≤ h105.size := KA.1
  refine own_ret0 X107 hx Bd.returns Bd.notSynchronized (hb hby own_d23_97) (by decide) (by decide) ?_
  try rw [e107]
  exact ⟨bb, kk, rfl, N107, (KA.trans K106 (fun x hx => by cases hx)).wr W107 (Or.inl (List.mem_of_getElem? (i := 0) rfl)), Nat.le_trans sz z106, (E2.keep K106).wr W107, (C2.keep K106 nin0).other W107 (Or.inr (slot_ne (Or.inr (hw _ (List.mem_of_getElem? (i := 8) rfl))) (Or.inr (hw _ (List.mem_of_getElem? (i := 7) rfl))) (by decide) (t := .byte) (t' := (.array .byte)) (by decide) (by decide))), (F2.keep K106 nin0).same W107, V106.other W107 nb⟩
theorem own_pd16 : parseMethodDescriptor "(Ljava/lang/AbstractStringBuilder;Ljava/lang/Void;)V" = some ⟨[(.object "java/lang/AbstractStringBuilder"), (.object "java/lang/Void")], none⟩ := by decide +kernel
theorem own_d22_0 : decode jdk_42_method_53_code 0 = .ok (.aload_n 0, 1) := by decide +kernel
theorem own_d22_1 : decode jdk_42_method_53_code 1 = .ok (.aload_n 1, 1) := by decide +kernel
theorem own_d22_2 : decode jdk_42_method_53_code 2 = .ok (.aconst_null, 1) := by decide +kernel
theorem own_d22_3 : decode jdk_42_method_53_code 3 = .ok (.invokespecial 489, 3) := by decide +kernel
theorem own_d22_6 : decode jdk_42_method_53_code 6 = .ok (.return_, 1) := by decide +kernel
theorem own_c22_ef (m : MethodId) (x0 : Addr) (x1 : Addr) : entryFrame m #[(.ref x0), (.ref x1)] 2 = mkF m 0 #[.val (.ref x0), .val (.ref x1)] [] := by first | (simp [entryFrame, mkF, argsToLocals, Value.category]; done) | rfl
set_option maxRecDepth 65536 in
set_option maxHeartbeats 40000000 in
theorem own_c22 (l : Launch) (Z : State) (a0 : Array Value) (hw : ∀ d ∈ tables_1, d.before a0 Z = true) (wsC : List Jvm.Cond) (a1 a2 vb : Addr) (kb : ClassId) (ws : List Int32) (n : Nat) (hn : n < ws.length) (hn20 : n ≤ 20) (hw5 : ws.length ≤ 500) (cz : Int32) (CS : Sta Z Z.heap "java/lang/String" "COMPACT_STRINGS" "Z" (.int cz)) (hcz : ¬ cz = (0 : Int32)) (h0 : Heap) (n0 : Nat) (O : Old Z n0 h0) (B1 : Fld Z h0 a2 "java/lang/AbstractStringBuilder" "value" "[B" (.ref vb)) (B2 : Fld Z h0 a2 "java/lang/AbstractStringBuilder" "coder" "B" (.int 0)) (B3 : Fld Z h0 a2 "java/lang/AbstractStringBuilder" "count" "I" (.int (Int32.ofNat n))) (EB : Exa Z h0 a2 "java/lang/StringBuilder") (VB : Arv Z h0 vb kb .byte (Int32.ofNat ws.length) (ws.map Value.int) (.int 0)) (C1 : Fld Z h0 a1 "java/lang/String" "coder" "B" (.int 0)) (F1 : Fld Z h0 a1 "java/lang/String" "value" "[B" .null) (E1 : Exa Z h0 a1 "java/lang/String") (g1 : n0 ≤ a1) :
    own_Ctr l Z (⟨"java/lang/String", "<init>", "(Ljava/lang/StringBuilder;)V"⟩ : MethodName) jdk_42_method_53_code 2 none wsC ({ frames := 4, cells := 1, slots := 20, locals := 90 } : Room) h0 #[(.ref a1), (.ref a2)] (fun v h L => ∃ b1 k1, v = none ∧ Fr n0 L ∧ Keep h0 h [a1] ∧ h0.size ≤ b1 ∧ Exa Z h a1 "java/lang/String" ∧ Fld Z h a1 "java/lang/String" "coder" "B" (.int 0) ∧ Fld Z h a1 "java/lang/String" "value" "[B" (.ref b1) ∧ Arv Z h b1 k1 .byte (Int32.ofNat n) ((ws.take n).map Value.int) (.int 0)) := by
  refine own_ctr (plainFor_of_name own_pn0) ?_
  intro p e s m below meth c s₁ Bd hml0 hx hby hZ hown0 X0 e0
  have hml : c.maxLocals = 2 := hml0
  have hown : s.vm.findClass "java/lang/String" = some m.cls := hown0
  have hnm := (name_of_methodNamed Bd.named Bd.method).1
  have N0 := Fr.nil n0
  refine own_cast (own_c22_ef m a1 a2) ?_
  refine own_go (S' := (s₁.setTop (mkF m 3 #[.val (.ref a1), .val (.ref a2)] [.null, (.ref a2), (.ref a1)]))) (fun t_ k_ => ?_) ?_
  · refine XS.aloadN X0.here hx rfl (hb hby own_d22_0) rfl rfl ?_
    show Steps p.tables e below (s₁.setTop (mkF m 1 #[.val (.ref a1), .val (.ref a2)] [(.ref a1)])) _
    refine XS.aloadN X0.here hx rfl (hb hby own_d22_1) rfl rfl ?_
    show Steps p.tables e below (s₁.setTop (mkF m 2 #[.val (.ref a1), .val (.ref a2)] [(.ref a2), (.ref a1)])) _
    refine XS.aconstNull X0.here hx rfl (hb hby own_d22_2) ?_
    show Steps p.tables e below (s₁.setTop (mkF m 3 #[.val (.ref a1), .val (.ref a2)] [.null, (.ref a2), (.ref a1)])) _
    exact k_
  obtain ⟨_, T101, L101, X101, ⟨bb, kk, rfl, N101q, q101⟩, st101⟩ := own_callC X0 hx hZ (y := (⟨"java/lang/String", "<init>", "(Ljava/lang/AbstractStringBuilder;Ljava/lang/Void;)V"⟩ : MethodName)) rfl hown (hw _ (List.mem_of_getElem? (i := 142) rfl)) (hw _ (List.mem_of_getElem? (i := 143) rfl)) (hw _ (List.mem_of_getElem? (i := 4) rfl)) (hw _ (List.mem_of_getElem? (i := 144) rfl)) (by decide) (own_c23 l Z a0 hw [] a1 a2 vb kb ws n hn hn20 hw5 cz CS hcz h0 n0 O B1 B2 B3 EB VB C1 F1 E1 g1) e0 (a := a1) (W := 0) (by decide) (by decide) (g := (mkF m 3 #[.val (.ref a1), .val (.ref a2)] [.null, (.ref a2), (.ref a1)])) rfl (by rw [hml]; rfl) (argsL := [(.ref a2), .null]) (rest := []) (lenOf own_pd16 rfl) rfl rfl rfl (hb hby own_d22_3) (by decide) (by decide)
  have N101 := Fr.app N0 N101q
  refine own_go st101 ?_
  show own_Rch p e below _ (T101.setTop (mkF m 6 #[.val (.ref a1), .val (.ref a2)] []))
  refine own_ret0 X101 hx Bd.returns Bd.notSynchronized (hb hby own_d22_6) (by decide) (by decide) ?_
  exact ⟨bb, kk, rfl, N101, q101⟩
theorem own_pd17 : parseMethodDescriptor "(Ljava/lang/StringBuilder;)V" = some ⟨[(.object "java/lang/StringBuilder")], none⟩ := by decide +kernel
theorem own_d21_0 : decode jdk_67_method_42_code 0 = .ok (.new 18, 3) := by decide +kernel
theorem own_d21_3 : decode jdk_67_method_42_code 3 = .ok (.dup, 1) := by decide +kernel
theorem own_d21_4 : decode jdk_67_method_42_code 4 = .ok (.aload_n 0, 1) := by decide +kernel
theorem own_d21_5 : decode jdk_67_method_42_code 5 = .ok (.invokespecial 137, 3) := by decide +kernel
theorem own_d21_8 : decode jdk_67_method_42_code 8 = .ok (.areturn, 1) := by decide +kernel
theorem own_c21_ef (m : MethodId) (x0 : Addr) : entryFrame m #[(.ref x0)] 1 = mkF m 0 #[.val (.ref x0)] [] := by first | (simp [entryFrame, mkF, argsToLocals, Value.category]; done) | rfl
set_option maxRecDepth 65536 in
set_option maxHeartbeats 40000000 in
theorem own_c21 (l : Launch) (Z : State) (a0 : Array Value) (hw : ∀ d ∈ tables_1, d.before a0 Z = true) (wsC : List Jvm.Cond) (a2 vb : Addr) (kb : ClassId) (ws : List Int32) (n : Nat) (hn : n < ws.length) (hn20 : n ≤ 20) (hw5 : ws.length ≤ 500) (cz : Int32) (CS : Sta Z Z.heap "java/lang/String" "COMPACT_STRINGS" "Z" (.int cz)) (hcz : ¬ cz = (0 : Int32)) (h0 : Heap) (n0 : Nat) (O : Old Z n0 h0) (B1 : Fld Z h0 a2 "java/lang/AbstractStringBuilder" "value" "[B" (.ref vb)) (B2 : Fld Z h0 a2 "java/lang/AbstractStringBuilder" "coder" "B" (.int 0)) (B3 : Fld Z h0 a2 "java/lang/AbstractStringBuilder" "count" "I" (.int (Int32.ofNat n))) (EB : Exa Z h0 a2 "java/lang/StringBuilder") (VB : Arv Z h0 vb kb .byte (Int32.ofNat ws.length) (ws.map Value.int) (.int 0)) :
    own_Ctr l Z (⟨"java/lang/StringBuilder", "toString", "()Ljava/lang/String;"⟩ : MethodName) jdk_67_method_42_code 1 (some (.object "java/lang/String")) wsC ({ frames := 5, cells := 2, slots := 24, locals := 110 } : Room) h0 #[(.ref a2)] (fun v h L => ∃ a1 b1 k1, v = some (.ref a1) ∧ Fr n0 L ∧ Keep h0 h [] ∧ h0.size ≤ a1 ∧ h0.size ≤ b1 ∧ Exa Z h a1 "java/lang/String" ∧ Fld Z h a1 "java/lang/String" "coder" "B" (.int 0) ∧ Fld Z h a1 "java/lang/String" "value" "[B" (.ref b1) ∧ Arv Z h b1 k1 .byte (Int32.ofNat n) ((ws.take n).map Value.int) (.int 0)) := by
  refine own_ctr (plainFor_of_name own_pn3) ?_
  intro p e s m below meth c s₁ Bd hml0 hx hby hZ hown0 X0 e0
  have hml : c.maxLocals = 1 := hml0
  have hown : s.vm.findClass "java/lang/StringBuilder" = some m.cls := hown0
  have hnm := (name_of_methodNamed Bd.named Bd.method).1
  have N0 := Fr.nil n0
  refine own_cast (own_c21_ef m a2) ?_
  obtain ⟨T101, h101, X101, e101, E101, A101, D101, -, st101⟩ := newO X0 hx hZ hown (hw _ (List.mem_of_getElem? (i := 138) rfl)) (hw _ (List.mem_of_getElem? (i := 5) rfl)) (hw _ (List.mem_of_getElem? (i := 4) rfl)) e0 (g := (mkF m 0 #[.val (.ref a2)] [])) rfl (hb hby own_d21_0) (by decide) (by decide)
  obtain ⟨b101, g101⟩ : ∃ z, z = h0.size := ⟨_, rfl⟩
  rw [← g101] at A101 D101 st101
  have gb101 : n0 ≤ b101 := Nat.le_trans (own_oz O) (Nat.le_of_eq g101.symm)
  refine own_go st101 ?_
  show own_Rch p e below _ (T101.setTop (mkF m 3 #[.val (.ref a2)] [(.ref b101)]))
  refine own_go (S' := (T101.setTop (mkF m 5 #[.val (.ref a2)] [(.ref a2), (.ref b101), (.ref b101)]))) (fun t_ k_ => ?_) ?_
  · refine XS.dup X101.here hx rfl (hb hby own_d21_3) rfl rfl ?_
    show Steps p.tables e below (T101.setTop (mkF m 4 #[.val (.ref a2)] [(.ref b101), (.ref b101)])) _
    refine XS.aloadN X101.here hx rfl (hb hby own_d21_4) rfl rfl ?_
    show Steps p.tables e below (T101.setTop (mkF m 5 #[.val (.ref a2)] [(.ref a2), (.ref b101), (.ref b101)])) _
    exact k_
  have D_c : Fld Z h101 b101 "java/lang/String" "coder" "B" (.int 0) := D101 (Or.inr (hw _ (List.mem_of_getElem? (i := 8) rfl))) (ty := .byte) (by decide)
  have D_v : Fld Z h101 b101 "java/lang/String" "value" "[B" .null := D101 (Or.inr (hw _ (List.mem_of_getElem? (i := 7) rfl))) (ty := .array .byte) (by decide)
  obtain ⟨_, T102, L102, X102, ⟨bb, kk, rfl, N102q, K102, z102, E102, q102⟩, st102⟩ := own_callC X101 hx hZ (y := (⟨"java/lang/String", "<init>", "(Ljava/lang/StringBuilder;)V"⟩ : MethodName)) rfl hown (hw _ (List.mem_of_getElem? (i := 139) rfl)) (hw _ (List.mem_of_getElem? (i := 140) rfl)) (hw _ (List.mem_of_getElem? (i := 4) rfl)) (hw _ (List.mem_of_getElem? (i := 141) rfl)) (by decide) (own_c22 l Z a0 hw [] b101 a2 vb kb ws n hn hn20 hw5 cz CS hcz h101 n0 (O.ext E101) (B1.ext E101) (B2.ext E101) (B3.ext E101) (EB.ext E101) (VB.ext E101) D_c D_v A101 gb101) e101 (a := b101) (W := 1) (by decide) (by decide) (g := (mkF m 5 #[.val (.ref a2)] [(.ref a2), (.ref b101), (.ref b101)])) rfl (by rw [hml]; rfl) (argsL := [(.ref a2)]) (rest := [(.ref b101)]) (lenOf own_pd17 rfl) rfl rfl rfl (hb hby own_d21_5) (by decide) (by decide)
  have N102 := Fr.app N0 N102q
  refine own_go st102 ?_
  show own_Rch p e below _ (T102.setTop (mkF m 8 #[.val (.ref a2)] [(.ref b101)]))
  have sb : h0.size ≤ b101 := Nat.le_of_eq g101.symm
  refine own_retA X102 hx Bd.returns Bd.notSynchronized rfl rfl rfl (hb hby own_d21_8) (by decide) (by decide) ?_
  exact ⟨b101, bb, kk, rfl, N102, ((Keep.refl h0 []).ext E101).trans K102 (fun x hx => Or.inr (by cases List.mem_singleton.mp hx; exact sb)), sb, Nat.le_trans E101.1 z102, E102, q102⟩
theorem own_d15_0 : decode prog_4_method_9_code 0 = .ok (.aload_n 0, 1) := by decide +kernel
theorem own_d15_1 : decode prog_4_method_9_code 1 = .ok (.getfield 39, 3) := by decide +kernel
theorem own_d15_4 : decode prog_4_method_9_code 4 = .ok (.aload_n 0, 1) := by decide +kernel
theorem own_d15_5 : decode prog_4_method_9_code 5 = .ok (.getfield 43, 3) := by decide +kernel
theorem own_d15_8 : decode prog_4_method_9_code 8 = .ok (.imul, 1) := by decide +kernel
theorem own_d15_9 : decode prog_4_method_9_code 9 = .ok (.ireturn, 1) := by decide +kernel
theorem own_c15_ef (m : MethodId) (x0 : Addr) : entryFrame m #[(.ref x0)] 1 = mkF m 0 #[.val (.ref x0)] [] := by first | (simp [entryFrame, mkF, argsToLocals, Value.category]; done) | rfl
theorem own_pn6 : plainName "com/example/mooring/mooring/bench/Workload" = true := by first | (simp [plainName, overriddenIn]; done) | decide +kernel
set_option maxRecDepth 65536 in
set_option maxHeartbeats 40000000 in
theorem own_c15 (l : Launch) (Z : State) (a0 : Array Value) (hw : ∀ d ∈ tables_1, d.before a0 Z = true) (wsC : List Jvm.Cond) (a1 : Addr) (dp wd : Int32) (h0 : Heap) (n0 : Nat) (O : Old Z n0 h0) (F2 : Fld Z h0 a1 "com/example/mooring/mooring/bench/Workload" "depth" "I" (.int dp)) (F3 : Fld Z h0 a1 "com/example/mooring/mooring/bench/Workload" "width" "I" (.int wd)) :
    own_Ctr l Z (⟨"com/example/mooring/mooring/bench/Workload", "size", "()I"⟩ : MethodName) prog_4_method_9_code 1 (some .int) wsC ({ frames := 0, cells := 0, slots := 0, locals := 0 } : Room) h0 #[(.ref a1)] (fun v h L => v = some (.int (dp * wd)) ∧ Fr n0 L ∧ h = h0) := by
  refine own_ctr (plainFor_of_name own_pn6) ?_
  intro p e s m below meth c s₁ Bd hml0 hx hby hZ hown0 X0 e0
  have hml : c.maxLocals = 1 := hml0
  have hown : s.vm.findClass "com/example/mooring/mooring/bench/Workload" = some m.cls := hown0
  have hnm := (name_of_methodNamed Bd.named Bd.method).1
  have N0 := Fr.nil n0
  refine own_cast (own_c15_ef m a1) ?_
  refine own_go (S' := (s₁.setTop (mkF m 1 #[.val (.ref a1)] [(.ref a1)]))) (fun t_ k_ => ?_) ?_
  · refine XS.aloadN X0.here hx rfl (hb hby own_d15_0) rfl rfl ?_
    show Steps p.tables e below (s₁.setTop (mkF m 1 #[.val (.ref a1)] [(.ref a1)])) _
    exact k_
  obtain ⟨T101, X101, e101, st101⟩ := getF X0 hx hZ hown (host := "") (Or.inl (hw _ (List.mem_of_getElem? (i := 106) rfl))) Via.refl e0 F2 (g := (mkF m 1 #[.val (.ref a1)] [(.ref a1)])) rfl rfl (hb hby own_d15_1)
  refine own_go st101 ?_
  show own_Rch p e below _ (T101.setTop (mkF m 4 #[.val (.ref a1)] [(.int dp)]))
  refine own_go (S' := (T101.setTop (mkF m 5 #[.val (.ref a1)] [(.ref a1), (.int dp)]))) (fun t_ k_ => ?_) ?_
  · refine XS.aloadN X101.here hx rfl (hb hby own_d15_4) rfl rfl ?_
    show Steps p.tables e below (T101.setTop (mkF m 5 #[.val (.ref a1)] [(.ref a1), (.int dp)])) _
    exact k_
  obtain ⟨T102, X102, e102, st102⟩ := getF X101 hx hZ hown (host := "") (Or.inl (hw _ (List.mem_of_getElem? (i := 108) rfl))) Via.refl e101 F3 (g := (mkF m 5 #[.val (.ref a1)] [(.ref a1), (.int dp)])) rfl rfl (hb hby own_d15_5)
  refine own_go st102 ?_
  show own_Rch p e below _ (T102.setTop (mkF m 8 #[.val (.ref a1)] [(.int wd), (.int dp)]))
  refine own_go (S' := (T102.setTop (mkF m 9 #[.val (.ref a1)] [(.int (dp * wd))]))) (fun t_ k_ => ?_) ?_
  · refine XS.imul X102.here hx rfl (hb hby own_d15_8) rfl ?_
    show Steps p.tables e below (T102.setTop (mkF m 9 #[.val (.ref a1)] [(.int (dp * wd))])) _
    exact k_
  refine own_retI X102 hx Bd.returns Bd.notSynchronized (hb hby own_d15_9) (by decide) (by decide) ?_
  try rw [e102]
  exact ⟨rfl, N0, rfl⟩
theorem own_pd18 : parseMethodDescriptor "(Ljava/lang/Object;)Z" = some ⟨[(.object "java/lang/Object")], some .boolean⟩ := by decide +kernel
theorem own_pd19 : parseMethodDescriptor "()V" = some ⟨[], none⟩ := by decide +kernel
theorem own_pd20 : parseMethodDescriptor "(Ljava/lang/String;)Ljava/lang/StringBuilder;" = some ⟨[(.object "java/lang/String")], some (.object "java/lang/StringBuilder")⟩ := by decide +kernel
theorem own_pd21 : parseMethodDescriptor "(I)Ljava/lang/StringBuilder;" = some ⟨[.int], some (.object "java/lang/StringBuilder")⟩ := by decide +kernel
theorem own_pd22 : parseMethodDescriptor "()Ljava/lang/String;" = some ⟨[], some (.object "java/lang/String")⟩ := by decide +kernel
theorem own_d1_0 : decode prog_4_method_5_code 0 = .ok (.aload_n 0, 1) := by decide +kernel
theorem own_d1_1 : decode prog_4_method_5_code 1 = .ok (.getfield 35, 3) := by decide +kernel
theorem own_d1_4 : decode prog_4_method_5_code 4 = .ok (.ldc 79, 2) := by decide +kernel
theorem own_d1_6 : decode prog_4_method_5_code 6 = .ok (.invokevirtual 54, 3) := by decide +kernel
theorem own_d1_9 : decode prog_4_method_5_code 9 = .ok (.ifCond .eq 35, 3) := by decide +kernel
theorem own_d1_12 : decode prog_4_method_5_code 12 = .ok (.new 62, 3) := by decide +kernel
theorem own_d1_15 : decode prog_4_method_5_code 15 = .ok (.dup, 1) := by decide +kernel
theorem own_d1_16 : decode prog_4_method_5_code 16 = .ok (.invokespecial 64, 3) := by decide +kernel
theorem own_d1_19 : decode prog_4_method_5_code 19 = .ok (.aload_n 0, 1) := by decide +kernel
theorem own_d1_20 : decode prog_4_method_5_code 20 = .ok (.getfield 35, 3) := by decide +kernel
theorem own_d1_23 : decode prog_4_method_5_code 23 = .ok (.invokevirtual 69, 3) := by decide +kernel
theorem own_d1_26 : decode prog_4_method_5_code 26 = .ok (.ldc 81, 2) := by decide +kernel
theorem own_d1_28 : decode prog_4_method_5_code 28 = .ok (.invokevirtual 69, 3) := by decide +kernel
theorem own_d1_31 : decode prog_4_method_5_code 31 = .ok (.aload_n 0, 1) := by decide +kernel
theorem own_d1_32 : decode prog_4_method_5_code 32 = .ok (.invokevirtual 83, 3) := by decide +kernel
theorem own_d1_35 : decode prog_4_method_5_code 35 = .ok (.invokevirtual 87, 3) := by decide +kernel
theorem own_d1_38 : decode prog_4_method_5_code 38 = .ok (.invokevirtual 73, 3) := by decide +kernel
theorem own_d1_41 : decode prog_4_method_5_code 41 = .ok (.goto 44, 3) := by decide +kernel
theorem own_d1_85 : decode prog_4_method_5_code 85 = .ok (.areturn, 1) := by decide +kernel
theorem own_c1F_ef (m : MethodId) (x0 : Addr) : entryFrame m #[(.ref x0)] 1 = mkF m 0 #[.val (.ref x0)] [] := by first | (simp [entryFrame, mkF, argsToLocals, Value.category]; done) | rfl
set_option maxRecDepth 65536 in
set_option maxHeartbeats 40000000 in
theorem own_c1F (l : Launch) (Z : State) (a0 : Array Value) (hw : ∀ d ∈ tables_1, d.before a0 Z = true) (wsC : List Jvm.Cond) (hEL : EW Z a0 consts_1) (a1 sh sv : Addr) (ks : ClassId) (dp wd : Int32) (hlen : (([102, 97, 110] : List Int32) ++ [45] ++ own_dec (dp * wd)).length ≤ 15) (d1 d2 : Addr) (kd1 kd2 : ClassId) (D1 : Sta Z Z.heap "java/lang/Integer" "DigitOnes" "[B" (.ref d1)) (D2 : Sta Z Z.heap "java/lang/Integer" "DigitTens" "[B" (.ref d2)) (T1 : Arv Z Z.heap d1 kd1 .byte 100 (own_ones.map Value.int) (.int 0)) (T2 : Arv Z Z.heap d2 kd2 .byte 100 (own_tens.map Value.int) (.int 0)) (cz : Int32) (CS : Sta Z Z.heap "java/lang/String" "COMPACT_STRINGS" "Z" (.int cz)) (hcz : ¬ cz = (0 : Int32)) (h0 : Heap) (n0 : Nat) (O : Old Z n0 h0) (F1 : Fld Z h0 a1 "com/example/mooring/mooring/bench/Workload" "shape" "Ljava/lang/String;" (.ref sh)) (F2 : Fld Z h0 a1 "com/example/mooring/mooring/bench/Workload" "depth" "I" (.int dp)) (F3 : Fld Z h0 a1 "com/example/mooring/mooring/bench/Workload" "width" "I" (.int wd)) (EW_ : Exa Z h0 a1 "com/example/mooring/mooring/bench/Workload") (Es : Exa Z h0 sh "java/lang/String") (Cs : Fld Z h0 sh "java/lang/String" "coder" "B" (.int 0)) (Fs : Fld Z h0 sh "java/lang/String" "value" "[B" (.ref sv)) (Vs : Arv Z h0 sv ks .byte (Int32.ofNat ([102, 97, 110] : List Int32).length) (([102, 97, 110] : List Int32).map Value.int) (.int 0)) (ls : sh < n0) (lv : sv < n0) :
    own_CtrW l Z consts_1 (⟨"com/example/mooring/mooring/bench/Workload", "label", "()Ljava/lang/String;"⟩ : MethodName) prog_4_method_5_code 1 (some (.object "java/lang/String")) wsC ({ frames := 7, cells := 10, slots := 80, locals := 140 } : Room) h0 #[(.ref a1)] (fun v h L => ∃ ra rb rk, v = some (.ref ra) ∧ Fr n0 L ∧ Keep h0 h [] ∧ Exa Z h ra "java/lang/String" ∧ Fld Z h ra "java/lang/String" "coder" "B" (.int 0) ∧ Fld Z h ra "java/lang/String" "value" "[B" (.ref rb) ∧ Arv Z h rb rk .byte (Int32.ofNat (([102, 97, 110] : List Int32) ++ [45] ++ own_dec (dp * wd)).length) ((([102, 97, 110] : List Int32) ++ [45] ++ own_dec (dp * wd)).map Value.int) (.int 0)) := by
  refine own_ctrW (plainFor_of_name own_pn6) ?_
  intro p e s m below meth c s₁ Bd hml0 hx hby hZ hown0 X0 e0 eS CH hS
  have hml : c.maxLocals = 1 := hml0
  have hown : (s.setVm s.vm).vm.findClass "com/example/mooring/mooring/bench/Workload" = some m.cls := hown0
  have hnm := (name_of_methodNamed Bd.named Bd.method).1
  have N0 := Fr.nil n0
  have hk : 0 ≤ h0.size := Nat.zero_le _
  have CR0 : CHr Z consts_1 s.vm s.heap s.vm h0 := by rw [eS]; exact CHr.refl CH
  have K00 : Keep h0 h0 [] := Keep.refl h0 []
  refine own_cast (own_c1F_ef m a1) ?_
  have hlen' := hlen
  simp only [List.length_append, List.length_cons, List.length_nil] at hlen'
  refine own_go (S' := (s₁.setTop (mkF m 1 #[.val (.ref a1)] [(.ref a1)]))) (fun t_ k_ => ?_) ?_
  · refine XS.aloadN X0.here hx rfl (hb hby own_d1_0) rfl rfl ?_
    show Steps p.tables e below (s₁.setTop (mkF m 1 #[.val (.ref a1)] [(.ref a1)])) _
    exact k_
  obtain ⟨T101, X101, e101, st101⟩ := getF X0 hx hZ hown (host := "") (Or.inl (hw _ (List.mem_of_getElem? (i := 16) rfl))) Via.refl e0 F1 (g := (mkF m 1 #[.val (.ref a1)] [(.ref a1)])) rfl rfl (hb hby own_d1_1)
  refine own_go st101 ?_
  show own_Rch p e below _ (T101.setTop (mkF m 4 #[.val (.ref a1)] [(.ref sh)]))
  obtain ⟨a102, T102, h102, kx102, b102, k102, X102, e102, E102, hS, hk, hZ, hown, Ea102, Ca102, Fa102, Va102, la102, lb102, hC102, -, sf102, st102⟩ := ldcCH X101 hx hZ hown (hw _ (List.mem_of_getElem? (i := 18) rfl)) (own_wS hw) e101 hS hk hEL (by decide) CR0.1 (vs := ([102, 97, 110] : List Int32).map Value.int) (z := Int32.ofNat 3) ⟨by decide, rfl⟩ (by decide) (by decide) (g := (mkF m 4 #[.val (.ref a1)] [(.ref sh)])) rfl (hb hby own_d1_4) (n := 12) (by decide) (by decide) (by decide) (by decide)
  refine own_go st102 ?_
  show own_Rch p e below _ (T102.setTop (mkF m 6 #[.val (.ref a1)] [(.ref a102), (.ref sh)]))
  have CR103 := CR0.trans (hC102)
  have K0104 : Keep h0 h102 [] := K00.ext E102
  obtain ⟨_, T105, L105, X105, ⟨rfl, N105q, k105⟩, st105⟩ := own_callV X102 hx hZ (y := (⟨"java/lang/String", "equals", "(Ljava/lang/Object;)Z"⟩ : MethodName)) (z := (⟨"java/lang/String", "equals", "(Ljava/lang/Object;)Z"⟩ : MethodName)) (C := "java/lang/String") hown (hw _ (List.mem_of_getElem? (i := 19) rfl)) (hw _ (List.mem_of_getElem? (i := 20) rfl)) (notFace_of_selects (args := #[]) (mvT hZ (hw _ (List.mem_of_getElem? (i := 22) rfl)))) (hw _ (List.mem_of_getElem? (i := 22) rfl)) (hw _ (List.mem_of_getElem? (i := 21) rfl)) (hw _ (List.mem_of_getElem? (i := 4) rfl)) (hw _ (List.mem_of_getElem? (i := 23) rfl)) (by decide) (own_c2 l Z a0 hw [] sh a102 sv b102 ks k102 ([102, 97, 110] : List Int32) ([102, 97, 110] : List Int32) (by decide) (by decide) cz CS hcz h102 n0 (O.keep K0104 all0) (Es.keep K0104) (Cs.keep K0104 nin0) (Fs.keep K0104 nin0) (Vs.keep K0104 nin0) Ea102 Ca102 Fa102 Va102) e102 (Es.keep K0104) (W := 0) (by decide) (by decide) (g := (mkF m 6 #[.val (.ref a1)] [(.ref a102), (.ref sh)])) rfl (by rw [hml]; rfl) (argsL := [(.ref a102)]) (rest := []) (lenOf own_pd18 rfl) rfl rfl rfl (hb hby own_d1_6) (by decide) (by decide)
  have N105 := Fr.app N0 N105q
  refine own_go st105 ?_
  show own_Rch p e below _ (T105.setTop (mkF m 9 #[.val (.ref a1)] [(.int (if ([102, 97, 110] : List Int32) = ([102, 97, 110] : List Int32) then (1 : Int32) else (0 : Int32)))]))
  have Kq105 : Keep h0 T105.heap [] := by rw [k105]; exact K0104
  have CRq105 := CR103
  rw [← k105] at CRq105
  have hk := hk
  rw [← k105] at hk
  rw [if_pos rfl]
  show own_Rch p e below _ (T105.setTop (mkF m 9 #[.val (.ref a1)] [(.int (1 : Int32))]))
  refine own_go (S' := (T105.setTop (mkF m 12 #[.val (.ref a1)] []))) (fun t_ k_ => ?_) ?_
  · refine XS.ifNo X105.here hx rfl (hb hby own_d1_9) rfl ((if0 _ _).trans (feq (by decide)).1) ?_
    show Steps p.tables e below (T105.setTop (mkF m 12 #[.val (.ref a1)] [])) _
    exact k_
  obtain ⟨T106, h106, X106, e106, E106, A106, D106, -, st106⟩ := newO X105 hx hZ hown (hw _ (List.mem_of_getElem? (i := 33) rfl)) (hw _ (List.mem_of_getElem? (i := 34) rfl)) (hw _ (List.mem_of_getElem? (i := 35) rfl)) rfl (g := (mkF m 12 #[.val (.ref a1)] [])) rfl (hb hby own_d1_12) (by decide) (by decide)
  obtain ⟨b106, g106⟩ : ∃ z, z = T105.heap.size := ⟨_, rfl⟩
  rw [← g106] at A106 D106 st106
  have gb106 : n0 ≤ b106 := Nat.le_trans (own_oz (O.keep Kq105 all0)) (Nat.le_of_eq g106.symm)
  refine own_go st106 ?_
  show own_Rch p e below _ (T106.setTop (mkF m 15 #[.val (.ref a1)] [(.ref b106)]))
  have sbz : h0.size ≤ b106 := Nat.le_trans Kq105.1 (Nat.le_of_eq g106.symm)
  have CR107 := CRq105.trans (CHr.ext E106 CRq105.1)
  have K0108 : Keep h0 h106 [] := Kq105.ext E106
  have hk : _ ≤ h106.size := Nat.le_trans hk E106.1
  refine own_go (S' := (T106.setTop (mkF m 16 #[.val (.ref a1)] [(.ref b106), (.ref b106)]))) (fun t_ k_ => ?_) ?_
  · refine XS.dup X106.here hx rfl (hb hby own_d1_15) rfl rfl ?_
    show Steps p.tables e below (T106.setTop (mkF m 16 #[.val (.ref a1)] [(.ref b106), (.ref b106)])) _
    exact k_
  have D_value : Fld Z h106 b106 "java/lang/AbstractStringBuilder" "value" "[B" .null := D106 (Or.inl (hw _ (List.mem_of_getElem? (i := 50) rfl))) (ty := (.array .byte)) (by decide)
  have D_coder : Fld Z h106 b106 "java/lang/AbstractStringBuilder" "coder" "B" (.int 0) := D106 (Or.inl (hw _ (List.mem_of_getElem? (i := 52) rfl))) (ty := .byte) (by decide)
  have D_count : Fld Z h106 b106 "java/lang/AbstractStringBuilder" "count" "I" (.int (Int32.ofNat 0)) := D106 (Or.inl (hw _ (List.mem_of_getElem? (i := 74) rfl))) (ty := .int) (by decide)
  have sSB : Safe Z consts_1 _ h106 b106 := Safe.exa hZ.alike A106 (by decide) (by decide)
  obtain ⟨_, T109, L109, X109, ⟨vb, kb, rfl, N109q, K109, z109, E109, f1109, f2109, f3109, V109⟩, st109⟩ := own_callC X106 hx hZ (y := (⟨"java/lang/StringBuilder", "<init>", "()V"⟩ : MethodName)) rfl hown (hw _ (List.mem_of_getElem? (i := 36) rfl)) (hw _ (List.mem_of_getElem? (i := 37) rfl)) (hw _ (List.mem_of_getElem? (i := 35) rfl)) (hw _ (List.mem_of_getElem? (i := 38) rfl)) (by decide) (own_c4 l Z a0 hw [] b106 cz CS hcz h106 n0 (O.keep K0108 all0) D_value D_coder D_count A106 gb106) e106 (a := b106) (W := 1) (by decide) (by decide) (g := (mkF m 16 #[.val (.ref a1)] [(.ref b106), (.ref b106)])) rfl (by rw [hml]; rfl) (argsL := []) (rest := [(.ref b106)]) (lenOf own_pd19 rfl) rfl rfl rfl (hb hby own_d1_16) (by decide) (by decide)
  have N109 := Fr.app N105 N109q
  refine own_go st109 ?_
  show own_Rch p e below _ (T109.setTop (mkF m 19 #[.val (.ref a1)] [(.ref b106)]))
  have vbz : h0.size ≤ vb := Nat.le_trans K0108.1 z109
  have gv : n0 ≤ vb := Nat.le_trans (own_oz O) vbz
  have hk : _ ≤ T109.heap.size := Nat.le_trans hk K109.1
  have sVB := Safe.keep K109 (allS sSB all0) CR107.1 (Safe.new z109)
  have sSB2 := Safe.keep K109 (allS sSB all0) CR107.1 sSB
  have CR110 := CR107.trans (CHr.keep K109 (allS sSB all0) CR107.1)
  have K0111 : Keep h0 T109.heap [] := K0108.trans K109 (fun x hx => Or.inr (by cases List.mem_singleton.mp hx; exact sbz))
  have nv : b106 ≠ vb := Exa.neArv E109 V109 (hw _ (List.mem_of_getElem? (i := 34) rfl))
  have tk0 : (List.replicate 16 (0 : Int32)).take 0 = [] := rfl
  have wl0 : (List.replicate 16 (0 : Int32)).length = 16 := rfl
  refine own_go (S' := (T109.setTop (mkF m 20 #[.val (.ref a1)] [(.ref a1), (.ref b106)]))) (fun t_ k_ => ?_) ?_
  · refine XS.aloadN X109.here hx rfl (hb hby own_d1_19) rfl rfl ?_
    show Steps p.tables e below (T109.setTop (mkF m 20 #[.val (.ref a1)] [(.ref a1), (.ref b106)])) _
    exact k_
  obtain ⟨T112, X112, e112, st112⟩ := getF X109 hx hZ hown (host := "") (Or.inl (hw _ (List.mem_of_getElem? (i := 16) rfl))) Via.refl rfl (F1.keep K0111 nin0) (g := (mkF m 20 #[.val (.ref a1)] [(.ref a1), (.ref b106)])) rfl rfl (hb hby own_d1_20)
  refine own_go st112 ?_
  show own_Rch p e below _ (T112.setTop (mkF m 23 #[.val (.ref a1)] [(.ref sh), (.ref b106)]))
  obtain ⟨_, T113, L113, X113, ⟨rfl, N113q, K113, E113, f1113, f2113, f3113, V113⟩, st113⟩ := own_callV X112 hx hZ (y := (⟨"java/lang/StringBuilder", "append", "(Ljava/lang/String;)Ljava/lang/StringBuilder;"⟩ : MethodName)) (z := (⟨"java/lang/StringBuilder", "append", "(Ljava/lang/String;)Ljava/lang/StringBuilder;"⟩ : MethodName)) (C := "java/lang/StringBuilder") hown (hw _ (List.mem_of_getElem? (i := 53) rfl)) (hw _ (List.mem_of_getElem? (i := 54) rfl)) (notFace_of_selects (args := #[]) (mvT hZ (hw _ (List.mem_of_getElem? (i := 56) rfl)))) (hw _ (List.mem_of_getElem? (i := 56) rfl)) (hw _ (List.mem_of_getElem? (i := 55) rfl)) (hw _ (List.mem_of_getElem? (i := 35) rfl)) (hw _ (List.mem_of_getElem? (i := 57) rfl)) (by decide) (own_c7 l Z a0 hw [] b106 sh sv vb ks kb ([102, 97, 110] : List Int32) (List.replicate 16 (0 : Int32)) 0 (by rw [wl0]; show 0 + 3 ≤ 16; omega) (by omega) cz CS hcz T109.heap n0 (O.keep K0111 all0) (Es.keep K0111) (Cs.keep K0111 nin0) (Fs.keep K0111 nin0) (Vs.keep K0111 nin0) f1109 f2109 f3109 E109 V109 (Nat.le_trans (own_oz O) sbz) gv nv) e112 E109 (W := 0) (by decide) (by decide) (g := (mkF m 23 #[.val (.ref a1)] [(.ref sh), (.ref b106)])) rfl (by rw [hml]; rfl) (argsL := [(.ref sh)]) (rest := []) (lenOf own_pd20 rfl) rfl rfl rfl (hb hby own_d1_23) (by decide) (by decide)
  have N113 := Fr.app N109 N113q
  refine own_go st113 ?_
  show own_Rch p e below _ (T113.setTop (mkF m 26 #[.val (.ref a1)] [(.ref b106)]))
  have hk : _ ≤ T113.heap.size := Nat.le_trans hk K113.1
  have sS113 := Safe.keep K113 (allS sSB2 (allS sVB all0)) CR110.1 sSB2
  have sV113 := Safe.keep K113 (allS sSB2 (allS sVB all0)) CR110.1 sVB
  have CR114 := CR110.trans (CHr.keep K113 (allS sSB2 (allS sVB all0)) CR110.1)
  have K0115 : Keep h0 T113.heap [] := K0111.trans K113 (fun y hy => Or.inr (allS (P := fun y => h0.size ≤ y) sbz (allS vbz all0) y hy))
  obtain ⟨w1, ew1⟩ : ∃ z : List Int32, z = ((List.replicate 16 (0 : Int32)).take 0 ++ ([102, 97, 110] : List Int32) ++ (List.replicate 16 (0 : Int32)).drop (0 + ([102, 97, 110] : List Int32).length)) := ⟨_, rfl⟩
  obtain ⟨n1, en1⟩ : ∃ z : Nat, z = (0 + ([102, 97, 110] : List Int32).length) := ⟨_, rfl⟩
  rw [← ew1] at V113
  rw [← en1] at f3113
  have hc1 : n1 = 0 + 3 := by rw [en1]; rfl
  have tk1 : w1.take n1 = ([102, 97, 110] : List Int32) := by rw [ew1, en1, own_takeCat (by rw [wl0]; omega), tk0]; rfl
  have wl1 : w1.length = 16 := by rw [ew1, own_cat0 (by rw [wl0]; show 0 + 3 ≤ 16; omega), wl0]
  have hq1 : n1 = (([102, 97, 110] : List Int32)).length := by have q := congrArg List.length tk1; rw [List.length_take, wl1] at q; omega
  obtain ⟨a116, T116, h116, kx116, b116, k116, X116, e116, E116, hS, hk, hZ, hown, Ea116, Ca116, Fa116, Va116, la116, lb116, hC116, -, sf116, st116⟩ := ldcCH X113 hx hZ hown (hw _ (List.mem_of_getElem? (i := 100) rfl)) (own_wS hw) rfl hS hk hEL (by decide) CR114.1 (vs := ([45] : List Int32).map Value.int) (z := Int32.ofNat 1) ⟨by decide, rfl⟩ (by decide) (by decide) (g := (mkF m 26 #[.val (.ref a1)] [(.ref b106)])) rfl (hb hby own_d1_26) (n := 4) (by decide) (by decide) (by decide) (by decide)
  refine own_go st116 ?_
  show own_Rch p e below _ (T116.setTop (mkF m 28 #[.val (.ref a1)] [(.ref a116), (.ref b106)]))
  have CR117 := CR114.trans (hC116)
  have K0118 : Keep h0 h116 [] := K0115.ext E116
  have sS_116 := hC116.safe E113.lt sS113
  have sV_116 := hC116.safe V113.lt sV113
  have f1_116 := f1113.ext E116
  have f2_116 := f2113.ext E116
  have f3_116 := f3113.ext E116
  have E_116 := E113.ext E116
  have V_116 := V113.ext E116
  obtain ⟨_, T119, L119, X119, ⟨rfl, N119q, K119, E119, f1119, f2119, f3119, V119⟩, st119⟩ := own_callV X116 hx hZ (y := (⟨"java/lang/StringBuilder", "append", "(Ljava/lang/String;)Ljava/lang/StringBuilder;"⟩ : MethodName)) (z := (⟨"java/lang/StringBuilder", "append", "(Ljava/lang/String;)Ljava/lang/StringBuilder;"⟩ : MethodName)) (C := "java/lang/StringBuilder") hown (hw _ (List.mem_of_getElem? (i := 53) rfl)) (hw _ (List.mem_of_getElem? (i := 54) rfl)) (notFace_of_selects (args := #[]) (mvT hZ (hw _ (List.mem_of_getElem? (i := 56) rfl)))) (hw _ (List.mem_of_getElem? (i := 56) rfl)) (hw _ (List.mem_of_getElem? (i := 55) rfl)) (hw _ (List.mem_of_getElem? (i := 35) rfl)) (hw _ (List.mem_of_getElem? (i := 57) rfl)) (by decide) (own_c7 l Z a0 hw [] b106 a116 b116 vb k116 kb ([45] : List Int32) w1 n1 (by rw [wl1]; show n1 + 1 ≤ 16; omega) (by omega) cz CS hcz h116 n0 (O.keep K0118 all0) Ea116 Ca116 Fa116 Va116 f1_116 f2_116 f3_116 E_116 V_116 (Nat.le_trans (own_oz O) sbz) gv nv) e116 E_116 (W := 0) (by decide) (by decide) (g := (mkF m 28 #[.val (.ref a1)] [(.ref a116), (.ref b106)])) rfl (by rw [hml]; rfl) (argsL := [(.ref a116)]) (rest := []) (lenOf own_pd20 rfl) rfl rfl rfl (hb hby own_d1_28) (by decide) (by decide)
  have N119 := Fr.app N113 N119q
  refine own_go st119 ?_
  show own_Rch p e below _ (T119.setTop (mkF m 31 #[.val (.ref a1)] [(.ref b106)]))
  have hk : _ ≤ T119.heap.size := Nat.le_trans hk K119.1
  have sS119 := Safe.keep K119 (allS sS_116 (allS sV_116 all0)) CR117.1 sS_116
  have sV119 := Safe.keep K119 (allS sS_116 (allS sV_116 all0)) CR117.1 sV_116
  have CR120 := CR117.trans (CHr.keep K119 (allS sS_116 (allS sV_116 all0)) CR117.1)
  have K0121 : Keep h0 T119.heap [] := K0118.trans K119 (fun y hy => Or.inr (allS (P := fun y => h0.size ≤ y) sbz (allS vbz all0) y hy))
  obtain ⟨w2, ew2⟩ : ∃ z : List Int32, z = (w1.take n1 ++ ([45] : List Int32) ++ w1.drop (n1 + ([45] : List Int32).length)) := ⟨_, rfl⟩
  obtain ⟨n2, en2⟩ : ∃ z : Nat, z = (n1 + ([45] : List Int32).length) := ⟨_, rfl⟩
  rw [← ew2] at V119
  rw [← en2] at f3119
  have hc2 : n2 = n1 + 1 := by rw [en2]; rfl
  have tk2 : w2.take n2 = ([102, 97, 110] : List Int32) ++ ([45] : List Int32) := by rw [ew2, en2, own_takeCat (by rw [wl1]; omega), tk1]
  have wl2 : w2.length = 16 := by rw [ew2, own_cat0 (by rw [wl1]; show n1 + 1 ≤ 16; omega), wl1]
  have hq2 : n2 = (([102, 97, 110] : List Int32) ++ ([45] : List Int32)).length := by have q := congrArg List.length tk2; rw [List.length_take, wl2] at q; omega
  refine own_go (S' := (T119.setTop (mkF m 32 #[.val (.ref a1)] [(.ref a1), (.ref b106)]))) (fun t_ k_ => ?_) ?_
  · refine XS.aloadN X119.here hx rfl (hb hby own_d1_31) rfl rfl ?_
    show Steps p.tables e below (T119.setTop (mkF m 32 #[.val (.ref a1)] [(.ref a1), (.ref b106)])) _
    exact k_
  obtain ⟨_, T122, L122, X122, ⟨rfl, N122q, k122⟩, st122⟩ := own_callV X119 hx hZ (y := (⟨"com/example/mooring/mooring/bench/Workload", "size", "()I"⟩ : MethodName)) (z := (⟨"com/example/mooring/mooring/bench/Workload", "size", "()I"⟩ : MethodName)) (C := "com/example/mooring/mooring/bench/Workload") hown (hw _ (List.mem_of_getElem? (i := 101) rfl)) (hw _ (List.mem_of_getElem? (i := 102) rfl)) (notFace_of_selects (args := #[]) (mvT hZ (hw _ (List.mem_of_getElem? (i := 104) rfl)))) (hw _ (List.mem_of_getElem? (i := 104) rfl)) (hw _ (List.mem_of_getElem? (i := 103) rfl)) (hw _ (List.mem_of_getElem? (i := 1) rfl)) (hw _ (List.mem_of_getElem? (i := 105) rfl)) (by decide) (own_c15 l Z a0 hw [] a1 dp wd T119.heap n0 (O.keep K0121 all0) (F2.keep K0121 nin0) (F3.keep K0121 nin0)) rfl (EW_.keep K0121) (W := 1) (by decide) (by decide) (g := (mkF m 32 #[.val (.ref a1)] [(.ref a1), (.ref b106)])) rfl (by rw [hml]; rfl) (argsL := []) (rest := [(.ref b106)]) (lenOf own_pd5 rfl) rfl rfl rfl (hb hby own_d1_32) (by decide) (by decide)
  have N122 := Fr.app N119 N122q
  refine own_go st122 ?_
  show own_Rch p e below _ (T122.setTop (mkF m 35 #[.val (.ref a1)] [(.int (dp * wd)), (.ref b106)]))
  have Ez := E119
  have Vz := V119
  have fz0 := f1119
  have fz1 := f2119
  have fz2 := f3119
  have sSz := sS119
  have sVz := sV119
  rw [← k122] at Ez Vz fz0 fz1 fz2 sSz sVz
  have Kq122 : Keep h0 T122.heap [] := by rw [k122]; exact K0121
  have CRq122 := CR120
  rw [← k122] at CRq122
  have hk := hk
  rw [← k122] at hk
  obtain ⟨_, T123, L123, X123, ⟨rfl, N123q, K123, E123, f1123, f2123, f3123, V123⟩, st123⟩ := own_callV X122 hx hZ (y := (⟨"java/lang/StringBuilder", "append", "(I)Ljava/lang/StringBuilder;"⟩ : MethodName)) (z := (⟨"java/lang/StringBuilder", "append", "(I)Ljava/lang/StringBuilder;"⟩ : MethodName)) (C := "java/lang/StringBuilder") hown (hw _ (List.mem_of_getElem? (i := 110) rfl)) (hw _ (List.mem_of_getElem? (i := 111) rfl)) (notFace_of_selects (args := #[]) (mvT hZ (hw _ (List.mem_of_getElem? (i := 113) rfl)))) (hw _ (List.mem_of_getElem? (i := 113) rfl)) (hw _ (List.mem_of_getElem? (i := 112) rfl)) (hw _ (List.mem_of_getElem? (i := 35) rfl)) (hw _ (List.mem_of_getElem? (i := 114) rfl)) (by decide) (own_c16 l Z a0 hw [] b106 vb kb (dp * wd) w2 n2 (by rw [wl2]; omega) (by omega) d1 d2 kd1 kd2 D1 D2 T1 T2 cz CS hcz T122.heap n0 (O.keep Kq122 all0) fz0 fz1 fz2 Ez Vz (Nat.le_trans (own_oz O) sbz) gv nv) rfl Ez (W := 0) (by decide) (by decide) (g := (mkF m 35 #[.val (.ref a1)] [(.int (dp * wd)), (.ref b106)])) rfl (by rw [hml]; rfl) (argsL := [(.int (dp * wd))]) (rest := []) (lenOf own_pd21 rfl) rfl rfl rfl (hb hby own_d1_35) (by decide) (by decide)
  have N123 := Fr.app N122 N123q
  refine own_go st123 ?_
  show own_Rch p e below _ (T123.setTop (mkF m 38 #[.val (.ref a1)] [(.ref b106)]))
  have hk : _ ≤ T123.heap.size := Nat.le_trans hk K123.1
  have sS123 := Safe.keep K123 (allS sSz (allS sVz all0)) CRq122.1 sSz
  have sV123 := Safe.keep K123 (allS sSz (allS sVz all0)) CRq122.1 sVz
  have CR124 := CRq122.trans (CHr.keep K123 (allS sSz (allS sVz all0)) CRq122.1)
  have K0125 : Keep h0 T123.heap [] := Kq122.trans K123 (fun y hy => Or.inr (allS (P := fun y => h0.size ≤ y) sbz (allS vbz all0) y hy))
  obtain ⟨w3, ew3⟩ : ∃ z : List Int32, z = (w2.take n2 ++ (own_dec (dp * wd)) ++ w2.drop (n2 + (own_dec (dp * wd)).length)) := ⟨_, rfl⟩
  obtain ⟨n3, en3⟩ : ∃ z : Nat, z = (n2 + (own_dec (dp * wd)).length) := ⟨_, rfl⟩
  rw [← ew3] at V123
  rw [← en3] at f3123
  have hc3 : n3 = n2 + (own_dec (dp * wd)).length := by rw [en3]
  have tk3 : w3.take n3 = ([102, 97, 110] : List Int32) ++ ([45] : List Int32) ++ (own_dec (dp * wd)) := by rw [ew3, en3, own_takeCat (by rw [wl2]; omega), tk2]
  have wl3 : w3.length = 16 := by rw [ew3, own_cat0 (by rw [wl2]; show n2 + (own_dec (dp * wd)).length ≤ 16; omega), wl2]
  have hq3 : n3 = (([102, 97, 110] : List Int32) ++ ([45] : List Int32) ++ (own_dec (dp * wd))).length := by have q := congrArg List.length tk3; rw [List.length_take, wl3] at q; omega
  obtain ⟨_, T126, L126, X126, ⟨ra, rb, rk, rfl, N126q, K126, z1126, z2126, E126, c126, f126, V126⟩, st126⟩ := own_callV X123 hx hZ (y := (⟨"java/lang/StringBuilder", "toString", "()Ljava/lang/String;"⟩ : MethodName)) (z := (⟨"java/lang/StringBuilder", "toString", "()Ljava/lang/String;"⟩ : MethodName)) (C := "java/lang/StringBuilder") hown (hw _ (List.mem_of_getElem? (i := 133) rfl)) (hw _ (List.mem_of_getElem? (i := 134) rfl)) (notFace_of_selects (args := #[]) (mvT hZ (hw _ (List.mem_of_getElem? (i := 136) rfl)))) (hw _ (List.mem_of_getElem? (i := 136) rfl)) (hw _ (List.mem_of_getElem? (i := 135) rfl)) (hw _ (List.mem_of_getElem? (i := 35) rfl)) (hw _ (List.mem_of_getElem? (i := 137) rfl)) (by decide) (own_c21 l Z a0 hw [] b106 vb kb w3 n3 (by omega) (by omega) (by omega) cz CS hcz T123.heap n0 (O.keep K0125 all0) f1123 f2123 f3123 E123 V123) rfl E123 (W := 0) (by decide) (by decide) (g := (mkF m 38 #[.val (.ref a1)] [(.ref b106)])) rfl (by rw [hml]; rfl) (argsL := []) (rest := []) (lenOf own_pd22 rfl) rfl rfl rfl (hb hby own_d1_38) (by decide) (by decide)
  have N126 := Fr.app N123 N126q
  refine own_go st126 ?_
  show own_Rch p e below _ (T126.setTop (mkF m 41 #[.val (.ref a1)] [(.ref ra)]))
  have hk : _ ≤ T126.heap.size := Nat.le_trans hk K126.1
  have CR127 := CR124.trans (CHr.keep K126 all0 CR124.1)
  have K0128 : Keep h0 T126.heap [] := K0125.trans K126 (fun y hy => by cases hy)
  refine own_go (S' := (T126.setTop (mkF m 85 #[.val (.ref a1)] [(.ref ra)]))) (fun t_ k_ => ?_) ?_
  · refine XS.goto X126.here hx rfl (pc0 := 41) (pc' := 85) rfl (hb hby own_d1_41) (by decide) (by decide) ?_
    show Steps p.tables e below (T126.setTop (mkF m 85 #[.val (.ref a1)] [(.ref ra)])) _
    exact k_
  rw [tk3, hq3] at V126
  refine own_retW (a0 := a0) X126 hZ hEL hS rfl hk CR127 (v := some (.ref ra)) (fun h => by rw [Bd.returns] at h; cases h) Bd.notSynchronized (fun fs hr => retOut X126 hx Bd.returns rfl (Or.inr (Or.inr (Or.inr (Or.inr ⟨rfl, rfl, rfl⟩)))) (hb hby own_d1_85) hr) (by decide) (by decide) ?_
  exact ⟨ra, rb, rk, rfl, N126, K0128, E126, c126, f126, V126⟩
theorem own_d1_44 : decode prog_4_method_5_code 44 = .ok (.new 62, 3) := by decide +kernel
theorem own_d1_47 : decode prog_4_method_5_code 47 = .ok (.dup, 1) := by decide +kernel
theorem own_d1_48 : decode prog_4_method_5_code 48 = .ok (.invokespecial 64, 3) := by decide +kernel
theorem own_d1_51 : decode prog_4_method_5_code 51 = .ok (.aload_n 0, 1) := by decide +kernel
theorem own_d1_52 : decode prog_4_method_5_code 52 = .ok (.getfield 35, 3) := by decide +kernel
theorem own_d1_55 : decode prog_4_method_5_code 55 = .ok (.invokevirtual 69, 3) := by decide +kernel
theorem own_d1_58 : decode prog_4_method_5_code 58 = .ok (.ldc 81, 2) := by decide +kernel
theorem own_d1_60 : decode prog_4_method_5_code 60 = .ok (.invokevirtual 69, 3) := by decide +kernel
theorem own_d1_63 : decode prog_4_method_5_code 63 = .ok (.aload_n 0, 1) := by decide +kernel
theorem own_d1_64 : decode prog_4_method_5_code 64 = .ok (.getfield 39, 3) := by decide +kernel
theorem own_d1_67 : decode prog_4_method_5_code 67 = .ok (.invokevirtual 87, 3) := by decide +kernel
theorem own_d1_70 : decode prog_4_method_5_code 70 = .ok (.ldc 90, 2) := by decide +kernel
theorem own_d1_72 : decode prog_4_method_5_code 72 = .ok (.invokevirtual 69, 3) := by decide +kernel
theorem own_d1_75 : decode prog_4_method_5_code 75 = .ok (.aload_n 0, 1) := by decide +kernel
theorem own_d1_76 : decode prog_4_method_5_code 76 = .ok (.getfield 43, 3) := by decide +kernel
theorem own_d1_79 : decode prog_4_method_5_code 79 = .ok (.invokevirtual 87, 3) := by decide +kernel
theorem own_d1_82 : decode prog_4_method_5_code 82 = .ok (.invokevirtual 73, 3) := by decide +kernel
theorem own_c1L_ef (m : MethodId) (x0 : Addr) : entryFrame m #[(.ref x0)] 1 = mkF m 0 #[.val (.ref x0)] [] := by first | (simp [entryFrame, mkF, argsToLocals, Value.category]; done) | rfl
set_option maxRecDepth 65536 in
set_option maxHeartbeats 40000000 in
theorem own_c1L (l : Launch) (Z : State) (a0 : Array Value) (hw : ∀ d ∈ tables_1, d.before a0 Z = true) (wsC : List Jvm.Cond) (hEL : EW Z a0 consts_1) (a1 sh sv : Addr) (ks : ClassId) (dp wd : Int32) (hlen : (([108, 97, 121, 101, 114, 115] : List Int32) ++ [45] ++ own_dec dp ++ [120] ++ own_dec wd).length ≤ 15) (d1 d2 : Addr) (kd1 kd2 : ClassId) (D1 : Sta Z Z.heap "java/lang/Integer" "DigitOnes" "[B" (.ref d1)) (D2 : Sta Z Z.heap "java/lang/Integer" "DigitTens" "[B" (.ref d2)) (T1 : Arv Z Z.heap d1 kd1 .byte 100 (own_ones.map Value.int) (.int 0)) (T2 : Arv Z Z.heap d2 kd2 .byte 100 (own_tens.map Value.int) (.int 0)) (cz : Int32) (CS : Sta Z Z.heap "java/lang/String" "COMPACT_STRINGS" "Z" (.int cz)) (hcz : ¬ cz = (0 : Int32)) (h0 : Heap) (n0 : Nat) (O : Old Z n0 h0) (F1 : Fld Z h0 a1 "com/example/mooring/mooring/bench/Workload" "shape" "Ljava/lang/String;" (.ref sh)) (F2 : Fld Z h0 a1 "com/example/mooring/mooring/bench/Workload" "depth" "I" (.int dp)) (F3 : Fld Z h0 a1 "com/example/mooring/mooring/bench/Workload" "width" "I" (.int wd)) (EW_ : Exa Z h0 a1 "com/example/mooring/mooring/bench/Workload") (Es : Exa Z h0 sh "java/lang/String") (Cs : Fld Z h0 sh "java/lang/String" "coder" "B" (.int 0)) (Fs : Fld Z h0 sh "java/lang/String" "value" "[B" (.ref sv)) (Vs : Arv Z h0 sv ks .byte (Int32.ofNat ([108, 97, 121, 101, 114, 115] : List Int32).length) (([108, 97, 121, 101, 114, 115] : List Int32).map Value.int) (.int 0)) (ls : sh < n0) (lv : sv < n0) :
    own_CtrW l Z consts_1 (⟨"com/example/mooring/mooring/bench/Workload", "label", "()Ljava/lang/String;"⟩ : MethodName) prog_4_method_5_code 1 (some (.object "java/lang/String")) wsC ({ frames := 7, cells := 10, slots := 80, locals := 140 } : Room) h0 #[(.ref a1)] (fun v h L => ∃ ra rb rk, v = some (.ref ra) ∧ Fr n0 L ∧ Keep h0 h [] ∧ Exa Z h ra "java/lang/String" ∧ Fld Z h ra "java/lang/String" "coder" "B" (.int 0) ∧ Fld Z h ra "java/lang/String" "value" "[B" (.ref rb) ∧ Arv Z h rb rk .byte (Int32.ofNat (([108, 97, 121, 101, 114, 115] : List Int32) ++ [45] ++ own_dec dp ++ [120] ++ own_dec wd).length) ((([108, 97, 121, 101, 114, 115] : List Int32) ++ [45] ++ own_dec dp ++ [120] ++ own_dec wd).map Value.int) (.int 0)) := by
  refine own_ctrW (plainFor_of_name own_pn6) ?_
  intro p e s m below meth c s₁ Bd hml0 hx hby hZ hown0 X0 e0 eS CH hS
  have hml : c.maxLocals = 1 := hml0
  have hown : (s.setVm s.vm).vm.findClass "com/example/mooring/mooring/bench/Workload" = some m.cls := hown0
  have hnm := (name_of_methodNamed Bd.named Bd.method).1
  have N0 := Fr.nil n0
  have hk : 0 ≤ h0.size := Nat.zero_le _
  have CR0 : CHr Z consts_1 s.vm s.heap s.vm h0 := by rw [eS]; exact CHr.refl CH
  have K00 : Keep h0 h0 [] := Keep.refl h0 []
  refine own_cast (own_c1L_ef m a1) ?_
  have hlen' := hlen
  simp only [List.length_append, List.length_cons, List.length_nil] at hlen'
  refine own_go (S' := (s₁.setTop (mkF m 1 #[.val (.ref a1)] [(.ref a1)]))) (fun t_ k_ => ?_) ?_
  · refine XS.aloadN X0.here hx rfl (hb hby own_d1_0) rfl rfl ?_
    show Steps p.tables e below (s₁.setTop (mkF m 1 #[.val (.ref a1)] [(.ref a1)])) _
    exact k_
  obtain ⟨T101, X101, e101, st101⟩ := getF X0 hx hZ hown (host := "") (Or.inl (hw _ (List.mem_of_getElem? (i := 16) rfl))) Via.refl e0 F1 (g := (mkF m 1 #[.val (.ref a1)] [(.ref a1)])) rfl rfl (hb hby own_d1_1)
  refine own_go st101 ?_
  show own_Rch p e below _ (T101.setTop (mkF m 4 #[.val (.ref a1)] [(.ref sh)]))
  obtain ⟨a102, T102, h102, kx102, b102, k102, X102, e102, E102, hS, hk, hZ, hown, Ea102, Ca102, Fa102, Va102, la102, lb102, hC102, -, sf102, st102⟩ := ldcCH X101 hx hZ hown (hw _ (List.mem_of_getElem? (i := 18) rfl)) (own_wS hw) e101 hS hk hEL (by decide) CR0.1 (vs := ([102, 97, 110] : List Int32).map Value.int) (z := Int32.ofNat 3) ⟨by decide, rfl⟩ (by decide) (by decide) (g := (mkF m 4 #[.val (.ref a1)] [(.ref sh)])) rfl (hb hby own_d1_4) (n := 12) (by decide) (by decide) (by decide) (by decide)
  refine own_go st102 ?_
  show own_Rch p e below _ (T102.setTop (mkF m 6 #[.val (.ref a1)] [(.ref a102), (.ref sh)]))
  have CR103 := CR0.trans (hC102)
  have K0104 : Keep h0 h102 [] := K00.ext E102
  obtain ⟨_, T105, L105, X105, ⟨rfl, N105q, k105⟩, st105⟩ := own_callV X102 hx hZ (y := (⟨"java/lang/String", "equals", "(Ljava/lang/Object;)Z"⟩ : MethodName)) (z := (⟨"java/lang/String", "equals", "(Ljava/lang/Object;)Z"⟩ : MethodName)) (C := "java/lang/String") hown (hw _ (List.mem_of_getElem? (i := 19) rfl)) (hw _ (List.mem_of_getElem? (i := 20) rfl)) (notFace_of_selects (args := #[]) (mvT hZ (hw _ (List.mem_of_getElem? (i := 22) rfl)))) (hw _ (List.mem_of_getElem? (i := 22) rfl)) (hw _ (List.mem_of_getElem? (i := 21) rfl)) (hw _ (List.mem_of_getElem? (i := 4) rfl)) (hw _ (List.mem_of_getElem? (i := 23) rfl)) (by decide) (own_c2 l Z a0 hw [] sh a102 sv b102 ks k102 ([108, 97, 121, 101, 114, 115] : List Int32) ([102, 97, 110] : List Int32) (by decide) (by decide) cz CS hcz h102 n0 (O.keep K0104 all0) (Es.keep K0104) (Cs.keep K0104 nin0) (Fs.keep K0104 nin0) (Vs.keep K0104 nin0) Ea102 Ca102 Fa102 Va102) e102 (Es.keep K0104) (W := 0) (by decide) (by decide) (g := (mkF m 6 #[.val (.ref a1)] [(.ref a102), (.ref sh)])) rfl (by rw [hml]; rfl) (argsL := [(.ref a102)]) (rest := []) (lenOf own_pd18 rfl) rfl rfl rfl (hb hby own_d1_6) (by decide) (by decide)
  have N105 := Fr.app N0 N105q
  refine own_go st105 ?_
  show own_Rch p e below _ (T105.setTop (mkF m 9 #[.val (.ref a1)] [(.int (if ([108, 97, 121, 101, 114, 115] : List Int32) = ([102, 97, 110] : List Int32) then (1 : Int32) else (0 : Int32)))]))
  have Kq105 : Keep h0 T105.heap [] := by rw [k105]; exact K0104
  have CRq105 := CR103
  rw [← k105] at CRq105
  have hk := hk
  rw [← k105] at hk
  rw [if_neg (by decide)]
  show own_Rch p e below _ (T105.setTop (mkF m 9 #[.val (.ref a1)] [(.int (0 : Int32))]))
  refine own_go (S' := (T105.setTop (mkF m 44 #[.val (.ref a1)] []))) (fun t_ k_ => ?_) ?_
  · refine XS.ifYes X105.here hx rfl (pc0 := 9) (pc' := 44) rfl (hb hby own_d1_9) rfl ((if0 _ _).trans (teq rfl).1) (by decide) (by decide) ?_
    show Steps p.tables e below (T105.setTop (mkF m 44 #[.val (.ref a1)] [])) _
    exact k_
  obtain ⟨T106, h106, X106, e106, E106, A106, D106, -, st106⟩ := newO X105 hx hZ hown (hw _ (List.mem_of_getElem? (i := 33) rfl)) (hw _ (List.mem_of_getElem? (i := 34) rfl)) (hw _ (List.mem_of_getElem? (i := 35) rfl)) rfl (g := (mkF m 44 #[.val (.ref a1)] [])) rfl (hb hby own_d1_44) (by decide) (by decide)
  obtain ⟨b106, g106⟩ : ∃ z, z = T105.heap.size := ⟨_, rfl⟩
  rw [← g106] at A106 D106 st106
  have gb106 : n0 ≤ b106 := Nat.le_trans (own_oz (O.keep Kq105 all0)) (Nat.le_of_eq g106.symm)
  refine own_go st106 ?_
  show own_Rch p e below _ (T106.setTop (mkF m 47 #[.val (.ref a1)] [(.ref b106)]))
  have sbz : h0.size ≤ b106 := Nat.le_trans Kq105.1 (Nat.le_of_eq g106.symm)
  have CR107 := CRq105.trans (CHr.ext E106 CRq105.1)
  have K0108 : Keep h0 h106 [] := Kq105.ext E106
  have hk : _ ≤ h106.size := Nat.le_trans hk E106.1
  refine own_go (S' := (T106.setTop (mkF m 48 #[.val (.ref a1)] [(.ref b106), (.ref b106)]))) (fun t_ k_ => ?_) ?_
  · refine XS.dup X106.here hx rfl (hb hby own_d1_47) rfl rfl ?_
    show Steps p.tables e below (T106.setTop (mkF m 48 #[.val (.ref a1)] [(.ref b106), (.ref b106)])) _
    exact k_
  have D_value : Fld Z h106 b106 "java/lang/AbstractStringBuilder" "value" "[B" .null := D106 (Or.inl (hw _ (List.mem_of_getElem? (i := 50) rfl))) (ty := (.array .byte)) (by decide)
  have D_coder : Fld Z h106 b106 "java/lang/AbstractStringBuilder" "coder" "B" (.int 0) := D106 (Or.inl (hw _ (List.mem_of_getElem? (i := 52) rfl))) (ty := .byte) (by decide)
  have D_count : Fld Z h106 b106 "java/lang/AbstractStringBuilder" "count" "I" (.int (Int32.ofNat 0)) := D106 (Or.inl (hw _ (List.mem_of_getElem? (i := 74) rfl))) (ty := .int) (by decide)
  have sSB : Safe Z consts_1 _ h106 b106 := Safe.exa hZ.alike A106 (by decide) (by decide)
  obtain ⟨_, T109, L109, X109, ⟨vb, kb, rfl, N109q, K109, z109, E109, f1109, f2109, f3109, V109⟩, st109⟩ := own_callC X106 hx hZ (y := (⟨"java/lang/StringBuilder", "<init>", "()V"⟩ : MethodName)) rfl hown (hw _ (List.mem_of_getElem? (i := 36) rfl)) (hw _ (List.mem_of_getElem? (i := 37) rfl)) (hw _ (List.mem_of_getElem? (i := 35) rfl)) (hw _ (List.mem_of_getElem? (i := 38) rfl)) (by decide) (own_c4 l Z a0 hw [] b106 cz CS hcz h106 n0 (O.keep K0108 all0) D_value D_coder D_count A106 gb106) e106 (a := b106) (W := 1) (by decide) (by decide) (g := (mkF m 48 #[.val (.ref a1)] [(.ref b106), (.ref b106)])) rfl (by rw [hml]; rfl) (argsL := []) (rest := [(.ref b106)]) (lenOf own_pd19 rfl) rfl rfl rfl (hb hby own_d1_48) (by decide) (by decide)
  have N109 := Fr.app N105 N109q
  refine own_go st109 ?_
  show own_Rch p e below _ (T109.setTop (mkF m 51 #[.val (.ref a1)] [(.ref b106)]))
  have vbz : h0.size ≤ vb := Nat.le_trans K0108.1 z109
  have gv : n0 ≤ vb := Nat.le_trans (own_oz O) vbz
  have hk : _ ≤ T109.heap.size := Nat.le_trans hk K109.1
  have sVB := Safe.keep K109 (allS sSB all0) CR107.1 (Safe.new z109)
  have sSB2 := Safe.keep K109 (allS sSB all0) CR107.1 sSB
  have CR110 := CR107.trans (CHr.keep K109 (allS sSB all0) CR107.1)
  have K0111 : Keep h0 T109.heap [] := K0108.trans K109 (fun x hx => Or.inr (by cases List.mem_singleton.mp hx; exact sbz))
  have nv : b106 ≠ vb := Exa.neArv E109 V109 (hw _ (List.mem_of_getElem? (i := 34) rfl))
  have tk0 : (List.replicate 16 (0 : Int32)).take 0 = [] := rfl
  have wl0 : (List.replicate 16 (0 : Int32)).length = 16 := rfl
  refine own_go (S' := (T109.setTop (mkF m 52 #[.val (.ref a1)] [(.ref a1), (.ref b106)]))) (fun t_ k_ => ?_) ?_
  · refine XS.aloadN X109.here hx rfl (hb hby own_d1_51) rfl rfl ?_
    show Steps p.tables e below (T109.setTop (mkF m 52 #[.val (.ref a1)] [(.ref a1), (.ref b106)])) _
    exact k_
  obtain ⟨T112, X112, e112, st112⟩ := getF X109 hx hZ hown (host := "") (Or.inl (hw _ (List.mem_of_getElem? (i := 16) rfl))) Via.refl rfl (F1.keep K0111 nin0) (g := (mkF m 52 #[.val (.ref a1)] [(.ref a1), (.ref b106)])) rfl rfl (hb hby own_d1_52)
  refine own_go st112 ?_
  show own_Rch p e below _ (T112.setTop (mkF m 55 #[.val (.ref a1)] [(.ref sh), (.ref b106)]))
  obtain ⟨_, T113, L113, X113, ⟨rfl, N113q, K113, E113, f1113, f2113, f3113, V113⟩, st113⟩ := own_callV X112 hx hZ (y := (⟨"java/lang/StringBuilder", "append", "(Ljava/lang/String;)Ljava/lang/StringBuilder;"⟩ : MethodName)) (z := (⟨"java/lang/StringBuilder", "append", "(Ljava/lang/String;)Ljava/lang/StringBuilder;"⟩ : MethodName)) (C := "java/lang/StringBuilder") hown (hw _ (List.mem_of_getElem? (i := 53) rfl)) (hw _ (List.mem_of_getElem? (i := 54) rfl)) (notFace_of_selects (args := #[]) (mvT hZ (hw _ (List.mem_of_getElem? (i := 56) rfl)))) (hw _ (List.mem_of_getElem? (i := 56) rfl)) (hw _ (List.mem_of_getElem? (i := 55) rfl)) (hw _ (List.mem_of_getElem? (i := 35) rfl)) (hw _ (List.mem_of_getElem? (i := 57) rfl)) (by decide) (own_c7 l Z a0 hw [] b106 sh sv vb ks kb ([108, 97, 121, 101, 114, 115] : List Int32) (List.replicate 16 (0 : Int32)) 0 (by rw [wl0]; show 0 + 6 ≤ 16; omega) (by omega) cz CS hcz T109.heap n0 (O.keep K0111 all0) (Es.keep K0111) (Cs.keep K0111 nin0) (Fs.keep K0111 nin0) (Vs.keep K0111 nin0) f1109 f2109 f3109 E109 V109 (Nat.le_trans (own_oz O) sbz) gv nv) e112 E109 (W := 0) (by decide) (by decide) (g := (mkF m 55 #[.val (.ref a1)] [(.ref sh), (.ref b106)])) rfl (by rw [hml]; rfl) (argsL := [(.ref sh)]) (rest := []) (lenOf own_pd20 rfl) rfl rfl rfl (hb hby own_d1_55) (by decide) (by decide)
  have N113 := Fr.app N109 N113q
  refine own_go st113 ?_
  show own_Rch p e below _ (T113.setTop (mkF m 58 #[.val (.ref a1)] [(.ref b106)]))
  have hk : _ ≤ T113.heap.size := Nat.le_trans hk K113.1
  have sS113 := Safe.keep K113 (allS sSB2 (allS sVB all0)) CR110.1 sSB2
  have sV113 := Safe.keep K113 (allS sSB2 (allS sVB all0)) CR110.1 sVB
  have CR114 := CR110.trans (CHr.keep K113 (allS sSB2 (allS sVB all0)) CR110.1)
  have K0115 : Keep h0 T113.heap [] := K0111.trans K113 (fun y hy => Or.inr (allS (P := fun y => h0.size ≤ y) sbz (allS vbz all0) y hy))
  obtain ⟨w1, ew1⟩ : ∃ z : List Int32, z = ((List.replicate 16 (0 : Int32)).take 0 ++ ([108, 97, 121, 101, 114, 115] : List Int32) ++ (List.replicate 16 (0 : Int32)).drop (0 + ([108, 97, 121, 101, 114, 115] : List Int32).length)) := ⟨_, rfl⟩
  obtain ⟨n1, en1⟩ : ∃ z : Nat, z = (0 + ([108, 97, 121, 101, 114, 115] : List Int32).length) := ⟨_, rfl⟩
  rw [← ew1] at V113
  rw [← en1] at f3113
  have hc1 : n1 = 0 + 6 := by rw [en1]; rfl
  have tk1 : w1.take n1 = ([108, 97, 121, 101, 114, 115] : List Int32) := by rw [ew1, en1, own_takeCat (by rw [wl0]; omega), tk0]; rfl
  have wl1 : w1.length = 16 := by rw [ew1, own_cat0 (by rw [wl0]; show 0 + 6 ≤ 16; omega), wl0]
  have hq1 : n1 = (([108, 97, 121, 101, 114, 115] : List Int32)).length := by have q := congrArg List.length tk1; rw [List.length_take, wl1] at q; omega
  obtain ⟨a116, T116, h116, kx116, b116, k116, X116, e116, E116, hS, hk, hZ, hown, Ea116, Ca116, Fa116, Va116, la116, lb116, hC116, -, sf116, st116⟩ := ldcCH X113 hx hZ hown (hw _ (List.mem_of_getElem? (i := 100) rfl)) (own_wS hw) rfl hS hk hEL (by decide) CR114.1 (vs := ([45] : List Int32).map Value.int) (z := Int32.ofNat 1) ⟨by decide, rfl⟩ (by decide) (by decide) (g := (mkF m 58 #[.val (.ref a1)] [(.ref b106)])) rfl (hb hby own_d1_58) (n := 4) (by decide) (by decide) (by decide) (by decide)
  refine own_go st116 ?_
  show own_Rch p e below _ (T116.setTop (mkF m 60 #[.val (.ref a1)] [(.ref a116), (.ref b106)]))
  have CR117 := CR114.trans (hC116)
  have K0118 : Keep h0 h116 [] := K0115.ext E116
  have sS_116 := hC116.safe E113.lt sS113
  have sV_116 := hC116.safe V113.lt sV113
  have f1_116 := f1113.ext E116
  have f2_116 := f2113.ext E116
  have f3_116 := f3113.ext E116
  have E_116 := E113.ext E116
  have V_116 := V113.ext E116
  obtain ⟨_, T119, L119, X119, ⟨rfl, N119q, K119, E119, f1119, f2119, f3119, V119⟩, st119⟩ := own_callV X116 hx hZ (y := (⟨"java/lang/StringBuilder", "append", "(Ljava/lang/String;)Ljava/lang/StringBuilder;"⟩ : MethodName)) (z := (⟨"java/lang/StringBuilder", "append", "(Ljava/lang/String;)Ljava/lang/StringBuilder;"⟩ : MethodName)) (C := "java/lang/StringBuilder") hown (hw _ (List.mem_of_getElem? (i := 53) rfl)) (hw _ (List.mem_of_getElem? (i := 54) rfl)) (notFace_of_selects (args := #[]) (mvT hZ (hw _ (List.mem_of_getElem? (i := 56) rfl)))) (hw _ (List.mem_of_getElem? (i := 56) rfl)) (hw _ (List.mem_of_getElem? (i := 55) rfl)) (hw _ (List.mem_of_getElem? (i := 35) rfl)) (hw _ (List.mem_of_getElem? (i := 57) rfl)) (by decide) (own_c7 l Z a0 hw [] b106 a116 b116 vb k116 kb ([45] : List Int32) w1 n1 (by rw [wl1]; show n1 + 1 ≤ 16; omega) (by omega) cz CS hcz h116 n0 (O.keep K0118 all0) Ea116 Ca116 Fa116 Va116 f1_116 f2_116 f3_116 E_116 V_116 (Nat.le_trans (own_oz O) sbz) gv nv) e116 E_116 (W := 0) (by decide) (by decide) (g := (mkF m 60 #[.val (.ref a1)] [(.ref a116), (.ref b106)])) rfl (by rw [hml]; rfl) (argsL := [(.ref a116)]) (rest := []) (lenOf own_pd20 rfl) rfl rfl rfl (hb hby own_d1_60) (by decide) (by decide)
  have N119 := Fr.app N113 N119q
  refine own_go st119 ?_
  show own_Rch p e below _ (T119.setTop (mkF m 63 #[.val (.ref a1)] [(.ref b106)]))
  have hk : _ ≤ T119.heap.size := Nat.le_trans hk K119.1
  have sS119 := Safe.keep K119 (allS sS_116 (allS sV_116 all0)) CR117.1 sS_116
  have sV119 := Safe.keep K119 (allS sS_116 (allS sV_116 all0)) CR117.1 sV_116
  have CR120 := CR117.trans (CHr.keep K119 (allS sS_116 (allS sV_116 all0)) CR117.1)
  have K0121 : Keep h0 T119.heap [] := K0118.trans K119 (fun y hy => Or.inr (allS (P := fun y => h0.size ≤ y) sbz (allS vbz all0) y hy))
  obtain ⟨w2, ew2⟩ : ∃ z : List Int32, z = (w1.take n1 ++ ([45] : List Int32) ++ w1.drop (n1 + ([45] : List Int32).length)) := ⟨_, rfl⟩
  obtain ⟨n2, en2⟩ : ∃ z : Nat, z = (n1 + ([45] : List Int32).length) := ⟨_, rfl⟩
  rw [← ew2] at V119
  rw [← en2] at f3119
  have hc2 : n2 = n1 + 1 := by rw [en2]; rfl
  have tk2 : w2.take n2 = ([108, 97, 121, 101, 114, 115] : List Int32) ++ ([45] : List Int32) := by rw [ew2, en2, own_takeCat (by rw [wl1]; omega), tk1]
  have wl2 : w2.length = 16 := by rw [ew2, own_cat0 (by rw [wl1]; show n1 + 1 ≤ 16; omega), wl1]
  have hq2 : n2 = (([108, 97, 121, 101, 114, 115] : List Int32) ++ ([45] : List Int32)).length := by have q := congrArg List.length tk2; rw [List.length_take, wl2] at q; omega
  refine own_go (S' := (T119.setTop (mkF m 64 #[.val (.ref a1)] [(.ref a1), (.ref b106)]))) (fun t_ k_ => ?_) ?_
  · refine XS.aloadN X119.here hx rfl (hb hby own_d1_63) rfl rfl ?_
    show Steps p.tables e below (T119.setTop (mkF m 64 #[.val (.ref a1)] [(.ref a1), (.ref b106)])) _
    exact k_
  obtain ⟨T122, X122, e122, st122⟩ := getF X119 hx hZ hown (host := "") (Or.inl (hw _ (List.mem_of_getElem? (i := 106) rfl))) Via.refl rfl (F2.keep K0121 nin0) (g := (mkF m 64 #[.val (.ref a1)] [(.ref a1), (.ref b106)])) rfl rfl (hb hby own_d1_64)
  refine own_go st122 ?_
  show own_Rch p e below _ (T122.setTop (mkF m 67 #[.val (.ref a1)] [(.int dp), (.ref b106)]))
  obtain ⟨_, T123, L123, X123, ⟨rfl, N123q, K123, E123, f1123, f2123, f3123, V123⟩, st123⟩ := own_callV X122 hx hZ (y := (⟨"java/lang/StringBuilder", "append", "(I)Ljava/lang/StringBuilder;"⟩ : MethodName)) (z := (⟨"java/lang/StringBuilder", "append", "(I)Ljava/lang/StringBuilder;"⟩ : MethodName)) (C := "java/lang/StringBuilder") hown (hw _ (List.mem_of_getElem? (i := 110) rfl)) (hw _ (List.mem_of_getElem? (i := 111) rfl)) (notFace_of_selects (args := #[]) (mvT hZ (hw _ (List.mem_of_getElem? (i := 113) rfl)))) (hw _ (List.mem_of_getElem? (i := 113) rfl)) (hw _ (List.mem_of_getElem? (i := 112) rfl)) (hw _ (List.mem_of_getElem? (i := 35) rfl)) (hw _ (List.mem_of_getElem? (i := 114) rfl)) (by decide) (own_c16 l Z a0 hw [] b106 vb kb dp w2 n2 (by rw [wl2]; omega) (by omega) d1 d2 kd1 kd2 D1 D2 T1 T2 cz CS hcz T119.heap n0 (O.keep K0121 all0) f1119 f2119 f3119 E119 V119 (Nat.le_trans (own_oz O) sbz) gv nv) e122 E119 (W := 0) (by decide) (by decide) (g := (mkF m 67 #[.val (.ref a1)] [(.int dp), (.ref b106)])) rfl (by rw [hml]; rfl) (argsL := [(.int dp)]) (rest := []) (lenOf own_pd21 rfl) rfl rfl rfl (hb hby own_d1_67) (by decide) (by decide)
  have N123 := Fr.app N119 N123q
  refine own_go st123 ?_
  show own_Rch p e below _ (T123.setTop (mkF m 70 #[.val (.ref a1)] [(.ref b106)]))
  have hk : _ ≤ T123.heap.size := Nat.le_trans hk K123.1
  have sS123 := Safe.keep K123 (allS sS119 (allS sV119 all0)) CR120.1 sS119
  have sV123 := Safe.keep K123 (allS sS119 (allS sV119 all0)) CR120.1 sV119
  have CR124 := CR120.trans (CHr.keep K123 (allS sS119 (allS sV119 all0)) CR120.1)
  have K0125 : Keep h0 T123.heap [] := K0121.trans K123 (fun y hy => Or.inr (allS (P := fun y => h0.size ≤ y) sbz (allS vbz all0) y hy))
  obtain ⟨w3, ew3⟩ : ∃ z : List Int32, z = (w2.take n2 ++ (own_dec dp) ++ w2.drop (n2 + (own_dec dp).length)) := ⟨_, rfl⟩
  obtain ⟨n3, en3⟩ : ∃ z : Nat, z = (n2 + (own_dec dp).length) := ⟨_, rfl⟩
  rw [← ew3] at V123
  rw [← en3] at f3123
  have hc3 : n3 = n2 + (own_dec dp).length := by rw [en3]
  have tk3 : w3.take n3 = ([108, 97, 121, 101, 114, 115] : List Int32) ++ ([45] : List Int32) ++ (own_dec dp) := by rw [ew3, en3, own_takeCat (by rw [wl2]; omega), tk2]
  have wl3 : w3.length = 16 := by rw [ew3, own_cat0 (by rw [wl2]; show n2 + (own_dec dp).length ≤ 16; omega), wl2]
  have hq3 : n3 = (([108, 97, 121, 101, 114, 115] : List Int32) ++ ([45] : List Int32) ++ (own_dec dp)).length := by have q := congrArg List.length tk3; rw [List.length_take, wl3] at q; omega
  obtain ⟨a126, T126, h126, kx126, b126, k126, X126, e126, E126, hS, hk, hZ, hown, Ea126, Ca126, Fa126, Va126, la126, lb126, hC126, -, sf126, st126⟩ := ldcCH X123 hx hZ hown (hw _ (List.mem_of_getElem? (i := 179) rfl)) (own_wS hw) rfl hS hk hEL (by decide) CR124.1 (vs := ([120] : List Int32).map Value.int) (z := Int32.ofNat 1) ⟨by decide, rfl⟩ (by decide) (by decide) (g := (mkF m 70 #[.val (.ref a1)] [(.ref b106)])) rfl (hb hby own_d1_70) (n := 4) (by decide) (by decide) (by decide) (by decide)
  refine own_go st126 ?_
  show own_Rch p e below _ (T126.setTop (mkF m 72 #[.val (.ref a1)] [(.ref a126), (.ref b106)]))
  have CR127 := CR124.trans (hC126)
  have K0128 : Keep h0 h126 [] := K0125.ext E126
  have sS_126 := hC126.safe E123.lt sS123
  have sV_126 := hC126.safe V123.lt sV123
  have f1_126 := f1123.ext E126
  have f2_126 := f2123.ext E126
  have f3_126 := f3123.ext E126
  have E_126 := E123.ext E126
  have V_126 := V123.ext E126
  obtain ⟨_, T129, L129, X129, ⟨rfl, N129q, K129, E129, f1129, f2129, f3129, V129⟩, st129⟩ := own_callV X126 hx hZ (y := (⟨"java/lang/StringBuilder", "append", "(Ljava/lang/String;)Ljava/lang/StringBuilder;"⟩ : MethodName)) (z := (⟨"java/lang/StringBuilder", "append", "(Ljava/lang/String;)Ljava/lang/StringBuilder;"⟩ : MethodName)) (C := "java/lang/StringBuilder") hown (hw _ (List.mem_of_getElem? (i := 53) rfl)) (hw _ (List.mem_of_getElem? (i := 54) rfl)) (notFace_of_selects (args := #[]) (mvT hZ (hw _ (List.mem_of_getElem? (i := 56) rfl)))) (hw _ (List.mem_of_getElem? (i := 56) rfl)) (hw _ (List.mem_of_getElem? (i := 55) rfl)) (hw _ (List.mem_of_getElem? (i := 35) rfl)) (hw _ (List.mem_of_getElem? (i := 57) rfl)) (by decide) (own_c7 l Z a0 hw [] b106 a126 b126 vb k126 kb ([120] : List Int32) w3 n3 (by rw [wl3]; show n3 + 1 ≤ 16; omega) (by omega) cz CS hcz h126 n0 (O.keep K0128 all0) Ea126 Ca126 Fa126 Va126 f1_126 f2_126 f3_126 E_126 V_126 (Nat.le_trans (own_oz O) sbz) gv nv) e126 E_126 (W := 0) (by decide) (by decide) (g := (mkF m 72 #[.val (.ref a1)] [(.ref a126), (.ref b106)])) rfl (by rw [hml]; rfl) (argsL := [(.ref a126)]) (rest := []) (lenOf own_pd20 rfl) rfl rfl rfl (hb hby own_d1_72) (by decide) (by decide)
  have N129 := Fr.app N123 N129q
  refine own_go st129 ?_
  show own_Rch p e below _ (T129.setTop (mkF m 75 #[.val (.ref a1)] [(.ref b106)]))
  have hk : _ ≤ T129.heap.size := Nat.le_trans hk K129.1
  have sS129 := Safe.keep K129 (allS sS_126 (allS sV_126 all0)) CR127.1 sS_126
  have sV129 := Safe.keep K129 (allS sS_126 (allS sV_126 all0)) CR127.1 sV_126
  have CR130 := CR127.trans (CHr.keep K129 (allS sS_126 (allS sV_126 all0)) CR127.1)
  have K0131 : Keep h0 T129.heap [] := K0128.trans K129 (fun y hy => Or.inr (allS (P := fun y => h0.size ≤ y) sbz (allS vbz all0) y hy))
  obtain ⟨w4, ew4⟩ : ∃ z : List Int32, z = (w3.take n3 ++ ([120] : List Int32) ++ w3.drop (n3 + ([120] : List Int32).length)) := ⟨_, rfl⟩
  obtain ⟨n4, en4⟩ : ∃ z : Nat, z = (n3 + ([120] : List Int32).length) := ⟨_, rfl⟩
  rw [← ew4] at V129
  rw [← en4] at f3129
  have hc4 : n4 = n3 + 1 := by rw [en4]; rfl
  have tk4 : w4.take n4 = ([108, 97, 121, 101, 114, 115] : List Int32) ++ ([45] : List Int32) ++ (own_dec dp) ++ ([120] : List Int32) := by rw [ew4, en4, own_takeCat (by rw [wl3]; omega), tk3]
  have wl4 : w4.length = 16 := by rw [ew4, own_cat0 (by rw [wl3]; show n3 + 1 ≤ 16; omega), wl3]
  have hq4 : n4 = (([108, 97, 121, 101, 114, 115] : List Int32) ++ ([45] : List Int32) ++ (own_dec dp) ++ ([120] : List Int32)).length := by have q := congrArg List.length tk4; rw [List.length_take, wl4] at q; omega
  refine own_go (S' := (T129.setTop (mkF m 76 #[.val (.ref a1)] [(.ref a1), (.ref b106)]))) (fun t_ k_ => ?_) ?_
  · refine XS.aloadN X129.here hx rfl (hb hby own_d1_75) rfl rfl ?_
    show Steps p.tables e below (T129.setTop (mkF m 76 #[.val (.ref a1)] [(.ref a1), (.ref b106)])) _
    exact k_
  obtain ⟨T132, X132, e132, st132⟩ := getF X129 hx hZ hown (host := "") (Or.inl (hw _ (List.mem_of_getElem? (i := 108) rfl))) Via.refl rfl (F3.keep K0131 nin0) (g := (mkF m 76 #[.val (.ref a1)] [(.ref a1), (.ref b106)])) rfl rfl (hb hby own_d1_76)
  refine own_go st132 ?_
  show own_Rch p e below _ (T132.setTop (mkF m 79 #[.val (.ref a1)] [(.int wd), (.ref b106)]))
  obtain ⟨_, T133, L133, X133, ⟨rfl, N133q, K133, E133, f1133, f2133, f3133, V133⟩, st133⟩ := own_callV X132 hx hZ (y := (⟨"java/lang/StringBuilder", "append", "(I)Ljava/lang/StringBuilder;"⟩ : MethodName)) (z := (⟨"java/lang/StringBuilder", "append", "(I)Ljava/lang/StringBuilder;"⟩ : MethodName)) (C := "java/lang/StringBuilder") hown (hw _ (List.mem_of_getElem? (i := 110) rfl)) (hw _ (List.mem_of_getElem? (i := 111) rfl)) (notFace_of_selects (args := #[]) (mvT hZ (hw _ (List.mem_of_getElem? (i := 113) rfl)))) (hw _ (List.mem_of_getElem? (i := 113) rfl)) (hw _ (List.mem_of_getElem? (i := 112) rfl)) (hw _ (List.mem_of_getElem? (i := 35) rfl)) (hw _ (List.mem_of_getElem? (i := 114) rfl)) (by decide) (own_c16 l Z a0 hw [] b106 vb kb wd w4 n4 (by rw [wl4]; omega) (by omega) d1 d2 kd1 kd2 D1 D2 T1 T2 cz CS hcz T129.heap n0 (O.keep K0131 all0) f1129 f2129 f3129 E129 V129 (Nat.le_trans (own_oz O) sbz) gv nv) e132 E129 (W := 0) (by decide) (by decide) (g := (mkF m 79 #[.val (.ref a1)] [(.int wd), (.ref b106)])) rfl (by rw [hml]; rfl) (argsL := [(.int wd)]) (rest := []) (lenOf own_pd21 rfl) rfl rfl rfl (hb hby own_d1_79) (by decide) (by decide)
  have N133 := Fr.app N129 N133q
  refine own_go st133 ?_
  show own_Rch p e below _ (T133.setTop (mkF m 82 #[.val (.ref a1)] [(.ref b106)]))
  have hk : _ ≤ T133.heap.size := Nat.le_trans hk K133.1
  have sS133 := Safe.keep K133 (allS sS129 (allS sV129 all0)) CR130.1 sS129
  have sV133 := Safe.keep K133 (allS sS129 (allS sV129 all0)) CR130.1 sV129
  have CR134 := CR130.trans (CHr.keep K133 (allS sS129 (allS sV129 all0)) CR130.1)
  have K0135 : Keep h0 T133.heap [] := K0131.trans K133 (fun y hy => Or.inr (allS (P := fun y => h0.size ≤ y) sbz (allS vbz all0) y hy))
  obtain ⟨w5, ew5⟩ : ∃ z : List Int32, z = (w4.take n4 ++ (own_dec wd) ++ w4.drop (n4 + (own_dec wd).length)) := ⟨_, rfl⟩
  obtain ⟨n5, en5⟩ : ∃ z : Nat, z = (n4 + (own_dec wd).length) := ⟨_, rfl⟩
  rw [← ew5] at V133
  rw [← en5] at f3133
  have hc5 : n5 = n4 + (own_dec wd).length := by rw [en5]
  have tk5 : w5.take n5 = ([108, 97, 121, 101, 114, 115] : List Int32) ++ ([45] : List Int32) ++ (own_dec dp) ++ ([120] : List Int32) ++ (own_dec wd) := by rw [ew5, en5, own_takeCat (by rw [wl4]; omega), tk4]
  have wl5 : w5.length = 16 := by rw [ew5, own_cat0 (by rw [wl4]; show n4 + (own_dec wd).length ≤ 16; omega), wl4]
  have hq5 : n5 = (([108, 97, 121, 101, 114, 115] : List Int32) ++ ([45] : List Int32) ++ (own_dec dp) ++ ([120] : List Int32) ++ (own_dec wd)).length := by have q := congrArg List.length tk5; rw [List.length_take, wl5] at q; omega
  obtain ⟨_, T136, L136, X136, ⟨ra, rb, rk, rfl, N136q, K136, z1136, z2136, E136, c136, f136, V136⟩, st136⟩ := own_callV X133 hx hZ (y := (⟨"java/lang/StringBuilder", "toString", "()Ljava/lang/String;"⟩ : MethodName)) (z := (⟨"java/lang/StringBuilder", "toString", "()Ljava/lang/String;"⟩ : MethodName)) (C := "java/lang/StringBuilder") hown (hw _ (List.mem_of_getElem? (i := 133) rfl)) (hw _ (List.mem_of_getElem? (i := 134) rfl)) (notFace_of_selects (args := #[]) (mvT hZ (hw _ (List.mem_of_getElem? (i := 136) rfl)))) (hw _ (List.mem_of_getElem? (i := 136) rfl)) (hw _ (List.mem_of_getElem? (i := 135) rfl)) (hw _ (List.mem_of_getElem? (i := 35) rfl)) (hw _ (List.mem_of_getElem? (i := 137) rfl)) (by decide) (own_c21 l Z a0 hw [] b106 vb kb w5 n5 (by omega) (by omega) (by omega) cz CS hcz T133.heap n0 (O.keep K0135 all0) f1133 f2133 f3133 E133 V133) rfl E133 (W := 0) (by decide) (by decide) (g := (mkF m 82 #[.val (.ref a1)] [(.ref b106)])) rfl (by rw [hml]; rfl) (argsL := []) (rest := []) (lenOf own_pd22 rfl) rfl rfl rfl (hb hby own_d1_82) (by decide) (by decide)
  have N136 := Fr.app N133 N136q
  refine own_go st136 ?_
  show own_Rch p e below _ (T136.setTop (mkF m 85 #[.val (.ref a1)] [(.ref ra)]))
  have hk : _ ≤ T136.heap.size := Nat.le_trans hk K136.1
  have CR137 := CR134.trans (CHr.keep K136 all0 CR134.1)
  have K0138 : Keep h0 T136.heap [] := K0135.trans K136 (fun y hy => by cases hy)
  rw [tk5, hq5] at V136
  refine own_retW (a0 := a0) X136 hZ hEL hS rfl hk CR137 (v := some (.ref ra)) (fun h => by rw [Bd.returns] at h; cases h) Bd.notSynchronized (fun fs hr => retOut X136 hx Bd.returns rfl (Or.inr (Or.inr (Or.inr (Or.inr ⟨rfl, rfl, rfl⟩)))) (hb hby own_d1_85) hr) (by decide) (by decide) ?_
  exact ⟨ra, rb, rk, rfl, N136, K0138, E136, c136, f136, V136⟩
theorem own_c0_ef (m : MethodId) (x0 : Int32) : entryFrame m #[(.int x0)] maxLocals = mkF m 0 #[.val (.int x0), .unset, .unset, .unset] [] := by first | (simp [entryFrame, mkF, argsToLocals, Value.category, maxLocals]; done) | rfl
theorem own_pn7 : plainName "com/example/mooring/mooring/bench/WorkloadLabelPinLaw" = true := by first | (simp [plainName, overriddenIn]; done) | decide +kernel
set_option maxRecDepth 65536 in
set_option maxHeartbeats 40000000 in
theorem own_c0 (l : Launch) (Z : State) (a0 : Array Value) (hw : ∀ d ∈ tables_1, d.before a0 Z = true) (wsC : List Jvm.Cond) (hEL : EW Z a0 consts_1) (p1 : Int32) (w0 w1 w2 w3 : Addr) (sF vF : Addr) (kF : ClassId) (sL vL : Addr) (kL : ClassId) (d1 d2 : Addr) (kd1 kd2 : ClassId) (D1 : Sta Z Z.heap "java/lang/Integer" "DigitOnes" "[B" (.ref d1)) (D2 : Sta Z Z.heap "java/lang/Integer" "DigitTens" "[B" (.ref d2)) (T1 : Arv Z Z.heap d1 kd1 .byte 100 (own_ones.map Value.int) (.int 0)) (T2 : Arv Z Z.heap d2 kd2 .byte 100 (own_tens.map Value.int) (.int 0)) (cz : Int32) (CS : Sta Z Z.heap "java/lang/String" "COMPACT_STRINGS" "Z" (.int cz)) (hcz : ¬ cz = (0 : Int32)) (h0 : Heap) (n0 : Nat) (O : Old Z n0 h0) (S0 : Sta Z Z.heap "com/example/mooring/mooring/bench/Workload" "FAN_2000" "Lcom/example/mooring/mooring/bench/Workload;" (.ref w0)) (Ew0 : Exa Z Z.heap w0 "com/example/mooring/mooring/bench/Workload") (Fs0 : Fld Z Z.heap w0 "com/example/mooring/mooring/bench/Workload" "shape" "Ljava/lang/String;" (.ref sF)) (Fd0 : Fld Z Z.heap w0 "com/example/mooring/mooring/bench/Workload" "depth" "I" (.int 1)) (Fw0 : Fld Z Z.heap w0 "com/example/mooring/mooring/bench/Workload" "width" "I" (.int 2000)) (S1 : Sta Z Z.heap "com/example/mooring/mooring/bench/Workload" "LAYERS_20X100" "Lcom/example/mooring/mooring/bench/Workload;" (.ref w1)) (Ew1 : Exa Z Z.heap w1 "com/example/mooring/mooring/bench/Workload") (Fs1 : Fld Z Z.heap w1 "com/example/mooring/mooring/bench/Workload" "shape" "Ljava/lang/String;" (.ref sL)) (Fd1 : Fld Z Z.heap w1 "com/example/mooring/mooring/bench/Workload" "depth" "I" (.int 20)) (Fw1 : Fld Z Z.heap w1 "com/example/mooring/mooring/bench/Workload" "width" "I" (.int 100)) (S2 : Sta Z Z.heap "com/example/mooring/mooring/bench/Workload" "FAN_10000" "Lcom/example/mooring/mooring/bench/Workload;" (.ref w2)) (Ew2 : Exa Z Z.heap w2 "com/example/mooring/mooring/bench/Workload") (Fs2 : Fld Z Z.heap w2 "com/example/mooring/mooring/bench/Workload" "shape" "Ljava/lang/String;" (.ref sF)) (Fd2 : Fld Z Z.heap w2 "com/example/mooring/mooring/bench/Workload" "depth" "I" (.int 1)) (Fw2 : Fld Z Z.heap w2 "com/example/mooring/mooring/bench/Workload" "width" "I" (.int 10000)) (S3 : Sta Z Z.heap "com/example/mooring/mooring/bench/Workload" "LAYERS_100X100" "Lcom/example/mooring/mooring/bench/Workload;" (.ref w3)) (Ew3 : Exa Z Z.heap w3 "com/example/mooring/mooring/bench/Workload") (Fs3 : Fld Z Z.heap w3 "com/example/mooring/mooring/bench/Workload" "shape" "Ljava/lang/String;" (.ref sL)) (Fd3 : Fld Z Z.heap w3 "com/example/mooring/mooring/bench/Workload" "depth" "I" (.int 100)) (Fw3 : Fld Z Z.heap w3 "com/example/mooring/mooring/bench/Workload" "width" "I" (.int 100)) (EsF : Exa Z Z.heap sF "java/lang/String") (CsF : Fld Z Z.heap sF "java/lang/String" "coder" "B" (.int 0)) (FvF : Fld Z Z.heap sF "java/lang/String" "value" "[B" (.ref vF)) (VsF : Arv Z Z.heap vF kF .byte (Int32.ofNat ([102, 97, 110] : List Int32).length) (([102, 97, 110] : List Int32).map Value.int) (.int 0)) (EsL : Exa Z Z.heap sL "java/lang/String") (CsL : Fld Z Z.heap sL "java/lang/String" "coder" "B" (.int 0)) (FvL : Fld Z Z.heap sL "java/lang/String" "value" "[B" (.ref vL)) (VsL : Arv Z Z.heap vL kL .byte (Int32.ofNat ([108, 97, 121, 101, 114, 115] : List Int32).length) (([108, 97, 121, 101, 114, 115] : List Int32).map Value.int) (.int 0)) :
    own_CtrW l Z consts_1 x code maxLocals ret wsC room_1 h0 #[(.int p1)] (fun v h L => v = some (.int 1) ∧ Fr n0 L) := by
  refine own_ctrW (plainFor_of_name own_pn7) ?_
  intro p e s m below meth c s₁ Bd hml0 hx hby hZ hown0 X0 e0 eS CH hS
  have hml : c.maxLocals = 4 := hml0
  have hown : (s.setVm s.vm).vm.findClass "com/example/mooring/mooring/bench/WorkloadLabelPinLaw" = some m.cls := hown0
  have hnm := (name_of_methodNamed Bd.named Bd.method).1
  have N0 := Fr.nil n0
  have hk : 0 ≤ h0.size := Nat.zero_le _
  have CR0 : CHr Z consts_1 s.vm s.heap s.vm h0 := by rw [eS]; exact CHr.refl CH
  have K00 : Keep h0 h0 [] := Keep.refl h0 []
  refine own_cast (own_c0_ef m p1) ?_
  refine own_go (S' := (s₁.setTop (mkF m 5 #[.val (.int p1), .val (.int (p1 &&& (3 : Int32))), .unset, .unset] [(.int (p1 &&& (3 : Int32)))]))) (fun t_ k_ => ?_) ?_
  · refine XS.iloadN X0.here hx rfl (hb hby at_0) rfl ?_
    show Steps p.tables e below (s₁.setTop (mkF m 1 #[.val (.int p1), .unset, .unset, .unset] [(.int p1)])) _
    refine XS.iconst X0.here hx rfl (hb hby at_1) ?_
    show Steps p.tables e below (s₁.setTop (mkF m 2 #[.val (.int p1), .unset, .unset, .unset] [(.int (3 : Int32)), (.int p1)])) _
    refine XS.iand X0.here hx rfl (hb hby at_2) rfl ?_
    show Steps p.tables e below (s₁.setTop (mkF m 3 #[.val (.int p1), .unset, .unset, .unset] [(.int (p1 &&& (3 : Int32)))])) _
    refine XS.istoreN X0.here hx rfl (hb hby at_3) rfl (l' := #[.val (.int p1), .val (.int (p1 &&& (3 : Int32))), .unset, .unset]) rfl ?_
    show Steps p.tables e below (s₁.setTop (mkF m 4 #[.val (.int p1), .val (.int (p1 &&& (3 : Int32))), .unset, .unset] [])) _
    refine XS.iloadN X0.here hx rfl (hb hby at_4) rfl ?_
    show Steps p.tables e below (s₁.setTop (mkF m 5 #[.val (.int p1), .val (.int (p1 &&& (3 : Int32))), .unset, .unset] [(.int (p1 &&& (3 : Int32)))])) _
    exact k_
  by_cases h0_ : (p1 &&& (3 : Int32)) = (0 : Int32)
  · skip
    refine own_go (S' := (s₁.setTop (mkF m 8 #[.val (.int p1), .val (.int (p1 &&& (3 : Int32))), .unset, .unset] []))) (fun t_ k_ => ?_) ?_
    · refine XS.ifNo X0.here hx rfl (hb hby at_5) rfl ((if0 _ _).trans (teq h0_).2) ?_
      show Steps p.tables e below (s₁.setTop (mkF m 8 #[.val (.int p1), .val (.int (p1 &&& (3 : Int32))), .unset, .unset] [])) _
      exact k_
    obtain ⟨T101, X101, e101, st101⟩ := getS2 X0 hx hZ hown (host := "") (Or.inl (hw _ (List.mem_of_getElem? (i := 0) rfl))) Via.refl e0 (S0.ext O.2) (g := (mkF m 8 #[.val (.int p1), .val (.int (p1 &&& (3 : Int32))), .unset, .unset] [])) rfl (hb hby at_8)
    refine own_go st101 ?_
    show own_Rch p e below _ (T101.setTop (mkF m 11 #[.val (.int p1), .val (.int (p1 &&& (3 : Int32))), .unset, .unset] [(.ref w0)]))
    refine own_go (S' := (T101.setTop (mkF m 12 #[.val (.int p1), .val (.int (p1 &&& (3 : Int32))), .val (.ref w0), .unset] []))) (fun t_ k_ => ?_) ?_
    · refine XS.astoreN X101.here hx rfl (hb hby at_11) rfl rfl (l' := #[.val (.int p1), .val (.int (p1 &&& (3 : Int32))), .val (.ref w0), .unset]) rfl ?_
      show Steps p.tables e below (T101.setTop (mkF m 12 #[.val (.int p1), .val (.int (p1 &&& (3 : Int32))), .val (.ref w0), .unset] [])) _
      exact k_
    obtain ⟨a102, T102, h102, kx102, b102, k102, X102, e102, E102, hS, hk, hZ, hown, Ea102, Ca102, Fa102, Va102, la102, lb102, hC102, -, sf102, st102⟩ := ldcCH X101 hx hZ hown (hw _ (List.mem_of_getElem? (i := 3) rfl)) (own_wS hw) e101 hS hk hEL (by decide) CR0.1 (vs := ([102, 97, 110, 45, 50, 48, 48, 48] : List Int32).map Value.int) (z := Int32.ofNat 8) ⟨by decide, rfl⟩ (by decide) (by decide) (g := (mkF m 12 #[.val (.int p1), .val (.int (p1 &&& (3 : Int32))), .val (.ref w0), .unset] [])) rfl (hb hby at_12) (n := 32) (by decide) (by decide) (by decide) (by decide)
    refine own_go st102 ?_
    show own_Rch p e below _ (T102.setTop (mkF m 14 #[.val (.int p1), .val (.int (p1 &&& (3 : Int32))), .val (.ref w0), .unset] [(.ref a102)]))
    have CR103 := CR0.trans (hC102)
    have K0104 : Keep h0 h102 [] := K00.ext E102
    refine own_go (S' := (T102.setTop (mkF m 57 #[.val (.int p1), .val (.int (p1 &&& (3 : Int32))), .val (.ref w0), .val (.ref a102)] [(.ref w0), (.ref a102)]))) (fun t_ k_ => ?_) ?_
    · refine XS.astoreN X102.here hx rfl (hb hby at_14) rfl rfl (l' := #[.val (.int p1), .val (.int (p1 &&& (3 : Int32))), .val (.ref w0), .val (.ref a102)]) rfl ?_
      show Steps p.tables e below (T102.setTop (mkF m 15 #[.val (.int p1), .val (.int (p1 &&& (3 : Int32))), .val (.ref w0), .val (.ref a102)] [])) _
      refine XS.goto X102.here hx rfl (pc0 := 15) (pc' := 55) rfl (hb hby at_15) (by decide) (by decide) ?_
      show Steps p.tables e below (T102.setTop (mkF m 55 #[.val (.int p1), .val (.int (p1 &&& (3 : Int32))), .val (.ref w0), .val (.ref a102)] [])) _
      refine XS.aloadN X102.here hx rfl (hb hby at_55) rfl rfl ?_
      show Steps p.tables e below (T102.setTop (mkF m 56 #[.val (.int p1), .val (.int (p1 &&& (3 : Int32))), .val (.ref w0), .val (.ref a102)] [(.ref a102)])) _
      refine XS.aloadN X102.here hx rfl (hb hby at_56) rfl rfl ?_
      show Steps p.tables e below (T102.setTop (mkF m 57 #[.val (.int p1), .val (.int (p1 &&& (3 : Int32))), .val (.ref w0), .val (.ref a102)] [(.ref w0), (.ref a102)])) _
      exact k_
    have nZ : Z.heap.size = n0 := O.1
    obtain ⟨_, T105, L105, kx105, X105, ⟨ra, rb, rk, rfl, N105q, K105, E105, c105, f105, V105⟩, hC105, hS, hk, hZ, hown, st105⟩ := own_callVW X102 hx hZ (y := (⟨"com/example/mooring/mooring/bench/Workload", "label", "()Ljava/lang/String;"⟩ : MethodName)) (z := (⟨"com/example/mooring/mooring/bench/Workload", "label", "()Ljava/lang/String;"⟩ : MethodName)) (C := "com/example/mooring/mooring/bench/Workload") hown (hw _ (List.mem_of_getElem? (i := 11) rfl)) (hw _ (List.mem_of_getElem? (i := 12) rfl)) (notFace_of_selects (args := #[]) (mvT hZ (hw _ (List.mem_of_getElem? (i := 14) rfl)))) (hw _ (List.mem_of_getElem? (i := 14) rfl)) (hw _ (List.mem_of_getElem? (i := 13) rfl)) (hw _ (List.mem_of_getElem? (i := 1) rfl)) (hw _ (List.mem_of_getElem? (i := 15) rfl)) (by decide) (own_c1F l Z a0 hw [] hEL w0 sF vF kF 1 2000 (by decide +kernel) d1 d2 kd1 kd2 D1 D2 T1 T2 cz CS hcz h102 n0 (O.keep K0104 all0) ((Fs0.ext O.2).keep K0104 nin0) ((Fd0.ext O.2).keep K0104 nin0) ((Fw0.ext O.2).keep K0104 nin0) ((Ew0.ext O.2).keep K0104) ((EsF.ext O.2).keep K0104) ((CsF.ext O.2).keep K0104 nin0) ((FvF.ext O.2).keep K0104 nin0) ((VsF.ext O.2).keep K0104 nin0) (nZ ▸ EsF.lt) (nZ ▸ VsF.lt)) e102 ((Ew0.ext O.2).keep K0104) hEL CR103.1 hS hk (W := 1) (by decide) (by decide) (g := (mkF m 57 #[.val (.int p1), .val (.int (p1 &&& (3 : Int32))), .val (.ref w0), .val (.ref a102)] [(.ref w0), (.ref a102)])) rfl (by rw [hml]; rfl) (argsL := []) (rest := [(.ref a102)]) (lenOf own_pd22 rfl) rfl rfl rfl (hb hby at_57) (by decide) (by decide)
    have N105 := Fr.app N0 N105q
    refine own_go st105 ?_
    show own_Rch p e below _ (T105.setTop (mkF m 60 #[.val (.int p1), .val (.int (p1 &&& (3 : Int32))), .val (.ref w0), .val (.ref a102)] [(.ref ra), (.ref a102)]))
    have CR106 := CR103.trans (hC105)
    have K0107 : Keep h0 T105.heap [] := K0104.trans K105 (fun y hy => by cases hy)
    obtain ⟨_, T108, L108, X108, ⟨rfl, N108q, k108⟩, st108⟩ := own_callV X105 hx hZ (y := (⟨"java/lang/String", "equals", "(Ljava/lang/Object;)Z"⟩ : MethodName)) (z := (⟨"java/lang/String", "equals", "(Ljava/lang/Object;)Z"⟩ : MethodName)) (C := "java/lang/String") hown (hw _ (List.mem_of_getElem? (i := 175) rfl)) (hw _ (List.mem_of_getElem? (i := 20) rfl)) (notFace_of_selects (args := #[]) (mvT hZ (hw _ (List.mem_of_getElem? (i := 22) rfl)))) (hw _ (List.mem_of_getElem? (i := 22) rfl)) (hw _ (List.mem_of_getElem? (i := 21) rfl)) (hw _ (List.mem_of_getElem? (i := 4) rfl)) (hw _ (List.mem_of_getElem? (i := 23) rfl)) (by decide) (own_c2 l Z a0 hw [] a102 ra b102 rb k102 rk ([102, 97, 110, 45, 50, 48, 48, 48] : List Int32) (([102, 97, 110] : List Int32) ++ [45] ++ own_dec (1 * 2000)) (by decide) (by decide +kernel) cz CS hcz T105.heap n0 (O.keep K0107 all0) (Ea102.keep K105) (Ca102.keep K105 nin0) (Fa102.keep K105 nin0) (Va102.keep K105 nin0) E105 c105 f105 V105) rfl (Ea102.keep K105) (W := 0) (by decide) (by decide) (g := (mkF m 60 #[.val (.int p1), .val (.int (p1 &&& (3 : Int32))), .val (.ref w0), .val (.ref a102)] [(.ref ra), (.ref a102)])) rfl (by rw [hml]; rfl) (argsL := [(.ref ra)]) (rest := []) (lenOf own_pd18 rfl) rfl rfl rfl (hb hby at_60) (by decide) (by decide)
    have N108 := Fr.app N105 N108q
    refine own_go st108 ?_
    show own_Rch p e below _ (T108.setTop (mkF m 63 #[.val (.int p1), .val (.int (p1 &&& (3 : Int32))), .val (.ref w0), .val (.ref a102)] [(.int (if ([102, 97, 110, 45, 50, 48, 48, 48] : List Int32) = (([102, 97, 110] : List Int32) ++ [45] ++ own_dec (1 * 2000)) then (1 : Int32) else (0 : Int32)))]))
    have CRz := CR106
    rw [← k108] at CRz
    have hk := hk
    rw [← k108] at hk
    rw [if_pos (by decide +kernel)]
    show own_Rch p e below _ (T108.setTop (mkF m 63 #[.val (.int p1), .val (.int (p1 &&& (3 : Int32))), .val (.ref w0), .val (.ref a102)] [(.int (1 : Int32))]))
    refine own_retW (a0 := a0) X108 hZ hEL hS rfl hk CRz (v := some (.int (1 : Int32))) (fun h => by rw [Bd.returns] at h; cases h) Bd.notSynchronized (fun fs hr => retN X108 hx (t := .boolean) Bd.returns (by simp) (hb hby at_63) hr) (by decide) (by decide) ?_
    exact ⟨rfl, N108⟩
  · skip
    refine own_go (S' := (s₁.setTop (mkF m 20 #[.val (.int p1), .val (.int (p1 &&& (3 : Int32))), .unset, .unset] [(.int (1 : Int32)), (.int (p1 &&& (3 : Int32)))]))) (fun t_ k_ => ?_) ?_
    · refine XS.ifYes X0.here hx rfl (pc0 := 5) (pc' := 18) rfl (hb hby at_5) rfl ((if0 _ _).trans (feq h0_).2) (by decide) (by decide) ?_
      show Steps p.tables e below (s₁.setTop (mkF m 18 #[.val (.int p1), .val (.int (p1 &&& (3 : Int32))), .unset, .unset] [])) _
      refine XS.iloadN X0.here hx rfl (hb hby at_18) rfl ?_
      show Steps p.tables e below (s₁.setTop (mkF m 19 #[.val (.int p1), .val (.int (p1 &&& (3 : Int32))), .unset, .unset] [(.int (p1 &&& (3 : Int32)))])) _
      refine XS.iconst X0.here hx rfl (hb hby at_19) ?_
      show Steps p.tables e below (s₁.setTop (mkF m 20 #[.val (.int p1), .val (.int (p1 &&& (3 : Int32))), .unset, .unset] [(.int (1 : Int32)), (.int (p1 &&& (3 : Int32)))])) _
      exact k_
    by_cases h1 : (p1 &&& (3 : Int32)) = (1 : Int32)
    · skip
      refine own_go (S' := (s₁.setTop (mkF m 23 #[.val (.int p1), .val (.int (p1 &&& (3 : Int32))), .unset, .unset] []))) (fun t_ k_ => ?_) ?_
      · refine XS.icmpNo X0.here hx rfl (hb hby at_20) rfl (teq h1).2 ?_
        show Steps p.tables e below (s₁.setTop (mkF m 23 #[.val (.int p1), .val (.int (p1 &&& (3 : Int32))), .unset, .unset] [])) _
        exact k_
      obtain ⟨T109, X109, e109, st109⟩ := getS2 X0 hx hZ hown (host := "") (Or.inl (hw _ (List.mem_of_getElem? (i := 183) rfl))) Via.refl e0 (S1.ext O.2) (g := (mkF m 23 #[.val (.int p1), .val (.int (p1 &&& (3 : Int32))), .unset, .unset] [])) rfl (hb hby at_23)
      refine own_go st109 ?_
      show own_Rch p e below _ (T109.setTop (mkF m 26 #[.val (.int p1), .val (.int (p1 &&& (3 : Int32))), .unset, .unset] [(.ref w1)]))
      refine own_go (S' := (T109.setTop (mkF m 27 #[.val (.int p1), .val (.int (p1 &&& (3 : Int32))), .val (.ref w1), .unset] []))) (fun t_ k_ => ?_) ?_
      · refine XS.astoreN X109.here hx rfl (hb hby at_26) rfl rfl (l' := #[.val (.int p1), .val (.int (p1 &&& (3 : Int32))), .val (.ref w1), .unset]) rfl ?_
        show Steps p.tables e below (T109.setTop (mkF m 27 #[.val (.int p1), .val (.int (p1 &&& (3 : Int32))), .val (.ref w1), .unset] [])) _
        exact k_
      obtain ⟨a110, T110, h110, kx110, b110, k110, X110, e110, E110, hS, hk, hZ, hown, Ea110, Ca110, Fa110, Va110, la110, lb110, hC110, -, sf110, st110⟩ := ldcCH X109 hx hZ hown (hw _ (List.mem_of_getElem? (i := 185) rfl)) (own_wS hw) e109 hS hk hEL (by decide) CR0.1 (vs := ([108, 97, 121, 101, 114, 115, 45, 50, 48, 120, 49, 48, 48] : List Int32).map Value.int) (z := Int32.ofNat 13) ⟨by decide, rfl⟩ (by decide) (by decide) (g := (mkF m 27 #[.val (.int p1), .val (.int (p1 &&& (3 : Int32))), .val (.ref w1), .unset] [])) rfl (hb hby at_27) (n := 52) (by decide) (by decide) (by decide) (by decide)
      refine own_go st110 ?_
      show own_Rch p e below _ (T110.setTop (mkF m 29 #[.val (.int p1), .val (.int (p1 &&& (3 : Int32))), .val (.ref w1), .unset] [(.ref a110)]))
      have CR111 := CR0.trans (hC110)
      have K0112 : Keep h0 h110 [] := K00.ext E110
      refine own_go (S' := (T110.setTop (mkF m 57 #[.val (.int p1), .val (.int (p1 &&& (3 : Int32))), .val (.ref w1), .val (.ref a110)] [(.ref w1), (.ref a110)]))) (fun t_ k_ => ?_) ?_
      · refine XS.astoreN X110.here hx rfl (hb hby at_29) rfl rfl (l' := #[.val (.int p1), .val (.int (p1 &&& (3 : Int32))), .val (.ref w1), .val (.ref a110)]) rfl ?_
        show Steps p.tables e below (T110.setTop (mkF m 30 #[.val (.int p1), .val (.int (p1 &&& (3 : Int32))), .val (.ref w1), .val (.ref a110)] [])) _
        refine XS.goto X110.here hx rfl (pc0 := 30) (pc' := 55) rfl (hb hby at_30) (by decide) (by decide) ?_
        show Steps p.tables e below (T110.setTop (mkF m 55 #[.val (.int p1), .val (.int (p1 &&& (3 : Int32))), .val (.ref w1), .val (.ref a110)] [])) _
        refine XS.aloadN X110.here hx rfl (hb hby at_55) rfl rfl ?_
        show Steps p.tables e below (T110.setTop (mkF m 56 #[.val (.int p1), .val (.int (p1 &&& (3 : Int32))), .val (.ref w1), .val (.ref a110)] [(.ref a110)])) _
        refine XS.aloadN X110.here hx rfl (hb hby at_56) rfl rfl ?_
        show Steps p.tables e below (T110.setTop (mkF m 57 #[.val (.int p1), .val (.int (p1 &&& (3 : Int32))), .val (.ref w1), .val (.ref a110)] [(.ref w1), (.ref a110)])) _
        exact k_
      have nZ : Z.heap.size = n0 := O.1
      obtain ⟨_, T113, L113, kx113, X113, ⟨ra, rb, rk, rfl, N113q, K113, E113, c113, f113, V113⟩, hC113, hS, hk, hZ, hown, st113⟩ := own_callVW X110 hx hZ (y := (⟨"com/example/mooring/mooring/bench/Workload", "label", "()Ljava/lang/String;"⟩ : MethodName)) (z := (⟨"com/example/mooring/mooring/bench/Workload", "label", "()Ljava/lang/String;"⟩ : MethodName)) (C := "com/example/mooring/mooring/bench/Workload") hown (hw _ (List.mem_of_getElem? (i := 11) rfl)) (hw _ (List.mem_of_getElem? (i := 12) rfl)) (notFace_of_selects (args := #[]) (mvT hZ (hw _ (List.mem_of_getElem? (i := 14) rfl)))) (hw _ (List.mem_of_getElem? (i := 14) rfl)) (hw _ (List.mem_of_getElem? (i := 13) rfl)) (hw _ (List.mem_of_getElem? (i := 1) rfl)) (hw _ (List.mem_of_getElem? (i := 15) rfl)) (by decide) (own_c1L l Z a0 hw [] hEL w1 sL vL kL 20 100 (by decide +kernel) d1 d2 kd1 kd2 D1 D2 T1 T2 cz CS hcz h110 n0 (O.keep K0112 all0) ((Fs1.ext O.2).keep K0112 nin0) ((Fd1.ext O.2).keep K0112 nin0) ((Fw1.ext O.2).keep K0112 nin0) ((Ew1.ext O.2).keep K0112) ((EsL.ext O.2).keep K0112) ((CsL.ext O.2).keep K0112 nin0) ((FvL.ext O.2).keep K0112 nin0) ((VsL.ext O.2).keep K0112 nin0) (nZ ▸ EsL.lt) (nZ ▸ VsL.lt)) e110 ((Ew1.ext O.2).keep K0112) hEL CR111.1 hS hk (W := 1) (by decide) (by decide) (g := (mkF m 57 #[.val (.int p1), .val (.int (p1 &&& (3 : Int32))), .val (.ref w1), .val (.ref a110)] [(.ref w1), (.ref a110)])) rfl (by rw [hml]; rfl) (argsL := []) (rest := [(.ref a110)]) (lenOf own_pd22 rfl) rfl rfl rfl (hb hby at_57) (by decide) (by decide)
      have N113 := Fr.app N0 N113q
      refine own_go st113 ?_
      show own_Rch p e below _ (T113.setTop (mkF m 60 #[.val (.int p1), .val (.int (p1 &&& (3 : Int32))), .val (.ref w1), .val (.ref a110)] [(.ref ra), (.ref a110)]))
      have CR114 := CR111.trans (hC113)
      have K0115 : Keep h0 T113.heap [] := K0112.trans K113 (fun y hy => by cases hy)
      obtain ⟨_, T116, L116, X116, ⟨rfl, N116q, k116⟩, st116⟩ := own_callV X113 hx hZ (y := (⟨"java/lang/String", "equals", "(Ljava/lang/Object;)Z"⟩ : MethodName)) (z := (⟨"java/lang/String", "equals", "(Ljava/lang/Object;)Z"⟩ : MethodName)) (C := "java/lang/String") hown (hw _ (List.mem_of_getElem? (i := 175) rfl)) (hw _ (List.mem_of_getElem? (i := 20) rfl)) (notFace_of_selects (args := #[]) (mvT hZ (hw _ (List.mem_of_getElem? (i := 22) rfl)))) (hw _ (List.mem_of_getElem? (i := 22) rfl)) (hw _ (List.mem_of_getElem? (i := 21) rfl)) (hw _ (List.mem_of_getElem? (i := 4) rfl)) (hw _ (List.mem_of_getElem? (i := 23) rfl)) (by decide) (own_c2 l Z a0 hw [] a110 ra b110 rb k110 rk ([108, 97, 121, 101, 114, 115, 45, 50, 48, 120, 49, 48, 48] : List Int32) (([108, 97, 121, 101, 114, 115] : List Int32) ++ [45] ++ own_dec 20 ++ [120] ++ own_dec 100) (by decide) (by decide +kernel) cz CS hcz T113.heap n0 (O.keep K0115 all0) (Ea110.keep K113) (Ca110.keep K113 nin0) (Fa110.keep K113 nin0) (Va110.keep K113 nin0) E113 c113 f113 V113) rfl (Ea110.keep K113) (W := 0) (by decide) (by decide) (g := (mkF m 60 #[.val (.int p1), .val (.int (p1 &&& (3 : Int32))), .val (.ref w1), .val (.ref a110)] [(.ref ra), (.ref a110)])) rfl (by rw [hml]; rfl) (argsL := [(.ref ra)]) (rest := []) (lenOf own_pd18 rfl) rfl rfl rfl (hb hby at_60) (by decide) (by decide)
      have N116 := Fr.app N113 N116q
      refine own_go st116 ?_
      show own_Rch p e below _ (T116.setTop (mkF m 63 #[.val (.int p1), .val (.int (p1 &&& (3 : Int32))), .val (.ref w1), .val (.ref a110)] [(.int (if ([108, 97, 121, 101, 114, 115, 45, 50, 48, 120, 49, 48, 48] : List Int32) = (([108, 97, 121, 101, 114, 115] : List Int32) ++ [45] ++ own_dec 20 ++ [120] ++ own_dec 100) then (1 : Int32) else (0 : Int32)))]))
      have CRz := CR114
      rw [← k116] at CRz
      have hk := hk
      rw [← k116] at hk
      rw [if_pos (by decide +kernel)]
      show own_Rch p e below _ (T116.setTop (mkF m 63 #[.val (.int p1), .val (.int (p1 &&& (3 : Int32))), .val (.ref w1), .val (.ref a110)] [(.int (1 : Int32))]))
      refine own_retW (a0 := a0) X116 hZ hEL hS rfl hk CRz (v := some (.int (1 : Int32))) (fun h => by rw [Bd.returns] at h; cases h) Bd.notSynchronized (fun fs hr => retN X116 hx (t := .boolean) Bd.returns (by simp) (hb hby at_63) hr) (by decide) (by decide) ?_
      exact ⟨rfl, N116⟩
    · skip
      refine own_go (S' := (s₁.setTop (mkF m 35 #[.val (.int p1), .val (.int (p1 &&& (3 : Int32))), .unset, .unset] [(.int (2 : Int32)), (.int (p1 &&& (3 : Int32)))]))) (fun t_ k_ => ?_) ?_
      · refine XS.icmpYes X0.here hx rfl (pc0 := 20) (pc' := 33) rfl (hb hby at_20) rfl (feq h1).2 (by decide) (by decide) ?_
        show Steps p.tables e below (s₁.setTop (mkF m 33 #[.val (.int p1), .val (.int (p1 &&& (3 : Int32))), .unset, .unset] [])) _
        refine XS.iloadN X0.here hx rfl (hb hby at_33) rfl ?_
        show Steps p.tables e below (s₁.setTop (mkF m 34 #[.val (.int p1), .val (.int (p1 &&& (3 : Int32))), .unset, .unset] [(.int (p1 &&& (3 : Int32)))])) _
        refine XS.iconst X0.here hx rfl (hb hby at_34) ?_
        show Steps p.tables e below (s₁.setTop (mkF m 35 #[.val (.int p1), .val (.int (p1 &&& (3 : Int32))), .unset, .unset] [(.int (2 : Int32)), (.int (p1 &&& (3 : Int32)))])) _
        exact k_
      by_cases h2 : (p1 &&& (3 : Int32)) = (2 : Int32)
      · skip
        refine own_go (S' := (s₁.setTop (mkF m 38 #[.val (.int p1), .val (.int (p1 &&& (3 : Int32))), .unset, .unset] []))) (fun t_ k_ => ?_) ?_
        · refine XS.icmpNo X0.here hx rfl (hb hby at_35) rfl (teq h2).2 ?_
          show Steps p.tables e below (s₁.setTop (mkF m 38 #[.val (.int p1), .val (.int (p1 &&& (3 : Int32))), .unset, .unset] [])) _
          exact k_
        obtain ⟨T117, X117, e117, st117⟩ := getS2 X0 hx hZ hown (host := "") (Or.inl (hw _ (List.mem_of_getElem? (i := 180) rfl))) Via.refl e0 (S2.ext O.2) (g := (mkF m 38 #[.val (.int p1), .val (.int (p1 &&& (3 : Int32))), .unset, .unset] [])) rfl (hb hby at_38)
        refine own_go st117 ?_
        show own_Rch p e below _ (T117.setTop (mkF m 41 #[.val (.int p1), .val (.int (p1 &&& (3 : Int32))), .unset, .unset] [(.ref w2)]))
        refine own_go (S' := (T117.setTop (mkF m 42 #[.val (.int p1), .val (.int (p1 &&& (3 : Int32))), .val (.ref w2), .unset] []))) (fun t_ k_ => ?_) ?_
        · refine XS.astoreN X117.here hx rfl (hb hby at_41) rfl rfl (l' := #[.val (.int p1), .val (.int (p1 &&& (3 : Int32))), .val (.ref w2), .unset]) rfl ?_
          show Steps p.tables e below (T117.setTop (mkF m 42 #[.val (.int p1), .val (.int (p1 &&& (3 : Int32))), .val (.ref w2), .unset] [])) _
          exact k_
        obtain ⟨a118, T118, h118, kx118, b118, k118, X118, e118, E118, hS, hk, hZ, hown, Ea118, Ca118, Fa118, Va118, la118, lb118, hC118, -, sf118, st118⟩ := ldcCH X117 hx hZ hown (hw _ (List.mem_of_getElem? (i := 182) rfl)) (own_wS hw) e117 hS hk hEL (by decide) CR0.1 (vs := ([102, 97, 110, 45, 49, 48, 48, 48, 48] : List Int32).map Value.int) (z := Int32.ofNat 9) ⟨by decide, rfl⟩ (by decide) (by decide) (g := (mkF m 42 #[.val (.int p1), .val (.int (p1 &&& (3 : Int32))), .val (.ref w2), .unset] [])) rfl (hb hby at_42) (n := 36) (by decide) (by decide) (by decide) (by decide)
        refine own_go st118 ?_
        show own_Rch p e below _ (T118.setTop (mkF m 44 #[.val (.int p1), .val (.int (p1 &&& (3 : Int32))), .val (.ref w2), .unset] [(.ref a118)]))
        have CR119 := CR0.trans (hC118)
        have K0120 : Keep h0 h118 [] := K00.ext E118
        refine own_go (S' := (T118.setTop (mkF m 57 #[.val (.int p1), .val (.int (p1 &&& (3 : Int32))), .val (.ref w2), .val (.ref a118)] [(.ref w2), (.ref a118)]))) (fun t_ k_ => ?_) ?_
        · refine XS.astoreN X118.here hx rfl (hb hby at_44) rfl rfl (l' := #[.val (.int p1), .val (.int (p1 &&& (3 : Int32))), .val (.ref w2), .val (.ref a118)]) rfl ?_
          show Steps p.tables e below (T118.setTop (mkF m 45 #[.val (.int p1), .val (.int (p1 &&& (3 : Int32))), .val (.ref w2), .val (.ref a118)] [])) _
          refine XS.goto X118.here hx rfl (pc0 := 45) (pc' := 55) rfl (hb hby at_45) (by decide) (by decide) ?_
          show Steps p.tables e below (T118.setTop (mkF m 55 #[.val (.int p1), .val (.int (p1 &&& (3 : Int32))), .val (.ref w2), .val (.ref a118)] [])) _
          refine XS.aloadN X118.here hx rfl (hb hby at_55) rfl rfl ?_
          show Steps p.tables e below (T118.setTop (mkF m 56 #[.val (.int p1), .val (.int (p1 &&& (3 : Int32))), .val (.ref w2), .val (.ref a118)] [(.ref a118)])) _
          refine XS.aloadN X118.here hx rfl (hb hby at_56) rfl rfl ?_
          show Steps p.tables e below (T118.setTop (mkF m 57 #[.val (.int p1), .val (.int (p1 &&& (3 : Int32))), .val (.ref w2), .val (.ref a118)] [(.ref w2), (.ref a118)])) _
          exact k_
        have nZ : Z.heap.size = n0 := O.1
        obtain ⟨_, T121, L121, kx121, X121, ⟨ra, rb, rk, rfl, N121q, K121, E121, c121, f121, V121⟩, hC121, hS, hk, hZ, hown, st121⟩ := own_callVW X118 hx hZ (y := (⟨"com/example/mooring/mooring/bench/Workload", "label", "()Ljava/lang/String;"⟩ : MethodName)) (z := (⟨"com/example/mooring/mooring/bench/Workload", "label", "()Ljava/lang/String;"⟩ : MethodName)) (C := "com/example/mooring/mooring/bench/Workload") hown (hw _ (List.mem_of_getElem? (i := 11) rfl)) (hw _ (List.mem_of_getElem? (i := 12) rfl)) (notFace_of_selects (args := #[]) (mvT hZ (hw _ (List.mem_of_getElem? (i := 14) rfl)))) (hw _ (List.mem_of_getElem? (i := 14) rfl)) (hw _ (List.mem_of_getElem? (i := 13) rfl)) (hw _ (List.mem_of_getElem? (i := 1) rfl)) (hw _ (List.mem_of_getElem? (i := 15) rfl)) (by decide) (own_c1F l Z a0 hw [] hEL w2 sF vF kF 1 10000 (by decide +kernel) d1 d2 kd1 kd2 D1 D2 T1 T2 cz CS hcz h118 n0 (O.keep K0120 all0) ((Fs2.ext O.2).keep K0120 nin0) ((Fd2.ext O.2).keep K0120 nin0) ((Fw2.ext O.2).keep K0120 nin0) ((Ew2.ext O.2).keep K0120) ((EsF.ext O.2).keep K0120) ((CsF.ext O.2).keep K0120 nin0) ((FvF.ext O.2).keep K0120 nin0) ((VsF.ext O.2).keep K0120 nin0) (nZ ▸ EsF.lt) (nZ ▸ VsF.lt)) e118 ((Ew2.ext O.2).keep K0120) hEL CR119.1 hS hk (W := 1) (by decide) (by decide) (g := (mkF m 57 #[.val (.int p1), .val (.int (p1 &&& (3 : Int32))), .val (.ref w2), .val (.ref a118)] [(.ref w2), (.ref a118)])) rfl (by rw [hml]; rfl) (argsL := []) (rest := [(.ref a118)]) (lenOf own_pd22 rfl) rfl rfl rfl (hb hby at_57) (by decide) (by decide)
        have N121 := Fr.app N0 N121q
        refine own_go st121 ?_
        show own_Rch p e below _ (T121.setTop (mkF m 60 #[.val (.int p1), .val (.int (p1 &&& (3 : Int32))), .val (.ref w2), .val (.ref a118)] [(.ref ra), (.ref a118)]))
        have CR122 := CR119.trans (hC121)
        have K0123 : Keep h0 T121.heap [] := K0120.trans K121 (fun y hy => by cases hy)
        obtain ⟨_, T124, L124, X124, ⟨rfl, N124q, k124⟩, st124⟩ := own_callV X121 hx hZ (y := (⟨"java/lang/String", "equals", "(Ljava/lang/Object;)Z"⟩ : MethodName)) (z := (⟨"java/lang/String", "equals", "(Ljava/lang/Object;)Z"⟩ : MethodName)) (C := "java/lang/String") hown (hw _ (List.mem_of_getElem? (i := 175) rfl)) (hw _ (List.mem_of_getElem? (i := 20) rfl)) (notFace_of_selects (args := #[]) (mvT hZ (hw _ (List.mem_of_getElem? (i := 22) rfl)))) (hw _ (List.mem_of_getElem? (i := 22) rfl)) (hw _ (List.mem_of_getElem? (i := 21) rfl)) (hw _ (List.mem_of_getElem? (i := 4) rfl)) (hw _ (List.mem_of_getElem? (i := 23) rfl)) (by decide) (own_c2 l Z a0 hw [] a118 ra b118 rb k118 rk ([102, 97, 110, 45, 49, 48, 48, 48, 48] : List Int32) (([102, 97, 110] : List Int32) ++ [45] ++ own_dec (1 * 10000)) (by decide) (by decide +kernel) cz CS hcz T121.heap n0 (O.keep K0123 all0) (Ea118.keep K121) (Ca118.keep K121 nin0) (Fa118.keep K121 nin0) (Va118.keep K121 nin0) E121 c121 f121 V121) rfl (Ea118.keep K121) (W := 0) (by decide) (by decide) (g := (mkF m 60 #[.val (.int p1), .val (.int (p1 &&& (3 : Int32))), .val (.ref w2), .val (.ref a118)] [(.ref ra), (.ref a118)])) rfl (by rw [hml]; rfl) (argsL := [(.ref ra)]) (rest := []) (lenOf own_pd18 rfl) rfl rfl rfl (hb hby at_60) (by decide) (by decide)
        have N124 := Fr.app N121 N124q
        refine own_go st124 ?_
        show own_Rch p e below _ (T124.setTop (mkF m 63 #[.val (.int p1), .val (.int (p1 &&& (3 : Int32))), .val (.ref w2), .val (.ref a118)] [(.int (if ([102, 97, 110, 45, 49, 48, 48, 48, 48] : List Int32) = (([102, 97, 110] : List Int32) ++ [45] ++ own_dec (1 * 10000)) then (1 : Int32) else (0 : Int32)))]))
        have CRz := CR122
        rw [← k124] at CRz
        have hk := hk
        rw [← k124] at hk
        rw [if_pos (by decide +kernel)]
        show own_Rch p e below _ (T124.setTop (mkF m 63 #[.val (.int p1), .val (.int (p1 &&& (3 : Int32))), .val (.ref w2), .val (.ref a118)] [(.int (1 : Int32))]))
        refine own_retW (a0 := a0) X124 hZ hEL hS rfl hk CRz (v := some (.int (1 : Int32))) (fun h => by rw [Bd.returns] at h; cases h) Bd.notSynchronized (fun fs hr => retN X124 hx (t := .boolean) Bd.returns (by simp) (hb hby at_63) hr) (by decide) (by decide) ?_
        exact ⟨rfl, N124⟩
      · skip
        refine own_go (S' := (s₁.setTop (mkF m 48 #[.val (.int p1), .val (.int (p1 &&& (3 : Int32))), .unset, .unset] []))) (fun t_ k_ => ?_) ?_
        · refine XS.icmpYes X0.here hx rfl (pc0 := 35) (pc' := 48) rfl (hb hby at_35) rfl (feq h2).2 (by decide) (by decide) ?_
          show Steps p.tables e below (s₁.setTop (mkF m 48 #[.val (.int p1), .val (.int (p1 &&& (3 : Int32))), .unset, .unset] [])) _
          exact k_
        obtain ⟨T125, X125, e125, st125⟩ := getS2 X0 hx hZ hown (host := "") (Or.inl (hw _ (List.mem_of_getElem? (i := 176) rfl))) Via.refl e0 (S3.ext O.2) (g := (mkF m 48 #[.val (.int p1), .val (.int (p1 &&& (3 : Int32))), .unset, .unset] [])) rfl (hb hby at_48)
        refine own_go st125 ?_
        show own_Rch p e below _ (T125.setTop (mkF m 51 #[.val (.int p1), .val (.int (p1 &&& (3 : Int32))), .unset, .unset] [(.ref w3)]))
        refine own_go (S' := (T125.setTop (mkF m 52 #[.val (.int p1), .val (.int (p1 &&& (3 : Int32))), .val (.ref w3), .unset] []))) (fun t_ k_ => ?_) ?_
        · refine XS.astoreN X125.here hx rfl (hb hby at_51) rfl rfl (l' := #[.val (.int p1), .val (.int (p1 &&& (3 : Int32))), .val (.ref w3), .unset]) rfl ?_
          show Steps p.tables e below (T125.setTop (mkF m 52 #[.val (.int p1), .val (.int (p1 &&& (3 : Int32))), .val (.ref w3), .unset] [])) _
          exact k_
        obtain ⟨a126, T126, h126, kx126, b126, k126, X126, e126, E126, hS, hk, hZ, hown, Ea126, Ca126, Fa126, Va126, la126, lb126, hC126, -, sf126, st126⟩ := ldcCH X125 hx hZ hown (hw _ (List.mem_of_getElem? (i := 178) rfl)) (own_wS hw) e125 hS hk hEL (by decide) CR0.1 (vs := ([108, 97, 121, 101, 114, 115, 45, 49, 48, 48, 120, 49, 48, 48] : List Int32).map Value.int) (z := Int32.ofNat 14) ⟨by decide, rfl⟩ (by decide) (by decide) (g := (mkF m 52 #[.val (.int p1), .val (.int (p1 &&& (3 : Int32))), .val (.ref w3), .unset] [])) rfl (hb hby at_52) (n := 56) (by decide) (by decide) (by decide) (by decide)
        refine own_go st126 ?_
        show own_Rch p e below _ (T126.setTop (mkF m 54 #[.val (.int p1), .val (.int (p1 &&& (3 : Int32))), .val (.ref w3), .unset] [(.ref a126)]))
        have CR127 := CR0.trans (hC126)
        have K0128 : Keep h0 h126 [] := K00.ext E126
        refine own_go (S' := (T126.setTop (mkF m 57 #[.val (.int p1), .val (.int (p1 &&& (3 : Int32))), .val (.ref w3), .val (.ref a126)] [(.ref w3), (.ref a126)]))) (fun t_ k_ => ?_) ?_
        · refine XS.astoreN X126.here hx rfl (hb hby at_54) rfl rfl (l' := #[.val (.int p1), .val (.int (p1 &&& (3 : Int32))), .val (.ref w3), .val (.ref a126)]) rfl ?_
          show Steps p.tables e below (T126.setTop (mkF m 55 #[.val (.int p1), .val (.int (p1 &&& (3 : Int32))), .val (.ref w3), .val (.ref a126)] [])) _
          refine XS.aloadN X126.here hx rfl (hb hby at_55) rfl rfl ?_
          show Steps p.tables e below (T126.setTop (mkF m 56 #[.val (.int p1), .val (.int (p1 &&& (3 : Int32))), .val (.ref w3), .val (.ref a126)] [(.ref a126)])) _
          refine XS.aloadN X126.here hx rfl (hb hby at_56) rfl rfl ?_
          show Steps p.tables e below (T126.setTop (mkF m 57 #[.val (.int p1), .val (.int (p1 &&& (3 : Int32))), .val (.ref w3), .val (.ref a126)] [(.ref w3), (.ref a126)])) _
          exact k_
        have nZ : Z.heap.size = n0 := O.1
        obtain ⟨_, T129, L129, kx129, X129, ⟨ra, rb, rk, rfl, N129q, K129, E129, c129, f129, V129⟩, hC129, hS, hk, hZ, hown, st129⟩ := own_callVW X126 hx hZ (y := (⟨"com/example/mooring/mooring/bench/Workload", "label", "()Ljava/lang/String;"⟩ : MethodName)) (z := (⟨"com/example/mooring/mooring/bench/Workload", "label", "()Ljava/lang/String;"⟩ : MethodName)) (C := "com/example/mooring/mooring/bench/Workload") hown (hw _ (List.mem_of_getElem? (i := 11) rfl)) (hw _ (List.mem_of_getElem? (i := 12) rfl)) (notFace_of_selects (args := #[]) (mvT hZ (hw _ (List.mem_of_getElem? (i := 14) rfl)))) (hw _ (List.mem_of_getElem? (i := 14) rfl)) (hw _ (List.mem_of_getElem? (i := 13) rfl)) (hw _ (List.mem_of_getElem? (i := 1) rfl)) (hw _ (List.mem_of_getElem? (i := 15) rfl)) (by decide) (own_c1L l Z a0 hw [] hEL w3 sL vL kL 100 100 (by decide +kernel) d1 d2 kd1 kd2 D1 D2 T1 T2 cz CS hcz h126 n0 (O.keep K0128 all0) ((Fs3.ext O.2).keep K0128 nin0) ((Fd3.ext O.2).keep K0128 nin0) ((Fw3.ext O.2).keep K0128 nin0) ((Ew3.ext O.2).keep K0128) ((EsL.ext O.2).keep K0128) ((CsL.ext O.2).keep K0128 nin0) ((FvL.ext O.2).keep K0128 nin0) ((VsL.ext O.2).keep K0128 nin0) (nZ ▸ EsL.lt) (nZ ▸ VsL.lt)) e126 ((Ew3.ext O.2).keep K0128) hEL CR127.1 hS hk (W := 1) (by decide) (by decide) (g := (mkF m 57 #[.val (.int p1), .val (.int (p1 &&& (3 : Int32))), .val (.ref w3), .val (.ref a126)] [(.ref w3), (.ref a126)])) rfl (by rw [hml]; rfl) (argsL := []) (rest := [(.ref a126)]) (lenOf own_pd22 rfl) rfl rfl rfl (hb hby at_57) (by decide) (by decide)
        have N129 := Fr.app N0 N129q
        refine own_go st129 ?_
        show own_Rch p e below _ (T129.setTop (mkF m 60 #[.val (.int p1), .val (.int (p1 &&& (3 : Int32))), .val (.ref w3), .val (.ref a126)] [(.ref ra), (.ref a126)]))
        have CR130 := CR127.trans (hC129)
        have K0131 : Keep h0 T129.heap [] := K0128.trans K129 (fun y hy => by cases hy)
        obtain ⟨_, T132, L132, X132, ⟨rfl, N132q, k132⟩, st132⟩ := own_callV X129 hx hZ (y := (⟨"java/lang/String", "equals", "(Ljava/lang/Object;)Z"⟩ : MethodName)) (z := (⟨"java/lang/String", "equals", "(Ljava/lang/Object;)Z"⟩ : MethodName)) (C := "java/lang/String") hown (hw _ (List.mem_of_getElem? (i := 175) rfl)) (hw _ (List.mem_of_getElem? (i := 20) rfl)) (notFace_of_selects (args := #[]) (mvT hZ (hw _ (List.mem_of_getElem? (i := 22) rfl)))) (hw _ (List.mem_of_getElem? (i := 22) rfl)) (hw _ (List.mem_of_getElem? (i := 21) rfl)) (hw _ (List.mem_of_getElem? (i := 4) rfl)) (hw _ (List.mem_of_getElem? (i := 23) rfl)) (by decide) (own_c2 l Z a0 hw [] a126 ra b126 rb k126 rk ([108, 97, 121, 101, 114, 115, 45, 49, 48, 48, 120, 49, 48, 48] : List Int32) (([108, 97, 121, 101, 114, 115] : List Int32) ++ [45] ++ own_dec 100 ++ [120] ++ own_dec 100) (by decide) (by decide +kernel) cz CS hcz T129.heap n0 (O.keep K0131 all0) (Ea126.keep K129) (Ca126.keep K129 nin0) (Fa126.keep K129 nin0) (Va126.keep K129 nin0) E129 c129 f129 V129) rfl (Ea126.keep K129) (W := 0) (by decide) (by decide) (g := (mkF m 60 #[.val (.int p1), .val (.int (p1 &&& (3 : Int32))), .val (.ref w3), .val (.ref a126)] [(.ref ra), (.ref a126)])) rfl (by rw [hml]; rfl) (argsL := [(.ref ra)]) (rest := []) (lenOf own_pd18 rfl) rfl rfl rfl (hb hby at_60) (by decide) (by decide)
        have N132 := Fr.app N129 N132q
        refine own_go st132 ?_
        show own_Rch p e below _ (T132.setTop (mkF m 63 #[.val (.int p1), .val (.int (p1 &&& (3 : Int32))), .val (.ref w3), .val (.ref a126)] [(.int (if ([108, 97, 121, 101, 114, 115, 45, 49, 48, 48, 120, 49, 48, 48] : List Int32) = (([108, 97, 121, 101, 114, 115] : List Int32) ++ [45] ++ own_dec 100 ++ [120] ++ own_dec 100) then (1 : Int32) else (0 : Int32)))]))
        have CRz := CR130
        rw [← k132] at CRz
        have hk := hk
        rw [← k132] at hk
        rw [if_pos (by decide +kernel)]
        show own_Rch p e below _ (T132.setTop (mkF m 63 #[.val (.int p1), .val (.int (p1 &&& (3 : Int32))), .val (.ref w3), .val (.ref a126)] [(.int (1 : Int32))]))
        refine own_retW (a0 := a0) X132 hZ hEL hS rfl hk CRz (v := some (.int (1 : Int32))) (fun h => by rw [Bd.returns] at h; cases h) Bd.notSynchronized (fun fs hr => retN X132 hx (t := .boolean) Bd.returns (by simp) (hb hby at_63) hr) (by decide) (by decide) ?_
        exact ⟨rfl, N132⟩
theorem own_eqI {args : Array Value} {s : State} {t : Term} {n : Int32} (h : (Jvm.Cond.eq t (.int n)).value args s none s [] = some true) : t.eval args s none [] s = some (.int n) := by
  cases ht : t.eval args s none [] s with
  | none => simp [Cond.value, Term.eval, ht] at h
  | some x => cases x <;> simp [Cond.value, Term.eval, ht] at h ⊢; exact h
theorem own_fldI {args : Array Value} {s : State} {t : Term} {C n d : String} {k : Int32} {a : Addr} (ea : t.eval args s none [] s = some (.ref a)) (h : (Jvm.Cond.eq (.field t C n d) (.int k)).value args s none s [] = some true) : Fld s s.heap a C n d (.int k) := Fld.start (by rw [← fld_at ea]; exact own_eqI h)
theorem own_fldR {args : Array Value} {s : State} {t : Term} {C n d : String} {a b : Addr} (ea : t.eval args s none [] s = some (.ref a)) (eb : (Term.field t C n d).eval args s none [] s = some (.ref b)) : Fld s s.heap a C n d (.ref b) := Fld.start (by rw [← fld_at ea]; exact eb)
theorem own_lenOf {args : Array Value} {s : State} {t : Term} {n : Int32} {a : Addr} {cl : Cell} {ty : FieldType} (ea : t.eval args s none [] s = some (.ref a)) (A : Arr s s.heap a cl ty) (h : (Term.length t).eval args s none [] s = some (.int n)) : cl.slots.size < 2 ^ 31 ∧ cl.slots.size.toInt32 = n := by
  have ha : s.arrayAt? a = some cl := A.fin (Vm.Alike.refl _)
  obtain ⟨a', c', e1, e2, e3⟩ := Term.length_spec h
  cases ea.symm.trans e1
  cases ha.symm.trans e2
  refine ⟨?_, (Value.int.inj e3).symm⟩
  by_cases q : cl.slots.size < 2 ^ 31
  · exact q
  · simp [Term.eval, ea, ha] at h
    omega
theorem own_eqR {args : Array Value} {s : State} {t u : Term} {a : Addr} (eu : u.eval args s none [] s = some (.ref a)) (h : (Jvm.Cond.eq t u).value args s none s [] = some true) : t.eval args s none [] s = some (.ref a) := by
  cases ht : t.eval args s none [] s with
  | none => simp [Cond.value, ht] at h
  | some x => cases x <;> simp [Cond.value, ht, eu] at h ⊢; exact h
theorem own_elem {args : Array Value} {s : State} {t : Term} {j : Nat} {k : Int32} {a : Addr} {cl : Cell} (hj : j < 100) (ea : t.eval args s none [] s = some (.ref a)) (A : Arr s s.heap a cl .byte) (h : (Jvm.Cond.eq (.elem t (.int (Int32.ofNat j))) (.int k)).value args s none s [] = some true) : cl.slots[j]? = some (.int k) := by
  have e := own_eqI h
  have q := (elem_in e ea (Term.int_eval _) A.1).2
  rw [(own_nat (by omega)).2.1] at q
  exact q
theorem own_nz0 {args : Array Value} {s : State} {t : Term} {x : Int32} (e : t.eval args s none [] s = some (.int x)) (h : (Jvm.Cond.not (.eq t (.int 0))).value args s none s [] = some true) : ¬ x = (0 : Int32) := by
  intro q; subst q
  simp [Cond.value, Term.eval, e] at h
theorem own_hasL {cl : Cell} : ∀ (vs : List Value) (i : Nat), (∀ j, j < vs.length → cl.slots[i + j]? = some (vs.getD j (.int 0))) → HasL cl i vs
  | [], _, _ => trivial
  | v :: r, i, H => ⟨by simpa using H 0 (by simp), own_hasL r (i + 1) fun j hj => by
      have q := H (j + 1) (by simp; omega)
      rw [show i + 1 + j = i + (j + 1) by omega]
      simpa using q⟩
theorem own_arrX {a0 args : Array Value} {Z : State} {a : Addr} {t : Term} {n : Int32} (E : Exa Z Z.heap a "[B") (ea : t.eval args Z none [] Z = some (.ref a)) (w : (Jvm.Cond.arrayClass .byte).before a0 Z = true) (h : (Term.length t).eval args Z none [] Z = some (.int n)) : ∃ cl, Arr Z Z.heap a cl .byte ∧ cl.slots.size < 2 ^ 31 ∧ cl.slots.size.toInt32 = n := by
  obtain ⟨a', cl, e1, e2, -⟩ := Term.length_spec h
  cases ea.symm.trans e1
  obtain ⟨c1, k1, h1, h2, h3, h4, -⟩ := E
  obtain ⟨c, k, comp, g1, g2, g3⟩ := Cond.arrayClass_spec w
  rw [show ("[" ++ FieldType.toString .byte) = "[B" from by decide +kernel] at g1
  obtain rfl : c1.cls = c := Option.some.inj (h2.symm.trans g1)
  have e3 := e2
  simp only [State.arrayAt?, h1, g2, Option.bind_eq_bind, Option.bind_some] at e3
  split at e3
  · simp at e3
  · rename_i hu
    rw [g3] at e3
    obtain rfl : c1 = cl := Option.some.inj e3
    have A : Arr Z Z.heap a c1 .byte := ⟨h1, ⟨fun k' q => by simp [q, VmData.isStatics] at h4, k, g2, comp, g3⟩, fun q => hu (Or.inl q)⟩
    exact ⟨c1, A, own_lenOf ea A h⟩
theorem own_tab {args : Array Value} {s : State} {t : Term} {a : Addr} {cl : Cell} {ws : List Int32} {f : Term} (ea : ∀ idx, t.eval args s none idx s = some (.ref a)) (A : Arr s s.heap a cl .byte) (hf : Fit s) (q1 : cl.slots.size < 2 ^ 31) (q2 : cl.slots.size.toInt32 = 100) (hl : ws.length = 100)
    (h : (Jvm.Cond.all t (.eq (.elem t (.index 0)) f)).value args s none s [] = some true) (hv : ∀ j, j < 100 → f.eval args s none [j] s = some (.int (ws.getD j 0))) : Arv s s.heap a cl.cls .byte 100 (ws.map Value.int) (.int 0) := by
  have hsz : cl.slots.size = 100 := by
    have e := len_toInt q1
    rw [q2, show (100 : Int32).toInt = 100 from by decide] at e
    omega
  refine Arv.start (dv := .int 0) hf A q1 q2 (by decide) (by rw [List.length_map, hl]; decide) (own_hasL _ 0 fun j hj => ?_)
  have hj' : j < 100 := by rw [List.length_map, hl] at hj; exact hj
  have u := eqv_i (hv j hj') (Cond.all_elim (ea []) (A.fin (Vm.Alike.refl _)) h j (by omega))
  have e1 : (Nat.toInt32 j).toNatClampNeg = j := by simp only [Int32.toNatClampNeg, len_toInt (n := j) (by omega)]; rfl
  have nn : ¬ (Nat.toInt32 j) < 0 := fun x => idx_in (i := j) (n := 100) hj' (by omega) (Or.inl x)
  have hi : (Term.index 0).eval args s none [j] s = some (.int (Nat.toInt32 j)) := by simp [Term.eval]
  have e2 := (elem_f (ea [j]) hi (A.fin (Vm.Alike.refl _)) nn).symm.trans u
  rw [e1] at e2
  rw [Nat.zero_add, e2, own_mapD]
theorem own_tb1 : ∀ j, j < 100 → (48 : Int32) + (Nat.toInt32 j) % 10 = own_ones.getD j 0 := by decide +kernel
theorem own_tb2 : ∀ j, j < 100 → (48 : Int32) + (Nat.toInt32 j) / 10 = own_tens.getD j 0 := by decide +kernel
set_option maxRecDepth 65536 in
set_option maxHeartbeats 40000000 in
theorem comes_1 {Post : Tables → Env → Array Value → State → Outcome → State → Prop} (hpost : ∀ tb e args s v u, (limb_1_1.after args s (.returned v) u = true ∧ limb_1_2.after args s (.returned v) u = true ∧ True) → ReturnedEndW s (.returned v) u (Jvm.fieldLocs frame_1_writes args s ++ Jvm.arrayLocs frame_1_arrays args s ++ Jvm.staticLocs frame_1_statics s) 32 7360 → Post tb e args s (.returned v) u) :
    ArmFor flags0 classFile x code maxLocals ret World_1 tables_1 room_1 Calls_1 rest_1 Pre_1 Post := by
  intro l hfl _ _ p e ha hc hk s m args below hf hA hF happ hP
  obtain ⟨hcalls, hrest, hpre⟩ := hP
  obtain ⟨-, -, -, hnamed, -, -, -, hat⟩ := (Spec.applies_iff hf).mp happ
  obtain ⟨hg, hn⟩ := and_e (Cond.before_iff.mp (show (Jvm.Cond.and given_1 narrow_1).before args s = true from hpre))
  obtain ⟨gc, g0⟩ := and_e hg
  obtain ⟨w0, rfl⟩ : ∃ w0 : Value, args = #[w0] := by
    have hs : args.size = 1 := by simpa [Cond.value, given_1] using gc
    obtain ⟨L⟩ := args
    match L, hs with
    | [w0], _ => exact ⟨w0, rfl⟩
  obtain ⟨i0, ei0⟩ := is_v g0
  obtain rfl : w0 = (.int i0) := Option.some.inj ei0
  have hw := fun d (hd : d ∈ tables_1) => atoms_spec (ws := Jvm.Cond.code x code maxLocals ret :: tables_1) hat d (List.mem_cons_of_mem _ hd)
  have hfit : Fit s := fun {y c} hc i hi => by
    obtain ⟨ha, rfl⟩ := Array.getElem?_eq_some_iff.mp hc
    have q := List.all_eq_true.mp ((Array.all_eq_true_iff_forall_mem.mp hF) _ (Array.getElem_mem ha)) i (List.mem_range.mpr hi)
    simpa [Array.getElem?_eq_getElem hi] using q
  obtain ⟨hsets, hown0⟩ := atoms_of _ (rest_1_c_eq ▸ (show rest_1_c.before _ s = true from hrest))
  obtain ⟨c0, hn0⟩ := and_e hn
  obtain ⟨c1, hn1⟩ := and_e hn0
  obtain ⟨c2, hn2⟩ := and_e hn1
  obtain ⟨c3, hn3⟩ := and_e hn2
  obtain ⟨c4, hn4⟩ := and_e hn3
  obtain ⟨c5, hn5⟩ := and_e hn4
  obtain ⟨c6, hn6⟩ := and_e hn5
  obtain ⟨c7, hn7⟩ := and_e hn6
  obtain ⟨c8, hn8⟩ := and_e hn7
  obtain ⟨c9, hn9⟩ := and_e hn8
  obtain ⟨c10, hn10⟩ := and_e hn9
  obtain ⟨c11, hn11⟩ := and_e hn10
  obtain ⟨c12, hn12⟩ := and_e hn11
  obtain ⟨c13, hn13⟩ := and_e hn12
  obtain ⟨c14, hn14⟩ := and_e hn13
  obtain ⟨c15, hn15⟩ := and_e hn14
  obtain ⟨c16, hn16⟩ := and_e hn15
  obtain ⟨c17, hn17⟩ := and_e hn16
  obtain ⟨c18, hn18⟩ := and_e hn17
  obtain ⟨c19, hn19⟩ := and_e hn18
  obtain ⟨c20, hn20⟩ := and_e hn19
  obtain ⟨c21, hn21⟩ := and_e hn20
  obtain ⟨c22, hn22⟩ := and_e hn21
  obtain ⟨c23, hn23⟩ := and_e hn22
  obtain ⟨c24, hn24⟩ := and_e hn23
  obtain ⟨c25, hn25⟩ := and_e hn24
  obtain ⟨c26, hn26⟩ := and_e hn25
  obtain ⟨c27, hn27⟩ := and_e hn26
  obtain ⟨c28, hn28⟩ := and_e hn27
  obtain ⟨c29, hn29⟩ := and_e hn28
  obtain ⟨c30, hn30⟩ := and_e hn29
  obtain ⟨c31, hn31⟩ := and_e hn30
  have c32 := hn31
  obtain ⟨w0, ew0⟩ := exa_v c0
  have S0 := Sta.start ew0 (Or.inr ⟨(hw _ (List.mem_of_getElem? (i := 1) rfl)), (hw _ (List.mem_of_getElem? (i := 2) rfl))⟩)
  have Ew0 := Exa.start ew0 c0
  have Fd0 := own_fldI ew0 c9
  have Fw0 := own_fldI ew0 c10
  obtain ⟨w1, ew1⟩ := exa_v c23
  have S1 := Sta.start ew1 (Or.inr ⟨(hw _ (List.mem_of_getElem? (i := 1) rfl)), (hw _ (List.mem_of_getElem? (i := 184) rfl))⟩)
  have Ew1 := Exa.start ew1 c23
  have Fd1 := own_fldI ew1 c25
  have Fw1 := own_fldI ew1 c26
  obtain ⟨w2, ew2⟩ := exa_v c19
  have S2 := Sta.start ew2 (Or.inr ⟨(hw _ (List.mem_of_getElem? (i := 1) rfl)), (hw _ (List.mem_of_getElem? (i := 181) rfl))⟩)
  have Ew2 := Exa.start ew2 c19
  have Fd2 := own_fldI ew2 c21
  have Fw2 := own_fldI ew2 c22
  obtain ⟨w3, ew3⟩ := exa_v c11
  have S3 := Sta.start ew3 (Or.inr ⟨(hw _ (List.mem_of_getElem? (i := 1) rfl)), (hw _ (List.mem_of_getElem? (i := 177) rfl))⟩)
  have Ew3 := Exa.start ew3 c11
  have Fd3 := own_fldI ew3 c17
  have Fw3 := own_fldI ew3 c18
  obtain ⟨sF, esF⟩ := exa_v c1
  have EsF := Exa.start esF c1
  have CsF := own_fldI esF c2
  obtain ⟨vF, evF⟩ := exa_v c4
  have FvF := own_fldR esF evF
  obtain ⟨clF, ArF⟩ := Arr.start evF c3
  obtain ⟨q1F, q2F⟩ := own_lenOf evF ArF (own_eqI c5)
  have VsF : Arv s s.heap vF clF.cls .byte (Int32.ofNat ([102, 97, 110] : List Int32).length) (([102, 97, 110] : List Int32).map Value.int) (.int 0) := Arv.start (Z := s) (dv := .int 0) hfit ArF q1F q2F (by decide) (by decide) ⟨own_elem (j := 0) (by decide) evF ArF c6, own_elem (j := 1) (by decide) evF ArF c7, own_elem (j := 2) (by decide) evF ArF c8, trivial⟩
  obtain ⟨sL, esL⟩ := exa_v c12
  have EsL := Exa.start esL c12
  have CsL := own_fldI esL c13
  obtain ⟨vL, evL⟩ := exa_v c15
  have FvL := own_fldR esL evL
  obtain ⟨clL, ArL⟩ := Arr.start evL c14
  obtain ⟨q1L, q2L⟩ := own_lenOf evL ArL (own_eqI c16)
  have VsL : Arv s s.heap vL clL.cls .byte (Int32.ofNat ([108, 97, 121, 101, 114, 115] : List Int32).length) (([108, 97, 121, 101, 114, 115] : List Int32).map Value.int) (.int 0) := Arv.start (Z := s) (dv := .int 0) hfit ArL q1L q2L (by decide) (by decide) ⟨own_elem (j := 0) (by decide) evL ArL c27, own_elem (j := 1) (by decide) evL ArL c28, own_elem (j := 2) (by decide) evL ArL c29, own_elem (j := 3) (by decide) evL ArL c30, own_elem (j := 4) (by decide) evL ArL c31, own_elem (j := 5) (by decide) evL ArL c32, trivial⟩
  have Fs0 := own_fldR ew0 esF
  have Fs1 := own_fldR ew1 (own_eqR esL c24)
  have Fs2 := own_fldR ew2 (own_eqR esF c20)
  have Fs3 := own_fldR ew3 esL
  obtain ⟨cz, ecz⟩ := is_v (Cond.before_iff.mp (hsets _ (List.mem_of_getElem? (i := 1) rfl)))
  have CS := Sta.start ecz (Or.inl (hsets _ (List.mem_of_getElem? (i := 0) rfl)))
  have hcz : ¬ cz = (0 : Int32) := own_nz0 ecz (Cond.before_iff.mp (hsets _ (List.mem_of_getElem? (i := 2) rfl)))
  obtain ⟨d1, ed1⟩ := exa_v (Cond.before_iff.mp (hsets _ (List.mem_of_getElem? (i := 12) rfl)))
  have D1 := Sta.start ed1 (Or.inl (hsets _ (List.mem_of_getElem? (i := 11) rfl)))
  obtain ⟨cd1, Ad1, qd1, pd1⟩ := own_arrX (Exa.start ed1 (Cond.before_iff.mp (hsets _ (List.mem_of_getElem? (i := 12) rfl)))) ed1 (hw _ (List.mem_of_getElem? (i := 6) rfl)) (own_eqI (Cond.before_iff.mp (hsets _ (List.mem_of_getElem? (i := 13) rfl))))
  have T1 : Arv s s.heap d1 cd1.cls .byte 100 (own_ones.map Value.int) (.int 0) := own_tab (t := .static "java/lang/Integer" "DigitOnes" "[B") (fun idx => ed1) Ad1 hfit qd1 pd1 (by simp [own_ones]) (Cond.before_iff.mp (hsets _ (List.mem_of_getElem? (i := 14) rfl))) (fun j hj => by simp [Term.eval]; exact own_tb1 j hj)
  obtain ⟨d2, ed2⟩ := exa_v (Cond.before_iff.mp (hsets _ (List.mem_of_getElem? (i := 17) rfl)))
  have D2 := Sta.start ed2 (Or.inl (hsets _ (List.mem_of_getElem? (i := 16) rfl)))
  obtain ⟨cd2, Ad2, qd2, pd2⟩ := own_arrX (Exa.start ed2 (Cond.before_iff.mp (hsets _ (List.mem_of_getElem? (i := 17) rfl)))) ed2 (hw _ (List.mem_of_getElem? (i := 6) rfl)) (own_eqI (Cond.before_iff.mp (hsets _ (List.mem_of_getElem? (i := 18) rfl))))
  have T2 : Arv s s.heap d2 cd2.cls .byte 100 (own_tens.map Value.int) (.int 0) := own_tab (t := .static "java/lang/Integer" "DigitTens" "[B") (fun idx => ed2) Ad2 hfit qd2 pd2 (by simp [own_tens]) (Cond.before_iff.mp (hsets _ (List.mem_of_getElem? (i := 19) rfl))) (fun j hj => by simp [Term.eval]; exact own_tb2 j hj)
  have hEL : EW s _ consts_1 := (EW.cons (hw _ (List.mem_of_getElem? (i := 18) rfl)) (by decide) (EW.cons (hw _ (List.mem_of_getElem? (i := 100) rfl)) (by decide) (EW.cons (hw _ (List.mem_of_getElem? (i := 179) rfl)) (by decide) (EW.cons (hw _ (List.mem_of_getElem? (i := 3) rfl)) (by decide) (EW.cons (hw _ (List.mem_of_getElem? (i := 185) rfl)) (by decide) (EW.cons (hw _ (List.mem_of_getElem? (i := 182) rfl)) (by decide) (EW.cons (hw _ (List.mem_of_getElem? (i := 178) rfl)) (by decide) EW.nil)))))))
  have hCH : CHv s consts_1 s.vm s.heap := CHv.start hEL hcalls.1 (hsets _ (List.mem_of_getElem? (i := 2) rfl)) (hw _ (List.mem_of_getElem? (i := 6) rfl)) (hw _ (List.mem_of_getElem? (i := 5) rfl))
  obtain ⟨n, o, h1, h2, h3, _, L, rfl, ⟨rfl, N⟩, -, hq⟩ := own_c0 l s _ hw tables_1 hEL i0 w0 w1 w2 w3 sF vF _ sL vL _ d1 d2 _ _ D1 D2 T1 T2 cz CS hcz s.heap s.heap.size (Old.start s) S0 Ew0 Fs0 Fd0 Fw0 S1 Ew1 Fs1 Fd1 Fw1 S2 Ew2 Fs2 Fd2 Fw2 S3 Ew3 Fs3 Fd3 Fw3 EsF CsF FvF VsF EsL CsL FvL VsL p e ha hc hk s m _ below hf ((Spec.applies_iff_loose hf).mp happ).1 ⟨rfl, State.Warmed39.refl s, rfl, hCH⟩ trivial
  refine ⟨n, _, h1, h2, h3, hpost _ _ _ _ _ _ ⟨Cond.after_iff.mpr rfl, Cond.after_iff.mpr (eq_i res_at (Term.int_eval (1)) rfl), trivial⟩ ⟨hq.1, hq.2.1, hq.2.2.1, (hq.2.2.2.sift fun y hy => Or.inr (N y hy)).mono (by decide) (by decide)⟩⟩
theorem main_1_1 : Claimed_1_1 := comes_1 fun _ _ _ _ _ _ h hF => ⟨h.1, hF⟩
theorem main_1_2 : Claimed_1_2 := comes_1 fun _ _ _ _ _ _ h hF => ⟨h.2.1, hF⟩
end Jvm.Pilot.@@N@@
namespace Jvm.Pilot.@@N@@
open Jvm Jvm.ClassFile Sem Op Lib Jvm.Free Jvm.Stand Jvm.Pilot.@@N@@.Jvm.D
/-! MADE BY PROGRAM (witnessworld.py) out of the Statement's table words and the real class files: 26 classes; the members and pool entries that the words name. The judged class is class 1, her method 1. -/
namespace start1
open Jvm.ClassFile
def u (s : String) : CpInfo := .utf8 (stringToUtf16 s)
/-- a pool by its gaps: so many unusable entries, then the entry; so many at the end -/
def gap : Nat → List CpInfo → List CpInfo
  | 0, r => r
  | n + 1, r => .unusable :: gap n r
def poolList (es : List (Nat × CpInfo)) (last : Nat) : List CpInfo := es.foldr (fun e r => gap e.1 (e.2 :: r)) (gap last [])
def pool (es : List (Nat × CpInfo)) (last : Nat) : Array CpInfo := ⟨poolList es last⟩
def fileOf (pool : Array CpInfo) (this : Nat) (attrs : Array Attribute := #[]) (ms : Array MethodInfo := #[]) (fl : Nat := 33) (sup : Nat := 0) (ifs : Array Nat := #[]) (fds : Array FieldInfo := #[]) : ClassFile where
  minorVersion := 0
  majorVersion := 65
  constantPool := pool
  accessFlags := fl
  thisClass := this
  superClass := sup
  interfaces := ifs
  fields := fds
  methods := ms
  attributes := attrs
def plain (name : String) (sup : Option ClassId) : Class where
  name := name
  kind := .ordinary
  loader := none
  accessFlags := 33
  super := sup
  interfaces := #[]
  cf := none
  fields := #[]
  methods := #[]
  instanceTypes := #[]
  staticTypes := #[]
  resolved := #[]
  callSites := []
  init := .initialized
  statics := none
  mirror := none

def pool0 : Array CpInfo := pool [(5, u "<init>"), (0, u "()V"), (1, .class_ 10), (1, u "java/lang/Object")] 113

def k0c0 : Code := { maxStack := 0, maxLocals := 1, code := object_method_1_code, exceptionTable := #[], attributes := #[] }
def k0m0 : Method := { name := "<init>", desc := "()V", sig := { parameters := [], returnType := none }, accessFlags := 1, code := some k0c0 }
/-- java/lang/Object -/
def k0 : Class := { plain "java/lang/Object" none with
  accessFlags := 33
  interfaces := #[]
  cf := some (fileOf pool0 8 #[] #[{ accessFlags := 1, nameIndex := 5, descriptorIndex := 6, attributes := #[] }] 33 0 #[] #[])
  fields := #[]
  methods := #[k0m0]
  instanceTypes := #[]
  staticTypes := #[]
  resolved := Array.replicate 124 none
  statics := none }

def pool1 : Array CpInfo := pool [(2, .class_ 4), (1, u "java/lang/Object"), (0, u "<init>"), (0, u "()V"), (0, .fieldref 8 9), (0, .class_ 10), (0, .nameAndType 11 12), (0, u "com/example/mooring/mooring/bench/Workload"), (0, u "FAN_2000"), (0, u "Lcom/example/mooring/mooring/bench/Workload;"), (0, .string 14), (0, u "fan-2000"), (0, .fieldref 8 16), (0, .nameAndType 17 12), (0, u "LAYERS_20X100"), (0, .string 19), (0, u "layers-20x100"), (0, .fieldref 8 21), (0, .nameAndType 22 12), (0, u "FAN_10000"), (0, .string 24), (0, u "fan-10000"), (0, .fieldref 8 26), (0, .nameAndType 27 12), (0, u "LAYERS_100X100"), (0, .string 29), (0, u "layers-100x100"), (0, .methodref 8 31), (0, .nameAndType 32 33), (0, u "label"), (0, u "()Ljava/lang/String;"), (0, .methodref 35 36), (0, .class_ 37), (0, .nameAndType 38 39), (0, u "java/lang/String"), (0, u "equals"), (0, u "(Ljava/lang/Object;)Z"), (0, .class_ 41), (0, u "com/example/mooring/mooring/bench/WorkloadLabelPinLaw"), (2, u "law"), (0, u "(I)Z")] 3

def k1m0 : Method := { name := "<init>", desc := "()V", sig := { parameters := [], returnType := none }, accessFlags := 1, code := none }
def k1c1 : Code := { maxStack := 2, maxLocals := 4, code := code, exceptionTable := #[], attributes := #[] }
def k1m1 : Method := { name := "law", desc := "(I)Z", sig := { parameters := [.int], returnType := some .boolean }, accessFlags := 9, code := some k1c1 }
/-- com/example/mooring/mooring/bench/WorkloadLabelPinLaw -/
def k1 : Class := { plain "com/example/mooring/mooring/bench/WorkloadLabelPinLaw" (some 0) with
  accessFlags := 49
  interfaces := #[]
  cf := some (fileOf pool1 40 #[] #[{ accessFlags := 1, nameIndex := 5, descriptorIndex := 6, attributes := #[] }, { accessFlags := 9, nameIndex := 44, descriptorIndex := 45, attributes := #[] }] 49 2 #[] #[])
  fields := #[]
  methods := #[k1m0, k1m1]
  instanceTypes := #[]
  staticTypes := #[]
  resolved := Array.replicate 49 none
  statics := none }

def pool2 : Array CpInfo := pool [(1, .class_ 2), (0, u "java/lang/constant/Constable"), (0, .class_ 4), (0, u "java/lang/Object")] 6

/-- java/lang/constant/Constable -/
def k2 : Class := { plain "java/lang/constant/Constable" (some 0) with
  accessFlags := 1537
  interfaces := #[]
  cf := some (fileOf pool2 1 #[] #[] 1537 3 #[] #[])
  fields := #[]
  methods := #[]
  instanceTypes := #[]
  staticTypes := #[]
  resolved := Array.replicate 11 none
  statics := none }

def pool3 : Array CpInfo := pool [(1, .class_ 2), (0, u "java/lang/Comparable"), (0, .class_ 4), (0, u "java/lang/Object")] 7

/-- java/lang/Comparable -/
def k3 : Class := { plain "java/lang/Comparable" (some 0) with
  accessFlags := 1537
  interfaces := #[]
  cf := some (fileOf pool3 1 #[] #[] 1537 3 #[] #[])
  fields := #[]
  methods := #[]
  instanceTypes := #[]
  staticTypes := #[]
  resolved := Array.replicate 12 none
  statics := none }

def pool4 : Array CpInfo := pool [(1, .class_ 2), (0, u "java/io/Serializable"), (0, .class_ 4), (0, u "java/lang/Object")] 2

/-- java/io/Serializable -/
def k4 : Class := { plain "java/io/Serializable" (some 0) with
  accessFlags := 1537
  interfaces := #[]
  cf := some (fileOf pool4 1 #[] #[] 1537 3 #[] #[])
  fields := #[]
  methods := #[]
  instanceTypes := #[]
  staticTypes := #[]
  resolved := Array.replicate 7 none
  statics := none }

def pool5 : Array CpInfo := pool [(2, .class_ 4), (1, u "java/lang/Enum"), (0, u "name"), (0, u "Ljava/lang/String;"), (2, u "ordinal"), (0, u "I"), (1, .class_ 14), (1, u "java/lang/Object"), (4, u "hash"), (86, .class_ 108), (1, u "java/lang/Enum$EnumDesc"), (2, .class_ 112), (0, u "java/lang/constant/Constable"), (0, .class_ 114), (0, u "java/lang/Comparable"), (0, .class_ 116), (0, u "java/io/Serializable")] 87

/-- java/lang/Enum -/
def k5 : Class := { plain "java/lang/Enum" (some 0) with
  accessFlags := 1057
  interfaces := #[2, 3, 4]
  cf := some (fileOf pool5 2 #[.nestMembers #[106]] #[] 1057 12 #[111, 113, 115] #[{ accessFlags := 18, nameIndex := 5, descriptorIndex := 6, attributes := #[] }, { accessFlags := 18, nameIndex := 9, descriptorIndex := 10, attributes := #[] }, { accessFlags := 2, nameIndex := 19, descriptorIndex := 10, attributes := #[] }])
  fields := #[{ name := "name", type := (.object "java/lang/String"), accessFlags := 18, slot := 0, constantValue := 0 }, { name := "ordinal", type := .int, accessFlags := 18, slot := 1, constantValue := 0 }, { name := "hash", type := .int, accessFlags := 2, slot := 2, constantValue := 0 }]
  methods := #[]
  instanceTypes := #[(.object "java/lang/String"), .int, .int]
  staticTypes := #[]
  resolved := Array.replicate 204 none
  statics := none }

def pool6 : Array CpInfo := pool [(1, .class_ 2), (0, u "com/example/mooring/mooring/bench/Workload"), (2, u "FAN_2000"), (0, u "Lcom/example/mooring/mooring/bench/Workload;"), (2, u "LAYERS_20X100"), (2, u "FAN_10000"), (2, u "LAYERS_100X100"), (2, u "$VALUES"), (0, u "[Lcom/example/mooring/mooring/bench/Workload;"), (6, .class_ 28), (1, u "java/lang/Enum"), (4, u "<init>"), (1, .fieldref 1 36), (0, .nameAndType 37 38), (0, u "shape"), (0, u "Ljava/lang/String;"), (0, .fieldref 1 40), (0, .nameAndType 41 42), (0, u "depth"), (0, u "I"), (0, .fieldref 1 44), (0, .nameAndType 45 42), (0, u "width"), (6, u "label"), (0, u "()Ljava/lang/String;"), (0, .methodref 55 56), (0, .class_ 57), (0, .nameAndType 58 59), (0, u "java/lang/String"), (0, u "equals"), (0, u "(Ljava/lang/Object;)Z"), (2, .class_ 63), (0, u "java/lang/StringBuilder"), (0, .methodref 62 65), (0, .nameAndType 33 66), (0, u "()V"), (2, .methodref 62 70), (0, .nameAndType 71 72), (0, u "append"), (0, u "(Ljava/lang/String;)Ljava/lang/StringBuilder;"), (0, .methodref 62 74), (0, .nameAndType 75 53), (0, u "toString"), (3, .string 80), (0, u "fan"), (0, .string 82), (0, u "-"), (0, .methodref 1 84), (0, .nameAndType 85 86), (0, u "size"), (0, u "()I"), (0, .methodref 62 88), (0, .nameAndType 71 89), (0, u "(I)Ljava/lang/StringBuilder;"), (0, .string 91), (0, u "x")] 24

def k6c0 : Code := { maxStack := 2, maxLocals := 1, code := prog_4_method_5_code, exceptionTable := #[], attributes := #[] }
def k6m0 : Method := { name := "label", desc := "()Ljava/lang/String;", sig := { parameters := [], returnType := some (.object "java/lang/String") }, accessFlags := 0, code := some k6c0 }
def k6c1 : Code := { maxStack := 2, maxLocals := 1, code := prog_4_method_9_code, exceptionTable := #[], attributes := #[] }
def k6m1 : Method := { name := "size", desc := "()I", sig := { parameters := [], returnType := some .int }, accessFlags := 0, code := some k6c1 }
/-- com/example/mooring/mooring/bench/Workload -/
def k6 : Class := { plain "com/example/mooring/mooring/bench/Workload" (some 5) with
  accessFlags := 16432
  interfaces := #[]
  cf := some (fileOf pool6 1 #[] #[{ accessFlags := 0, nameIndex := 52, descriptorIndex := 53, attributes := #[] }, { accessFlags := 0, nameIndex := 85, descriptorIndex := 86, attributes := #[] }] 16432 26 #[] #[{ accessFlags := 16409, nameIndex := 5, descriptorIndex := 6, attributes := #[] }, { accessFlags := 16409, nameIndex := 9, descriptorIndex := 6, attributes := #[] }, { accessFlags := 16409, nameIndex := 12, descriptorIndex := 6, attributes := #[] }, { accessFlags := 16409, nameIndex := 15, descriptorIndex := 6, attributes := #[] }, { accessFlags := 18, nameIndex := 37, descriptorIndex := 38, attributes := #[] }, { accessFlags := 18, nameIndex := 41, descriptorIndex := 42, attributes := #[] }, { accessFlags := 18, nameIndex := 45, descriptorIndex := 42, attributes := #[] }, { accessFlags := 4122, nameIndex := 18, descriptorIndex := 19, attributes := #[] }])
  fields := #[{ name := "FAN_2000", type := (.object "com/example/mooring/mooring/bench/Workload"), accessFlags := 16409, slot := 0, constantValue := 0 }, { name := "LAYERS_20X100", type := (.object "com/example/mooring/mooring/bench/Workload"), accessFlags := 16409, slot := 1, constantValue := 0 }, { name := "FAN_10000", type := (.object "com/example/mooring/mooring/bench/Workload"), accessFlags := 16409, slot := 2, constantValue := 0 }, { name := "LAYERS_100X100", type := (.object "com/example/mooring/mooring/bench/Workload"), accessFlags := 16409, slot := 3, constantValue := 0 }, { name := "shape", type := (.object "java/lang/String"), accessFlags := 18, slot := 3, constantValue := 0 }, { name := "depth", type := .int, accessFlags := 18, slot := 4, constantValue := 0 }, { name := "width", type := .int, accessFlags := 18, slot := 5, constantValue := 0 }, { name := "$VALUES", type := (.array (.object "com/example/mooring/mooring/bench/Workload")), accessFlags := 4122, slot := 4, constantValue := 0 }]
  methods := #[k6m0, k6m1]
  instanceTypes := #[(.object "java/lang/String"), .int, .int, (.object "java/lang/String"), .int, .int]
  staticTypes := #[(.object "com/example/mooring/mooring/bench/Workload"), (.object "com/example/mooring/mooring/bench/Workload"), (.object "com/example/mooring/mooring/bench/Workload"), (.object "com/example/mooring/mooring/bench/Workload"), (.array (.object "com/example/mooring/mooring/bench/Workload"))]
  resolved := Array.replicate 116 none
  statics := some 0 }

def pool7 : Array CpInfo := pool [(2, .class_ 4), (1, u "java/lang/CharSequence"), (42, .class_ 48), (0, u "java/lang/CharSequence$1CodePointIterator"), (10, .class_ 60), (0, u "java/lang/CharSequence$1CharIterator"), (5, .class_ 67), (0, u "java/lang/Object")] 63

/-- java/lang/CharSequence -/
def k7 : Class := { plain "java/lang/CharSequence" (some 0) with
  accessFlags := 1537
  interfaces := #[]
  cf := some (fileOf pool7 2 #[.nestMembers #[47, 59]] #[] 1537 66 #[] #[])
  fields := #[]
  methods := #[]
  instanceTypes := #[]
  staticTypes := #[]
  resolved := Array.replicate 131 none
  statics := none }

def pool8 : Array CpInfo := pool [(1, .class_ 2), (0, u "java/lang/constant/ConstantDesc"), (0, .class_ 4), (0, u "java/lang/Object")] 32

/-- java/lang/constant/ConstantDesc -/
def k8 : Class := { plain "java/lang/constant/ConstantDesc" (some 0) with
  accessFlags := 1537
  interfaces := #[]
  cf := some (fileOf pool8 1 #[] #[] 1537 3 #[] #[])
  fields := #[]
  methods := #[]
  instanceTypes := #[]
  staticTypes := #[]
  resolved := Array.replicate 37 none
  statics := none }

def pool9 : Array CpInfo := pool [(1, .methodref 2 3), (0, .class_ 4), (0, .nameAndType 5 6), (0, u "java/lang/Object"), (0, u "<init>"), (0, u "()V"), (2, .fieldref 10 11), (0, .class_ 12), (0, .nameAndType 13 14), (0, u "java/lang/String"), (0, u "value"), (0, u "[B"), (0, .fieldref 10 16), (0, .nameAndType 17 18), (0, u "coder"), (0, u "B"), (2, u "hash"), (0, u "I"), (2, u "hashIsZero"), (0, u "Z"), (11, .fieldref 10 39), (0, .nameAndType 40 26), (0, u "COMPACT_STRINGS"), (13, .methodref 55 56), (0, .class_ 57), (0, .nameAndType 58 59), (0, u "java/util/Arrays"), (0, u "copyOfRange"), (0, u "([BII)[B"), (47, .class_ 109), (1, u "java/lang/StringLatin1"), (32, u "()Z"), (50, .class_ 195), (1, u "java/lang/System"), (16, .methodref 193 213), (0, .nameAndType 214 215), (0, u "arraycopy"), (0, u "(Ljava/lang/Object;ILjava/lang/Object;II)V"), (118, u "()I"), (0, .methodref 10 336), (0, .nameAndType 17 337), (0, u "()B"), (2, u "()[B"), (148, .methodref 10 490), (0, .nameAndType 5 491), (0, u "(Ljava/lang/AbstractStringBuilder;Ljava/lang/Void;)V"), (1, .nameAndType 494 142), (0, u "isLatin1"), (11, .nameAndType 507 334), (0, u "length"), (24, u "getBytes"), (8, .methodref 107 542), (0, .nameAndType 543 544), (0, u "equals"), (0, u "([B[B)Z"), (4, .methodref 550 506), (0, .class_ 551), (0, u "java/lang/AbstractStringBuilder"), (0, .methodref 550 553), (0, .nameAndType 554 340), (0, u "getValue"), (18, u "(Ljava/lang/Object;)Z"), (1, .class_ 576), (0, u "java/lang/CharSequence"), (22, u "CASE_INSENSITIVE_ORDER"), (0, u "Ljava/util/Comparator;"), (220, u "([BIB)V"), (225, .methodref 550 493), (53, u "serialPersistentFields"), (0, u "[Ljava/io/ObjectStreamField;"), (0, .class_ 1104), (0, u "java/lang/String$CaseInsensitiveComparator"), (1, .class_ 1107), (0, u "java/io/Serializable"), (0, .class_ 1109), (0, u "java/lang/Comparable"), (0, .class_ 1111), (0, u "java/lang/constant/Constable"), (0, .class_ 1113), (0, u "java/lang/constant/ConstantDesc"), (2, u "serialVersionUID"), (0, u "J"), (3, u "REPL"), (0, u "C"), (2, u "LATIN1"), (1, u "UTF16"), (105, u "(Ljava/lang/StringBuilder;)V")] 217

def k9m0 : Method := { name := "<init>", desc := "()V", sig := { parameters := [], returnType := none }, accessFlags := 1, code := none }
def k9c1 : Code := { maxStack := 3, maxLocals := 2, code := jdk_42_method_53_code, exceptionTable := #[], attributes := #[] }
def k9m1 : Method := { name := "<init>", desc := "(Ljava/lang/StringBuilder;)V", sig := { parameters := [(.object "java/lang/StringBuilder")], returnType := none }, accessFlags := 1, code := some k9c1 }
def k9c2 : Code := { maxStack := 2, maxLocals := 1, code := jdk_42_method_54_code, exceptionTable := #[], attributes := #[] }
def k9m2 : Method := { name := "length", desc := "()I", sig := { parameters := [], returnType := some .int }, accessFlags := 1, code := some k9c2 }
def k9c3 : Code := { maxStack := 2, maxLocals := 3, code := jdk_42_method_66_code, exceptionTable := #[], attributes := #[] }
def k9m3 : Method := { name := "equals", desc := "(Ljava/lang/Object;)Z", sig := { parameters := [(.object "java/lang/Object")], returnType := some .boolean }, accessFlags := 1, code := some k9c3 }
def k9c4 : Code := { maxStack := 5, maxLocals := 4, code := jdk_42_method_147_code, exceptionTable := #[], attributes := #[] }
def k9m4 : Method := { name := "getBytes", desc := "([BIB)V", sig := { parameters := [(.array .byte), .int, .byte], returnType := none }, accessFlags := 0, code := some k9c4 }
def k9c5 : Code := { maxStack := 5, maxLocals := 5, code := jdk_42_method_150_code, exceptionTable := #[], attributes := #[] }
def k9m5 : Method := { name := "<init>", desc := "(Ljava/lang/AbstractStringBuilder;Ljava/lang/Void;)V", sig := { parameters := [(.object "java/lang/AbstractStringBuilder"), (.object "java/lang/Void")], returnType := none }, accessFlags := 0, code := some k9c5 }
def k9c6 : Code := { maxStack := 1, maxLocals := 1, code := jdk_42_method_152_code, exceptionTable := #[], attributes := #[] }
def k9m6 : Method := { name := "coder", desc := "()B", sig := { parameters := [], returnType := some .byte }, accessFlags := 0, code := some k9c6 }
/-- java/lang/String -/
def k9 : Class := { plain "java/lang/String" (some 0) with
  accessFlags := 49
  interfaces := #[4, 3, 7, 2, 8]
  cf := some (fileOf pool9 10 #[.nestMembers #[1103]] #[{ accessFlags := 1, nameIndex := 5, descriptorIndex := 6, attributes := #[] }, { accessFlags := 1, nameIndex := 5, descriptorIndex := 1233, attributes := #[] }, { accessFlags := 1, nameIndex := 507, descriptorIndex := 334, attributes := #[] }, { accessFlags := 1, nameIndex := 543, descriptorIndex := 573, attributes := #[] }, { accessFlags := 0, nameIndex := 532, descriptorIndex := 821, attributes := #[] }, { accessFlags := 0, nameIndex := 5, descriptorIndex := 491, attributes := #[] }, { accessFlags := 0, nameIndex := 17, descriptorIndex := 337, attributes := #[] }] 49 2 #[1106, 1108, 575, 1110, 1112] #[{ accessFlags := 18, nameIndex := 13, descriptorIndex := 14, attributes := #[] }, { accessFlags := 18, nameIndex := 17, descriptorIndex := 18, attributes := #[] }, { accessFlags := 2, nameIndex := 21, descriptorIndex := 22, attributes := #[] }, { accessFlags := 2, nameIndex := 25, descriptorIndex := 26, attributes := #[] }, { accessFlags := 26, nameIndex := 1116, descriptorIndex := 1117, attributes := #[] }, { accessFlags := 24, nameIndex := 40, descriptorIndex := 26, attributes := #[] }, { accessFlags := 26, nameIndex := 1101, descriptorIndex := 1102, attributes := #[] }, { accessFlags := 26, nameIndex := 1121, descriptorIndex := 1122, attributes := #[] }, { accessFlags := 25, nameIndex := 599, descriptorIndex := 600, attributes := #[] }, { accessFlags := 24, nameIndex := 1125, descriptorIndex := 18, attributes := #[] }, { accessFlags := 24, nameIndex := 1127, descriptorIndex := 18, attributes := #[] }])
  fields := #[{ name := "value", type := (.array .byte), accessFlags := 18, slot := 0, constantValue := 0 }, { name := "coder", type := .byte, accessFlags := 18, slot := 1, constantValue := 0 }, { name := "hash", type := .int, accessFlags := 2, slot := 2, constantValue := 0 }, { name := "hashIsZero", type := .boolean, accessFlags := 2, slot := 3, constantValue := 0 }, { name := "serialVersionUID", type := .long, accessFlags := 26, slot := 0, constantValue := 0 }, { name := "COMPACT_STRINGS", type := .boolean, accessFlags := 24, slot := 1, constantValue := 0 }, { name := "serialPersistentFields", type := (.array (.object "java/io/ObjectStreamField")), accessFlags := 26, slot := 2, constantValue := 0 }, { name := "REPL", type := .char, accessFlags := 26, slot := 3, constantValue := 0 }, { name := "CASE_INSENSITIVE_ORDER", type := (.object "java/util/Comparator"), accessFlags := 25, slot := 4, constantValue := 0 }, { name := "LATIN1", type := .byte, accessFlags := 24, slot := 5, constantValue := 0 }, { name := "UTF16", type := .byte, accessFlags := 24, slot := 6, constantValue := 0 }]
  methods := #[k9m0, k9m1, k9m2, k9m3, k9m4, k9m5, k9m6]
  instanceTypes := #[(.array .byte), .byte, .int, .boolean]
  staticTypes := #[.long, .boolean, (.array (.object "java/io/ObjectStreamField")), .char, (.object "java/util/Comparator"), .byte, .byte]
  resolved := Array.replicate 1451 none
  statics := some 1 }

def pool10 : Array CpInfo := pool [(4, .class_ 6), (1, u "java/lang/Object"), (0, u "<init>"), (0, u "()V"), (5, .class_ 16), (1, u "java/lang/StringLatin1"), (104, u "$assertionsDisabled"), (0, u "Z"), (98, .class_ 223), (1, u "java/lang/StringLatin1$LinesSpliterator"), (57, u "equals"), (0, u "([B[B)Z"), (107, .class_ 391), (0, u "java/lang/StringLatin1$CharsSpliterator")] 3

def k10m0 : Method := { name := "<init>", desc := "()V", sig := { parameters := [], returnType := none }, accessFlags := 0, code := none }
def k10c1 : Code := { maxStack := 3, maxLocals := 3, code := jdk_43_method_13_code, exceptionTable := #[], attributes := #[] }
def k10m1 : Method := { name := "equals", desc := "([B[B)Z", sig := { parameters := [(.array .byte), (.array .byte)], returnType := some .boolean }, accessFlags := 9, code := some k10c1 }
/-- java/lang/StringLatin1 -/
def k10 : Class := { plain "java/lang/StringLatin1" (some 0) with
  accessFlags := 48
  interfaces := #[]
  cf := some (fileOf pool10 14 #[.nestMembers #[390, 221]] #[{ accessFlags := 0, nameIndex := 7, descriptorIndex := 8, attributes := #[] }, { accessFlags := 9, nameIndex := 281, descriptorIndex := 282, attributes := #[] }] 48 4 #[] #[{ accessFlags := 4120, nameIndex := 121, descriptorIndex := 122, attributes := #[] }])
  fields := #[{ name := "$assertionsDisabled", type := .boolean, accessFlags := 4120, slot := 0, constantValue := 0 }]
  methods := #[k10m0, k10m1]
  instanceTypes := #[]
  staticTypes := #[.boolean]
  resolved := Array.replicate 395 none
  statics := none }

def pool11 : Array CpInfo := pool [(1, .class_ 2), (0, u "java/lang/Appendable"), (0, .class_ 4), (0, u "java/lang/Object")] 9

/-- java/lang/Appendable -/
def k11 : Class := { plain "java/lang/Appendable" (some 0) with
  accessFlags := 1537
  interfaces := #[]
  cf := some (fileOf pool11 1 #[] #[] 1537 3 #[] #[])
  fields := #[]
  methods := #[]
  instanceTypes := #[]
  staticTypes := #[]
  resolved := Array.replicate 14 none
  statics := none }

def pool12 : Array CpInfo := pool [(1, .class_ 2), (0, u "java/lang/String"), (0, .methodref 4 5), (0, .class_ 6), (0, .nameAndType 7 8), (0, u "java/lang/Object"), (0, u "<init>"), (0, u "()V"), (1, .class_ 12), (1, u "java/lang/AbstractStringBuilder"), (0, u "EMPTYVALUE"), (0, u "[B"), (0, .fieldref 10 16), (0, .nameAndType 17 14), (0, u "value"), (0, .fieldref 1 19), (0, .nameAndType 20 21), (0, u "COMPACT_STRINGS"), (0, u "Z"), (0, .fieldref 10 23), (0, .nameAndType 24 25), (0, u "coder"), (0, u "B"), (6, .methodref 1 33), (0, .nameAndType 34 35), (0, u "length"), (0, u "()I"), (0, .class_ 37), (0, u "java/lang/Integer"), (2, .methodref 1 41), (0, .nameAndType 24 42), (0, u "()B"), (2, u "append"), (0, u "(Ljava/lang/String;)Ljava/lang/AbstractStringBuilder;"), (1, .class_ 49), (0, u "java/lang/CharSequence"), (19, u "(Ljava/lang/String;)V"), (5, u "maybeLatin1"), (3, .fieldref 10 80), (0, .nameAndType 81 82), (0, u "count"), (0, u "I"), (0, .methodref 10 84), (0, .nameAndType 85 86), (0, u "isLatin1"), (0, u "()Z"), (13, .methodref 10 101), (0, .nameAndType 102 103), (0, u "ensureCapacityInternal"), (0, u "(I)V"), (3, u "(I)I"), (80, u "getChars"), (19, .methodref 10 209), (0, .nameAndType 210 211), (0, u "putStringAt"), (0, u "(ILjava/lang/String;)V"), (5, u "inflateIfNeededFor"), (2, .nameAndType 221 222), (0, u "getBytes"), (0, u "([BIB)V"), (22, .methodref 36 246), (0, .nameAndType 247 107), (0, u "stringSize"), (0, .methodref 36 249), (0, .nameAndType 188 250), (0, u "(II[B)I"), (146, .methodref 10 398), (0, .nameAndType 217 69), (0, .methodref 1 220), (3, u "()[B"), (40, .class_ 445), (0, u "java/lang/Appendable"), (65, u "(I)Ljava/lang/AbstractStringBuilder;"), (40, u "getValue")] 56

def k12m0 : Method := { name := "<init>", desc := "()V", sig := { parameters := [], returnType := none }, accessFlags := 0, code := none }
def k12c1 : Code := { maxStack := 2, maxLocals := 2, code := jdk_68_method_2_code, exceptionTable := #[], attributes := #[] }
def k12m1 : Method := { name := "<init>", desc := "(I)V", sig := { parameters := [.int], returnType := none }, accessFlags := 0, code := some k12c1 }
def k12c2 : Code := { maxStack := 1, maxLocals := 1, code := jdk_68_method_6_code, exceptionTable := #[], attributes := #[] }
def k12m2 : Method := { name := "length", desc := "()I", sig := { parameters := [], returnType := some .int }, accessFlags := 1, code := some k12c2 }
def k12c3 : Code := { maxStack := 4, maxLocals := 3, code := jdk_68_method_9_code, exceptionTable := #[], attributes := #[] }
def k12m3 : Method := { name := "ensureCapacityInternal", desc := "(I)V", sig := { parameters := [.int], returnType := none }, accessFlags := 2, code := some k12c3 }
def k12c4 : Code := { maxStack := 3, maxLocals := 3, code := jdk_68_method_22_code, exceptionTable := #[], attributes := #[] }
def k12m4 : Method := { name := "append", desc := "(Ljava/lang/String;)Ljava/lang/AbstractStringBuilder;", sig := { parameters := [(.object "java/lang/String")], returnType := some (.object "java/lang/AbstractStringBuilder") }, accessFlags := 1, code := some k12c4 }
def k12c5 : Code := { maxStack := 4, maxLocals := 4, code := jdk_68_method_32_code, exceptionTable := #[], attributes := #[] }
def k12m5 : Method := { name := "append", desc := "(I)Ljava/lang/AbstractStringBuilder;", sig := { parameters := [.int], returnType := some (.object "java/lang/AbstractStringBuilder") }, accessFlags := 1, code := some k12c5 }
def k12c6 : Code := { maxStack := 1, maxLocals := 1, code := jdk_68_method_64_code, exceptionTable := #[], attributes := #[] }
def k12m6 : Method := { name := "getValue", desc := "()[B", sig := { parameters := [], returnType := some (.array .byte) }, accessFlags := 16, code := some k12c6 }
def k12c7 : Code := { maxStack := 1, maxLocals := 1, code := jdk_68_method_68_code, exceptionTable := #[], attributes := #[] }
def k12m7 : Method := { name := "isLatin1", desc := "()Z", sig := { parameters := [], returnType := some .boolean }, accessFlags := 16, code := some k12c7 }
def k12c8 : Code := { maxStack := 2, maxLocals := 2, code := jdk_68_method_71_code, exceptionTable := #[], attributes := #[] }
def k12m8 : Method := { name := "inflateIfNeededFor", desc := "(Ljava/lang/String;)V", sig := { parameters := [(.object "java/lang/String")], returnType := none }, accessFlags := 2, code := some k12c8 }
def k12c9 : Code := { maxStack := 4, maxLocals := 3, code := jdk_68_method_73_code, exceptionTable := #[], attributes := #[] }
def k12m9 : Method := { name := "putStringAt", desc := "(ILjava/lang/String;)V", sig := { parameters := [.int, (.object "java/lang/String")], returnType := none }, accessFlags := 2, code := some k12c9 }
/-- java/lang/AbstractStringBuilder -/
def k12 : Class := { plain "java/lang/AbstractStringBuilder" (some 0) with
  accessFlags := 1056
  interfaces := #[11, 7]
  cf := some (fileOf pool12 10 #[] #[{ accessFlags := 0, nameIndex := 7, descriptorIndex := 8, attributes := #[] }, { accessFlags := 0, nameIndex := 7, descriptorIndex := 103, attributes := #[] }, { accessFlags := 1, nameIndex := 34, descriptorIndex := 35, attributes := #[] }, { accessFlags := 2, nameIndex := 102, descriptorIndex := 103, attributes := #[] }, { accessFlags := 1, nameIndex := 45, descriptorIndex := 46, attributes := #[] }, { accessFlags := 1, nameIndex := 45, descriptorIndex := 511, attributes := #[] }, { accessFlags := 16, nameIndex := 552, descriptorIndex := 403, attributes := #[] }, { accessFlags := 16, nameIndex := 85, descriptorIndex := 86, attributes := #[] }, { accessFlags := 2, nameIndex := 217, descriptorIndex := 69, attributes := #[] }, { accessFlags := 2, nameIndex := 210, descriptorIndex := 211, attributes := #[] }] 1056 4 #[444, 48] #[{ accessFlags := 0, nameIndex := 17, descriptorIndex := 14, attributes := #[] }, { accessFlags := 0, nameIndex := 24, descriptorIndex := 25, attributes := #[] }, { accessFlags := 0, nameIndex := 75, descriptorIndex := 21, attributes := #[] }, { accessFlags := 0, nameIndex := 81, descriptorIndex := 82, attributes := #[] }, { accessFlags := 26, nameIndex := 13, descriptorIndex := 14, attributes := #[] }])
  fields := #[{ name := "value", type := (.array .byte), accessFlags := 0, slot := 0, constantValue := 0 }, { name := "coder", type := .byte, accessFlags := 0, slot := 1, constantValue := 0 }, { name := "maybeLatin1", type := .boolean, accessFlags := 0, slot := 2, constantValue := 0 }, { name := "count", type := .int, accessFlags := 0, slot := 3, constantValue := 0 }, { name := "EMPTYVALUE", type := (.array .byte), accessFlags := 26, slot := 0, constantValue := 0 }]
  methods := #[k12m0, k12m1, k12m2, k12m3, k12m4, k12m5, k12m6, k12m7, k12m8, k12m9]
  instanceTypes := #[(.array .byte), .byte, .boolean, .int]
  staticTypes := #[(.array .byte)]
  resolved := Array.replicate 609 none
  statics := none }

def pool13 : Array CpInfo := pool [(1, .methodref 2 3), (0, .class_ 4), (0, .nameAndType 5 6), (0, u "java/lang/AbstractStringBuilder"), (0, u "<init>"), (0, u "(I)V"), (11, .class_ 20), (1, u "java/lang/String"), (3, .class_ 26), (1, u "java/lang/StringBuilder"), (0, u "append"), (0, u "(Ljava/lang/String;)Ljava/lang/StringBuilder;"), (0, .methodref 2 30), (0, .nameAndType 27 31), (0, u "(Ljava/lang/String;)Ljava/lang/AbstractStringBuilder;"), (21, .methodref 2 54), (0, .nameAndType 27 55), (0, u "(I)Ljava/lang/AbstractStringBuilder;"), (81, .methodref 18 138), (0, .nameAndType 5 139), (0, u "(Ljava/lang/StringBuilder;)V"), (5, u "()V"), (10, u "()I"), (111, u "(I)Ljava/lang/StringBuilder;"), (74, .methodref 2 344), (0, .nameAndType 345 156), (0, u "length"), (3, .class_ 350), (0, u "java/lang/Appendable"), (0, .class_ 352), (0, u "java/io/Serializable"), (0, .class_ 354), (0, u "java/lang/Comparable"), (0, .class_ 356), (0, u "java/lang/CharSequence"), (0, u "serialVersionUID"), (0, u "J"), (40, u "toString"), (0, u "()Ljava/lang/String;")] 21

def k13c0 : Code := { maxStack := 2, maxLocals := 1, code := jdk_67_method_1_code, exceptionTable := #[], attributes := #[] }
def k13m0 : Method := { name := "<init>", desc := "()V", sig := { parameters := [], returnType := none }, accessFlags := 1, code := some k13c0 }
def k13c1 : Code := { maxStack := 2, maxLocals := 2, code := jdk_67_method_7_code, exceptionTable := #[], attributes := #[] }
def k13m1 : Method := { name := "append", desc := "(Ljava/lang/String;)Ljava/lang/StringBuilder;", sig := { parameters := [(.object "java/lang/String")], returnType := some (.object "java/lang/StringBuilder") }, accessFlags := 1, code := some k13c1 }
def k13c2 : Code := { maxStack := 2, maxLocals := 2, code := jdk_67_method_15_code, exceptionTable := #[], attributes := #[] }
def k13m2 : Method := { name := "append", desc := "(I)Ljava/lang/StringBuilder;", sig := { parameters := [.int], returnType := some (.object "java/lang/StringBuilder") }, accessFlags := 1, code := some k13c2 }
def k13c3 : Code := { maxStack := 3, maxLocals := 1, code := jdk_67_method_42_code, exceptionTable := #[], attributes := #[] }
def k13m3 : Method := { name := "toString", desc := "()Ljava/lang/String;", sig := { parameters := [], returnType := some (.object "java/lang/String") }, accessFlags := 1, code := some k13c3 }
def k13c4 : Code := { maxStack := 1, maxLocals := 1, code := jdk_67_method_93_code, exceptionTable := #[], attributes := #[] }
def k13m4 : Method := { name := "length", desc := "()I", sig := { parameters := [], returnType := some .int }, accessFlags := 4161, code := some k13c4 }
/-- java/lang/StringBuilder -/
def k13 : Class := { plain "java/lang/StringBuilder" (some 12) with
  accessFlags := 49
  interfaces := #[11, 4, 3, 7]
  cf := some (fileOf pool13 24 #[] #[{ accessFlags := 1, nameIndex := 5, descriptorIndex := 145, attributes := #[] }, { accessFlags := 1, nameIndex := 27, descriptorIndex := 28, attributes := #[] }, { accessFlags := 1, nameIndex := 27, descriptorIndex := 268, attributes := #[] }, { accessFlags := 1, nameIndex := 399, descriptorIndex := 400, attributes := #[] }, { accessFlags := 4161, nameIndex := 345, descriptorIndex := 156, attributes := #[] }] 49 2 #[349, 351, 353, 355] #[{ accessFlags := 24, nameIndex := 357, descriptorIndex := 358, attributes := #[] }])
  fields := #[{ name := "serialVersionUID", type := .long, accessFlags := 24, slot := 0, constantValue := 0 }]
  methods := #[k13m0, k13m1, k13m2, k13m3, k13m4]
  instanceTypes := #[(.array .byte), .byte, .boolean, .int]
  staticTypes := #[.long]
  resolved := Array.replicate 422 none
  statics := none }

def pool14 : Array CpInfo := pool [(2, .class_ 4), (1, u "java/lang/Object"), (0, u "<init>"), (0, u "()V"), (1, .class_ 10), (1, u "java/lang/System"), (0, u "allowSecurityManager"), (0, u "I"), (16, u "cons"), (0, u "Ljava/io/Console;"), (77, .class_ 110), (1, u "java/lang/System$CallersHolder"), (43, u "initialErrStream"), (0, u "Ljava/io/PrintStream;"), (19, u "security"), (0, u "Ljava/lang/SecurityManager;"), (31, .class_ 209), (0, u "java/lang/System$1"), (7, u "props"), (0, u "Ljava/util/Properties;"), (2, u "lineSeparator"), (0, u "Ljava/lang/String;"), (96, .class_ 321), (1, u "java/lang/System$LoggerFinder"), (5, .class_ 328), (0, u "java/lang/System$Logger"), (67, u "err"), (2, u "out"), (91, u "notSupportedJnuEncoding"), (15, u "in"), (17, u "initialIn"), (0, u "Ljava/io/InputStream;"), (35, u "bootLayer"), (0, u "Ljava/lang/ModuleLayer;"), (99, .class_ 664), (0, u "java/lang/System$2"), (9, u "NEVER"), (2, u "MAYBE"), (49, u "arraycopy"), (0, u "(Ljava/lang/Object;ILjava/lang/Object;II)V"), (72, .class_ 802), (0, u "java/lang/System$Logger$Level")] 31

def k14m0 : Method := { name := "<init>", desc := "()V", sig := { parameters := [], returnType := none }, accessFlags := 2, code := none }
def k14m1 : Method := { name := "arraycopy", desc := "(Ljava/lang/Object;ILjava/lang/Object;II)V", sig := { parameters := [(.object "java/lang/Object"), .int, (.object "java/lang/Object"), .int, .int], returnType := none }, accessFlags := 265, code := none }
/-- java/lang/System -/
def k14 : Class := { plain "java/lang/System" (some 0) with
  accessFlags := 49
  interfaces := #[]
  cf := some (fileOf pool14 8 #[.nestMembers #[319, 327, 801, 108, 663, 208]] #[{ accessFlags := 2, nameIndex := 5, descriptorIndex := 6, attributes := #[] }, { accessFlags := 265, nameIndex := 727, descriptorIndex := 728, attributes := #[] }] 49 2 #[] #[{ accessFlags := 25, nameIndex := 507, descriptorIndex := 526, attributes := #[] }, { accessFlags := 25, nameIndex := 399, descriptorIndex := 155, attributes := #[] }, { accessFlags := 25, nameIndex := 396, descriptorIndex := 155, attributes := #[] }, { accessFlags := 10, nameIndex := 525, descriptorIndex := 526, attributes := #[] }, { accessFlags := 26, nameIndex := 674, descriptorIndex := 12, attributes := #[] }, { accessFlags := 26, nameIndex := 677, descriptorIndex := 12, attributes := #[] }, { accessFlags := 10, nameIndex := 11, descriptorIndex := 12, attributes := #[] }, { accessFlags := 74, nameIndex := 175, descriptorIndex := 176, attributes := #[] }, { accessFlags := 10, nameIndex := 491, descriptorIndex := 222, attributes := #[] }, { accessFlags := 74, nameIndex := 29, descriptorIndex := 30, attributes := #[] }, { accessFlags := 74, nameIndex := 154, descriptorIndex := 155, attributes := #[] }, { accessFlags := 10, nameIndex := 217, descriptorIndex := 218, attributes := #[] }, { accessFlags := 10, nameIndex := 221, descriptorIndex := 222, attributes := #[] }, { accessFlags := 8, nameIndex := 562, descriptorIndex := 563, attributes := #[] }])
  fields := #[{ name := "in", type := (.object "java/io/InputStream"), accessFlags := 25, slot := 0, constantValue := 0 }, { name := "out", type := (.object "java/io/PrintStream"), accessFlags := 25, slot := 1, constantValue := 0 }, { name := "err", type := (.object "java/io/PrintStream"), accessFlags := 25, slot := 2, constantValue := 0 }, { name := "initialIn", type := (.object "java/io/InputStream"), accessFlags := 10, slot := 3, constantValue := 0 }, { name := "NEVER", type := .int, accessFlags := 26, slot := 4, constantValue := 0 }, { name := "MAYBE", type := .int, accessFlags := 26, slot := 5, constantValue := 0 }, { name := "allowSecurityManager", type := .int, accessFlags := 10, slot := 6, constantValue := 0 }, { name := "security", type := (.object "java/lang/SecurityManager"), accessFlags := 74, slot := 7, constantValue := 0 }, { name := "notSupportedJnuEncoding", type := (.object "java/lang/String"), accessFlags := 10, slot := 8, constantValue := 0 }, { name := "cons", type := (.object "java/io/Console"), accessFlags := 74, slot := 9, constantValue := 0 }, { name := "initialErrStream", type := (.object "java/io/PrintStream"), accessFlags := 74, slot := 10, constantValue := 0 }, { name := "props", type := (.object "java/util/Properties"), accessFlags := 10, slot := 11, constantValue := 0 }, { name := "lineSeparator", type := (.object "java/lang/String"), accessFlags := 10, slot := 12, constantValue := 0 }, { name := "bootLayer", type := (.object "java/lang/ModuleLayer"), accessFlags := 8, slot := 13, constantValue := 0 }]
  methods := #[k14m0, k14m1]
  instanceTypes := #[]
  staticTypes := #[(.object "java/io/InputStream"), (.object "java/io/PrintStream"), (.object "java/io/PrintStream"), (.object "java/io/InputStream"), .int, .int, .int, (.object "java/lang/SecurityManager"), (.object "java/lang/String"), (.object "java/io/Console"), (.object "java/io/PrintStream"), (.object "java/util/Properties"), (.object "java/lang/String"), (.object "java/lang/ModuleLayer")]
  resolved := Array.replicate 834 none
  statics := none }

def pool15 : Array CpInfo := pool [(2, .class_ 4), (1, u "java/lang/Object"), (0, u "<init>"), (0, u "()V"), (1, .class_ 10), (1, u "java/lang/Number"), (2, .class_ 14), (0, u "java/io/Serializable"), (0, u "serialVersionUID"), (0, u "J")] 20

def k15m0 : Method := { name := "<init>", desc := "()V", sig := { parameters := [], returnType := none }, accessFlags := 1, code := none }
/-- java/lang/Number -/
def k15 : Class := { plain "java/lang/Number" (some 0) with
  accessFlags := 1057
  interfaces := #[4]
  cf := some (fileOf pool15 8 #[] #[{ accessFlags := 1, nameIndex := 5, descriptorIndex := 6, attributes := #[] }] 1057 2 #[13] #[{ accessFlags := 26, nameIndex := 15, descriptorIndex := 16, attributes := #[] }])
  fields := #[{ name := "serialVersionUID", type := .long, accessFlags := 26, slot := 0, constantValue := 0 }]
  methods := #[k15m0]
  instanceTypes := #[]
  staticTypes := #[.long]
  resolved := Array.replicate 37 none
  statics := none }

def pool16 : Array CpInfo := pool [(1, .class_ 2), (0, u "java/lang/Integer"), (16, u "digits"), (0, u "[C"), (33, u "(I)I"), (19, u "stringSize"), (2, u "getChars"), (0, u "(II[B)I"), (4, .fieldref 1 84), (0, .nameAndType 85 86), (0, u "DigitOnes"), (0, u "[B"), (0, .fieldref 1 88), (0, .nameAndType 89 86), (0, u "DigitTens"), (99, .class_ 190), (0, u "java/lang/Integer$IntegerCache"), (3, u "I"), (8, .class_ 204), (0, u "java/lang/Number"), (2, u "value"), (94, u "TYPE"), (0, u "Ljava/lang/Class;"), (0, .class_ 305), (0, u "java/lang/Comparable"), (0, .class_ 307), (0, u "java/lang/constant/Constable"), (0, .class_ 309), (0, u "java/lang/constant/ConstantDesc"), (0, u "MIN_VALUE"), (1, u "MAX_VALUE"), (3, u "SIZE"), (1, u "BYTES"), (1, u "serialVersionUID"), (0, u "J")] 131

def k16c0 : Code := { maxStack := 4, maxLocals := 7, code := jdk_33_method_12_code, exceptionTable := #[], attributes := #[] }
def k16m0 : Method := { name := "getChars", desc := "(II[B)I", sig := { parameters := [.int, .int, (.array .byte)], returnType := some .int }, accessFlags := 8, code := some k16c0 }
def k16c1 : Code := { maxStack := 2, maxLocals := 4, code := jdk_33_method_13_code, exceptionTable := #[], attributes := #[] }
def k16m1 : Method := { name := "stringSize", desc := "(I)I", sig := { parameters := [.int], returnType := some .int }, accessFlags := 8, code := some k16c1 }
/-- java/lang/Integer -/
def k16 : Class := { plain "java/lang/Integer" (some 15) with
  accessFlags := 49
  interfaces := #[3, 2, 8]
  cf := some (fileOf pool16 1 #[.nestMembers #[189]] #[{ accessFlags := 8, nameIndex := 77, descriptorIndex := 78, attributes := #[] }, { accessFlags := 8, nameIndex := 74, descriptorIndex := 54, attributes := #[] }] 49 203 #[304, 306, 308] #[{ accessFlags := 25, nameIndex := 310, descriptorIndex := 194, attributes := #[] }, { accessFlags := 25, nameIndex := 312, descriptorIndex := 194, attributes := #[] }, { accessFlags := 25, nameIndex := 302, descriptorIndex := 303, attributes := #[] }, { accessFlags := 24, nameIndex := 19, descriptorIndex := 20, attributes := #[] }, { accessFlags := 24, nameIndex := 89, descriptorIndex := 86, attributes := #[] }, { accessFlags := 24, nameIndex := 85, descriptorIndex := 86, attributes := #[] }, { accessFlags := 18, nameIndex := 207, descriptorIndex := 194, attributes := #[] }, { accessFlags := 25, nameIndex := 316, descriptorIndex := 194, attributes := #[] }, { accessFlags := 25, nameIndex := 318, descriptorIndex := 194, attributes := #[] }, { accessFlags := 26, nameIndex := 320, descriptorIndex := 321, attributes := #[] }])
  fields := #[{ name := "MIN_VALUE", type := .int, accessFlags := 25, slot := 0, constantValue := 0 }, { name := "MAX_VALUE", type := .int, accessFlags := 25, slot := 1, constantValue := 0 }, { name := "TYPE", type := (.object "java/lang/Class"), accessFlags := 25, slot := 2, constantValue := 0 }, { name := "digits", type := (.array .char), accessFlags := 24, slot := 3, constantValue := 0 }, { name := "DigitTens", type := (.array .byte), accessFlags := 24, slot := 4, constantValue := 0 }, { name := "DigitOnes", type := (.array .byte), accessFlags := 24, slot := 5, constantValue := 0 }, { name := "value", type := .int, accessFlags := 18, slot := 0, constantValue := 0 }, { name := "SIZE", type := .int, accessFlags := 25, slot := 6, constantValue := 0 }, { name := "BYTES", type := .int, accessFlags := 25, slot := 7, constantValue := 0 }, { name := "serialVersionUID", type := .long, accessFlags := 26, slot := 8, constantValue := 0 }]
  methods := #[k16m0, k16m1]
  instanceTypes := #[.int]
  staticTypes := #[.int, .int, (.object "java/lang/Class"), (.array .char), (.array .byte), (.array .byte), .int, .int, .long]
  resolved := Array.replicate 453 none
  statics := some 2 }

def pool17 : Array CpInfo := pool [(2, .class_ 4), (1, u "java/lang/Object"), (0, u "<init>"), (0, u "()V"), (7, .class_ 16), (1, u "java/util/Arrays"), (57, .class_ 76), (1, u "java/util/Arrays$NaturalOrder"), (36, .class_ 115), (1, u "java/util/Arrays$LegacyMergeSort"), (1, u "Z"), (21, u "copyOfRange"), (10, .methodref 151 152), (0, .class_ 153), (0, .nameAndType 154 155), (0, u "java/lang/System"), (0, u "arraycopy"), (0, u "(Ljava/lang/Object;ILjava/lang/Object;II)V"), (148, .methodref 305 306), (0, .class_ 307), (0, .nameAndType 308 309), (0, u "java/lang/Math"), (0, u "min"), (0, u "(II)I"), (29, .methodref 14 340), (0, .nameAndType 341 342), (0, u "copyOfRangeByte"), (0, u "([BII)[B"), (0, .methodref 14 344), (0, .nameAndType 345 346), (0, u "checkLength"), (0, u "(II)V"), (28, .class_ 376), (0, u "java/util/Arrays$ArrayList"), (68, u "$assertionsDisabled"), (269, u "MIN_ARRAY_SORT_GRAN"), (0, u "I"), (2, u "INSERTIONSORT_THRESHOLD"), (255, .class_ 976), (0, u "java/util/Arrays$ArrayItr")] 52

def k17m0 : Method := { name := "<init>", desc := "()V", sig := { parameters := [], returnType := none }, accessFlags := 2, code := none }
def k17c1 : Code := { maxStack := 4, maxLocals := 2, code := jdk_65_method_131_code, exceptionTable := #[], attributes := #[] }
def k17m1 : Method := { name := "checkLength", desc := "(II)V", sig := { parameters := [.int, .int], returnType := none }, accessFlags := 10, code := some k17c1 }
def k17c2 : Code := { maxStack := 3, maxLocals := 3, code := jdk_65_method_132_code, exceptionTable := #[], attributes := #[] }
def k17m2 : Method := { name := "copyOfRange", desc := "([BII)[B", sig := { parameters := [(.array .byte), .int, .int], returnType := some (.array .byte) }, accessFlags := 9, code := some k17c2 }
def k17c3 : Code := { maxStack := 6, maxLocals := 5, code := jdk_65_method_133_code, exceptionTable := #[], attributes := #[] }
def k17m3 : Method := { name := "copyOfRangeByte", desc := "([BII)[B", sig := { parameters := [(.array .byte), .int, .int], returnType := some (.array .byte) }, accessFlags := 10, code := some k17c3 }
/-- java/util/Arrays -/
def k17 : Class := { plain "java/util/Arrays" (some 0) with
  accessFlags := 49
  interfaces := #[]
  cf := some (fileOf pool17 14 #[.nestMembers #[975, 375, 113, 74]] #[{ accessFlags := 2, nameIndex := 5, descriptorIndex := 6, attributes := #[] }, { accessFlags := 10, nameIndex := 345, descriptorIndex := 346, attributes := #[] }, { accessFlags := 9, nameIndex := 139, descriptorIndex := 342, attributes := #[] }, { accessFlags := 10, nameIndex := 341, descriptorIndex := 342, attributes := #[] }] 49 2 #[] #[{ accessFlags := 26, nameIndex := 715, descriptorIndex := 716, attributes := #[] }, { accessFlags := 26, nameIndex := 719, descriptorIndex := 716, attributes := #[] }, { accessFlags := 4120, nameIndex := 445, descriptorIndex := 117, attributes := #[] }])
  fields := #[{ name := "MIN_ARRAY_SORT_GRAN", type := .int, accessFlags := 26, slot := 0, constantValue := 0 }, { name := "INSERTIONSORT_THRESHOLD", type := .int, accessFlags := 26, slot := 1, constantValue := 0 }, { name := "$assertionsDisabled", type := .boolean, accessFlags := 4120, slot := 2, constantValue := 0 }]
  methods := #[k17m0, k17m1, k17m2, k17m3]
  instanceTypes := #[]
  staticTypes := #[.int, .int, .boolean]
  resolved := Array.replicate 1029 none
  statics := none }

def pool18 : Array CpInfo := pool [(1, .class_ 2), (0, u "java/lang/Math"), (1, .class_ 6), (1, u "java/lang/Object"), (0, u "<init>"), (0, u "()V"), (89, .class_ 100), (1, u "java/lang/Math$RandomNumberGeneratorHolder"), (71, u "negativeZeroFloatBits"), (0, u "J"), (2, u "negativeZeroDoubleBits"), (24, u "min"), (43, u "$assertionsDisabled"), (0, u "Z"), (88, u "(II)I"), (2, u "twoToTheDoubleScaleDown"), (0, u "D"), (4, u "twoToTheDoubleScaleUp"), (9, u "E"), (3, u "PI"), (2, u "TAU"), (2, u "DEGREES_TO_RADIANS"), (0, u "RADIANS_TO_DEGREES")] 94

def k18m0 : Method := { name := "<init>", desc := "()V", sig := { parameters := [], returnType := none }, accessFlags := 2, code := none }
def k18c1 : Code := { maxStack := 2, maxLocals := 2, code := jdk_29_method_69_code, exceptionTable := #[], attributes := #[] }
def k18m1 : Method := { name := "min", desc := "(II)I", sig := { parameters := [.int, .int], returnType := some .int }, accessFlags := 9, code := some k18c1 }
/-- java/lang/Math -/
def k18 : Class := { plain "java/lang/Math" (some 0) with
  accessFlags := 49
  interfaces := #[]
  cf := some (fileOf pool18 1 #[.nestMembers #[98]] #[{ accessFlags := 2, nameIndex := 7, descriptorIndex := 8, attributes := #[] }, { accessFlags := 9, nameIndex := 201, descriptorIndex := 335, attributes := #[] }] 49 4 #[] #[{ accessFlags := 25, nameIndex := 354, descriptorIndex := 339, attributes := #[] }, { accessFlags := 25, nameIndex := 358, descriptorIndex := 339, attributes := #[] }, { accessFlags := 25, nameIndex := 361, descriptorIndex := 339, attributes := #[] }, { accessFlags := 26, nameIndex := 364, descriptorIndex := 339, attributes := #[] }, { accessFlags := 26, nameIndex := 365, descriptorIndex := 339, attributes := #[] }, { accessFlags := 26, nameIndex := 172, descriptorIndex := 173, attributes := #[] }, { accessFlags := 26, nameIndex := 176, descriptorIndex := 173, attributes := #[] }, { accessFlags := 8, nameIndex := 344, descriptorIndex := 339, attributes := #[] }, { accessFlags := 8, nameIndex := 338, descriptorIndex := 339, attributes := #[] }, { accessFlags := 4120, nameIndex := 245, descriptorIndex := 246, attributes := #[] }])
  fields := #[{ name := "E", type := .double, accessFlags := 25, slot := 0, constantValue := 0 }, { name := "PI", type := .double, accessFlags := 25, slot := 1, constantValue := 0 }, { name := "TAU", type := .double, accessFlags := 25, slot := 2, constantValue := 0 }, { name := "DEGREES_TO_RADIANS", type := .double, accessFlags := 26, slot := 3, constantValue := 0 }, { name := "RADIANS_TO_DEGREES", type := .double, accessFlags := 26, slot := 4, constantValue := 0 }, { name := "negativeZeroFloatBits", type := .long, accessFlags := 26, slot := 5, constantValue := 0 }, { name := "negativeZeroDoubleBits", type := .long, accessFlags := 26, slot := 6, constantValue := 0 }, { name := "twoToTheDoubleScaleUp", type := .double, accessFlags := 8, slot := 7, constantValue := 0 }, { name := "twoToTheDoubleScaleDown", type := .double, accessFlags := 8, slot := 8, constantValue := 0 }, { name := "$assertionsDisabled", type := .boolean, accessFlags := 4120, slot := 9, constantValue := 0 }]
  methods := #[k18m0, k18m1]
  instanceTypes := #[]
  staticTypes := #[.double, .double, .double, .double, .double, .long, .long, .double, .double, .boolean]
  resolved := Array.replicate 460 none
  statics := none }

def pool19 : Array CpInfo := pool [(2, .class_ 4), (1, u "java/lang/Object"), (0, u "<init>"), (0, u "()V"), (17, .class_ 26), (1, u "jdk/internal/util/Preconditions"), (28, .class_ 56), (0, u "jdk/internal/util/Preconditions$4"), (57, .class_ 115), (0, u "jdk/internal/util/Preconditions$1"), (7, u "SIOOBE_FORMATTER"), (0, u "Ljava/util/function/BiFunction;"), (0, .class_ 126), (0, u "jdk/internal/util/Preconditions$2"), (3, u "AIOOBE_FORMATTER"), (0, .class_ 132), (0, u "jdk/internal/util/Preconditions$3"), (3, u "IOOBE_FORMATTER")] 57

def k19m0 : Method := { name := "<init>", desc := "()V", sig := { parameters := [], returnType := none }, accessFlags := 1, code := none }
/-- jdk/internal/util/Preconditions -/
def k19 : Class := { plain "jdk/internal/util/Preconditions" (some 0) with
  accessFlags := 33
  interfaces := #[]
  cf := some (fileOf pool19 24 #[.nestMembers #[55, 131, 125, 114]] #[{ accessFlags := 1, nameIndex := 5, descriptorIndex := 6, attributes := #[] }] 33 2 #[] #[{ accessFlags := 25, nameIndex := 123, descriptorIndex := 124, attributes := #[] }, { accessFlags := 25, nameIndex := 130, descriptorIndex := 124, attributes := #[] }, { accessFlags := 25, nameIndex := 136, descriptorIndex := 124, attributes := #[] }])
  fields := #[{ name := "SIOOBE_FORMATTER", type := (.object "java/util/function/BiFunction"), accessFlags := 25, slot := 0, constantValue := 0 }, { name := "AIOOBE_FORMATTER", type := (.object "java/util/function/BiFunction"), accessFlags := 25, slot := 1, constantValue := 0 }, { name := "IOOBE_FORMATTER", type := (.object "java/util/function/BiFunction"), accessFlags := 25, slot := 2, constantValue := 0 }]
  methods := #[k19m0]
  instanceTypes := #[]
  staticTypes := #[(.object "java/util/function/BiFunction"), (.object "java/util/function/BiFunction"), (.object "java/util/function/BiFunction")]
  resolved := Array.replicate 194 none
  statics := some 3 }

def pool20 : Array CpInfo := pool [(9, u "<init>"), (6, .class_ 18), (1, u "java/lang/Object"), (0, u "()V"), (1, .class_ 23), (1, u "jdk/internal/util/ArraysSupport"), (0, u "LOG2_ARRAY_LONG_INDEX_SCALE"), (0, u "I"), (2, u "U"), (0, u "Ljdk/internal/misc/Unsafe;"), (8, u "BIG_ENDIAN"), (0, u "Z"), (8, u "LOG2_BYTE_BIT_SIZE"), (4, u "LOG2_ARRAY_INT_INDEX_SCALE"), (54, u "JLA"), (0, u "Ljdk/internal/access/JavaLangAccess;"), (11, u "LOG2_ARRAY_BOOLEAN_INDEX_SCALE"), (9, u "LOG2_ARRAY_BYTE_INDEX_SCALE"), (5, u "LOG2_ARRAY_CHAR_INDEX_SCALE"), (5, u "LOG2_ARRAY_SHORT_INDEX_SCALE"), (18, u "LOG2_ARRAY_FLOAT_INDEX_SCALE"), (24, u "LOG2_ARRAY_DOUBLE_INDEX_SCALE"), (89, u "T_BOOLEAN"), (2, u "T_CHAR"), (1, u "T_FLOAT"), (1, u "T_DOUBLE"), (1, u "T_BYTE"), (1, u "T_SHORT"), (1, u "T_INT"), (1, u "T_LONG"), (1, u "SOFT_MAX_ARRAY_LENGTH")] 83

def k20m0 : Method := { name := "<init>", desc := "()V", sig := { parameters := [], returnType := none }, accessFlags := 2, code := none }
/-- jdk/internal/util/ArraysSupport -/
def k20 : Class := { plain "jdk/internal/util/ArraysSupport" (some 0) with
  accessFlags := 33
  interfaces := #[]
  cf := some (fileOf pool20 21 #[] #[{ accessFlags := 2, nameIndex := 9, descriptorIndex := 19, attributes := #[] }] 33 16 #[] #[{ accessFlags := 24, nameIndex := 28, descriptorIndex := 29, attributes := #[] }, { accessFlags := 26, nameIndex := 38, descriptorIndex := 39, attributes := #[] }, { accessFlags := 25, nameIndex := 121, descriptorIndex := 25, attributes := #[] }, { accessFlags := 25, nameIndex := 131, descriptorIndex := 25, attributes := #[] }, { accessFlags := 25, nameIndex := 137, descriptorIndex := 25, attributes := #[] }, { accessFlags := 25, nameIndex := 143, descriptorIndex := 25, attributes := #[] }, { accessFlags := 25, nameIndex := 53, descriptorIndex := 25, attributes := #[] }, { accessFlags := 25, nameIndex := 24, descriptorIndex := 25, attributes := #[] }, { accessFlags := 25, nameIndex := 162, descriptorIndex := 25, attributes := #[] }, { accessFlags := 25, nameIndex := 187, descriptorIndex := 25, attributes := #[] }, { accessFlags := 26, nameIndex := 48, descriptorIndex := 25, attributes := #[] }, { accessFlags := 25, nameIndex := 277, descriptorIndex := 25, attributes := #[] }, { accessFlags := 25, nameIndex := 280, descriptorIndex := 25, attributes := #[] }, { accessFlags := 25, nameIndex := 282, descriptorIndex := 25, attributes := #[] }, { accessFlags := 25, nameIndex := 284, descriptorIndex := 25, attributes := #[] }, { accessFlags := 25, nameIndex := 286, descriptorIndex := 25, attributes := #[] }, { accessFlags := 25, nameIndex := 288, descriptorIndex := 25, attributes := #[] }, { accessFlags := 25, nameIndex := 290, descriptorIndex := 25, attributes := #[] }, { accessFlags := 25, nameIndex := 292, descriptorIndex := 25, attributes := #[] }, { accessFlags := 26, nameIndex := 108, descriptorIndex := 109, attributes := #[] }, { accessFlags := 25, nameIndex := 294, descriptorIndex := 25, attributes := #[] }])
  fields := #[{ name := "U", type := (.object "jdk/internal/misc/Unsafe"), accessFlags := 24, slot := 0, constantValue := 0 }, { name := "BIG_ENDIAN", type := .boolean, accessFlags := 26, slot := 1, constantValue := 0 }, { name := "LOG2_ARRAY_BOOLEAN_INDEX_SCALE", type := .int, accessFlags := 25, slot := 2, constantValue := 0 }, { name := "LOG2_ARRAY_BYTE_INDEX_SCALE", type := .int, accessFlags := 25, slot := 3, constantValue := 0 }, { name := "LOG2_ARRAY_CHAR_INDEX_SCALE", type := .int, accessFlags := 25, slot := 4, constantValue := 0 }, { name := "LOG2_ARRAY_SHORT_INDEX_SCALE", type := .int, accessFlags := 25, slot := 5, constantValue := 0 }, { name := "LOG2_ARRAY_INT_INDEX_SCALE", type := .int, accessFlags := 25, slot := 6, constantValue := 0 }, { name := "LOG2_ARRAY_LONG_INDEX_SCALE", type := .int, accessFlags := 25, slot := 7, constantValue := 0 }, { name := "LOG2_ARRAY_FLOAT_INDEX_SCALE", type := .int, accessFlags := 25, slot := 8, constantValue := 0 }, { name := "LOG2_ARRAY_DOUBLE_INDEX_SCALE", type := .int, accessFlags := 25, slot := 9, constantValue := 0 }, { name := "LOG2_BYTE_BIT_SIZE", type := .int, accessFlags := 26, slot := 10, constantValue := 0 }, { name := "T_BOOLEAN", type := .int, accessFlags := 25, slot := 11, constantValue := 0 }, { name := "T_CHAR", type := .int, accessFlags := 25, slot := 12, constantValue := 0 }, { name := "T_FLOAT", type := .int, accessFlags := 25, slot := 13, constantValue := 0 }, { name := "T_DOUBLE", type := .int, accessFlags := 25, slot := 14, constantValue := 0 }, { name := "T_BYTE", type := .int, accessFlags := 25, slot := 15, constantValue := 0 }, { name := "T_SHORT", type := .int, accessFlags := 25, slot := 16, constantValue := 0 }, { name := "T_INT", type := .int, accessFlags := 25, slot := 17, constantValue := 0 }, { name := "T_LONG", type := .int, accessFlags := 25, slot := 18, constantValue := 0 }, { name := "JLA", type := (.object "jdk/internal/access/JavaLangAccess"), accessFlags := 26, slot := 19, constantValue := 0 }, { name := "SOFT_MAX_ARRAY_LENGTH", type := .int, accessFlags := 25, slot := 20, constantValue := 0 }]
  methods := #[k20m0]
  instanceTypes := #[]
  staticTypes := #[(.object "jdk/internal/misc/Unsafe"), .boolean, .int, .int, .int, .int, .int, .int, .int, .int, .int, .int, .int, .int, .int, .int, .int, .int, .int, (.object "jdk/internal/access/JavaLangAccess"), .int]
  resolved := Array.replicate 378 none
  statics := none }

def pool21 : Array CpInfo := pool [(1, u "java/lang/Cloneable"), (0, .class_ 1), (0, u "java/lang/Object"), (0, .class_ 3)] 3

/-- java/lang/Cloneable -/
def k21 : Class := { plain "java/lang/Cloneable" (some 0) with
  accessFlags := 1537
  interfaces := #[]
  cf := some (fileOf pool21 2 #[] #[] 1537 4 #[] #[])
  fields := #[]
  methods := #[]
  instanceTypes := #[]
  staticTypes := #[]
  resolved := Array.replicate 8 none
  statics := none }

/-- the primitive byte -/
def k22 : Class := { plain "byte" none with kind := .primitive 'B', accessFlags := 0x411 }
/-- [B -/
def k23 : Class := { plain "[B" (some 0) with kind := .array 22 .byte, interfaces := #[21, 4], accessFlags := 1041 }

/-- the primitive int -/
def k24 : Class := { plain "int" none with kind := .primitive 'I', accessFlags := 0x411 }
/-- [I -/
def k25 : Class := { plain "[I" (some 0) with kind := .array 24 .int, interfaces := #[21, 4], accessFlags := 1041 }

def heap : Heap := #[{ cls := 6, slots := #[.ref 4, .ref 5, .ref 6, .ref 7, .null], vm := .statics 6 },
  { cls := 9, slots := #[.long 0, .int 1, .null, .int 0, .null, .int 0, .int 0], vm := .statics 9 },
  { cls := 16, slots := #[.int 0, .int 0, .null, .null, .ref 13, .ref 12, .int 0, .int 0, .long 0], vm := .statics 16 },
  { cls := 19, slots := #[.null, .null, .null], vm := .statics 19 },
  { cls := 6, slots := #[.null, .int 0, .int 0, .ref 8, .int 1, .int 2000], vm := .none },
  { cls := 6, slots := #[.null, .int 1, .int 0, .ref 9, .int 20, .int 100], vm := .none },
  { cls := 6, slots := #[.null, .int 2, .int 0, .ref 8, .int 1, .int 10000], vm := .none },
  { cls := 6, slots := #[.null, .int 3, .int 0, .ref 9, .int 100, .int 100], vm := .none },
  { cls := 9, slots := #[.ref 10, .int 0, .int 0, .int 0], vm := .none },
  { cls := 9, slots := #[.ref 11, .int 0, .int 0, .int 0], vm := .none },
  { cls := 23, slots := #[.int 102, .int 97, .int 110], vm := .none },
  { cls := 23, slots := #[.int 108, .int 97, .int 121, .int 101, .int 114, .int 115], vm := .none },
  { cls := 23, slots := #[.int 48, .int 49, .int 50, .int 51, .int 52, .int 53, .int 54, .int 55, .int 56, .int 57, .int 48, .int 49, .int 50, .int 51, .int 52, .int 53, .int 54, .int 55, .int 56, .int 57, .int 48, .int 49, .int 50, .int 51, .int 52, .int 53, .int 54, .int 55, .int 56, .int 57, .int 48, .int 49, .int 50, .int 51, .int 52, .int 53, .int 54, .int 55, .int 56, .int 57, .int 48, .int 49, .int 50, .int 51, .int 52, .int 53, .int 54, .int 55, .int 56, .int 57, .int 48, .int 49, .int 50, .int 51, .int 52, .int 53, .int 54, .int 55, .int 56, .int 57, .int 48, .int 49, .int 50, .int 51, .int 52, .int 53, .int 54, .int 55, .int 56, .int 57, .int 48, .int 49, .int 50, .int 51, .int 52, .int 53, .int 54, .int 55, .int 56, .int 57, .int 48, .int 49, .int 50, .int 51, .int 52, .int 53, .int 54, .int 55, .int 56, .int 57, .int 48, .int 49, .int 50, .int 51, .int 52, .int 53, .int 54, .int 55, .int 56, .int 57], vm := .none },
  { cls := 23, slots := #[.int 48, .int 48, .int 48, .int 48, .int 48, .int 48, .int 48, .int 48, .int 48, .int 48, .int 49, .int 49, .int 49, .int 49, .int 49, .int 49, .int 49, .int 49, .int 49, .int 49, .int 50, .int 50, .int 50, .int 50, .int 50, .int 50, .int 50, .int 50, .int 50, .int 50, .int 51, .int 51, .int 51, .int 51, .int 51, .int 51, .int 51, .int 51, .int 51, .int 51, .int 52, .int 52, .int 52, .int 52, .int 52, .int 52, .int 52, .int 52, .int 52, .int 52, .int 53, .int 53, .int 53, .int 53, .int 53, .int 53, .int 53, .int 53, .int 53, .int 53, .int 54, .int 54, .int 54, .int 54, .int 54, .int 54, .int 54, .int 54, .int 54, .int 54, .int 55, .int 55, .int 55, .int 55, .int 55, .int 55, .int 55, .int 55, .int 55, .int 55, .int 56, .int 56, .int 56, .int 56, .int 56, .int 56, .int 56, .int 56, .int 56, .int 56, .int 57, .int 57, .int 57, .int 57, .int 57, .int 57, .int 57, .int 57, .int 57, .int 57], vm := .none }]
def classes : Array Class := #[k0, k1, k2, k3, k4, k5, k6, k7, k8, k9, k10, k11, k12, k13, k14, k15, k16, k17, k18, k19, k20, k21, k22, k23, k24, k25]
def interned : List (Array UInt16 × Addr) := []
def slotsUsed : Nat := 265
def theMethod : MethodId := ⟨1, 1⟩
def args0 : Array Value := #[.int 5]
def aboutOver (below : List Frame) : State where
  vm := { classes := classes, interned := interned.toArray }
  heap := heap
  slotsUsed := slotsUsed
  threads := #[{ frames := .invoking theMethod args0 :: below }]
def below0 : List Frame := [.native { method := ⟨0, 0⟩, args := #[] }]
def about1 : State := aboutOver below0
def p0 : Program := .bare "" "" ""
def e0 : Env := launch0.env 0 0 0
theorem w_frames : about1.frames = Frame.invoking theMethod args0 :: below0 := rfl
set_option maxRecDepth 65536 in
theorem w_args : argsFit about1.vm theMethod args0 = true := by decide +kernel
set_option maxRecDepth 65536 in
theorem w_heap : heapFits about1 = true := by decide +kernel
set_option maxRecDepth 65536 in
theorem w_runnable : about1.curStatus? = some .runnable := by decide +kernel
set_option maxRecDepth 65536 in
theorem w_alone : about1.alone = true := by decide +kernel
set_option maxRecDepth 65536 in
theorem w_named : about1.methodNamed? x = some theMethod := by decide +kernel
set_option maxRecDepth 65536 in
theorem w_hears : about1.hears theMethod below0 = true := by decide +kernel
set_option maxRecDepth 65536 in
theorem w_ripe : about1.ripe theMethod args0 below0 = true := by decide +kernel
theorem w_running : about1.status = .running := rfl
set_option maxRecDepth 65536 in
theorem w_room : about1.hasRoom e0.platform room_1 = true :=
  launch0.hasRoom_least _ room_1 (by decide +kernel) (by decide +kernel) (by decide +kernel) (by decide +kernel) (by decide +kernel) (by decide +kernel)
theorem allAtoms_all (ts : List Jvm.Cond) (a : Array Jvm.Value) (st : Jvm.State) : (allAtoms ts).before a st = ts.all (fun c => c.before a st) := by
  induction ts with
  | nil => rfl
  | cons c t ih =>
    show (Jvm.Cond.and c (allAtoms t)).before a st = _
    rw [Jvm.Cond.before_and, ih, List.all_cons]
def words1 : List Jvm.Cond := Jvm.Cond.code x code maxLocals ret :: tables_1
/-- a 'code' word, met by the world's own term for the bytes: nothing is compared byte by byte -/
theorem code_word {y : MethodName} {bytes : ByteArray} {mx : Nat} {rt : Option FieldType} {a : Array Value} {s : State} {m : MethodId} {meth : Method} {c : Code} (h1 : s.methodNamed? y = some m) (h2 : s.vm.method? m = some meth) (h3 : meth.code = some c) (h4 : c.code = bytes)
    (h5 : (c.maxLocals == mx && c.exceptionTable.isEmpty && decide (c.maxStack ≤ mostOperands) && decide (meth.sig.returnType = rt) && !meth.locks && decide (parseMethodDescriptor y.desc = some meth.sig)) = true) : (Jvm.Cond.code y bytes mx rt).before a s = true := by
  simp only [Bool.and_eq_true, beq_iff_eq, Bool.not_eq_true', decide_eq_true_eq] at h5
  obtain ⟨⟨⟨⟨⟨g1, g2⟩, g3⟩, g4⟩, g5⟩, g6⟩ := h5
  simp [Cond.before, Cond.holds, Cond.value, h1, h2, h3, h4, g1, g2, g3, g4, g5, g6]
def isCode : Jvm.Cond → Bool
  | .code _ _ _ _ => true
  | _ => false
theorem all_split {L : List Jvm.Cond} {P : Jvm.Cond → Bool} (h1 : L.all (fun c => isCode c || P c) = true) (h2 : ∀ c ∈ L.filter isCode, P c = true) : L.all P = true := by
  refine List.all_eq_true.mpr fun c hc => ?_
  have h := List.all_eq_true.mp h1 c hc
  rcases Bool.eq_false_or_eq_true (isCode c) with hi | hi
  · exact h2 c (List.mem_filter.mpr ⟨hc, hi⟩)
  · simpa [hi] using h
set_option maxRecDepth 65536 in
theorem w_c0 : (Jvm.Cond.code x code maxLocals ret).before args0 about1 = true := code_word (m := ⟨1, 1⟩) (meth := k1m1) (c := k1c1) (by decide +kernel) rfl rfl rfl (by decide +kernel)
set_option maxRecDepth 65536 in
theorem w_c1 : (Jvm.Cond.code ({ cls := "com/example/mooring/mooring/bench/Workload", name := "label", desc := "()Ljava/lang/String;" } : Jvm.MethodName) prog_4_method_5_code (1 : Nat) (Option.some (Jvm.ClassFile.FieldType.object "java/lang/String"))).before args0 about1 = true := code_word (m := ⟨6, 0⟩) (meth := k6m0) (c := k6c0) (by decide +kernel) rfl rfl rfl (by decide +kernel)
set_option maxRecDepth 65536 in
theorem w_c2 : (Jvm.Cond.code ({ cls := "java/lang/String", name := "equals", desc := "(Ljava/lang/Object;)Z" } : Jvm.MethodName) jdk_42_method_66_code (3 : Nat) (Option.some Jvm.ClassFile.FieldType.boolean)).before args0 about1 = true := code_word (m := ⟨9, 3⟩) (meth := k9m3) (c := k9c3) (by decide +kernel) rfl rfl rfl (by decide +kernel)
set_option maxRecDepth 65536 in
theorem w_c3 : (Jvm.Cond.code ({ cls := "java/lang/StringLatin1", name := "equals", desc := "([B[B)Z" } : Jvm.MethodName) jdk_43_method_13_code (3 : Nat) (Option.some Jvm.ClassFile.FieldType.boolean)).before args0 about1 = true := code_word (m := ⟨10, 1⟩) (meth := k10m1) (c := k10c1) (by decide +kernel) rfl rfl rfl (by decide +kernel)
set_option maxRecDepth 65536 in
theorem w_c4 : (Jvm.Cond.code ({ cls := "java/lang/StringBuilder", name := "<init>", desc := "()V" } : Jvm.MethodName) jdk_67_method_1_code (1 : Nat) (Option.none : Option Jvm.ClassFile.FieldType)).before args0 about1 = true := code_word (m := ⟨13, 0⟩) (meth := k13m0) (c := k13c0) (by decide +kernel) rfl rfl rfl (by decide +kernel)
set_option maxRecDepth 65536 in
theorem w_c5 : (Jvm.Cond.code ({ cls := "java/lang/AbstractStringBuilder", name := "<init>", desc := "(I)V" } : Jvm.MethodName) jdk_68_method_2_code (2 : Nat) (Option.none : Option Jvm.ClassFile.FieldType)).before args0 about1 = true := code_word (m := ⟨12, 1⟩) (meth := k12m1) (c := k12c1) (by decide +kernel) rfl rfl rfl (by decide +kernel)
set_option maxRecDepth 65536 in
theorem w_c6 : (Jvm.Cond.code ({ cls := "java/lang/Object", name := "<init>", desc := "()V" } : Jvm.MethodName) object_method_1_code (1 : Nat) (Option.none : Option Jvm.ClassFile.FieldType)).before args0 about1 = true := code_word (m := ⟨0, 0⟩) (meth := k0m0) (c := k0c0) (by decide +kernel) rfl rfl rfl (by decide +kernel)
set_option maxRecDepth 65536 in
theorem w_c7 : (Jvm.Cond.code ({ cls := "java/lang/StringBuilder", name := "append", desc := "(Ljava/lang/String;)Ljava/lang/StringBuilder;" } : Jvm.MethodName) jdk_67_method_7_code (2 : Nat) (Option.some (Jvm.ClassFile.FieldType.object "java/lang/StringBuilder"))).before args0 about1 = true := code_word (m := ⟨13, 1⟩) (meth := k13m1) (c := k13c1) (by decide +kernel) rfl rfl rfl (by decide +kernel)
set_option maxRecDepth 65536 in
theorem w_c8 : (Jvm.Cond.code ({ cls := "java/lang/AbstractStringBuilder", name := "append", desc := "(Ljava/lang/String;)Ljava/lang/AbstractStringBuilder;" } : Jvm.MethodName) jdk_68_method_22_code (3 : Nat) (Option.some (Jvm.ClassFile.FieldType.object "java/lang/AbstractStringBuilder"))).before args0 about1 = true := code_word (m := ⟨12, 4⟩) (meth := k12m4) (c := k12c4) (by decide +kernel) rfl rfl rfl (by decide +kernel)
set_option maxRecDepth 65536 in
theorem w_c9 : (Jvm.Cond.code ({ cls := "java/lang/String", name := "length", desc := "()I" } : Jvm.MethodName) jdk_42_method_54_code (1 : Nat) (Option.some Jvm.ClassFile.FieldType.int)).before args0 about1 = true := code_word (m := ⟨9, 2⟩) (meth := k9m2) (c := k9c2) (by decide +kernel) rfl rfl rfl (by decide +kernel)
set_option maxRecDepth 65536 in
theorem w_c10 : (Jvm.Cond.code ({ cls := "java/lang/String", name := "coder", desc := "()B" } : Jvm.MethodName) jdk_42_method_152_code (1 : Nat) (Option.some Jvm.ClassFile.FieldType.byte)).before args0 about1 = true := code_word (m := ⟨9, 6⟩) (meth := k9m6) (c := k9c6) (by decide +kernel) rfl rfl rfl (by decide +kernel)
set_option maxRecDepth 65536 in
theorem w_c11 : (Jvm.Cond.code ({ cls := "java/lang/AbstractStringBuilder", name := "ensureCapacityInternal", desc := "(I)V" } : Jvm.MethodName) jdk_68_method_9_code (3 : Nat) (Option.none : Option Jvm.ClassFile.FieldType)).before args0 about1 = true := code_word (m := ⟨12, 3⟩) (meth := k12m3) (c := k12c3) (by decide +kernel) rfl rfl rfl (by decide +kernel)
set_option maxRecDepth 65536 in
theorem w_c12 : (Jvm.Cond.code ({ cls := "java/lang/AbstractStringBuilder", name := "putStringAt", desc := "(ILjava/lang/String;)V" } : Jvm.MethodName) jdk_68_method_73_code (3 : Nat) (Option.none : Option Jvm.ClassFile.FieldType)).before args0 about1 = true := code_word (m := ⟨12, 9⟩) (meth := k12m9) (c := k12c9) (by decide +kernel) rfl rfl rfl (by decide +kernel)
set_option maxRecDepth 65536 in
theorem w_c13 : (Jvm.Cond.code ({ cls := "java/lang/AbstractStringBuilder", name := "inflateIfNeededFor", desc := "(Ljava/lang/String;)V" } : Jvm.MethodName) jdk_68_method_71_code (2 : Nat) (Option.none : Option Jvm.ClassFile.FieldType)).before args0 about1 = true := code_word (m := ⟨12, 8⟩) (meth := k12m8) (c := k12c8) (by decide +kernel) rfl rfl rfl (by decide +kernel)
set_option maxRecDepth 65536 in
theorem w_c14 : (Jvm.Cond.code ({ cls := "java/lang/String", name := "getBytes", desc := "([BIB)V" } : Jvm.MethodName) jdk_42_method_147_code (4 : Nat) (Option.none : Option Jvm.ClassFile.FieldType)).before args0 about1 = true := code_word (m := ⟨9, 4⟩) (meth := k9m4) (c := k9c4) (by decide +kernel) rfl rfl rfl (by decide +kernel)
set_option maxRecDepth 65536 in
theorem w_c15 : (Jvm.Cond.code ({ cls := "com/example/mooring/mooring/bench/Workload", name := "size", desc := "()I" } : Jvm.MethodName) prog_4_method_9_code (1 : Nat) (Option.some Jvm.ClassFile.FieldType.int)).before args0 about1 = true := code_word (m := ⟨6, 1⟩) (meth := k6m1) (c := k6c1) (by decide +kernel) rfl rfl rfl (by decide +kernel)
set_option maxRecDepth 65536 in
theorem w_c16 : (Jvm.Cond.code ({ cls := "java/lang/StringBuilder", name := "append", desc := "(I)Ljava/lang/StringBuilder;" } : Jvm.MethodName) jdk_67_method_15_code (2 : Nat) (Option.some (Jvm.ClassFile.FieldType.object "java/lang/StringBuilder"))).before args0 about1 = true := code_word (m := ⟨13, 2⟩) (meth := k13m2) (c := k13c2) (by decide +kernel) rfl rfl rfl (by decide +kernel)
set_option maxRecDepth 65536 in
theorem w_c17 : (Jvm.Cond.code ({ cls := "java/lang/AbstractStringBuilder", name := "append", desc := "(I)Ljava/lang/AbstractStringBuilder;" } : Jvm.MethodName) jdk_68_method_32_code (4 : Nat) (Option.some (Jvm.ClassFile.FieldType.object "java/lang/AbstractStringBuilder"))).before args0 about1 = true := code_word (m := ⟨12, 5⟩) (meth := k12m5) (c := k12c5) (by decide +kernel) rfl rfl rfl (by decide +kernel)
set_option maxRecDepth 65536 in
theorem w_c18 : (Jvm.Cond.code ({ cls := "java/lang/Integer", name := "stringSize", desc := "(I)I" } : Jvm.MethodName) jdk_33_method_13_code (4 : Nat) (Option.some Jvm.ClassFile.FieldType.int)).before args0 about1 = true := code_word (m := ⟨16, 1⟩) (meth := k16m1) (c := k16c1) (by decide +kernel) rfl rfl rfl (by decide +kernel)
set_option maxRecDepth 65536 in
theorem w_c19 : (Jvm.Cond.code ({ cls := "java/lang/AbstractStringBuilder", name := "isLatin1", desc := "()Z" } : Jvm.MethodName) jdk_68_method_68_code (1 : Nat) (Option.some Jvm.ClassFile.FieldType.boolean)).before args0 about1 = true := code_word (m := ⟨12, 7⟩) (meth := k12m7) (c := k12c7) (by decide +kernel) rfl rfl rfl (by decide +kernel)
set_option maxRecDepth 65536 in
theorem w_c20 : (Jvm.Cond.code ({ cls := "java/lang/Integer", name := "getChars", desc := "(II[B)I" } : Jvm.MethodName) jdk_33_method_12_code (7 : Nat) (Option.some Jvm.ClassFile.FieldType.int)).before args0 about1 = true := code_word (m := ⟨16, 0⟩) (meth := k16m0) (c := k16c0) (by decide +kernel) rfl rfl rfl (by decide +kernel)
set_option maxRecDepth 65536 in
theorem w_c21 : (Jvm.Cond.code ({ cls := "java/lang/StringBuilder", name := "toString", desc := "()Ljava/lang/String;" } : Jvm.MethodName) jdk_67_method_42_code (1 : Nat) (Option.some (Jvm.ClassFile.FieldType.object "java/lang/String"))).before args0 about1 = true := code_word (m := ⟨13, 3⟩) (meth := k13m3) (c := k13c3) (by decide +kernel) rfl rfl rfl (by decide +kernel)
set_option maxRecDepth 65536 in
theorem w_c22 : (Jvm.Cond.code ({ cls := "java/lang/String", name := "<init>", desc := "(Ljava/lang/StringBuilder;)V" } : Jvm.MethodName) jdk_42_method_53_code (2 : Nat) (Option.none : Option Jvm.ClassFile.FieldType)).before args0 about1 = true := code_word (m := ⟨9, 1⟩) (meth := k9m1) (c := k9c1) (by decide +kernel) rfl rfl rfl (by decide +kernel)
set_option maxRecDepth 65536 in
theorem w_c23 : (Jvm.Cond.code ({ cls := "java/lang/String", name := "<init>", desc := "(Ljava/lang/AbstractStringBuilder;Ljava/lang/Void;)V" } : Jvm.MethodName) jdk_42_method_150_code (5 : Nat) (Option.none : Option Jvm.ClassFile.FieldType)).before args0 about1 = true := code_word (m := ⟨9, 5⟩) (meth := k9m5) (c := k9c5) (by decide +kernel) rfl rfl rfl (by decide +kernel)
set_option maxRecDepth 65536 in
theorem w_c24 : (Jvm.Cond.code ({ cls := "java/lang/AbstractStringBuilder", name := "getValue", desc := "()[B" } : Jvm.MethodName) jdk_68_method_64_code (1 : Nat) (Option.some (Jvm.ClassFile.FieldType.array Jvm.ClassFile.FieldType.byte))).before args0 about1 = true := code_word (m := ⟨12, 6⟩) (meth := k12m6) (c := k12c6) (by decide +kernel) rfl rfl rfl (by decide +kernel)
set_option maxRecDepth 65536 in
theorem w_c25 : (Jvm.Cond.code ({ cls := "java/lang/StringBuilder", name := "length", desc := "()I" } : Jvm.MethodName) jdk_67_method_93_code (1 : Nat) (Option.some Jvm.ClassFile.FieldType.int)).before args0 about1 = true := code_word (m := ⟨13, 4⟩) (meth := k13m4) (c := k13c4) (by decide +kernel) rfl rfl rfl (by decide +kernel)
set_option maxRecDepth 65536 in
theorem w_c26 : (Jvm.Cond.code ({ cls := "java/lang/AbstractStringBuilder", name := "length", desc := "()I" } : Jvm.MethodName) jdk_68_method_6_code (1 : Nat) (Option.some Jvm.ClassFile.FieldType.int)).before args0 about1 = true := code_word (m := ⟨12, 2⟩) (meth := k12m2) (c := k12c2) (by decide +kernel) rfl rfl rfl (by decide +kernel)
set_option maxRecDepth 65536 in
theorem w_c27 : (Jvm.Cond.code ({ cls := "java/util/Arrays", name := "copyOfRange", desc := "([BII)[B" } : Jvm.MethodName) jdk_65_method_132_code (3 : Nat) (Option.some (Jvm.ClassFile.FieldType.array Jvm.ClassFile.FieldType.byte))).before args0 about1 = true := code_word (m := ⟨17, 2⟩) (meth := k17m2) (c := k17c2) (by decide +kernel) rfl rfl rfl (by decide +kernel)
set_option maxRecDepth 65536 in
theorem w_c28 : (Jvm.Cond.code ({ cls := "java/util/Arrays", name := "copyOfRangeByte", desc := "([BII)[B" } : Jvm.MethodName) jdk_65_method_133_code (5 : Nat) (Option.some (Jvm.ClassFile.FieldType.array Jvm.ClassFile.FieldType.byte))).before args0 about1 = true := code_word (m := ⟨17, 3⟩) (meth := k17m3) (c := k17c3) (by decide +kernel) rfl rfl rfl (by decide +kernel)
set_option maxRecDepth 65536 in
theorem w_c29 : (Jvm.Cond.code ({ cls := "java/util/Arrays", name := "checkLength", desc := "(II)V" } : Jvm.MethodName) jdk_65_method_131_code (2 : Nat) (Option.none : Option Jvm.ClassFile.FieldType)).before args0 about1 = true := code_word (m := ⟨17, 1⟩) (meth := k17m1) (c := k17c1) (by decide +kernel) rfl rfl rfl (by decide +kernel)
set_option maxRecDepth 65536 in
theorem w_c30 : (Jvm.Cond.code ({ cls := "java/lang/Math", name := "min", desc := "(II)I" } : Jvm.MethodName) jdk_29_method_69_code (2 : Nat) (Option.some Jvm.ClassFile.FieldType.int)).before args0 about1 = true := code_word (m := ⟨18, 1⟩) (meth := k18m1) (c := k18c1) (by decide +kernel) rfl rfl rfl (by decide +kernel)
def codes1 : List Jvm.Cond := [Jvm.Cond.code x code maxLocals ret, Jvm.Cond.code ({ cls := "com/example/mooring/mooring/bench/Workload", name := "label", desc := "()Ljava/lang/String;" } : Jvm.MethodName) prog_4_method_5_code (1 : Nat) (Option.some (Jvm.ClassFile.FieldType.object "java/lang/String")), Jvm.Cond.code ({ cls := "java/lang/String", name := "equals", desc := "(Ljava/lang/Object;)Z" } : Jvm.MethodName) jdk_42_method_66_code (3 : Nat) (Option.some Jvm.ClassFile.FieldType.boolean), Jvm.Cond.code ({ cls := "java/lang/StringLatin1", name := "equals", desc := "([B[B)Z" } : Jvm.MethodName) jdk_43_method_13_code (3 : Nat) (Option.some Jvm.ClassFile.FieldType.boolean), Jvm.Cond.code ({ cls := "java/lang/StringBuilder", name := "<init>", desc := "()V" } : Jvm.MethodName) jdk_67_method_1_code (1 : Nat) (Option.none : Option Jvm.ClassFile.FieldType), Jvm.Cond.code ({ cls := "java/lang/AbstractStringBuilder", name := "<init>", desc := "(I)V" } : Jvm.MethodName) jdk_68_method_2_code (2 : Nat) (Option.none : Option Jvm.ClassFile.FieldType), Jvm.Cond.code ({ cls := "java/lang/Object", name := "<init>", desc := "()V" } : Jvm.MethodName) object_method_1_code (1 : Nat) (Option.none : Option Jvm.ClassFile.FieldType), Jvm.Cond.code ({ cls := "java/lang/StringBuilder", name := "append", desc := "(Ljava/lang/String;)Ljava/lang/StringBuilder;" } : Jvm.MethodName) jdk_67_method_7_code (2 : Nat) (Option.some (Jvm.ClassFile.FieldType.object "java/lang/StringBuilder")), Jvm.Cond.code ({ cls := "java/lang/AbstractStringBuilder", name := "append", desc := "(Ljava/lang/String;)Ljava/lang/AbstractStringBuilder;" } : Jvm.MethodName) jdk_68_method_22_code (3 : Nat) (Option.some (Jvm.ClassFile.FieldType.object "java/lang/AbstractStringBuilder")), Jvm.Cond.code ({ cls := "java/lang/String", name := "length", desc := "()I" } : Jvm.MethodName) jdk_42_method_54_code (1 : Nat) (Option.some Jvm.ClassFile.FieldType.int), Jvm.Cond.code ({ cls := "java/lang/String", name := "coder", desc := "()B" } : Jvm.MethodName) jdk_42_method_152_code (1 : Nat) (Option.some Jvm.ClassFile.FieldType.byte), Jvm.Cond.code ({ cls := "java/lang/AbstractStringBuilder", name := "ensureCapacityInternal", desc := "(I)V" } : Jvm.MethodName) jdk_68_method_9_code (3 : Nat) (Option.none : Option Jvm.ClassFile.FieldType), Jvm.Cond.code ({ cls := "java/lang/AbstractStringBuilder", name := "putStringAt", desc := "(ILjava/lang/String;)V" } : Jvm.MethodName) jdk_68_method_73_code (3 : Nat) (Option.none : Option Jvm.ClassFile.FieldType), Jvm.Cond.code ({ cls := "java/lang/AbstractStringBuilder", name := "inflateIfNeededFor", desc := "(Ljava/lang/String;)V" } : Jvm.MethodName) jdk_68_method_71_code (2 : Nat) (Option.none : Option Jvm.ClassFile.FieldType), Jvm.Cond.code ({ cls := "java/lang/String", name := "getBytes", desc := "([BIB)V" } : Jvm.MethodName) jdk_42_method_147_code (4 : Nat) (Option.none : Option Jvm.ClassFile.FieldType), Jvm.Cond.code ({ cls := "com/example/mooring/mooring/bench/Workload", name := "size", desc := "()I" } : Jvm.MethodName) prog_4_method_9_code (1 : Nat) (Option.some Jvm.ClassFile.FieldType.int), Jvm.Cond.code ({ cls := "java/lang/StringBuilder", name := "append", desc := "(I)Ljava/lang/StringBuilder;" } : Jvm.MethodName) jdk_67_method_15_code (2 : Nat) (Option.some (Jvm.ClassFile.FieldType.object "java/lang/StringBuilder")), Jvm.Cond.code ({ cls := "java/lang/AbstractStringBuilder", name := "append", desc := "(I)Ljava/lang/AbstractStringBuilder;" } : Jvm.MethodName) jdk_68_method_32_code (4 : Nat) (Option.some (Jvm.ClassFile.FieldType.object "java/lang/AbstractStringBuilder")), Jvm.Cond.code ({ cls := "java/lang/Integer", name := "stringSize", desc := "(I)I" } : Jvm.MethodName) jdk_33_method_13_code (4 : Nat) (Option.some Jvm.ClassFile.FieldType.int), Jvm.Cond.code ({ cls := "java/lang/AbstractStringBuilder", name := "isLatin1", desc := "()Z" } : Jvm.MethodName) jdk_68_method_68_code (1 : Nat) (Option.some Jvm.ClassFile.FieldType.boolean), Jvm.Cond.code ({ cls := "java/lang/Integer", name := "getChars", desc := "(II[B)I" } : Jvm.MethodName) jdk_33_method_12_code (7 : Nat) (Option.some Jvm.ClassFile.FieldType.int), Jvm.Cond.code ({ cls := "java/lang/StringBuilder", name := "toString", desc := "()Ljava/lang/String;" } : Jvm.MethodName) jdk_67_method_42_code (1 : Nat) (Option.some (Jvm.ClassFile.FieldType.object "java/lang/String")), Jvm.Cond.code ({ cls := "java/lang/String", name := "<init>", desc := "(Ljava/lang/StringBuilder;)V" } : Jvm.MethodName) jdk_42_method_53_code (2 : Nat) (Option.none : Option Jvm.ClassFile.FieldType), Jvm.Cond.code ({ cls := "java/lang/String", name := "<init>", desc := "(Ljava/lang/AbstractStringBuilder;Ljava/lang/Void;)V" } : Jvm.MethodName) jdk_42_method_150_code (5 : Nat) (Option.none : Option Jvm.ClassFile.FieldType), Jvm.Cond.code ({ cls := "java/lang/AbstractStringBuilder", name := "getValue", desc := "()[B" } : Jvm.MethodName) jdk_68_method_64_code (1 : Nat) (Option.some (Jvm.ClassFile.FieldType.array Jvm.ClassFile.FieldType.byte)), Jvm.Cond.code ({ cls := "java/lang/StringBuilder", name := "length", desc := "()I" } : Jvm.MethodName) jdk_67_method_93_code (1 : Nat) (Option.some Jvm.ClassFile.FieldType.int), Jvm.Cond.code ({ cls := "java/lang/AbstractStringBuilder", name := "length", desc := "()I" } : Jvm.MethodName) jdk_68_method_6_code (1 : Nat) (Option.some Jvm.ClassFile.FieldType.int), Jvm.Cond.code ({ cls := "java/util/Arrays", name := "copyOfRange", desc := "([BII)[B" } : Jvm.MethodName) jdk_65_method_132_code (3 : Nat) (Option.some (Jvm.ClassFile.FieldType.array Jvm.ClassFile.FieldType.byte)), Jvm.Cond.code ({ cls := "java/util/Arrays", name := "copyOfRangeByte", desc := "([BII)[B" } : Jvm.MethodName) jdk_65_method_133_code (5 : Nat) (Option.some (Jvm.ClassFile.FieldType.array Jvm.ClassFile.FieldType.byte)), Jvm.Cond.code ({ cls := "java/util/Arrays", name := "checkLength", desc := "(II)V" } : Jvm.MethodName) jdk_65_method_131_code (2 : Nat) (Option.none : Option Jvm.ClassFile.FieldType), Jvm.Cond.code ({ cls := "java/lang/Math", name := "min", desc := "(II)I" } : Jvm.MethodName) jdk_29_method_69_code (2 : Nat) (Option.some Jvm.ClassFile.FieldType.int)]
set_option maxRecDepth 65536 in
theorem codes_eq : words1.filter isCode = codes1 := rfl
theorem w_codes : ∀ c ∈ words1.filter isCode, c.before args0 about1 = true := by
  rw [codes_eq]
  intro c hc
  simp only [codes1, List.mem_cons, List.not_mem_nil, or_false] at hc
  rcases hc with rfl | rfl | rfl | rfl | rfl | rfl | rfl | rfl | rfl | rfl | rfl | rfl | rfl | rfl | rfl | rfl | rfl | rfl | rfl | rfl | rfl | rfl | rfl | rfl | rfl | rfl | rfl | rfl | rfl | rfl | rfl
  · exact w_c0
  · exact w_c1
  · exact w_c2
  · exact w_c3
  · exact w_c4
  · exact w_c5
  · exact w_c6
  · exact w_c7
  · exact w_c8
  · exact w_c9
  · exact w_c10
  · exact w_c11
  · exact w_c12
  · exact w_c13
  · exact w_c14
  · exact w_c15
  · exact w_c16
  · exact w_c17
  · exact w_c18
  · exact w_c19
  · exact w_c20
  · exact w_c21
  · exact w_c22
  · exact w_c23
  · exact w_c24
  · exact w_c25
  · exact w_c26
  · exact w_c27
  · exact w_c28
  · exact w_c29
  · exact w_c30
set_option maxRecDepth 65536 in
theorem w_t1 : (words1.take 24).all (fun c => isCode c || c.before args0 about1) = true := by decide +kernel
set_option maxRecDepth 65536 in
theorem w_t2 : ((words1.drop 24).take 24).all (fun c => isCode c || c.before args0 about1) = true := by decide +kernel
set_option maxRecDepth 65536 in
theorem w_t3 : (((words1.drop 24).drop 24).take 24).all (fun c => isCode c || c.before args0 about1) = true := by decide +kernel
set_option maxRecDepth 65536 in
theorem w_t4 : ((((words1.drop 24).drop 24).drop 24).take 24).all (fun c => isCode c || c.before args0 about1) = true := by decide +kernel
set_option maxRecDepth 65536 in
theorem w_t5 : (((((words1.drop 24).drop 24).drop 24).drop 24).take 24).all (fun c => isCode c || c.before args0 about1) = true := by decide +kernel
set_option maxRecDepth 65536 in
theorem w_t6 : ((((((words1.drop 24).drop 24).drop 24).drop 24).drop 24).take 24).all (fun c => isCode c || c.before args0 about1) = true := by decide +kernel
set_option maxRecDepth 65536 in
theorem w_t7 : (((((((words1.drop 24).drop 24).drop 24).drop 24).drop 24).drop 24).take 24).all (fun c => isCode c || c.before args0 about1) = true := by decide +kernel
set_option maxRecDepth 65536 in
theorem w_t8 : (((((((words1.drop 24).drop 24).drop 24).drop 24).drop 24).drop 24).drop 24).all (fun c => isCode c || c.before args0 about1) = true := by decide +kernel
theorem w_tables : (allAtoms (Jvm.Cond.code x code maxLocals ret :: tables_1)).before args0 about1 = true := by
  rw [allAtoms_all]
  show words1.all (fun c => c.before args0 about1) = true
  refine all_split ?_ w_codes
  rw [← List.take_append_drop 24 words1, List.all_append, w_t1, ← List.take_append_drop 24 (words1.drop 24), List.all_append, w_t2, ← List.take_append_drop 24 ((words1.drop 24).drop 24), List.all_append, w_t3, ← List.take_append_drop 24 (((words1.drop 24).drop 24).drop 24), List.all_append, w_t4, ← List.take_append_drop 24 ((((words1.drop 24).drop 24).drop 24).drop 24), List.all_append, w_t5, ← List.take_append_drop 24 (((((words1.drop 24).drop 24).drop 24).drop 24).drop 24), List.all_append, w_t6, ← List.take_append_drop 24 ((((((words1.drop 24).drop 24).drop 24).drop 24).drop 24).drop 24), List.all_append, w_t7, w_t8]
  rfl
set_option maxRecDepth 65536 in
theorem w_rest : rest_1_c.before args0 about1 = true := by decide +kernel
set_option maxRecDepth 65536 in
theorem w_case : (Jvm.Cond.and given_1 narrow_1).before args0 about1 = true := by decide +kernel
set_option maxRecDepth 65536 in
theorem w_consts : constsHeld consts_1 about1 := Jvm.Lit.constsHeldB_iff.mp (by decide +kernel)
theorem w_applies : (headSpec (Jvm.Cond.code x code maxLocals ret :: tables_1) room_1).applies x e0.platform about1 = true :=
  (Spec.applies_iff w_frames).mpr ⟨w_running, w_runnable, w_alone, w_named, w_hears, w_ripe, w_room, w_tables⟩
theorem atStart : AtStart classFile x code maxLocals ret World_1 tables_1 room_1 Calls_1 rest_1 Pre_1 launch0 p0 e0 about1 theMethod args0 below0 :=
  ⟨lists_1, trivial, launch0.admits_env _ _ _, launch0.least_env, fairChoices_fair.cas, fairChoices_fair.clock, w_frames, w_args, w_heap, w_applies, ⟨w_consts, trivial⟩, w_rest, w_case⟩
end start1
theorem witness_1 : WitnessClaimed_1 := ⟨start1.p0, start1.e0, start1.about1, start1.theMethod, start1.args0, start1.below0, start1.atStart⟩
end Jvm.Pilot.@@N@@
