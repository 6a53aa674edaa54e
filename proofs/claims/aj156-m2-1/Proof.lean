import JvmDerived
import JvmDerived.Pilot.@@N@@Statement
import JvmDerived.Pilot.@@N@@Code
set_option linter.unusedVariables false
set_option linter.unusedSimpArgs false
namespace Jvm.Pilot.@@N@@
open Jvm Jvm.ClassFile Sem Op Lib Jvm.Free Jvm.Stand Jvm.LawKit Jvm.RoadKit Bundle Jvm.Pilot.@@N@@.Jvm.D
/-! own kit: 'from this state the body comes to its end as asked', so that a walk may fork and join -/
def own_Rch (p : Program) (e : Env) (below : List Frame) (F : Outcome → State → Prop) (S : State) : Prop :=
  ∃ s₂ o, Steps p.tables e below S s₂ ∧ s₂.status = .running ∧ Ended s₂ below o ∧ F o s₂
theorem own_go {p : Program} {e : Env} {below : List Frame} {F : Outcome → State → Prop} {S S' : State}
    (h : ∀ t, Steps p.tables e below S' t → Steps p.tables e below S t) (k : own_Rch p e below F S') : own_Rch p e below F S := by
  obtain ⟨a, b, c, d⟩ := k
  exact ⟨a, b, h _ c, d⟩
theorem own_cast {p : Program} {e : Env} {below : List Frame} {F : Outcome → State → Prop} {T : State} {g g' : JFrame} (q : g = g')
    (k : own_Rch p e below F (T.setTop g')) : own_Rch p e below F (T.setTop g) := q ▸ k
theorem own_join {p : Program} {e : Env} {below : List Frame} {F : Outcome → State → Prop} {S S' : State} (h : own_Rch p e below F S' → own_Rch p e below F S) (k : own_Rch p e below F S') : own_Rch p e below F S := h k
theorem own_narR {v : Value} {c : String} (h : v.isRef = true) : narrow (.object c) v = v := by rcases ref_cases h with rfl | ⟨_, rfl⟩ <;> rfl
theorem own_fitR {v : Value} {c : String} (h : v.isRef = true) : fits (.object c) v = true := by rcases ref_cases h with rfl | ⟨_, rfl⟩ <;> rfl
theorem own_staK {Z : State} {h h' : Heap} {C n d : String} {w : Value} (F : Sta Z h C n d w) (K : Keep h h' []) : Sta Z h' C n d w := by
  obtain ⟨cf, i, k, f, st, cell, h1, h2, h3, h4, h5, r⟩ := F
  exact ⟨cf, i, k, f, st, cell, h1, h2, h3, h4, K.2.1 _ _ h5 nin0, r⟩
def own_Fin (s : State) (k n : Nat) (Q : Option Value → Heap → List Loc → Prop) (o : Outcome) (t : State) : Prop :=
  ∃ v L, o = .returned v ∧ Q v t.heap L ∧ FrameEnd s o t L k n
def own_Ctr (l : Launch) (Z : State) (y : MethodName) (bytes : ByteArray) (maxL : Nat) (ret : Option FieldType) (ws : List Jvm.Cond) (rm : Room) (h0 : Heap) (as' : Array Value)
    (Q : Option Value → Heap → List Loc → Prop) : Prop :=
  MetFree l y (head1 (Jvm.Cond.code y bytes maxL ret :: ws) rm) (fun a U => a = as' ∧ Z.Warmed39 U.vm ∧ U.heap = h0) (fun _ _ _ _ _ => True) (fun _ U o U' => ∃ v L, o = .returned v ∧ Q v U'.heap L ∧ FrameEnd U o U' L rm.cells rm.slots)
theorem own_ctr {l : Launch} {Z : State} {y : MethodName} {bytes : ByteArray} {maxL : Nat} {ret : Option FieldType} {ws : List Jvm.Cond} {rm : Room} {h0 : Heap} {as' : Array Value}
    {Q : Option Value → Heap → List Loc → Prop} (hp : plainFor y = true)
    (body : ∀ p e s m below meth c s₁, BodyLoose p l y (head1 (Jvm.Cond.code y bytes maxL ret :: ws) rm) bytes maxL ret e s m as' below meth c s₁ → c.maxLocals = maxL → p.tables.exec = Jvm.exec → c.code = bytes →
      Z.Warmed39 s.vm → s.vm.findClass y.cls = some m.cls → Stand p l e rm s m as' below meth c s₁ [] 0 0 → s₁.heap = h0 →
      own_Rch p e below (own_Fin s rm.cells rm.slots Q) (s₁.setTop (entryFrame m as' maxL))) : own_Ctr l Z y bytes maxL ret ws rm h0 as' Q := by
  refine MetFree.of_bodySF hp hisR ?_
  intro p e s m args below meth c s₁ Bd hml hP hK
  obtain ⟨rfl, hZ, hh⟩ := hP
  exact body p e s m below meth c s₁ Bd hml Bd.exec Bd.bytes hZ (findClass_of_methodNamed Bd.named) (Stand.of_body Bd) (by rw [← hh, Bd.state]; rfl)
section OwnKit
variable {p : Program} {l : Launch} {e : Env} {R : Room} {s : State} {m : MethodId} {args : Array Value} {below : List Frame} {meth : Method} {c : Code} {T : State} {locs : List Loc} {cells slots : Nat} {Z : State} {a0 : Array Value}
theorem own_retI0 (X : Stand p l e R s m args below meth c T locs cells slots) (hx : p.tables.exec = Jvm.exec) {pc : Nat} {Ls : Array Slot} {z : Int32} {rest : List Value} (hret : meth.sig.returnType = some .int) (hd : decode c.code pc = .ok (.ireturn, 1)) {fs : List Frame}
    (hl : ∀ (f : JFrame) (acts : List Action), f.method = m → f.locked = none → f.entered = [] → (doReturn e (T.setTop f) acts (some (.int z))).1 = T.setFrames fs) : Steps p.tables e below (T.setTop (mkF m pc Ls (.int z :: rest))) (T.setFrames fs) :=
  retOut X hx hret rfl (Or.inl ⟨rfl, Or.inl rfl, z, rfl⟩) hd hl
theorem own_retN {K N : Nat} {Q : Option Value → Heap → List Loc → Prop} (X : Stand p l e R s m args below meth c T locs cells slots) (hx : p.tables.exec = Jvm.exec) {pc : Nat} {Ls : Array Slot} {z w : Int32} {t : FieldType} {rest : List Value}
    (hret : meth.sig.returnType = some t) (hlocks : meth.locks = false) (ht : t = .boolean ∨ t = .byte ∨ t = .char ∨ t = .short) (hd : decode c.code pc = .ok (.ireturn, 1)) (hw : nar t z = w) (hK : cells ≤ K) (hN : slots ≤ N)
    (hq : Q (some (.int w)) T.heap locs) : own_Rch p e below (own_Fin s K N Q) (T.setTop (mkF m pc Ls (.int z :: rest))) := by
  subst hw
  obtain ⟨fs, hr, hrun, hended, hW, hsame⟩ := X.leave (v := some (.int (nar t z))) (fun h => by rw [hret] at h; cases h) hlocks
  exact ⟨_, _, retN X hx hret ht hd hr, hrun, hended, _, _, rfl, hq, ⟨_, rfl⟩, hW, hsame.mono hK hN⟩
theorem own_retI {K N : Nat} {Q : Option Value → Heap → List Loc → Prop} (X : Stand p l e R s m args below meth c T locs cells slots) (hx : p.tables.exec = Jvm.exec) {pc : Nat} {Ls : Array Slot} {z : Int32} {rest : List Value}
    (hret : meth.sig.returnType = some .int) (hlocks : meth.locks = false) (hd : decode c.code pc = .ok (.ireturn, 1)) (hK : cells ≤ K) (hN : slots ≤ N)
    (hq : Q (some (.int z)) T.heap locs) : own_Rch p e below (own_Fin s K N Q) (T.setTop (mkF m pc Ls (.int z :: rest))) := by
  obtain ⟨fs, hr, hrun, hended, hW, hsame⟩ := X.leave (v := some (.int z)) (fun h => by rw [hret] at h; cases h) hlocks
  exact ⟨_, _, own_retI0 X hx hret hd hr, hrun, hended, _, _, rfl, hq, ⟨_, rfl⟩, hW, hsame.mono hK hN⟩
theorem own_retJ {K N : Nat} {Q : Option Value → Heap → List Loc → Prop} (X : Stand p l e R s m args below meth c T locs cells slots) (hx : p.tables.exec = Jvm.exec) {pc : Nat} {Ls : Array Slot} {z : Int64} {rest : List Value}
    (hret : meth.sig.returnType = some .long) (hlocks : meth.locks = false) (hd : decode c.code pc = .ok (.lreturn, 1)) (hK : cells ≤ K) (hN : slots ≤ N)
    (hq : Q (some (.long z)) T.heap locs) : own_Rch p e below (own_Fin s K N Q) (T.setTop (mkF m pc Ls (.long z :: rest))) := by
  obtain ⟨fs, hr, hrun, hended, hW, hsame⟩ := X.leave (v := some (.long z)) (fun h => by rw [hret] at h; cases h) hlocks
  exact ⟨_, _, retOut X hx hret rfl (Or.inr (Or.inl ⟨rfl, rfl, z, rfl⟩)) hd hr, hrun, hended, _, _, rfl, hq, ⟨_, rfl⟩, hW, hsame.mono hK hN⟩
theorem own_retA {K N : Nat} {Q : Option Value → Heap → List Loc → Prop} (X : Stand p l e R s m args below meth c T locs cells slots) (hx : p.tables.exec = Jvm.exec) {pc : Nat} {Ls : Array Slot} {w : Value} {t : FieldType} {rest : List Value}
    (hret : meth.sig.returnType = some t) (hlocks : meth.locks = false) (ht : t.isReference = true) (hw : w.isRef = true) (hn : narrow t w = w) (hd : decode c.code pc = .ok (.areturn, 1)) (hK : cells ≤ K) (hN : slots ≤ N)
    (hq : Q (some w) T.heap locs) : own_Rch p e below (own_Fin s K N Q) (T.setTop (mkF m pc Ls (w :: rest))) := by
  obtain ⟨fs, hr, hrun, hended, hW, hsame⟩ := X.leave (v := some w) (fun h => by rw [hret] at h; cases h) hlocks
  exact ⟨_, _, retOut X hx hret hn (Or.inr (Or.inr (Or.inr (Or.inr ⟨rfl, ht, hw⟩)))) hd hr, hrun, hended, _, _, rfl, hq, ⟨_, rfl⟩, hW, hsame.mono hK hN⟩
theorem own_ret0 {K N : Nat} {Q : Option Value → Heap → List Loc → Prop} (X : Stand p l e R s m args below meth c T locs cells slots) (hx : p.tables.exec = Jvm.exec) {pc : Nat} {Ls : Array Slot}
    (hret : meth.sig.returnType = none) (hlocks : meth.locks = false) (hd : decode c.code pc = .ok (.return_, 1)) (hK : cells ≤ K) (hN : slots ≤ N)
    (hq : Q none T.heap locs) : own_Rch p e below (own_Fin s K N Q) (T.setTop (mkF m pc Ls [])) := by
  obtain ⟨fs, hr, hrun, hended, hW, hsame⟩ := X.leave (v := none) (fun _ => rfl) hlocks
  exact ⟨_, _, X.returnOut hx hret hd hr, hrun, hended, _, _, rfl, hq, ⟨_, rfl⟩, hW, hsame.mono hK hN⟩
theorem own_callS (X : Stand p l e R s m args below meth c T locs cells slots) (hx : p.tables.exec = Jvm.exec) (hZ : Z.Warmed39 s.vm) {own : String} {index : Nat} {y : MethodName} {bytes : ByteArray} {maxL : Nat} {ret : Option FieldType}
    (hown : s.vm.findClass own = some m.cls) (w1 : (Jvm.Cond.methodLink own index y).before a0 Z = true) (w2 : (Jvm.Cond.static y).before a0 Z = true) (w3 : (Jvm.Cond.initialized y.cls).before a0 Z = true) (w4 : (Jvm.Cond.code y bytes maxL ret).before a0 Z = true)
    (hy : y.cls ≠ "java/lang/invoke/MethodHandle" ∧ y.cls ≠ "java/lang/invoke/VarHandle") {rm : Room} {h : Heap} {as' : Array Value} {Q : Option Value → Heap → List Loc → Prop} (hM : own_Ctr l Z y bytes maxL ret [] rm h as' Q) (eT : T.heap = h)
    {W : Nat} (hf : rm.frames + 1 ≤ R.frames) (hl : W + (maxL + 11) + rm.locals ≤ R.locals) {g : JFrame} (hg : g.method = m) (hsize : g.locals.size = c.maxLocals) {argsL rest : List Value}
    (hlen : ∀ sig, parseMethodDescriptor y.desc = some sig → argsL.length = sig.parameters.length) (hstack : g.stack = argsL.reverse ++ rest) (has : argsL.toArray = as') (hW : 2 * g.monitorRoom + (rest.map fun v => v.category).sum = W)
    (hdg : decode c.code g.pc = .ok (.invokestatic index, 3)) (hc : cells + rm.cells ≤ R.cells) (hs : slots + rm.slots ≤ R.slots) :
    ∃ v T' L, Stand p l e R s m args below meth c T' (locs ++ L) (cells + rm.cells) (slots + rm.slots) ∧ Q v T'.heap L ∧
      ∀ t, Steps p.tables e below (T'.setTop { g with pc := g.pc + 3, stack := v.toList ++ rest }) t → Steps p.tables e below (T.setTop g) t := by
  obtain ⟨v, _, ⟨T', L', k', n'⟩, -, X', ⟨Lc, hQ, l', y', z'⟩, st⟩ := Jvm.LawKit.callS X hx hown (mvT hZ w1) (mvT hZ w2) (mvT hZ w3) (mvT hZ w4) hy (backOf (Q := Q) (W := W) hM hZ w4 w3 hf hl) hg hsize hlen hstack (Nat.le_of_eq hW) hdg (fun _ _ => ⟨has, eT, hc, hs⟩)
  dsimp only [Pt.U, Pt.locs, Pt.cells, Pt.slots] at X' l' y' z' st hQ
  subst l' y' z'
  exact ⟨v, T', Lc, X', hQ, st⟩
theorem own_callC (X : Stand p l e R s m args below meth c T locs cells slots) (hx : p.tables.exec = Jvm.exec) (hZ : Z.Warmed39 s.vm) {own : String} {index : Nat} {y : MethodName} {bytes : ByteArray} {maxL : Nat} (hy1 : y.name = "<init>")
    (hown : s.vm.findClass own = some m.cls) (w1 : (Jvm.Cond.methodLink own index y).before a0 Z = true) (w2 : (Jvm.Cond.instanceMethod y).before a0 Z = true) (w3 : (Jvm.Cond.initialized y.cls).before a0 Z = true) (w4 : (Jvm.Cond.code y bytes maxL none).before a0 Z = true)
    (hy : y.cls ≠ "java/lang/invoke/MethodHandle" ∧ y.cls ≠ "java/lang/invoke/VarHandle") {rm : Room} {h : Heap} {as' : Array Value} {Q : Option Value → Heap → List Loc → Prop} (hM : own_Ctr l Z y bytes maxL none [] rm h as' Q) (eT : T.heap = h)
    {W : Nat} (hf : rm.frames + 1 ≤ R.frames) (hl : W + (maxL + 11) + rm.locals ≤ R.locals) {g : JFrame} (hg : g.method = m) (hsize : g.locals.size = c.maxLocals) {a : Addr} {argsL rest : List Value}
    (hlen : ∀ sig, parseMethodDescriptor y.desc = some sig → argsL.length = sig.parameters.length) (hstack : g.stack = argsL.reverse ++ .ref a :: rest) (has : (.ref a :: argsL).toArray = as') (hW : 2 * g.monitorRoom + (rest.map fun v => v.category).sum = W)
    (hdg : decode c.code g.pc = .ok (.invokespecial index, 3)) (hc : cells + rm.cells ≤ R.cells) (hs : slots + rm.slots ≤ R.slots) :
    ∃ v T' L, Stand p l e R s m args below meth c T' (locs ++ L) (cells + rm.cells) (slots + rm.slots) ∧ Q v T'.heap L ∧
      ∀ t, Steps p.tables e below (T'.setTop { g with pc := g.pc + 3, stack := v.toList ++ rest }) t → Steps p.tables e below (T.setTop g) t := by
  obtain ⟨v, _, ⟨T', L', k', n'⟩, -, X', ⟨Lc, hQ, l', y', z'⟩, st⟩ := X.specialBack hx hy1 hown (mvT hZ w1) (mvT hZ w2) (mvT hZ w4) hy (backOf (Q := Q) (W := W) hM hZ w4 w3 hf hl) hg hsize (Steps.refl _) hlen hstack (Nat.le_of_eq hW) hdg (fun _ _ => ⟨has, eT, hc, hs⟩)
  dsimp only [Pt.U, Pt.locs, Pt.cells, Pt.slots] at X' l' y' z' st hQ
  subst l' y' z'
  exact ⟨v, T', Lc, X', hQ, fun t k => st.trans k⟩
theorem own_callV (X : Stand p l e R s m args below meth c T locs cells slots) (hx : p.tables.exec = Jvm.exec) (hZ : Z.Warmed39 s.vm) {own C : String} {index : Nat} {y z : MethodName} {bytes : ByteArray} {maxL : Nat} {ret : Option FieldType}
    (hown : s.vm.findClass own = some m.cls) (w1 : (Jvm.Cond.methodLink own index y).before a0 Z = true) (w2 : (Jvm.Cond.declares y).before a0 Z = true) (nf : NotFace s y) (w5 : (Jvm.Cond.selects C y z).before a0 Z = true) (w6 : (Jvm.Cond.instanceMethod z).before a0 Z = true)
    (w3 : (Jvm.Cond.initialized z.cls).before a0 Z = true) (w4 : (Jvm.Cond.code z bytes maxL ret).before a0 Z = true)
    (hy : y.cls ≠ "java/lang/invoke/MethodHandle" ∧ y.cls ≠ "java/lang/invoke/VarHandle") {rm : Room} {h : Heap} {as' : Array Value} {Q : Option Value → Heap → List Loc → Prop} (hM : own_Ctr l Z z bytes maxL ret [] rm h as' Q) (eT : T.heap = h)
    {b : Addr} (E : Exa Z h b C)
    {W : Nat} (hf : rm.frames + 1 ≤ R.frames) (hl : W + (maxL + 11) + rm.locals ≤ R.locals) {g : JFrame} (hg : g.method = m) (hsize : g.locals.size = c.maxLocals) {argsL rest : List Value}
    (hlen : ∀ sig, parseMethodDescriptor y.desc = some sig → argsL.length = sig.parameters.length) (hstack : g.stack = argsL.reverse ++ .ref b :: rest) (has : (.ref b :: argsL).toArray = as') (hW : 2 * g.monitorRoom + (rest.map fun v => v.category).sum = W)
    (hdg : decode c.code g.pc = .ok (.invokevirtual index, 3)) (hc : cells + rm.cells ≤ R.cells) (hs : slots + rm.slots ≤ R.slots) :
    ∃ v T' L, Stand p l e R s m args below meth c T' (locs ++ L) (cells + rm.cells) (slots + rm.slots) ∧ Q v T'.heap L ∧
      ∀ t, Steps p.tables e below (T'.setTop { g with pc := g.pc + 3, stack := v.toList ++ rest }) t → Steps p.tables e below (T.setTop g) t := by
  obtain ⟨cq, kq, qa, qb, qc⟩ := isOf hZ eT E
  obtain ⟨v, _, ⟨T', L', k', n'⟩, -, X', ⟨Lc, hQ, l', y', z'⟩, st⟩ := X.virtualBack hx hown (mvT hZ w1) (mvT hZ w2) nf (mvT hZ w5) (mvT hZ w6) hy (backOf (Q := Q) (W := W) hM hZ w4 w3 hf hl) qa qc hg hsize (Steps.refl _) hlen hstack (Nat.le_of_eq hW) hdg (fun _ _ => ⟨has, eT, hc, hs⟩)
  dsimp only [Pt.U, Pt.locs, Pt.cells, Pt.slots] at X' l' y' z' st hQ
  subst l' y' z'
  exact ⟨v, T', Lc, X', hQ, fun t k => st.trans k⟩
end OwnKit
section OwnArr
variable {p : Program} {l : Launch} {e : Env} {R : Room} {s : State} {m : MethodId} {args : Array Value} {below : List Frame} {meth : Method} {c : Code} {T : State} {locs : List Loc} {cells slots : Nat} {Z : State} {h : Heap} {a : Addr} {k : ClassId} {z j : Int32} {vs : List Value} {dv v : Value}
theorem own_len (X : Stand p l e R s m args below meth c T locs cells slots) (hx : p.tables.exec = Jvm.exec) (hZ : Z.Warmed39 s.vm) (eT : T.heap = h) {ty : FieldType} (V : Arv Z h a k ty z vs dv)
    {g : JFrame} (hg : g.method = m) {rest : List Value} (hs : g.stack = .ref a :: rest) (hd : decode c.code g.pc = .ok (.arraylength, 1)) :
    ∀ t, Steps p.tables e below (T.setTop { g with pc := g.pc + 1, stack := .int z :: rest }) t → Steps p.tables e below (T.setTop g) t := by
  obtain ⟨cl, A, -, S, N, -, -⟩ := V
  intro t k
  refine X.arraylength hx (by rw [eT]; exact A.1) (State.isArrayOf_alike hZ.alike A.2.1) hg hs hd _ ?_
  rw [len_of S N]; exact k
theorem own_bal (X : Stand p l e R s m args below meth c T locs cells slots) (hx : p.tables.exec = Jvm.exec) (hZ : Z.Warmed39 s.vm) (eT : T.heap = h) (V : Arv Z h a k .byte z vs dv) (hj : ¬ j < 0 ∧ j < z) (hv : vs.getD j.toNatClampNeg dv = v)
    {g : JFrame} (hg : g.method = m) {rest : List Value} (hs : g.stack = .int j :: .ref a :: rest) (hd : decode c.code g.pc = .ok (.baload, 1)) :
    ∀ t, Steps p.tables e below (T.setTop { g with pc := g.pc + 1, stack := v :: rest }) t → Steps p.tables e below (T.setTop g) t := by
  obtain ⟨cl, A, -, S, N, H, -⟩ := V
  have hin := inb_of S hj
  intro t k
  exact X.baloadBytes hx (by rw [eT]; exact A.1) (State.isArrayOf_alike hZ.alike A.2.1) A.2.2 hin (Has.at H hin hv) hg hs hd _ k
theorem own_ial (X : Stand p l e R s m args below meth c T locs cells slots) (hx : p.tables.exec = Jvm.exec) (hZ : Z.Warmed39 s.vm) (eT : T.heap = h) (V : Arv Z h a k .int z vs dv) (hj : ¬ j < 0 ∧ j < z) (hv : vs.getD j.toNatClampNeg dv = v)
    {g : JFrame} (hg : g.method = m) {rest : List Value} (hs : g.stack = .int j :: .ref a :: rest) (hd : decode c.code g.pc = .ok (.iaload, 1)) :
    ∀ t, Steps p.tables e below (T.setTop { g with pc := g.pc + 1, stack := v :: rest }) t → Steps p.tables e below (T.setTop g) t := by
  obtain ⟨cl, A, -, S, N, H, -⟩ := V
  have hin := inb_of S hj
  intro t k
  exact X.iaload hx (by rw [eT]; exact A.1) (State.isArrayOf_alike hZ.alike A.2.1) A.2.2 hin (Has.at H hin hv) hg hs hd _ k
theorem own_stB (X : Stand p l e R s m args below meth c T locs cells slots) (hx : p.tables.exec = Jvm.exec) (hZ : Z.Warmed39 s.vm) (eT : T.heap = h) (V : Arv Z h a k .byte z vs dv) (hj : ¬ j < 0 ∧ j < z) {i : Nat} (hi : j.toNatClampNeg = i) (hlt : i < vs.length) {x : Int32}
    {g : JFrame} (hg : g.method = m) {rest : List Value} (hs : g.stack = .int x :: .int j :: .ref a :: rest) (hd : decode c.code g.pc = .ok (.bastore, 1)) :
    ∃ T' h', Stand p l e R s m args below meth c T' (locs ++ [⟨a, j.toNatClampNeg⟩]) cells slots ∧ T'.heap = h' ∧ Wr h h' a j.toNatClampNeg (.int (nar .byte x)) ∧ Arv Z h' a k .byte z (vs.set i (.int (nar .byte x))) dv ∧
      ∀ t, Steps p.tables e below (T'.setTop { g with pc := g.pc + 1, stack := rest }) t → Steps p.tables e below (T.setTop g) t := by
  obtain ⟨cl, A, q, S, N, H, G⟩ := V
  obtain ⟨T', h', X', e', W, st⟩ := stB X hx hZ eT A (inb_of S hj) hg hs hd
  exact ⟨T', h', X', e', W, Arv.set A q S N H G (fits_nar_byte _) W i hi hlt, st⟩
theorem own_stI (X : Stand p l e R s m args below meth c T locs cells slots) (hx : p.tables.exec = Jvm.exec) (hZ : Z.Warmed39 s.vm) (eT : T.heap = h) (V : Arv Z h a k .int z vs dv) (hj : ¬ j < 0 ∧ j < z) {i : Nat} (hi : j.toNatClampNeg = i) (hlt : i < vs.length) {x : Int32}
    {g : JFrame} (hg : g.method = m) {rest : List Value} (hs : g.stack = .int x :: .int j :: .ref a :: rest) (hd : decode c.code g.pc = .ok (.iastore, 1)) :
    ∃ T' h', Stand p l e R s m args below meth c T' (locs ++ [⟨a, j.toNatClampNeg⟩]) cells slots ∧ T'.heap = h' ∧ Wr h h' a j.toNatClampNeg (.int x) ∧ Arv Z h' a k .int z (vs.set i (.int x)) dv ∧
      ∀ t, Steps p.tables e below (T'.setTop { g with pc := g.pc + 1, stack := rest }) t → Steps p.tables e below (T.setTop g) t := by
  obtain ⟨cl, A, q, S, N, H, G⟩ := V
  obtain ⟨T', h', X', e', W, st⟩ := stI X hx hZ eT A (inb_of S hj) hg hs hd
  exact ⟨T', h', X', e', W, Arv.set A q S N H G rfl W i hi hlt, st⟩
end OwnArr
section OwnMore
variable {p : Program} {l : Launch} {e : Env} {R : Room} {s : State} {m : MethodId} {args : Array Value} {below : List Frame} {meth : Method} {c : Code} {T : State} {locs : List Loc} {cells slots : Nat} {Z : State} {a0 : Array Value}
theorem own_callI (X : Stand p l e R s m args below meth c T locs cells slots) (hx : p.tables.exec = Jvm.exec) (hZ : Z.Warmed39 s.vm) {own C : String} {index count : Nat} {y z : MethodName} {bytes : ByteArray} {maxL : Nat} {ret : Option FieldType}
    (hown : s.vm.findClass own = some m.cls) (w1 : (Jvm.Cond.methodLink own index y).before a0 Z = true) (w2 : (Jvm.Cond.declares y).before a0 Z = true) (w7 : (Jvm.Cond.interfaceMethod y.cls y.cls y.name y.desc).before a0 Z = true) (w5 : (Jvm.Cond.selects C y z).before a0 Z = true) (w6 : (Jvm.Cond.instanceMethod z).before a0 Z = true)
    (w8 : (Jvm.Cond.publicMethod z).before a0 Z = true) (w9 : (Jvm.Cond.unhidden C y.name y.desc).before a0 Z = true) (w10 : (Jvm.Cond.castable C y.cls).before a0 Z = true) (w3 : (Jvm.Cond.initialized z.cls).before a0 Z = true) (w4 : (Jvm.Cond.code z bytes maxL ret).before a0 Z = true)
    (hy : y.cls ≠ "java/lang/invoke/MethodHandle" ∧ y.cls ≠ "java/lang/invoke/VarHandle") {rm : Room} {h : Heap} {as' : Array Value} {Q : Option Value → Heap → List Loc → Prop} (hM : own_Ctr l Z z bytes maxL ret [] rm h as' Q) (eT : T.heap = h)
    {b : Addr} (E : Exa Z h b C)
    {W : Nat} (hf : rm.frames + 1 ≤ R.frames) (hl : W + (maxL + 11) + rm.locals ≤ R.locals) {g : JFrame} (hg : g.method = m) (hsize : g.locals.size = c.maxLocals) {argsL rest : List Value}
    (hlen : ∀ sig, parseMethodDescriptor y.desc = some sig → argsL.length = sig.parameters.length) (hstack : g.stack = argsL.reverse ++ .ref b :: rest) (has : (.ref b :: argsL).toArray = as') (hW : 2 * g.monitorRoom + (rest.map fun v => v.category).sum = W)
    (hdg : decode c.code g.pc = .ok (.invokeinterface index count, 5)) (hc : cells + rm.cells ≤ R.cells) (hs : slots + rm.slots ≤ R.slots) :
    ∃ v T' L, Stand p l e R s m args below meth c T' (locs ++ L) (cells + rm.cells) (slots + rm.slots) ∧ Q v T'.heap L ∧
      ∀ t, Steps p.tables e below (T'.setTop { g with pc := g.pc + 5, stack := v.toList ++ rest }) t → Steps p.tables e below (T.setTop g) t := by
  obtain ⟨cq, kq, qa, qb, qc⟩ := isOf hZ eT E
  obtain ⟨v, _, ⟨T', L', k', n'⟩, -, X', ⟨Lc, hQ, l', y', z'⟩, st⟩ := X.interfaceBack hx hown (mvT hZ w1) (mvT hZ w2) (mvT hZ w7 (by simp [Cond.tabsN, Cond.tabsOnly, Cond.onTables, Cond.keepsFace, Cond.keeps, Cond.steady, Cond.faceAtom, hy.1, hy.2])) (mvT hZ w5) (mvT hZ w6) (mvT hZ w8) (mvT hZ w9) (mvT hZ w10) hy (backOf (Q := Q) (W := W) hM hZ w4 w3 hf hl) qa qb qc hg hsize (Steps.refl _) hlen hstack (Nat.le_of_eq hW) hdg (fun _ _ => ⟨has, eT, hc, hs⟩)
  dsimp only [Pt.U, Pt.locs, Pt.cells, Pt.slots] at X' l' y' z' st hQ
  subst l' y' z'
  exact ⟨v, T', Lc, X', hQ, fun t k => st.trans k⟩
theorem own_callP (X : Stand p l e R s m args below meth c T locs cells slots) (hx : p.tables.exec = Jvm.exec) (hZ : Z.Warmed39 s.vm) {own C : String} {index : Nat} {y : MethodName} {bytes : ByteArray} {maxL : Nat} {ret : Option FieldType}
    (hown : s.vm.findClass own = some m.cls) (w1 : (Jvm.Cond.methodLink own index y).before a0 Z = true) (w6 : (Jvm.Cond.instanceMethod y).before a0 Z = true) {C2 : String} (w5 : (Jvm.Cond.selects C2 y y).before a0 Z = true) (wp : (Jvm.Cond.privateMethod y).before a0 Z = true)
    (w3 : (Jvm.Cond.initialized y.cls).before a0 Z = true) (w4 : (Jvm.Cond.code y bytes maxL ret).before a0 Z = true)
    (hy : y.cls ≠ "java/lang/invoke/MethodHandle" ∧ y.cls ≠ "java/lang/invoke/VarHandle") {rm : Room} {h : Heap} {as' : Array Value} {Q : Option Value → Heap → List Loc → Prop} (hM : own_Ctr l Z y bytes maxL ret [] rm h as' Q) (eT : T.heap = h)
    {b : Addr} (E : Exa Z h b C)
    {W : Nat} (hf : rm.frames + 1 ≤ R.frames) (hl : W + (maxL + 11) + rm.locals ≤ R.locals) {g : JFrame} (hg : g.method = m) (hsize : g.locals.size = c.maxLocals) {argsL rest : List Value}
    (hlen : ∀ sig, parseMethodDescriptor y.desc = some sig → argsL.length = sig.parameters.length) (hstack : g.stack = argsL.reverse ++ .ref b :: rest) (has : (.ref b :: argsL).toArray = as') (hW : 2 * g.monitorRoom + (rest.map fun v => v.category).sum = W)
    (hdg : decode c.code g.pc = .ok (.invokevirtual index, 3)) (hc : cells + rm.cells ≤ R.cells) (hs : slots + rm.slots ≤ R.slots) :
    ∃ v T' L, Stand p l e R s m args below meth c T' (locs ++ L) (cells + rm.cells) (slots + rm.slots) ∧ Q v T'.heap L ∧
      ∀ t, Steps p.tables e below (T'.setTop { g with pc := g.pc + 3, stack := v.toList ++ rest }) t → Steps p.tables e below (T.setTop g) t := by
  obtain ⟨cq, q1, q2⟩ := E.cell
  have hsel : (Jvm.Cond.selects y.cls y y).before args s = true := by
    obtain ⟨_, _, mm, -, -, z3, -, mk, z4, z5⟩ := Cond.selects_spec (mvT (s := s) (args := args) hZ w5)
    exact selects_self_of_private (findClass_of_methodNamed z3) z4 z5 (Cond.privateMethod_at (mvP hZ wp (args := #[]))) (mvT hZ w6) hy
  obtain ⟨v, _, ⟨T', L', k', n'⟩, -, X', ⟨Lc, hQ, l', y', z'⟩, st⟩ := X.privateBack hx hown (mvT hZ w1) (mvT hZ w6) hsel (Cond.privateMethod_at (mvP hZ wp (args := #[]))) (mvT hZ w4) hy (backOf (Q := Q) (W := W) hM hZ w4 w3 hf hl) hg hsize (Steps.refl _) (by rw [eT]; exact q1) q2 hlen hstack (Nat.le_of_eq hW) hdg (fun _ _ => ⟨has, eT, hc, hs⟩)
  dsimp only [Pt.U, Pt.locs, Pt.cells, Pt.slots] at X' l' y' z' st hQ
  subst l' y' z'
  exact ⟨v, T', Lc, X', hQ, fun t k => st.trans k⟩
theorem own_same {y z z' : MethodName} {C : String} (wd : (Jvm.Cond.declares y).before a0 Z = true) (ws : (Jvm.Cond.selects C z z').before a0 Z = true) (hz : z'.cls = y.cls) (hy : y.cls ≠ "java/lang/invoke/MethodHandle" ∧ y.cls ≠ "java/lang/invoke/VarHandle") : (Jvm.Cond.sameMethod y.cls y.cls y.name y.desc).before a0 Z = true := by
  obtain ⟨mm, meth, h1, h2, -, -⟩ := Cond.declares_spec wd
  obtain ⟨_, _, m2, -, -, z3, -, mk, z4, z5⟩ := Cond.selects_spec ws
  have hf := findClass_of_methodNamed h1
  have hf2 := findClass_of_methodNamed z3
  rw [hz, hf] at hf2
  have e := Option.some.inj hf2
  rw [← e] at z4
  have hm := State.methodFound?_of_named h1 hy
  have h1' : Z.methodNamed? ⟨y.cls, y.name, y.desc⟩ = some mm := h1
  simp [Cond.before, Cond.holds, Cond.value, hf, hm, h1', z4, z5]
theorem own_callSup (X : Stand p l e R s m args below meth c T locs cells slots) (hx : p.tables.exec = Jvm.exec) (hZ : Z.Warmed39 s.vm) {own C K : String} {index : Nat} {y z z' : MethodName} {bytes : ByteArray} {maxL : Nat} {ret : Option FieldType}
    (hown : s.vm.findClass own = some m.cls) (w1 : (Jvm.Cond.methodLink own index y).before a0 Z = true) (w2 : (Jvm.Cond.declares y).before a0 Z = true) (w5 : (Jvm.Cond.selects C z z').before a0 Z = true) (hz : z'.cls = y.cls) (w6 : (Jvm.Cond.instanceMethod y).before a0 Z = true)
    (w7 : (Jvm.Cond.superclass own y.cls).before a0 Z = true) (hn : y.name ≠ "<init>") (w3 : (Jvm.Cond.initialized y.cls).before a0 Z = true) (w4 : (Jvm.Cond.code y bytes maxL ret).before a0 Z = true)
    (hy : y.cls ≠ "java/lang/invoke/MethodHandle" ∧ y.cls ≠ "java/lang/invoke/VarHandle") {rm : Room} {h : Heap} {as' : Array Value} {Q : Option Value → Heap → List Loc → Prop} (hM : own_Ctr l Z y bytes maxL ret [] rm h as' Q) (eT : T.heap = h)
    {b : Addr} (E : Exa Z h b K)
    {W : Nat} (hf : rm.frames + 1 ≤ R.frames) (hl : W + (maxL + 11) + rm.locals ≤ R.locals) {g : JFrame} (hg : g.method = m) (hsize : g.locals.size = c.maxLocals) {argsL rest : List Value}
    (hlen : ∀ sig, parseMethodDescriptor y.desc = some sig → argsL.length = sig.parameters.length) (hstack : g.stack = argsL.reverse ++ .ref b :: rest) (has : (.ref b :: argsL).toArray = as') (hW : 2 * g.monitorRoom + (rest.map fun v => v.category).sum = W)
    (hdg : decode c.code g.pc = .ok (.invokespecial index, 3)) (hc : cells + rm.cells ≤ R.cells) (hs : slots + rm.slots ≤ R.slots) :
    ∃ v T' L, Stand p l e R s m args below meth c T' (locs ++ L) (cells + rm.cells) (slots + rm.slots) ∧ Q v T'.heap L ∧
      ∀ t, Steps p.tables e below (T'.setTop { g with pc := g.pc + 3, stack := v.toList ++ rest }) t → Steps p.tables e below (T.setTop g) t := by
  obtain ⟨v, _, ⟨T', L', k', n'⟩, -, X', ⟨Lc, hQ, l', y', z'⟩, st⟩ := superBack X hx hZ hown w1 (own_same w2 w5 hz hy) w6 w7 hn (backOf (Q := Q) (W := W) hM hZ w4 w3 hf hl) eT (Ins.self E) hg hsize w4 hlen hstack (Nat.le_of_eq hW) hdg (fun _ _ => ⟨has, eT, hc, hs⟩)
  dsimp only [Pt.U, Pt.locs, Pt.cells, Pt.slots] at X' l' y' z' st hQ
  subst l' y' z'
  exact ⟨v, T', Lc, X', hQ, fun t k => st.trans k⟩
variable {h : Heap} {a : Addr} {k : ClassId} {z j : Int32} {vs : List Value} {dv v : Value}
theorem own_aal (X : Stand p l e R s m args below meth c T locs cells slots) (hx : p.tables.exec = Jvm.exec) (hZ : Z.Warmed39 s.vm) (eT : T.heap = h) {ty : FieldType} (V : Arv Z h a k ty z vs dv) (ht : ty.isReference = true) (hj : ¬ j < 0 ∧ j < z) (hv : vs.getD j.toNatClampNeg dv = v)
    {g : JFrame} (hg : g.method = m) {rest : List Value} (hs : g.stack = .int j :: .ref a :: rest) (hd : decode c.code g.pc = .ok (.aaload, 1)) :
    ∀ t, Steps p.tables e below (T.setTop { g with pc := g.pc + 1, stack := v :: rest }) t → Steps p.tables e below (T.setTop g) t := by
  obtain ⟨cl, A, -, S, N, H, -⟩ := V
  have hin := inb_of S hj
  intro t k
  exact X.aaload hx (by rw [eT]; exact A.1) (State.isArrayOf_alike hZ.alike A.2.1) ht A.2.2 hin (Has.at H hin hv) hg hs hd _ k
theorem own_stR (X : Stand p l e R s m args below meth c T locs cells slots) (hx : p.tables.exec = Jvm.exec) (hZ : Z.Warmed39 s.vm) (eT : T.heap = h) {C : String} (V : Arv Z h a k (.object C) z vs dv) (O : Ovr Z k C) {y : Addr} (I : Ins Z h y C true) (hj : ¬ j < 0 ∧ j < z) {i : Nat} (hi : j.toNatClampNeg = i) (hlt : i < vs.length)
    {g : JFrame} (hg : g.method = m) {rest : List Value} (hs : g.stack = .ref y :: .int j :: .ref a :: rest) (hd : decode c.code g.pc = .ok (.aastore, 1)) :
    ∃ T' h', Stand p l e R s m args below meth c T' (locs ++ [⟨a, j.toNatClampNeg⟩]) cells slots ∧ T'.heap = h' ∧ Wr h h' a j.toNatClampNeg (.ref y) ∧ Arv Z h' a k (.object C) z (vs.set i (.ref y)) dv ∧
      ∀ t, Steps p.tables e below (T'.setTop { g with pc := g.pc + 1, stack := rest }) t → Steps p.tables e below (T.setTop g) t := by
  obtain ⟨cl, A, q, S, N, H, G⟩ := V
  obtain ⟨T', h', X', e', W, st⟩ := stR X hx hZ eT A (inb_of S hj) rfl (Sto.ofV A q O I) hg hs hd
  exact ⟨T', h', X', e', W, Arv.set A q S N H G rfl W i hi hlt, st⟩
end OwnMore
theorem own_staE {Z : State} {h h' : Heap} {C n d K : String} {w : Value} {a : Addr} (F : Sta Z h C n d w) (Kp : Keep h h' [a]) (E : Exa Z h a K) : Sta Z h' C n d w := by
  obtain ⟨cf, i, k, f, st, cell, h1, h2, h3, h4, h5, h6, h7⟩ := F
  obtain ⟨c2, k2, g1, g2, g3, g4, g5⟩ := E
  refine ⟨cf, i, k, f, st, cell, h1, h2, h3, h4, Kp.2.1 _ _ h5 (ninS (fun q => ?_) nin0), h6, h7⟩
  subst q
  cases h5.symm.trans g1
  rw [h6] at g4; cases g4
theorem own_lt10 {z : Int32} (h : ¬ z < 0 ∧ z < 10) : z.toNatClampNeg < 10 := by
  obtain ⟨h1, h2⟩ := h
  rw [Int32.lt_iff_toInt_lt] at h1 h2
  have e0 : (0 : Int32).toInt = 0 := by decide
  have e1 : (10 : Int32).toInt = 10 := by decide
  rw [e0] at h1
  rw [e1] at h2
  have h3 : (z.toNatClampNeg : Int) = z.toInt := by
    rw [Int32.toNatClampNeg]
    omega
  omega
theorem own_d4_0 : decode jdk_22_method_1_code 0 = .ok (.aload_n 0, 1) := by decide +kernel
theorem own_d4_1 : decode jdk_22_method_1_code 1 = .ok (.invokespecial 1, 3) := by decide +kernel
theorem own_d4_4 : decode jdk_22_method_1_code 4 = .ok (.return_, 1) := by decide +kernel
theorem own_c4_ef (m : MethodId) (x0 : Addr) : entryFrame m #[(.ref x0)] 1 = mkF m 0 #[.val (.ref x0)] [] := by first | (simp [entryFrame, mkF, argsToLocals, Value.category]; done) | rfl
theorem own_pn0 : plainName "java/util/AbstractCollection" = true := by first | (simp [plainName, overriddenIn]; done) | decide +kernel
set_option maxRecDepth 65536 in
set_option maxHeartbeats 40000000 in
theorem own_c4 (l : Launch) (Z : State) (a0 : Array Value) (hw : ∀ d ∈ tables_1, d.before a0 Z = true) (wsC : List Jvm.Cond) (a1 : Addr) (h0 : Heap) (n0 : Nat) (Z0 : n0 ≤ h0.size) :
    own_Ctr l Z (⟨"java/util/AbstractCollection", "<init>", "()V"⟩ : MethodName) jdk_22_method_1_code 1 none wsC ({ frames := 1, cells := 0, slots := 0, locals := 12 } : Room) h0 #[(.ref a1)] (fun v h L => v = none ∧ Fr n0 L ∧ h = h0) := by
  refine own_ctr (plainFor_of_name own_pn0) ?_
  intro p e s m below meth c s₁ Bd hml0 hx hby hZ hown0 X0 e0
  have hml : c.maxLocals = 1 := hml0
  have hown : s.vm.findClass "java/util/AbstractCollection" = some m.cls := hown0
  have hnm := (name_of_methodNamed Bd.named Bd.method).1
  have N0 := Fr.nil n0
  refine own_cast (own_c4_ef m a1) ?_
  refine own_go (S' := (s₁.setTop (mkF m 1 #[.val (.ref a1)] [(.ref a1)]))) (fun t_ k_ => ?_) ?_
  · refine XS.aloadN X0.here hx rfl (hb hby own_d4_0) rfl rfl ?_
    show Steps p.tables e below (s₁.setTop (mkF m 1 #[.val (.ref a1)] [(.ref a1)])) _
    exact k_
  obtain ⟨T1, X1, e1, st1⟩ := initO X0 hx hZ hown (hw _ (List.mem_of_getElem? (i := 24) rfl)) (hw _ (List.mem_of_getElem? (i := 25) rfl)) (hw _ (List.mem_of_getElem? (i := 26) rfl)) e0 (g := (mkF m 1 #[.val (.ref a1)] [(.ref a1)])) rfl (by rw [hml]; rfl) rfl (hb hby own_d4_1) (by decide) (W := 0) (by show 2 * 0 + _ ≤ _; exact Nat.le_of_eq rfl) (by decide)
  refine own_go st1 ?_
  show own_Rch p e below _ (T1.setTop (mkF m 4 #[.val (.ref a1)] []))
  refine own_ret0 X1 hx Bd.returns Bd.notSynchronized (hb hby own_d4_4) (by decide) (by decide) ?_
  try rw [e1]
  exact ⟨rfl, N0, rfl⟩
theorem own_pd0 : parseMethodDescriptor "()V" = some ⟨[], none⟩ := by decide +kernel
theorem own_d3_0 : decode jdk_39_method_1_code 0 = .ok (.aload_n 0, 1) := by decide +kernel
theorem own_d3_1 : decode jdk_39_method_1_code 1 = .ok (.invokespecial 1, 3) := by decide +kernel
theorem own_d3_4 : decode jdk_39_method_1_code 4 = .ok (.aload_n 0, 1) := by decide +kernel
theorem own_d3_5 : decode jdk_39_method_1_code 5 = .ok (.iconst 0, 1) := by decide +kernel
theorem own_d3_6 : decode jdk_39_method_1_code 6 = .ok (.putfield 7, 3) := by decide +kernel
theorem own_d3_9 : decode jdk_39_method_1_code 9 = .ok (.return_, 1) := by decide +kernel
theorem own_c3_ef (m : MethodId) (x0 : Addr) : entryFrame m #[(.ref x0)] 1 = mkF m 0 #[.val (.ref x0)] [] := by first | (simp [entryFrame, mkF, argsToLocals, Value.category]; done) | rfl
theorem own_pn1 : plainName "java/util/AbstractList" = true := by first | (simp [plainName, overriddenIn]; done) | decide +kernel
set_option maxRecDepth 65536 in
set_option maxHeartbeats 40000000 in
theorem own_c3 (l : Launch) (Z : State) (a0 : Array Value) (hw : ∀ d ∈ tables_1, d.before a0 Z = true) (wsC : List Jvm.Cond) (a1 : Addr) (h0 : Heap) (n0 : Nat) (Z0 : n0 ≤ h0.size) (F1 : Fld Z h0 a1 "java/util/ArrayList" "size" "I" (.int 0)) (F2 : Fld Z h0 a1 "java/util/ArrayList" "elementData" "[Ljava/lang/Object;" .null) (F3 : Fld Z h0 a1 "java/util/AbstractList" "modCount" "I" (.int 0)) (E : Exa Z h0 a1 "java/util/ArrayList") (g : n0 ≤ a1) :
    own_Ctr l Z (⟨"java/util/AbstractList", "<init>", "()V"⟩ : MethodName) jdk_39_method_1_code 1 none wsC ({ frames := 2, cells := 0, slots := 0, locals := 26 } : Room) h0 #[(.ref a1)] (fun v h L => v = none ∧ Fr n0 L ∧ Keep h0 h [a1] ∧ Exa Z h a1 "java/util/ArrayList" ∧ Fld Z h a1 "java/util/ArrayList" "size" "I" (.int 0) ∧ Fld Z h a1 "java/util/ArrayList" "elementData" "[Ljava/lang/Object;" .null ∧ Fld Z h a1 "java/util/AbstractList" "modCount" "I" (.int 0)) := by
  refine own_ctr (plainFor_of_name own_pn1) ?_
  intro p e s m below meth c s₁ Bd hml0 hx hby hZ hown0 X0 e0
  have hml : c.maxLocals = 1 := hml0
  have hown : s.vm.findClass "java/util/AbstractList" = some m.cls := hown0
  have hnm := (name_of_methodNamed Bd.named Bd.method).1
  have N0 := Fr.nil n0
  refine own_cast (own_c3_ef m a1) ?_
  refine own_go (S' := (s₁.setTop (mkF m 1 #[.val (.ref a1)] [(.ref a1)]))) (fun t_ k_ => ?_) ?_
  · refine XS.aloadN X0.here hx rfl (hb hby own_d3_0) rfl rfl ?_
    show Steps p.tables e below (s₁.setTop (mkF m 1 #[.val (.ref a1)] [(.ref a1)])) _
    exact k_
  obtain ⟨_, T1, L1, X1, ⟨rfl, N1q, k1⟩, st1⟩ := own_callC X0 hx hZ (y := (⟨"java/util/AbstractCollection", "<init>", "()V"⟩ : MethodName)) rfl hown (hw _ (List.mem_of_getElem? (i := 18) rfl)) (hw _ (List.mem_of_getElem? (i := 19) rfl)) (hw _ (List.mem_of_getElem? (i := 22) rfl)) (hw _ (List.mem_of_getElem? (i := 23) rfl)) (by decide) (own_c4 l Z a0 hw [] a1 h0 n0 Z0) e0 (a := a1) (W := 0) (by decide) (by decide) (g := (mkF m 1 #[.val (.ref a1)] [(.ref a1)])) rfl (by rw [hml]; rfl) (argsL := []) (rest := []) (lenOf own_pd0 rfl) rfl rfl rfl (hb hby own_d3_1) (by decide) (by decide)
  have N1 := Fr.app N0 N1q
  refine own_go st1 ?_
  show own_Rch p e below _ (T1.setTop (mkF m 4 #[.val (.ref a1)] []))
  rw [← k1] at F1 F2 F3 E
  refine own_go (S' := (T1.setTop (mkF m 6 #[.val (.ref a1)] [(.int (0 : Int32)), (.ref a1)]))) (fun t_ k_ => ?_) ?_
  · refine XS.aloadN X1.here hx rfl (hb hby own_d3_4) rfl rfl ?_
    show Steps p.tables e below (T1.setTop (mkF m 5 #[.val (.ref a1)] [(.ref a1)])) _
    refine XS.iconst X1.here hx rfl (hb hby own_d3_5) ?_
    show Steps p.tables e below (T1.setTop (mkF m 6 #[.val (.ref a1)] [(.int (0 : Int32)), (.ref a1)])) _
    exact k_
  obtain ⟨T2, h2, X2, e2, W2, st2⟩ := putF X1 hx hZ hown (host := "") (Or.inl (hw _ (List.mem_of_getElem? (i := 27) rfl))) Via.refl rfl F3 E (Or.inl (hw _ (List.mem_of_getElem? (i := 28) rfl))) (hw _ (List.mem_of_getElem? (i := 7) rfl)) (ty := .int) (by decide) rfl rfl (g := (mkF m 6 #[.val (.ref a1)] [(.int (0 : Int32)), (.ref a1)])) rfl rfl (hb hby own_d3_6)
  refine own_go st2 ?_
  have N2 := Fr.snoc X2 N1 g
  show own_Rch p e below _ (T2.setTop (mkF m 9 #[.val (.ref a1)] []))
  have G2_0 := F1.other W2 (Or.inr (slot_ne (Or.inl (hw _ (List.mem_of_getElem? (i := 50) rfl))) (Or.inl (hw _ (List.mem_of_getElem? (i := 28) rfl))) (by decide) (t := .int) (t' := .int) (by decide) (by decide)))
  have G2_1 := F2.other W2 (Or.inr (slot_ne (Or.inl (hw _ (List.mem_of_getElem? (i := 31) rfl))) (Or.inl (hw _ (List.mem_of_getElem? (i := 28) rfl))) (by decide) (t := (.array (.object "java/lang/Object"))) (t' := .int) (by decide) (by decide)))
  have G2_2 := F3.same W2
  have Ex2 := E.wr W2
  refine own_ret0 X2 hx Bd.returns Bd.notSynchronized (hb hby own_d3_9) (by decide) (by decide) ?_
  try rw [e2]
  exact ⟨rfl, N2, by rw [← k1]; exact (Keep.refl _ [a1]).wr W2 (Or.inl (List.mem_of_getElem? (i := 0) rfl)), Ex2, G2_0, G2_1, G2_2⟩
theorem own_d2_0 : decode jdk_38_method_2_code 0 = .ok (.aload_n 0, 1) := by decide +kernel
theorem own_d2_1 : decode jdk_38_method_2_code 1 = .ok (.invokespecial 1, 3) := by decide +kernel
theorem own_d2_4 : decode jdk_38_method_2_code 4 = .ok (.aload_n 0, 1) := by decide +kernel
theorem own_d2_5 : decode jdk_38_method_2_code 5 = .ok (.getstatic 39, 3) := by decide +kernel
theorem own_d2_8 : decode jdk_38_method_2_code 8 = .ok (.putfield 9, 3) := by decide +kernel
theorem own_d2_11 : decode jdk_38_method_2_code 11 = .ok (.return_, 1) := by decide +kernel
theorem own_c2_ef (m : MethodId) (x0 : Addr) : entryFrame m #[(.ref x0)] 1 = mkF m 0 #[.val (.ref x0)] [] := by first | (simp [entryFrame, mkF, argsToLocals, Value.category]; done) | rfl
theorem own_pn2 : plainName "java/util/ArrayList" = true := by first | (simp [plainName, overriddenIn]; done) | decide +kernel
set_option maxRecDepth 65536 in
set_option maxHeartbeats 40000000 in
theorem own_c2 (l : Launch) (Z : State) (a0 : Array Value) (hw : ∀ d ∈ tables_1, d.before a0 Z = true) (wsC : List Jvm.Cond) (a1 de : Addr) (h0 : Heap) (n0 : Nat) (Z0 : n0 ≤ h0.size) (F1 : Fld Z h0 a1 "java/util/ArrayList" "size" "I" (.int 0)) (F2 : Fld Z h0 a1 "java/util/ArrayList" "elementData" "[Ljava/lang/Object;" .null) (F3 : Fld Z h0 a1 "java/util/AbstractList" "modCount" "I" (.int 0)) (E : Exa Z h0 a1 "java/util/ArrayList") (g : n0 ≤ a1) (S : Sta Z h0 "java/util/ArrayList" "DEFAULTCAPACITY_EMPTY_ELEMENTDATA" "[Ljava/lang/Object;" (.ref de)) :
    own_Ctr l Z (⟨"java/util/ArrayList", "<init>", "()V"⟩ : MethodName) jdk_38_method_2_code 1 none wsC ({ frames := 3, cells := 0, slots := 0, locals := 40 } : Room) h0 #[(.ref a1)] (fun v h L => v = none ∧ Fr n0 L ∧ Keep h0 h [a1] ∧ Exa Z h a1 "java/util/ArrayList" ∧ Fld Z h a1 "java/util/ArrayList" "size" "I" (.int 0) ∧ Fld Z h a1 "java/util/ArrayList" "elementData" "[Ljava/lang/Object;" (.ref de) ∧ Fld Z h a1 "java/util/AbstractList" "modCount" "I" (.int 0)) := by
  refine own_ctr (plainFor_of_name own_pn2) ?_
  intro p e s m below meth c s₁ Bd hml0 hx hby hZ hown0 X0 e0
  have hml : c.maxLocals = 1 := hml0
  have hown : s.vm.findClass "java/util/ArrayList" = some m.cls := hown0
  have hnm := (name_of_methodNamed Bd.named Bd.method).1
  have N0 := Fr.nil n0
  refine own_cast (own_c2_ef m a1) ?_
  refine own_go (S' := (s₁.setTop (mkF m 1 #[.val (.ref a1)] [(.ref a1)]))) (fun t_ k_ => ?_) ?_
  · refine XS.aloadN X0.here hx rfl (hb hby own_d2_0) rfl rfl ?_
    show Steps p.tables e below (s₁.setTop (mkF m 1 #[.val (.ref a1)] [(.ref a1)])) _
    exact k_
  obtain ⟨_, T1, L1, X1, ⟨rfl, N1q, K1, E1, f11, f21, f31⟩, st1⟩ := own_callC X0 hx hZ (y := (⟨"java/util/AbstractList", "<init>", "()V"⟩ : MethodName)) rfl hown (hw _ (List.mem_of_getElem? (i := 12) rfl)) (hw _ (List.mem_of_getElem? (i := 13) rfl)) (hw _ (List.mem_of_getElem? (i := 16) rfl)) (hw _ (List.mem_of_getElem? (i := 17) rfl)) (by decide) (own_c3 l Z a0 hw [] a1 h0 n0 Z0 F1 F2 F3 E g) e0 (a := a1) (W := 0) (by decide) (by decide) (g := (mkF m 1 #[.val (.ref a1)] [(.ref a1)])) rfl (by rw [hml]; rfl) (argsL := []) (rest := []) (lenOf own_pd0 rfl) rfl rfl rfl (hb hby own_d2_1) (by decide) (by decide)
  have N1 := Fr.app N0 N1q
  refine own_go st1 ?_
  show own_Rch p e below _ (T1.setTop (mkF m 4 #[.val (.ref a1)] []))
  refine own_go (S' := (T1.setTop (mkF m 5 #[.val (.ref a1)] [(.ref a1)]))) (fun t_ k_ => ?_) ?_
  · refine XS.aloadN X1.here hx rfl (hb hby own_d2_4) rfl rfl ?_
    show Steps p.tables e below (T1.setTop (mkF m 5 #[.val (.ref a1)] [(.ref a1)])) _
    exact k_
  obtain ⟨T2, X2, e2, st2⟩ := getS2 X1 hx hZ hown (host := "") (Or.inl (hw _ (List.mem_of_getElem? (i := 29) rfl))) Via.refl rfl (own_staE S K1 E) (g := (mkF m 5 #[.val (.ref a1)] [(.ref a1)])) rfl (hb hby own_d2_5)
  refine own_go st2 ?_
  show own_Rch p e below _ (T2.setTop (mkF m 8 #[.val (.ref a1)] [(.ref de), (.ref a1)]))
  obtain ⟨T3, h3, X3, e3, W3, st3⟩ := putF X2 hx hZ hown (host := "") (Or.inl (hw _ (List.mem_of_getElem? (i := 30) rfl))) Via.refl e2 f21 E1 (Or.inl (hw _ (List.mem_of_getElem? (i := 31) rfl))) (hw _ (List.mem_of_getElem? (i := 7) rfl)) (ty := (.array (.object "java/lang/Object"))) (by decide) rfl rfl (g := (mkF m 8 #[.val (.ref a1)] [(.ref de), (.ref a1)])) rfl rfl (hb hby own_d2_8)
  refine own_go st3 ?_
  have N3 := Fr.snoc X3 N1 g
  show own_Rch p e below _ (T3.setTop (mkF m 11 #[.val (.ref a1)] []))
  have G3_0 := f11.other W3 (Or.inr (slot_ne (Or.inl (hw _ (List.mem_of_getElem? (i := 50) rfl))) (Or.inl (hw _ (List.mem_of_getElem? (i := 31) rfl))) (by decide) (t := .int) (t' := (.array (.object "java/lang/Object"))) (by decide) (by decide)))
  have G3_1 := f21.same W3
  have G3_2 := f31.other W3 (Or.inr (slot_ne (Or.inl (hw _ (List.mem_of_getElem? (i := 28) rfl))) (Or.inl (hw _ (List.mem_of_getElem? (i := 31) rfl))) (by decide) (t := .int) (t' := (.array (.object "java/lang/Object"))) (by decide) (by decide)))
  have Ex3 := E1.wr W3
  refine own_ret0 X3 hx Bd.returns Bd.notSynchronized (hb hby own_d2_11) (by decide) (by decide) ?_
  try rw [e3]
  exact ⟨rfl, N3, K1.wr W3 (Or.inl (List.mem_of_getElem? (i := 0) rfl)), Ex3, G3_0, G3_1, G3_2⟩
theorem own_d8_0 : decode jdk_38_method_8_code 0 = .ok (.aload_n 0, 1) := by decide +kernel
theorem own_d8_1 : decode jdk_38_method_8_code 1 = .ok (.getfield 48, 3) := by decide +kernel
theorem own_d8_4 : decode jdk_38_method_8_code 4 = .ok (.ireturn, 1) := by decide +kernel
theorem own_c8_ef (m : MethodId) (x0 : Addr) : entryFrame m #[(.ref x0)] 1 = mkF m 0 #[.val (.ref x0)] [] := by first | (simp [entryFrame, mkF, argsToLocals, Value.category]; done) | rfl
set_option maxRecDepth 65536 in
set_option maxHeartbeats 40000000 in
theorem own_c8 (l : Launch) (Z : State) (a0 : Array Value) (hw : ∀ d ∈ tables_1, d.before a0 Z = true) (wsC : List Jvm.Cond) (a1 : Addr) (p2 : Int32) (h0 : Heap) (n0 : Nat) (Z0 : n0 ≤ h0.size) (F1 : Fld Z h0 a1 "java/util/ArrayList" "size" "I" (.int p2)) :
    own_Ctr l Z (⟨"java/util/ArrayList", "size", "()I"⟩ : MethodName) jdk_38_method_8_code 1 (some .int) wsC ({ frames := 0, cells := 0, slots := 0, locals := 0 } : Room) h0 #[(.ref a1)] (fun v h L => v = some (.int p2) ∧ Fr n0 L ∧ h = h0) := by
  refine own_ctr (plainFor_of_name own_pn2) ?_
  intro p e s m below meth c s₁ Bd hml0 hx hby hZ hown0 X0 e0
  have hml : c.maxLocals = 1 := hml0
  have hown : s.vm.findClass "java/util/ArrayList" = some m.cls := hown0
  have hnm := (name_of_methodNamed Bd.named Bd.method).1
  have N0 := Fr.nil n0
  refine own_cast (own_c8_ef m a1) ?_
  refine own_go (S' := (s₁.setTop (mkF m 1 #[.val (.ref a1)] [(.ref a1)]))) (fun t_ k_ => ?_) ?_
  · refine XS.aloadN X0.here hx rfl (hb hby own_d8_0) rfl rfl ?_
    show Steps p.tables e below (s₁.setTop (mkF m 1 #[.val (.ref a1)] [(.ref a1)])) _
    exact k_
  obtain ⟨T1, X1, e1, st1⟩ := getF X0 hx hZ hown (host := "") (Or.inl (hw _ (List.mem_of_getElem? (i := 49) rfl))) Via.refl e0 F1 (g := (mkF m 1 #[.val (.ref a1)] [(.ref a1)])) rfl rfl (hb hby own_d8_1)
  refine own_go st1 ?_
  show own_Rch p e below _ (T1.setTop (mkF m 4 #[.val (.ref a1)] [(.int p2)]))
  refine own_retI X1 hx Bd.returns Bd.notSynchronized (hb hby own_d8_4) (by decide) (by decide) ?_
  try rw [e1]
  exact ⟨rfl, N0, rfl⟩
theorem own_d1_0 : decode jdk_29_method_65_code 0 = .ok (.iload_n 0, 1) := by decide +kernel
theorem own_d1_1 : decode jdk_29_method_65_code 1 = .ok (.iload_n 1, 1) := by decide +kernel
theorem own_d1_2 : decode jdk_29_method_65_code 2 = .ok (.if_icmp .lt 7, 3) := by decide +kernel
theorem own_d1_5 : decode jdk_29_method_65_code 5 = .ok (.iload_n 0, 1) := by decide +kernel
theorem own_d1_6 : decode jdk_29_method_65_code 6 = .ok (.goto 4, 3) := by decide +kernel
theorem own_d1_9 : decode jdk_29_method_65_code 9 = .ok (.iload_n 1, 1) := by decide +kernel
theorem own_d1_10 : decode jdk_29_method_65_code 10 = .ok (.ireturn, 1) := by decide +kernel
theorem own_c1_ef (m : MethodId) (x0 : Int32) (x1 : Int32) : entryFrame m #[(.int x0), (.int x1)] 2 = mkF m 0 #[.val (.int x0), .val (.int x1)] [] := by first | (simp [entryFrame, mkF, argsToLocals, Value.category]; done) | rfl
set_option maxRecDepth 65536 in
set_option maxHeartbeats 40000000 in
theorem own_c1 (l : Launch) (Z : State) (a0 : Array Value) (hw : ∀ d ∈ tables_1, d.before a0 Z = true) (wsC : List Jvm.Cond) (p1 p2 r : Int32) (h0 : Heap) (n0 : Nat) (Z0 : n0 ≤ h0.size) (hr : (if p1 < p2 then p2 else p1) = r) :
    own_Ctr l Z (⟨"java/lang/Math", "max", "(II)I"⟩ : MethodName) jdk_29_method_65_code 2 (some .int) wsC ({ frames := 0, cells := 0, slots := 0, locals := 0 } : Room) h0 #[(.int p1), (.int p2)] (fun v h L => v = some (.int r) ∧ Fr n0 L ∧ h = h0) := by
  refine own_ctr (Jvm.Free.JP.mathPlain rfl (by decide +kernel)) ?_
  intro p e s m below meth c s₁ Bd hml0 hx hby hZ hown0 X0 e0
  have hml : c.maxLocals = 2 := hml0
  have hown : s.vm.findClass "java/lang/Math" = some m.cls := hown0
  have hnm := (name_of_methodNamed Bd.named Bd.method).1
  have N0 := Fr.nil n0
  refine own_cast (own_c1_ef m p1 p2) ?_
  refine own_go (S' := (s₁.setTop (mkF m 2 #[.val (.int p1), .val (.int p2)] [(.int p2), (.int p1)]))) (fun t_ k_ => ?_) ?_
  · refine XS.iloadN X0.here hx rfl (hb hby own_d1_0) rfl ?_
    show Steps p.tables e below (s₁.setTop (mkF m 1 #[.val (.int p1), .val (.int p2)] [(.int p1)])) _
    refine XS.iloadN X0.here hx rfl (hb hby own_d1_1) rfl ?_
    show Steps p.tables e below (s₁.setTop (mkF m 2 #[.val (.int p1), .val (.int p2)] [(.int p2), (.int p1)])) _
    exact k_
  by_cases h1 : p1 < p2
  · skip
    refine own_go (S' := (s₁.setTop (mkF m 10 #[.val (.int p1), .val (.int p2)] [(.int p2)]))) (fun t_ k_ => ?_) ?_
    · refine XS.icmpYes X0.here hx rfl (pc0 := 2) (pc' := 9) rfl (hb hby own_d1_2) rfl (tlt h1).1 (by decide) (by decide) ?_
      show Steps p.tables e below (s₁.setTop (mkF m 9 #[.val (.int p1), .val (.int p2)] [])) _
      refine XS.iloadN X0.here hx rfl (hb hby own_d1_9) rfl ?_
      show Steps p.tables e below (s₁.setTop (mkF m 10 #[.val (.int p1), .val (.int p2)] [(.int p2)])) _
      exact k_
    refine own_retI X0 hx Bd.returns Bd.notSynchronized (hb hby own_d1_10) (by decide) (by decide) ?_
    try rw [e0]
    exact ⟨by rw [← hr, if_pos h1], N0, rfl⟩
  · skip
    refine own_go (S' := (s₁.setTop (mkF m 10 #[.val (.int p1), .val (.int p2)] [(.int p1)]))) (fun t_ k_ => ?_) ?_
    · refine XS.icmpNo X0.here hx rfl (hb hby own_d1_2) rfl (flt h1).1 ?_
      show Steps p.tables e below (s₁.setTop (mkF m 5 #[.val (.int p1), .val (.int p2)] [])) _
      refine XS.iloadN X0.here hx rfl (hb hby own_d1_5) rfl ?_
      show Steps p.tables e below (s₁.setTop (mkF m 6 #[.val (.int p1), .val (.int p2)] [(.int p1)])) _
      refine XS.goto X0.here hx rfl (pc0 := 6) (pc' := 10) rfl (hb hby own_d1_6) (by decide) (by decide) ?_
      show Steps p.tables e below (s₁.setTop (mkF m 10 #[.val (.int p1), .val (.int p2)] [(.int p1)])) _
      exact k_
    refine own_retI X0 hx Bd.returns Bd.notSynchronized (hb hby own_d1_10) (by decide) (by decide) ?_
    try rw [e0]
    exact ⟨by rw [← hr, if_neg h1], N0, rfl⟩
theorem own_pd1 : parseMethodDescriptor "(II)I" = some ⟨[.int, .int], some .int⟩ := by decide +kernel
theorem own_d17_0 : decode jdk_38_method_6_code 0 = .ok (.aload_n 0, 1) := by decide +kernel
theorem own_d17_1 : decode jdk_38_method_6_code 1 = .ok (.getfield 9, 3) := by decide +kernel
theorem own_d17_4 : decode jdk_38_method_6_code 4 = .ok (.arraylength, 1) := by decide +kernel
theorem own_d17_5 : decode jdk_38_method_6_code 5 = .ok (.istore_n 2, 1) := by decide +kernel
theorem own_d17_6 : decode jdk_38_method_6_code 6 = .ok (.iload_n 2, 1) := by decide +kernel
theorem own_d17_7 : decode jdk_38_method_6_code 7 = .ok (.ifCond .gt 13, 3) := by decide +kernel
theorem own_d17_10 : decode jdk_38_method_6_code 10 = .ok (.aload_n 0, 1) := by decide +kernel
theorem own_d17_11 : decode jdk_38_method_6_code 11 = .ok (.getfield 9, 3) := by decide +kernel
theorem own_d17_14 : decode jdk_38_method_6_code 14 = .ok (.getstatic 39, 3) := by decide +kernel
theorem own_d17_17 : decode jdk_38_method_6_code 17 = .ok (.if_acmp .eq 28, 3) := by decide +kernel
theorem own_d17_45 : decode jdk_38_method_6_code 45 = .ok (.aload_n 0, 1) := by decide +kernel
theorem own_d17_46 : decode jdk_38_method_6_code 46 = .ok (.bipush 10, 2) := by decide +kernel
theorem own_d17_48 : decode jdk_38_method_6_code 48 = .ok (.iload_n 1, 1) := by decide +kernel
theorem own_d17_49 : decode jdk_38_method_6_code 49 = .ok (.invokestatic 79, 3) := by decide +kernel
theorem own_d17_52 : decode jdk_38_method_6_code 52 = .ok (.anewarray 7, 3) := by decide +kernel
theorem own_d17_55 : decode jdk_38_method_6_code 55 = .ok (.dup_x1, 1) := by decide +kernel
theorem own_d17_56 : decode jdk_38_method_6_code 56 = .ok (.putfield 9, 3) := by decide +kernel
theorem own_d17_59 : decode jdk_38_method_6_code 59 = .ok (.areturn, 1) := by decide +kernel
theorem own_c17_ef (m : MethodId) (x0 : Addr) (x1 : Int32) : entryFrame m #[(.ref x0), (.int x1)] 4 = mkF m 0 #[.val (.ref x0), .val (.int x1), .unset, .unset] [] := by first | (simp [entryFrame, mkF, argsToLocals, Value.category]; done) | rfl
set_option maxRecDepth 65536 in
set_option maxHeartbeats 40000000 in
theorem own_c17 (l : Launch) (Z : State) (a0 : Array Value) (hw : ∀ d ∈ tables_1, d.before a0 Z = true) (wsC : List Jvm.Cond) (a1 de : Addr) (kd : ClassId) (p2 mc : Int32) (hp : p2 = 1) (h0 : Heap) (n0 : Nat) (Z0 : n0 ≤ h0.size) (F1 : Fld Z h0 a1 "java/util/ArrayList" "size" "I" (.int 0)) (F2 : Fld Z h0 a1 "java/util/ArrayList" "elementData" "[Ljava/lang/Object;" (.ref de)) (F3 : Fld Z h0 a1 "java/util/AbstractList" "modCount" "I" (.int mc)) (E : Exa Z h0 a1 "java/util/ArrayList") (g : n0 ≤ a1) (S : Sta Z h0 "java/util/ArrayList" "DEFAULTCAPACITY_EMPTY_ELEMENTDATA" "[Ljava/lang/Object;" (.ref de)) (V : Arv Z h0 de kd (.object "java/lang/Object") 0 [] .null) :
    own_Ctr l Z (⟨"java/util/ArrayList", "grow", "(I)[Ljava/lang/Object;"⟩ : MethodName) jdk_38_method_6_code 4 (some (.array (.object "java/lang/Object"))) wsC ({ frames := 1, cells := 1, slots := 10, locals := 20 } : Room) h0 #[(.ref a1), (.int p2)] (fun v h L => ∃ b ke, v = some (.ref b) ∧ Fr n0 L ∧ Keep h0 h [a1] ∧ h0.size ≤ b ∧ n0 ≤ b ∧ Ovr Z ke "java/lang/Object" ∧ Arv Z h b ke (.object "java/lang/Object") 10 [.null, .null, .null, .null, .null, .null, .null, .null, .null, .null] .null ∧ Exa Z h a1 "java/util/ArrayList" ∧ Fld Z h a1 "java/util/ArrayList" "size" "I" (.int 0) ∧ Fld Z h a1 "java/util/ArrayList" "elementData" "[Ljava/lang/Object;" (.ref b) ∧ Fld Z h a1 "java/util/AbstractList" "modCount" "I" (.int mc)) := by
  refine own_ctr (plainFor_of_name own_pn2) ?_
  intro p e s m below meth c s₁ Bd hml0 hx hby hZ hown0 X0 e0
  have hml : c.maxLocals = 4 := hml0
  have hown : s.vm.findClass "java/util/ArrayList" = some m.cls := hown0
  have hnm := (name_of_methodNamed Bd.named Bd.method).1
  have N0 := Fr.nil n0
  refine own_cast (own_c17_ef m a1 p2) ?_
  refine own_go (S' := (s₁.setTop (mkF m 1 #[.val (.ref a1), .val (.int p2), .unset, .unset] [(.ref a1)]))) (fun t_ k_ => ?_) ?_
  · refine XS.aloadN X0.here hx rfl (hb hby own_d17_0) rfl rfl ?_
    show Steps p.tables e below (s₁.setTop (mkF m 1 #[.val (.ref a1), .val (.int p2), .unset, .unset] [(.ref a1)])) _
    exact k_
  obtain ⟨T1, X1, e1, st1⟩ := getF X0 hx hZ hown (host := "") (Or.inl (hw _ (List.mem_of_getElem? (i := 30) rfl))) Via.refl e0 F2 (g := (mkF m 1 #[.val (.ref a1), .val (.int p2), .unset, .unset] [(.ref a1)])) rfl rfl (hb hby own_d17_1)
  refine own_go st1 ?_
  show own_Rch p e below _ (T1.setTop (mkF m 4 #[.val (.ref a1), .val (.int p2), .unset, .unset] [(.ref de)]))
  refine own_go (own_len X1 hx hZ e1 V (g := (mkF m 4 #[.val (.ref a1), .val (.int p2), .unset, .unset] [(.ref de)])) rfl rfl (hb hby own_d17_4)) ?_
  show own_Rch p e below _ (T1.setTop (mkF m 5 #[.val (.ref a1), .val (.int p2), .unset, .unset] [(.int (0 : Int32))]))
  refine own_go (S' := (T1.setTop (mkF m 7 #[.val (.ref a1), .val (.int p2), .val (.int (0 : Int32)), .unset] [(.int (0 : Int32))]))) (fun t_ k_ => ?_) ?_
  · refine XS.istoreN X1.here hx rfl (hb hby own_d17_5) rfl (l' := #[.val (.ref a1), .val (.int p2), .val (.int (0 : Int32)), .unset]) rfl ?_
    show Steps p.tables e below (T1.setTop (mkF m 6 #[.val (.ref a1), .val (.int p2), .val (.int (0 : Int32)), .unset] [])) _
    refine XS.iloadN X1.here hx rfl (hb hby own_d17_6) rfl ?_
    show Steps p.tables e below (T1.setTop (mkF m 7 #[.val (.ref a1), .val (.int p2), .val (.int (0 : Int32)), .unset] [(.int (0 : Int32))])) _
    exact k_
  refine own_go (S' := (T1.setTop (mkF m 11 #[.val (.ref a1), .val (.int p2), .val (.int (0 : Int32)), .unset] [(.ref a1)]))) (fun t_ k_ => ?_) ?_
  · refine XS.ifNo X1.here hx rfl (hb hby own_d17_7) rfl ((if0 _ _).trans (flt (by decide)).2.2.1) ?_
    show Steps p.tables e below (T1.setTop (mkF m 10 #[.val (.ref a1), .val (.int p2), .val (.int (0 : Int32)), .unset] [])) _
    refine XS.aloadN X1.here hx rfl (hb hby own_d17_10) rfl rfl ?_
    show Steps p.tables e below (T1.setTop (mkF m 11 #[.val (.ref a1), .val (.int p2), .val (.int (0 : Int32)), .unset] [(.ref a1)])) _
    exact k_
  obtain ⟨T2, X2, e2, st2⟩ := getF X1 hx hZ hown (host := "") (Or.inl (hw _ (List.mem_of_getElem? (i := 30) rfl))) Via.refl e1 F2 (g := (mkF m 11 #[.val (.ref a1), .val (.int p2), .val (.int (0 : Int32)), .unset] [(.ref a1)])) rfl rfl (hb hby own_d17_11)
  refine own_go st2 ?_
  show own_Rch p e below _ (T2.setTop (mkF m 14 #[.val (.ref a1), .val (.int p2), .val (.int (0 : Int32)), .unset] [(.ref de)]))
  obtain ⟨T3, X3, e3, st3⟩ := getS2 X2 hx hZ hown (host := "") (Or.inl (hw _ (List.mem_of_getElem? (i := 29) rfl))) Via.refl e2 S (g := (mkF m 14 #[.val (.ref a1), .val (.int p2), .val (.int (0 : Int32)), .unset] [(.ref de)])) rfl (hb hby own_d17_14)
  refine own_go st3 ?_
  show own_Rch p e below _ (T3.setTop (mkF m 17 #[.val (.ref a1), .val (.int p2), .val (.int (0 : Int32)), .unset] [(.ref de), (.ref de)]))
  refine own_go (S' := (T3.setTop (mkF m 49 #[.val (.ref a1), .val (.int p2), .val (.int (0 : Int32)), .unset] [(.int p2), (.int (10 : Int32)), (.ref a1)]))) (fun t_ k_ => ?_) ?_
  · refine Jvm.RoadKit.acmp (g := (mkF m 17 #[.val (.ref a1), .val (.int p2), .val (.int (0 : Int32)), .unset] [(.ref de), (.ref de)])) X3 hx rfl rfl rfl (pc0 := 17) (pc' := 45) (same := true) rfl (hb hby own_d17_17) rfl (decide_eq_true rfl) (by decide) (by decide) ?_
    show Steps p.tables e below (T3.setTop (mkF m 45 #[.val (.ref a1), .val (.int p2), .val (.int (0 : Int32)), .unset] [])) _
    refine XS.aloadN X3.here hx rfl (hb hby own_d17_45) rfl rfl ?_
    show Steps p.tables e below (T3.setTop (mkF m 46 #[.val (.ref a1), .val (.int p2), .val (.int (0 : Int32)), .unset] [(.ref a1)])) _
    refine XS.bipush X3.here hx rfl (hb hby own_d17_46) ?_
    show Steps p.tables e below (T3.setTop (mkF m 48 #[.val (.ref a1), .val (.int p2), .val (.int (0 : Int32)), .unset] [(.int (10 : Int32)), (.ref a1)])) _
    refine XS.iloadN X3.here hx rfl (hb hby own_d17_48) rfl ?_
    show Steps p.tables e below (T3.setTop (mkF m 49 #[.val (.ref a1), .val (.int p2), .val (.int (0 : Int32)), .unset] [(.int p2), (.int (10 : Int32)), (.ref a1)])) _
    exact k_
  obtain ⟨_, T4, L4, X4, ⟨rfl, N4q, k4⟩, st4⟩ := own_callS X3 hx hZ (y := (⟨"java/lang/Math", "max", "(II)I"⟩ : MethodName)) hown (hw _ (List.mem_of_getElem? (i := 103) rfl)) (hw _ (List.mem_of_getElem? (i := 2) rfl)) (hw _ (List.mem_of_getElem? (i := 3) rfl)) (hw _ (List.mem_of_getElem? (i := 4) rfl)) (by decide) (own_c1 l Z a0 hw [] 10 p2 10 h0 n0 Z0 (by rw [hp]; decide)) e3 (W := 1) (by decide) (by decide) (g := (mkF m 49 #[.val (.ref a1), .val (.int p2), .val (.int (0 : Int32)), .unset] [(.int p2), (.int (10 : Int32)), (.ref a1)])) rfl (by rw [hml]; rfl) (argsL := [(.int (10 : Int32)), (.int p2)]) (rest := [(.ref a1)]) (lenOf own_pd1 rfl) rfl rfl rfl (hb hby own_d17_49) (by decide) (by decide)
  have N4 := Fr.app N0 N4q
  refine own_go st4 ?_
  show own_Rch p e below _ (T4.setTop (mkF m 52 #[.val (.ref a1), .val (.int p2), .val (.int (0 : Int32)), .unset] [(.int (10 : Int32)), (.ref a1)]))
  rw [← k4] at F1 F2 F3 E Z0
  obtain ⟨T5, h5, k5, X5, e5, E5, A5, O5, st5⟩ := newR X4 hx hZ hown (hw _ (List.mem_of_getElem? (i := 104) rfl)) (hw _ (List.mem_of_getElem? (i := 105) rfl)) rfl (g := (mkF m 52 #[.val (.ref a1), .val (.int p2), .val (.int (0 : Int32)), .unset] [(.int (10 : Int32)), (.ref a1)])) rfl (hb hby own_d17_52) rfl (by decide) (cap := 10) (by decide) (by decide) (by decide) (by decide)
  obtain ⟨b5, g5⟩ : ∃ z, z = T4.heap.size := ⟨_, rfl⟩
  rw [← g5] at A5 st5
  have gb5 : n0 ≤ b5 := Nat.le_trans Z0 (Nat.le_of_eq g5.symm)
  have V5 := Arv.new A5 (by decide)
  refine own_go st5 ?_
  show own_Rch p e below _ (T5.setTop (mkF m 55 #[.val (.ref a1), .val (.int p2), .val (.int (0 : Int32)), .unset] [(.ref b5), (.ref a1)]))
  refine own_go (S' := (T5.setTop (mkF m 56 #[.val (.ref a1), .val (.int p2), .val (.int (0 : Int32)), .unset] [(.ref b5), (.ref a1), (.ref b5)]))) (fun t_ k_ => ?_) ?_
  · refine XS.dupX1 X5.here hx rfl (hb hby own_d17_55) rfl rfl rfl ?_
    show Steps p.tables e below (T5.setTop (mkF m 56 #[.val (.ref a1), .val (.int p2), .val (.int (0 : Int32)), .unset] [(.ref b5), (.ref a1), (.ref b5)])) _
    exact k_
  have Vn : Arv Z h5 b5 k5 (.object "java/lang/Object") 10 [.null, .null, .null, .null, .null, .null, .null, .null, .null, .null] .null := V5.pad (pad_rep [] .null 10)
  have e1_ := F1.ext E5
  have e2_ := F2.ext E5
  have e3_ := F3.ext E5
  have nb : b5 ≠ a1 := Nat.ne_of_gt (Nat.lt_of_lt_of_le E.lt (Nat.le_of_eq g5.symm))
  obtain ⟨T6, h6, X6, e6, W6, st6⟩ := putF X5 hx hZ hown (host := "") (Or.inl (hw _ (List.mem_of_getElem? (i := 30) rfl))) Via.refl e5 e2_ (E.ext E5) (Or.inl (hw _ (List.mem_of_getElem? (i := 31) rfl))) (hw _ (List.mem_of_getElem? (i := 7) rfl)) (ty := (.array (.object "java/lang/Object"))) (by decide) rfl rfl (g := (mkF m 56 #[.val (.ref a1), .val (.int p2), .val (.int (0 : Int32)), .unset] [(.ref b5), (.ref a1), (.ref b5)])) rfl rfl (hb hby own_d17_56)
  refine own_go st6 ?_
  have N6 := Fr.snoc X6 N4 g
  show own_Rch p e below _ (T6.setTop (mkF m 59 #[.val (.ref a1), .val (.int p2), .val (.int (0 : Int32)), .unset] [(.ref b5)]))
  have G6_0 := e1_.other W6 (Or.inr (slot_ne (Or.inl (hw _ (List.mem_of_getElem? (i := 50) rfl))) (Or.inl (hw _ (List.mem_of_getElem? (i := 31) rfl))) (by decide) (t := .int) (t' := (.array (.object "java/lang/Object"))) (by decide) (by decide)))
  have G6_1 := e2_.same W6
  have G6_2 := e3_.other W6 (Or.inr (slot_ne (Or.inl (hw _ (List.mem_of_getElem? (i := 28) rfl))) (Or.inl (hw _ (List.mem_of_getElem? (i := 31) rfl))) (by decide) (t := .int) (t' := (.array (.object "java/lang/Object"))) (by decide) (by decide)))
  have Ex6 := (E.ext E5).wr W6
  refine own_retA X6 hx Bd.returns Bd.notSynchronized rfl rfl rfl (hb hby own_d17_59) (by decide) (by decide) ?_
  try rw [e6]
  exact ⟨b5, k5, rfl, N6, by rw [← k4]; exact ((Keep.refl _ [a1]).ext E5).wr W6 (Or.inl (List.mem_of_getElem? (i := 0) rfl)), by rw [← k4]; exact Nat.le_of_eq g5.symm, gb5, O5, Vn.other W6 nb, Ex6, G6_0, G6_1, G6_2⟩
theorem own_pd2 : parseMethodDescriptor "(I)[Ljava/lang/Object;" = some ⟨[.int], some (.array (.object "java/lang/Object"))⟩ := by decide +kernel
theorem own_d16_0 : decode jdk_38_method_7_code 0 = .ok (.aload_n 0, 1) := by decide +kernel
theorem own_d16_1 : decode jdk_38_method_7_code 1 = .ok (.aload_n 0, 1) := by decide +kernel
theorem own_d16_2 : decode jdk_38_method_7_code 2 = .ok (.getfield 48, 3) := by decide +kernel
theorem own_d16_5 : decode jdk_38_method_7_code 5 = .ok (.iconst 1, 1) := by decide +kernel
theorem own_d16_6 : decode jdk_38_method_7_code 6 = .ok (.iadd, 1) := by decide +kernel
theorem own_d16_7 : decode jdk_38_method_7_code 7 = .ok (.invokevirtual 69, 3) := by decide +kernel
theorem own_d16_10 : decode jdk_38_method_7_code 10 = .ok (.areturn, 1) := by decide +kernel
theorem own_c16_ef (m : MethodId) (x0 : Addr) : entryFrame m #[(.ref x0)] 1 = mkF m 0 #[.val (.ref x0)] [] := by first | (simp [entryFrame, mkF, argsToLocals, Value.category]; done) | rfl
set_option maxRecDepth 65536 in
set_option maxHeartbeats 40000000 in
theorem own_c16 (l : Launch) (Z : State) (a0 : Array Value) (hw : ∀ d ∈ tables_1, d.before a0 Z = true) (wsC : List Jvm.Cond) (a1 de : Addr) (kd : ClassId) (mc : Int32) (h0 : Heap) (n0 : Nat) (Z0 : n0 ≤ h0.size) (F1 : Fld Z h0 a1 "java/util/ArrayList" "size" "I" (.int 0)) (F2 : Fld Z h0 a1 "java/util/ArrayList" "elementData" "[Ljava/lang/Object;" (.ref de)) (F3 : Fld Z h0 a1 "java/util/AbstractList" "modCount" "I" (.int mc)) (E : Exa Z h0 a1 "java/util/ArrayList") (g : n0 ≤ a1) (S : Sta Z h0 "java/util/ArrayList" "DEFAULTCAPACITY_EMPTY_ELEMENTDATA" "[Ljava/lang/Object;" (.ref de)) (V : Arv Z h0 de kd (.object "java/lang/Object") 0 [] .null) :
    own_Ctr l Z (⟨"java/util/ArrayList", "grow", "()[Ljava/lang/Object;"⟩ : MethodName) jdk_38_method_7_code 1 (some (.array (.object "java/lang/Object"))) wsC ({ frames := 2, cells := 1, slots := 10, locals := 40 } : Room) h0 #[(.ref a1)] (fun v h L => ∃ b ke, v = some (.ref b) ∧ Fr n0 L ∧ Keep h0 h [a1] ∧ h0.size ≤ b ∧ n0 ≤ b ∧ Ovr Z ke "java/lang/Object" ∧ Arv Z h b ke (.object "java/lang/Object") 10 [.null, .null, .null, .null, .null, .null, .null, .null, .null, .null] .null ∧ Exa Z h a1 "java/util/ArrayList" ∧ Fld Z h a1 "java/util/ArrayList" "size" "I" (.int 0) ∧ Fld Z h a1 "java/util/ArrayList" "elementData" "[Ljava/lang/Object;" (.ref b) ∧ Fld Z h a1 "java/util/AbstractList" "modCount" "I" (.int mc)) := by
  refine own_ctr (plainFor_of_name own_pn2) ?_
  intro p e s m below meth c s₁ Bd hml0 hx hby hZ hown0 X0 e0
  have hml : c.maxLocals = 1 := hml0
  have hown : s.vm.findClass "java/util/ArrayList" = some m.cls := hown0
  have hnm := (name_of_methodNamed Bd.named Bd.method).1
  have N0 := Fr.nil n0
  refine own_cast (own_c16_ef m a1) ?_
  refine own_go (S' := (s₁.setTop (mkF m 2 #[.val (.ref a1)] [(.ref a1), (.ref a1)]))) (fun t_ k_ => ?_) ?_
  · refine XS.aloadN X0.here hx rfl (hb hby own_d16_0) rfl rfl ?_
    show Steps p.tables e below (s₁.setTop (mkF m 1 #[.val (.ref a1)] [(.ref a1)])) _
    refine XS.aloadN X0.here hx rfl (hb hby own_d16_1) rfl rfl ?_
    show Steps p.tables e below (s₁.setTop (mkF m 2 #[.val (.ref a1)] [(.ref a1), (.ref a1)])) _
    exact k_
  obtain ⟨T1, X1, e1, st1⟩ := getF X0 hx hZ hown (host := "") (Or.inl (hw _ (List.mem_of_getElem? (i := 49) rfl))) Via.refl e0 F1 (g := (mkF m 2 #[.val (.ref a1)] [(.ref a1), (.ref a1)])) rfl rfl (hb hby own_d16_2)
  refine own_go st1 ?_
  show own_Rch p e below _ (T1.setTop (mkF m 5 #[.val (.ref a1)] [(.int (0 : Int32)), (.ref a1)]))
  refine own_go (S' := (T1.setTop (mkF m 7 #[.val (.ref a1)] [(.int ((0 : Int32) + (1 : Int32))), (.ref a1)]))) (fun t_ k_ => ?_) ?_
  · refine XS.iconst X1.here hx rfl (hb hby own_d16_5) ?_
    show Steps p.tables e below (T1.setTop (mkF m 6 #[.val (.ref a1)] [(.int (1 : Int32)), (.int (0 : Int32)), (.ref a1)])) _
    refine XS.iadd X1.here hx rfl (hb hby own_d16_6) rfl ?_
    show Steps p.tables e below (T1.setTop (mkF m 7 #[.val (.ref a1)] [(.int ((0 : Int32) + (1 : Int32))), (.ref a1)])) _
    exact k_
  obtain ⟨_, T2, L2, X2, ⟨bx, ke, rfl, N2q, K2, z2, g2, O2, V2, E2, f12, f22, f32⟩, st2⟩ := own_callP X1 hx hZ (y := (⟨"java/util/ArrayList", "grow", "(I)[Ljava/lang/Object;"⟩ : MethodName)) hown (hw _ (List.mem_of_getElem? (i := 98) rfl)) (hw _ (List.mem_of_getElem? (i := 99) rfl)) (hw _ (List.mem_of_getElem? (i := 101) rfl)) (hw _ (List.mem_of_getElem? (i := 100) rfl)) (hw _ (List.mem_of_getElem? (i := 8) rfl)) (hw _ (List.mem_of_getElem? (i := 102) rfl)) (by decide) (own_c17 l Z a0 hw [] a1 de kd ((0 : Int32) + (1 : Int32)) mc (by decide) h0 n0 Z0 F1 F2 F3 E g S V) e1 E (W := 0) (by decide) (by decide) (g := (mkF m 7 #[.val (.ref a1)] [(.int ((0 : Int32) + (1 : Int32))), (.ref a1)])) rfl (by rw [hml]; rfl) (argsL := [(.int ((0 : Int32) + (1 : Int32)))]) (rest := []) (lenOf own_pd2 rfl) rfl rfl rfl (hb hby own_d16_7) (by decide) (by decide)
  have N2 := Fr.app N0 N2q
  refine own_go st2 ?_
  show own_Rch p e below _ (T2.setTop (mkF m 10 #[.val (.ref a1)] [(.ref bx)]))
  refine own_retA X2 hx Bd.returns Bd.notSynchronized rfl rfl rfl (hb hby own_d16_10) (by decide) (by decide) ?_
  exact ⟨bx, ke, rfl, N2, K2, z2, g2, O2, V2, E2, f12, f22, f32⟩
theorem own_pd3 : parseMethodDescriptor "()[Ljava/lang/Object;" = some ⟨[], some (.array (.object "java/lang/Object"))⟩ := by decide +kernel
theorem own_d15_0 : decode jdk_38_method_24_code 0 = .ok (.iload_n 3, 1) := by decide +kernel
theorem own_d15_1 : decode jdk_38_method_24_code 1 = .ok (.aload_n 2, 1) := by decide +kernel
theorem own_d15_2 : decode jdk_38_method_24_code 2 = .ok (.arraylength, 1) := by decide +kernel
theorem own_d15_3 : decode jdk_38_method_24_code 3 = .ok (.if_icmp .ne 8, 3) := by decide +kernel
theorem own_d15_6 : decode jdk_38_method_24_code 6 = .ok (.aload_n 0, 1) := by decide +kernel
theorem own_d15_7 : decode jdk_38_method_24_code 7 = .ok (.invokevirtual 129, 3) := by decide +kernel
theorem own_d15_10 : decode jdk_38_method_24_code 10 = .ok (.astore_n 2, 1) := by decide +kernel
theorem own_d15_11 : decode jdk_38_method_24_code 11 = .ok (.aload_n 2, 1) := by decide +kernel
theorem own_d15_12 : decode jdk_38_method_24_code 12 = .ok (.iload_n 3, 1) := by decide +kernel
theorem own_d15_13 : decode jdk_38_method_24_code 13 = .ok (.aload_n 1, 1) := by decide +kernel
theorem own_d15_14 : decode jdk_38_method_24_code 14 = .ok (.aastore, 1) := by decide +kernel
theorem own_d15_15 : decode jdk_38_method_24_code 15 = .ok (.aload_n 0, 1) := by decide +kernel
theorem own_d15_16 : decode jdk_38_method_24_code 16 = .ok (.iload_n 3, 1) := by decide +kernel
theorem own_d15_17 : decode jdk_38_method_24_code 17 = .ok (.iconst 1, 1) := by decide +kernel
theorem own_d15_18 : decode jdk_38_method_24_code 18 = .ok (.iadd, 1) := by decide +kernel
theorem own_d15_19 : decode jdk_38_method_24_code 19 = .ok (.putfield 48, 3) := by decide +kernel
theorem own_d15_22 : decode jdk_38_method_24_code 22 = .ok (.return_, 1) := by decide +kernel
theorem own_c15A_ef (m : MethodId) (x0 : Addr) (x1 : Addr) (x2 : Addr) (x3 : Int32) : entryFrame m #[(.ref x0), (.ref x1), (.ref x2), (.int x3)] 4 = mkF m 0 #[.val (.ref x0), .val (.ref x1), .val (.ref x2), .val (.int x3)] [] := by first | (simp [entryFrame, mkF, argsToLocals, Value.category]; done) | rfl
set_option maxRecDepth 65536 in
set_option maxHeartbeats 40000000 in
theorem own_c15A (l : Launch) (Z : State) (a0 : Array Value) (hw : ∀ d ∈ tables_1, d.before a0 Z = true) (wsC : List Jvm.Cond) (a1 a2 de : Addr) (kd : ClassId) (mc : Int32) (C2 : String) (h0 : Heap) (n0 : Nat) (Z0 : n0 ≤ h0.size) (F1 : Fld Z h0 a1 "java/util/ArrayList" "size" "I" (.int 0)) (F2 : Fld Z h0 a1 "java/util/ArrayList" "elementData" "[Ljava/lang/Object;" (.ref de)) (F3 : Fld Z h0 a1 "java/util/AbstractList" "modCount" "I" (.int mc)) (E : Exa Z h0 a1 "java/util/ArrayList") (g : n0 ≤ a1) (S : Sta Z h0 "java/util/ArrayList" "DEFAULTCAPACITY_EMPTY_ELEMENTDATA" "[Ljava/lang/Object;" (.ref de)) (V : Arv Z h0 de kd (.object "java/lang/Object") 0 [] .null) (E2 : Exa Z h0 a2 C2) (I2 : (Jvm.Cond.castable C2 "java/lang/Object").before a0 Z = true) :
    own_Ctr l Z (⟨"java/util/ArrayList", "add", "(Ljava/lang/Object;[Ljava/lang/Object;I)V"⟩ : MethodName) jdk_38_method_24_code 4 none wsC ({ frames := 3, cells := 1, slots := 10, locals := 60 } : Room) h0 #[(.ref a1), (.ref a2), (.ref de), (.int (0 : Int32))] (fun v h L => ∃ b ke, v = none ∧ Fr n0 L ∧ Keep h0 h [a1] ∧ h0.size ≤ b ∧ n0 ≤ b ∧ Ovr Z ke "java/lang/Object" ∧ Arv Z h b ke (.object "java/lang/Object") 10 [(.ref a2), .null, .null, .null, .null, .null, .null, .null, .null, .null] .null ∧ Exa Z h a1 "java/util/ArrayList" ∧ (∃ mc, Fld Z h a1 "java/util/ArrayList" "size" "I" (.int 1) ∧ Fld Z h a1 "java/util/ArrayList" "elementData" "[Ljava/lang/Object;" (.ref b) ∧ Fld Z h a1 "java/util/AbstractList" "modCount" "I" (.int mc))) := by
  refine own_ctr (plainFor_of_name own_pn2) ?_
  intro p e s m below meth c s₁ Bd hml0 hx hby hZ hown0 X0 e0
  have hml : c.maxLocals = 4 := hml0
  have hown : s.vm.findClass "java/util/ArrayList" = some m.cls := hown0
  have hnm := (name_of_methodNamed Bd.named Bd.method).1
  have N0 := Fr.nil n0
  refine own_cast (own_c15A_ef m a1 a2 de (0 : Int32)) ?_
  refine own_go (S' := (s₁.setTop (mkF m 2 #[.val (.ref a1), .val (.ref a2), .val (.ref de), .val (.int (0 : Int32))] [(.ref de), (.int (0 : Int32))]))) (fun t_ k_ => ?_) ?_
  · refine XS.iloadN X0.here hx rfl (hb hby own_d15_0) rfl ?_
    show Steps p.tables e below (s₁.setTop (mkF m 1 #[.val (.ref a1), .val (.ref a2), .val (.ref de), .val (.int (0 : Int32))] [(.int (0 : Int32))])) _
    refine XS.aloadN X0.here hx rfl (hb hby own_d15_1) rfl rfl ?_
    show Steps p.tables e below (s₁.setTop (mkF m 2 #[.val (.ref a1), .val (.ref a2), .val (.ref de), .val (.int (0 : Int32))] [(.ref de), (.int (0 : Int32))])) _
    exact k_
  refine own_go (own_len X0 hx hZ e0 V (g := (mkF m 2 #[.val (.ref a1), .val (.ref a2), .val (.ref de), .val (.int (0 : Int32))] [(.ref de), (.int (0 : Int32))])) rfl rfl (hb hby own_d15_2)) ?_
  show own_Rch p e below _ (s₁.setTop (mkF m 3 #[.val (.ref a1), .val (.ref a2), .val (.ref de), .val (.int (0 : Int32))] [(.int (0 : Int32)), (.int (0 : Int32))]))
  refine own_go (S' := (s₁.setTop (mkF m 7 #[.val (.ref a1), .val (.ref a2), .val (.ref de), .val (.int (0 : Int32))] [(.ref a1)]))) (fun t_ k_ => ?_) ?_
  · refine XS.icmpNo X0.here hx rfl (hb hby own_d15_3) rfl (teq rfl).2 ?_
    show Steps p.tables e below (s₁.setTop (mkF m 6 #[.val (.ref a1), .val (.ref a2), .val (.ref de), .val (.int (0 : Int32))] [])) _
    refine XS.aloadN X0.here hx rfl (hb hby own_d15_6) rfl rfl ?_
    show Steps p.tables e below (s₁.setTop (mkF m 7 #[.val (.ref a1), .val (.ref a2), .val (.ref de), .val (.int (0 : Int32))] [(.ref a1)])) _
    exact k_
  obtain ⟨_, T1, L1, X1, ⟨bx, ke, rfl, N1q, K1, z1, g1, O1, V1, E1, f11, f21, f31⟩, st1⟩ := own_callP X0 hx hZ (y := (⟨"java/util/ArrayList", "grow", "()[Ljava/lang/Object;"⟩ : MethodName)) hown (hw _ (List.mem_of_getElem? (i := 93) rfl)) (hw _ (List.mem_of_getElem? (i := 94) rfl)) (hw _ (List.mem_of_getElem? (i := 96) rfl)) (hw _ (List.mem_of_getElem? (i := 95) rfl)) (hw _ (List.mem_of_getElem? (i := 8) rfl)) (hw _ (List.mem_of_getElem? (i := 97) rfl)) (by decide) (own_c16 l Z a0 hw [] a1 de kd mc h0 n0 Z0 F1 F2 F3 E g S V) e0 E (W := 0) (by decide) (by decide) (g := (mkF m 7 #[.val (.ref a1), .val (.ref a2), .val (.ref de), .val (.int (0 : Int32))] [(.ref a1)])) rfl (by rw [hml]; rfl) (argsL := []) (rest := []) (lenOf own_pd3 rfl) rfl rfl rfl (hb hby own_d15_7) (by decide) (by decide)
  have N1 := Fr.app N0 N1q
  refine own_go st1 ?_
  show own_Rch p e below _ (T1.setTop (mkF m 10 #[.val (.ref a1), .val (.ref a2), .val (.ref de), .val (.int (0 : Int32))] [(.ref bx)]))
  refine own_go (S' := (T1.setTop (mkF m 14 #[.val (.ref a1), .val (.ref a2), .val (.ref bx), .val (.int (0 : Int32))] [(.ref a2), (.int (0 : Int32)), (.ref bx)]))) (fun t_ k_ => ?_) ?_
  · refine XS.astoreN X1.here hx rfl (hb hby own_d15_10) rfl rfl (l' := #[.val (.ref a1), .val (.ref a2), .val (.ref bx), .val (.int (0 : Int32))]) rfl ?_
    show Steps p.tables e below (T1.setTop (mkF m 11 #[.val (.ref a1), .val (.ref a2), .val (.ref bx), .val (.int (0 : Int32))] [])) _
    refine XS.aloadN X1.here hx rfl (hb hby own_d15_11) rfl rfl ?_
    show Steps p.tables e below (T1.setTop (mkF m 12 #[.val (.ref a1), .val (.ref a2), .val (.ref bx), .val (.int (0 : Int32))] [(.ref bx)])) _
    refine XS.iloadN X1.here hx rfl (hb hby own_d15_12) rfl ?_
    show Steps p.tables e below (T1.setTop (mkF m 13 #[.val (.ref a1), .val (.ref a2), .val (.ref bx), .val (.int (0 : Int32))] [(.int (0 : Int32)), (.ref bx)])) _
    refine XS.aloadN X1.here hx rfl (hb hby own_d15_13) rfl rfl ?_
    show Steps p.tables e below (T1.setTop (mkF m 14 #[.val (.ref a1), .val (.ref a2), .val (.ref bx), .val (.int (0 : Int32))] [(.ref a2), (.int (0 : Int32)), (.ref bx)])) _
    exact k_
  obtain ⟨T2, h2, X2, e2, W2, V2, st2⟩ := own_stR X1 hx hZ rfl V1 O1 (Ins.of_exa (E2.keep K1) I2) (by decide) (i := 0) (by decide) (by decide) (g := (mkF m 14 #[.val (.ref a1), .val (.ref a2), .val (.ref bx), .val (.int (0 : Int32))] [(.ref a2), (.int (0 : Int32)), (.ref bx)])) rfl rfl (hb hby own_d15_14)
  refine own_go st2 ?_
  have N2 := Fr.snoc X2 N1 g1
  show own_Rch p e below _ (T2.setTop (mkF m 15 #[.val (.ref a1), .val (.ref a2), .val (.ref bx), .val (.int (0 : Int32))] []))
  refine own_go (S' := (T2.setTop (mkF m 19 #[.val (.ref a1), .val (.ref a2), .val (.ref bx), .val (.int (0 : Int32))] [(.int ((0 : Int32) + (1 : Int32))), (.ref a1)]))) (fun t_ k_ => ?_) ?_
  · refine XS.aloadN X2.here hx rfl (hb hby own_d15_15) rfl rfl ?_
    show Steps p.tables e below (T2.setTop (mkF m 16 #[.val (.ref a1), .val (.ref a2), .val (.ref bx), .val (.int (0 : Int32))] [(.ref a1)])) _
    refine XS.iloadN X2.here hx rfl (hb hby own_d15_16) rfl ?_
    show Steps p.tables e below (T2.setTop (mkF m 17 #[.val (.ref a1), .val (.ref a2), .val (.ref bx), .val (.int (0 : Int32))] [(.int (0 : Int32)), (.ref a1)])) _
    refine XS.iconst X2.here hx rfl (hb hby own_d15_17) ?_
    show Steps p.tables e below (T2.setTop (mkF m 18 #[.val (.ref a1), .val (.ref a2), .val (.ref bx), .val (.int (0 : Int32))] [(.int (1 : Int32)), (.int (0 : Int32)), (.ref a1)])) _
    refine XS.iadd X2.here hx rfl (hb hby own_d15_18) rfl ?_
    show Steps p.tables e below (T2.setTop (mkF m 19 #[.val (.ref a1), .val (.ref a2), .val (.ref bx), .val (.int (0 : Int32))] [(.int ((0 : Int32) + (1 : Int32))), (.ref a1)])) _
    exact k_
  have nb : a1 ≠ bx := Nat.ne_of_lt (Nat.lt_of_lt_of_le E.lt z1)
  have e1_ := f11.other W2 (Or.inl nb)
  have e2_ := f21.other W2 (Or.inl nb)
  have e3_ := f31.other W2 (Or.inl nb)
  obtain ⟨T3, h3, X3, e3, W3, st3⟩ := putF X2 hx hZ hown (host := "") (Or.inl (hw _ (List.mem_of_getElem? (i := 49) rfl))) Via.refl e2 e1_ (E1.wr W2) (Or.inl (hw _ (List.mem_of_getElem? (i := 50) rfl))) (hw _ (List.mem_of_getElem? (i := 7) rfl)) (ty := .int) (by decide) rfl rfl (g := (mkF m 19 #[.val (.ref a1), .val (.ref a2), .val (.ref bx), .val (.int (0 : Int32))] [(.int ((0 : Int32) + (1 : Int32))), (.ref a1)])) rfl rfl (hb hby own_d15_19)
  refine own_go st3 ?_
  have N3 := Fr.snoc X3 N2 g
  show own_Rch p e below _ (T3.setTop (mkF m 22 #[.val (.ref a1), .val (.ref a2), .val (.ref bx), .val (.int (0 : Int32))] []))
  have G3_0 := e1_.same W3
  have G3_1 := e2_.other W3 (Or.inr (slot_ne (Or.inl (hw _ (List.mem_of_getElem? (i := 31) rfl))) (Or.inl (hw _ (List.mem_of_getElem? (i := 50) rfl))) (by decide) (t := (.array (.object "java/lang/Object"))) (t' := .int) (by decide) (by decide)))
  have G3_2 := e3_.other W3 (Or.inr (slot_ne (Or.inl (hw _ (List.mem_of_getElem? (i := 28) rfl))) (Or.inl (hw _ (List.mem_of_getElem? (i := 50) rfl))) (by decide) (t := .int) (t' := .int) (by decide) (by decide)))
  have Ex3 := (E1.wr W2).wr W3
  refine own_ret0 X3 hx Bd.returns Bd.notSynchronized (hb hby own_d15_22) (by decide) (by decide) ?_
  try rw [e3]
  exact ⟨bx, ke, rfl, N3, (K1.wr W2 (Or.inr z1)).wr W3 (Or.inl (List.mem_of_getElem? (i := 0) rfl)), z1, g1, O1, V2.other W3 (Ne.symm nb), Ex3, mc, G3_0, G3_1, G3_2⟩
theorem own_c15B_ef (m : MethodId) (x0 : Addr) (x1 : Addr) (x2 : Addr) (x3 : Int32) : entryFrame m #[(.ref x0), (.ref x1), (.ref x2), (.int x3)] 4 = mkF m 0 #[.val (.ref x0), .val (.ref x1), .val (.ref x2), .val (.int x3)] [] := by first | (simp [entryFrame, mkF, argsToLocals, Value.category]; done) | rfl
set_option maxRecDepth 65536 in
set_option maxHeartbeats 40000000 in
theorem own_c15B (l : Launch) (Z : State) (a0 : Array Value) (hw : ∀ d ∈ tables_1, d.before a0 Z = true) (wsC : List Jvm.Cond) (a1 a2 ed : Addr) (ke : ClassId) (sz mc : Int32) (vs : List Value) (C2 : String) (h0 : Heap) (n0 : Nat) (Z0 : n0 ≤ h0.size) (F1 : Fld Z h0 a1 "java/util/ArrayList" "size" "I" (.int sz)) (F2 : Fld Z h0 a1 "java/util/ArrayList" "elementData" "[Ljava/lang/Object;" (.ref ed)) (F3 : Fld Z h0 a1 "java/util/AbstractList" "modCount" "I" (.int mc)) (E : Exa Z h0 a1 "java/util/ArrayList") (g : n0 ≤ a1) (V : Arv Z h0 ed ke (.object "java/lang/Object") 10 vs .null) (Hl : vs.length = 10) (Hz : ¬ sz < 0 ∧ sz < 10) (O : Ovr Z ke "java/lang/Object") (ne : a1 ≠ ed) (ge : n0 ≤ ed) (E2 : Exa Z h0 a2 C2) (I2 : (Jvm.Cond.castable C2 "java/lang/Object").before a0 Z = true) :
    own_Ctr l Z (⟨"java/util/ArrayList", "add", "(Ljava/lang/Object;[Ljava/lang/Object;I)V"⟩ : MethodName) jdk_38_method_24_code 4 none wsC ({ frames := 0, cells := 0, slots := 0, locals := 0 } : Room) h0 #[(.ref a1), (.ref a2), (.ref ed), (.int sz)] (fun v h L => v = none ∧ Fr n0 L ∧ Keep h0 h [a1, ed] ∧ Arv Z h ed ke (.object "java/lang/Object") 10 (vs.set sz.toNatClampNeg (.ref a2)) .null ∧ Exa Z h a1 "java/util/ArrayList" ∧ (∃ mc, Fld Z h a1 "java/util/ArrayList" "size" "I" (.int (sz + 1)) ∧ Fld Z h a1 "java/util/ArrayList" "elementData" "[Ljava/lang/Object;" (.ref ed) ∧ Fld Z h a1 "java/util/AbstractList" "modCount" "I" (.int mc))) := by
  refine own_ctr (plainFor_of_name own_pn2) ?_
  intro p e s m below meth c s₁ Bd hml0 hx hby hZ hown0 X0 e0
  have hml : c.maxLocals = 4 := hml0
  have hown : s.vm.findClass "java/util/ArrayList" = some m.cls := hown0
  have hnm := (name_of_methodNamed Bd.named Bd.method).1
  have N0 := Fr.nil n0
  refine own_cast (own_c15B_ef m a1 a2 ed sz) ?_
  refine own_go (S' := (s₁.setTop (mkF m 2 #[.val (.ref a1), .val (.ref a2), .val (.ref ed), .val (.int sz)] [(.ref ed), (.int sz)]))) (fun t_ k_ => ?_) ?_
  · refine XS.iloadN X0.here hx rfl (hb hby own_d15_0) rfl ?_
    show Steps p.tables e below (s₁.setTop (mkF m 1 #[.val (.ref a1), .val (.ref a2), .val (.ref ed), .val (.int sz)] [(.int sz)])) _
    refine XS.aloadN X0.here hx rfl (hb hby own_d15_1) rfl rfl ?_
    show Steps p.tables e below (s₁.setTop (mkF m 2 #[.val (.ref a1), .val (.ref a2), .val (.ref ed), .val (.int sz)] [(.ref ed), (.int sz)])) _
    exact k_
  refine own_go (own_len X0 hx hZ e0 V (g := (mkF m 2 #[.val (.ref a1), .val (.ref a2), .val (.ref ed), .val (.int sz)] [(.ref ed), (.int sz)])) rfl rfl (hb hby own_d15_2)) ?_
  show own_Rch p e below _ (s₁.setTop (mkF m 3 #[.val (.ref a1), .val (.ref a2), .val (.ref ed), .val (.int sz)] [(.int (10 : Int32)), (.int sz)]))
  refine own_go (S' := (s₁.setTop (mkF m 14 #[.val (.ref a1), .val (.ref a2), .val (.ref ed), .val (.int sz)] [(.ref a2), (.int sz), (.ref ed)]))) (fun t_ k_ => ?_) ?_
  · refine XS.icmpYes X0.here hx rfl (pc0 := 3) (pc' := 11) rfl (hb hby own_d15_3) rfl (feq (fun q => by rw [q] at Hz; exact absurd Hz.2 (by decide))).2 (by decide) (by decide) ?_
    show Steps p.tables e below (s₁.setTop (mkF m 11 #[.val (.ref a1), .val (.ref a2), .val (.ref ed), .val (.int sz)] [])) _
    refine XS.aloadN X0.here hx rfl (hb hby own_d15_11) rfl rfl ?_
    show Steps p.tables e below (s₁.setTop (mkF m 12 #[.val (.ref a1), .val (.ref a2), .val (.ref ed), .val (.int sz)] [(.ref ed)])) _
    refine XS.iloadN X0.here hx rfl (hb hby own_d15_12) rfl ?_
    show Steps p.tables e below (s₁.setTop (mkF m 13 #[.val (.ref a1), .val (.ref a2), .val (.ref ed), .val (.int sz)] [(.int sz), (.ref ed)])) _
    refine XS.aloadN X0.here hx rfl (hb hby own_d15_13) rfl rfl ?_
    show Steps p.tables e below (s₁.setTop (mkF m 14 #[.val (.ref a1), .val (.ref a2), .val (.ref ed), .val (.int sz)] [(.ref a2), (.int sz), (.ref ed)])) _
    exact k_
  obtain ⟨T1, h1, X1, e1, W1, V1, st1⟩ := own_stR X0 hx hZ e0 V O (Ins.of_exa E2 I2) Hz (i := sz.toNatClampNeg) rfl (by rw [Hl]; exact own_lt10 Hz) (g := (mkF m 14 #[.val (.ref a1), .val (.ref a2), .val (.ref ed), .val (.int sz)] [(.ref a2), (.int sz), (.ref ed)])) rfl rfl (hb hby own_d15_14)
  refine own_go st1 ?_
  have N1 := Fr.snoc X1 N0 ge
  show own_Rch p e below _ (T1.setTop (mkF m 15 #[.val (.ref a1), .val (.ref a2), .val (.ref ed), .val (.int sz)] []))
  refine own_go (S' := (T1.setTop (mkF m 19 #[.val (.ref a1), .val (.ref a2), .val (.ref ed), .val (.int sz)] [(.int (sz + (1 : Int32))), (.ref a1)]))) (fun t_ k_ => ?_) ?_
  · refine XS.aloadN X1.here hx rfl (hb hby own_d15_15) rfl rfl ?_
    show Steps p.tables e below (T1.setTop (mkF m 16 #[.val (.ref a1), .val (.ref a2), .val (.ref ed), .val (.int sz)] [(.ref a1)])) _
    refine XS.iloadN X1.here hx rfl (hb hby own_d15_16) rfl ?_
    show Steps p.tables e below (T1.setTop (mkF m 17 #[.val (.ref a1), .val (.ref a2), .val (.ref ed), .val (.int sz)] [(.int sz), (.ref a1)])) _
    refine XS.iconst X1.here hx rfl (hb hby own_d15_17) ?_
    show Steps p.tables e below (T1.setTop (mkF m 18 #[.val (.ref a1), .val (.ref a2), .val (.ref ed), .val (.int sz)] [(.int (1 : Int32)), (.int sz), (.ref a1)])) _
    refine XS.iadd X1.here hx rfl (hb hby own_d15_18) rfl ?_
    show Steps p.tables e below (T1.setTop (mkF m 19 #[.val (.ref a1), .val (.ref a2), .val (.ref ed), .val (.int sz)] [(.int (sz + (1 : Int32))), (.ref a1)])) _
    exact k_
  have e1_ := F1.other W1 (Or.inl ne)
  have e2_ := F2.other W1 (Or.inl ne)
  have e3_ := F3.other W1 (Or.inl ne)
  obtain ⟨T2, h2, X2, e2, W2, st2⟩ := putF X1 hx hZ hown (host := "") (Or.inl (hw _ (List.mem_of_getElem? (i := 49) rfl))) Via.refl e1 e1_ (E.wr W1) (Or.inl (hw _ (List.mem_of_getElem? (i := 50) rfl))) (hw _ (List.mem_of_getElem? (i := 7) rfl)) (ty := .int) (by decide) rfl rfl (g := (mkF m 19 #[.val (.ref a1), .val (.ref a2), .val (.ref ed), .val (.int sz)] [(.int (sz + (1 : Int32))), (.ref a1)])) rfl rfl (hb hby own_d15_19)
  refine own_go st2 ?_
  have N2 := Fr.snoc X2 N1 g
  show own_Rch p e below _ (T2.setTop (mkF m 22 #[.val (.ref a1), .val (.ref a2), .val (.ref ed), .val (.int sz)] []))
  have G2_0 := e1_.same W2
  have G2_1 := e2_.other W2 (Or.inr (slot_ne (Or.inl (hw _ (List.mem_of_getElem? (i := 31) rfl))) (Or.inl (hw _ (List.mem_of_getElem? (i := 50) rfl))) (by decide) (t := (.array (.object "java/lang/Object"))) (t' := .int) (by decide) (by decide)))
  have G2_2 := e3_.other W2 (Or.inr (slot_ne (Or.inl (hw _ (List.mem_of_getElem? (i := 28) rfl))) (Or.inl (hw _ (List.mem_of_getElem? (i := 50) rfl))) (by decide) (t := .int) (t' := .int) (by decide) (by decide)))
  have Ex2 := (E.wr W1).wr W2
  refine own_ret0 X2 hx Bd.returns Bd.notSynchronized (hb hby own_d15_22) (by decide) (by decide) ?_
  try rw [e2]
  exact ⟨rfl, N2, ((Keep.refl h0 [a1, ed]).wr W1 (Or.inl (List.mem_of_getElem? (i := 1) rfl))).wr W2 (Or.inl (List.mem_of_getElem? (i := 0) rfl)), V1.other W2 (Ne.symm ne), Ex2, mc, G2_0, G2_1, G2_2⟩
theorem own_pd4 : parseMethodDescriptor "(Ljava/lang/Object;[Ljava/lang/Object;I)V" = some ⟨[(.object "java/lang/Object"), (.array (.object "java/lang/Object")), .int], none⟩ := by decide +kernel
theorem own_d14_0 : decode jdk_38_method_25_code 0 = .ok (.aload_n 0, 1) := by decide +kernel
theorem own_d14_1 : decode jdk_38_method_25_code 1 = .ok (.dup, 1) := by decide +kernel
theorem own_d14_2 : decode jdk_38_method_25_code 2 = .ok (.getfield 63, 3) := by decide +kernel
theorem own_d14_5 : decode jdk_38_method_25_code 5 = .ok (.iconst 1, 1) := by decide +kernel
theorem own_d14_6 : decode jdk_38_method_25_code 6 = .ok (.iadd, 1) := by decide +kernel
theorem own_d14_7 : decode jdk_38_method_25_code 7 = .ok (.putfield 63, 3) := by decide +kernel
theorem own_d14_10 : decode jdk_38_method_25_code 10 = .ok (.aload_n 0, 1) := by decide +kernel
theorem own_d14_11 : decode jdk_38_method_25_code 11 = .ok (.aload_n 1, 1) := by decide +kernel
theorem own_d14_12 : decode jdk_38_method_25_code 12 = .ok (.aload_n 0, 1) := by decide +kernel
theorem own_d14_13 : decode jdk_38_method_25_code 13 = .ok (.getfield 9, 3) := by decide +kernel
theorem own_d14_16 : decode jdk_38_method_25_code 16 = .ok (.aload_n 0, 1) := by decide +kernel
theorem own_d14_17 : decode jdk_38_method_25_code 17 = .ok (.getfield 48, 3) := by decide +kernel
theorem own_d14_20 : decode jdk_38_method_25_code 20 = .ok (.invokevirtual 131, 3) := by decide +kernel
theorem own_d14_23 : decode jdk_38_method_25_code 23 = .ok (.iconst 1, 1) := by decide +kernel
theorem own_d14_24 : decode jdk_38_method_25_code 24 = .ok (.ireturn, 1) := by decide +kernel
theorem own_c14A_ef (m : MethodId) (x0 : Addr) (x1 : Addr) : entryFrame m #[(.ref x0), (.ref x1)] 2 = mkF m 0 #[.val (.ref x0), .val (.ref x1)] [] := by first | (simp [entryFrame, mkF, argsToLocals, Value.category]; done) | rfl
set_option maxRecDepth 65536 in
set_option maxHeartbeats 40000000 in
theorem own_c14A (l : Launch) (Z : State) (a0 : Array Value) (hw : ∀ d ∈ tables_1, d.before a0 Z = true) (wsC : List Jvm.Cond) (a1 a2 de : Addr) (kd : ClassId) (mc : Int32) (C2 : String) (h0 : Heap) (n0 : Nat) (Z0 : n0 ≤ h0.size) (F1 : Fld Z h0 a1 "java/util/ArrayList" "size" "I" (.int 0)) (F2 : Fld Z h0 a1 "java/util/ArrayList" "elementData" "[Ljava/lang/Object;" (.ref de)) (F3 : Fld Z h0 a1 "java/util/AbstractList" "modCount" "I" (.int mc)) (E : Exa Z h0 a1 "java/util/ArrayList") (g : n0 ≤ a1) (S : Sta Z h0 "java/util/ArrayList" "DEFAULTCAPACITY_EMPTY_ELEMENTDATA" "[Ljava/lang/Object;" (.ref de)) (V : Arv Z h0 de kd (.object "java/lang/Object") 0 [] .null) (nd : de ≠ a1) (E2 : Exa Z h0 a2 C2) (I2 : (Jvm.Cond.castable C2 "java/lang/Object").before a0 Z = true) :
    own_Ctr l Z (⟨"java/util/ArrayList", "add", "(Ljava/lang/Object;)Z"⟩ : MethodName) jdk_38_method_25_code 2 (some .boolean) wsC ({ frames := 4, cells := 1, slots := 10, locals := 80 } : Room) h0 #[(.ref a1), (.ref a2)] (fun v h L => ∃ b ke, v = some (.int 1) ∧ Fr n0 L ∧ Keep h0 h [a1] ∧ h0.size ≤ b ∧ n0 ≤ b ∧ Ovr Z ke "java/lang/Object" ∧ Arv Z h b ke (.object "java/lang/Object") 10 [(.ref a2), .null, .null, .null, .null, .null, .null, .null, .null, .null] .null ∧ Exa Z h a1 "java/util/ArrayList" ∧ (∃ mc, Fld Z h a1 "java/util/ArrayList" "size" "I" (.int 1) ∧ Fld Z h a1 "java/util/ArrayList" "elementData" "[Ljava/lang/Object;" (.ref b) ∧ Fld Z h a1 "java/util/AbstractList" "modCount" "I" (.int mc))) := by
  refine own_ctr (plainFor_of_name own_pn2) ?_
  intro p e s m below meth c s₁ Bd hml0 hx hby hZ hown0 X0 e0
  have hml : c.maxLocals = 2 := hml0
  have hown : s.vm.findClass "java/util/ArrayList" = some m.cls := hown0
  have hnm := (name_of_methodNamed Bd.named Bd.method).1
  have N0 := Fr.nil n0
  refine own_cast (own_c14A_ef m a1 a2) ?_
  refine own_go (S' := (s₁.setTop (mkF m 2 #[.val (.ref a1), .val (.ref a2)] [(.ref a1), (.ref a1)]))) (fun t_ k_ => ?_) ?_
  · refine XS.aloadN X0.here hx rfl (hb hby own_d14_0) rfl rfl ?_
    show Steps p.tables e below (s₁.setTop (mkF m 1 #[.val (.ref a1), .val (.ref a2)] [(.ref a1)])) _
    refine XS.dup X0.here hx rfl (hb hby own_d14_1) rfl rfl ?_
    show Steps p.tables e below (s₁.setTop (mkF m 2 #[.val (.ref a1), .val (.ref a2)] [(.ref a1), (.ref a1)])) _
    exact k_
  obtain ⟨T1, X1, e1, st1⟩ := getF X0 hx hZ hown (host := "") (Or.inl (hw _ (List.mem_of_getElem? (i := 86) rfl))) (Via.of (hw _ (List.mem_of_getElem? (i := 87) rfl))) e0 F3 (g := (mkF m 2 #[.val (.ref a1), .val (.ref a2)] [(.ref a1), (.ref a1)])) rfl rfl (hb hby own_d14_2)
  refine own_go st1 ?_
  show own_Rch p e below _ (T1.setTop (mkF m 5 #[.val (.ref a1), .val (.ref a2)] [(.int mc), (.ref a1)]))
  refine own_go (S' := (T1.setTop (mkF m 7 #[.val (.ref a1), .val (.ref a2)] [(.int (mc + (1 : Int32))), (.ref a1)]))) (fun t_ k_ => ?_) ?_
  · refine XS.iconst X1.here hx rfl (hb hby own_d14_5) ?_
    show Steps p.tables e below (T1.setTop (mkF m 6 #[.val (.ref a1), .val (.ref a2)] [(.int (1 : Int32)), (.int mc), (.ref a1)])) _
    refine XS.iadd X1.here hx rfl (hb hby own_d14_6) rfl ?_
    show Steps p.tables e below (T1.setTop (mkF m 7 #[.val (.ref a1), .val (.ref a2)] [(.int (mc + (1 : Int32))), (.ref a1)])) _
    exact k_
  obtain ⟨T2, h2, X2, e2, W2, st2⟩ := putF X1 hx hZ hown (host := "") (Or.inl (hw _ (List.mem_of_getElem? (i := 86) rfl))) (Via.of (hw _ (List.mem_of_getElem? (i := 87) rfl))) e1 F3 E (Or.inl (hw _ (List.mem_of_getElem? (i := 28) rfl))) (hw _ (List.mem_of_getElem? (i := 7) rfl)) (ty := .int) (by decide) rfl rfl (g := (mkF m 7 #[.val (.ref a1), .val (.ref a2)] [(.int (mc + (1 : Int32))), (.ref a1)])) rfl rfl (hb hby own_d14_7)
  refine own_go st2 ?_
  have N2 := Fr.snoc X2 N0 g
  show own_Rch p e below _ (T2.setTop (mkF m 10 #[.val (.ref a1), .val (.ref a2)] []))
  have G2_0 := F1.other W2 (Or.inr (slot_ne (Or.inl (hw _ (List.mem_of_getElem? (i := 50) rfl))) (Or.inl (hw _ (List.mem_of_getElem? (i := 28) rfl))) (by decide) (t := .int) (t' := .int) (by decide) (by decide)))
  have G2_1 := F2.other W2 (Or.inr (slot_ne (Or.inl (hw _ (List.mem_of_getElem? (i := 31) rfl))) (Or.inl (hw _ (List.mem_of_getElem? (i := 28) rfl))) (by decide) (t := (.array (.object "java/lang/Object"))) (t' := .int) (by decide) (by decide)))
  have G2_2 := F3.same W2
  have Ex2 := E.wr W2
  refine own_go (S' := (T2.setTop (mkF m 13 #[.val (.ref a1), .val (.ref a2)] [(.ref a1), (.ref a2), (.ref a1)]))) (fun t_ k_ => ?_) ?_
  · refine XS.aloadN X2.here hx rfl (hb hby own_d14_10) rfl rfl ?_
    show Steps p.tables e below (T2.setTop (mkF m 11 #[.val (.ref a1), .val (.ref a2)] [(.ref a1)])) _
    refine XS.aloadN X2.here hx rfl (hb hby own_d14_11) rfl rfl ?_
    show Steps p.tables e below (T2.setTop (mkF m 12 #[.val (.ref a1), .val (.ref a2)] [(.ref a2), (.ref a1)])) _
    refine XS.aloadN X2.here hx rfl (hb hby own_d14_12) rfl rfl ?_
    show Steps p.tables e below (T2.setTop (mkF m 13 #[.val (.ref a1), .val (.ref a2)] [(.ref a1), (.ref a2), (.ref a1)])) _
    exact k_
  obtain ⟨T3, X3, e3, st3⟩ := getF X2 hx hZ hown (host := "") (Or.inl (hw _ (List.mem_of_getElem? (i := 30) rfl))) Via.refl e2 G2_1 (g := (mkF m 13 #[.val (.ref a1), .val (.ref a2)] [(.ref a1), (.ref a2), (.ref a1)])) rfl rfl (hb hby own_d14_13)
  refine own_go st3 ?_
  show own_Rch p e below _ (T3.setTop (mkF m 16 #[.val (.ref a1), .val (.ref a2)] [(.ref de), (.ref a2), (.ref a1)]))
  refine own_go (S' := (T3.setTop (mkF m 17 #[.val (.ref a1), .val (.ref a2)] [(.ref a1), (.ref de), (.ref a2), (.ref a1)]))) (fun t_ k_ => ?_) ?_
  · refine XS.aloadN X3.here hx rfl (hb hby own_d14_16) rfl rfl ?_
    show Steps p.tables e below (T3.setTop (mkF m 17 #[.val (.ref a1), .val (.ref a2)] [(.ref a1), (.ref de), (.ref a2), (.ref a1)])) _
    exact k_
  obtain ⟨T4, X4, e4, st4⟩ := getF X3 hx hZ hown (host := "") (Or.inl (hw _ (List.mem_of_getElem? (i := 49) rfl))) Via.refl e3 G2_0 (g := (mkF m 17 #[.val (.ref a1), .val (.ref a2)] [(.ref a1), (.ref de), (.ref a2), (.ref a1)])) rfl rfl (hb hby own_d14_17)
  refine own_go st4 ?_
  show own_Rch p e below _ (T4.setTop (mkF m 20 #[.val (.ref a1), .val (.ref a2)] [(.int (0 : Int32)), (.ref de), (.ref a2), (.ref a1)]))
  have Z1 : n0 ≤ h2.size := Nat.le_trans Z0 (Keep.of_wr W2).1
  obtain ⟨_, T5, L5, X5, ⟨bx, ke, rfl, N5q, K5, z5, g5, O5, V5, E5, M5⟩, st5⟩ := own_callP X4 hx hZ (y := (⟨"java/util/ArrayList", "add", "(Ljava/lang/Object;[Ljava/lang/Object;I)V"⟩ : MethodName)) hown (hw _ (List.mem_of_getElem? (i := 88) rfl)) (hw _ (List.mem_of_getElem? (i := 89) rfl)) (hw _ (List.mem_of_getElem? (i := 91) rfl)) (hw _ (List.mem_of_getElem? (i := 90) rfl)) (hw _ (List.mem_of_getElem? (i := 8) rfl)) (hw _ (List.mem_of_getElem? (i := 92) rfl)) (by decide) (own_c15A l Z a0 hw [] a1 a2 de kd (mc + (1 : Int32)) C2 h2 n0 Z1 G2_0 G2_1 G2_2 Ex2 g (S.wr W2) (V.other W2 nd) (E2.wr W2) I2) e4 Ex2 (W := 0) (by decide) (by decide) (g := (mkF m 20 #[.val (.ref a1), .val (.ref a2)] [(.int (0 : Int32)), (.ref de), (.ref a2), (.ref a1)])) rfl (by rw [hml]; rfl) (argsL := [(.ref a2), (.ref de), (.int (0 : Int32))]) (rest := []) (lenOf own_pd4 rfl) rfl rfl rfl (hb hby own_d14_20) (by decide) (by decide)
  have N5 := Fr.app N2 N5q
  refine own_go st5 ?_
  show own_Rch p e below _ (T5.setTop (mkF m 23 #[.val (.ref a1), .val (.ref a2)] []))
  refine own_go (S' := (T5.setTop (mkF m 24 #[.val (.ref a1), .val (.ref a2)] [(.int (1 : Int32))]))) (fun t_ k_ => ?_) ?_
  · refine XS.iconst X5.here hx rfl (hb hby own_d14_23) ?_
    show Steps p.tables e below (T5.setTop (mkF m 24 #[.val (.ref a1), .val (.ref a2)] [(.int (1 : Int32))])) _
    exact k_
  have sz_ : h0.size ≤ h2.size := (Keep.of_wr W2).1
  refine own_retN X5 hx (t := .boolean) Bd.returns Bd.notSynchronized (by simp) (hb hby own_d14_24) rfl (by decide) (by decide) ?_
  exact ⟨bx, ke, rfl, N5, ((Keep.refl h0 [a1]).wr W2 (Or.inl (List.mem_of_getElem? (i := 0) rfl))).trans K5 (fun x hx => Or.inl hx), Nat.le_trans sz_ z5, g5, O5, V5, E5, M5⟩
theorem own_c14B_ef (m : MethodId) (x0 : Addr) (x1 : Addr) : entryFrame m #[(.ref x0), (.ref x1)] 2 = mkF m 0 #[.val (.ref x0), .val (.ref x1)] [] := by first | (simp [entryFrame, mkF, argsToLocals, Value.category]; done) | rfl
set_option maxRecDepth 65536 in
set_option maxHeartbeats 40000000 in
theorem own_c14B (l : Launch) (Z : State) (a0 : Array Value) (hw : ∀ d ∈ tables_1, d.before a0 Z = true) (wsC : List Jvm.Cond) (a1 a2 ed : Addr) (ke : ClassId) (sz mc : Int32) (vs : List Value) (C2 : String) (h0 : Heap) (n0 : Nat) (Z0 : n0 ≤ h0.size) (F1 : Fld Z h0 a1 "java/util/ArrayList" "size" "I" (.int sz)) (F2 : Fld Z h0 a1 "java/util/ArrayList" "elementData" "[Ljava/lang/Object;" (.ref ed)) (F3 : Fld Z h0 a1 "java/util/AbstractList" "modCount" "I" (.int mc)) (E : Exa Z h0 a1 "java/util/ArrayList") (g : n0 ≤ a1) (V : Arv Z h0 ed ke (.object "java/lang/Object") 10 vs .null) (Hl : vs.length = 10) (Hz : ¬ sz < 0 ∧ sz < 10) (O : Ovr Z ke "java/lang/Object") (ne : a1 ≠ ed) (ge : n0 ≤ ed) (E2 : Exa Z h0 a2 C2) (I2 : (Jvm.Cond.castable C2 "java/lang/Object").before a0 Z = true) :
    own_Ctr l Z (⟨"java/util/ArrayList", "add", "(Ljava/lang/Object;)Z"⟩ : MethodName) jdk_38_method_25_code 2 (some .boolean) wsC ({ frames := 1, cells := 0, slots := 0, locals := 20 } : Room) h0 #[(.ref a1), (.ref a2)] (fun v h L => v = some (.int 1) ∧ Fr n0 L ∧ Keep h0 h [a1, ed] ∧ Arv Z h ed ke (.object "java/lang/Object") 10 (vs.set sz.toNatClampNeg (.ref a2)) .null ∧ Exa Z h a1 "java/util/ArrayList" ∧ (∃ mc, Fld Z h a1 "java/util/ArrayList" "size" "I" (.int (sz + 1)) ∧ Fld Z h a1 "java/util/ArrayList" "elementData" "[Ljava/lang/Object;" (.ref ed) ∧ Fld Z h a1 "java/util/AbstractList" "modCount" "I" (.int mc))) := by
  refine own_ctr (plainFor_of_name own_pn2) ?_
  intro p e s m below meth c s₁ Bd hml0 hx hby hZ hown0 X0 e0
  have hml : c.maxLocals = 2 := hml0
  have hown : s.vm.findClass "java/util/ArrayList" = some m.cls := hown0
  have hnm := (name_of_methodNamed Bd.named Bd.method).1
  have N0 := Fr.nil n0
  refine own_cast (own_c14B_ef m a1 a2) ?_
  refine own_go (S' := (s₁.setTop (mkF m 2 #[.val (.ref a1), .val (.ref a2)] [(.ref a1), (.ref a1)]))) (fun t_ k_ => ?_) ?_
  · refine XS.aloadN X0.here hx rfl (hb hby own_d14_0) rfl rfl ?_
    show Steps p.tables e below (s₁.setTop (mkF m 1 #[.val (.ref a1), .val (.ref a2)] [(.ref a1)])) _
    refine XS.dup X0.here hx rfl (hb hby own_d14_1) rfl rfl ?_
    show Steps p.tables e below (s₁.setTop (mkF m 2 #[.val (.ref a1), .val (.ref a2)] [(.ref a1), (.ref a1)])) _
    exact k_
  obtain ⟨T1, X1, e1, st1⟩ := getF X0 hx hZ hown (host := "") (Or.inl (hw _ (List.mem_of_getElem? (i := 86) rfl))) (Via.of (hw _ (List.mem_of_getElem? (i := 87) rfl))) e0 F3 (g := (mkF m 2 #[.val (.ref a1), .val (.ref a2)] [(.ref a1), (.ref a1)])) rfl rfl (hb hby own_d14_2)
  refine own_go st1 ?_
  show own_Rch p e below _ (T1.setTop (mkF m 5 #[.val (.ref a1), .val (.ref a2)] [(.int mc), (.ref a1)]))
  refine own_go (S' := (T1.setTop (mkF m 7 #[.val (.ref a1), .val (.ref a2)] [(.int (mc + (1 : Int32))), (.ref a1)]))) (fun t_ k_ => ?_) ?_
  · refine XS.iconst X1.here hx rfl (hb hby own_d14_5) ?_
    show Steps p.tables e below (T1.setTop (mkF m 6 #[.val (.ref a1), .val (.ref a2)] [(.int (1 : Int32)), (.int mc), (.ref a1)])) _
    refine XS.iadd X1.here hx rfl (hb hby own_d14_6) rfl ?_
    show Steps p.tables e below (T1.setTop (mkF m 7 #[.val (.ref a1), .val (.ref a2)] [(.int (mc + (1 : Int32))), (.ref a1)])) _
    exact k_
  obtain ⟨T2, h2, X2, e2, W2, st2⟩ := putF X1 hx hZ hown (host := "") (Or.inl (hw _ (List.mem_of_getElem? (i := 86) rfl))) (Via.of (hw _ (List.mem_of_getElem? (i := 87) rfl))) e1 F3 E (Or.inl (hw _ (List.mem_of_getElem? (i := 28) rfl))) (hw _ (List.mem_of_getElem? (i := 7) rfl)) (ty := .int) (by decide) rfl rfl (g := (mkF m 7 #[.val (.ref a1), .val (.ref a2)] [(.int (mc + (1 : Int32))), (.ref a1)])) rfl rfl (hb hby own_d14_7)
  refine own_go st2 ?_
  have N2 := Fr.snoc X2 N0 g
  show own_Rch p e below _ (T2.setTop (mkF m 10 #[.val (.ref a1), .val (.ref a2)] []))
  have G2_0 := F1.other W2 (Or.inr (slot_ne (Or.inl (hw _ (List.mem_of_getElem? (i := 50) rfl))) (Or.inl (hw _ (List.mem_of_getElem? (i := 28) rfl))) (by decide) (t := .int) (t' := .int) (by decide) (by decide)))
  have G2_1 := F2.other W2 (Or.inr (slot_ne (Or.inl (hw _ (List.mem_of_getElem? (i := 31) rfl))) (Or.inl (hw _ (List.mem_of_getElem? (i := 28) rfl))) (by decide) (t := (.array (.object "java/lang/Object"))) (t' := .int) (by decide) (by decide)))
  have G2_2 := F3.same W2
  have Ex2 := E.wr W2
  refine own_go (S' := (T2.setTop (mkF m 13 #[.val (.ref a1), .val (.ref a2)] [(.ref a1), (.ref a2), (.ref a1)]))) (fun t_ k_ => ?_) ?_
  · refine XS.aloadN X2.here hx rfl (hb hby own_d14_10) rfl rfl ?_
    show Steps p.tables e below (T2.setTop (mkF m 11 #[.val (.ref a1), .val (.ref a2)] [(.ref a1)])) _
    refine XS.aloadN X2.here hx rfl (hb hby own_d14_11) rfl rfl ?_
    show Steps p.tables e below (T2.setTop (mkF m 12 #[.val (.ref a1), .val (.ref a2)] [(.ref a2), (.ref a1)])) _
    refine XS.aloadN X2.here hx rfl (hb hby own_d14_12) rfl rfl ?_
    show Steps p.tables e below (T2.setTop (mkF m 13 #[.val (.ref a1), .val (.ref a2)] [(.ref a1), (.ref a2), (.ref a1)])) _
    exact k_
  obtain ⟨T3, X3, e3, st3⟩ := getF X2 hx hZ hown (host := "") (Or.inl (hw _ (List.mem_of_getElem? (i := 30) rfl))) Via.refl e2 G2_1 (g := (mkF m 13 #[.val (.ref a1), .val (.ref a2)] [(.ref a1), (.ref a2), (.ref a1)])) rfl rfl (hb hby own_d14_13)
  refine own_go st3 ?_
  show own_Rch p e below _ (T3.setTop (mkF m 16 #[.val (.ref a1), .val (.ref a2)] [(.ref ed), (.ref a2), (.ref a1)]))
  refine own_go (S' := (T3.setTop (mkF m 17 #[.val (.ref a1), .val (.ref a2)] [(.ref a1), (.ref ed), (.ref a2), (.ref a1)]))) (fun t_ k_ => ?_) ?_
  · refine XS.aloadN X3.here hx rfl (hb hby own_d14_16) rfl rfl ?_
    show Steps p.tables e below (T3.setTop (mkF m 17 #[.val (.ref a1), .val (.ref a2)] [(.ref a1), (.ref ed), (.ref a2), (.ref a1)])) _
    exact k_
  obtain ⟨T4, X4, e4, st4⟩ := getF X3 hx hZ hown (host := "") (Or.inl (hw _ (List.mem_of_getElem? (i := 49) rfl))) Via.refl e3 G2_0 (g := (mkF m 17 #[.val (.ref a1), .val (.ref a2)] [(.ref a1), (.ref ed), (.ref a2), (.ref a1)])) rfl rfl (hb hby own_d14_17)
  refine own_go st4 ?_
  show own_Rch p e below _ (T4.setTop (mkF m 20 #[.val (.ref a1), .val (.ref a2)] [(.int sz), (.ref ed), (.ref a2), (.ref a1)]))
  have Z1 : n0 ≤ h2.size := Nat.le_trans Z0 (Keep.of_wr W2).1
  obtain ⟨_, T5, L5, X5, ⟨rfl, N5q, K5, V5, E5, M5⟩, st5⟩ := own_callP X4 hx hZ (y := (⟨"java/util/ArrayList", "add", "(Ljava/lang/Object;[Ljava/lang/Object;I)V"⟩ : MethodName)) hown (hw _ (List.mem_of_getElem? (i := 88) rfl)) (hw _ (List.mem_of_getElem? (i := 89) rfl)) (hw _ (List.mem_of_getElem? (i := 91) rfl)) (hw _ (List.mem_of_getElem? (i := 90) rfl)) (hw _ (List.mem_of_getElem? (i := 8) rfl)) (hw _ (List.mem_of_getElem? (i := 92) rfl)) (by decide) (own_c15B l Z a0 hw [] a1 a2 ed ke sz (mc + (1 : Int32)) vs C2 h2 n0 Z1 G2_0 G2_1 G2_2 Ex2 g (V.other W2 (Ne.symm ne)) Hl Hz O ne ge (E2.wr W2) I2) e4 Ex2 (W := 0) (by decide) (by decide) (g := (mkF m 20 #[.val (.ref a1), .val (.ref a2)] [(.int sz), (.ref ed), (.ref a2), (.ref a1)])) rfl (by rw [hml]; rfl) (argsL := [(.ref a2), (.ref ed), (.int sz)]) (rest := []) (lenOf own_pd4 rfl) rfl rfl rfl (hb hby own_d14_20) (by decide) (by decide)
  have N5 := Fr.app N2 N5q
  refine own_go st5 ?_
  show own_Rch p e below _ (T5.setTop (mkF m 23 #[.val (.ref a1), .val (.ref a2)] []))
  refine own_go (S' := (T5.setTop (mkF m 24 #[.val (.ref a1), .val (.ref a2)] [(.int (1 : Int32))]))) (fun t_ k_ => ?_) ?_
  · refine XS.iconst X5.here hx rfl (hb hby own_d14_23) ?_
    show Steps p.tables e below (T5.setTop (mkF m 24 #[.val (.ref a1), .val (.ref a2)] [(.int (1 : Int32))])) _
    exact k_
  refine own_retN X5 hx (t := .boolean) Bd.returns Bd.notSynchronized (by simp) (hb hby own_d14_24) rfl (by decide) (by decide) ?_
  exact ⟨rfl, N5, ((Keep.refl h0 [a1, ed]).wr W2 (Or.inl (List.mem_of_getElem? (i := 0) rfl))).trans K5 (fun x hx => Or.inl hx), V5, E5, M5⟩
theorem own_d20_0 : decode jdk_41_method_11_code 0 = .ok (.iload_n 0, 1) := by decide +kernel
theorem own_d20_1 : decode jdk_41_method_11_code 1 = .ok (.ifCond .lt 8, 3) := by decide +kernel
theorem own_d20_4 : decode jdk_41_method_11_code 4 = .ok (.iload_n 0, 1) := by decide +kernel
theorem own_d20_5 : decode jdk_41_method_11_code 5 = .ok (.iload_n 1, 1) := by decide +kernel
theorem own_d20_6 : decode jdk_41_method_11_code 6 = .ok (.if_icmp .lt 10, 3) := by decide +kernel
theorem own_d20_16 : decode jdk_41_method_11_code 16 = .ok (.iload_n 0, 1) := by decide +kernel
theorem own_d20_17 : decode jdk_41_method_11_code 17 = .ok (.ireturn, 1) := by decide +kernel
theorem own_c20_ef (m : MethodId) (x0 : Int32) (x1 : Int32) : entryFrame m #[(.int x0), (.int x1), .null] 3 = mkF m 0 #[.val (.int x0), .val (.int x1), .val .null] [] := by first | (simp [entryFrame, mkF, argsToLocals, Value.category]; done) | rfl
theorem own_pn3 : plainName "jdk/internal/util/Preconditions" = true := by first | (simp [plainName, overriddenIn]; done) | decide +kernel
set_option maxRecDepth 65536 in
set_option maxHeartbeats 40000000 in
theorem own_c20 (l : Launch) (Z : State) (a0 : Array Value) (hw : ∀ d ∈ tables_1, d.before a0 Z = true) (wsC : List Jvm.Cond) (p1 p2 : Int32) (h0 : Heap) (n0 : Nat) (Z0 : n0 ≤ h0.size) (hi : ¬ p1 < (0 : Int32)) (hj : p1 < p2) :
    own_Ctr l Z (⟨"jdk/internal/util/Preconditions", "checkIndex", "(IILjava/util/function/BiFunction;)I"⟩ : MethodName) jdk_41_method_11_code 3 (some .int) wsC ({ frames := 0, cells := 0, slots := 0, locals := 0 } : Room) h0 #[(.int p1), (.int p2), .null] (fun v h L => v = some (.int p1) ∧ Fr n0 L ∧ h = h0) := by
  refine own_ctr (plainFor_of_name own_pn3) ?_
  intro p e s m below meth c s₁ Bd hml0 hx hby hZ hown0 X0 e0
  have hml : c.maxLocals = 3 := hml0
  have hown : s.vm.findClass "jdk/internal/util/Preconditions" = some m.cls := hown0
  have hnm := (name_of_methodNamed Bd.named Bd.method).1
  have N0 := Fr.nil n0
  refine own_cast (own_c20_ef m p1 p2) ?_
  refine own_go (S' := (s₁.setTop (mkF m 1 #[.val (.int p1), .val (.int p2), .val .null] [(.int p1)]))) (fun t_ k_ => ?_) ?_
  · refine XS.iloadN X0.here hx rfl (hb hby own_d20_0) rfl ?_
    show Steps p.tables e below (s₁.setTop (mkF m 1 #[.val (.int p1), .val (.int p2), .val .null] [(.int p1)])) _
    exact k_
  refine own_go (S' := (s₁.setTop (mkF m 6 #[.val (.int p1), .val (.int p2), .val .null] [(.int p2), (.int p1)]))) (fun t_ k_ => ?_) ?_
  · refine XS.ifNo X0.here hx rfl (hb hby own_d20_1) rfl ((if0 _ _).trans (flt hi).1) ?_
    show Steps p.tables e below (s₁.setTop (mkF m 4 #[.val (.int p1), .val (.int p2), .val .null] [])) _
    refine XS.iloadN X0.here hx rfl (hb hby own_d20_4) rfl ?_
    show Steps p.tables e below (s₁.setTop (mkF m 5 #[.val (.int p1), .val (.int p2), .val .null] [(.int p1)])) _
    refine XS.iloadN X0.here hx rfl (hb hby own_d20_5) rfl ?_
    show Steps p.tables e below (s₁.setTop (mkF m 6 #[.val (.int p1), .val (.int p2), .val .null] [(.int p2), (.int p1)])) _
    exact k_
  refine own_go (S' := (s₁.setTop (mkF m 17 #[.val (.int p1), .val (.int p2), .val .null] [(.int p1)]))) (fun t_ k_ => ?_) ?_
  · refine XS.icmpYes X0.here hx rfl (pc0 := 6) (pc' := 16) rfl (hb hby own_d20_6) rfl (tlt hj).1 (by decide) (by decide) ?_
    show Steps p.tables e below (s₁.setTop (mkF m 16 #[.val (.int p1), .val (.int p2), .val .null] [])) _
    refine XS.iloadN X0.here hx rfl (hb hby own_d20_16) rfl ?_
    show Steps p.tables e below (s₁.setTop (mkF m 17 #[.val (.int p1), .val (.int p2), .val .null] [(.int p1)])) _
    exact k_
  refine own_retI X0 hx Bd.returns Bd.notSynchronized (hb hby own_d20_17) (by decide) (by decide) ?_
  try rw [e0]
  exact ⟨rfl, N0, rfl⟩
theorem own_pd5 : parseMethodDescriptor "(IILjava/util/function/BiFunction;)I" = some ⟨[.int, .int, (.object "java/util/function/BiFunction")], some .int⟩ := by decide +kernel
theorem own_d19_0 : decode jdk_31_method_17_code 0 = .ok (.iload_n 0, 1) := by decide +kernel
theorem own_d19_1 : decode jdk_31_method_17_code 1 = .ok (.iload_n 1, 1) := by decide +kernel
theorem own_d19_2 : decode jdk_31_method_17_code 2 = .ok (.aconst_null, 1) := by decide +kernel
theorem own_d19_3 : decode jdk_31_method_17_code 3 = .ok (.invokestatic 105, 3) := by decide +kernel
theorem own_d19_6 : decode jdk_31_method_17_code 6 = .ok (.ireturn, 1) := by decide +kernel
theorem own_c19_ef (m : MethodId) (x0 : Int32) (x1 : Int32) : entryFrame m #[(.int x0), (.int x1)] 2 = mkF m 0 #[.val (.int x0), .val (.int x1)] [] := by first | (simp [entryFrame, mkF, argsToLocals, Value.category]; done) | rfl
theorem own_pn4 : plainName "java/util/Objects" = true := by first | (simp [plainName, overriddenIn]; done) | decide +kernel
set_option maxRecDepth 65536 in
set_option maxHeartbeats 40000000 in
theorem own_c19 (l : Launch) (Z : State) (a0 : Array Value) (hw : ∀ d ∈ tables_1, d.before a0 Z = true) (wsC : List Jvm.Cond) (p1 p2 : Int32) (h0 : Heap) (n0 : Nat) (Z0 : n0 ≤ h0.size) (hi : ¬ p1 < (0 : Int32)) (hj : p1 < p2) :
    own_Ctr l Z (⟨"java/util/Objects", "checkIndex", "(II)I"⟩ : MethodName) jdk_31_method_17_code 2 (some .int) wsC ({ frames := 1, cells := 0, slots := 0, locals := 16 } : Room) h0 #[(.int p1), (.int p2)] (fun v h L => v = some (.int p1) ∧ Fr n0 L ∧ h = h0) := by
  refine own_ctr (plainFor_of_name own_pn4) ?_
  intro p e s m below meth c s₁ Bd hml0 hx hby hZ hown0 X0 e0
  have hml : c.maxLocals = 2 := hml0
  have hown : s.vm.findClass "java/util/Objects" = some m.cls := hown0
  have hnm := (name_of_methodNamed Bd.named Bd.method).1
  have N0 := Fr.nil n0
  refine own_cast (own_c19_ef m p1 p2) ?_
  refine own_go (S' := (s₁.setTop (mkF m 3 #[.val (.int p1), .val (.int p2)] [.null, (.int p2), (.int p1)]))) (fun t_ k_ => ?_) ?_
  · refine XS.iloadN X0.here hx rfl (hb hby own_d19_0) rfl ?_
    show Steps p.tables e below (s₁.setTop (mkF m 1 #[.val (.int p1), .val (.int p2)] [(.int p1)])) _
    refine XS.iloadN X0.here hx rfl (hb hby own_d19_1) rfl ?_
    show Steps p.tables e below (s₁.setTop (mkF m 2 #[.val (.int p1), .val (.int p2)] [(.int p2), (.int p1)])) _
    refine XS.aconstNull X0.here hx rfl (hb hby own_d19_2) ?_
    show Steps p.tables e below (s₁.setTop (mkF m 3 #[.val (.int p1), .val (.int p2)] [.null, (.int p2), (.int p1)])) _
    exact k_
  obtain ⟨_, T1, L1, X1, ⟨rfl, N1q, k1⟩, st1⟩ := own_callS X0 hx hZ (y := (⟨"jdk/internal/util/Preconditions", "checkIndex", "(IILjava/util/function/BiFunction;)I"⟩ : MethodName)) hown (hw _ (List.mem_of_getElem? (i := 119) rfl)) (hw _ (List.mem_of_getElem? (i := 120) rfl)) (hw _ (List.mem_of_getElem? (i := 121) rfl)) (hw _ (List.mem_of_getElem? (i := 122) rfl)) (by decide) (own_c20 l Z a0 hw [] p1 p2 h0 n0 Z0 hi hj) e0 (W := 0) (by decide) (by decide) (g := (mkF m 3 #[.val (.int p1), .val (.int p2)] [.null, (.int p2), (.int p1)])) rfl (by rw [hml]; rfl) (argsL := [(.int p1), (.int p2), .null]) (rest := []) (lenOf own_pd5 rfl) rfl rfl rfl (hb hby own_d19_3) (by decide) (by decide)
  have N1 := Fr.app N0 N1q
  refine own_go st1 ?_
  show own_Rch p e below _ (T1.setTop (mkF m 6 #[.val (.int p1), .val (.int p2)] [(.int p1)]))
  refine own_retI X1 hx Bd.returns Bd.notSynchronized (hb hby own_d19_6) (by decide) (by decide) ?_
  exact ⟨rfl, N1, k1⟩
theorem own_d21_0 : decode jdk_38_method_18_code 0 = .ok (.aload_n 0, 1) := by decide +kernel
theorem own_d21_1 : decode jdk_38_method_18_code 1 = .ok (.getfield 9, 3) := by decide +kernel
theorem own_d21_4 : decode jdk_38_method_18_code 4 = .ok (.iload_n 1, 1) := by decide +kernel
theorem own_d21_5 : decode jdk_38_method_18_code 5 = .ok (.aaload, 1) := by decide +kernel
theorem own_d21_6 : decode jdk_38_method_18_code 6 = .ok (.areturn, 1) := by decide +kernel
theorem own_c21_ef (m : MethodId) (x0 : Addr) (x1 : Int32) : entryFrame m #[(.ref x0), (.int x1)] 2 = mkF m 0 #[.val (.ref x0), .val (.int x1)] [] := by first | (simp [entryFrame, mkF, argsToLocals, Value.category]; done) | rfl
set_option maxRecDepth 65536 in
set_option maxHeartbeats 40000000 in
theorem own_c21 (l : Launch) (Z : State) (a0 : Array Value) (hw : ∀ d ∈ tables_1, d.before a0 Z = true) (wsC : List Jvm.Cond) (a1 : Addr) (ed : Addr) (ke : ClassId) (cap p2 : Int32) (vs : List Value) (y : Addr) (h0 : Heap) (n0 : Nat) (Z0 : n0 ≤ h0.size) (F2 : Fld Z h0 a1 "java/util/ArrayList" "elementData" "[Ljava/lang/Object;" (.ref ed)) (V : Arv Z h0 ed ke (.object "java/lang/Object") cap vs .null) (hi : ¬ p2 < (0 : Int32)) (hc : p2 < cap) (hv : vs.getD p2.toNatClampNeg .null = .ref y) :
    own_Ctr l Z (⟨"java/util/ArrayList", "elementData", "(I)Ljava/lang/Object;"⟩ : MethodName) jdk_38_method_18_code 2 (some (.object "java/lang/Object")) wsC ({ frames := 0, cells := 0, slots := 0, locals := 0 } : Room) h0 #[(.ref a1), (.int p2)] (fun v h L => v = some (.ref y) ∧ Fr n0 L ∧ h = h0) := by
  refine own_ctr (plainFor_of_name own_pn2) ?_
  intro p e s m below meth c s₁ Bd hml0 hx hby hZ hown0 X0 e0
  have hml : c.maxLocals = 2 := hml0
  have hown : s.vm.findClass "java/util/ArrayList" = some m.cls := hown0
  have hnm := (name_of_methodNamed Bd.named Bd.method).1
  have N0 := Fr.nil n0
  refine own_cast (own_c21_ef m a1 p2) ?_
  refine own_go (S' := (s₁.setTop (mkF m 1 #[.val (.ref a1), .val (.int p2)] [(.ref a1)]))) (fun t_ k_ => ?_) ?_
  · refine XS.aloadN X0.here hx rfl (hb hby own_d21_0) rfl rfl ?_
    show Steps p.tables e below (s₁.setTop (mkF m 1 #[.val (.ref a1), .val (.int p2)] [(.ref a1)])) _
    exact k_
  obtain ⟨T1, X1, e1, st1⟩ := getF X0 hx hZ hown (host := "") (Or.inl (hw _ (List.mem_of_getElem? (i := 30) rfl))) Via.refl e0 F2 (g := (mkF m 1 #[.val (.ref a1), .val (.int p2)] [(.ref a1)])) rfl rfl (hb hby own_d21_1)
  refine own_go st1 ?_
  show own_Rch p e below _ (T1.setTop (mkF m 4 #[.val (.ref a1), .val (.int p2)] [(.ref ed)]))
  refine own_go (S' := (T1.setTop (mkF m 5 #[.val (.ref a1), .val (.int p2)] [(.int p2), (.ref ed)]))) (fun t_ k_ => ?_) ?_
  · refine XS.iloadN X1.here hx rfl (hb hby own_d21_4) rfl ?_
    show Steps p.tables e below (T1.setTop (mkF m 5 #[.val (.ref a1), .val (.int p2)] [(.int p2), (.ref ed)])) _
    exact k_
  refine own_go (own_aal X1 hx hZ e1 V rfl ⟨hi, hc⟩ (v := (.ref y)) hv (g := (mkF m 5 #[.val (.ref a1), .val (.int p2)] [(.int p2), (.ref ed)])) rfl rfl (hb hby own_d21_5)) ?_
  show own_Rch p e below _ (T1.setTop (mkF m 6 #[.val (.ref a1), .val (.int p2)] [(.ref y)]))
  refine own_retA X1 hx Bd.returns Bd.notSynchronized rfl rfl rfl (hb hby own_d21_6) (by decide) (by decide) ?_
  try rw [e1]
  exact ⟨rfl, N0, rfl⟩
theorem own_pd6 : parseMethodDescriptor "(I)Ljava/lang/Object;" = some ⟨[.int], some (.object "java/lang/Object")⟩ := by decide +kernel
theorem own_d18_0 : decode jdk_38_method_20_code 0 = .ok (.iload_n 1, 1) := by decide +kernel
theorem own_d18_1 : decode jdk_38_method_20_code 1 = .ok (.aload_n 0, 1) := by decide +kernel
theorem own_d18_2 : decode jdk_38_method_20_code 2 = .ok (.getfield 48, 3) := by decide +kernel
theorem own_d18_5 : decode jdk_38_method_20_code 5 = .ok (.invokestatic 118, 3) := by decide +kernel
theorem own_d18_8 : decode jdk_38_method_20_code 8 = .ok (.pop, 1) := by decide +kernel
theorem own_d18_9 : decode jdk_38_method_20_code 9 = .ok (.aload_n 0, 1) := by decide +kernel
theorem own_d18_10 : decode jdk_38_method_20_code 10 = .ok (.iload_n 1, 1) := by decide +kernel
theorem own_d18_11 : decode jdk_38_method_20_code 11 = .ok (.invokevirtual 123, 3) := by decide +kernel
theorem own_d18_14 : decode jdk_38_method_20_code 14 = .ok (.areturn, 1) := by decide +kernel
theorem own_c18_ef (m : MethodId) (x0 : Addr) (x1 : Int32) : entryFrame m #[(.ref x0), (.int x1)] 2 = mkF m 0 #[.val (.ref x0), .val (.int x1)] [] := by first | (simp [entryFrame, mkF, argsToLocals, Value.category]; done) | rfl
set_option maxRecDepth 65536 in
set_option maxHeartbeats 40000000 in
theorem own_c18 (l : Launch) (Z : State) (a0 : Array Value) (hw : ∀ d ∈ tables_1, d.before a0 Z = true) (wsC : List Jvm.Cond) (a1 : Addr) (sz : Int32) (ed : Addr) (ke : ClassId) (cap p2 : Int32) (vs : List Value) (y : Addr) (h0 : Heap) (n0 : Nat) (Z0 : n0 ≤ h0.size) (F2 : Fld Z h0 a1 "java/util/ArrayList" "elementData" "[Ljava/lang/Object;" (.ref ed)) (V : Arv Z h0 ed ke (.object "java/lang/Object") cap vs .null) (hi : ¬ p2 < (0 : Int32)) (hc : p2 < cap) (hv : vs.getD p2.toNatClampNeg .null = .ref y) (F1 : Fld Z h0 a1 "java/util/ArrayList" "size" "I" (.int sz)) (hj : p2 < sz) (E : Exa Z h0 a1 "java/util/ArrayList") :
    own_Ctr l Z (⟨"java/util/ArrayList", "get", "(I)Ljava/lang/Object;"⟩ : MethodName) jdk_38_method_20_code 2 (some (.object "java/lang/Object")) wsC ({ frames := 2, cells := 0, slots := 0, locals := 40 } : Room) h0 #[(.ref a1), (.int p2)] (fun v h L => v = some (.ref y) ∧ Fr n0 L ∧ h = h0) := by
  refine own_ctr (plainFor_of_name own_pn2) ?_
  intro p e s m below meth c s₁ Bd hml0 hx hby hZ hown0 X0 e0
  have hml : c.maxLocals = 2 := hml0
  have hown : s.vm.findClass "java/util/ArrayList" = some m.cls := hown0
  have hnm := (name_of_methodNamed Bd.named Bd.method).1
  have N0 := Fr.nil n0
  refine own_cast (own_c18_ef m a1 p2) ?_
  refine own_go (S' := (s₁.setTop (mkF m 2 #[.val (.ref a1), .val (.int p2)] [(.ref a1), (.int p2)]))) (fun t_ k_ => ?_) ?_
  · refine XS.iloadN X0.here hx rfl (hb hby own_d18_0) rfl ?_
    show Steps p.tables e below (s₁.setTop (mkF m 1 #[.val (.ref a1), .val (.int p2)] [(.int p2)])) _
    refine XS.aloadN X0.here hx rfl (hb hby own_d18_1) rfl rfl ?_
    show Steps p.tables e below (s₁.setTop (mkF m 2 #[.val (.ref a1), .val (.int p2)] [(.ref a1), (.int p2)])) _
    exact k_
  obtain ⟨T1, X1, e1, st1⟩ := getF X0 hx hZ hown (host := "") (Or.inl (hw _ (List.mem_of_getElem? (i := 49) rfl))) Via.refl e0 F1 (g := (mkF m 2 #[.val (.ref a1), .val (.int p2)] [(.ref a1), (.int p2)])) rfl rfl (hb hby own_d18_2)
  refine own_go st1 ?_
  show own_Rch p e below _ (T1.setTop (mkF m 5 #[.val (.ref a1), .val (.int p2)] [(.int sz), (.int p2)]))
  obtain ⟨_, T2, L2, X2, ⟨rfl, N2q, k2⟩, st2⟩ := own_callS X1 hx hZ (y := (⟨"java/util/Objects", "checkIndex", "(II)I"⟩ : MethodName)) hown (hw _ (List.mem_of_getElem? (i := 115) rfl)) (hw _ (List.mem_of_getElem? (i := 116) rfl)) (hw _ (List.mem_of_getElem? (i := 117) rfl)) (hw _ (List.mem_of_getElem? (i := 118) rfl)) (by decide) (own_c19 l Z a0 hw [] p2 sz h0 n0 Z0 hi hj) e1 (W := 0) (by decide) (by decide) (g := (mkF m 5 #[.val (.ref a1), .val (.int p2)] [(.int sz), (.int p2)])) rfl (by rw [hml]; rfl) (argsL := [(.int p2), (.int sz)]) (rest := []) (lenOf own_pd1 rfl) rfl rfl rfl (hb hby own_d18_5) (by decide) (by decide)
  have N2 := Fr.app N0 N2q
  refine own_go st2 ?_
  show own_Rch p e below _ (T2.setTop (mkF m 8 #[.val (.ref a1), .val (.int p2)] [(.int p2)]))
  refine own_go (S' := (T2.setTop (mkF m 11 #[.val (.ref a1), .val (.int p2)] [(.int p2), (.ref a1)]))) (fun t_ k_ => ?_) ?_
  · refine XS.pop X2.here hx rfl (hb hby own_d18_8) rfl rfl ?_
    show Steps p.tables e below (T2.setTop (mkF m 9 #[.val (.ref a1), .val (.int p2)] [])) _
    refine XS.aloadN X2.here hx rfl (hb hby own_d18_9) rfl rfl ?_
    show Steps p.tables e below (T2.setTop (mkF m 10 #[.val (.ref a1), .val (.int p2)] [(.ref a1)])) _
    refine XS.iloadN X2.here hx rfl (hb hby own_d18_10) rfl ?_
    show Steps p.tables e below (T2.setTop (mkF m 11 #[.val (.ref a1), .val (.int p2)] [(.int p2), (.ref a1)])) _
    exact k_
  rw [← k2] at F2 V E Z0
  obtain ⟨_, T3, L3, X3, ⟨rfl, N3q, k3⟩, st3⟩ := own_callV X2 hx hZ (y := (⟨"java/util/ArrayList", "elementData", "(I)Ljava/lang/Object;"⟩ : MethodName)) (z := (⟨"java/util/ArrayList", "elementData", "(I)Ljava/lang/Object;"⟩ : MethodName)) (C := "java/util/ArrayList") hown (hw _ (List.mem_of_getElem? (i := 123) rfl)) (hw _ (List.mem_of_getElem? (i := 124) rfl)) (notFace_of_selects (args := #[]) (mvT hZ (hw _ (List.mem_of_getElem? (i := 126) rfl)))) (hw _ (List.mem_of_getElem? (i := 126) rfl)) (hw _ (List.mem_of_getElem? (i := 125) rfl)) (hw _ (List.mem_of_getElem? (i := 8) rfl)) (hw _ (List.mem_of_getElem? (i := 127) rfl)) (by decide) (own_c21 l Z a0 hw [] a1 ed ke cap p2 vs y T2.heap n0 Z0 F2 V hi hc hv) rfl E (W := 0) (by decide) (by decide) (g := (mkF m 11 #[.val (.ref a1), .val (.int p2)] [(.int p2), (.ref a1)])) rfl (by rw [hml]; rfl) (argsL := [(.int p2)]) (rest := []) (lenOf own_pd6 rfl) rfl rfl rfl (hb hby own_d18_11) (by decide) (by decide)
  have N3 := Fr.app N2 N3q
  refine own_go st3 ?_
  show own_Rch p e below _ (T3.setTop (mkF m 14 #[.val (.ref a1), .val (.int p2)] [(.ref y)]))
  refine own_retA X3 hx Bd.returns Bd.notSynchronized rfl rfl rfl (hb hby own_d18_14) (by decide) (by decide) ?_
  exact ⟨rfl, N3, by rw [k3, k2]⟩
def own_id (j n s rv : Int32) : Int32 := if rv = (0 : Int32) then ((j + s) % n) else ((n - (1 : Int32)) - ((j + s) % n))
def own_inc (i n x c q : Int32) : Int32 := if i < n then (if x = c then q + (1 : Int32) else q) else q
def own_ix (ds m q : Int32) : Int32 := if ds = (0 : Int32) then q else ((m - (1 : Int32)) - q)
def own_st (i n x c m q s rv ds : Int32) (ws : List Int32) : List Int32 := if i < n then (if x = c then ws.set (own_ix ds m q).toNatClampNeg (own_id i n s rv) else ws) else ws
def own_m1 (c n x0 : Int32) : Int32 := own_inc 0 n x0 c 0
def own_m2 (c n x0 x1 : Int32) : Int32 := own_inc 1 n x1 c (own_m1 c n x0)
def own_m3 (c n x0 x1 x2 : Int32) : Int32 := own_inc 2 n x2 c (own_m2 c n x0 x1)
def own_m4 (c n x0 x1 x2 x3 : Int32) : Int32 := own_inc 3 n x3 c (own_m3 c n x0 x1 x2)
def own_ws (c n s rv ds x0 x1 x2 x3 : Int32) : List Int32 :=
  own_st 3 n x3 c (own_m4 c n x0 x1 x2 x3) (own_m3 c n x0 x1 x2) s rv ds (own_st 2 n x2 c (own_m4 c n x0 x1 x2 x3) (own_m2 c n x0 x1) s rv ds
    (own_st 1 n x1 c (own_m4 c n x0 x1 x2 x3) (own_m1 c n x0) s rv ds (own_st 0 n x0 c (own_m4 c n x0 x1 x2 x3) 0 s rv ds [0, 0, 0, 0])))
def own_xs (c n s rv ds x0 x1 x2 x3 : Int32) : List Int32 := (own_ws c n s rv ds x0 x1 x2 x3).take (own_m4 c n x0 x1 x2 x3).toNatClampNeg
/-- one group's records put down, none twice -/
def own_place (c : Int32) : List Int32 → List Int32 → Option (List Int32)
  | [], cs => some cs
  | r :: rs, cs => if ¬ r < 0 ∧ r.toNatClampNeg < cs.length ∧ cs.getD r.toNatClampNeg 0 = (-1 : Int32) then own_place c rs (cs.set r.toNatClampNeg c) else none
def own_run (n : Int32) : List (List Int32) → Int32 → Int32 → List Int32 → Option (List Int32)
  | [], _, pl, cs => if pl = n then some cs else none
  | xs :: gs, c, pl, cs => if xs = [] then none else
    match own_place c xs cs with
    | some cs' => own_run n gs (c + (1 : Int32)) (pl + Int32.ofNat xs.length) cs'
    | none => none
/-- an int array that holds these -/
def own_Grp (Z : State) (h : Heap) (a : Addr) (xs : List Int32) : Prop := Exa Z h a "[I" ∧ ∃ k vs, Arv Z h a k .int (Int32.ofNat xs.length) vs (.int 0) ∧ xs.length ≤ 4 ∧ ∀ i, i < xs.length → vs.getD i (.int 0) = .int (xs.getD i 0)
theorem own_Grp.keep {Z : State} {h h' : Heap} {a : Addr} {xs : List Int32} (G : own_Grp Z h a xs) (K : Keep h h' []) : own_Grp Z h' a xs := by
  obtain ⟨E, k, vs, V, q⟩ := G
  exact ⟨E.keep K, k, vs, V.keep K nin0, q⟩
/-- a list of arrays -/
def own_Lst (Z : State) (h : Heap) (al : Addr) (gs : List (Addr × List Int32)) : Prop :=
  Exa Z h al "java/util/ArrayList" ∧ Fld Z h al "java/util/ArrayList" "size" "I" (.int (Int32.ofNat gs.length)) ∧ gs.length ≤ 4 ∧ (∀ g ∈ gs, own_Grp Z h g.1 g.2) ∧ ∃ (ed : Addr) (ke : ClassId) (cap : Int32) (vs : List Value), Fld Z h al "java/util/ArrayList" "elementData" "[Ljava/lang/Object;" (.ref ed) ∧ Arv Z h ed ke (.object "java/lang/Object") cap vs .null ∧ (∀ i, i < gs.length → Int32.ofNat i < cap) ∧
    ∀ i g, gs[i]? = some g → vs.getD i .null = .ref g.1
theorem own_Lst.keep {Z : State} {h h' : Heap} {al : Addr} {gs : List (Addr × List Int32)} (G : own_Lst Z h al gs) (K : Keep h h' []) : own_Lst Z h' al gs := by
  obtain ⟨E, F, q, A, ed, ke, cap, vs, F2, V, r⟩ := G
  exact ⟨E.keep K, F.keep K nin0, q, fun g hg => (A g hg).keep K, ed, ke, cap, vs, F2.keep K nin0, V.keep K nin0, r⟩
theorem own_nat {j : Nat} (h : j ≤ 10) : (Int32.ofNat j).toInt = j ∧ (Int32.ofNat j).toNatClampNeg = j ∧ ¬ (Int32.ofNat j) < 0 ∧ Int32.ofNat j + (1 : Int32) = Int32.ofNat (j + 1) := by
  have q : ∀ j : Fin 11, (Int32.ofNat j.1).toInt = j.1 ∧ (Int32.ofNat j.1).toNatClampNeg = j.1 ∧ ¬ (Int32.ofNat j.1) < 0 ∧ Int32.ofNat j.1 + (1 : Int32) = Int32.ofNat (j.1 + 1) := by decide +kernel
  exact q ⟨j, by omega⟩
theorem own_ltN {i j : Nat} (hi : i ≤ 10) (hj : j ≤ 10) : Int32.ofNat i < Int32.ofNat j ↔ i < j := by
  rw [Int32.lt_iff_toInt_lt, (own_nat hi).1, (own_nat hj).1]; omega
theorem own_neN {i : Nat} (hi : i ≤ 10) (h0 : i ≠ 0) : ¬ Int32.ofNat i = (0 : Int32) := by
  intro q
  have := (own_nat hi).1
  rw [q] at this
  have e0 : (0 : Int32).toInt = 0 := by decide
  rw [e0] at this
  omega
theorem own_irr (x : Int32) : ¬ x < x := Int32.lt_irrefl
theorem own_fillset {j n : Nat} {w : Int32} (h : j < n) : ((List.replicate j w ++ List.replicate (n - j) (0 : Int32)).map Value.int).set j (.int w) = (List.replicate (j + 1) w ++ List.replicate (n - (j + 1)) (0 : Int32)).map Value.int := by
  obtain ⟨k, rfl⟩ : ∃ k, n = j + 1 + k := ⟨n - (j + 1), by omega⟩
  have e1 : j + 1 + k - j = k + 1 := by omega
  have e2 : j + 1 + k - (j + 1) = k := by omega
  rw [e1, e2, ← List.map_set, List.set_append_right _ _ (by simp), List.length_replicate, Nat.sub_self, List.replicate_succ, List.set_cons_zero, List.replicate_succ']
  simp
theorem own_d7_0 : decode jdk_65_method_103_code 0 = .ok (.iconst 0, 1) := by decide +kernel
theorem own_d7_1 : decode jdk_65_method_103_code 1 = .ok (.istore_n 2, 1) := by decide +kernel
theorem own_d7_2 : decode jdk_65_method_103_code 2 = .ok (.aload_n 0, 1) := by decide +kernel
theorem own_d7_3 : decode jdk_65_method_103_code 3 = .ok (.arraylength, 1) := by decide +kernel
theorem own_d7_4 : decode jdk_65_method_103_code 4 = .ok (.istore_n 3, 1) := by decide +kernel
theorem own_d7_5 : decode jdk_65_method_103_code 5 = .ok (.iload_n 2, 1) := by decide +kernel
theorem own_d7_6 : decode jdk_65_method_103_code 6 = .ok (.iload_n 3, 1) := by decide +kernel
theorem own_d7_7 : decode jdk_65_method_103_code 7 = .ok (.if_icmp .ge 13, 3) := by decide +kernel
theorem own_d7_10 : decode jdk_65_method_103_code 10 = .ok (.aload_n 0, 1) := by decide +kernel
theorem own_d7_11 : decode jdk_65_method_103_code 11 = .ok (.iload_n 2, 1) := by decide +kernel
theorem own_d7_12 : decode jdk_65_method_103_code 12 = .ok (.iload_n 1, 1) := by decide +kernel
theorem own_d7_13 : decode jdk_65_method_103_code 13 = .ok (.iastore, 1) := by decide +kernel
theorem own_d7_14 : decode jdk_65_method_103_code 14 = .ok (.iinc 2 1, 3) := by decide +kernel
theorem own_d7_17 : decode jdk_65_method_103_code 17 = .ok (.goto (-12), 3) := by decide +kernel
theorem own_d7_20 : decode jdk_65_method_103_code 20 = .ok (.return_, 1) := by decide +kernel
theorem own_c7_ef (m : MethodId) (x0 : Addr) (x1 : Int32) : entryFrame m #[(.ref x0), (.int x1)] 4 = mkF m 0 #[.val (.ref x0), .val (.int x1), .unset, .unset] [] := by first | (simp [entryFrame, mkF, argsToLocals, Value.category]; done) | rfl
theorem own_pn5 : plainName "java/util/Arrays" = true := by first | (simp [plainName, overriddenIn]; done) | decide +kernel
set_option maxRecDepth 65536 in
set_option maxHeartbeats 40000000 in
theorem own_c7 (l : Launch) (Z : State) (a0 : Array Value) (hw : ∀ d ∈ tables_1, d.before a0 Z = true) (wsC : List Jvm.Cond) (a1 : Addr) (k1 : ClassId) (p2 : Int32) (n : Nat) (hn : n ≤ 4) (h0 : Heap) (n0 : Nat) (Z0 : n0 ≤ h0.size) (V : Arv Z h0 a1 k1 .int (Int32.ofNat n) ((List.replicate n (0 : Int32)).map Value.int) (.int 0)) (g : n0 ≤ a1) :
    own_Ctr l Z (⟨"java/util/Arrays", "fill", "([II)V"⟩ : MethodName) jdk_65_method_103_code 4 none wsC ({ frames := 0, cells := 0, slots := 0, locals := 0 } : Room) h0 #[(.ref a1), (.int p2)] (fun v h L => v = none ∧ Fr n0 L ∧ Keep h0 h [a1] ∧ Arv Z h a1 k1 .int (Int32.ofNat n) ((List.replicate n p2).map Value.int) (.int 0)) := by
  refine own_ctr (plainFor_of_name own_pn5) ?_
  intro p e s m below meth c s₁ Bd hml0 hx hby hZ hown0 X0 e0
  have hml : c.maxLocals = 4 := hml0
  have hown : s.vm.findClass "java/util/Arrays" = some m.cls := hown0
  have hnm := (name_of_methodNamed Bd.named Bd.method).1
  have N0 := Fr.nil n0
  refine own_cast (own_c7_ef m a1 p2) ?_
  have ent : Arv Z h0 a1 k1 .int (Int32.ofNat n) ((List.replicate 0 p2 ++ List.replicate (n - 0) (0 : Int32)).map Value.int) (.int 0) := by simpa using V
  have J : ∀ (rs : List Unit) (j : Nat) (TJ : State) (lcJ : List Loc) (hJ : Heap) (XJ : Stand p l e ({ frames := 0, cells := 0, slots := 0, locals := 0 } : Room) s m #[(.ref a1), (.int p2)] below meth c TJ lcJ 0 0) (eJ : TJ.heap = hJ) (NJ : Fr n0 lcJ) (hj : rs.length + j = n) (KJ : Keep h0 hJ [a1]) (VJ : Arv Z hJ a1 k1 .int (Int32.ofNat n) ((List.replicate j p2 ++ List.replicate (n - j) (0 : Int32)).map Value.int) (.int 0)), own_Rch p e below (own_Fin s ({ frames := 0, cells := 0, slots := 0, locals := 0 } : Room).cells ({ frames := 0, cells := 0, slots := 0, locals := 0 } : Room).slots (fun v h L => v = none ∧ Fr n0 L ∧ Keep h0 h [a1] ∧ Arv Z h a1 k1 .int (Int32.ofNat n) ((List.replicate n p2).map Value.int) (.int 0))) (TJ.setTop (mkF m 5 #[.val (.ref a1), .val (.int p2), .val (.int (Int32.ofNat j)), .val (.int (Int32.ofNat n))] [])) := by
    intro rs
    induction rs with
    | nil =>
      intro j TJ lcJ hJ XJ eJ NJ hj KJ VJ
      have hjn : j = n := by simp at hj; omega
      refine own_go (S' := (TJ.setTop (mkF m 7 #[.val (.ref a1), .val (.int p2), .val (.int (Int32.ofNat j)), .val (.int (Int32.ofNat n))] [(.int (Int32.ofNat n)), (.int (Int32.ofNat j))]))) (fun t_ k_ => ?_) ?_
      · refine XS.iloadN XJ.here hx rfl (hb hby own_d7_5) rfl ?_
        show Steps p.tables e below (TJ.setTop (mkF m 6 #[.val (.ref a1), .val (.int p2), .val (.int (Int32.ofNat j)), .val (.int (Int32.ofNat n))] [(.int (Int32.ofNat j))])) _
        refine XS.iloadN XJ.here hx rfl (hb hby own_d7_6) rfl ?_
        show Steps p.tables e below (TJ.setTop (mkF m 7 #[.val (.ref a1), .val (.int p2), .val (.int (Int32.ofNat j)), .val (.int (Int32.ofNat n))] [(.int (Int32.ofNat n)), (.int (Int32.ofNat j))])) _
        exact k_
      refine own_go (S' := (TJ.setTop (mkF m 20 #[.val (.ref a1), .val (.int p2), .val (.int (Int32.ofNat j)), .val (.int (Int32.ofNat n))] []))) (fun t_ k_ => ?_) ?_
      · refine XS.icmpYes XJ.here hx rfl (pc0 := 7) (pc' := 20) rfl (hb hby own_d7_7) rfl (flt (by rw [hjn]; exact own_irr _)).2.1 (by decide) (by decide) ?_
        show Steps p.tables e below (TJ.setTop (mkF m 20 #[.val (.ref a1), .val (.int p2), .val (.int (Int32.ofNat j)), .val (.int (Int32.ofNat n))] [])) _
        exact k_
      refine own_ret0 XJ hx Bd.returns Bd.notSynchronized (hb hby own_d7_20) (by decide) (by decide) ?_
      try rw [eJ]
      exact ⟨rfl, NJ, KJ, by rw [hjn] at VJ; simpa using VJ⟩
    | cons u rest ih =>
      intro j TJ lcJ hJ XJ eJ NJ hj KJ VJ
      have hjn : j < n := by simp at hj; omega
      refine own_go (S' := (TJ.setTop (mkF m 7 #[.val (.ref a1), .val (.int p2), .val (.int (Int32.ofNat j)), .val (.int (Int32.ofNat n))] [(.int (Int32.ofNat n)), (.int (Int32.ofNat j))]))) (fun t_ k_ => ?_) ?_
      · refine XS.iloadN XJ.here hx rfl (hb hby own_d7_5) rfl ?_
        show Steps p.tables e below (TJ.setTop (mkF m 6 #[.val (.ref a1), .val (.int p2), .val (.int (Int32.ofNat j)), .val (.int (Int32.ofNat n))] [(.int (Int32.ofNat j))])) _
        refine XS.iloadN XJ.here hx rfl (hb hby own_d7_6) rfl ?_
        show Steps p.tables e below (TJ.setTop (mkF m 7 #[.val (.ref a1), .val (.int p2), .val (.int (Int32.ofNat j)), .val (.int (Int32.ofNat n))] [(.int (Int32.ofNat n)), (.int (Int32.ofNat j))])) _
        exact k_
      refine own_go (S' := (TJ.setTop (mkF m 13 #[.val (.ref a1), .val (.int p2), .val (.int (Int32.ofNat j)), .val (.int (Int32.ofNat n))] [(.int p2), (.int (Int32.ofNat j)), (.ref a1)]))) (fun t_ k_ => ?_) ?_
      · refine XS.icmpNo XJ.here hx rfl (hb hby own_d7_7) rfl (tlt ((own_ltN (by omega) (by omega)).mpr hjn)).2.1 ?_
        show Steps p.tables e below (TJ.setTop (mkF m 10 #[.val (.ref a1), .val (.int p2), .val (.int (Int32.ofNat j)), .val (.int (Int32.ofNat n))] [])) _
        refine XS.aloadN XJ.here hx rfl (hb hby own_d7_10) rfl rfl ?_
        show Steps p.tables e below (TJ.setTop (mkF m 11 #[.val (.ref a1), .val (.int p2), .val (.int (Int32.ofNat j)), .val (.int (Int32.ofNat n))] [(.ref a1)])) _
        refine XS.iloadN XJ.here hx rfl (hb hby own_d7_11) rfl ?_
        show Steps p.tables e below (TJ.setTop (mkF m 12 #[.val (.ref a1), .val (.int p2), .val (.int (Int32.ofNat j)), .val (.int (Int32.ofNat n))] [(.int (Int32.ofNat j)), (.ref a1)])) _
        refine XS.iloadN XJ.here hx rfl (hb hby own_d7_12) rfl ?_
        show Steps p.tables e below (TJ.setTop (mkF m 13 #[.val (.ref a1), .val (.int p2), .val (.int (Int32.ofNat j)), .val (.int (Int32.ofNat n))] [(.int p2), (.int (Int32.ofNat j)), (.ref a1)])) _
        exact k_
      obtain ⟨T1, h1, X1, e1, W1, V1, st1⟩ := own_stI XJ hx hZ eJ VJ ⟨(own_nat (by omega)).2.2.1, (own_ltN (by omega) (by omega)).mpr hjn⟩ (i := j) (own_nat (by omega)).2.1 (by simp; omega) (g := (mkF m 13 #[.val (.ref a1), .val (.int p2), .val (.int (Int32.ofNat j)), .val (.int (Int32.ofNat n))] [(.int p2), (.int (Int32.ofNat j)), (.ref a1)])) rfl rfl (hb hby own_d7_13)
      refine own_go st1 ?_
      have N1 := Fr.snoc X1 NJ g
      show own_Rch p e below _ (T1.setTop (mkF m 14 #[.val (.ref a1), .val (.int p2), .val (.int (Int32.ofNat j)), .val (.int (Int32.ofNat n))] []))
      refine own_go (S' := (T1.setTop (mkF m 5 #[.val (.ref a1), .val (.int p2), .val (.int ((Int32.ofNat j) + (1 : Int32))), .val (.int (Int32.ofNat n))] []))) (fun t_ k_ => ?_) ?_
      · refine XS.iinc X1.here hx rfl (hb hby own_d7_14) rfl (l' := #[.val (.ref a1), .val (.int p2), .val (.int ((Int32.ofNat j) + (1 : Int32))), .val (.int (Int32.ofNat n))]) rfl ?_
        show Steps p.tables e below (T1.setTop (mkF m 17 #[.val (.ref a1), .val (.int p2), .val (.int ((Int32.ofNat j) + (1 : Int32))), .val (.int (Int32.ofNat n))] [])) _
        refine XS.goto X1.here hx rfl (pc0 := 17) (pc' := 5) rfl (hb hby own_d7_17) (by decide) (by decide) ?_
        show Steps p.tables e below (T1.setTop (mkF m 5 #[.val (.ref a1), .val (.int p2), .val (.int ((Int32.ofNat j) + (1 : Int32))), .val (.int (Int32.ofNat n))] [])) _
        exact k_
      rw [(own_nat (j := j) (by omega)).2.2.2]
      show own_Rch p e below _ (T1.setTop (mkF m 5 #[.val (.ref a1), .val (.int p2), .val (.int (Int32.ofNat (j + 1))), .val (.int (Int32.ofNat n))] []))
      exact ih (j + 1) T1 _ h1 X1 e1 N1 (by simp at hj ⊢; omega) (KJ.wr W1 (Or.inl (List.mem_of_getElem? (i := 0) rfl))) (by have q := V1; rw [own_fillset hjn] at q; exact q)
  refine own_go (S' := (s₁.setTop (mkF m 3 #[.val (.ref a1), .val (.int p2), .val (.int (0 : Int32)), .unset] [(.ref a1)]))) (fun t_ k_ => ?_) ?_
  · refine XS.iconst X0.here hx rfl (hb hby own_d7_0) ?_
    show Steps p.tables e below (s₁.setTop (mkF m 1 #[.val (.ref a1), .val (.int p2), .unset, .unset] [(.int (0 : Int32))])) _
    refine XS.istoreN X0.here hx rfl (hb hby own_d7_1) rfl (l' := #[.val (.ref a1), .val (.int p2), .val (.int (0 : Int32)), .unset]) rfl ?_
    show Steps p.tables e below (s₁.setTop (mkF m 2 #[.val (.ref a1), .val (.int p2), .val (.int (0 : Int32)), .unset] [])) _
    refine XS.aloadN X0.here hx rfl (hb hby own_d7_2) rfl rfl ?_
    show Steps p.tables e below (s₁.setTop (mkF m 3 #[.val (.ref a1), .val (.int p2), .val (.int (0 : Int32)), .unset] [(.ref a1)])) _
    exact k_
  refine own_go (own_len X0 hx hZ e0 V (g := (mkF m 3 #[.val (.ref a1), .val (.int p2), .val (.int (0 : Int32)), .unset] [(.ref a1)])) rfl rfl (hb hby own_d7_3)) ?_
  show own_Rch p e below _ (s₁.setTop (mkF m 4 #[.val (.ref a1), .val (.int p2), .val (.int (0 : Int32)), .unset] [(.int (Int32.ofNat n))]))
  refine own_go (S' := (s₁.setTop (mkF m 5 #[.val (.ref a1), .val (.int p2), .val (.int (0 : Int32)), .val (.int (Int32.ofNat n))] []))) (fun t_ k_ => ?_) ?_
  · refine XS.istoreN X0.here hx rfl (hb hby own_d7_4) rfl (l' := #[.val (.ref a1), .val (.int p2), .val (.int (0 : Int32)), .val (.int (Int32.ofNat n))]) rfl ?_
    show Steps p.tables e below (s₁.setTop (mkF m 5 #[.val (.ref a1), .val (.int p2), .val (.int (0 : Int32)), .val (.int (Int32.ofNat n))] [])) _
    exact k_
  exact J (List.replicate n ()) 0 s₁ _ h0 X0 e0 N0 (by simp) (Keep.refl h0 [a1]) ent
theorem own_run_nil {n c pl : Int32} {cs cf : List Int32} (h : own_run n [] c pl cs = some cf) : pl = n ∧ cs = cf := by
  unfold own_run at h
  split at h
  · rename_i q; exact ⟨q, Option.some.inj h⟩
  · cases h
theorem own_run_cons {n c pl : Int32} {xs : List Int32} {gs : List (List Int32)} {cs cf : List Int32} (h : own_run n (xs :: gs) c pl cs = some cf) : xs ≠ [] ∧ ∃ cs', own_place c xs cs = some cs' ∧ own_run n gs (c + (1 : Int32)) (pl + Int32.ofNat xs.length) cs' = some cf := by
  unfold own_run at h
  split at h
  · cases h
  · rename_i q
    refine ⟨q, ?_⟩
    cases e : own_place c xs cs with
    | none => rw [e] at h; cases h
    | some cs' => rw [e] at h; exact ⟨cs', rfl, h⟩
theorem own_place_cons {c r : Int32} {rs cs cf : List Int32} (h : own_place c (r :: rs) cs = some cf) : (¬ r < 0 ∧ r.toNatClampNeg < cs.length ∧ cs.getD r.toNatClampNeg 0 = (-1 : Int32)) ∧ own_place c rs (cs.set r.toNatClampNeg c) = some cf := by
  unfold own_place at h
  split at h
  · rename_i q; exact ⟨q, h⟩
  · cases h
theorem own_mapD (cs : List Int32) (i : Nat) : (cs.map Value.int).getD i (.int 0) = .int (cs.getD i 0) := by
  simp only [List.getD_eq_getElem?_getD, List.getElem?_map]
  cases cs[i]? <;> rfl
theorem own_clamp {r : Int32} (h : ¬ r < 0) : (r.toNatClampNeg : Int) = r.toInt := by
  rw [Int32.lt_iff_toInt_lt] at h
  have e0 : (0 : Int32).toInt = 0 := by decide
  rw [e0] at h
  rw [Int32.toNatClampNeg]
  omega
theorem own_ltOf {r : Int32} {n : Nat} (hn : n ≤ 10) (h : ¬ r < 0) (q : r.toNatClampNeg < n) : r < Int32.ofNat n := by
  have := own_clamp h
  rw [Int32.lt_iff_toInt_lt, (own_nat hn).1]
  omega
theorem own_padz (n : Nat) : ∀ i, ((List.replicate n (0 : Int32)).map Value.int).getD i (.int 0) = ([] : List Value).getD i (.int 0) := by
  rw [List.map_replicate]; exact pad_rep [] (.int 0) n
theorem own_d9_0 : decode prog_1_method_1_code 0 = .ok (.aload_n 0, 1) := by decide +kernel
theorem own_d9_1 : decode prog_1_method_1_code 1 = .ok (.invokespecial 1, 3) := by decide +kernel
theorem own_d9_4 : decode prog_1_method_1_code 4 = .ok (.aload_n 0, 1) := by decide +kernel
theorem own_d9_5 : decode prog_1_method_1_code 5 = .ok (.aload_n 1, 1) := by decide +kernel
theorem own_d9_6 : decode prog_1_method_1_code 6 = .ok (.putfield 7, 3) := by decide +kernel
theorem own_d9_9 : decode prog_1_method_1_code 9 = .ok (.aload_n 0, 1) := by decide +kernel
theorem own_d9_10 : decode prog_1_method_1_code 10 = .ok (.iload_n 2, 1) := by decide +kernel
theorem own_d9_11 : decode prog_1_method_1_code 11 = .ok (.putfield 13, 3) := by decide +kernel
theorem own_d9_14 : decode prog_1_method_1_code 14 = .ok (.return_, 1) := by decide +kernel
theorem own_c9_ef (m : MethodId) (x0 : Addr) (x1 : Addr) (x2 : Int32) : entryFrame m #[(.ref x0), (.ref x1), (.int x2)] 3 = mkF m 0 #[.val (.ref x0), .val (.ref x1), .val (.int x2)] [] := by first | (simp [entryFrame, mkF, argsToLocals, Value.category]; done) | rfl
theorem own_pn6 : plainName "com/example/anonutils/anonutils/Clustering" = true := by first | (simp [plainName, overriddenIn]; done) | decide +kernel
set_option maxRecDepth 65536 in
set_option maxHeartbeats 40000000 in
theorem own_c9 (l : Launch) (Z : State) (a0 : Array Value) (hw : ∀ d ∈ tables_1, d.before a0 Z = true) (wsC : List Jvm.Cond) (a1 a2 : Addr) (p3 : Int32) (h0 : Heap) (n0 : Nat) (Z0 : n0 ≤ h0.size) (F1 : Fld Z h0 a1 "com/example/anonutils/anonutils/Clustering" "clusterOf" "[I" .null) (F2 : Fld Z h0 a1 "com/example/anonutils/anonutils/Clustering" "count" "I" (.int 0)) (E : Exa Z h0 a1 "com/example/anonutils/anonutils/Clustering") (g : n0 ≤ a1) :
    own_Ctr l Z (⟨"com/example/anonutils/anonutils/Clustering", "<init>", "([II)V"⟩ : MethodName) prog_1_method_1_code 3 none wsC ({ frames := 1, cells := 0, slots := 0, locals := 12 } : Room) h0 #[(.ref a1), (.ref a2), (.int p3)] (fun v h L => v = none ∧ Fr n0 L ∧ Keep h0 h [a1] ∧ Exa Z h a1 "com/example/anonutils/anonutils/Clustering" ∧ Fld Z h a1 "com/example/anonutils/anonutils/Clustering" "clusterOf" "[I" (.ref a2) ∧ Fld Z h a1 "com/example/anonutils/anonutils/Clustering" "count" "I" (.int p3)) := by
  refine own_ctr (plainFor_of_name own_pn6) ?_
  intro p e s m below meth c s₁ Bd hml0 hx hby hZ hown0 X0 e0
  have hml : c.maxLocals = 3 := hml0
  have hown : s.vm.findClass "com/example/anonutils/anonutils/Clustering" = some m.cls := hown0
  have hnm := (name_of_methodNamed Bd.named Bd.method).1
  have N0 := Fr.nil n0
  refine own_cast (own_c9_ef m a1 a2 p3) ?_
  refine own_go (S' := (s₁.setTop (mkF m 1 #[.val (.ref a1), .val (.ref a2), .val (.int p3)] [(.ref a1)]))) (fun t_ k_ => ?_) ?_
  · refine XS.aloadN X0.here hx rfl (hb hby own_d9_0) rfl rfl ?_
    show Steps p.tables e below (s₁.setTop (mkF m 1 #[.val (.ref a1), .val (.ref a2), .val (.int p3)] [(.ref a1)])) _
    exact k_
  obtain ⟨T1, X1, e1, st1⟩ := initO X0 hx hZ hown (hw _ (List.mem_of_getElem? (i := 56) rfl)) (hw _ (List.mem_of_getElem? (i := 25) rfl)) (hw _ (List.mem_of_getElem? (i := 26) rfl)) e0 (g := (mkF m 1 #[.val (.ref a1), .val (.ref a2), .val (.int p3)] [(.ref a1)])) rfl (by rw [hml]; rfl) rfl (hb hby own_d9_1) (by decide) (W := 0) (by show 2 * 0 + _ ≤ _; exact Nat.le_of_eq rfl) (by decide)
  refine own_go st1 ?_
  show own_Rch p e below _ (T1.setTop (mkF m 4 #[.val (.ref a1), .val (.ref a2), .val (.int p3)] []))
  refine own_go (S' := (T1.setTop (mkF m 6 #[.val (.ref a1), .val (.ref a2), .val (.int p3)] [(.ref a2), (.ref a1)]))) (fun t_ k_ => ?_) ?_
  · refine XS.aloadN X1.here hx rfl (hb hby own_d9_4) rfl rfl ?_
    show Steps p.tables e below (T1.setTop (mkF m 5 #[.val (.ref a1), .val (.ref a2), .val (.int p3)] [(.ref a1)])) _
    refine XS.aloadN X1.here hx rfl (hb hby own_d9_5) rfl rfl ?_
    show Steps p.tables e below (T1.setTop (mkF m 6 #[.val (.ref a1), .val (.ref a2), .val (.int p3)] [(.ref a2), (.ref a1)])) _
    exact k_
  obtain ⟨T2, h2, X2, e2, W2, st2⟩ := putF X1 hx hZ hown (host := "") (Or.inl (hw _ (List.mem_of_getElem? (i := 57) rfl))) Via.refl e1 F1 E (Or.inr ⟨(hw _ (List.mem_of_getElem? (i := 58) rfl)), rfl, hnm⟩) (hw _ (List.mem_of_getElem? (i := 52) rfl)) (ty := (.array .int)) (by decide) rfl rfl (g := (mkF m 6 #[.val (.ref a1), .val (.ref a2), .val (.int p3)] [(.ref a2), (.ref a1)])) rfl rfl (hb hby own_d9_6)
  refine own_go st2 ?_
  have N2 := Fr.snoc X2 N0 g
  show own_Rch p e below _ (T2.setTop (mkF m 9 #[.val (.ref a1), .val (.ref a2), .val (.int p3)] []))
  refine own_go (S' := (T2.setTop (mkF m 11 #[.val (.ref a1), .val (.ref a2), .val (.int p3)] [(.int p3), (.ref a1)]))) (fun t_ k_ => ?_) ?_
  · refine XS.aloadN X2.here hx rfl (hb hby own_d9_9) rfl rfl ?_
    show Steps p.tables e below (T2.setTop (mkF m 10 #[.val (.ref a1), .val (.ref a2), .val (.int p3)] [(.ref a1)])) _
    refine XS.iloadN X2.here hx rfl (hb hby own_d9_10) rfl ?_
    show Steps p.tables e below (T2.setTop (mkF m 11 #[.val (.ref a1), .val (.ref a2), .val (.int p3)] [(.int p3), (.ref a1)])) _
    exact k_
  have G2 := F2.other W2 (Or.inr (slot_ne (Or.inr (hw _ (List.mem_of_getElem? (i := 60) rfl))) (Or.inr (hw _ (List.mem_of_getElem? (i := 58) rfl))) (by decide) (t := .int) (t' := (.array .int)) (by decide) (by decide)))
  obtain ⟨T3, h3, X3, e3, W3, st3⟩ := putF X2 hx hZ hown (host := "") (Or.inl (hw _ (List.mem_of_getElem? (i := 59) rfl))) Via.refl e2 G2 (E.wr W2) (Or.inr ⟨(hw _ (List.mem_of_getElem? (i := 60) rfl)), rfl, hnm⟩) (hw _ (List.mem_of_getElem? (i := 52) rfl)) (ty := .int) (by decide) rfl rfl (g := (mkF m 11 #[.val (.ref a1), .val (.ref a2), .val (.int p3)] [(.int p3), (.ref a1)])) rfl rfl (hb hby own_d9_11)
  refine own_go st3 ?_
  have N3 := Fr.snoc X3 N2 g
  show own_Rch p e below _ (T3.setTop (mkF m 14 #[.val (.ref a1), .val (.ref a2), .val (.int p3)] []))
  refine own_ret0 X3 hx Bd.returns Bd.notSynchronized (hb hby own_d9_14) (by decide) (by decide) ?_
  try rw [e3]
  exact ⟨rfl, N3, ((Keep.refl h0 [a1]).wr W2 (Or.inl (List.mem_of_getElem? (i := 0) rfl))).wr W3 (Or.inl (List.mem_of_getElem? (i := 0) rfl)), (E.wr W2).wr W3, (F1.same W2).other W3 (Or.inr (slot_ne (Or.inr (hw _ (List.mem_of_getElem? (i := 58) rfl))) (Or.inr (hw _ (List.mem_of_getElem? (i := 60) rfl))) (by decide) (t := (.array .int)) (t' := .int) (by decide) (by decide))), G2.same W3⟩
theorem own_d10_0 : decode prog_1_method_4_code 0 = .ok (.aload_n 0, 1) := by decide +kernel
theorem own_d10_1 : decode prog_1_method_4_code 1 = .ok (.getfield 7, 3) := by decide +kernel
theorem own_d10_4 : decode prog_1_method_4_code 4 = .ok (.arraylength, 1) := by decide +kernel
theorem own_d10_5 : decode prog_1_method_4_code 5 = .ok (.ireturn, 1) := by decide +kernel
theorem own_c10_ef (m : MethodId) (x0 : Addr) : entryFrame m #[(.ref x0)] 1 = mkF m 0 #[.val (.ref x0)] [] := by first | (simp [entryFrame, mkF, argsToLocals, Value.category]; done) | rfl
set_option maxRecDepth 65536 in
set_option maxHeartbeats 40000000 in
theorem own_c10 (l : Launch) (Z : State) (a0 : Array Value) (hw : ∀ d ∈ tables_1, d.before a0 Z = true) (wsC : List Jvm.Cond) (a1 b : Addr) (kb : ClassId) (p2 : Int32) (vs : List Value) (h0 : Heap) (n0 : Nat) (Z0 : n0 ≤ h0.size) (F1 : Fld Z h0 a1 "com/example/anonutils/anonutils/Clustering" "clusterOf" "[I" (.ref b)) (V : Arv Z h0 b kb .int p2 vs (.int 0)) :
    own_Ctr l Z (⟨"com/example/anonutils/anonutils/Clustering", "recordCount", "()I"⟩ : MethodName) prog_1_method_4_code 1 (some .int) wsC ({ frames := 0, cells := 0, slots := 0, locals := 0 } : Room) h0 #[(.ref a1)] (fun v h L => v = some (.int p2) ∧ Fr n0 L ∧ h = h0) := by
  refine own_ctr (plainFor_of_name own_pn6) ?_
  intro p e s m below meth c s₁ Bd hml0 hx hby hZ hown0 X0 e0
  have hml : c.maxLocals = 1 := hml0
  have hown : s.vm.findClass "com/example/anonutils/anonutils/Clustering" = some m.cls := hown0
  have hnm := (name_of_methodNamed Bd.named Bd.method).1
  have N0 := Fr.nil n0
  refine own_cast (own_c10_ef m a1) ?_
  refine own_go (S' := (s₁.setTop (mkF m 1 #[.val (.ref a1)] [(.ref a1)]))) (fun t_ k_ => ?_) ?_
  · refine XS.aloadN X0.here hx rfl (hb hby own_d10_0) rfl rfl ?_
    show Steps p.tables e below (s₁.setTop (mkF m 1 #[.val (.ref a1)] [(.ref a1)])) _
    exact k_
  obtain ⟨T1, X1, e1, st1⟩ := getF X0 hx hZ hown (host := "") (Or.inl (hw _ (List.mem_of_getElem? (i := 57) rfl))) Via.refl e0 F1 (g := (mkF m 1 #[.val (.ref a1)] [(.ref a1)])) rfl rfl (hb hby own_d10_1)
  refine own_go st1 ?_
  show own_Rch p e below _ (T1.setTop (mkF m 4 #[.val (.ref a1)] [(.ref b)]))
  refine own_go (own_len X1 hx hZ e1 V (g := (mkF m 4 #[.val (.ref a1)] [(.ref b)])) rfl rfl (hb hby own_d10_4)) ?_
  show own_Rch p e below _ (T1.setTop (mkF m 5 #[.val (.ref a1)] [(.int p2)]))
  refine own_retI X1 hx Bd.returns Bd.notSynchronized (hb hby own_d10_5) (by decide) (by decide) ?_
  try rw [e1]
  exact ⟨rfl, N0, rfl⟩
theorem own_d11_0 : decode prog_1_method_5_code 0 = .ok (.aload_n 0, 1) := by decide +kernel
theorem own_d11_1 : decode prog_1_method_5_code 1 = .ok (.getfield 13, 3) := by decide +kernel
theorem own_d11_4 : decode prog_1_method_5_code 4 = .ok (.ireturn, 1) := by decide +kernel
theorem own_c11_ef (m : MethodId) (x0 : Addr) : entryFrame m #[(.ref x0)] 1 = mkF m 0 #[.val (.ref x0)] [] := by first | (simp [entryFrame, mkF, argsToLocals, Value.category]; done) | rfl
set_option maxRecDepth 65536 in
set_option maxHeartbeats 40000000 in
theorem own_c11 (l : Launch) (Z : State) (a0 : Array Value) (hw : ∀ d ∈ tables_1, d.before a0 Z = true) (wsC : List Jvm.Cond) (a1 : Addr) (p2 : Int32) (h0 : Heap) (n0 : Nat) (Z0 : n0 ≤ h0.size) (F1 : Fld Z h0 a1 "com/example/anonutils/anonutils/Clustering" "count" "I" (.int p2)) :
    own_Ctr l Z (⟨"com/example/anonutils/anonutils/Clustering", "count", "()I"⟩ : MethodName) prog_1_method_5_code 1 (some .int) wsC ({ frames := 0, cells := 0, slots := 0, locals := 0 } : Room) h0 #[(.ref a1)] (fun v h L => v = some (.int p2) ∧ Fr n0 L ∧ h = h0) := by
  refine own_ctr (plainFor_of_name own_pn6) ?_
  intro p e s m below meth c s₁ Bd hml0 hx hby hZ hown0 X0 e0
  have hml : c.maxLocals = 1 := hml0
  have hown : s.vm.findClass "com/example/anonutils/anonutils/Clustering" = some m.cls := hown0
  have hnm := (name_of_methodNamed Bd.named Bd.method).1
  have N0 := Fr.nil n0
  refine own_cast (own_c11_ef m a1) ?_
  refine own_go (S' := (s₁.setTop (mkF m 1 #[.val (.ref a1)] [(.ref a1)]))) (fun t_ k_ => ?_) ?_
  · refine XS.aloadN X0.here hx rfl (hb hby own_d11_0) rfl rfl ?_
    show Steps p.tables e below (s₁.setTop (mkF m 1 #[.val (.ref a1)] [(.ref a1)])) _
    exact k_
  obtain ⟨T1, X1, e1, st1⟩ := getF X0 hx hZ hown (host := "") (Or.inl (hw _ (List.mem_of_getElem? (i := 59) rfl))) Via.refl e0 F1 (g := (mkF m 1 #[.val (.ref a1)] [(.ref a1)])) rfl rfl (hb hby own_d11_1)
  refine own_go st1 ?_
  show own_Rch p e below _ (T1.setTop (mkF m 4 #[.val (.ref a1)] [(.int p2)]))
  refine own_retI X1 hx Bd.returns Bd.notSynchronized (hb hby own_d11_4) (by decide) (by decide) ?_
  try rw [e1]
  exact ⟨rfl, N0, rfl⟩
theorem own_d22_0 : decode prog_1_method_6_code 0 = .ok (.aload_n 0, 1) := by decide +kernel
theorem own_d22_1 : decode prog_1_method_6_code 1 = .ok (.getfield 7, 3) := by decide +kernel
theorem own_d22_4 : decode prog_1_method_6_code 4 = .ok (.iload_n 1, 1) := by decide +kernel
theorem own_d22_5 : decode prog_1_method_6_code 5 = .ok (.iaload, 1) := by decide +kernel
theorem own_d22_6 : decode prog_1_method_6_code 6 = .ok (.ireturn, 1) := by decide +kernel
theorem own_c22_ef (m : MethodId) (x0 : Addr) (x1 : Int32) : entryFrame m #[(.ref x0), (.int x1)] 2 = mkF m 0 #[.val (.ref x0), .val (.int x1)] [] := by first | (simp [entryFrame, mkF, argsToLocals, Value.category]; done) | rfl
set_option maxRecDepth 65536 in
set_option maxHeartbeats 40000000 in
theorem own_c22 (l : Launch) (Z : State) (a0 : Array Value) (hw : ∀ d ∈ tables_1, d.before a0 Z = true) (wsC : List Jvm.Cond) (a1 b : Addr) (kb : ClassId) (p2 n1 r : Int32) (vs : List Value) (h0 : Heap) (n0 : Nat) (Z0 : n0 ≤ h0.size) (F1 : Fld Z h0 a1 "com/example/anonutils/anonutils/Clustering" "clusterOf" "[I" (.ref b)) (V : Arv Z h0 b kb .int n1 vs (.int 0)) (hi : ¬ p2 < 0 ∧ p2 < n1) (hv : vs.getD p2.toNatClampNeg (.int 0) = .int r) :
    own_Ctr l Z (⟨"com/example/anonutils/anonutils/Clustering", "clusterOf", "(I)I"⟩ : MethodName) prog_1_method_6_code 2 (some .int) wsC ({ frames := 0, cells := 0, slots := 0, locals := 0 } : Room) h0 #[(.ref a1), (.int p2)] (fun v h L => v = some (.int r) ∧ Fr n0 L ∧ h = h0) := by
  refine own_ctr (plainFor_of_name own_pn6) ?_
  intro p e s m below meth c s₁ Bd hml0 hx hby hZ hown0 X0 e0
  have hml : c.maxLocals = 2 := hml0
  have hown : s.vm.findClass "com/example/anonutils/anonutils/Clustering" = some m.cls := hown0
  have hnm := (name_of_methodNamed Bd.named Bd.method).1
  have N0 := Fr.nil n0
  refine own_cast (own_c22_ef m a1 p2) ?_
  refine own_go (S' := (s₁.setTop (mkF m 1 #[.val (.ref a1), .val (.int p2)] [(.ref a1)]))) (fun t_ k_ => ?_) ?_
  · refine XS.aloadN X0.here hx rfl (hb hby own_d22_0) rfl rfl ?_
    show Steps p.tables e below (s₁.setTop (mkF m 1 #[.val (.ref a1), .val (.int p2)] [(.ref a1)])) _
    exact k_
  obtain ⟨T1, X1, e1, st1⟩ := getF X0 hx hZ hown (host := "") (Or.inl (hw _ (List.mem_of_getElem? (i := 57) rfl))) Via.refl e0 F1 (g := (mkF m 1 #[.val (.ref a1), .val (.int p2)] [(.ref a1)])) rfl rfl (hb hby own_d22_1)
  refine own_go st1 ?_
  show own_Rch p e below _ (T1.setTop (mkF m 4 #[.val (.ref a1), .val (.int p2)] [(.ref b)]))
  refine own_go (S' := (T1.setTop (mkF m 5 #[.val (.ref a1), .val (.int p2)] [(.int p2), (.ref b)]))) (fun t_ k_ => ?_) ?_
  · refine XS.iloadN X1.here hx rfl (hb hby own_d22_4) rfl ?_
    show Steps p.tables e below (T1.setTop (mkF m 5 #[.val (.ref a1), .val (.int p2)] [(.int p2), (.ref b)])) _
    exact k_
  refine own_go (own_ial X1 hx hZ e1 V hi (v := (.int r)) hv (g := (mkF m 5 #[.val (.ref a1), .val (.int p2)] [(.int p2), (.ref b)])) rfl rfl (hb hby own_d22_5)) ?_
  show own_Rch p e below _ (T1.setTop (mkF m 6 #[.val (.ref a1), .val (.int p2)] [(.int r)]))
  refine own_retI X1 hx Bd.returns Bd.notSynchronized (hb hby own_d22_6) (by decide) (by decide) ?_
  try rw [e1]
  exact ⟨rfl, N0, rfl⟩
theorem own_pd7 : parseMethodDescriptor "([II)V" = some ⟨[(.array .int), .int], none⟩ := by decide +kernel
theorem own_pd8 : parseMethodDescriptor "()I" = some ⟨[], some .int⟩ := by decide +kernel
theorem own_d6_0 : decode prog_1_method_2_code 0 = .ok (.iload_n 0, 1) := by decide +kernel
theorem own_d6_1 : decode prog_1_method_2_code 1 = .ok (.newarray .int, 2) := by decide +kernel
theorem own_d6_3 : decode prog_1_method_2_code 3 = .ok (.astore_n 2, 1) := by decide +kernel
theorem own_d6_4 : decode prog_1_method_2_code 4 = .ok (.aload_n 2, 1) := by decide +kernel
theorem own_d6_5 : decode prog_1_method_2_code 5 = .ok (.iconst (-1), 1) := by decide +kernel
theorem own_d6_6 : decode prog_1_method_2_code 6 = .ok (.invokestatic 17, 3) := by decide +kernel
theorem own_d6_9 : decode prog_1_method_2_code 9 = .ok (.iconst 0, 1) := by decide +kernel
theorem own_d6_10 : decode prog_1_method_2_code 10 = .ok (.istore_n 3, 1) := by decide +kernel
theorem own_d6_11 : decode prog_1_method_2_code 11 = .ok (.iconst 0, 1) := by decide +kernel
theorem own_d6_12 : decode prog_1_method_2_code 12 = .ok (.istore 4, 2) := by decide +kernel
theorem own_d6_14 : decode prog_1_method_2_code 14 = .ok (.iload 4, 2) := by decide +kernel
theorem own_d6_16 : decode prog_1_method_2_code 16 = .ok (.aload_n 1, 1) := by decide +kernel
theorem own_d6_17 : decode prog_1_method_2_code 17 = .ok (.invokeinterface 23 1, 5) := by decide +kernel
theorem own_d6_22 : decode prog_1_method_2_code 22 = .ok (.if_icmp .ge 116, 3) := by decide +kernel
theorem own_d6_25 : decode prog_1_method_2_code 25 = .ok (.aload_n 1, 1) := by decide +kernel
theorem own_d6_26 : decode prog_1_method_2_code 26 = .ok (.iload 4, 2) := by decide +kernel
theorem own_d6_28 : decode prog_1_method_2_code 28 = .ok (.invokeinterface 29 2, 5) := by decide +kernel
theorem own_d6_33 : decode prog_1_method_2_code 33 = .ok (.checkcast 33, 3) := by decide +kernel
theorem own_d6_36 : decode prog_1_method_2_code 36 = .ok (.astore 5, 2) := by decide +kernel
theorem own_d6_38 : decode prog_1_method_2_code 38 = .ok (.aload 5, 2) := by decide +kernel
theorem own_d6_40 : decode prog_1_method_2_code 40 = .ok (.arraylength, 1) := by decide +kernel
theorem own_d6_41 : decode prog_1_method_2_code 41 = .ok (.ifCond .ne 18, 3) := by decide +kernel
theorem own_d6_59 : decode prog_1_method_2_code 59 = .ok (.aload 5, 2) := by decide +kernel
theorem own_d6_61 : decode prog_1_method_2_code 61 = .ok (.astore 6, 2) := by decide +kernel
theorem own_d6_63 : decode prog_1_method_2_code 63 = .ok (.aload 6, 2) := by decide +kernel
theorem own_d6_65 : decode prog_1_method_2_code 65 = .ok (.arraylength, 1) := by decide +kernel
theorem own_d6_66 : decode prog_1_method_2_code 66 = .ok (.istore 7, 2) := by decide +kernel
theorem own_d6_68 : decode prog_1_method_2_code 68 = .ok (.iconst 0, 1) := by decide +kernel
theorem own_d6_69 : decode prog_1_method_2_code 69 = .ok (.istore 8, 2) := by decide +kernel
theorem own_d6_71 : decode prog_1_method_2_code 71 = .ok (.iload 8, 2) := by decide +kernel
theorem own_d6_73 : decode prog_1_method_2_code 73 = .ok (.iload 7, 2) := by decide +kernel
theorem own_d6_75 : decode prog_1_method_2_code 75 = .ok (.if_icmp .ge 51, 3) := by decide +kernel
theorem own_d6_78 : decode prog_1_method_2_code 78 = .ok (.aload 6, 2) := by decide +kernel
theorem own_d6_80 : decode prog_1_method_2_code 80 = .ok (.iload 8, 2) := by decide +kernel
theorem own_d6_82 : decode prog_1_method_2_code 82 = .ok (.iaload, 1) := by decide +kernel
theorem own_d6_83 : decode prog_1_method_2_code 83 = .ok (.istore 9, 2) := by decide +kernel
theorem own_d6_85 : decode prog_1_method_2_code 85 = .ok (.aload_n 2, 1) := by decide +kernel
theorem own_d6_86 : decode prog_1_method_2_code 86 = .ok (.iload 9, 2) := by decide +kernel
theorem own_d6_88 : decode prog_1_method_2_code 88 = .ok (.iaload, 1) := by decide +kernel
theorem own_d6_89 : decode prog_1_method_2_code 89 = .ok (.iconst (-1), 1) := by decide +kernel
theorem own_d6_90 : decode prog_1_method_2_code 90 = .ok (.if_icmp .eq 24, 3) := by decide +kernel
theorem own_d6_114 : decode prog_1_method_2_code 114 = .ok (.aload_n 2, 1) := by decide +kernel
theorem own_d6_115 : decode prog_1_method_2_code 115 = .ok (.iload 9, 2) := by decide +kernel
theorem own_d6_117 : decode prog_1_method_2_code 117 = .ok (.iload 4, 2) := by decide +kernel
theorem own_d6_119 : decode prog_1_method_2_code 119 = .ok (.iastore, 1) := by decide +kernel
theorem own_d6_120 : decode prog_1_method_2_code 120 = .ok (.iinc 8 1, 3) := by decide +kernel
theorem own_d6_123 : decode prog_1_method_2_code 123 = .ok (.goto (-52), 3) := by decide +kernel
theorem own_d6_126 : decode prog_1_method_2_code 126 = .ok (.iload_n 3, 1) := by decide +kernel
theorem own_d6_127 : decode prog_1_method_2_code 127 = .ok (.aload 5, 2) := by decide +kernel
theorem own_d6_129 : decode prog_1_method_2_code 129 = .ok (.arraylength, 1) := by decide +kernel
theorem own_d6_130 : decode prog_1_method_2_code 130 = .ok (.iadd, 1) := by decide +kernel
theorem own_d6_131 : decode prog_1_method_2_code 131 = .ok (.istore_n 3, 1) := by decide +kernel
theorem own_d6_132 : decode prog_1_method_2_code 132 = .ok (.iinc 4 1, 3) := by decide +kernel
theorem own_d6_135 : decode prog_1_method_2_code 135 = .ok (.goto (-121), 3) := by decide +kernel
theorem own_d6_138 : decode prog_1_method_2_code 138 = .ok (.iload_n 3, 1) := by decide +kernel
theorem own_d6_139 : decode prog_1_method_2_code 139 = .ok (.iload_n 0, 1) := by decide +kernel
theorem own_d6_140 : decode prog_1_method_2_code 140 = .ok (.if_icmp .eq 20, 3) := by decide +kernel
theorem own_d6_160 : decode prog_1_method_2_code 160 = .ok (.new 8, 3) := by decide +kernel
theorem own_d6_163 : decode prog_1_method_2_code 163 = .ok (.dup, 1) := by decide +kernel
theorem own_d6_164 : decode prog_1_method_2_code 164 = .ok (.aload_n 2, 1) := by decide +kernel
theorem own_d6_165 : decode prog_1_method_2_code 165 = .ok (.aload_n 1, 1) := by decide +kernel
theorem own_d6_166 : decode prog_1_method_2_code 166 = .ok (.invokeinterface 23 1, 5) := by decide +kernel
theorem own_d6_171 : decode prog_1_method_2_code 171 = .ok (.invokespecial 49, 3) := by decide +kernel
theorem own_d6_174 : decode prog_1_method_2_code 174 = .ok (.areturn, 1) := by decide +kernel
theorem own_c6_ef (m : MethodId) (x0 : Int32) (x1 : Addr) : entryFrame m #[(.int x0), (.ref x1)] 10 = mkF m 0 #[.val (.int x0), .val (.ref x1), .unset, .unset, .unset, .unset, .unset, .unset, .unset, .unset] [] := by first | (simp [entryFrame, mkF, argsToLocals, Value.category]; done) | rfl
set_option maxRecDepth 65536 in
set_option maxHeartbeats 40000000 in
theorem own_c6 (l : Launch) (Z : State) (a0 : Array Value) (hw : ∀ d ∈ tables_1, d.before a0 Z = true) (wsC : List Jvm.Cond) (nn : Nat) (hn4 : nn ≤ 4) (al : Addr) (gs : List (Addr × List Int32)) (csF : List Int32) (h0 : Heap) (n0 : Nat) (Z0 : n0 ≤ h0.size) (Ls : own_Lst Z h0 al gs) (run : own_run (Int32.ofNat nn) (gs.map (·.2)) 0 0 (List.replicate nn (-1 : Int32)) = some csF) :
    own_Ctr l Z (⟨"com/example/anonutils/anonutils/Clustering", "of", "(ILjava/util/List;)Lcom/example/anonutils/anonutils/Clustering;"⟩ : MethodName) prog_1_method_2_code 10 (some (.object "com/example/anonutils/anonutils/Clustering")) wsC ({ frames := 4, cells := 2, slots := 6, locals := 80 } : Room) h0 #[(.int (Int32.ofNat nn)), (.ref al)] (fun v h L => ∃ ob b kb, v = some (.ref ob) ∧ Fr n0 L ∧ Keep h0 h [] ∧ Exa Z h ob "com/example/anonutils/anonutils/Clustering" ∧ Fld Z h ob "com/example/anonutils/anonutils/Clustering" "clusterOf" "[I" (.ref b) ∧ Fld Z h ob "com/example/anonutils/anonutils/Clustering" "count" "I" (.int (Int32.ofNat gs.length)) ∧ Arv Z h b kb .int (Int32.ofNat nn) (csF.map Value.int) (.int 0)) := by
  refine own_ctr (plainFor_of_name own_pn6) ?_
  intro p e s m below meth c s₁ Bd hml0 hx hby hZ hown0 X0 e0
  have hml : c.maxLocals = 10 := hml0
  have hown : s.vm.findClass "com/example/anonutils/anonutils/Clustering" = some m.cls := hown0
  have hnm := (name_of_methodNamed Bd.named Bd.method).1
  have N0 := Fr.nil n0
  refine own_cast (own_c6_ef m (Int32.ofNat nn) al) ?_
  refine own_go (S' := (s₁.setTop (mkF m 1 #[.val (.int (Int32.ofNat nn)), .val (.ref al), .unset, .unset, .unset, .unset, .unset, .unset, .unset, .unset] [(.int (Int32.ofNat nn))]))) (fun t_ k_ => ?_) ?_
  · refine XS.iloadN X0.here hx rfl (hb hby own_d6_0) rfl ?_
    show Steps p.tables e below (s₁.setTop (mkF m 1 #[.val (.int (Int32.ofNat nn)), .val (.ref al), .unset, .unset, .unset, .unset, .unset, .unset, .unset, .unset] [(.int (Int32.ofNat nn))])) _
    exact k_
  obtain ⟨T1, h1, k1, X1, e1, E1, A1, Ex1, st1⟩ := newPE X0 hx hZ (hw _ (List.mem_of_getElem? (i := 5) rfl)) e0 (g := (mkF m 1 #[.val (.int (Int32.ofNat nn)), .val (.ref al), .unset, .unset, .unset, .unset, .unset, .unset, .unset, .unset] [(.int (Int32.ofNat nn))])) rfl (hb hby own_d6_1) rfl (own_nat (by omega)).2.2.1 (cap := 4) (by rw [(own_nat (by omega)).2.1]; exact hn4) (by decide) (by decide) (by decide) (ad := "[I") (by decide)
  obtain ⟨b1, g1⟩ : ∃ z, z = h0.size := ⟨_, rfl⟩
  rw [← g1] at A1 Ex1 st1
  have gb1 : n0 ≤ b1 := Nat.le_trans Z0 (Nat.le_of_eq g1.symm)
  have V1 := Arv.new A1 (own_nat (by omega)).2.2.1
  refine own_go st1 ?_
  show own_Rch p e below _ (T1.setTop (mkF m 3 #[.val (.int (Int32.ofNat nn)), .val (.ref al), .unset, .unset, .unset, .unset, .unset, .unset, .unset, .unset] [(.ref b1)]))
  have Va := V1.pad (own_padz nn)
  have Z1 : n0 ≤ h1.size := Nat.le_trans Z0 E1.1
  have sb : h0.size ≤ b1 := Nat.le_of_eq g1.symm
  refine own_go (S' := (T1.setTop (mkF m 6 #[.val (.int (Int32.ofNat nn)), .val (.ref al), .val (.ref b1), .unset, .unset, .unset, .unset, .unset, .unset, .unset] [(.int (-1 : Int32)), (.ref b1)]))) (fun t_ k_ => ?_) ?_
  · refine XS.astoreN X1.here hx rfl (hb hby own_d6_3) rfl rfl (l' := #[.val (.int (Int32.ofNat nn)), .val (.ref al), .val (.ref b1), .unset, .unset, .unset, .unset, .unset, .unset, .unset]) rfl ?_
    show Steps p.tables e below (T1.setTop (mkF m 4 #[.val (.int (Int32.ofNat nn)), .val (.ref al), .val (.ref b1), .unset, .unset, .unset, .unset, .unset, .unset, .unset] [])) _
    refine XS.aloadN X1.here hx rfl (hb hby own_d6_4) rfl rfl ?_
    show Steps p.tables e below (T1.setTop (mkF m 5 #[.val (.int (Int32.ofNat nn)), .val (.ref al), .val (.ref b1), .unset, .unset, .unset, .unset, .unset, .unset, .unset] [(.ref b1)])) _
    refine XS.iconst X1.here hx rfl (hb hby own_d6_5) ?_
    show Steps p.tables e below (T1.setTop (mkF m 6 #[.val (.int (Int32.ofNat nn)), .val (.ref al), .val (.ref b1), .unset, .unset, .unset, .unset, .unset, .unset, .unset] [(.int (-1 : Int32)), (.ref b1)])) _
    exact k_
  obtain ⟨_, T2, L2, X2, ⟨rfl, N2q, K2, V2⟩, st2⟩ := own_callS X1 hx hZ (y := (⟨"java/util/Arrays", "fill", "([II)V"⟩ : MethodName)) hown (hw _ (List.mem_of_getElem? (i := 36) rfl)) (hw _ (List.mem_of_getElem? (i := 37) rfl)) (hw _ (List.mem_of_getElem? (i := 38) rfl)) (hw _ (List.mem_of_getElem? (i := 39) rfl)) (by decide) (own_c7 l Z a0 hw [] b1 k1 (-1 : Int32) nn hn4 h1 n0 Z1 Va gb1) e1 (W := 0) (by decide) (by decide) (g := (mkF m 6 #[.val (.int (Int32.ofNat nn)), .val (.ref al), .val (.ref b1), .unset, .unset, .unset, .unset, .unset, .unset, .unset] [(.int (-1 : Int32)), (.ref b1)])) rfl (by rw [hml]; rfl) (argsL := [(.ref b1), (.int (-1 : Int32))]) (rest := []) (lenOf own_pd7 rfl) rfl rfl rfl (hb hby own_d6_6) (by decide) (by decide)
  have N2 := Fr.app N0 N2q
  refine own_go st2 ?_
  show own_Rch p e below _ (T2.setTop (mkF m 9 #[.val (.int (Int32.ofNat nn)), .val (.ref al), .val (.ref b1), .unset, .unset, .unset, .unset, .unset, .unset, .unset] []))
  refine own_go (S' := (T2.setTop (mkF m 14 #[.val (.int (Int32.ofNat nn)), .val (.ref al), .val (.ref b1), .val (.int (0 : Int32)), .val (.int (0 : Int32)), .unset, .unset, .unset, .unset, .unset] []))) (fun t_ k_ => ?_) ?_
  · refine XS.iconst X2.here hx rfl (hb hby own_d6_9) ?_
    show Steps p.tables e below (T2.setTop (mkF m 10 #[.val (.int (Int32.ofNat nn)), .val (.ref al), .val (.ref b1), .unset, .unset, .unset, .unset, .unset, .unset, .unset] [(.int (0 : Int32))])) _
    refine XS.istoreN X2.here hx rfl (hb hby own_d6_10) rfl (l' := #[.val (.int (Int32.ofNat nn)), .val (.ref al), .val (.ref b1), .val (.int (0 : Int32)), .unset, .unset, .unset, .unset, .unset, .unset]) rfl ?_
    show Steps p.tables e below (T2.setTop (mkF m 11 #[.val (.int (Int32.ofNat nn)), .val (.ref al), .val (.ref b1), .val (.int (0 : Int32)), .unset, .unset, .unset, .unset, .unset, .unset] [])) _
    refine XS.iconst X2.here hx rfl (hb hby own_d6_11) ?_
    show Steps p.tables e below (T2.setTop (mkF m 12 #[.val (.int (Int32.ofNat nn)), .val (.ref al), .val (.ref b1), .val (.int (0 : Int32)), .unset, .unset, .unset, .unset, .unset, .unset] [(.int (0 : Int32))])) _
    refine XS.istore X2.here hx rfl (hb hby own_d6_12) rfl (l' := #[.val (.int (Int32.ofNat nn)), .val (.ref al), .val (.ref b1), .val (.int (0 : Int32)), .val (.int (0 : Int32)), .unset, .unset, .unset, .unset, .unset]) rfl ?_
    show Steps p.tables e below (T2.setTop (mkF m 14 #[.val (.int (Int32.ofNat nn)), .val (.ref al), .val (.ref b1), .val (.int (0 : Int32)), .val (.int (0 : Int32)), .unset, .unset, .unset, .unset, .unset] [])) _
    exact k_
  have KK : Keep h0 T2.heap [] := ((Keep.refl h0 []).ext E1).trans K2 (fun x hx => Or.inr (by cases List.mem_singleton.mp hx; exact sb))
  have J : ∀ (rest : List (Addr × List Int32)) (done : List (Addr × List Int32)) (cs : List Int32) (pl : Int32) (s5 s6 s7 s8 s9 : Slot) (TJ : State) (lcJ : List Loc) (hJ : Heap) (XJ : Stand p l e ({ frames := 4, cells := 2, slots := 6, locals := 80 } : Room) s m #[(.int (Int32.ofNat nn)), (.ref al)] below meth c TJ lcJ 1 4) (eJ : TJ.heap = hJ) (NJ : Fr n0 lcJ) (hg : gs = done ++ rest) (KJ : Keep h0 hJ []) (VJ : Arv Z hJ b1 k1 .int (Int32.ofNat nn) (cs.map Value.int) (.int 0)) (hl : cs.length = nn) (rn : own_run (Int32.ofNat nn) (rest.map (·.2)) (Int32.ofNat done.length) pl cs = some csF) (o5 : One s5) (o6 : One s6) (o7 : One s7) (o8 : One s8) (o9 : One s9), own_Rch p e below (own_Fin s ({ frames := 4, cells := 2, slots := 6, locals := 80 } : Room).cells ({ frames := 4, cells := 2, slots := 6, locals := 80 } : Room).slots (fun v h L => ∃ ob b kb, v = some (.ref ob) ∧ Fr n0 L ∧ Keep h0 h [] ∧ Exa Z h ob "com/example/anonutils/anonutils/Clustering" ∧ Fld Z h ob "com/example/anonutils/anonutils/Clustering" "clusterOf" "[I" (.ref b) ∧ Fld Z h ob "com/example/anonutils/anonutils/Clustering" "count" "I" (.int (Int32.ofNat gs.length)) ∧ Arv Z h b kb .int (Int32.ofNat nn) (csF.map Value.int) (.int 0))) (TJ.setTop (mkF m 14 #[.val (.int (Int32.ofNat nn)), .val (.ref al), .val (.ref b1), .val (.int pl), .val (.int (Int32.ofNat done.length)), s5, s6, s7, s8, s9] [])) := by
    intro rest
    induction rest with
    | nil =>
      intro done cs pl s5 s6 s7 s8 s9 TJ lcJ hJ XJ eJ NJ hg KJ VJ hl rn o5 o6 o7 o8 o9
      simp only [List.append_nil] at hg
      obtain ⟨hpl, hcs⟩ := own_run_nil rn
      obtain ⟨EJ, FJ, q4, AJ, ed, ke, cap, vs, F2, V2, hcap, hrefs⟩ := Ls.keep KJ
      have ZJ : n0 ≤ hJ.size := Nat.le_trans Z0 KJ.1
      refine own_go (S' := (TJ.setTop (mkF m 17 #[.val (.int (Int32.ofNat nn)), .val (.ref al), .val (.ref b1), .val (.int pl), .val (.int (Int32.ofNat done.length)), s5, s6, s7, s8, s9] [(.ref al), (.int (Int32.ofNat done.length))]))) (fun t_ k_ => ?_) ?_
      · refine XS.iload XJ.here hx rfl (hb hby own_d6_14) rfl ?_
        show Steps p.tables e below (TJ.setTop (mkF m 16 #[.val (.int (Int32.ofNat nn)), .val (.ref al), .val (.ref b1), .val (.int pl), .val (.int (Int32.ofNat done.length)), s5, s6, s7, s8, s9] [(.int (Int32.ofNat done.length))])) _
        refine XS.aloadN XJ.here hx rfl (hb hby own_d6_16) rfl rfl ?_
        show Steps p.tables e below (TJ.setTop (mkF m 17 #[.val (.int (Int32.ofNat nn)), .val (.ref al), .val (.ref b1), .val (.int pl), .val (.int (Int32.ofNat done.length)), s5, s6, s7, s8, s9] [(.ref al), (.int (Int32.ofNat done.length))])) _
        exact k_
      obtain ⟨_, T3, L3, X3, ⟨rfl, N3q, k3⟩, st3⟩ := own_callI XJ hx hZ (y := (⟨"java/util/List", "size", "()I"⟩ : MethodName)) (z := (⟨"java/util/ArrayList", "size", "()I"⟩ : MethodName)) (C := "java/util/ArrayList") hown (hw _ (List.mem_of_getElem? (i := 40) rfl)) (hw _ (List.mem_of_getElem? (i := 41) rfl)) (hw _ (List.mem_of_getElem? (i := 42) rfl)) (hw _ (List.mem_of_getElem? (i := 43) rfl)) (hw _ (List.mem_of_getElem? (i := 44) rfl)) (hw _ (List.mem_of_getElem? (i := 45) rfl)) (hw _ (List.mem_of_getElem? (i := 46) rfl)) (hw _ (List.mem_of_getElem? (i := 47) rfl)) (hw _ (List.mem_of_getElem? (i := 8) rfl)) (hw _ (List.mem_of_getElem? (i := 48) rfl)) (by decide) (own_c8 l Z a0 hw [] al (Int32.ofNat gs.length) hJ n0 ZJ FJ) eJ EJ (W := 1) (by decide) (by decide) (g := (mkF m 17 #[.val (.int (Int32.ofNat nn)), .val (.ref al), .val (.ref b1), .val (.int pl), .val (.int (Int32.ofNat done.length)), s5, s6, s7, s8, s9] [(.ref al), (.int (Int32.ofNat done.length))])) rfl (by rw [hml]; rfl) (argsL := []) (rest := [(.int (Int32.ofNat done.length))]) (lenOf own_pd8 rfl) rfl rfl rfl (hb hby own_d6_17) (by decide) (by decide)
      have N3 := Fr.app NJ N3q
      refine own_go st3 ?_
      show own_Rch p e below _ (T3.setTop (mkF m 22 #[.val (.int (Int32.ofNat nn)), .val (.ref al), .val (.ref b1), .val (.int pl), .val (.int (Int32.ofNat done.length)), s5, s6, s7, s8, s9] [(.int (Int32.ofNat gs.length)), (.int (Int32.ofNat done.length))]))
      refine own_go (S' := (T3.setTop (mkF m 140 #[.val (.int (Int32.ofNat nn)), .val (.ref al), .val (.ref b1), .val (.int pl), .val (.int (Int32.ofNat done.length)), s5, s6, s7, s8, s9] [(.int (Int32.ofNat nn)), (.int pl)]))) (fun t_ k_ => ?_) ?_
      · refine XS.icmpYes X3.here hx rfl (pc0 := 22) (pc' := 138) rfl (hb hby own_d6_22) rfl (flt (by rw [hg]; exact own_irr _)).2.1 (by decide) (by decide) ?_
        show Steps p.tables e below (T3.setTop (mkF m 138 #[.val (.int (Int32.ofNat nn)), .val (.ref al), .val (.ref b1), .val (.int pl), .val (.int (Int32.ofNat done.length)), s5, s6, s7, s8, s9] [])) _
        refine XS.iloadN X3.here hx rfl (hb hby own_d6_138) rfl ?_
        show Steps p.tables e below (T3.setTop (mkF m 139 #[.val (.int (Int32.ofNat nn)), .val (.ref al), .val (.ref b1), .val (.int pl), .val (.int (Int32.ofNat done.length)), s5, s6, s7, s8, s9] [(.int pl)])) _
        refine XS.iloadN X3.here hx rfl (hb hby own_d6_139) rfl ?_
        show Steps p.tables e below (T3.setTop (mkF m 140 #[.val (.int (Int32.ofNat nn)), .val (.ref al), .val (.ref b1), .val (.int pl), .val (.int (Int32.ofNat done.length)), s5, s6, s7, s8, s9] [(.int (Int32.ofNat nn)), (.int pl)])) _
        exact k_
      refine own_go (S' := (T3.setTop (mkF m 160 #[.val (.int (Int32.ofNat nn)), .val (.ref al), .val (.ref b1), .val (.int pl), .val (.int (Int32.ofNat done.length)), s5, s6, s7, s8, s9] []))) (fun t_ k_ => ?_) ?_
      · refine XS.icmpYes X3.here hx rfl (pc0 := 140) (pc' := 160) rfl (hb hby own_d6_140) rfl (teq hpl).1 (by decide) (by decide) ?_
        show Steps p.tables e below (T3.setTop (mkF m 160 #[.val (.int (Int32.ofNat nn)), .val (.ref al), .val (.ref b1), .val (.int pl), .val (.int (Int32.ofNat done.length)), s5, s6, s7, s8, s9] [])) _
        exact k_
      have KJ1 := KJ
      have VJ1 := VJ
      have ZJ1 := ZJ
      rw [← k3] at KJ1 VJ1 ZJ1
      obtain ⟨T4, h4, X4, e4, E4, A4, D4, -, st4⟩ := newO X3 hx hZ hown (hw _ (List.mem_of_getElem? (i := 51) rfl)) (hw _ (List.mem_of_getElem? (i := 52) rfl)) (hw _ (List.mem_of_getElem? (i := 34) rfl)) rfl (g := (mkF m 160 #[.val (.int (Int32.ofNat nn)), .val (.ref al), .val (.ref b1), .val (.int pl), .val (.int (Int32.ofNat done.length)), s5, s6, s7, s8, s9] [])) rfl (hb hby own_d6_160) (by decide) (by decide)
      obtain ⟨b4, g4⟩ : ∃ z, z = T3.heap.size := ⟨_, rfl⟩
      rw [← g4] at A4 D4 st4
      have gb4 : n0 ≤ b4 := Nat.le_trans ZJ1 (Nat.le_of_eq g4.symm)
      refine own_go st4 ?_
      show own_Rch p e below _ (T4.setTop (mkF m 163 #[.val (.int (Int32.ofNat nn)), .val (.ref al), .val (.ref b1), .val (.int pl), .val (.int (Int32.ofNat done.length)), s5, s6, s7, s8, s9] [(.ref b4)]))
      refine own_go (S' := (T4.setTop (mkF m 166 #[.val (.int (Int32.ofNat nn)), .val (.ref al), .val (.ref b1), .val (.int pl), .val (.int (Int32.ofNat done.length)), s5, s6, s7, s8, s9] [(.ref al), (.ref b1), (.ref b4), (.ref b4)]))) (fun t_ k_ => ?_) ?_
      · refine XS.dup X4.here hx rfl (hb hby own_d6_163) rfl rfl ?_
        show Steps p.tables e below (T4.setTop (mkF m 164 #[.val (.int (Int32.ofNat nn)), .val (.ref al), .val (.ref b1), .val (.int pl), .val (.int (Int32.ofNat done.length)), s5, s6, s7, s8, s9] [(.ref b4), (.ref b4)])) _
        refine XS.aloadN X4.here hx rfl (hb hby own_d6_164) rfl rfl ?_
        show Steps p.tables e below (T4.setTop (mkF m 165 #[.val (.int (Int32.ofNat nn)), .val (.ref al), .val (.ref b1), .val (.int pl), .val (.int (Int32.ofNat done.length)), s5, s6, s7, s8, s9] [(.ref b1), (.ref b4), (.ref b4)])) _
        refine XS.aloadN X4.here hx rfl (hb hby own_d6_165) rfl rfl ?_
        show Steps p.tables e below (T4.setTop (mkF m 166 #[.val (.int (Int32.ofNat nn)), .val (.ref al), .val (.ref b1), .val (.int pl), .val (.int (Int32.ofNat done.length)), s5, s6, s7, s8, s9] [(.ref al), (.ref b1), (.ref b4), (.ref b4)])) _
        exact k_
      have KJ2 := KJ1.ext E4
      obtain ⟨EJa, FJa, q4a, AJa, eda, kea, capa, vsa, F2a, V2a, hcapa, hrefsa⟩ := Ls.keep KJ2
      have ZJ2 : n0 ≤ h4.size := Nat.le_trans ZJ1 E4.1
      obtain ⟨_, T5, L5, X5, ⟨rfl, N5q, k5⟩, st5⟩ := own_callI X4 hx hZ (y := (⟨"java/util/List", "size", "()I"⟩ : MethodName)) (z := (⟨"java/util/ArrayList", "size", "()I"⟩ : MethodName)) (C := "java/util/ArrayList") hown (hw _ (List.mem_of_getElem? (i := 40) rfl)) (hw _ (List.mem_of_getElem? (i := 41) rfl)) (hw _ (List.mem_of_getElem? (i := 42) rfl)) (hw _ (List.mem_of_getElem? (i := 43) rfl)) (hw _ (List.mem_of_getElem? (i := 44) rfl)) (hw _ (List.mem_of_getElem? (i := 45) rfl)) (hw _ (List.mem_of_getElem? (i := 46) rfl)) (hw _ (List.mem_of_getElem? (i := 47) rfl)) (hw _ (List.mem_of_getElem? (i := 8) rfl)) (hw _ (List.mem_of_getElem? (i := 48) rfl)) (by decide) (own_c8 l Z a0 hw [] al (Int32.ofNat gs.length) h4 n0 ZJ2 FJa) e4 EJa (W := 3) (by decide) (by decide) (g := (mkF m 166 #[.val (.int (Int32.ofNat nn)), .val (.ref al), .val (.ref b1), .val (.int pl), .val (.int (Int32.ofNat done.length)), s5, s6, s7, s8, s9] [(.ref al), (.ref b1), (.ref b4), (.ref b4)])) rfl (by rw [hml]; rfl) (argsL := []) (rest := [(.ref b1), (.ref b4), (.ref b4)]) (lenOf own_pd8 rfl) rfl rfl rfl (hb hby own_d6_166) (by decide) (by decide)
      have N5 := Fr.app N3 N5q
      refine own_go st5 ?_
      show own_Rch p e below _ (T5.setTop (mkF m 171 #[.val (.int (Int32.ofNat nn)), .val (.ref al), .val (.ref b1), .val (.int pl), .val (.int (Int32.ofNat done.length)), s5, s6, s7, s8, s9] [(.int (Int32.ofNat gs.length)), (.ref b1), (.ref b4), (.ref b4)]))
      have D_clusterOf : Fld Z h4 b4 "com/example/anonutils/anonutils/Clustering" "clusterOf" "[I" .null := D4 (Or.inr (hw _ (List.mem_of_getElem? (i := 58) rfl))) (ty := (.array .int)) (by decide)
      have D_count : Fld Z h4 b4 "com/example/anonutils/anonutils/Clustering" "count" "I" (.int 0) := D4 (Or.inr (hw _ (List.mem_of_getElem? (i := 60) rfl))) (ty := .int) (by decide)
      have A_ := A4
      rw [← k5] at D_clusterOf D_count A_ ZJ2
      obtain ⟨_, T6, L6, X6, ⟨rfl, N6q, K6, E6, Fa6, Fb6⟩, st6⟩ := own_callC X5 hx hZ (y := (⟨"com/example/anonutils/anonutils/Clustering", "<init>", "([II)V"⟩ : MethodName)) rfl hown (hw _ (List.mem_of_getElem? (i := 53) rfl)) (hw _ (List.mem_of_getElem? (i := 54) rfl)) (hw _ (List.mem_of_getElem? (i := 34) rfl)) (hw _ (List.mem_of_getElem? (i := 55) rfl)) (by decide) (own_c9 l Z a0 hw [] b4 b1 (Int32.ofNat gs.length) T5.heap n0 ZJ2 D_clusterOf D_count A_ gb4) rfl (a := b4) (W := 1) (by decide) (by decide) (g := (mkF m 171 #[.val (.int (Int32.ofNat nn)), .val (.ref al), .val (.ref b1), .val (.int pl), .val (.int (Int32.ofNat done.length)), s5, s6, s7, s8, s9] [(.int (Int32.ofNat gs.length)), (.ref b1), (.ref b4), (.ref b4)])) rfl (by rw [hml]; rfl) (argsL := [(.ref b1), (.int (Int32.ofNat gs.length))]) (rest := [(.ref b4)]) (lenOf own_pd7 rfl) rfl rfl rfl (hb hby own_d6_171) (by decide) (by decide)
      have N6 := Fr.app N5 N6q
      refine own_go st6 ?_
      show own_Rch p e below _ (T6.setTop (mkF m 174 #[.val (.int (Int32.ofNat nn)), .val (.ref al), .val (.ref b1), .val (.int pl), .val (.int (Int32.ofNat done.length)), s5, s6, s7, s8, s9] [(.ref b4)]))
      have szb : h0.size ≤ b4 := Nat.le_trans KJ1.1 (Nat.le_of_eq g4.symm)
      have KJ3 : Keep h0 T6.heap [] := by rw [← k5] at KJ2; exact KJ2.trans K6 (fun x hx => Or.inr (by cases List.mem_singleton.mp hx; exact szb))
      have nb : b1 ≠ b4 := Nat.ne_of_lt (Nat.lt_of_lt_of_le VJ1.lt (Nat.le_of_eq g4.symm))
      have VJ3 := ((by rw [k5]; exact VJ1.ext E4 : Arv Z T5.heap b1 k1 .int (Int32.ofNat nn) (cs.map Value.int) (.int 0))).keep K6 (ninS nb nin0)
      refine own_retA X6 hx Bd.returns Bd.notSynchronized rfl rfl rfl (hb hby own_d6_174) (by decide) (by decide) ?_
      exact ⟨b4, b1, k1, rfl, N6, KJ3, E6, Fa6, Fb6, hcs ▸ VJ3⟩
    | cons g rest ih =>
      intro done cs pl s5 s6 s7 s8 s9 TJ lcJ hJ XJ eJ NJ hg KJ VJ hl rn o5 o6 o7 o8 o9
      obtain ⟨hne, cs', hplc, hrun⟩ := own_run_cons rn
      obtain ⟨EJ, FJ, q4, AJ, ed, ke, cap, vs, F2, V2, hcap, hrefs⟩ := Ls.keep KJ
      have ZJ : n0 ≤ hJ.size := Nat.le_trans Z0 KJ.1
      have hlen : gs.length = done.length + 1 + rest.length := by rw [hg]; simp; omega
      have hd : done.length ≤ 10 := by omega
      have hgl : gs.length ≤ 10 := by omega
      have hlt : (Int32.ofNat done.length) < Int32.ofNat gs.length := (own_ltN hd hgl).mpr (by omega)
      have hmem : g ∈ gs := by rw [hg]; simp
      obtain ⟨EG0, kg, vg, VG0, hg4, hvg⟩ := Ls.2.2.2.1 g hmem
      have EG := EG0.keep KJ
      have VG := VG0.keep KJ nin0
      have hg10 : g.2.length ≤ 10 := by omega
      have hg0 : g.2.length ≠ 0 := fun q => hne (List.eq_nil_of_length_eq_zero q)
      refine own_go (S' := (TJ.setTop (mkF m 17 #[.val (.int (Int32.ofNat nn)), .val (.ref al), .val (.ref b1), .val (.int pl), .val (.int (Int32.ofNat done.length)), s5, s6, s7, s8, s9] [(.ref al), (.int (Int32.ofNat done.length))]))) (fun t_ k_ => ?_) ?_
      · refine XS.iload XJ.here hx rfl (hb hby own_d6_14) rfl ?_
        show Steps p.tables e below (TJ.setTop (mkF m 16 #[.val (.int (Int32.ofNat nn)), .val (.ref al), .val (.ref b1), .val (.int pl), .val (.int (Int32.ofNat done.length)), s5, s6, s7, s8, s9] [(.int (Int32.ofNat done.length))])) _
        refine XS.aloadN XJ.here hx rfl (hb hby own_d6_16) rfl rfl ?_
        show Steps p.tables e below (TJ.setTop (mkF m 17 #[.val (.int (Int32.ofNat nn)), .val (.ref al), .val (.ref b1), .val (.int pl), .val (.int (Int32.ofNat done.length)), s5, s6, s7, s8, s9] [(.ref al), (.int (Int32.ofNat done.length))])) _
        exact k_
      obtain ⟨_, T7, L7, X7, ⟨rfl, N7q, k7⟩, st7⟩ := own_callI XJ hx hZ (y := (⟨"java/util/List", "size", "()I"⟩ : MethodName)) (z := (⟨"java/util/ArrayList", "size", "()I"⟩ : MethodName)) (C := "java/util/ArrayList") hown (hw _ (List.mem_of_getElem? (i := 40) rfl)) (hw _ (List.mem_of_getElem? (i := 41) rfl)) (hw _ (List.mem_of_getElem? (i := 42) rfl)) (hw _ (List.mem_of_getElem? (i := 43) rfl)) (hw _ (List.mem_of_getElem? (i := 44) rfl)) (hw _ (List.mem_of_getElem? (i := 45) rfl)) (hw _ (List.mem_of_getElem? (i := 46) rfl)) (hw _ (List.mem_of_getElem? (i := 47) rfl)) (hw _ (List.mem_of_getElem? (i := 8) rfl)) (hw _ (List.mem_of_getElem? (i := 48) rfl)) (by decide) (own_c8 l Z a0 hw [] al (Int32.ofNat gs.length) hJ n0 ZJ FJ) eJ EJ (W := 1) (by decide) (by decide) (g := (mkF m 17 #[.val (.int (Int32.ofNat nn)), .val (.ref al), .val (.ref b1), .val (.int pl), .val (.int (Int32.ofNat done.length)), s5, s6, s7, s8, s9] [(.ref al), (.int (Int32.ofNat done.length))])) rfl (by rw [hml]; rfl) (argsL := []) (rest := [(.int (Int32.ofNat done.length))]) (lenOf own_pd8 rfl) rfl rfl rfl (hb hby own_d6_17) (by decide) (by decide)
      have N7 := Fr.app NJ N7q
      refine own_go st7 ?_
      show own_Rch p e below _ (T7.setTop (mkF m 22 #[.val (.int (Int32.ofNat nn)), .val (.ref al), .val (.ref b1), .val (.int pl), .val (.int (Int32.ofNat done.length)), s5, s6, s7, s8, s9] [(.int (Int32.ofNat gs.length)), (.int (Int32.ofNat done.length))]))
      refine own_go (S' := (T7.setTop (mkF m 28 #[.val (.int (Int32.ofNat nn)), .val (.ref al), .val (.ref b1), .val (.int pl), .val (.int (Int32.ofNat done.length)), s5, s6, s7, s8, s9] [(.int (Int32.ofNat done.length)), (.ref al)]))) (fun t_ k_ => ?_) ?_
      · refine XS.icmpNo X7.here hx rfl (hb hby own_d6_22) rfl (tlt hlt).2.1 ?_
        show Steps p.tables e below (T7.setTop (mkF m 25 #[.val (.int (Int32.ofNat nn)), .val (.ref al), .val (.ref b1), .val (.int pl), .val (.int (Int32.ofNat done.length)), s5, s6, s7, s8, s9] [])) _
        refine XS.aloadN X7.here hx rfl (hb hby own_d6_25) rfl rfl ?_
        show Steps p.tables e below (T7.setTop (mkF m 26 #[.val (.int (Int32.ofNat nn)), .val (.ref al), .val (.ref b1), .val (.int pl), .val (.int (Int32.ofNat done.length)), s5, s6, s7, s8, s9] [(.ref al)])) _
        refine XS.iload X7.here hx rfl (hb hby own_d6_26) rfl ?_
        show Steps p.tables e below (T7.setTop (mkF m 28 #[.val (.int (Int32.ofNat nn)), .val (.ref al), .val (.ref b1), .val (.int pl), .val (.int (Int32.ofNat done.length)), s5, s6, s7, s8, s9] [(.int (Int32.ofNat done.length)), (.ref al)])) _
        exact k_
      rw [← k7] at FJ F2 V2 EJ ZJ
      obtain ⟨_, T8, L8, X8, ⟨rfl, N8q, k8⟩, st8⟩ := own_callI X7 hx hZ (y := (⟨"java/util/List", "get", "(I)Ljava/lang/Object;"⟩ : MethodName)) (z := (⟨"java/util/ArrayList", "get", "(I)Ljava/lang/Object;"⟩ : MethodName)) (C := "java/util/ArrayList") hown (hw _ (List.mem_of_getElem? (i := 107) rfl)) (hw _ (List.mem_of_getElem? (i := 108) rfl)) (hw _ (List.mem_of_getElem? (i := 109) rfl)) (hw _ (List.mem_of_getElem? (i := 110) rfl)) (hw _ (List.mem_of_getElem? (i := 111) rfl)) (hw _ (List.mem_of_getElem? (i := 112) rfl)) (hw _ (List.mem_of_getElem? (i := 113) rfl)) (hw _ (List.mem_of_getElem? (i := 47) rfl)) (hw _ (List.mem_of_getElem? (i := 8) rfl)) (hw _ (List.mem_of_getElem? (i := 114) rfl)) (by decide) (own_c18 l Z a0 hw [] al (Int32.ofNat gs.length) ed ke cap (Int32.ofNat done.length) vs g.1 T7.heap n0 ZJ F2 V2 (own_nat hd).2.2.1 (hcap _ (by omega)) (by rw [(own_nat hd).2.1]; exact hrefs _ _ (by rw [hg]; simp)) FJ hlt EJ) rfl EJ (W := 0) (by decide) (by decide) (g := (mkF m 28 #[.val (.int (Int32.ofNat nn)), .val (.ref al), .val (.ref b1), .val (.int pl), .val (.int (Int32.ofNat done.length)), s5, s6, s7, s8, s9] [(.int (Int32.ofNat done.length)), (.ref al)])) rfl (by rw [hml]; rfl) (argsL := [(.int (Int32.ofNat done.length))]) (rest := []) (lenOf own_pd6 rfl) rfl rfl rfl (hb hby own_d6_28) (by decide) (by decide)
      have N8 := Fr.app N7 N8q
      refine own_go st8 ?_
      show own_Rch p e below _ (T8.setTop (mkF m 33 #[.val (.int (Int32.ofNat nn)), .val (.ref al), .val (.ref b1), .val (.int pl), .val (.int (Int32.ofNat done.length)), s5, s6, s7, s8, s9] [(.ref g.1)]))
      have VG1 := VG
      rw [← k7, ← k8] at EG VG1
      obtain ⟨T9, X9, e9, st9⟩ := castY X8 hx hZ hown (hw _ (List.mem_of_getElem? (i := 128) rfl)) (rfl : T8.heap = T8.heap) (Ins.self EG) (g := (mkF m 33 #[.val (.int (Int32.ofNat nn)), .val (.ref al), .val (.ref b1), .val (.int pl), .val (.int (Int32.ofNat done.length)), s5, s6, s7, s8, s9] [(.ref g.1)])) rfl rfl (hb hby own_d6_33)
      refine own_go st9 ?_
      show own_Rch p e below _ (T9.setTop (mkF m 36 #[.val (.int (Int32.ofNat nn)), .val (.ref al), .val (.ref b1), .val (.int pl), .val (.int (Int32.ofNat done.length)), s5, s6, s7, s8, s9] [(.ref g.1)]))
      refine own_go (S' := (T9.setTop (mkF m 40 #[.val (.int (Int32.ofNat nn)), .val (.ref al), .val (.ref b1), .val (.int pl), .val (.int (Int32.ofNat done.length)), .val (.ref g.1), s6, s7, s8, s9] [(.ref g.1)]))) (fun t_ k_ => ?_) ?_
      · refine XS.astoreS X9.here hx rfl (hb hby own_d6_36) rfl rfl rfl rfl o5 ?_
        show Steps p.tables e below (T9.setTop (mkF m 38 #[.val (.int (Int32.ofNat nn)), .val (.ref al), .val (.ref b1), .val (.int pl), .val (.int (Int32.ofNat done.length)), .val (.ref g.1), s6, s7, s8, s9] [])) _
        refine XS.aload X9.here hx rfl (hb hby own_d6_38) rfl rfl ?_
        show Steps p.tables e below (T9.setTop (mkF m 40 #[.val (.int (Int32.ofNat nn)), .val (.ref al), .val (.ref b1), .val (.int pl), .val (.int (Int32.ofNat done.length)), .val (.ref g.1), s6, s7, s8, s9] [(.ref g.1)])) _
        exact k_
      refine own_go (own_len X9 hx hZ e9 VG1 (g := (mkF m 40 #[.val (.int (Int32.ofNat nn)), .val (.ref al), .val (.ref b1), .val (.int pl), .val (.int (Int32.ofNat done.length)), .val (.ref g.1), s6, s7, s8, s9] [(.ref g.1)])) rfl rfl (hb hby own_d6_40)) ?_
      show own_Rch p e below _ (T9.setTop (mkF m 41 #[.val (.int (Int32.ofNat nn)), .val (.ref al), .val (.ref b1), .val (.int pl), .val (.int (Int32.ofNat done.length)), .val (.ref g.1), s6, s7, s8, s9] [(.int (Int32.ofNat g.2.length))]))
      refine own_go (S' := (T9.setTop (mkF m 65 #[.val (.int (Int32.ofNat nn)), .val (.ref al), .val (.ref b1), .val (.int pl), .val (.int (Int32.ofNat done.length)), .val (.ref g.1), .val (.ref g.1), s7, s8, s9] [(.ref g.1)]))) (fun t_ k_ => ?_) ?_
      · refine XS.ifYes X9.here hx rfl (pc0 := 41) (pc' := 59) rfl (hb hby own_d6_41) rfl ((if0 _ _).trans (feq (own_neN hg10 hg0)).2) (by decide) (by decide) ?_
        show Steps p.tables e below (T9.setTop (mkF m 59 #[.val (.int (Int32.ofNat nn)), .val (.ref al), .val (.ref b1), .val (.int pl), .val (.int (Int32.ofNat done.length)), .val (.ref g.1), s6, s7, s8, s9] [])) _
        refine XS.aload X9.here hx rfl (hb hby own_d6_59) rfl rfl ?_
        show Steps p.tables e below (T9.setTop (mkF m 61 #[.val (.int (Int32.ofNat nn)), .val (.ref al), .val (.ref b1), .val (.int pl), .val (.int (Int32.ofNat done.length)), .val (.ref g.1), s6, s7, s8, s9] [(.ref g.1)])) _
        refine XS.astoreS X9.here hx rfl (hb hby own_d6_61) rfl rfl rfl rfl o6 ?_
        show Steps p.tables e below (T9.setTop (mkF m 63 #[.val (.int (Int32.ofNat nn)), .val (.ref al), .val (.ref b1), .val (.int pl), .val (.int (Int32.ofNat done.length)), .val (.ref g.1), .val (.ref g.1), s7, s8, s9] [])) _
        refine XS.aload X9.here hx rfl (hb hby own_d6_63) rfl rfl ?_
        show Steps p.tables e below (T9.setTop (mkF m 65 #[.val (.int (Int32.ofNat nn)), .val (.ref al), .val (.ref b1), .val (.int pl), .val (.int (Int32.ofNat done.length)), .val (.ref g.1), .val (.ref g.1), s7, s8, s9] [(.ref g.1)])) _
        exact k_
      refine own_go (own_len X9 hx hZ e9 VG1 (g := (mkF m 65 #[.val (.int (Int32.ofNat nn)), .val (.ref al), .val (.ref b1), .val (.int pl), .val (.int (Int32.ofNat done.length)), .val (.ref g.1), .val (.ref g.1), s7, s8, s9] [(.ref g.1)])) rfl rfl (hb hby own_d6_65)) ?_
      show own_Rch p e below _ (T9.setTop (mkF m 66 #[.val (.int (Int32.ofNat nn)), .val (.ref al), .val (.ref b1), .val (.int pl), .val (.int (Int32.ofNat done.length)), .val (.ref g.1), .val (.ref g.1), s7, s8, s9] [(.int (Int32.ofNat g.2.length))]))
      refine own_go (S' := (T9.setTop (mkF m 71 #[.val (.int (Int32.ofNat nn)), .val (.ref al), .val (.ref b1), .val (.int pl), .val (.int (Int32.ofNat done.length)), .val (.ref g.1), .val (.ref g.1), .val (.int (Int32.ofNat g.2.length)), .val (.int (0 : Int32)), s9] []))) (fun t_ k_ => ?_) ?_
      · refine XS.istoreS X9.here hx rfl (hb hby own_d6_66) rfl rfl o7 ?_
        show Steps p.tables e below (T9.setTop (mkF m 68 #[.val (.int (Int32.ofNat nn)), .val (.ref al), .val (.ref b1), .val (.int pl), .val (.int (Int32.ofNat done.length)), .val (.ref g.1), .val (.ref g.1), .val (.int (Int32.ofNat g.2.length)), s8, s9] [])) _
        refine XS.iconst X9.here hx rfl (hb hby own_d6_68) ?_
        show Steps p.tables e below (T9.setTop (mkF m 69 #[.val (.int (Int32.ofNat nn)), .val (.ref al), .val (.ref b1), .val (.int pl), .val (.int (Int32.ofNat done.length)), .val (.ref g.1), .val (.ref g.1), .val (.int (Int32.ofNat g.2.length)), s8, s9] [(.int (0 : Int32))])) _
        refine XS.istoreS X9.here hx rfl (hb hby own_d6_69) rfl rfl o8 ?_
        show Steps p.tables e below (T9.setTop (mkF m 71 #[.val (.int (Int32.ofNat nn)), .val (.ref al), .val (.ref b1), .val (.int pl), .val (.int (Int32.ofNat done.length)), .val (.ref g.1), .val (.ref g.1), .val (.int (Int32.ofNat g.2.length)), .val (.int (0 : Int32)), s9] [])) _
        exact k_
      have KJ1 := KJ
      have VJ1 := VJ
      rw [← k7, ← k8] at KJ1 VJ1
      have eH : T9.heap = T8.heap := e9
      have Q : ∀ (TQ : State) (lcQ : List Loc) (hQ : Heap) (i8 : Int32) (s9q : Slot) (XQ : Stand p l e ({ frames := 4, cells := 2, slots := 6, locals := 80 } : Room) s m #[(.int (Int32.ofNat nn)), (.ref al)] below meth c TQ lcQ 1 4) (eQ : TQ.heap = hQ) (NQ : Fr n0 lcQ) (KQ : Keep h0 hQ []) (VQ : Arv Z hQ b1 k1 .int (Int32.ofNat nn) (cs'.map Value.int) (.int 0)) (hlQ : cs'.length = nn) (o9q : One s9q), own_Rch p e below (own_Fin s ({ frames := 4, cells := 2, slots := 6, locals := 80 } : Room).cells ({ frames := 4, cells := 2, slots := 6, locals := 80 } : Room).slots (fun v h L => ∃ ob b kb, v = some (.ref ob) ∧ Fr n0 L ∧ Keep h0 h [] ∧ Exa Z h ob "com/example/anonutils/anonutils/Clustering" ∧ Fld Z h ob "com/example/anonutils/anonutils/Clustering" "clusterOf" "[I" (.ref b) ∧ Fld Z h ob "com/example/anonutils/anonutils/Clustering" "count" "I" (.int (Int32.ofNat gs.length)) ∧ Arv Z h b kb .int (Int32.ofNat nn) (csF.map Value.int) (.int 0))) (TQ.setTop (mkF m 126 #[.val (.int (Int32.ofNat nn)), .val (.ref al), .val (.ref b1), .val (.int pl), .val (.int (Int32.ofNat done.length)), .val (.ref g.1), .val (.ref g.1), .val (.int (Int32.ofNat g.2.length)), .val (.int i8), s9q] [])) := by
        intro TQ lcQ hQ i8 s9q XQ eQ NQ KQ VQ hlQ o9q
        refine own_go (S' := (TQ.setTop (mkF m 129 #[.val (.int (Int32.ofNat nn)), .val (.ref al), .val (.ref b1), .val (.int pl), .val (.int (Int32.ofNat done.length)), .val (.ref g.1), .val (.ref g.1), .val (.int (Int32.ofNat g.2.length)), .val (.int i8), s9q] [(.ref g.1), (.int pl)]))) (fun t_ k_ => ?_) ?_
        · refine XS.iloadN XQ.here hx rfl (hb hby own_d6_126) rfl ?_
          show Steps p.tables e below (TQ.setTop (mkF m 127 #[.val (.int (Int32.ofNat nn)), .val (.ref al), .val (.ref b1), .val (.int pl), .val (.int (Int32.ofNat done.length)), .val (.ref g.1), .val (.ref g.1), .val (.int (Int32.ofNat g.2.length)), .val (.int i8), s9q] [(.int pl)])) _
          refine XS.aload XQ.here hx rfl (hb hby own_d6_127) rfl rfl ?_
          show Steps p.tables e below (TQ.setTop (mkF m 129 #[.val (.int (Int32.ofNat nn)), .val (.ref al), .val (.ref b1), .val (.int pl), .val (.int (Int32.ofNat done.length)), .val (.ref g.1), .val (.ref g.1), .val (.int (Int32.ofNat g.2.length)), .val (.int i8), s9q] [(.ref g.1), (.int pl)])) _
          exact k_
        have VGq := VG0.keep KQ nin0
        refine own_go (own_len XQ hx hZ eQ VGq (g := (mkF m 129 #[.val (.int (Int32.ofNat nn)), .val (.ref al), .val (.ref b1), .val (.int pl), .val (.int (Int32.ofNat done.length)), .val (.ref g.1), .val (.ref g.1), .val (.int (Int32.ofNat g.2.length)), .val (.int i8), s9q] [(.ref g.1), (.int pl)])) rfl rfl (hb hby own_d6_129)) ?_
        show own_Rch p e below _ (TQ.setTop (mkF m 130 #[.val (.int (Int32.ofNat nn)), .val (.ref al), .val (.ref b1), .val (.int pl), .val (.int (Int32.ofNat done.length)), .val (.ref g.1), .val (.ref g.1), .val (.int (Int32.ofNat g.2.length)), .val (.int i8), s9q] [(.int (Int32.ofNat g.2.length)), (.int pl)]))
        refine own_go (S' := (TQ.setTop (mkF m 14 #[.val (.int (Int32.ofNat nn)), .val (.ref al), .val (.ref b1), .val (.int (pl + (Int32.ofNat g.2.length))), .val (.int ((Int32.ofNat done.length) + (1 : Int32))), .val (.ref g.1), .val (.ref g.1), .val (.int (Int32.ofNat g.2.length)), .val (.int i8), s9q] []))) (fun t_ k_ => ?_) ?_
        · refine XS.iadd XQ.here hx rfl (hb hby own_d6_130) rfl ?_
          show Steps p.tables e below (TQ.setTop (mkF m 131 #[.val (.int (Int32.ofNat nn)), .val (.ref al), .val (.ref b1), .val (.int pl), .val (.int (Int32.ofNat done.length)), .val (.ref g.1), .val (.ref g.1), .val (.int (Int32.ofNat g.2.length)), .val (.int i8), s9q] [(.int (pl + (Int32.ofNat g.2.length)))])) _
          refine XS.istoreN XQ.here hx rfl (hb hby own_d6_131) rfl (l' := #[.val (.int (Int32.ofNat nn)), .val (.ref al), .val (.ref b1), .val (.int (pl + (Int32.ofNat g.2.length))), .val (.int (Int32.ofNat done.length)), .val (.ref g.1), .val (.ref g.1), .val (.int (Int32.ofNat g.2.length)), .val (.int i8), s9q]) rfl ?_
          show Steps p.tables e below (TQ.setTop (mkF m 132 #[.val (.int (Int32.ofNat nn)), .val (.ref al), .val (.ref b1), .val (.int (pl + (Int32.ofNat g.2.length))), .val (.int (Int32.ofNat done.length)), .val (.ref g.1), .val (.ref g.1), .val (.int (Int32.ofNat g.2.length)), .val (.int i8), s9q] [])) _
          refine XS.iinc XQ.here hx rfl (hb hby own_d6_132) rfl (l' := #[.val (.int (Int32.ofNat nn)), .val (.ref al), .val (.ref b1), .val (.int (pl + (Int32.ofNat g.2.length))), .val (.int ((Int32.ofNat done.length) + (1 : Int32))), .val (.ref g.1), .val (.ref g.1), .val (.int (Int32.ofNat g.2.length)), .val (.int i8), s9q]) rfl ?_
          show Steps p.tables e below (TQ.setTop (mkF m 135 #[.val (.int (Int32.ofNat nn)), .val (.ref al), .val (.ref b1), .val (.int (pl + (Int32.ofNat g.2.length))), .val (.int ((Int32.ofNat done.length) + (1 : Int32))), .val (.ref g.1), .val (.ref g.1), .val (.int (Int32.ofNat g.2.length)), .val (.int i8), s9q] [])) _
          refine XS.goto XQ.here hx rfl (pc0 := 135) (pc' := 14) rfl (hb hby own_d6_135) (by decide) (by decide) ?_
          show Steps p.tables e below (TQ.setTop (mkF m 14 #[.val (.int (Int32.ofNat nn)), .val (.ref al), .val (.ref b1), .val (.int (pl + (Int32.ofNat g.2.length))), .val (.int ((Int32.ofNat done.length) + (1 : Int32))), .val (.ref g.1), .val (.ref g.1), .val (.int (Int32.ofNat g.2.length)), .val (.int i8), s9q] [])) _
          exact k_
        rw [(own_nat hd).2.2.2]
        have e1 : (done ++ [g]).length = done.length + 1 := by simp
        have q := ih (done ++ [g]) cs' (pl + Int32.ofNat g.2.length) (.val (.ref g.1)) (.val (.ref g.1)) (.val (.int (Int32.ofNat g.2.length))) (.val (.int i8)) s9q TQ lcQ hQ XQ eQ NQ (by rw [hg]; simp) KQ VQ hlQ (by rw [e1, ← (own_nat hd).2.2.2]; exact hrun) (One.val rfl) (One.val rfl) (One.val rfl) (One.val rfl) o9q
        rw [e1] at q; exact q
      have I : ∀ (rs : List Int32) (dn cs1 : List Int32) (s9i : Slot) (TI : State) (lcI : List Loc) (hI : Heap) (XI : Stand p l e ({ frames := 4, cells := 2, slots := 6, locals := 80 } : Room) s m #[(.int (Int32.ofNat nn)), (.ref al)] below meth c TI lcI 1 4) (eI : TI.heap = hI) (NI : Fr n0 lcI) (hxs : g.2 = dn ++ rs) (K1 : Keep h0 hI []) (V1 : Arv Z hI b1 k1 .int (Int32.ofNat nn) (cs1.map Value.int) (.int 0)) (hl1 : cs1.length = nn) (hp1 : own_place (Int32.ofNat done.length) rs cs1 = some cs') (o9i : One s9i), own_Rch p e below (own_Fin s ({ frames := 4, cells := 2, slots := 6, locals := 80 } : Room).cells ({ frames := 4, cells := 2, slots := 6, locals := 80 } : Room).slots (fun v h L => ∃ ob b kb, v = some (.ref ob) ∧ Fr n0 L ∧ Keep h0 h [] ∧ Exa Z h ob "com/example/anonutils/anonutils/Clustering" ∧ Fld Z h ob "com/example/anonutils/anonutils/Clustering" "clusterOf" "[I" (.ref b) ∧ Fld Z h ob "com/example/anonutils/anonutils/Clustering" "count" "I" (.int (Int32.ofNat gs.length)) ∧ Arv Z h b kb .int (Int32.ofNat nn) (csF.map Value.int) (.int 0))) (TI.setTop (mkF m 71 #[.val (.int (Int32.ofNat nn)), .val (.ref al), .val (.ref b1), .val (.int pl), .val (.int (Int32.ofNat done.length)), .val (.ref g.1), .val (.ref g.1), .val (.int (Int32.ofNat g.2.length)), .val (.int (Int32.ofNat dn.length)), s9i] [])) := by
        intro rs
        induction rs with
        | nil =>
          intro dn cs1 s9i TI lcI hI XI eI NI hxs K1 V1 hl1 hp1 o9i
          simp only [List.append_nil] at hxs
          obtain rfl : cs1 = cs' := Option.some.inj (by unfold own_place at hp1; exact hp1)
          refine own_go (S' := (TI.setTop (mkF m 75 #[.val (.int (Int32.ofNat nn)), .val (.ref al), .val (.ref b1), .val (.int pl), .val (.int (Int32.ofNat done.length)), .val (.ref g.1), .val (.ref g.1), .val (.int (Int32.ofNat g.2.length)), .val (.int (Int32.ofNat dn.length)), s9i] [(.int (Int32.ofNat g.2.length)), (.int (Int32.ofNat dn.length))]))) (fun t_ k_ => ?_) ?_
          · refine XS.iload XI.here hx rfl (hb hby own_d6_71) rfl ?_
            show Steps p.tables e below (TI.setTop (mkF m 73 #[.val (.int (Int32.ofNat nn)), .val (.ref al), .val (.ref b1), .val (.int pl), .val (.int (Int32.ofNat done.length)), .val (.ref g.1), .val (.ref g.1), .val (.int (Int32.ofNat g.2.length)), .val (.int (Int32.ofNat dn.length)), s9i] [(.int (Int32.ofNat dn.length))])) _
            refine XS.iload XI.here hx rfl (hb hby own_d6_73) rfl ?_
            show Steps p.tables e below (TI.setTop (mkF m 75 #[.val (.int (Int32.ofNat nn)), .val (.ref al), .val (.ref b1), .val (.int pl), .val (.int (Int32.ofNat done.length)), .val (.ref g.1), .val (.ref g.1), .val (.int (Int32.ofNat g.2.length)), .val (.int (Int32.ofNat dn.length)), s9i] [(.int (Int32.ofNat g.2.length)), (.int (Int32.ofNat dn.length))])) _
            exact k_
          refine own_go (S' := (TI.setTop (mkF m 126 #[.val (.int (Int32.ofNat nn)), .val (.ref al), .val (.ref b1), .val (.int pl), .val (.int (Int32.ofNat done.length)), .val (.ref g.1), .val (.ref g.1), .val (.int (Int32.ofNat g.2.length)), .val (.int (Int32.ofNat dn.length)), s9i] []))) (fun t_ k_ => ?_) ?_
          · refine XS.icmpYes XI.here hx rfl (pc0 := 75) (pc' := 126) rfl (hb hby own_d6_75) rfl (flt (by rw [hxs]; exact own_irr _)).2.1 (by decide) (by decide) ?_
            show Steps p.tables e below (TI.setTop (mkF m 126 #[.val (.int (Int32.ofNat nn)), .val (.ref al), .val (.ref b1), .val (.int pl), .val (.int (Int32.ofNat done.length)), .val (.ref g.1), .val (.ref g.1), .val (.int (Int32.ofNat g.2.length)), .val (.int (Int32.ofNat dn.length)), s9i] [])) _
            exact k_
          exact Q TI lcI hI _ s9i XI eI NI K1 V1 hl1 o9i
        | cons r rs ih2 =>
          intro dn cs1 s9i TI lcI hI XI eI NI hxs K1 V1 hl1 hp1 o9i
          obtain ⟨⟨r0, r1, r2⟩, hp2⟩ := own_place_cons hp1
          have hxl : g.2.length = dn.length + 1 + rs.length := by rw [hxs]; simp; omega
          have hdn : dn.length ≤ 10 := by omega
          have hil : Int32.ofNat dn.length < Int32.ofNat g.2.length := (own_ltN hdn hg10).mpr (by omega)
          have VGi := VG0.keep K1 nin0
          refine own_go (S' := (TI.setTop (mkF m 75 #[.val (.int (Int32.ofNat nn)), .val (.ref al), .val (.ref b1), .val (.int pl), .val (.int (Int32.ofNat done.length)), .val (.ref g.1), .val (.ref g.1), .val (.int (Int32.ofNat g.2.length)), .val (.int (Int32.ofNat dn.length)), s9i] [(.int (Int32.ofNat g.2.length)), (.int (Int32.ofNat dn.length))]))) (fun t_ k_ => ?_) ?_
          · refine XS.iload XI.here hx rfl (hb hby own_d6_71) rfl ?_
            show Steps p.tables e below (TI.setTop (mkF m 73 #[.val (.int (Int32.ofNat nn)), .val (.ref al), .val (.ref b1), .val (.int pl), .val (.int (Int32.ofNat done.length)), .val (.ref g.1), .val (.ref g.1), .val (.int (Int32.ofNat g.2.length)), .val (.int (Int32.ofNat dn.length)), s9i] [(.int (Int32.ofNat dn.length))])) _
            refine XS.iload XI.here hx rfl (hb hby own_d6_73) rfl ?_
            show Steps p.tables e below (TI.setTop (mkF m 75 #[.val (.int (Int32.ofNat nn)), .val (.ref al), .val (.ref b1), .val (.int pl), .val (.int (Int32.ofNat done.length)), .val (.ref g.1), .val (.ref g.1), .val (.int (Int32.ofNat g.2.length)), .val (.int (Int32.ofNat dn.length)), s9i] [(.int (Int32.ofNat g.2.length)), (.int (Int32.ofNat dn.length))])) _
            exact k_
          refine own_go (S' := (TI.setTop (mkF m 82 #[.val (.int (Int32.ofNat nn)), .val (.ref al), .val (.ref b1), .val (.int pl), .val (.int (Int32.ofNat done.length)), .val (.ref g.1), .val (.ref g.1), .val (.int (Int32.ofNat g.2.length)), .val (.int (Int32.ofNat dn.length)), s9i] [(.int (Int32.ofNat dn.length)), (.ref g.1)]))) (fun t_ k_ => ?_) ?_
          · refine XS.icmpNo XI.here hx rfl (hb hby own_d6_75) rfl (tlt hil).2.1 ?_
            show Steps p.tables e below (TI.setTop (mkF m 78 #[.val (.int (Int32.ofNat nn)), .val (.ref al), .val (.ref b1), .val (.int pl), .val (.int (Int32.ofNat done.length)), .val (.ref g.1), .val (.ref g.1), .val (.int (Int32.ofNat g.2.length)), .val (.int (Int32.ofNat dn.length)), s9i] [])) _
            refine XS.aload XI.here hx rfl (hb hby own_d6_78) rfl rfl ?_
            show Steps p.tables e below (TI.setTop (mkF m 80 #[.val (.int (Int32.ofNat nn)), .val (.ref al), .val (.ref b1), .val (.int pl), .val (.int (Int32.ofNat done.length)), .val (.ref g.1), .val (.ref g.1), .val (.int (Int32.ofNat g.2.length)), .val (.int (Int32.ofNat dn.length)), s9i] [(.ref g.1)])) _
            refine XS.iload XI.here hx rfl (hb hby own_d6_80) rfl ?_
            show Steps p.tables e below (TI.setTop (mkF m 82 #[.val (.int (Int32.ofNat nn)), .val (.ref al), .val (.ref b1), .val (.int pl), .val (.int (Int32.ofNat done.length)), .val (.ref g.1), .val (.ref g.1), .val (.int (Int32.ofNat g.2.length)), .val (.int (Int32.ofNat dn.length)), s9i] [(.int (Int32.ofNat dn.length)), (.ref g.1)])) _
            exact k_
          refine own_go (own_ial XI hx hZ eI VGi ⟨(own_nat hdn).2.2.1, hil⟩ (v := (.int r)) (by rw [(own_nat hdn).2.1, hvg _ (by omega), hxs]; simp) (g := (mkF m 82 #[.val (.int (Int32.ofNat nn)), .val (.ref al), .val (.ref b1), .val (.int pl), .val (.int (Int32.ofNat done.length)), .val (.ref g.1), .val (.ref g.1), .val (.int (Int32.ofNat g.2.length)), .val (.int (Int32.ofNat dn.length)), s9i] [(.int (Int32.ofNat dn.length)), (.ref g.1)])) rfl rfl (hb hby own_d6_82)) ?_
          show own_Rch p e below _ (TI.setTop (mkF m 83 #[.val (.int (Int32.ofNat nn)), .val (.ref al), .val (.ref b1), .val (.int pl), .val (.int (Int32.ofNat done.length)), .val (.ref g.1), .val (.ref g.1), .val (.int (Int32.ofNat g.2.length)), .val (.int (Int32.ofNat dn.length)), s9i] [(.int r)]))
          refine own_go (S' := (TI.setTop (mkF m 88 #[.val (.int (Int32.ofNat nn)), .val (.ref al), .val (.ref b1), .val (.int pl), .val (.int (Int32.ofNat done.length)), .val (.ref g.1), .val (.ref g.1), .val (.int (Int32.ofNat g.2.length)), .val (.int (Int32.ofNat dn.length)), .val (.int r)] [(.int r), (.ref b1)]))) (fun t_ k_ => ?_) ?_
          · refine XS.istoreS XI.here hx rfl (hb hby own_d6_83) rfl rfl o9i ?_
            show Steps p.tables e below (TI.setTop (mkF m 85 #[.val (.int (Int32.ofNat nn)), .val (.ref al), .val (.ref b1), .val (.int pl), .val (.int (Int32.ofNat done.length)), .val (.ref g.1), .val (.ref g.1), .val (.int (Int32.ofNat g.2.length)), .val (.int (Int32.ofNat dn.length)), .val (.int r)] [])) _
            refine XS.aloadN XI.here hx rfl (hb hby own_d6_85) rfl rfl ?_
            show Steps p.tables e below (TI.setTop (mkF m 86 #[.val (.int (Int32.ofNat nn)), .val (.ref al), .val (.ref b1), .val (.int pl), .val (.int (Int32.ofNat done.length)), .val (.ref g.1), .val (.ref g.1), .val (.int (Int32.ofNat g.2.length)), .val (.int (Int32.ofNat dn.length)), .val (.int r)] [(.ref b1)])) _
            refine XS.iload XI.here hx rfl (hb hby own_d6_86) rfl ?_
            show Steps p.tables e below (TI.setTop (mkF m 88 #[.val (.int (Int32.ofNat nn)), .val (.ref al), .val (.ref b1), .val (.int pl), .val (.int (Int32.ofNat done.length)), .val (.ref g.1), .val (.ref g.1), .val (.int (Int32.ofNat g.2.length)), .val (.int (Int32.ofNat dn.length)), .val (.int r)] [(.int r), (.ref b1)])) _
            exact k_
          have rlt : r < (Int32.ofNat nn) := own_ltOf (by omega) r0 (by omega)
          refine own_go (own_ial XI hx hZ eI V1 ⟨r0, rlt⟩ (v := (.int (-1 : Int32))) (by rw [own_mapD, r2]) (g := (mkF m 88 #[.val (.int (Int32.ofNat nn)), .val (.ref al), .val (.ref b1), .val (.int pl), .val (.int (Int32.ofNat done.length)), .val (.ref g.1), .val (.ref g.1), .val (.int (Int32.ofNat g.2.length)), .val (.int (Int32.ofNat dn.length)), .val (.int r)] [(.int r), (.ref b1)])) rfl rfl (hb hby own_d6_88)) ?_
          show own_Rch p e below _ (TI.setTop (mkF m 89 #[.val (.int (Int32.ofNat nn)), .val (.ref al), .val (.ref b1), .val (.int pl), .val (.int (Int32.ofNat done.length)), .val (.ref g.1), .val (.ref g.1), .val (.int (Int32.ofNat g.2.length)), .val (.int (Int32.ofNat dn.length)), .val (.int r)] [(.int (-1 : Int32))]))
          refine own_go (S' := (TI.setTop (mkF m 90 #[.val (.int (Int32.ofNat nn)), .val (.ref al), .val (.ref b1), .val (.int pl), .val (.int (Int32.ofNat done.length)), .val (.ref g.1), .val (.ref g.1), .val (.int (Int32.ofNat g.2.length)), .val (.int (Int32.ofNat dn.length)), .val (.int r)] [(.int (-1 : Int32)), (.int (-1 : Int32))]))) (fun t_ k_ => ?_) ?_
          · refine XS.iconst XI.here hx rfl (hb hby own_d6_89) ?_
            show Steps p.tables e below (TI.setTop (mkF m 90 #[.val (.int (Int32.ofNat nn)), .val (.ref al), .val (.ref b1), .val (.int pl), .val (.int (Int32.ofNat done.length)), .val (.ref g.1), .val (.ref g.1), .val (.int (Int32.ofNat g.2.length)), .val (.int (Int32.ofNat dn.length)), .val (.int r)] [(.int (-1 : Int32)), (.int (-1 : Int32))])) _
            exact k_
          refine own_go (S' := (TI.setTop (mkF m 119 #[.val (.int (Int32.ofNat nn)), .val (.ref al), .val (.ref b1), .val (.int pl), .val (.int (Int32.ofNat done.length)), .val (.ref g.1), .val (.ref g.1), .val (.int (Int32.ofNat g.2.length)), .val (.int (Int32.ofNat dn.length)), .val (.int r)] [(.int (Int32.ofNat done.length)), (.int r), (.ref b1)]))) (fun t_ k_ => ?_) ?_
          · refine XS.icmpYes XI.here hx rfl (pc0 := 90) (pc' := 114) rfl (hb hby own_d6_90) rfl (teq rfl).1 (by decide) (by decide) ?_
            show Steps p.tables e below (TI.setTop (mkF m 114 #[.val (.int (Int32.ofNat nn)), .val (.ref al), .val (.ref b1), .val (.int pl), .val (.int (Int32.ofNat done.length)), .val (.ref g.1), .val (.ref g.1), .val (.int (Int32.ofNat g.2.length)), .val (.int (Int32.ofNat dn.length)), .val (.int r)] [])) _
            refine XS.aloadN XI.here hx rfl (hb hby own_d6_114) rfl rfl ?_
            show Steps p.tables e below (TI.setTop (mkF m 115 #[.val (.int (Int32.ofNat nn)), .val (.ref al), .val (.ref b1), .val (.int pl), .val (.int (Int32.ofNat done.length)), .val (.ref g.1), .val (.ref g.1), .val (.int (Int32.ofNat g.2.length)), .val (.int (Int32.ofNat dn.length)), .val (.int r)] [(.ref b1)])) _
            refine XS.iload XI.here hx rfl (hb hby own_d6_115) rfl ?_
            show Steps p.tables e below (TI.setTop (mkF m 117 #[.val (.int (Int32.ofNat nn)), .val (.ref al), .val (.ref b1), .val (.int pl), .val (.int (Int32.ofNat done.length)), .val (.ref g.1), .val (.ref g.1), .val (.int (Int32.ofNat g.2.length)), .val (.int (Int32.ofNat dn.length)), .val (.int r)] [(.int r), (.ref b1)])) _
            refine XS.iload XI.here hx rfl (hb hby own_d6_117) rfl ?_
            show Steps p.tables e below (TI.setTop (mkF m 119 #[.val (.int (Int32.ofNat nn)), .val (.ref al), .val (.ref b1), .val (.int pl), .val (.int (Int32.ofNat done.length)), .val (.ref g.1), .val (.ref g.1), .val (.int (Int32.ofNat g.2.length)), .val (.int (Int32.ofNat dn.length)), .val (.int r)] [(.int (Int32.ofNat done.length)), (.int r), (.ref b1)])) _
            exact k_
          obtain ⟨T10, h10, X10, e10, W10, V10, st10⟩ := own_stI XI hx hZ eI V1 ⟨r0, rlt⟩ (i := r.toNatClampNeg) rfl (by rw [List.length_map]; exact r1) (g := (mkF m 119 #[.val (.int (Int32.ofNat nn)), .val (.ref al), .val (.ref b1), .val (.int pl), .val (.int (Int32.ofNat done.length)), .val (.ref g.1), .val (.ref g.1), .val (.int (Int32.ofNat g.2.length)), .val (.int (Int32.ofNat dn.length)), .val (.int r)] [(.int (Int32.ofNat done.length)), (.int r), (.ref b1)])) rfl rfl (hb hby own_d6_119)
          refine own_go st10 ?_
          have N10 := Fr.snoc X10 NI gb1
          show own_Rch p e below _ (T10.setTop (mkF m 120 #[.val (.int (Int32.ofNat nn)), .val (.ref al), .val (.ref b1), .val (.int pl), .val (.int (Int32.ofNat done.length)), .val (.ref g.1), .val (.ref g.1), .val (.int (Int32.ofNat g.2.length)), .val (.int (Int32.ofNat dn.length)), .val (.int r)] []))
          refine own_go (S' := (T10.setTop (mkF m 71 #[.val (.int (Int32.ofNat nn)), .val (.ref al), .val (.ref b1), .val (.int pl), .val (.int (Int32.ofNat done.length)), .val (.ref g.1), .val (.ref g.1), .val (.int (Int32.ofNat g.2.length)), .val (.int ((Int32.ofNat dn.length) + (1 : Int32))), .val (.int r)] []))) (fun t_ k_ => ?_) ?_
          · refine XS.iinc X10.here hx rfl (hb hby own_d6_120) rfl (l' := #[.val (.int (Int32.ofNat nn)), .val (.ref al), .val (.ref b1), .val (.int pl), .val (.int (Int32.ofNat done.length)), .val (.ref g.1), .val (.ref g.1), .val (.int (Int32.ofNat g.2.length)), .val (.int ((Int32.ofNat dn.length) + (1 : Int32))), .val (.int r)]) rfl ?_
            show Steps p.tables e below (T10.setTop (mkF m 123 #[.val (.int (Int32.ofNat nn)), .val (.ref al), .val (.ref b1), .val (.int pl), .val (.int (Int32.ofNat done.length)), .val (.ref g.1), .val (.ref g.1), .val (.int (Int32.ofNat g.2.length)), .val (.int ((Int32.ofNat dn.length) + (1 : Int32))), .val (.int r)] [])) _
            refine XS.goto X10.here hx rfl (pc0 := 123) (pc' := 71) rfl (hb hby own_d6_123) (by decide) (by decide) ?_
            show Steps p.tables e below (T10.setTop (mkF m 71 #[.val (.int (Int32.ofNat nn)), .val (.ref al), .val (.ref b1), .val (.int pl), .val (.int (Int32.ofNat done.length)), .val (.ref g.1), .val (.ref g.1), .val (.int (Int32.ofNat g.2.length)), .val (.int ((Int32.ofNat dn.length) + (1 : Int32))), .val (.int r)] [])) _
            exact k_
          rw [(own_nat hdn).2.2.2]
          have e2 : (dn ++ [r]).length = dn.length + 1 := by simp
          have q := ih2 (dn ++ [r]) (cs1.set r.toNatClampNeg (Int32.ofNat done.length)) (.val (.int r)) T10 _ h10 X10 e10 N10 (by rw [hxs]; simp) (K1.wr W10 (Or.inr sb)) (by rw [List.map_set]; exact V10) (by rw [List.length_set]; exact hl1) hp2 (One.val rfl)
          rw [e2] at q; exact q
      exact I g.2 [] cs s9 T9 _ _ X9 eH N8 rfl KJ1 VJ1 hl hplc o9
  exact J gs [] (List.replicate nn (-1 : Int32)) 0 .unset .unset .unset .unset .unset T2 _ _ X2 rfl N2 rfl KK V2 (by simp) run One.u One.u One.u One.u One.u
theorem own_d13_0 : decode method_3_code 0 = .ok (.iload_n 0, 1) := by decide +kernel
theorem own_d13_1 : decode method_3_code 1 = .ok (.iload_n 2, 1) := by decide +kernel
theorem own_d13_2 : decode method_3_code 2 = .ok (.iadd, 1) := by decide +kernel
theorem own_d13_3 : decode method_3_code 3 = .ok (.iload_n 1, 1) := by decide +kernel
theorem own_d13_4 : decode method_3_code 4 = .ok (.irem, 1) := by decide +kernel
theorem own_d13_5 : decode method_3_code 5 = .ok (.istore 4, 2) := by decide +kernel
theorem own_d13_7 : decode method_3_code 7 = .ok (.iload_n 3, 1) := by decide +kernel
theorem own_d13_8 : decode method_3_code 8 = .ok (.ifCond .eq 12, 3) := by decide +kernel
theorem own_d13_11 : decode method_3_code 11 = .ok (.iload_n 1, 1) := by decide +kernel
theorem own_d13_12 : decode method_3_code 12 = .ok (.iconst 1, 1) := by decide +kernel
theorem own_d13_13 : decode method_3_code 13 = .ok (.isub, 1) := by decide +kernel
theorem own_d13_14 : decode method_3_code 14 = .ok (.iload 4, 2) := by decide +kernel
theorem own_d13_16 : decode method_3_code 16 = .ok (.isub, 1) := by decide +kernel
theorem own_d13_17 : decode method_3_code 17 = .ok (.goto 5, 3) := by decide +kernel
theorem own_d13_20 : decode method_3_code 20 = .ok (.iload 4, 2) := by decide +kernel
theorem own_d13_22 : decode method_3_code 22 = .ok (.ireturn, 1) := by decide +kernel
theorem own_c13_ef (m : MethodId) (x0 : Int32) (x1 : Int32) (x2 : Int32) (x3 : Int32) : entryFrame m #[(.int x0), (.int x1), (.int x2), (.int x3)] 5 = mkF m 0 #[.val (.int x0), .val (.int x1), .val (.int x2), .val (.int x3), .unset] [] := by first | (simp [entryFrame, mkF, argsToLocals, Value.category]; done) | rfl
theorem own_pn7 : plainName "com/example/anonutils/anonutils/ClusteringOfPinLaw" = true := by first | (simp [plainName, overriddenIn]; done) | decide +kernel
set_option maxRecDepth 65536 in
set_option maxHeartbeats 40000000 in
theorem own_c13 (l : Launch) (Z : State) (a0 : Array Value) (hw : ∀ d ∈ tables_1, d.before a0 Z = true) (wsC : List Jvm.Cond) (p1 p2 p3 p4 : Int32) (h0 : Heap) (n0 : Nat) (Z0 : n0 ≤ h0.size) (hz : ¬ p2 = (0 : Int32)) :
    own_Ctr l Z (⟨"com/example/anonutils/anonutils/ClusteringOfPinLaw", "id", "(IIIZ)I"⟩ : MethodName) method_3_code 5 (some .int) wsC ({ frames := 0, cells := 0, slots := 0, locals := 0 } : Room) h0 #[(.int p1), (.int p2), (.int p3), (.int p4)] (fun v h L => v = some (.int (own_id p1 p2 p3 p4)) ∧ Fr n0 L ∧ h = h0) := by
  refine own_ctr (plainFor_of_name own_pn7) ?_
  intro p e s m below meth c s₁ Bd hml0 hx hby hZ hown0 X0 e0
  have hml : c.maxLocals = 5 := hml0
  have hown : s.vm.findClass "com/example/anonutils/anonutils/ClusteringOfPinLaw" = some m.cls := hown0
  have hnm := (name_of_methodNamed Bd.named Bd.method).1
  have N0 := Fr.nil n0
  refine own_cast (own_c13_ef m p1 p2 p3 p4) ?_
  refine own_go (S' := (s₁.setTop (mkF m 8 #[.val (.int p1), .val (.int p2), .val (.int p3), .val (.int p4), .val (.int ((p1 + p3) % p2))] [(.int p4)]))) (fun t_ k_ => ?_) ?_
  · refine XS.iloadN X0.here hx rfl (hb hby own_d13_0) rfl ?_
    show Steps p.tables e below (s₁.setTop (mkF m 1 #[.val (.int p1), .val (.int p2), .val (.int p3), .val (.int p4), .unset] [(.int p1)])) _
    refine XS.iloadN X0.here hx rfl (hb hby own_d13_1) rfl ?_
    show Steps p.tables e below (s₁.setTop (mkF m 2 #[.val (.int p1), .val (.int p2), .val (.int p3), .val (.int p4), .unset] [(.int p3), (.int p1)])) _
    refine XS.iadd X0.here hx rfl (hb hby own_d13_2) rfl ?_
    show Steps p.tables e below (s₁.setTop (mkF m 3 #[.val (.int p1), .val (.int p2), .val (.int p3), .val (.int p4), .unset] [(.int (p1 + p3))])) _
    refine XS.iloadN X0.here hx rfl (hb hby own_d13_3) rfl ?_
    show Steps p.tables e below (s₁.setTop (mkF m 4 #[.val (.int p1), .val (.int p2), .val (.int p3), .val (.int p4), .unset] [(.int p2), (.int (p1 + p3))])) _
    refine iremM X0 hx rfl (hb hby own_d13_4) rfl hz ?_
    show Steps p.tables e below (s₁.setTop (mkF m 5 #[.val (.int p1), .val (.int p2), .val (.int p3), .val (.int p4), .unset] [(.int ((p1 + p3) % p2))])) _
    refine XS.istore X0.here hx rfl (hb hby own_d13_5) rfl (l' := #[.val (.int p1), .val (.int p2), .val (.int p3), .val (.int p4), .val (.int ((p1 + p3) % p2))]) rfl ?_
    show Steps p.tables e below (s₁.setTop (mkF m 7 #[.val (.int p1), .val (.int p2), .val (.int p3), .val (.int p4), .val (.int ((p1 + p3) % p2))] [])) _
    refine XS.iloadN X0.here hx rfl (hb hby own_d13_7) rfl ?_
    show Steps p.tables e below (s₁.setTop (mkF m 8 #[.val (.int p1), .val (.int p2), .val (.int p3), .val (.int p4), .val (.int ((p1 + p3) % p2))] [(.int p4)])) _
    exact k_
  by_cases h1 : p4 = (0 : Int32)
  · skip
    refine own_go (S' := (s₁.setTop (mkF m 22 #[.val (.int p1), .val (.int p2), .val (.int p3), .val (.int p4), .val (.int ((p1 + p3) % p2))] [(.int ((p1 + p3) % p2))]))) (fun t_ k_ => ?_) ?_
    · refine XS.ifYes X0.here hx rfl (pc0 := 8) (pc' := 20) rfl (hb hby own_d13_8) rfl ((if0 _ _).trans (teq h1).1) (by decide) (by decide) ?_
      show Steps p.tables e below (s₁.setTop (mkF m 20 #[.val (.int p1), .val (.int p2), .val (.int p3), .val (.int p4), .val (.int ((p1 + p3) % p2))] [])) _
      refine XS.iload X0.here hx rfl (hb hby own_d13_20) rfl ?_
      show Steps p.tables e below (s₁.setTop (mkF m 22 #[.val (.int p1), .val (.int p2), .val (.int p3), .val (.int p4), .val (.int ((p1 + p3) % p2))] [(.int ((p1 + p3) % p2))])) _
      exact k_
    refine own_retI X0 hx Bd.returns Bd.notSynchronized (hb hby own_d13_22) (by decide) (by decide) ?_
    try rw [e0]
    exact ⟨by rw [own_id, if_pos h1], N0, rfl⟩
  · skip
    refine own_go (S' := (s₁.setTop (mkF m 22 #[.val (.int p1), .val (.int p2), .val (.int p3), .val (.int p4), .val (.int ((p1 + p3) % p2))] [(.int ((p2 - (1 : Int32)) - ((p1 + p3) % p2)))]))) (fun t_ k_ => ?_) ?_
    · refine XS.ifNo X0.here hx rfl (hb hby own_d13_8) rfl ((if0 _ _).trans (feq h1).1) ?_
      show Steps p.tables e below (s₁.setTop (mkF m 11 #[.val (.int p1), .val (.int p2), .val (.int p3), .val (.int p4), .val (.int ((p1 + p3) % p2))] [])) _
      refine XS.iloadN X0.here hx rfl (hb hby own_d13_11) rfl ?_
      show Steps p.tables e below (s₁.setTop (mkF m 12 #[.val (.int p1), .val (.int p2), .val (.int p3), .val (.int p4), .val (.int ((p1 + p3) % p2))] [(.int p2)])) _
      refine XS.iconst X0.here hx rfl (hb hby own_d13_12) ?_
      show Steps p.tables e below (s₁.setTop (mkF m 13 #[.val (.int p1), .val (.int p2), .val (.int p3), .val (.int p4), .val (.int ((p1 + p3) % p2))] [(.int (1 : Int32)), (.int p2)])) _
      refine XS.isub X0.here hx rfl (hb hby own_d13_13) rfl ?_
      show Steps p.tables e below (s₁.setTop (mkF m 14 #[.val (.int p1), .val (.int p2), .val (.int p3), .val (.int p4), .val (.int ((p1 + p3) % p2))] [(.int (p2 - (1 : Int32)))])) _
      refine XS.iload X0.here hx rfl (hb hby own_d13_14) rfl ?_
      show Steps p.tables e below (s₁.setTop (mkF m 16 #[.val (.int p1), .val (.int p2), .val (.int p3), .val (.int p4), .val (.int ((p1 + p3) % p2))] [(.int ((p1 + p3) % p2)), (.int (p2 - (1 : Int32)))])) _
      refine XS.isub X0.here hx rfl (hb hby own_d13_16) rfl ?_
      show Steps p.tables e below (s₁.setTop (mkF m 17 #[.val (.int p1), .val (.int p2), .val (.int p3), .val (.int p4), .val (.int ((p1 + p3) % p2))] [(.int ((p2 - (1 : Int32)) - ((p1 + p3) % p2)))])) _
      refine XS.goto X0.here hx rfl (pc0 := 17) (pc' := 22) rfl (hb hby own_d13_17) (by decide) (by decide) ?_
      show Steps p.tables e below (s₁.setTop (mkF m 22 #[.val (.int p1), .val (.int p2), .val (.int p3), .val (.int p4), .val (.int ((p1 + p3) % p2))] [(.int ((p2 - (1 : Int32)) - ((p1 + p3) % p2)))])) _
      exact k_
    refine own_retI X0 hx Bd.returns Bd.notSynchronized (hb hby own_d13_22) (by decide) (by decide) ?_
    try rw [e0]
    exact ⟨by rw [own_id, if_neg h1], N0, rfl⟩
theorem own_incR {i n x c q r : Int32} (hr : r = own_inc i n x c q) (h0 : 0 ≤ q.toInt) (hb : q.toInt ≤ 10) : q.toInt ≤ r.toInt ∧ r.toInt ≤ q.toInt + 1 ∧ (i < n → x = c → r.toInt = q.toInt + 1) := by
  have e1 : (q + (1 : Int32)).toInt = q.toInt + 1 := by
    have h1 := c_iadd q 1
    have r1 := rng32 (q + 1)
    have e : (1 : Int32).toInt = 1 := by decide
    rw [e] at h1
    omega
  rw [own_inc] at hr
  by_cases h : i < n
  · rw [if_pos h] at hr
    by_cases h' : x = c
    · rw [if_pos h'] at hr; subst hr; rw [e1]; omega
    · rw [if_neg h'] at hr; subst hr; exact ⟨by omega, by omega, fun _ q => absurd q h'⟩
  · rw [if_neg h] at hr; subst hr; exact ⟨by omega, by omega, fun q => absurd q h⟩
theorem own_ixR {ds m q ix : Int32} (hi : ix = own_ix ds m q) (h0 : 0 ≤ q.toInt) (hq : q.toInt < m.toInt) (hm : m.toInt ≤ 10) : (¬ ix < 0 ∧ ix < m) ∧ ix.toInt < m.toInt ∧ 0 ≤ ix.toInt := by
  have e0 : (0 : Int32).toInt = 0 := by decide
  have e1 : (1 : Int32).toInt = 1 := by decide
  have h1 := c_isub m 1
  have h2 := c_isub (m - 1) q
  have r1 := rng32 (m - 1)
  have r2 := rng32 (m - 1 - q)
  rw [e1] at h1
  rw [own_ix] at hi
  have key : 0 ≤ ix.toInt ∧ ix.toInt < m.toInt := by
    by_cases h : ds = (0 : Int32)
    · rw [if_pos h] at hi; subst hi; omega
    · rw [if_neg h] at hi; subst hi; omega
  refine ⟨⟨?_, ?_⟩, key.2, key.1⟩
  · rw [Int32.lt_iff_toInt_lt, e0]; omega
  · rw [Int32.lt_iff_toInt_lt]; omega
theorem own_stL {i n x c m q s rv ds : Int32} {ws : List Int32} : (own_st i n x c m q s rv ds ws).length = ws.length := by
  unfold own_st; split <;> (try split) <;> simp
theorem own_nz {i n : Int32} (h : i < n) (hi : 0 ≤ i.toInt) : ¬ n = (0 : Int32) := by
  intro q; subst q
  rw [Int32.lt_iff_toInt_lt] at h
  have e0 : (0 : Int32).toInt = 0 := by decide
  omega
theorem own_notneg {z : Int32} (h : 0 ≤ z.toInt) : ¬ z < 0 := by
  rw [Int32.lt_iff_toInt_lt]
  have e0 : (0 : Int32).toInt = 0 := by decide
  omega
theorem own_clampLe {z : Int32} {k : Nat} (h : z.toInt ≤ k) : z.toNatClampNeg ≤ k := by rw [Int32.toNatClampNeg]; omega
theorem own_pad4 : ∀ i, (([0, 0, 0, 0] : List Int32).map Value.int).getD i (.int 0) = ([] : List Value).getD i (.int 0) := own_padz 4
theorem own_pd9 : parseMethodDescriptor "(IIIZ)I" = some ⟨[.int, .int, .int, .boolean], some .int⟩ := by decide +kernel
theorem own_d12_0 : decode method_4_code 0 = .ok (.iconst 0, 1) := by decide +kernel
theorem own_d12_1 : decode method_4_code 1 = .ok (.istore 6, 2) := by decide +kernel
theorem own_d12_3 : decode method_4_code 3 = .ok (.iload_n 1, 1) := by decide +kernel
theorem own_d12_4 : decode method_4_code 4 = .ok (.ifCond .le 14, 3) := by decide +kernel
theorem own_d12_7 : decode method_4_code 7 = .ok (.aload 5, 2) := by decide +kernel
theorem own_d12_9 : decode method_4_code 9 = .ok (.iconst 0, 1) := by decide +kernel
theorem own_d12_10 : decode method_4_code 10 = .ok (.iaload, 1) := by decide +kernel
theorem own_d12_11 : decode method_4_code 11 = .ok (.iload_n 0, 1) := by decide +kernel
theorem own_d12_12 : decode method_4_code 12 = .ok (.if_icmp .ne 6, 3) := by decide +kernel
theorem own_d12_15 : decode method_4_code 15 = .ok (.iinc 6 1, 3) := by decide +kernel
theorem own_d12_18 : decode method_4_code 18 = .ok (.iload_n 1, 1) := by decide +kernel
theorem own_d12_19 : decode method_4_code 19 = .ok (.iconst 1, 1) := by decide +kernel
theorem own_d12_20 : decode method_4_code 20 = .ok (.if_icmp .le 14, 3) := by decide +kernel
theorem own_d12_23 : decode method_4_code 23 = .ok (.aload 5, 2) := by decide +kernel
theorem own_d12_25 : decode method_4_code 25 = .ok (.iconst 1, 1) := by decide +kernel
theorem own_d12_26 : decode method_4_code 26 = .ok (.iaload, 1) := by decide +kernel
theorem own_d12_27 : decode method_4_code 27 = .ok (.iload_n 0, 1) := by decide +kernel
theorem own_d12_28 : decode method_4_code 28 = .ok (.if_icmp .ne 6, 3) := by decide +kernel
theorem own_d12_31 : decode method_4_code 31 = .ok (.iinc 6 1, 3) := by decide +kernel
theorem own_d12_34 : decode method_4_code 34 = .ok (.iload_n 1, 1) := by decide +kernel
theorem own_d12_35 : decode method_4_code 35 = .ok (.iconst 2, 1) := by decide +kernel
theorem own_d12_36 : decode method_4_code 36 = .ok (.if_icmp .le 14, 3) := by decide +kernel
theorem own_d12_39 : decode method_4_code 39 = .ok (.aload 5, 2) := by decide +kernel
theorem own_d12_41 : decode method_4_code 41 = .ok (.iconst 2, 1) := by decide +kernel
theorem own_d12_42 : decode method_4_code 42 = .ok (.iaload, 1) := by decide +kernel
theorem own_d12_43 : decode method_4_code 43 = .ok (.iload_n 0, 1) := by decide +kernel
theorem own_d12_44 : decode method_4_code 44 = .ok (.if_icmp .ne 6, 3) := by decide +kernel
theorem own_d12_47 : decode method_4_code 47 = .ok (.iinc 6 1, 3) := by decide +kernel
theorem own_d12_50 : decode method_4_code 50 = .ok (.iload_n 1, 1) := by decide +kernel
theorem own_d12_51 : decode method_4_code 51 = .ok (.iconst 3, 1) := by decide +kernel
theorem own_d12_52 : decode method_4_code 52 = .ok (.if_icmp .le 14, 3) := by decide +kernel
theorem own_d12_55 : decode method_4_code 55 = .ok (.aload 5, 2) := by decide +kernel
theorem own_d12_57 : decode method_4_code 57 = .ok (.iconst 3, 1) := by decide +kernel
theorem own_d12_58 : decode method_4_code 58 = .ok (.iaload, 1) := by decide +kernel
theorem own_d12_59 : decode method_4_code 59 = .ok (.iload_n 0, 1) := by decide +kernel
theorem own_d12_60 : decode method_4_code 60 = .ok (.if_icmp .ne 6, 3) := by decide +kernel
theorem own_d12_63 : decode method_4_code 63 = .ok (.iinc 6 1, 3) := by decide +kernel
theorem own_d12_66 : decode method_4_code 66 = .ok (.iload 6, 2) := by decide +kernel
theorem own_d12_68 : decode method_4_code 68 = .ok (.newarray .int, 2) := by decide +kernel
theorem own_d12_70 : decode method_4_code 70 = .ok (.astore 7, 2) := by decide +kernel
theorem own_d12_72 : decode method_4_code 72 = .ok (.iconst 0, 1) := by decide +kernel
theorem own_d12_73 : decode method_4_code 73 = .ok (.istore 8, 2) := by decide +kernel
theorem own_d12_75 : decode method_4_code 75 = .ok (.iload_n 1, 1) := by decide +kernel
theorem own_d12_76 : decode method_4_code 76 = .ok (.ifCond .le 41, 3) := by decide +kernel
theorem own_d12_79 : decode method_4_code 79 = .ok (.aload 5, 2) := by decide +kernel
theorem own_d12_81 : decode method_4_code 81 = .ok (.iconst 0, 1) := by decide +kernel
theorem own_d12_82 : decode method_4_code 82 = .ok (.iaload, 1) := by decide +kernel
theorem own_d12_83 : decode method_4_code 83 = .ok (.iload_n 0, 1) := by decide +kernel
theorem own_d12_84 : decode method_4_code 84 = .ok (.if_icmp .ne 33, 3) := by decide +kernel
theorem own_d12_87 : decode method_4_code 87 = .ok (.aload 7, 2) := by decide +kernel
theorem own_d12_89 : decode method_4_code 89 = .ok (.iload 4, 2) := by decide +kernel
theorem own_d12_91 : decode method_4_code 91 = .ok (.ifCond .eq 13, 3) := by decide +kernel
theorem own_d12_94 : decode method_4_code 94 = .ok (.iload 6, 2) := by decide +kernel
theorem own_d12_96 : decode method_4_code 96 = .ok (.iconst 1, 1) := by decide +kernel
theorem own_d12_97 : decode method_4_code 97 = .ok (.isub, 1) := by decide +kernel
theorem own_d12_98 : decode method_4_code 98 = .ok (.iload 8, 2) := by decide +kernel
theorem own_d12_100 : decode method_4_code 100 = .ok (.isub, 1) := by decide +kernel
theorem own_d12_101 : decode method_4_code 101 = .ok (.goto 5, 3) := by decide +kernel
theorem own_d12_104 : decode method_4_code 104 = .ok (.iload 8, 2) := by decide +kernel
theorem own_d12_106 : decode method_4_code 106 = .ok (.iconst 0, 1) := by decide +kernel
theorem own_d12_107 : decode method_4_code 107 = .ok (.iload_n 1, 1) := by decide +kernel
theorem own_d12_108 : decode method_4_code 108 = .ok (.iload_n 2, 1) := by decide +kernel
theorem own_d12_109 : decode method_4_code 109 = .ok (.iload_n 3, 1) := by decide +kernel
theorem own_d12_110 : decode method_4_code 110 = .ok (.invokestatic 42, 3) := by decide +kernel
theorem own_d12_113 : decode method_4_code 113 = .ok (.iastore, 1) := by decide +kernel
theorem own_d12_114 : decode method_4_code 114 = .ok (.iinc 8 1, 3) := by decide +kernel
theorem own_d12_117 : decode method_4_code 117 = .ok (.iload_n 1, 1) := by decide +kernel
theorem own_d12_118 : decode method_4_code 118 = .ok (.iconst 1, 1) := by decide +kernel
theorem own_d12_119 : decode method_4_code 119 = .ok (.if_icmp .le 41, 3) := by decide +kernel
theorem own_d12_122 : decode method_4_code 122 = .ok (.aload 5, 2) := by decide +kernel
theorem own_d12_124 : decode method_4_code 124 = .ok (.iconst 1, 1) := by decide +kernel
theorem own_d12_125 : decode method_4_code 125 = .ok (.iaload, 1) := by decide +kernel
theorem own_d12_126 : decode method_4_code 126 = .ok (.iload_n 0, 1) := by decide +kernel
theorem own_d12_127 : decode method_4_code 127 = .ok (.if_icmp .ne 33, 3) := by decide +kernel
theorem own_d12_130 : decode method_4_code 130 = .ok (.aload 7, 2) := by decide +kernel
theorem own_d12_132 : decode method_4_code 132 = .ok (.iload 4, 2) := by decide +kernel
theorem own_d12_134 : decode method_4_code 134 = .ok (.ifCond .eq 13, 3) := by decide +kernel
theorem own_d12_137 : decode method_4_code 137 = .ok (.iload 6, 2) := by decide +kernel
theorem own_d12_139 : decode method_4_code 139 = .ok (.iconst 1, 1) := by decide +kernel
theorem own_d12_140 : decode method_4_code 140 = .ok (.isub, 1) := by decide +kernel
theorem own_d12_141 : decode method_4_code 141 = .ok (.iload 8, 2) := by decide +kernel
theorem own_d12_143 : decode method_4_code 143 = .ok (.isub, 1) := by decide +kernel
theorem own_d12_144 : decode method_4_code 144 = .ok (.goto 5, 3) := by decide +kernel
theorem own_d12_147 : decode method_4_code 147 = .ok (.iload 8, 2) := by decide +kernel
theorem own_d12_149 : decode method_4_code 149 = .ok (.iconst 1, 1) := by decide +kernel
theorem own_d12_150 : decode method_4_code 150 = .ok (.iload_n 1, 1) := by decide +kernel
theorem own_d12_151 : decode method_4_code 151 = .ok (.iload_n 2, 1) := by decide +kernel
theorem own_d12_152 : decode method_4_code 152 = .ok (.iload_n 3, 1) := by decide +kernel
theorem own_d12_153 : decode method_4_code 153 = .ok (.invokestatic 42, 3) := by decide +kernel
theorem own_d12_156 : decode method_4_code 156 = .ok (.iastore, 1) := by decide +kernel
theorem own_d12_157 : decode method_4_code 157 = .ok (.iinc 8 1, 3) := by decide +kernel
theorem own_d12_160 : decode method_4_code 160 = .ok (.iload_n 1, 1) := by decide +kernel
theorem own_d12_161 : decode method_4_code 161 = .ok (.iconst 2, 1) := by decide +kernel
theorem own_d12_162 : decode method_4_code 162 = .ok (.if_icmp .le 41, 3) := by decide +kernel
theorem own_d12_165 : decode method_4_code 165 = .ok (.aload 5, 2) := by decide +kernel
theorem own_d12_167 : decode method_4_code 167 = .ok (.iconst 2, 1) := by decide +kernel
theorem own_d12_168 : decode method_4_code 168 = .ok (.iaload, 1) := by decide +kernel
theorem own_d12_169 : decode method_4_code 169 = .ok (.iload_n 0, 1) := by decide +kernel
theorem own_d12_170 : decode method_4_code 170 = .ok (.if_icmp .ne 33, 3) := by decide +kernel
theorem own_d12_173 : decode method_4_code 173 = .ok (.aload 7, 2) := by decide +kernel
theorem own_d12_175 : decode method_4_code 175 = .ok (.iload 4, 2) := by decide +kernel
theorem own_d12_177 : decode method_4_code 177 = .ok (.ifCond .eq 13, 3) := by decide +kernel
theorem own_d12_180 : decode method_4_code 180 = .ok (.iload 6, 2) := by decide +kernel
theorem own_d12_182 : decode method_4_code 182 = .ok (.iconst 1, 1) := by decide +kernel
theorem own_d12_183 : decode method_4_code 183 = .ok (.isub, 1) := by decide +kernel
theorem own_d12_184 : decode method_4_code 184 = .ok (.iload 8, 2) := by decide +kernel
theorem own_d12_186 : decode method_4_code 186 = .ok (.isub, 1) := by decide +kernel
theorem own_d12_187 : decode method_4_code 187 = .ok (.goto 5, 3) := by decide +kernel
theorem own_d12_190 : decode method_4_code 190 = .ok (.iload 8, 2) := by decide +kernel
theorem own_d12_192 : decode method_4_code 192 = .ok (.iconst 2, 1) := by decide +kernel
theorem own_d12_193 : decode method_4_code 193 = .ok (.iload_n 1, 1) := by decide +kernel
theorem own_d12_194 : decode method_4_code 194 = .ok (.iload_n 2, 1) := by decide +kernel
theorem own_d12_195 : decode method_4_code 195 = .ok (.iload_n 3, 1) := by decide +kernel
theorem own_d12_196 : decode method_4_code 196 = .ok (.invokestatic 42, 3) := by decide +kernel
theorem own_d12_199 : decode method_4_code 199 = .ok (.iastore, 1) := by decide +kernel
theorem own_d12_200 : decode method_4_code 200 = .ok (.iinc 8 1, 3) := by decide +kernel
theorem own_d12_203 : decode method_4_code 203 = .ok (.iload_n 1, 1) := by decide +kernel
theorem own_d12_204 : decode method_4_code 204 = .ok (.iconst 3, 1) := by decide +kernel
theorem own_d12_205 : decode method_4_code 205 = .ok (.if_icmp .le 41, 3) := by decide +kernel
theorem own_d12_208 : decode method_4_code 208 = .ok (.aload 5, 2) := by decide +kernel
theorem own_d12_210 : decode method_4_code 210 = .ok (.iconst 3, 1) := by decide +kernel
theorem own_d12_211 : decode method_4_code 211 = .ok (.iaload, 1) := by decide +kernel
theorem own_d12_212 : decode method_4_code 212 = .ok (.iload_n 0, 1) := by decide +kernel
theorem own_d12_213 : decode method_4_code 213 = .ok (.if_icmp .ne 33, 3) := by decide +kernel
theorem own_d12_216 : decode method_4_code 216 = .ok (.aload 7, 2) := by decide +kernel
theorem own_d12_218 : decode method_4_code 218 = .ok (.iload 4, 2) := by decide +kernel
theorem own_d12_220 : decode method_4_code 220 = .ok (.ifCond .eq 13, 3) := by decide +kernel
theorem own_d12_223 : decode method_4_code 223 = .ok (.iload 6, 2) := by decide +kernel
theorem own_d12_225 : decode method_4_code 225 = .ok (.iconst 1, 1) := by decide +kernel
theorem own_d12_226 : decode method_4_code 226 = .ok (.isub, 1) := by decide +kernel
theorem own_d12_227 : decode method_4_code 227 = .ok (.iload 8, 2) := by decide +kernel
theorem own_d12_229 : decode method_4_code 229 = .ok (.isub, 1) := by decide +kernel
theorem own_d12_230 : decode method_4_code 230 = .ok (.goto 5, 3) := by decide +kernel
theorem own_d12_233 : decode method_4_code 233 = .ok (.iload 8, 2) := by decide +kernel
theorem own_d12_235 : decode method_4_code 235 = .ok (.iconst 3, 1) := by decide +kernel
theorem own_d12_236 : decode method_4_code 236 = .ok (.iload_n 1, 1) := by decide +kernel
theorem own_d12_237 : decode method_4_code 237 = .ok (.iload_n 2, 1) := by decide +kernel
theorem own_d12_238 : decode method_4_code 238 = .ok (.iload_n 3, 1) := by decide +kernel
theorem own_d12_239 : decode method_4_code 239 = .ok (.invokestatic 42, 3) := by decide +kernel
theorem own_d12_242 : decode method_4_code 242 = .ok (.iastore, 1) := by decide +kernel
theorem own_d12_243 : decode method_4_code 243 = .ok (.iinc 8 1, 3) := by decide +kernel
theorem own_d12_246 : decode method_4_code 246 = .ok (.aload 7, 2) := by decide +kernel
theorem own_d12_248 : decode method_4_code 248 = .ok (.areturn, 1) := by decide +kernel
theorem own_c12_ef (m : MethodId) (x0 : Int32) (x1 : Int32) (x2 : Int32) (x3 : Int32) (x4 : Int32) (x5 : Addr) : entryFrame m #[(.int x0), (.int x1), (.int x2), (.int x3), (.int x4), (.ref x5)] 9 = mkF m 0 #[.val (.int x0), .val (.int x1), .val (.int x2), .val (.int x3), .val (.int x4), .val (.ref x5), .unset, .unset, .unset] [] := by first | (simp [entryFrame, mkF, argsToLocals, Value.category]; done) | rfl
set_option maxRecDepth 65536 in
set_option maxHeartbeats 40000000 in
theorem own_c12 (l : Launch) (Z : State) (a0 : Array Value) (hw : ∀ d ∈ tables_1, d.before a0 Z = true) (wsC : List Jvm.Cond) (p1 p2 p3 p4 p5 : Int32) (la : Addr) (kl : ClassId) (x0 x1 x2 x3 : Int32) (h0 : Heap) (n0 : Nat) (Z0 : n0 ≤ h0.size) (V : Arv Z h0 la kl .int 4 [.int x0, .int x1, .int x2, .int x3] (.int 0)) :
    own_Ctr l Z (⟨"com/example/anonutils/anonutils/ClusteringOfPinLaw", "members", "(IIIZZ[I)[I"⟩ : MethodName) method_4_code 9 (some (.array .int)) wsC ({ frames := 1, cells := 1, slots := 4, locals := 30 } : Room) h0 #[(.int p1), (.int p2), (.int p3), (.int p4), (.int p5), (.ref la)] (fun v h L => ∃ b kb, v = some (.ref b) ∧ Fr n0 L ∧ Keep h0 h [] ∧ h0.size ≤ b ∧ n0 ≤ b ∧ Exa Z h b "[I" ∧ Arv Z h b kb .int (own_m4 p1 p2 x0 x1 x2 x3) ((own_ws p1 p2 p3 p4 p5 x0 x1 x2 x3).map Value.int) (.int 0)) := by
  refine own_ctr (plainFor_of_name own_pn7) ?_
  intro p e s m below meth c s₁ Bd hml0 hx hby hZ hown0 X0 e0
  have hml : c.maxLocals = 9 := hml0
  have hown : s.vm.findClass "com/example/anonutils/anonutils/ClusteringOfPinLaw" = some m.cls := hown0
  have hnm := (name_of_methodNamed Bd.named Bd.method).1
  have N0 := Fr.nil n0
  refine own_cast (own_c12_ef m p1 p2 p3 p4 p5 la) ?_
  refine own_go (S' := (s₁.setTop (mkF m 4 #[.val (.int p1), .val (.int p2), .val (.int p3), .val (.int p4), .val (.int p5), .val (.ref la), .val (.int (0 : Int32)), .unset, .unset] [(.int p2)]))) (fun t_ k_ => ?_) ?_
  · refine XS.iconst X0.here hx rfl (hb hby own_d12_0) ?_
    show Steps p.tables e below (s₁.setTop (mkF m 1 #[.val (.int p1), .val (.int p2), .val (.int p3), .val (.int p4), .val (.int p5), .val (.ref la), .unset, .unset, .unset] [(.int (0 : Int32))])) _
    refine XS.istore X0.here hx rfl (hb hby own_d12_1) rfl (l' := #[.val (.int p1), .val (.int p2), .val (.int p3), .val (.int p4), .val (.int p5), .val (.ref la), .val (.int (0 : Int32)), .unset, .unset]) rfl ?_
    show Steps p.tables e below (s₁.setTop (mkF m 3 #[.val (.int p1), .val (.int p2), .val (.int p3), .val (.int p4), .val (.int p5), .val (.ref la), .val (.int (0 : Int32)), .unset, .unset] [])) _
    refine XS.iloadN X0.here hx rfl (hb hby own_d12_3) rfl ?_
    show Steps p.tables e below (s₁.setTop (mkF m 4 #[.val (.int p1), .val (.int p2), .val (.int p3), .val (.int p4), .val (.int p5), .val (.ref la), .val (.int (0 : Int32)), .unset, .unset] [(.int p2)])) _
    exact k_
  obtain ⟨m1, em1⟩ : ∃ z : Int32, z = own_m1 p1 p2 x0 := ⟨_, rfl⟩
  refine own_join (S' := (s₁.setTop (mkF m 18 #[.val (.int p1), .val (.int p2), .val (.int p3), .val (.int p4), .val (.int p5), .val (.ref la), .val (.int m1), .unset, .unset] []))) (fun J1 => ?_) ?_
  · skip
    by_cases hn0 : (0 : Int32) < p2
    · skip
      refine own_go (S' := (s₁.setTop (mkF m 10 #[.val (.int p1), .val (.int p2), .val (.int p3), .val (.int p4), .val (.int p5), .val (.ref la), .val (.int (0 : Int32)), .unset, .unset] [(.int (0 : Int32)), (.ref la)]))) (fun t_ k_ => ?_) ?_
      · refine XS.ifNo X0.here hx rfl (hb hby own_d12_4) rfl ((if0 _ _).trans (tlt hn0).2.2.2) ?_
        show Steps p.tables e below (s₁.setTop (mkF m 7 #[.val (.int p1), .val (.int p2), .val (.int p3), .val (.int p4), .val (.int p5), .val (.ref la), .val (.int (0 : Int32)), .unset, .unset] [])) _
        refine XS.aload X0.here hx rfl (hb hby own_d12_7) rfl rfl ?_
        show Steps p.tables e below (s₁.setTop (mkF m 9 #[.val (.int p1), .val (.int p2), .val (.int p3), .val (.int p4), .val (.int p5), .val (.ref la), .val (.int (0 : Int32)), .unset, .unset] [(.ref la)])) _
        refine XS.iconst X0.here hx rfl (hb hby own_d12_9) ?_
        show Steps p.tables e below (s₁.setTop (mkF m 10 #[.val (.int p1), .val (.int p2), .val (.int p3), .val (.int p4), .val (.int p5), .val (.ref la), .val (.int (0 : Int32)), .unset, .unset] [(.int (0 : Int32)), (.ref la)])) _
        exact k_
      refine own_go (own_ial X0 hx hZ e0 V (by decide) (v := (.int x0)) rfl (g := (mkF m 10 #[.val (.int p1), .val (.int p2), .val (.int p3), .val (.int p4), .val (.int p5), .val (.ref la), .val (.int (0 : Int32)), .unset, .unset] [(.int (0 : Int32)), (.ref la)])) rfl rfl (hb hby own_d12_10)) ?_
      show own_Rch p e below _ (s₁.setTop (mkF m 11 #[.val (.int p1), .val (.int p2), .val (.int p3), .val (.int p4), .val (.int p5), .val (.ref la), .val (.int (0 : Int32)), .unset, .unset] [(.int x0)]))
      refine own_go (S' := (s₁.setTop (mkF m 12 #[.val (.int p1), .val (.int p2), .val (.int p3), .val (.int p4), .val (.int p5), .val (.ref la), .val (.int (0 : Int32)), .unset, .unset] [(.int p1), (.int x0)]))) (fun t_ k_ => ?_) ?_
      · refine XS.iloadN X0.here hx rfl (hb hby own_d12_11) rfl ?_
        show Steps p.tables e below (s₁.setTop (mkF m 12 #[.val (.int p1), .val (.int p2), .val (.int p3), .val (.int p4), .val (.int p5), .val (.ref la), .val (.int (0 : Int32)), .unset, .unset] [(.int p1), (.int x0)])) _
        exact k_
      by_cases hx0 : x0 = p1
      · skip
        refine own_go (S' := (s₁.setTop (mkF m 18 #[.val (.int p1), .val (.int p2), .val (.int p3), .val (.int p4), .val (.int p5), .val (.ref la), .val (.int ((0 : Int32) + (1 : Int32))), .unset, .unset] []))) (fun t_ k_ => ?_) ?_
        · refine XS.icmpNo X0.here hx rfl (hb hby own_d12_12) rfl (teq hx0).2 ?_
          show Steps p.tables e below (s₁.setTop (mkF m 15 #[.val (.int p1), .val (.int p2), .val (.int p3), .val (.int p4), .val (.int p5), .val (.ref la), .val (.int (0 : Int32)), .unset, .unset] [])) _
          refine XS.iinc X0.here hx rfl (hb hby own_d12_15) rfl (l' := #[.val (.int p1), .val (.int p2), .val (.int p3), .val (.int p4), .val (.int p5), .val (.ref la), .val (.int ((0 : Int32) + (1 : Int32))), .unset, .unset]) rfl ?_
          show Steps p.tables e below (s₁.setTop (mkF m 18 #[.val (.int p1), .val (.int p2), .val (.int p3), .val (.int p4), .val (.int p5), .val (.ref la), .val (.int ((0 : Int32) + (1 : Int32))), .unset, .unset] [])) _
          exact k_
        rw [own_m1, own_inc, if_pos hn0, if_pos hx0] at em1; subst em1; exact J1
      · skip
        refine own_go (S' := (s₁.setTop (mkF m 18 #[.val (.int p1), .val (.int p2), .val (.int p3), .val (.int p4), .val (.int p5), .val (.ref la), .val (.int (0 : Int32)), .unset, .unset] []))) (fun t_ k_ => ?_) ?_
        · refine XS.icmpYes X0.here hx rfl (pc0 := 12) (pc' := 18) rfl (hb hby own_d12_12) rfl (feq hx0).2 (by decide) (by decide) ?_
          show Steps p.tables e below (s₁.setTop (mkF m 18 #[.val (.int p1), .val (.int p2), .val (.int p3), .val (.int p4), .val (.int p5), .val (.ref la), .val (.int (0 : Int32)), .unset, .unset] [])) _
          exact k_
        rw [own_m1, own_inc, if_pos hn0, if_neg hx0] at em1; subst em1; exact J1
    · skip
      refine own_go (S' := (s₁.setTop (mkF m 18 #[.val (.int p1), .val (.int p2), .val (.int p3), .val (.int p4), .val (.int p5), .val (.ref la), .val (.int (0 : Int32)), .unset, .unset] []))) (fun t_ k_ => ?_) ?_
      · refine XS.ifYes X0.here hx rfl (pc0 := 4) (pc' := 18) rfl (hb hby own_d12_4) rfl ((if0 _ _).trans (flt hn0).2.2.2) (by decide) (by decide) ?_
        show Steps p.tables e below (s₁.setTop (mkF m 18 #[.val (.int p1), .val (.int p2), .val (.int p3), .val (.int p4), .val (.int p5), .val (.ref la), .val (.int (0 : Int32)), .unset, .unset] [])) _
        exact k_
      rw [own_m1, own_inc, if_neg hn0] at em1; subst em1; exact J1
  refine own_go (S' := (s₁.setTop (mkF m 20 #[.val (.int p1), .val (.int p2), .val (.int p3), .val (.int p4), .val (.int p5), .val (.ref la), .val (.int m1), .unset, .unset] [(.int (1 : Int32)), (.int p2)]))) (fun t_ k_ => ?_) ?_
  · refine XS.iloadN X0.here hx rfl (hb hby own_d12_18) rfl ?_
    show Steps p.tables e below (s₁.setTop (mkF m 19 #[.val (.int p1), .val (.int p2), .val (.int p3), .val (.int p4), .val (.int p5), .val (.ref la), .val (.int m1), .unset, .unset] [(.int p2)])) _
    refine XS.iconst X0.here hx rfl (hb hby own_d12_19) ?_
    show Steps p.tables e below (s₁.setTop (mkF m 20 #[.val (.int p1), .val (.int p2), .val (.int p3), .val (.int p4), .val (.int p5), .val (.ref la), .val (.int m1), .unset, .unset] [(.int (1 : Int32)), (.int p2)])) _
    exact k_
  obtain ⟨m2, em2⟩ : ∃ z : Int32, z = own_m2 p1 p2 x0 x1 := ⟨_, rfl⟩
  refine own_join (S' := (s₁.setTop (mkF m 34 #[.val (.int p1), .val (.int p2), .val (.int p3), .val (.int p4), .val (.int p5), .val (.ref la), .val (.int m2), .unset, .unset] []))) (fun J2 => ?_) ?_
  · skip
    by_cases hn1 : (1 : Int32) < p2
    · skip
      refine own_go (S' := (s₁.setTop (mkF m 26 #[.val (.int p1), .val (.int p2), .val (.int p3), .val (.int p4), .val (.int p5), .val (.ref la), .val (.int m1), .unset, .unset] [(.int (1 : Int32)), (.ref la)]))) (fun t_ k_ => ?_) ?_
      · refine XS.icmpNo X0.here hx rfl (hb hby own_d12_20) rfl (tlt hn1).2.2.2 ?_
        show Steps p.tables e below (s₁.setTop (mkF m 23 #[.val (.int p1), .val (.int p2), .val (.int p3), .val (.int p4), .val (.int p5), .val (.ref la), .val (.int m1), .unset, .unset] [])) _
        refine XS.aload X0.here hx rfl (hb hby own_d12_23) rfl rfl ?_
        show Steps p.tables e below (s₁.setTop (mkF m 25 #[.val (.int p1), .val (.int p2), .val (.int p3), .val (.int p4), .val (.int p5), .val (.ref la), .val (.int m1), .unset, .unset] [(.ref la)])) _
        refine XS.iconst X0.here hx rfl (hb hby own_d12_25) ?_
        show Steps p.tables e below (s₁.setTop (mkF m 26 #[.val (.int p1), .val (.int p2), .val (.int p3), .val (.int p4), .val (.int p5), .val (.ref la), .val (.int m1), .unset, .unset] [(.int (1 : Int32)), (.ref la)])) _
        exact k_
      refine own_go (own_ial X0 hx hZ e0 V (by decide) (v := (.int x1)) rfl (g := (mkF m 26 #[.val (.int p1), .val (.int p2), .val (.int p3), .val (.int p4), .val (.int p5), .val (.ref la), .val (.int m1), .unset, .unset] [(.int (1 : Int32)), (.ref la)])) rfl rfl (hb hby own_d12_26)) ?_
      show own_Rch p e below _ (s₁.setTop (mkF m 27 #[.val (.int p1), .val (.int p2), .val (.int p3), .val (.int p4), .val (.int p5), .val (.ref la), .val (.int m1), .unset, .unset] [(.int x1)]))
      refine own_go (S' := (s₁.setTop (mkF m 28 #[.val (.int p1), .val (.int p2), .val (.int p3), .val (.int p4), .val (.int p5), .val (.ref la), .val (.int m1), .unset, .unset] [(.int p1), (.int x1)]))) (fun t_ k_ => ?_) ?_
      · refine XS.iloadN X0.here hx rfl (hb hby own_d12_27) rfl ?_
        show Steps p.tables e below (s₁.setTop (mkF m 28 #[.val (.int p1), .val (.int p2), .val (.int p3), .val (.int p4), .val (.int p5), .val (.ref la), .val (.int m1), .unset, .unset] [(.int p1), (.int x1)])) _
        exact k_
      by_cases hx1 : x1 = p1
      · skip
        refine own_go (S' := (s₁.setTop (mkF m 34 #[.val (.int p1), .val (.int p2), .val (.int p3), .val (.int p4), .val (.int p5), .val (.ref la), .val (.int (m1 + (1 : Int32))), .unset, .unset] []))) (fun t_ k_ => ?_) ?_
        · refine XS.icmpNo X0.here hx rfl (hb hby own_d12_28) rfl (teq hx1).2 ?_
          show Steps p.tables e below (s₁.setTop (mkF m 31 #[.val (.int p1), .val (.int p2), .val (.int p3), .val (.int p4), .val (.int p5), .val (.ref la), .val (.int m1), .unset, .unset] [])) _
          refine XS.iinc X0.here hx rfl (hb hby own_d12_31) rfl (l' := #[.val (.int p1), .val (.int p2), .val (.int p3), .val (.int p4), .val (.int p5), .val (.ref la), .val (.int (m1 + (1 : Int32))), .unset, .unset]) rfl ?_
          show Steps p.tables e below (s₁.setTop (mkF m 34 #[.val (.int p1), .val (.int p2), .val (.int p3), .val (.int p4), .val (.int p5), .val (.ref la), .val (.int (m1 + (1 : Int32))), .unset, .unset] [])) _
          exact k_
        rw [own_m2, own_inc, ← em1, if_pos hn1, if_pos hx1] at em2; subst em2; exact J2
      · skip
        refine own_go (S' := (s₁.setTop (mkF m 34 #[.val (.int p1), .val (.int p2), .val (.int p3), .val (.int p4), .val (.int p5), .val (.ref la), .val (.int m1), .unset, .unset] []))) (fun t_ k_ => ?_) ?_
        · refine XS.icmpYes X0.here hx rfl (pc0 := 28) (pc' := 34) rfl (hb hby own_d12_28) rfl (feq hx1).2 (by decide) (by decide) ?_
          show Steps p.tables e below (s₁.setTop (mkF m 34 #[.val (.int p1), .val (.int p2), .val (.int p3), .val (.int p4), .val (.int p5), .val (.ref la), .val (.int m1), .unset, .unset] [])) _
          exact k_
        rw [own_m2, own_inc, ← em1, if_pos hn1, if_neg hx1] at em2; subst em2; exact J2
    · skip
      refine own_go (S' := (s₁.setTop (mkF m 34 #[.val (.int p1), .val (.int p2), .val (.int p3), .val (.int p4), .val (.int p5), .val (.ref la), .val (.int m1), .unset, .unset] []))) (fun t_ k_ => ?_) ?_
      · refine XS.icmpYes X0.here hx rfl (pc0 := 20) (pc' := 34) rfl (hb hby own_d12_20) rfl (flt hn1).2.2.2 (by decide) (by decide) ?_
        show Steps p.tables e below (s₁.setTop (mkF m 34 #[.val (.int p1), .val (.int p2), .val (.int p3), .val (.int p4), .val (.int p5), .val (.ref la), .val (.int m1), .unset, .unset] [])) _
        exact k_
      rw [own_m2, own_inc, ← em1, if_neg hn1] at em2; subst em2; exact J2
  refine own_go (S' := (s₁.setTop (mkF m 36 #[.val (.int p1), .val (.int p2), .val (.int p3), .val (.int p4), .val (.int p5), .val (.ref la), .val (.int m2), .unset, .unset] [(.int (2 : Int32)), (.int p2)]))) (fun t_ k_ => ?_) ?_
  · refine XS.iloadN X0.here hx rfl (hb hby own_d12_34) rfl ?_
    show Steps p.tables e below (s₁.setTop (mkF m 35 #[.val (.int p1), .val (.int p2), .val (.int p3), .val (.int p4), .val (.int p5), .val (.ref la), .val (.int m2), .unset, .unset] [(.int p2)])) _
    refine XS.iconst X0.here hx rfl (hb hby own_d12_35) ?_
    show Steps p.tables e below (s₁.setTop (mkF m 36 #[.val (.int p1), .val (.int p2), .val (.int p3), .val (.int p4), .val (.int p5), .val (.ref la), .val (.int m2), .unset, .unset] [(.int (2 : Int32)), (.int p2)])) _
    exact k_
  obtain ⟨m3, em3⟩ : ∃ z : Int32, z = own_m3 p1 p2 x0 x1 x2 := ⟨_, rfl⟩
  refine own_join (S' := (s₁.setTop (mkF m 50 #[.val (.int p1), .val (.int p2), .val (.int p3), .val (.int p4), .val (.int p5), .val (.ref la), .val (.int m3), .unset, .unset] []))) (fun J3 => ?_) ?_
  · skip
    by_cases hn2 : (2 : Int32) < p2
    · skip
      refine own_go (S' := (s₁.setTop (mkF m 42 #[.val (.int p1), .val (.int p2), .val (.int p3), .val (.int p4), .val (.int p5), .val (.ref la), .val (.int m2), .unset, .unset] [(.int (2 : Int32)), (.ref la)]))) (fun t_ k_ => ?_) ?_
      · refine XS.icmpNo X0.here hx rfl (hb hby own_d12_36) rfl (tlt hn2).2.2.2 ?_
        show Steps p.tables e below (s₁.setTop (mkF m 39 #[.val (.int p1), .val (.int p2), .val (.int p3), .val (.int p4), .val (.int p5), .val (.ref la), .val (.int m2), .unset, .unset] [])) _
        refine XS.aload X0.here hx rfl (hb hby own_d12_39) rfl rfl ?_
        show Steps p.tables e below (s₁.setTop (mkF m 41 #[.val (.int p1), .val (.int p2), .val (.int p3), .val (.int p4), .val (.int p5), .val (.ref la), .val (.int m2), .unset, .unset] [(.ref la)])) _
        refine XS.iconst X0.here hx rfl (hb hby own_d12_41) ?_
        show Steps p.tables e below (s₁.setTop (mkF m 42 #[.val (.int p1), .val (.int p2), .val (.int p3), .val (.int p4), .val (.int p5), .val (.ref la), .val (.int m2), .unset, .unset] [(.int (2 : Int32)), (.ref la)])) _
        exact k_
      refine own_go (own_ial X0 hx hZ e0 V (by decide) (v := (.int x2)) rfl (g := (mkF m 42 #[.val (.int p1), .val (.int p2), .val (.int p3), .val (.int p4), .val (.int p5), .val (.ref la), .val (.int m2), .unset, .unset] [(.int (2 : Int32)), (.ref la)])) rfl rfl (hb hby own_d12_42)) ?_
      show own_Rch p e below _ (s₁.setTop (mkF m 43 #[.val (.int p1), .val (.int p2), .val (.int p3), .val (.int p4), .val (.int p5), .val (.ref la), .val (.int m2), .unset, .unset] [(.int x2)]))
      refine own_go (S' := (s₁.setTop (mkF m 44 #[.val (.int p1), .val (.int p2), .val (.int p3), .val (.int p4), .val (.int p5), .val (.ref la), .val (.int m2), .unset, .unset] [(.int p1), (.int x2)]))) (fun t_ k_ => ?_) ?_
      · refine XS.iloadN X0.here hx rfl (hb hby own_d12_43) rfl ?_
        show Steps p.tables e below (s₁.setTop (mkF m 44 #[.val (.int p1), .val (.int p2), .val (.int p3), .val (.int p4), .val (.int p5), .val (.ref la), .val (.int m2), .unset, .unset] [(.int p1), (.int x2)])) _
        exact k_
      by_cases hx2 : x2 = p1
      · skip
        refine own_go (S' := (s₁.setTop (mkF m 50 #[.val (.int p1), .val (.int p2), .val (.int p3), .val (.int p4), .val (.int p5), .val (.ref la), .val (.int (m2 + (1 : Int32))), .unset, .unset] []))) (fun t_ k_ => ?_) ?_
        · refine XS.icmpNo X0.here hx rfl (hb hby own_d12_44) rfl (teq hx2).2 ?_
          show Steps p.tables e below (s₁.setTop (mkF m 47 #[.val (.int p1), .val (.int p2), .val (.int p3), .val (.int p4), .val (.int p5), .val (.ref la), .val (.int m2), .unset, .unset] [])) _
          refine XS.iinc X0.here hx rfl (hb hby own_d12_47) rfl (l' := #[.val (.int p1), .val (.int p2), .val (.int p3), .val (.int p4), .val (.int p5), .val (.ref la), .val (.int (m2 + (1 : Int32))), .unset, .unset]) rfl ?_
          show Steps p.tables e below (s₁.setTop (mkF m 50 #[.val (.int p1), .val (.int p2), .val (.int p3), .val (.int p4), .val (.int p5), .val (.ref la), .val (.int (m2 + (1 : Int32))), .unset, .unset] [])) _
          exact k_
        rw [own_m3, own_inc, ← em2, if_pos hn2, if_pos hx2] at em3; subst em3; exact J3
      · skip
        refine own_go (S' := (s₁.setTop (mkF m 50 #[.val (.int p1), .val (.int p2), .val (.int p3), .val (.int p4), .val (.int p5), .val (.ref la), .val (.int m2), .unset, .unset] []))) (fun t_ k_ => ?_) ?_
        · refine XS.icmpYes X0.here hx rfl (pc0 := 44) (pc' := 50) rfl (hb hby own_d12_44) rfl (feq hx2).2 (by decide) (by decide) ?_
          show Steps p.tables e below (s₁.setTop (mkF m 50 #[.val (.int p1), .val (.int p2), .val (.int p3), .val (.int p4), .val (.int p5), .val (.ref la), .val (.int m2), .unset, .unset] [])) _
          exact k_
        rw [own_m3, own_inc, ← em2, if_pos hn2, if_neg hx2] at em3; subst em3; exact J3
    · skip
      refine own_go (S' := (s₁.setTop (mkF m 50 #[.val (.int p1), .val (.int p2), .val (.int p3), .val (.int p4), .val (.int p5), .val (.ref la), .val (.int m2), .unset, .unset] []))) (fun t_ k_ => ?_) ?_
      · refine XS.icmpYes X0.here hx rfl (pc0 := 36) (pc' := 50) rfl (hb hby own_d12_36) rfl (flt hn2).2.2.2 (by decide) (by decide) ?_
        show Steps p.tables e below (s₁.setTop (mkF m 50 #[.val (.int p1), .val (.int p2), .val (.int p3), .val (.int p4), .val (.int p5), .val (.ref la), .val (.int m2), .unset, .unset] [])) _
        exact k_
      rw [own_m3, own_inc, ← em2, if_neg hn2] at em3; subst em3; exact J3
  refine own_go (S' := (s₁.setTop (mkF m 52 #[.val (.int p1), .val (.int p2), .val (.int p3), .val (.int p4), .val (.int p5), .val (.ref la), .val (.int m3), .unset, .unset] [(.int (3 : Int32)), (.int p2)]))) (fun t_ k_ => ?_) ?_
  · refine XS.iloadN X0.here hx rfl (hb hby own_d12_50) rfl ?_
    show Steps p.tables e below (s₁.setTop (mkF m 51 #[.val (.int p1), .val (.int p2), .val (.int p3), .val (.int p4), .val (.int p5), .val (.ref la), .val (.int m3), .unset, .unset] [(.int p2)])) _
    refine XS.iconst X0.here hx rfl (hb hby own_d12_51) ?_
    show Steps p.tables e below (s₁.setTop (mkF m 52 #[.val (.int p1), .val (.int p2), .val (.int p3), .val (.int p4), .val (.int p5), .val (.ref la), .val (.int m3), .unset, .unset] [(.int (3 : Int32)), (.int p2)])) _
    exact k_
  obtain ⟨m4, em4⟩ : ∃ z : Int32, z = own_m4 p1 p2 x0 x1 x2 x3 := ⟨_, rfl⟩
  refine own_join (S' := (s₁.setTop (mkF m 66 #[.val (.int p1), .val (.int p2), .val (.int p3), .val (.int p4), .val (.int p5), .val (.ref la), .val (.int m4), .unset, .unset] []))) (fun J4 => ?_) ?_
  · skip
    by_cases hn3 : (3 : Int32) < p2
    · skip
      refine own_go (S' := (s₁.setTop (mkF m 58 #[.val (.int p1), .val (.int p2), .val (.int p3), .val (.int p4), .val (.int p5), .val (.ref la), .val (.int m3), .unset, .unset] [(.int (3 : Int32)), (.ref la)]))) (fun t_ k_ => ?_) ?_
      · refine XS.icmpNo X0.here hx rfl (hb hby own_d12_52) rfl (tlt hn3).2.2.2 ?_
        show Steps p.tables e below (s₁.setTop (mkF m 55 #[.val (.int p1), .val (.int p2), .val (.int p3), .val (.int p4), .val (.int p5), .val (.ref la), .val (.int m3), .unset, .unset] [])) _
        refine XS.aload X0.here hx rfl (hb hby own_d12_55) rfl rfl ?_
        show Steps p.tables e below (s₁.setTop (mkF m 57 #[.val (.int p1), .val (.int p2), .val (.int p3), .val (.int p4), .val (.int p5), .val (.ref la), .val (.int m3), .unset, .unset] [(.ref la)])) _
        refine XS.iconst X0.here hx rfl (hb hby own_d12_57) ?_
        show Steps p.tables e below (s₁.setTop (mkF m 58 #[.val (.int p1), .val (.int p2), .val (.int p3), .val (.int p4), .val (.int p5), .val (.ref la), .val (.int m3), .unset, .unset] [(.int (3 : Int32)), (.ref la)])) _
        exact k_
      refine own_go (own_ial X0 hx hZ e0 V (by decide) (v := (.int x3)) rfl (g := (mkF m 58 #[.val (.int p1), .val (.int p2), .val (.int p3), .val (.int p4), .val (.int p5), .val (.ref la), .val (.int m3), .unset, .unset] [(.int (3 : Int32)), (.ref la)])) rfl rfl (hb hby own_d12_58)) ?_
      show own_Rch p e below _ (s₁.setTop (mkF m 59 #[.val (.int p1), .val (.int p2), .val (.int p3), .val (.int p4), .val (.int p5), .val (.ref la), .val (.int m3), .unset, .unset] [(.int x3)]))
      refine own_go (S' := (s₁.setTop (mkF m 60 #[.val (.int p1), .val (.int p2), .val (.int p3), .val (.int p4), .val (.int p5), .val (.ref la), .val (.int m3), .unset, .unset] [(.int p1), (.int x3)]))) (fun t_ k_ => ?_) ?_
      · refine XS.iloadN X0.here hx rfl (hb hby own_d12_59) rfl ?_
        show Steps p.tables e below (s₁.setTop (mkF m 60 #[.val (.int p1), .val (.int p2), .val (.int p3), .val (.int p4), .val (.int p5), .val (.ref la), .val (.int m3), .unset, .unset] [(.int p1), (.int x3)])) _
        exact k_
      by_cases hx3 : x3 = p1
      · skip
        refine own_go (S' := (s₁.setTop (mkF m 66 #[.val (.int p1), .val (.int p2), .val (.int p3), .val (.int p4), .val (.int p5), .val (.ref la), .val (.int (m3 + (1 : Int32))), .unset, .unset] []))) (fun t_ k_ => ?_) ?_
        · refine XS.icmpNo X0.here hx rfl (hb hby own_d12_60) rfl (teq hx3).2 ?_
          show Steps p.tables e below (s₁.setTop (mkF m 63 #[.val (.int p1), .val (.int p2), .val (.int p3), .val (.int p4), .val (.int p5), .val (.ref la), .val (.int m3), .unset, .unset] [])) _
          refine XS.iinc X0.here hx rfl (hb hby own_d12_63) rfl (l' := #[.val (.int p1), .val (.int p2), .val (.int p3), .val (.int p4), .val (.int p5), .val (.ref la), .val (.int (m3 + (1 : Int32))), .unset, .unset]) rfl ?_
          show Steps p.tables e below (s₁.setTop (mkF m 66 #[.val (.int p1), .val (.int p2), .val (.int p3), .val (.int p4), .val (.int p5), .val (.ref la), .val (.int (m3 + (1 : Int32))), .unset, .unset] [])) _
          exact k_
        rw [own_m4, own_inc, ← em3, if_pos hn3, if_pos hx3] at em4; subst em4; exact J4
      · skip
        refine own_go (S' := (s₁.setTop (mkF m 66 #[.val (.int p1), .val (.int p2), .val (.int p3), .val (.int p4), .val (.int p5), .val (.ref la), .val (.int m3), .unset, .unset] []))) (fun t_ k_ => ?_) ?_
        · refine XS.icmpYes X0.here hx rfl (pc0 := 60) (pc' := 66) rfl (hb hby own_d12_60) rfl (feq hx3).2 (by decide) (by decide) ?_
          show Steps p.tables e below (s₁.setTop (mkF m 66 #[.val (.int p1), .val (.int p2), .val (.int p3), .val (.int p4), .val (.int p5), .val (.ref la), .val (.int m3), .unset, .unset] [])) _
          exact k_
        rw [own_m4, own_inc, ← em3, if_pos hn3, if_neg hx3] at em4; subst em4; exact J4
    · skip
      refine own_go (S' := (s₁.setTop (mkF m 66 #[.val (.int p1), .val (.int p2), .val (.int p3), .val (.int p4), .val (.int p5), .val (.ref la), .val (.int m3), .unset, .unset] []))) (fun t_ k_ => ?_) ?_
      · refine XS.icmpYes X0.here hx rfl (pc0 := 52) (pc' := 66) rfl (hb hby own_d12_52) rfl (flt hn3).2.2.2 (by decide) (by decide) ?_
        show Steps p.tables e below (s₁.setTop (mkF m 66 #[.val (.int p1), .val (.int p2), .val (.int p3), .val (.int p4), .val (.int p5), .val (.ref la), .val (.int m3), .unset, .unset] [])) _
        exact k_
      rw [own_m4, own_inc, ← em3, if_neg hn3] at em4; subst em4; exact J4
  refine own_go (S' := (s₁.setTop (mkF m 68 #[.val (.int p1), .val (.int p2), .val (.int p3), .val (.int p4), .val (.int p5), .val (.ref la), .val (.int m4), .unset, .unset] [(.int m4)]))) (fun t_ k_ => ?_) ?_
  · refine XS.iload X0.here hx rfl (hb hby own_d12_66) rfl ?_
    show Steps p.tables e below (s₁.setTop (mkF m 68 #[.val (.int p1), .val (.int p2), .val (.int p3), .val (.int p4), .val (.int p5), .val (.ref la), .val (.int m4), .unset, .unset] [(.int m4)])) _
    exact k_
  have z0 : (0 : Int32).toInt = 0 := by decide
  have r1 := own_incR (q := 0) (r := m1) em1 (by omega) (by omega)
  have r2 := own_incR (q := m1) (r := m2) (em2.trans (by rw [own_m2, ← em1])) (by omega) (by omega)
  have r3 := own_incR (q := m2) (r := m3) (em3.trans (by rw [own_m3, ← em2])) (by omega) (by omega)
  have r4 := own_incR (q := m3) (r := m4) (em4.trans (by rw [own_m4, ← em3])) (by omega) (by omega)
  obtain ⟨T5, h5, k5, X5, e5, E5, A5, Ex5, st5⟩ := newPE X0 hx hZ (hw _ (List.mem_of_getElem? (i := 5) rfl)) e0 (g := (mkF m 68 #[.val (.int p1), .val (.int p2), .val (.int p3), .val (.int p4), .val (.int p5), .val (.ref la), .val (.int m4), .unset, .unset] [(.int m4)])) rfl (hb hby own_d12_68) rfl (own_notneg (by omega)) (cap := 4) (own_clampLe (by omega)) (by decide) (by decide) (by decide) (ad := "[I") (by decide)
  obtain ⟨b5, g5⟩ : ∃ z, z = h0.size := ⟨_, rfl⟩
  rw [← g5] at A5 Ex5 st5
  have gb5 : n0 ≤ b5 := Nat.le_trans Z0 (Nat.le_of_eq g5.symm)
  have V5 := Arv.new A5 (own_notneg (by omega))
  refine own_go st5 ?_
  show own_Rch p e below _ (T5.setTop (mkF m 70 #[.val (.int p1), .val (.int p2), .val (.int p3), .val (.int p4), .val (.int p5), .val (.ref la), .val (.int m4), .unset, .unset] [(.ref b5)]))
  have Va := V5.pad own_pad4
  have sb : h0.size ≤ b5 := Nat.le_of_eq g5.symm
  have nl : la ≠ b5 := Nat.ne_of_lt (Nat.lt_of_lt_of_le V.lt sb)
  refine own_go (S' := (T5.setTop (mkF m 75 #[.val (.int p1), .val (.int p2), .val (.int p3), .val (.int p4), .val (.int p5), .val (.ref la), .val (.int m4), .val (.ref b5), .val (.int (0 : Int32))] []))) (fun t_ k_ => ?_) ?_
  · refine XS.astore X5.here hx rfl (hb hby own_d12_70) rfl rfl (l' := #[.val (.int p1), .val (.int p2), .val (.int p3), .val (.int p4), .val (.int p5), .val (.ref la), .val (.int m4), .val (.ref b5), .unset]) rfl ?_
    show Steps p.tables e below (T5.setTop (mkF m 72 #[.val (.int p1), .val (.int p2), .val (.int p3), .val (.int p4), .val (.int p5), .val (.ref la), .val (.int m4), .val (.ref b5), .unset] [])) _
    refine XS.iconst X5.here hx rfl (hb hby own_d12_72) ?_
    show Steps p.tables e below (T5.setTop (mkF m 73 #[.val (.int p1), .val (.int p2), .val (.int p3), .val (.int p4), .val (.int p5), .val (.ref la), .val (.int m4), .val (.ref b5), .unset] [(.int (0 : Int32))])) _
    refine XS.istore X5.here hx rfl (hb hby own_d12_73) rfl (l' := #[.val (.int p1), .val (.int p2), .val (.int p3), .val (.int p4), .val (.int p5), .val (.ref la), .val (.int m4), .val (.ref b5), .val (.int (0 : Int32))]) rfl ?_
    show Steps p.tables e below (T5.setTop (mkF m 75 #[.val (.int p1), .val (.int p2), .val (.int p3), .val (.int p4), .val (.int p5), .val (.ref la), .val (.int m4), .val (.ref b5), .val (.int (0 : Int32))] [])) _
    exact k_
  obtain ⟨w1, ew1⟩ : ∃ z : List Int32, z = own_st 0 p2 x0 p1 m4 (0 : Int32) p3 p4 p5 [0, 0, 0, 0] := ⟨_, rfl⟩
  have lw1 : w1.length = 4 := by rw [ew1, own_stL]; rfl
  obtain ⟨w2, ew2⟩ : ∃ z : List Int32, z = own_st 1 p2 x1 p1 m4 m1 p3 p4 p5 w1 := ⟨_, rfl⟩
  have lw2 : w2.length = 4 := by rw [ew2, own_stL]; exact lw1
  obtain ⟨w3, ew3⟩ : ∃ z : List Int32, z = own_st 2 p2 x2 p1 m4 m2 p3 p4 p5 w2 := ⟨_, rfl⟩
  have lw3 : w3.length = 4 := by rw [ew3, own_stL]; exact lw2
  obtain ⟨w4, ew4⟩ : ∃ z : List Int32, z = own_st 3 p2 x3 p1 m4 m3 p3 p4 p5 w3 := ⟨_, rfl⟩
  have lw4 : w4.length = 4 := by rw [ew4, own_stL]; exact lw3
  have A4 : ∀ (TA4 : State) (lcA4 : List Loc) (hA4 : Heap)  (XA4 : Stand p l e ({ frames := 1, cells := 1, slots := 4, locals := 30 } : Room) s m #[(.int p1), (.int p2), (.int p3), (.int p4), (.int p5), (.ref la)] below meth c TA4 lcA4 1 4) (eA4 : TA4.heap = hA4) (NA4 : Fr n0 lcA4) (KA4 : Keep h0 hA4 []) (VA4 : Arv Z hA4 b5 k5 .int m4 (w4.map Value.int) (.int 0)) (EA4 : Exa Z hA4 b5 "[I"), own_Rch p e below (own_Fin s ({ frames := 1, cells := 1, slots := 4, locals := 30 } : Room).cells ({ frames := 1, cells := 1, slots := 4, locals := 30 } : Room).slots (fun v h L => ∃ b kb, v = some (.ref b) ∧ Fr n0 L ∧ Keep h0 h [] ∧ h0.size ≤ b ∧ n0 ≤ b ∧ Exa Z h b "[I" ∧ Arv Z h b kb .int (own_m4 p1 p2 x0 x1 x2 x3) ((own_ws p1 p2 p3 p4 p5 x0 x1 x2 x3).map Value.int) (.int 0))) (TA4.setTop (mkF m 246 #[.val (.int p1), .val (.int p2), .val (.int p3), .val (.int p4), .val (.int p5), .val (.ref la), .val (.int m4), .val (.ref b5), .val (.int m4)] [])) := by
    intro TA4 lcA4 hA4 XA4 eA4 NA4 KA4 VA4 EA4
    refine own_go (S' := (TA4.setTop (mkF m 248 #[.val (.int p1), .val (.int p2), .val (.int p3), .val (.int p4), .val (.int p5), .val (.ref la), .val (.int m4), .val (.ref b5), .val (.int m4)] [(.ref b5)]))) (fun t_ k_ => ?_) ?_
    · refine XS.aload XA4.here hx rfl (hb hby own_d12_246) rfl rfl ?_
      show Steps p.tables e below (TA4.setTop (mkF m 248 #[.val (.int p1), .val (.int p2), .val (.int p3), .val (.int p4), .val (.int p5), .val (.ref la), .val (.int m4), .val (.ref b5), .val (.int m4)] [(.ref b5)])) _
      exact k_
    refine own_retA XA4 hx Bd.returns Bd.notSynchronized rfl rfl rfl (hb hby own_d12_248) (by decide) (by decide) ?_
    try rw [eA4]
    exact ⟨b5, k5, rfl, NA4, KA4, sb, gb5, EA4, by rw [own_ws, ← em4, ← em3, ← em2, ← em1, ← ew1, ← ew2, ← ew3, ← ew4]; exact VA4⟩
  have A3 : ∀ (TA3 : State) (lcA3 : List Loc) (hA3 : Heap)  (XA3 : Stand p l e ({ frames := 1, cells := 1, slots := 4, locals := 30 } : Room) s m #[(.int p1), (.int p2), (.int p3), (.int p4), (.int p5), (.ref la)] below meth c TA3 lcA3 1 4) (eA3 : TA3.heap = hA3) (NA3 : Fr n0 lcA3) (KA3 : Keep h0 hA3 []) (VA3 : Arv Z hA3 b5 k5 .int m4 (w3.map Value.int) (.int 0)) (EA3 : Exa Z hA3 b5 "[I"), own_Rch p e below (own_Fin s ({ frames := 1, cells := 1, slots := 4, locals := 30 } : Room).cells ({ frames := 1, cells := 1, slots := 4, locals := 30 } : Room).slots (fun v h L => ∃ b kb, v = some (.ref b) ∧ Fr n0 L ∧ Keep h0 h [] ∧ h0.size ≤ b ∧ n0 ≤ b ∧ Exa Z h b "[I" ∧ Arv Z h b kb .int (own_m4 p1 p2 x0 x1 x2 x3) ((own_ws p1 p2 p3 p4 p5 x0 x1 x2 x3).map Value.int) (.int 0))) (TA3.setTop (mkF m 203 #[.val (.int p1), .val (.int p2), .val (.int p3), .val (.int p4), .val (.int p5), .val (.ref la), .val (.int m4), .val (.ref b5), .val (.int m3)] [])) := by
    intro TA3 lcA3 hA3 XA3 eA3 NA3 KA3 VA3 EA3
    refine own_go (S' := (TA3.setTop (mkF m 205 #[.val (.int p1), .val (.int p2), .val (.int p3), .val (.int p4), .val (.int p5), .val (.ref la), .val (.int m4), .val (.ref b5), .val (.int m3)] [(.int (3 : Int32)), (.int p2)]))) (fun t_ k_ => ?_) ?_
    · refine XS.iloadN XA3.here hx rfl (hb hby own_d12_203) rfl ?_
      show Steps p.tables e below (TA3.setTop (mkF m 204 #[.val (.int p1), .val (.int p2), .val (.int p3), .val (.int p4), .val (.int p5), .val (.ref la), .val (.int m4), .val (.ref b5), .val (.int m3)] [(.int p2)])) _
      refine XS.iconst XA3.here hx rfl (hb hby own_d12_204) ?_
      show Steps p.tables e below (TA3.setTop (mkF m 205 #[.val (.int p1), .val (.int p2), .val (.int p3), .val (.int p4), .val (.int p5), .val (.ref la), .val (.int m4), .val (.ref b5), .val (.int m3)] [(.int (3 : Int32)), (.int p2)])) _
      exact k_
    by_cases g1 : (3 : Int32) < p2
    · skip
      refine own_go (S' := (TA3.setTop (mkF m 211 #[.val (.int p1), .val (.int p2), .val (.int p3), .val (.int p4), .val (.int p5), .val (.ref la), .val (.int m4), .val (.ref b5), .val (.int m3)] [(.int (3 : Int32)), (.ref la)]))) (fun t_ k_ => ?_) ?_
      · refine XS.icmpNo XA3.here hx rfl (hb hby own_d12_205) rfl (tlt g1).2.2.2 ?_
        show Steps p.tables e below (TA3.setTop (mkF m 208 #[.val (.int p1), .val (.int p2), .val (.int p3), .val (.int p4), .val (.int p5), .val (.ref la), .val (.int m4), .val (.ref b5), .val (.int m3)] [])) _
        refine XS.aload XA3.here hx rfl (hb hby own_d12_208) rfl rfl ?_
        show Steps p.tables e below (TA3.setTop (mkF m 210 #[.val (.int p1), .val (.int p2), .val (.int p3), .val (.int p4), .val (.int p5), .val (.ref la), .val (.int m4), .val (.ref b5), .val (.int m3)] [(.ref la)])) _
        refine XS.iconst XA3.here hx rfl (hb hby own_d12_210) ?_
        show Steps p.tables e below (TA3.setTop (mkF m 211 #[.val (.int p1), .val (.int p2), .val (.int p3), .val (.int p4), .val (.int p5), .val (.ref la), .val (.int m4), .val (.ref b5), .val (.int m3)] [(.int (3 : Int32)), (.ref la)])) _
        exact k_
      have VL : Arv Z hA3 la kl .int 4 [.int x0, .int x1, .int x2, .int x3] (.int 0) := V.keep KA3 nin0
      refine own_go (own_ial XA3 hx hZ eA3 VL (by decide) (v := (.int x3)) rfl (g := (mkF m 211 #[.val (.int p1), .val (.int p2), .val (.int p3), .val (.int p4), .val (.int p5), .val (.ref la), .val (.int m4), .val (.ref b5), .val (.int m3)] [(.int (3 : Int32)), (.ref la)])) rfl rfl (hb hby own_d12_211)) ?_
      show own_Rch p e below _ (TA3.setTop (mkF m 212 #[.val (.int p1), .val (.int p2), .val (.int p3), .val (.int p4), .val (.int p5), .val (.ref la), .val (.int m4), .val (.ref b5), .val (.int m3)] [(.int x3)]))
      refine own_go (S' := (TA3.setTop (mkF m 213 #[.val (.int p1), .val (.int p2), .val (.int p3), .val (.int p4), .val (.int p5), .val (.ref la), .val (.int m4), .val (.ref b5), .val (.int m3)] [(.int p1), (.int x3)]))) (fun t_ k_ => ?_) ?_
      · refine XS.iloadN XA3.here hx rfl (hb hby own_d12_212) rfl ?_
        show Steps p.tables e below (TA3.setTop (mkF m 213 #[.val (.int p1), .val (.int p2), .val (.int p3), .val (.int p4), .val (.int p5), .val (.ref la), .val (.int m4), .val (.ref b5), .val (.int m3)] [(.int p1), (.int x3)])) _
        exact k_
      by_cases g2 : x3 = p1
      · skip
        refine own_go (S' := (TA3.setTop (mkF m 220 #[.val (.int p1), .val (.int p2), .val (.int p3), .val (.int p4), .val (.int p5), .val (.ref la), .val (.int m4), .val (.ref b5), .val (.int m3)] [(.int p5), (.ref b5)]))) (fun t_ k_ => ?_) ?_
        · refine XS.icmpNo XA3.here hx rfl (hb hby own_d12_213) rfl (teq g2).2 ?_
          show Steps p.tables e below (TA3.setTop (mkF m 216 #[.val (.int p1), .val (.int p2), .val (.int p3), .val (.int p4), .val (.int p5), .val (.ref la), .val (.int m4), .val (.ref b5), .val (.int m3)] [])) _
          refine XS.aload XA3.here hx rfl (hb hby own_d12_216) rfl rfl ?_
          show Steps p.tables e below (TA3.setTop (mkF m 218 #[.val (.int p1), .val (.int p2), .val (.int p3), .val (.int p4), .val (.int p5), .val (.ref la), .val (.int m4), .val (.ref b5), .val (.int m3)] [(.ref b5)])) _
          refine XS.iload XA3.here hx rfl (hb hby own_d12_218) rfl ?_
          show Steps p.tables e below (TA3.setTop (mkF m 220 #[.val (.int p1), .val (.int p2), .val (.int p3), .val (.int p4), .val (.int p5), .val (.ref la), .val (.int m4), .val (.ref b5), .val (.int m3)] [(.int p5), (.ref b5)])) _
          exact k_
        obtain ⟨ix, eix⟩ : ∃ z : Int32, z = own_ix p5 m4 m3 := ⟨_, rfl⟩
        refine own_join (S' := (TA3.setTop (mkF m 235 #[.val (.int p1), .val (.int p2), .val (.int p3), .val (.int p4), .val (.int p5), .val (.ref la), .val (.int m4), .val (.ref b5), .val (.int m3)] [(.int ix), (.ref b5)]))) (fun J6 => ?_) ?_
        · skip
          by_cases hd : p5 = (0 : Int32)
          · skip
            refine own_go (S' := (TA3.setTop (mkF m 235 #[.val (.int p1), .val (.int p2), .val (.int p3), .val (.int p4), .val (.int p5), .val (.ref la), .val (.int m4), .val (.ref b5), .val (.int m3)] [(.int m3), (.ref b5)]))) (fun t_ k_ => ?_) ?_
            · refine XS.ifYes XA3.here hx rfl (pc0 := 220) (pc' := 233) rfl (hb hby own_d12_220) rfl ((if0 _ _).trans (teq hd).1) (by decide) (by decide) ?_
              show Steps p.tables e below (TA3.setTop (mkF m 233 #[.val (.int p1), .val (.int p2), .val (.int p3), .val (.int p4), .val (.int p5), .val (.ref la), .val (.int m4), .val (.ref b5), .val (.int m3)] [(.ref b5)])) _
              refine XS.iload XA3.here hx rfl (hb hby own_d12_233) rfl ?_
              show Steps p.tables e below (TA3.setTop (mkF m 235 #[.val (.int p1), .val (.int p2), .val (.int p3), .val (.int p4), .val (.int p5), .val (.ref la), .val (.int m4), .val (.ref b5), .val (.int m3)] [(.int m3), (.ref b5)])) _
              exact k_
            rw [own_ix, if_pos hd] at eix; subst eix; exact J6
          · skip
            refine own_go (S' := (TA3.setTop (mkF m 235 #[.val (.int p1), .val (.int p2), .val (.int p3), .val (.int p4), .val (.int p5), .val (.ref la), .val (.int m4), .val (.ref b5), .val (.int m3)] [(.int ((m4 - (1 : Int32)) - m3)), (.ref b5)]))) (fun t_ k_ => ?_) ?_
            · refine XS.ifNo XA3.here hx rfl (hb hby own_d12_220) rfl ((if0 _ _).trans (feq hd).1) ?_
              show Steps p.tables e below (TA3.setTop (mkF m 223 #[.val (.int p1), .val (.int p2), .val (.int p3), .val (.int p4), .val (.int p5), .val (.ref la), .val (.int m4), .val (.ref b5), .val (.int m3)] [(.ref b5)])) _
              refine XS.iload XA3.here hx rfl (hb hby own_d12_223) rfl ?_
              show Steps p.tables e below (TA3.setTop (mkF m 225 #[.val (.int p1), .val (.int p2), .val (.int p3), .val (.int p4), .val (.int p5), .val (.ref la), .val (.int m4), .val (.ref b5), .val (.int m3)] [(.int m4), (.ref b5)])) _
              refine XS.iconst XA3.here hx rfl (hb hby own_d12_225) ?_
              show Steps p.tables e below (TA3.setTop (mkF m 226 #[.val (.int p1), .val (.int p2), .val (.int p3), .val (.int p4), .val (.int p5), .val (.ref la), .val (.int m4), .val (.ref b5), .val (.int m3)] [(.int (1 : Int32)), (.int m4), (.ref b5)])) _
              refine XS.isub XA3.here hx rfl (hb hby own_d12_226) rfl ?_
              show Steps p.tables e below (TA3.setTop (mkF m 227 #[.val (.int p1), .val (.int p2), .val (.int p3), .val (.int p4), .val (.int p5), .val (.ref la), .val (.int m4), .val (.ref b5), .val (.int m3)] [(.int (m4 - (1 : Int32))), (.ref b5)])) _
              refine XS.iload XA3.here hx rfl (hb hby own_d12_227) rfl ?_
              show Steps p.tables e below (TA3.setTop (mkF m 229 #[.val (.int p1), .val (.int p2), .val (.int p3), .val (.int p4), .val (.int p5), .val (.ref la), .val (.int m4), .val (.ref b5), .val (.int m3)] [(.int m3), (.int (m4 - (1 : Int32))), (.ref b5)])) _
              refine XS.isub XA3.here hx rfl (hb hby own_d12_229) rfl ?_
              show Steps p.tables e below (TA3.setTop (mkF m 230 #[.val (.int p1), .val (.int p2), .val (.int p3), .val (.int p4), .val (.int p5), .val (.ref la), .val (.int m4), .val (.ref b5), .val (.int m3)] [(.int ((m4 - (1 : Int32)) - m3)), (.ref b5)])) _
              refine XS.goto XA3.here hx rfl (pc0 := 230) (pc' := 235) rfl (hb hby own_d12_230) (by decide) (by decide) ?_
              show Steps p.tables e below (TA3.setTop (mkF m 235 #[.val (.int p1), .val (.int p2), .val (.int p3), .val (.int p4), .val (.int p5), .val (.ref la), .val (.int m4), .val (.ref b5), .val (.int m3)] [(.int ((m4 - (1 : Int32)) - m3)), (.ref b5)])) _
              exact k_
            rw [own_ix, if_neg hd] at eix; subst eix; exact J6
        obtain ⟨hj, hj2, hj3⟩ := own_ixR eix (by omega) (by have := r4.2.2 g1 g2; omega) (by omega)
        refine own_go (S' := (TA3.setTop (mkF m 239 #[.val (.int p1), .val (.int p2), .val (.int p3), .val (.int p4), .val (.int p5), .val (.ref la), .val (.int m4), .val (.ref b5), .val (.int m3)] [(.int p4), (.int p3), (.int p2), (.int (3 : Int32)), (.int ix), (.ref b5)]))) (fun t_ k_ => ?_) ?_
        · refine XS.iconst XA3.here hx rfl (hb hby own_d12_235) ?_
          show Steps p.tables e below (TA3.setTop (mkF m 236 #[.val (.int p1), .val (.int p2), .val (.int p3), .val (.int p4), .val (.int p5), .val (.ref la), .val (.int m4), .val (.ref b5), .val (.int m3)] [(.int (3 : Int32)), (.int ix), (.ref b5)])) _
          refine XS.iloadN XA3.here hx rfl (hb hby own_d12_236) rfl ?_
          show Steps p.tables e below (TA3.setTop (mkF m 237 #[.val (.int p1), .val (.int p2), .val (.int p3), .val (.int p4), .val (.int p5), .val (.ref la), .val (.int m4), .val (.ref b5), .val (.int m3)] [(.int p2), (.int (3 : Int32)), (.int ix), (.ref b5)])) _
          refine XS.iloadN XA3.here hx rfl (hb hby own_d12_237) rfl ?_
          show Steps p.tables e below (TA3.setTop (mkF m 238 #[.val (.int p1), .val (.int p2), .val (.int p3), .val (.int p4), .val (.int p5), .val (.ref la), .val (.int m4), .val (.ref b5), .val (.int m3)] [(.int p3), (.int p2), (.int (3 : Int32)), (.int ix), (.ref b5)])) _
          refine XS.iloadN XA3.here hx rfl (hb hby own_d12_238) rfl ?_
          show Steps p.tables e below (TA3.setTop (mkF m 239 #[.val (.int p1), .val (.int p2), .val (.int p3), .val (.int p4), .val (.int p5), .val (.ref la), .val (.int m4), .val (.ref b5), .val (.int m3)] [(.int p4), (.int p3), (.int p2), (.int (3 : Int32)), (.int ix), (.ref b5)])) _
          exact k_
        have Zc : n0 ≤ hA3.size := Nat.le_trans Z0 KA3.1
        obtain ⟨_, T7, L7, X7, ⟨rfl, N7q, k7⟩, st7⟩ := own_callS XA3 hx hZ (y := (⟨"com/example/anonutils/anonutils/ClusteringOfPinLaw", "id", "(IIIZ)I"⟩ : MethodName)) hown (hw _ (List.mem_of_getElem? (i := 75) rfl)) (hw _ (List.mem_of_getElem? (i := 76) rfl)) (hw _ (List.mem_of_getElem? (i := 73) rfl)) (hw _ (List.mem_of_getElem? (i := 77) rfl)) (by decide) (own_c13 l Z a0 hw [] (3 : Int32) p2 p3 p4 hA3 n0 Zc (own_nz g1 (by decide))) eA3 (W := 2) (by decide) (by decide) (g := (mkF m 239 #[.val (.int p1), .val (.int p2), .val (.int p3), .val (.int p4), .val (.int p5), .val (.ref la), .val (.int m4), .val (.ref b5), .val (.int m3)] [(.int p4), (.int p3), (.int p2), (.int (3 : Int32)), (.int ix), (.ref b5)])) rfl (by rw [hml]; rfl) (argsL := [(.int (3 : Int32)), (.int p2), (.int p3), (.int p4)]) (rest := [(.int ix), (.ref b5)]) (lenOf own_pd9 rfl) rfl rfl rfl (hb hby own_d12_239) (by decide) (by decide)
        have N7 := Fr.app NA3 N7q
        refine own_go st7 ?_
        show own_Rch p e below _ (T7.setTop (mkF m 242 #[.val (.int p1), .val (.int p2), .val (.int p3), .val (.int p4), .val (.int p5), .val (.ref la), .val (.int m4), .val (.ref b5), .val (.int m3)] [(.int (own_id (3 : Int32) p2 p3 p4)), (.int ix), (.ref b5)]))
        have Vc := VA3
        have Kc := KA3
        have Ec := EA3
        rw [← k7] at Vc Kc Ec
        obtain ⟨T8, h8, X8, e8, W8, V8, st8⟩ := own_stI X7 hx hZ rfl Vc hj (i := ix.toNatClampNeg) rfl (by rw [List.length_map, lw3]; have := own_clampLe (z := ix) (k := 3) (by omega); omega) (g := (mkF m 242 #[.val (.int p1), .val (.int p2), .val (.int p3), .val (.int p4), .val (.int p5), .val (.ref la), .val (.int m4), .val (.ref b5), .val (.int m3)] [(.int (own_id (3 : Int32) p2 p3 p4)), (.int ix), (.ref b5)])) rfl rfl (hb hby own_d12_242)
        refine own_go st8 ?_
        have N8 := Fr.snoc X8 N7 gb5
        show own_Rch p e below _ (T8.setTop (mkF m 243 #[.val (.int p1), .val (.int p2), .val (.int p3), .val (.int p4), .val (.int p5), .val (.ref la), .val (.int m4), .val (.ref b5), .val (.int m3)] []))
        refine own_go (S' := (T8.setTop (mkF m 246 #[.val (.int p1), .val (.int p2), .val (.int p3), .val (.int p4), .val (.int p5), .val (.ref la), .val (.int m4), .val (.ref b5), .val (.int (m3 + (1 : Int32)))] []))) (fun t_ k_ => ?_) ?_
        · refine XS.iinc X8.here hx rfl (hb hby own_d12_243) rfl (l' := #[.val (.int p1), .val (.int p2), .val (.int p3), .val (.int p4), .val (.int p5), .val (.ref la), .val (.int m4), .val (.ref b5), .val (.int (m3 + (1 : Int32)))]) rfl ?_
          show Steps p.tables e below (T8.setTop (mkF m 246 #[.val (.int p1), .val (.int p2), .val (.int p3), .val (.int p4), .val (.int p5), .val (.ref la), .val (.int m4), .val (.ref b5), .val (.int (m3 + (1 : Int32)))] [])) _
          exact k_
        have q1 : m4 = (m3 + (1 : Int32)) := by rw [em4, own_m4, own_inc, ← em3, if_pos g1, if_pos g2]
        have q2 : w4 = w3.set ix.toNatClampNeg (own_id (3 : Int32) p2 p3 p4) := by rw [ew4, own_st, if_pos g1, if_pos g2, ← eix]
        have q := A4 T8 _ h8 X8 e8 N8 (Kc.wr W8 (Or.inr sb)) (by rw [q2]; exact (by rw [List.map_set]; exact V8)) (Ec.wr W8)
        first | (rw [q1] at q; exact q) | (rw [← q1]; exact q)
      · skip
        refine own_go (S' := (TA3.setTop (mkF m 246 #[.val (.int p1), .val (.int p2), .val (.int p3), .val (.int p4), .val (.int p5), .val (.ref la), .val (.int m4), .val (.ref b5), .val (.int m3)] []))) (fun t_ k_ => ?_) ?_
        · refine XS.icmpYes XA3.here hx rfl (pc0 := 213) (pc' := 246) rfl (hb hby own_d12_213) rfl (feq g2).2 (by decide) (by decide) ?_
          show Steps p.tables e below (TA3.setTop (mkF m 246 #[.val (.int p1), .val (.int p2), .val (.int p3), .val (.int p4), .val (.int p5), .val (.ref la), .val (.int m4), .val (.ref b5), .val (.int m3)] [])) _
          exact k_
        have q1 : m4 = m3 := by rw [em4, own_m4, own_inc, ← em3, if_pos g1, if_neg g2]
        have q2 : w4 = w3 := by rw [ew4, own_st, if_pos g1, if_neg g2]
        have q := A4 TA3 _ _ XA3 eA3 NA3 KA3 (by rw [q2]; exact VA3) EA3
        first | (rw [q1] at q; exact q) | (rw [← q1]; exact q)
    · skip
      refine own_go (S' := (TA3.setTop (mkF m 246 #[.val (.int p1), .val (.int p2), .val (.int p3), .val (.int p4), .val (.int p5), .val (.ref la), .val (.int m4), .val (.ref b5), .val (.int m3)] []))) (fun t_ k_ => ?_) ?_
      · refine XS.icmpYes XA3.here hx rfl (pc0 := 205) (pc' := 246) rfl (hb hby own_d12_205) rfl (flt g1).2.2.2 (by decide) (by decide) ?_
        show Steps p.tables e below (TA3.setTop (mkF m 246 #[.val (.int p1), .val (.int p2), .val (.int p3), .val (.int p4), .val (.int p5), .val (.ref la), .val (.int m4), .val (.ref b5), .val (.int m3)] [])) _
        exact k_
      have q1 : m4 = m3 := by rw [em4, own_m4, own_inc, ← em3, if_neg g1]
      have q2 : w4 = w3 := by rw [ew4, own_st, if_neg g1]
      have q := A4 TA3 _ _ XA3 eA3 NA3 KA3 (by rw [q2]; exact VA3) EA3
      first | (rw [q1] at q; exact q) | (rw [← q1]; exact q)
  have A2 : ∀ (TA2 : State) (lcA2 : List Loc) (hA2 : Heap)  (XA2 : Stand p l e ({ frames := 1, cells := 1, slots := 4, locals := 30 } : Room) s m #[(.int p1), (.int p2), (.int p3), (.int p4), (.int p5), (.ref la)] below meth c TA2 lcA2 1 4) (eA2 : TA2.heap = hA2) (NA2 : Fr n0 lcA2) (KA2 : Keep h0 hA2 []) (VA2 : Arv Z hA2 b5 k5 .int m4 (w2.map Value.int) (.int 0)) (EA2 : Exa Z hA2 b5 "[I"), own_Rch p e below (own_Fin s ({ frames := 1, cells := 1, slots := 4, locals := 30 } : Room).cells ({ frames := 1, cells := 1, slots := 4, locals := 30 } : Room).slots (fun v h L => ∃ b kb, v = some (.ref b) ∧ Fr n0 L ∧ Keep h0 h [] ∧ h0.size ≤ b ∧ n0 ≤ b ∧ Exa Z h b "[I" ∧ Arv Z h b kb .int (own_m4 p1 p2 x0 x1 x2 x3) ((own_ws p1 p2 p3 p4 p5 x0 x1 x2 x3).map Value.int) (.int 0))) (TA2.setTop (mkF m 160 #[.val (.int p1), .val (.int p2), .val (.int p3), .val (.int p4), .val (.int p5), .val (.ref la), .val (.int m4), .val (.ref b5), .val (.int m2)] [])) := by
    intro TA2 lcA2 hA2 XA2 eA2 NA2 KA2 VA2 EA2
    refine own_go (S' := (TA2.setTop (mkF m 162 #[.val (.int p1), .val (.int p2), .val (.int p3), .val (.int p4), .val (.int p5), .val (.ref la), .val (.int m4), .val (.ref b5), .val (.int m2)] [(.int (2 : Int32)), (.int p2)]))) (fun t_ k_ => ?_) ?_
    · refine XS.iloadN XA2.here hx rfl (hb hby own_d12_160) rfl ?_
      show Steps p.tables e below (TA2.setTop (mkF m 161 #[.val (.int p1), .val (.int p2), .val (.int p3), .val (.int p4), .val (.int p5), .val (.ref la), .val (.int m4), .val (.ref b5), .val (.int m2)] [(.int p2)])) _
      refine XS.iconst XA2.here hx rfl (hb hby own_d12_161) ?_
      show Steps p.tables e below (TA2.setTop (mkF m 162 #[.val (.int p1), .val (.int p2), .val (.int p3), .val (.int p4), .val (.int p5), .val (.ref la), .val (.int m4), .val (.ref b5), .val (.int m2)] [(.int (2 : Int32)), (.int p2)])) _
      exact k_
    by_cases g1 : (2 : Int32) < p2
    · skip
      refine own_go (S' := (TA2.setTop (mkF m 168 #[.val (.int p1), .val (.int p2), .val (.int p3), .val (.int p4), .val (.int p5), .val (.ref la), .val (.int m4), .val (.ref b5), .val (.int m2)] [(.int (2 : Int32)), (.ref la)]))) (fun t_ k_ => ?_) ?_
      · refine XS.icmpNo XA2.here hx rfl (hb hby own_d12_162) rfl (tlt g1).2.2.2 ?_
        show Steps p.tables e below (TA2.setTop (mkF m 165 #[.val (.int p1), .val (.int p2), .val (.int p3), .val (.int p4), .val (.int p5), .val (.ref la), .val (.int m4), .val (.ref b5), .val (.int m2)] [])) _
        refine XS.aload XA2.here hx rfl (hb hby own_d12_165) rfl rfl ?_
        show Steps p.tables e below (TA2.setTop (mkF m 167 #[.val (.int p1), .val (.int p2), .val (.int p3), .val (.int p4), .val (.int p5), .val (.ref la), .val (.int m4), .val (.ref b5), .val (.int m2)] [(.ref la)])) _
        refine XS.iconst XA2.here hx rfl (hb hby own_d12_167) ?_
        show Steps p.tables e below (TA2.setTop (mkF m 168 #[.val (.int p1), .val (.int p2), .val (.int p3), .val (.int p4), .val (.int p5), .val (.ref la), .val (.int m4), .val (.ref b5), .val (.int m2)] [(.int (2 : Int32)), (.ref la)])) _
        exact k_
      have VL : Arv Z hA2 la kl .int 4 [.int x0, .int x1, .int x2, .int x3] (.int 0) := V.keep KA2 nin0
      refine own_go (own_ial XA2 hx hZ eA2 VL (by decide) (v := (.int x2)) rfl (g := (mkF m 168 #[.val (.int p1), .val (.int p2), .val (.int p3), .val (.int p4), .val (.int p5), .val (.ref la), .val (.int m4), .val (.ref b5), .val (.int m2)] [(.int (2 : Int32)), (.ref la)])) rfl rfl (hb hby own_d12_168)) ?_
      show own_Rch p e below _ (TA2.setTop (mkF m 169 #[.val (.int p1), .val (.int p2), .val (.int p3), .val (.int p4), .val (.int p5), .val (.ref la), .val (.int m4), .val (.ref b5), .val (.int m2)] [(.int x2)]))
      refine own_go (S' := (TA2.setTop (mkF m 170 #[.val (.int p1), .val (.int p2), .val (.int p3), .val (.int p4), .val (.int p5), .val (.ref la), .val (.int m4), .val (.ref b5), .val (.int m2)] [(.int p1), (.int x2)]))) (fun t_ k_ => ?_) ?_
      · refine XS.iloadN XA2.here hx rfl (hb hby own_d12_169) rfl ?_
        show Steps p.tables e below (TA2.setTop (mkF m 170 #[.val (.int p1), .val (.int p2), .val (.int p3), .val (.int p4), .val (.int p5), .val (.ref la), .val (.int m4), .val (.ref b5), .val (.int m2)] [(.int p1), (.int x2)])) _
        exact k_
      by_cases g2 : x2 = p1
      · skip
        refine own_go (S' := (TA2.setTop (mkF m 177 #[.val (.int p1), .val (.int p2), .val (.int p3), .val (.int p4), .val (.int p5), .val (.ref la), .val (.int m4), .val (.ref b5), .val (.int m2)] [(.int p5), (.ref b5)]))) (fun t_ k_ => ?_) ?_
        · refine XS.icmpNo XA2.here hx rfl (hb hby own_d12_170) rfl (teq g2).2 ?_
          show Steps p.tables e below (TA2.setTop (mkF m 173 #[.val (.int p1), .val (.int p2), .val (.int p3), .val (.int p4), .val (.int p5), .val (.ref la), .val (.int m4), .val (.ref b5), .val (.int m2)] [])) _
          refine XS.aload XA2.here hx rfl (hb hby own_d12_173) rfl rfl ?_
          show Steps p.tables e below (TA2.setTop (mkF m 175 #[.val (.int p1), .val (.int p2), .val (.int p3), .val (.int p4), .val (.int p5), .val (.ref la), .val (.int m4), .val (.ref b5), .val (.int m2)] [(.ref b5)])) _
          refine XS.iload XA2.here hx rfl (hb hby own_d12_175) rfl ?_
          show Steps p.tables e below (TA2.setTop (mkF m 177 #[.val (.int p1), .val (.int p2), .val (.int p3), .val (.int p4), .val (.int p5), .val (.ref la), .val (.int m4), .val (.ref b5), .val (.int m2)] [(.int p5), (.ref b5)])) _
          exact k_
        obtain ⟨ix, eix⟩ : ∃ z : Int32, z = own_ix p5 m4 m2 := ⟨_, rfl⟩
        refine own_join (S' := (TA2.setTop (mkF m 192 #[.val (.int p1), .val (.int p2), .val (.int p3), .val (.int p4), .val (.int p5), .val (.ref la), .val (.int m4), .val (.ref b5), .val (.int m2)] [(.int ix), (.ref b5)]))) (fun J9 => ?_) ?_
        · skip
          by_cases hd : p5 = (0 : Int32)
          · skip
            refine own_go (S' := (TA2.setTop (mkF m 192 #[.val (.int p1), .val (.int p2), .val (.int p3), .val (.int p4), .val (.int p5), .val (.ref la), .val (.int m4), .val (.ref b5), .val (.int m2)] [(.int m2), (.ref b5)]))) (fun t_ k_ => ?_) ?_
            · refine XS.ifYes XA2.here hx rfl (pc0 := 177) (pc' := 190) rfl (hb hby own_d12_177) rfl ((if0 _ _).trans (teq hd).1) (by decide) (by decide) ?_
              show Steps p.tables e below (TA2.setTop (mkF m 190 #[.val (.int p1), .val (.int p2), .val (.int p3), .val (.int p4), .val (.int p5), .val (.ref la), .val (.int m4), .val (.ref b5), .val (.int m2)] [(.ref b5)])) _
              refine XS.iload XA2.here hx rfl (hb hby own_d12_190) rfl ?_
              show Steps p.tables e below (TA2.setTop (mkF m 192 #[.val (.int p1), .val (.int p2), .val (.int p3), .val (.int p4), .val (.int p5), .val (.ref la), .val (.int m4), .val (.ref b5), .val (.int m2)] [(.int m2), (.ref b5)])) _
              exact k_
            rw [own_ix, if_pos hd] at eix; subst eix; exact J9
          · skip
            refine own_go (S' := (TA2.setTop (mkF m 192 #[.val (.int p1), .val (.int p2), .val (.int p3), .val (.int p4), .val (.int p5), .val (.ref la), .val (.int m4), .val (.ref b5), .val (.int m2)] [(.int ((m4 - (1 : Int32)) - m2)), (.ref b5)]))) (fun t_ k_ => ?_) ?_
            · refine XS.ifNo XA2.here hx rfl (hb hby own_d12_177) rfl ((if0 _ _).trans (feq hd).1) ?_
              show Steps p.tables e below (TA2.setTop (mkF m 180 #[.val (.int p1), .val (.int p2), .val (.int p3), .val (.int p4), .val (.int p5), .val (.ref la), .val (.int m4), .val (.ref b5), .val (.int m2)] [(.ref b5)])) _
              refine XS.iload XA2.here hx rfl (hb hby own_d12_180) rfl ?_
              show Steps p.tables e below (TA2.setTop (mkF m 182 #[.val (.int p1), .val (.int p2), .val (.int p3), .val (.int p4), .val (.int p5), .val (.ref la), .val (.int m4), .val (.ref b5), .val (.int m2)] [(.int m4), (.ref b5)])) _
              refine XS.iconst XA2.here hx rfl (hb hby own_d12_182) ?_
              show Steps p.tables e below (TA2.setTop (mkF m 183 #[.val (.int p1), .val (.int p2), .val (.int p3), .val (.int p4), .val (.int p5), .val (.ref la), .val (.int m4), .val (.ref b5), .val (.int m2)] [(.int (1 : Int32)), (.int m4), (.ref b5)])) _
              refine XS.isub XA2.here hx rfl (hb hby own_d12_183) rfl ?_
              show Steps p.tables e below (TA2.setTop (mkF m 184 #[.val (.int p1), .val (.int p2), .val (.int p3), .val (.int p4), .val (.int p5), .val (.ref la), .val (.int m4), .val (.ref b5), .val (.int m2)] [(.int (m4 - (1 : Int32))), (.ref b5)])) _
              refine XS.iload XA2.here hx rfl (hb hby own_d12_184) rfl ?_
              show Steps p.tables e below (TA2.setTop (mkF m 186 #[.val (.int p1), .val (.int p2), .val (.int p3), .val (.int p4), .val (.int p5), .val (.ref la), .val (.int m4), .val (.ref b5), .val (.int m2)] [(.int m2), (.int (m4 - (1 : Int32))), (.ref b5)])) _
              refine XS.isub XA2.here hx rfl (hb hby own_d12_186) rfl ?_
              show Steps p.tables e below (TA2.setTop (mkF m 187 #[.val (.int p1), .val (.int p2), .val (.int p3), .val (.int p4), .val (.int p5), .val (.ref la), .val (.int m4), .val (.ref b5), .val (.int m2)] [(.int ((m4 - (1 : Int32)) - m2)), (.ref b5)])) _
              refine XS.goto XA2.here hx rfl (pc0 := 187) (pc' := 192) rfl (hb hby own_d12_187) (by decide) (by decide) ?_
              show Steps p.tables e below (TA2.setTop (mkF m 192 #[.val (.int p1), .val (.int p2), .val (.int p3), .val (.int p4), .val (.int p5), .val (.ref la), .val (.int m4), .val (.ref b5), .val (.int m2)] [(.int ((m4 - (1 : Int32)) - m2)), (.ref b5)])) _
              exact k_
            rw [own_ix, if_neg hd] at eix; subst eix; exact J9
        obtain ⟨hj, hj2, hj3⟩ := own_ixR eix (by omega) (by have := r3.2.2 g1 g2; omega) (by omega)
        refine own_go (S' := (TA2.setTop (mkF m 196 #[.val (.int p1), .val (.int p2), .val (.int p3), .val (.int p4), .val (.int p5), .val (.ref la), .val (.int m4), .val (.ref b5), .val (.int m2)] [(.int p4), (.int p3), (.int p2), (.int (2 : Int32)), (.int ix), (.ref b5)]))) (fun t_ k_ => ?_) ?_
        · refine XS.iconst XA2.here hx rfl (hb hby own_d12_192) ?_
          show Steps p.tables e below (TA2.setTop (mkF m 193 #[.val (.int p1), .val (.int p2), .val (.int p3), .val (.int p4), .val (.int p5), .val (.ref la), .val (.int m4), .val (.ref b5), .val (.int m2)] [(.int (2 : Int32)), (.int ix), (.ref b5)])) _
          refine XS.iloadN XA2.here hx rfl (hb hby own_d12_193) rfl ?_
          show Steps p.tables e below (TA2.setTop (mkF m 194 #[.val (.int p1), .val (.int p2), .val (.int p3), .val (.int p4), .val (.int p5), .val (.ref la), .val (.int m4), .val (.ref b5), .val (.int m2)] [(.int p2), (.int (2 : Int32)), (.int ix), (.ref b5)])) _
          refine XS.iloadN XA2.here hx rfl (hb hby own_d12_194) rfl ?_
          show Steps p.tables e below (TA2.setTop (mkF m 195 #[.val (.int p1), .val (.int p2), .val (.int p3), .val (.int p4), .val (.int p5), .val (.ref la), .val (.int m4), .val (.ref b5), .val (.int m2)] [(.int p3), (.int p2), (.int (2 : Int32)), (.int ix), (.ref b5)])) _
          refine XS.iloadN XA2.here hx rfl (hb hby own_d12_195) rfl ?_
          show Steps p.tables e below (TA2.setTop (mkF m 196 #[.val (.int p1), .val (.int p2), .val (.int p3), .val (.int p4), .val (.int p5), .val (.ref la), .val (.int m4), .val (.ref b5), .val (.int m2)] [(.int p4), (.int p3), (.int p2), (.int (2 : Int32)), (.int ix), (.ref b5)])) _
          exact k_
        have Zc : n0 ≤ hA2.size := Nat.le_trans Z0 KA2.1
        obtain ⟨_, T10, L10, X10, ⟨rfl, N10q, k10⟩, st10⟩ := own_callS XA2 hx hZ (y := (⟨"com/example/anonutils/anonutils/ClusteringOfPinLaw", "id", "(IIIZ)I"⟩ : MethodName)) hown (hw _ (List.mem_of_getElem? (i := 75) rfl)) (hw _ (List.mem_of_getElem? (i := 76) rfl)) (hw _ (List.mem_of_getElem? (i := 73) rfl)) (hw _ (List.mem_of_getElem? (i := 77) rfl)) (by decide) (own_c13 l Z a0 hw [] (2 : Int32) p2 p3 p4 hA2 n0 Zc (own_nz g1 (by decide))) eA2 (W := 2) (by decide) (by decide) (g := (mkF m 196 #[.val (.int p1), .val (.int p2), .val (.int p3), .val (.int p4), .val (.int p5), .val (.ref la), .val (.int m4), .val (.ref b5), .val (.int m2)] [(.int p4), (.int p3), (.int p2), (.int (2 : Int32)), (.int ix), (.ref b5)])) rfl (by rw [hml]; rfl) (argsL := [(.int (2 : Int32)), (.int p2), (.int p3), (.int p4)]) (rest := [(.int ix), (.ref b5)]) (lenOf own_pd9 rfl) rfl rfl rfl (hb hby own_d12_196) (by decide) (by decide)
        have N10 := Fr.app NA2 N10q
        refine own_go st10 ?_
        show own_Rch p e below _ (T10.setTop (mkF m 199 #[.val (.int p1), .val (.int p2), .val (.int p3), .val (.int p4), .val (.int p5), .val (.ref la), .val (.int m4), .val (.ref b5), .val (.int m2)] [(.int (own_id (2 : Int32) p2 p3 p4)), (.int ix), (.ref b5)]))
        have Vc := VA2
        have Kc := KA2
        have Ec := EA2
        rw [← k10] at Vc Kc Ec
        obtain ⟨T11, h11, X11, e11, W11, V11, st11⟩ := own_stI X10 hx hZ rfl Vc hj (i := ix.toNatClampNeg) rfl (by rw [List.length_map, lw2]; have := own_clampLe (z := ix) (k := 3) (by omega); omega) (g := (mkF m 199 #[.val (.int p1), .val (.int p2), .val (.int p3), .val (.int p4), .val (.int p5), .val (.ref la), .val (.int m4), .val (.ref b5), .val (.int m2)] [(.int (own_id (2 : Int32) p2 p3 p4)), (.int ix), (.ref b5)])) rfl rfl (hb hby own_d12_199)
        refine own_go st11 ?_
        have N11 := Fr.snoc X11 N10 gb5
        show own_Rch p e below _ (T11.setTop (mkF m 200 #[.val (.int p1), .val (.int p2), .val (.int p3), .val (.int p4), .val (.int p5), .val (.ref la), .val (.int m4), .val (.ref b5), .val (.int m2)] []))
        refine own_go (S' := (T11.setTop (mkF m 203 #[.val (.int p1), .val (.int p2), .val (.int p3), .val (.int p4), .val (.int p5), .val (.ref la), .val (.int m4), .val (.ref b5), .val (.int (m2 + (1 : Int32)))] []))) (fun t_ k_ => ?_) ?_
        · refine XS.iinc X11.here hx rfl (hb hby own_d12_200) rfl (l' := #[.val (.int p1), .val (.int p2), .val (.int p3), .val (.int p4), .val (.int p5), .val (.ref la), .val (.int m4), .val (.ref b5), .val (.int (m2 + (1 : Int32)))]) rfl ?_
          show Steps p.tables e below (T11.setTop (mkF m 203 #[.val (.int p1), .val (.int p2), .val (.int p3), .val (.int p4), .val (.int p5), .val (.ref la), .val (.int m4), .val (.ref b5), .val (.int (m2 + (1 : Int32)))] [])) _
          exact k_
        have q1 : m3 = (m2 + (1 : Int32)) := by rw [em3, own_m3, own_inc, ← em2, if_pos g1, if_pos g2]
        have q2 : w3 = w2.set ix.toNatClampNeg (own_id (2 : Int32) p2 p3 p4) := by rw [ew3, own_st, if_pos g1, if_pos g2, ← eix]
        have q := A3 T11 _ h11 X11 e11 N11 (Kc.wr W11 (Or.inr sb)) (by rw [q2]; exact (by rw [List.map_set]; exact V11)) (Ec.wr W11)
        first | (rw [q1] at q; exact q) | (rw [← q1]; exact q)
      · skip
        refine own_go (S' := (TA2.setTop (mkF m 203 #[.val (.int p1), .val (.int p2), .val (.int p3), .val (.int p4), .val (.int p5), .val (.ref la), .val (.int m4), .val (.ref b5), .val (.int m2)] []))) (fun t_ k_ => ?_) ?_
        · refine XS.icmpYes XA2.here hx rfl (pc0 := 170) (pc' := 203) rfl (hb hby own_d12_170) rfl (feq g2).2 (by decide) (by decide) ?_
          show Steps p.tables e below (TA2.setTop (mkF m 203 #[.val (.int p1), .val (.int p2), .val (.int p3), .val (.int p4), .val (.int p5), .val (.ref la), .val (.int m4), .val (.ref b5), .val (.int m2)] [])) _
          exact k_
        have q1 : m3 = m2 := by rw [em3, own_m3, own_inc, ← em2, if_pos g1, if_neg g2]
        have q2 : w3 = w2 := by rw [ew3, own_st, if_pos g1, if_neg g2]
        have q := A3 TA2 _ _ XA2 eA2 NA2 KA2 (by rw [q2]; exact VA2) EA2
        first | (rw [q1] at q; exact q) | (rw [← q1]; exact q)
    · skip
      refine own_go (S' := (TA2.setTop (mkF m 203 #[.val (.int p1), .val (.int p2), .val (.int p3), .val (.int p4), .val (.int p5), .val (.ref la), .val (.int m4), .val (.ref b5), .val (.int m2)] []))) (fun t_ k_ => ?_) ?_
      · refine XS.icmpYes XA2.here hx rfl (pc0 := 162) (pc' := 203) rfl (hb hby own_d12_162) rfl (flt g1).2.2.2 (by decide) (by decide) ?_
        show Steps p.tables e below (TA2.setTop (mkF m 203 #[.val (.int p1), .val (.int p2), .val (.int p3), .val (.int p4), .val (.int p5), .val (.ref la), .val (.int m4), .val (.ref b5), .val (.int m2)] [])) _
        exact k_
      have q1 : m3 = m2 := by rw [em3, own_m3, own_inc, ← em2, if_neg g1]
      have q2 : w3 = w2 := by rw [ew3, own_st, if_neg g1]
      have q := A3 TA2 _ _ XA2 eA2 NA2 KA2 (by rw [q2]; exact VA2) EA2
      first | (rw [q1] at q; exact q) | (rw [← q1]; exact q)
  have A1 : ∀ (TA1 : State) (lcA1 : List Loc) (hA1 : Heap)  (XA1 : Stand p l e ({ frames := 1, cells := 1, slots := 4, locals := 30 } : Room) s m #[(.int p1), (.int p2), (.int p3), (.int p4), (.int p5), (.ref la)] below meth c TA1 lcA1 1 4) (eA1 : TA1.heap = hA1) (NA1 : Fr n0 lcA1) (KA1 : Keep h0 hA1 []) (VA1 : Arv Z hA1 b5 k5 .int m4 (w1.map Value.int) (.int 0)) (EA1 : Exa Z hA1 b5 "[I"), own_Rch p e below (own_Fin s ({ frames := 1, cells := 1, slots := 4, locals := 30 } : Room).cells ({ frames := 1, cells := 1, slots := 4, locals := 30 } : Room).slots (fun v h L => ∃ b kb, v = some (.ref b) ∧ Fr n0 L ∧ Keep h0 h [] ∧ h0.size ≤ b ∧ n0 ≤ b ∧ Exa Z h b "[I" ∧ Arv Z h b kb .int (own_m4 p1 p2 x0 x1 x2 x3) ((own_ws p1 p2 p3 p4 p5 x0 x1 x2 x3).map Value.int) (.int 0))) (TA1.setTop (mkF m 117 #[.val (.int p1), .val (.int p2), .val (.int p3), .val (.int p4), .val (.int p5), .val (.ref la), .val (.int m4), .val (.ref b5), .val (.int m1)] [])) := by
    intro TA1 lcA1 hA1 XA1 eA1 NA1 KA1 VA1 EA1
    refine own_go (S' := (TA1.setTop (mkF m 119 #[.val (.int p1), .val (.int p2), .val (.int p3), .val (.int p4), .val (.int p5), .val (.ref la), .val (.int m4), .val (.ref b5), .val (.int m1)] [(.int (1 : Int32)), (.int p2)]))) (fun t_ k_ => ?_) ?_
    · refine XS.iloadN XA1.here hx rfl (hb hby own_d12_117) rfl ?_
      show Steps p.tables e below (TA1.setTop (mkF m 118 #[.val (.int p1), .val (.int p2), .val (.int p3), .val (.int p4), .val (.int p5), .val (.ref la), .val (.int m4), .val (.ref b5), .val (.int m1)] [(.int p2)])) _
      refine XS.iconst XA1.here hx rfl (hb hby own_d12_118) ?_
      show Steps p.tables e below (TA1.setTop (mkF m 119 #[.val (.int p1), .val (.int p2), .val (.int p3), .val (.int p4), .val (.int p5), .val (.ref la), .val (.int m4), .val (.ref b5), .val (.int m1)] [(.int (1 : Int32)), (.int p2)])) _
      exact k_
    by_cases g1 : (1 : Int32) < p2
    · skip
      refine own_go (S' := (TA1.setTop (mkF m 125 #[.val (.int p1), .val (.int p2), .val (.int p3), .val (.int p4), .val (.int p5), .val (.ref la), .val (.int m4), .val (.ref b5), .val (.int m1)] [(.int (1 : Int32)), (.ref la)]))) (fun t_ k_ => ?_) ?_
      · refine XS.icmpNo XA1.here hx rfl (hb hby own_d12_119) rfl (tlt g1).2.2.2 ?_
        show Steps p.tables e below (TA1.setTop (mkF m 122 #[.val (.int p1), .val (.int p2), .val (.int p3), .val (.int p4), .val (.int p5), .val (.ref la), .val (.int m4), .val (.ref b5), .val (.int m1)] [])) _
        refine XS.aload XA1.here hx rfl (hb hby own_d12_122) rfl rfl ?_
        show Steps p.tables e below (TA1.setTop (mkF m 124 #[.val (.int p1), .val (.int p2), .val (.int p3), .val (.int p4), .val (.int p5), .val (.ref la), .val (.int m4), .val (.ref b5), .val (.int m1)] [(.ref la)])) _
        refine XS.iconst XA1.here hx rfl (hb hby own_d12_124) ?_
        show Steps p.tables e below (TA1.setTop (mkF m 125 #[.val (.int p1), .val (.int p2), .val (.int p3), .val (.int p4), .val (.int p5), .val (.ref la), .val (.int m4), .val (.ref b5), .val (.int m1)] [(.int (1 : Int32)), (.ref la)])) _
        exact k_
      have VL : Arv Z hA1 la kl .int 4 [.int x0, .int x1, .int x2, .int x3] (.int 0) := V.keep KA1 nin0
      refine own_go (own_ial XA1 hx hZ eA1 VL (by decide) (v := (.int x1)) rfl (g := (mkF m 125 #[.val (.int p1), .val (.int p2), .val (.int p3), .val (.int p4), .val (.int p5), .val (.ref la), .val (.int m4), .val (.ref b5), .val (.int m1)] [(.int (1 : Int32)), (.ref la)])) rfl rfl (hb hby own_d12_125)) ?_
      show own_Rch p e below _ (TA1.setTop (mkF m 126 #[.val (.int p1), .val (.int p2), .val (.int p3), .val (.int p4), .val (.int p5), .val (.ref la), .val (.int m4), .val (.ref b5), .val (.int m1)] [(.int x1)]))
      refine own_go (S' := (TA1.setTop (mkF m 127 #[.val (.int p1), .val (.int p2), .val (.int p3), .val (.int p4), .val (.int p5), .val (.ref la), .val (.int m4), .val (.ref b5), .val (.int m1)] [(.int p1), (.int x1)]))) (fun t_ k_ => ?_) ?_
      · refine XS.iloadN XA1.here hx rfl (hb hby own_d12_126) rfl ?_
        show Steps p.tables e below (TA1.setTop (mkF m 127 #[.val (.int p1), .val (.int p2), .val (.int p3), .val (.int p4), .val (.int p5), .val (.ref la), .val (.int m4), .val (.ref b5), .val (.int m1)] [(.int p1), (.int x1)])) _
        exact k_
      by_cases g2 : x1 = p1
      · skip
        refine own_go (S' := (TA1.setTop (mkF m 134 #[.val (.int p1), .val (.int p2), .val (.int p3), .val (.int p4), .val (.int p5), .val (.ref la), .val (.int m4), .val (.ref b5), .val (.int m1)] [(.int p5), (.ref b5)]))) (fun t_ k_ => ?_) ?_
        · refine XS.icmpNo XA1.here hx rfl (hb hby own_d12_127) rfl (teq g2).2 ?_
          show Steps p.tables e below (TA1.setTop (mkF m 130 #[.val (.int p1), .val (.int p2), .val (.int p3), .val (.int p4), .val (.int p5), .val (.ref la), .val (.int m4), .val (.ref b5), .val (.int m1)] [])) _
          refine XS.aload XA1.here hx rfl (hb hby own_d12_130) rfl rfl ?_
          show Steps p.tables e below (TA1.setTop (mkF m 132 #[.val (.int p1), .val (.int p2), .val (.int p3), .val (.int p4), .val (.int p5), .val (.ref la), .val (.int m4), .val (.ref b5), .val (.int m1)] [(.ref b5)])) _
          refine XS.iload XA1.here hx rfl (hb hby own_d12_132) rfl ?_
          show Steps p.tables e below (TA1.setTop (mkF m 134 #[.val (.int p1), .val (.int p2), .val (.int p3), .val (.int p4), .val (.int p5), .val (.ref la), .val (.int m4), .val (.ref b5), .val (.int m1)] [(.int p5), (.ref b5)])) _
          exact k_
        obtain ⟨ix, eix⟩ : ∃ z : Int32, z = own_ix p5 m4 m1 := ⟨_, rfl⟩
        refine own_join (S' := (TA1.setTop (mkF m 149 #[.val (.int p1), .val (.int p2), .val (.int p3), .val (.int p4), .val (.int p5), .val (.ref la), .val (.int m4), .val (.ref b5), .val (.int m1)] [(.int ix), (.ref b5)]))) (fun J12 => ?_) ?_
        · skip
          by_cases hd : p5 = (0 : Int32)
          · skip
            refine own_go (S' := (TA1.setTop (mkF m 149 #[.val (.int p1), .val (.int p2), .val (.int p3), .val (.int p4), .val (.int p5), .val (.ref la), .val (.int m4), .val (.ref b5), .val (.int m1)] [(.int m1), (.ref b5)]))) (fun t_ k_ => ?_) ?_
            · refine XS.ifYes XA1.here hx rfl (pc0 := 134) (pc' := 147) rfl (hb hby own_d12_134) rfl ((if0 _ _).trans (teq hd).1) (by decide) (by decide) ?_
              show Steps p.tables e below (TA1.setTop (mkF m 147 #[.val (.int p1), .val (.int p2), .val (.int p3), .val (.int p4), .val (.int p5), .val (.ref la), .val (.int m4), .val (.ref b5), .val (.int m1)] [(.ref b5)])) _
              refine XS.iload XA1.here hx rfl (hb hby own_d12_147) rfl ?_
              show Steps p.tables e below (TA1.setTop (mkF m 149 #[.val (.int p1), .val (.int p2), .val (.int p3), .val (.int p4), .val (.int p5), .val (.ref la), .val (.int m4), .val (.ref b5), .val (.int m1)] [(.int m1), (.ref b5)])) _
              exact k_
            rw [own_ix, if_pos hd] at eix; subst eix; exact J12
          · skip
            refine own_go (S' := (TA1.setTop (mkF m 149 #[.val (.int p1), .val (.int p2), .val (.int p3), .val (.int p4), .val (.int p5), .val (.ref la), .val (.int m4), .val (.ref b5), .val (.int m1)] [(.int ((m4 - (1 : Int32)) - m1)), (.ref b5)]))) (fun t_ k_ => ?_) ?_
            · refine XS.ifNo XA1.here hx rfl (hb hby own_d12_134) rfl ((if0 _ _).trans (feq hd).1) ?_
              show Steps p.tables e below (TA1.setTop (mkF m 137 #[.val (.int p1), .val (.int p2), .val (.int p3), .val (.int p4), .val (.int p5), .val (.ref la), .val (.int m4), .val (.ref b5), .val (.int m1)] [(.ref b5)])) _
              refine XS.iload XA1.here hx rfl (hb hby own_d12_137) rfl ?_
              show Steps p.tables e below (TA1.setTop (mkF m 139 #[.val (.int p1), .val (.int p2), .val (.int p3), .val (.int p4), .val (.int p5), .val (.ref la), .val (.int m4), .val (.ref b5), .val (.int m1)] [(.int m4), (.ref b5)])) _
              refine XS.iconst XA1.here hx rfl (hb hby own_d12_139) ?_
              show Steps p.tables e below (TA1.setTop (mkF m 140 #[.val (.int p1), .val (.int p2), .val (.int p3), .val (.int p4), .val (.int p5), .val (.ref la), .val (.int m4), .val (.ref b5), .val (.int m1)] [(.int (1 : Int32)), (.int m4), (.ref b5)])) _
              refine XS.isub XA1.here hx rfl (hb hby own_d12_140) rfl ?_
              show Steps p.tables e below (TA1.setTop (mkF m 141 #[.val (.int p1), .val (.int p2), .val (.int p3), .val (.int p4), .val (.int p5), .val (.ref la), .val (.int m4), .val (.ref b5), .val (.int m1)] [(.int (m4 - (1 : Int32))), (.ref b5)])) _
              refine XS.iload XA1.here hx rfl (hb hby own_d12_141) rfl ?_
              show Steps p.tables e below (TA1.setTop (mkF m 143 #[.val (.int p1), .val (.int p2), .val (.int p3), .val (.int p4), .val (.int p5), .val (.ref la), .val (.int m4), .val (.ref b5), .val (.int m1)] [(.int m1), (.int (m4 - (1 : Int32))), (.ref b5)])) _
              refine XS.isub XA1.here hx rfl (hb hby own_d12_143) rfl ?_
              show Steps p.tables e below (TA1.setTop (mkF m 144 #[.val (.int p1), .val (.int p2), .val (.int p3), .val (.int p4), .val (.int p5), .val (.ref la), .val (.int m4), .val (.ref b5), .val (.int m1)] [(.int ((m4 - (1 : Int32)) - m1)), (.ref b5)])) _
              refine XS.goto XA1.here hx rfl (pc0 := 144) (pc' := 149) rfl (hb hby own_d12_144) (by decide) (by decide) ?_
              show Steps p.tables e below (TA1.setTop (mkF m 149 #[.val (.int p1), .val (.int p2), .val (.int p3), .val (.int p4), .val (.int p5), .val (.ref la), .val (.int m4), .val (.ref b5), .val (.int m1)] [(.int ((m4 - (1 : Int32)) - m1)), (.ref b5)])) _
              exact k_
            rw [own_ix, if_neg hd] at eix; subst eix; exact J12
        obtain ⟨hj, hj2, hj3⟩ := own_ixR eix (by omega) (by have := r2.2.2 g1 g2; omega) (by omega)
        refine own_go (S' := (TA1.setTop (mkF m 153 #[.val (.int p1), .val (.int p2), .val (.int p3), .val (.int p4), .val (.int p5), .val (.ref la), .val (.int m4), .val (.ref b5), .val (.int m1)] [(.int p4), (.int p3), (.int p2), (.int (1 : Int32)), (.int ix), (.ref b5)]))) (fun t_ k_ => ?_) ?_
        · refine XS.iconst XA1.here hx rfl (hb hby own_d12_149) ?_
          show Steps p.tables e below (TA1.setTop (mkF m 150 #[.val (.int p1), .val (.int p2), .val (.int p3), .val (.int p4), .val (.int p5), .val (.ref la), .val (.int m4), .val (.ref b5), .val (.int m1)] [(.int (1 : Int32)), (.int ix), (.ref b5)])) _
          refine XS.iloadN XA1.here hx rfl (hb hby own_d12_150) rfl ?_
          show Steps p.tables e below (TA1.setTop (mkF m 151 #[.val (.int p1), .val (.int p2), .val (.int p3), .val (.int p4), .val (.int p5), .val (.ref la), .val (.int m4), .val (.ref b5), .val (.int m1)] [(.int p2), (.int (1 : Int32)), (.int ix), (.ref b5)])) _
          refine XS.iloadN XA1.here hx rfl (hb hby own_d12_151) rfl ?_
          show Steps p.tables e below (TA1.setTop (mkF m 152 #[.val (.int p1), .val (.int p2), .val (.int p3), .val (.int p4), .val (.int p5), .val (.ref la), .val (.int m4), .val (.ref b5), .val (.int m1)] [(.int p3), (.int p2), (.int (1 : Int32)), (.int ix), (.ref b5)])) _
          refine XS.iloadN XA1.here hx rfl (hb hby own_d12_152) rfl ?_
          show Steps p.tables e below (TA1.setTop (mkF m 153 #[.val (.int p1), .val (.int p2), .val (.int p3), .val (.int p4), .val (.int p5), .val (.ref la), .val (.int m4), .val (.ref b5), .val (.int m1)] [(.int p4), (.int p3), (.int p2), (.int (1 : Int32)), (.int ix), (.ref b5)])) _
          exact k_
        have Zc : n0 ≤ hA1.size := Nat.le_trans Z0 KA1.1
        obtain ⟨_, T13, L13, X13, ⟨rfl, N13q, k13⟩, st13⟩ := own_callS XA1 hx hZ (y := (⟨"com/example/anonutils/anonutils/ClusteringOfPinLaw", "id", "(IIIZ)I"⟩ : MethodName)) hown (hw _ (List.mem_of_getElem? (i := 75) rfl)) (hw _ (List.mem_of_getElem? (i := 76) rfl)) (hw _ (List.mem_of_getElem? (i := 73) rfl)) (hw _ (List.mem_of_getElem? (i := 77) rfl)) (by decide) (own_c13 l Z a0 hw [] (1 : Int32) p2 p3 p4 hA1 n0 Zc (own_nz g1 (by decide))) eA1 (W := 2) (by decide) (by decide) (g := (mkF m 153 #[.val (.int p1), .val (.int p2), .val (.int p3), .val (.int p4), .val (.int p5), .val (.ref la), .val (.int m4), .val (.ref b5), .val (.int m1)] [(.int p4), (.int p3), (.int p2), (.int (1 : Int32)), (.int ix), (.ref b5)])) rfl (by rw [hml]; rfl) (argsL := [(.int (1 : Int32)), (.int p2), (.int p3), (.int p4)]) (rest := [(.int ix), (.ref b5)]) (lenOf own_pd9 rfl) rfl rfl rfl (hb hby own_d12_153) (by decide) (by decide)
        have N13 := Fr.app NA1 N13q
        refine own_go st13 ?_
        show own_Rch p e below _ (T13.setTop (mkF m 156 #[.val (.int p1), .val (.int p2), .val (.int p3), .val (.int p4), .val (.int p5), .val (.ref la), .val (.int m4), .val (.ref b5), .val (.int m1)] [(.int (own_id (1 : Int32) p2 p3 p4)), (.int ix), (.ref b5)]))
        have Vc := VA1
        have Kc := KA1
        have Ec := EA1
        rw [← k13] at Vc Kc Ec
        obtain ⟨T14, h14, X14, e14, W14, V14, st14⟩ := own_stI X13 hx hZ rfl Vc hj (i := ix.toNatClampNeg) rfl (by rw [List.length_map, lw1]; have := own_clampLe (z := ix) (k := 3) (by omega); omega) (g := (mkF m 156 #[.val (.int p1), .val (.int p2), .val (.int p3), .val (.int p4), .val (.int p5), .val (.ref la), .val (.int m4), .val (.ref b5), .val (.int m1)] [(.int (own_id (1 : Int32) p2 p3 p4)), (.int ix), (.ref b5)])) rfl rfl (hb hby own_d12_156)
        refine own_go st14 ?_
        have N14 := Fr.snoc X14 N13 gb5
        show own_Rch p e below _ (T14.setTop (mkF m 157 #[.val (.int p1), .val (.int p2), .val (.int p3), .val (.int p4), .val (.int p5), .val (.ref la), .val (.int m4), .val (.ref b5), .val (.int m1)] []))
        refine own_go (S' := (T14.setTop (mkF m 160 #[.val (.int p1), .val (.int p2), .val (.int p3), .val (.int p4), .val (.int p5), .val (.ref la), .val (.int m4), .val (.ref b5), .val (.int (m1 + (1 : Int32)))] []))) (fun t_ k_ => ?_) ?_
        · refine XS.iinc X14.here hx rfl (hb hby own_d12_157) rfl (l' := #[.val (.int p1), .val (.int p2), .val (.int p3), .val (.int p4), .val (.int p5), .val (.ref la), .val (.int m4), .val (.ref b5), .val (.int (m1 + (1 : Int32)))]) rfl ?_
          show Steps p.tables e below (T14.setTop (mkF m 160 #[.val (.int p1), .val (.int p2), .val (.int p3), .val (.int p4), .val (.int p5), .val (.ref la), .val (.int m4), .val (.ref b5), .val (.int (m1 + (1 : Int32)))] [])) _
          exact k_
        have q1 : m2 = (m1 + (1 : Int32)) := by rw [em2, own_m2, own_inc, ← em1, if_pos g1, if_pos g2]
        have q2 : w2 = w1.set ix.toNatClampNeg (own_id (1 : Int32) p2 p3 p4) := by rw [ew2, own_st, if_pos g1, if_pos g2, ← eix]
        have q := A2 T14 _ h14 X14 e14 N14 (Kc.wr W14 (Or.inr sb)) (by rw [q2]; exact (by rw [List.map_set]; exact V14)) (Ec.wr W14)
        first | (rw [q1] at q; exact q) | (rw [← q1]; exact q)
      · skip
        refine own_go (S' := (TA1.setTop (mkF m 160 #[.val (.int p1), .val (.int p2), .val (.int p3), .val (.int p4), .val (.int p5), .val (.ref la), .val (.int m4), .val (.ref b5), .val (.int m1)] []))) (fun t_ k_ => ?_) ?_
        · refine XS.icmpYes XA1.here hx rfl (pc0 := 127) (pc' := 160) rfl (hb hby own_d12_127) rfl (feq g2).2 (by decide) (by decide) ?_
          show Steps p.tables e below (TA1.setTop (mkF m 160 #[.val (.int p1), .val (.int p2), .val (.int p3), .val (.int p4), .val (.int p5), .val (.ref la), .val (.int m4), .val (.ref b5), .val (.int m1)] [])) _
          exact k_
        have q1 : m2 = m1 := by rw [em2, own_m2, own_inc, ← em1, if_pos g1, if_neg g2]
        have q2 : w2 = w1 := by rw [ew2, own_st, if_pos g1, if_neg g2]
        have q := A2 TA1 _ _ XA1 eA1 NA1 KA1 (by rw [q2]; exact VA1) EA1
        first | (rw [q1] at q; exact q) | (rw [← q1]; exact q)
    · skip
      refine own_go (S' := (TA1.setTop (mkF m 160 #[.val (.int p1), .val (.int p2), .val (.int p3), .val (.int p4), .val (.int p5), .val (.ref la), .val (.int m4), .val (.ref b5), .val (.int m1)] []))) (fun t_ k_ => ?_) ?_
      · refine XS.icmpYes XA1.here hx rfl (pc0 := 119) (pc' := 160) rfl (hb hby own_d12_119) rfl (flt g1).2.2.2 (by decide) (by decide) ?_
        show Steps p.tables e below (TA1.setTop (mkF m 160 #[.val (.int p1), .val (.int p2), .val (.int p3), .val (.int p4), .val (.int p5), .val (.ref la), .val (.int m4), .val (.ref b5), .val (.int m1)] [])) _
        exact k_
      have q1 : m2 = m1 := by rw [em2, own_m2, own_inc, ← em1, if_neg g1]
      have q2 : w2 = w1 := by rw [ew2, own_st, if_neg g1]
      have q := A2 TA1 _ _ XA1 eA1 NA1 KA1 (by rw [q2]; exact VA1) EA1
      first | (rw [q1] at q; exact q) | (rw [← q1]; exact q)
  have K0 : Keep h0 h5 [] := (Keep.refl h0 []).ext E5
  refine own_go (S' := (T5.setTop (mkF m 76 #[.val (.int p1), .val (.int p2), .val (.int p3), .val (.int p4), .val (.int p5), .val (.ref la), .val (.int m4), .val (.ref b5), .val (.int (0 : Int32))] [(.int p2)]))) (fun t_ k_ => ?_) ?_
  · refine XS.iloadN X5.here hx rfl (hb hby own_d12_75) rfl ?_
    show Steps p.tables e below (T5.setTop (mkF m 76 #[.val (.int p1), .val (.int p2), .val (.int p3), .val (.int p4), .val (.int p5), .val (.ref la), .val (.int m4), .val (.ref b5), .val (.int (0 : Int32))] [(.int p2)])) _
    exact k_
  by_cases g1 : (0 : Int32) < p2
  · skip
    refine own_go (S' := (T5.setTop (mkF m 82 #[.val (.int p1), .val (.int p2), .val (.int p3), .val (.int p4), .val (.int p5), .val (.ref la), .val (.int m4), .val (.ref b5), .val (.int (0 : Int32))] [(.int (0 : Int32)), (.ref la)]))) (fun t_ k_ => ?_) ?_
    · refine XS.ifNo X5.here hx rfl (hb hby own_d12_76) rfl ((if0 _ _).trans (tlt g1).2.2.2) ?_
      show Steps p.tables e below (T5.setTop (mkF m 79 #[.val (.int p1), .val (.int p2), .val (.int p3), .val (.int p4), .val (.int p5), .val (.ref la), .val (.int m4), .val (.ref b5), .val (.int (0 : Int32))] [])) _
      refine XS.aload X5.here hx rfl (hb hby own_d12_79) rfl rfl ?_
      show Steps p.tables e below (T5.setTop (mkF m 81 #[.val (.int p1), .val (.int p2), .val (.int p3), .val (.int p4), .val (.int p5), .val (.ref la), .val (.int m4), .val (.ref b5), .val (.int (0 : Int32))] [(.ref la)])) _
      refine XS.iconst X5.here hx rfl (hb hby own_d12_81) ?_
      show Steps p.tables e below (T5.setTop (mkF m 82 #[.val (.int p1), .val (.int p2), .val (.int p3), .val (.int p4), .val (.int p5), .val (.ref la), .val (.int m4), .val (.ref b5), .val (.int (0 : Int32))] [(.int (0 : Int32)), (.ref la)])) _
      exact k_
    have VL : Arv Z h5 la kl .int 4 [.int x0, .int x1, .int x2, .int x3] (.int 0) := V.keep K0 nin0
    refine own_go (own_ial X5 hx hZ e5 VL (by decide) (v := (.int x0)) rfl (g := (mkF m 82 #[.val (.int p1), .val (.int p2), .val (.int p3), .val (.int p4), .val (.int p5), .val (.ref la), .val (.int m4), .val (.ref b5), .val (.int (0 : Int32))] [(.int (0 : Int32)), (.ref la)])) rfl rfl (hb hby own_d12_82)) ?_
    show own_Rch p e below _ (T5.setTop (mkF m 83 #[.val (.int p1), .val (.int p2), .val (.int p3), .val (.int p4), .val (.int p5), .val (.ref la), .val (.int m4), .val (.ref b5), .val (.int (0 : Int32))] [(.int x0)]))
    refine own_go (S' := (T5.setTop (mkF m 84 #[.val (.int p1), .val (.int p2), .val (.int p3), .val (.int p4), .val (.int p5), .val (.ref la), .val (.int m4), .val (.ref b5), .val (.int (0 : Int32))] [(.int p1), (.int x0)]))) (fun t_ k_ => ?_) ?_
    · refine XS.iloadN X5.here hx rfl (hb hby own_d12_83) rfl ?_
      show Steps p.tables e below (T5.setTop (mkF m 84 #[.val (.int p1), .val (.int p2), .val (.int p3), .val (.int p4), .val (.int p5), .val (.ref la), .val (.int m4), .val (.ref b5), .val (.int (0 : Int32))] [(.int p1), (.int x0)])) _
      exact k_
    by_cases g2 : x0 = p1
    · skip
      refine own_go (S' := (T5.setTop (mkF m 91 #[.val (.int p1), .val (.int p2), .val (.int p3), .val (.int p4), .val (.int p5), .val (.ref la), .val (.int m4), .val (.ref b5), .val (.int (0 : Int32))] [(.int p5), (.ref b5)]))) (fun t_ k_ => ?_) ?_
      · refine XS.icmpNo X5.here hx rfl (hb hby own_d12_84) rfl (teq g2).2 ?_
        show Steps p.tables e below (T5.setTop (mkF m 87 #[.val (.int p1), .val (.int p2), .val (.int p3), .val (.int p4), .val (.int p5), .val (.ref la), .val (.int m4), .val (.ref b5), .val (.int (0 : Int32))] [])) _
        refine XS.aload X5.here hx rfl (hb hby own_d12_87) rfl rfl ?_
        show Steps p.tables e below (T5.setTop (mkF m 89 #[.val (.int p1), .val (.int p2), .val (.int p3), .val (.int p4), .val (.int p5), .val (.ref la), .val (.int m4), .val (.ref b5), .val (.int (0 : Int32))] [(.ref b5)])) _
        refine XS.iload X5.here hx rfl (hb hby own_d12_89) rfl ?_
        show Steps p.tables e below (T5.setTop (mkF m 91 #[.val (.int p1), .val (.int p2), .val (.int p3), .val (.int p4), .val (.int p5), .val (.ref la), .val (.int m4), .val (.ref b5), .val (.int (0 : Int32))] [(.int p5), (.ref b5)])) _
        exact k_
      obtain ⟨ix, eix⟩ : ∃ z : Int32, z = own_ix p5 m4 (0 : Int32) := ⟨_, rfl⟩
      refine own_join (S' := (T5.setTop (mkF m 106 #[.val (.int p1), .val (.int p2), .val (.int p3), .val (.int p4), .val (.int p5), .val (.ref la), .val (.int m4), .val (.ref b5), .val (.int (0 : Int32))] [(.int ix), (.ref b5)]))) (fun J15 => ?_) ?_
      · skip
        by_cases hd : p5 = (0 : Int32)
        · skip
          refine own_go (S' := (T5.setTop (mkF m 106 #[.val (.int p1), .val (.int p2), .val (.int p3), .val (.int p4), .val (.int p5), .val (.ref la), .val (.int m4), .val (.ref b5), .val (.int (0 : Int32))] [(.int (0 : Int32)), (.ref b5)]))) (fun t_ k_ => ?_) ?_
          · refine XS.ifYes X5.here hx rfl (pc0 := 91) (pc' := 104) rfl (hb hby own_d12_91) rfl ((if0 _ _).trans (teq hd).1) (by decide) (by decide) ?_
            show Steps p.tables e below (T5.setTop (mkF m 104 #[.val (.int p1), .val (.int p2), .val (.int p3), .val (.int p4), .val (.int p5), .val (.ref la), .val (.int m4), .val (.ref b5), .val (.int (0 : Int32))] [(.ref b5)])) _
            refine XS.iload X5.here hx rfl (hb hby own_d12_104) rfl ?_
            show Steps p.tables e below (T5.setTop (mkF m 106 #[.val (.int p1), .val (.int p2), .val (.int p3), .val (.int p4), .val (.int p5), .val (.ref la), .val (.int m4), .val (.ref b5), .val (.int (0 : Int32))] [(.int (0 : Int32)), (.ref b5)])) _
            exact k_
          rw [own_ix, if_pos hd] at eix; subst eix; exact J15
        · skip
          refine own_go (S' := (T5.setTop (mkF m 106 #[.val (.int p1), .val (.int p2), .val (.int p3), .val (.int p4), .val (.int p5), .val (.ref la), .val (.int m4), .val (.ref b5), .val (.int (0 : Int32))] [(.int ((m4 - (1 : Int32)) - (0 : Int32))), (.ref b5)]))) (fun t_ k_ => ?_) ?_
          · refine XS.ifNo X5.here hx rfl (hb hby own_d12_91) rfl ((if0 _ _).trans (feq hd).1) ?_
            show Steps p.tables e below (T5.setTop (mkF m 94 #[.val (.int p1), .val (.int p2), .val (.int p3), .val (.int p4), .val (.int p5), .val (.ref la), .val (.int m4), .val (.ref b5), .val (.int (0 : Int32))] [(.ref b5)])) _
            refine XS.iload X5.here hx rfl (hb hby own_d12_94) rfl ?_
            show Steps p.tables e below (T5.setTop (mkF m 96 #[.val (.int p1), .val (.int p2), .val (.int p3), .val (.int p4), .val (.int p5), .val (.ref la), .val (.int m4), .val (.ref b5), .val (.int (0 : Int32))] [(.int m4), (.ref b5)])) _
            refine XS.iconst X5.here hx rfl (hb hby own_d12_96) ?_
            show Steps p.tables e below (T5.setTop (mkF m 97 #[.val (.int p1), .val (.int p2), .val (.int p3), .val (.int p4), .val (.int p5), .val (.ref la), .val (.int m4), .val (.ref b5), .val (.int (0 : Int32))] [(.int (1 : Int32)), (.int m4), (.ref b5)])) _
            refine XS.isub X5.here hx rfl (hb hby own_d12_97) rfl ?_
            show Steps p.tables e below (T5.setTop (mkF m 98 #[.val (.int p1), .val (.int p2), .val (.int p3), .val (.int p4), .val (.int p5), .val (.ref la), .val (.int m4), .val (.ref b5), .val (.int (0 : Int32))] [(.int (m4 - (1 : Int32))), (.ref b5)])) _
            refine XS.iload X5.here hx rfl (hb hby own_d12_98) rfl ?_
            show Steps p.tables e below (T5.setTop (mkF m 100 #[.val (.int p1), .val (.int p2), .val (.int p3), .val (.int p4), .val (.int p5), .val (.ref la), .val (.int m4), .val (.ref b5), .val (.int (0 : Int32))] [(.int (0 : Int32)), (.int (m4 - (1 : Int32))), (.ref b5)])) _
            refine XS.isub X5.here hx rfl (hb hby own_d12_100) rfl ?_
            show Steps p.tables e below (T5.setTop (mkF m 101 #[.val (.int p1), .val (.int p2), .val (.int p3), .val (.int p4), .val (.int p5), .val (.ref la), .val (.int m4), .val (.ref b5), .val (.int (0 : Int32))] [(.int ((m4 - (1 : Int32)) - (0 : Int32))), (.ref b5)])) _
            refine XS.goto X5.here hx rfl (pc0 := 101) (pc' := 106) rfl (hb hby own_d12_101) (by decide) (by decide) ?_
            show Steps p.tables e below (T5.setTop (mkF m 106 #[.val (.int p1), .val (.int p2), .val (.int p3), .val (.int p4), .val (.int p5), .val (.ref la), .val (.int m4), .val (.ref b5), .val (.int (0 : Int32))] [(.int ((m4 - (1 : Int32)) - (0 : Int32))), (.ref b5)])) _
            exact k_
          rw [own_ix, if_neg hd] at eix; subst eix; exact J15
      obtain ⟨hj, hj2, hj3⟩ := own_ixR eix (by omega) (by have := r1.2.2 g1 g2; omega) (by omega)
      refine own_go (S' := (T5.setTop (mkF m 110 #[.val (.int p1), .val (.int p2), .val (.int p3), .val (.int p4), .val (.int p5), .val (.ref la), .val (.int m4), .val (.ref b5), .val (.int (0 : Int32))] [(.int p4), (.int p3), (.int p2), (.int (0 : Int32)), (.int ix), (.ref b5)]))) (fun t_ k_ => ?_) ?_
      · refine XS.iconst X5.here hx rfl (hb hby own_d12_106) ?_
        show Steps p.tables e below (T5.setTop (mkF m 107 #[.val (.int p1), .val (.int p2), .val (.int p3), .val (.int p4), .val (.int p5), .val (.ref la), .val (.int m4), .val (.ref b5), .val (.int (0 : Int32))] [(.int (0 : Int32)), (.int ix), (.ref b5)])) _
        refine XS.iloadN X5.here hx rfl (hb hby own_d12_107) rfl ?_
        show Steps p.tables e below (T5.setTop (mkF m 108 #[.val (.int p1), .val (.int p2), .val (.int p3), .val (.int p4), .val (.int p5), .val (.ref la), .val (.int m4), .val (.ref b5), .val (.int (0 : Int32))] [(.int p2), (.int (0 : Int32)), (.int ix), (.ref b5)])) _
        refine XS.iloadN X5.here hx rfl (hb hby own_d12_108) rfl ?_
        show Steps p.tables e below (T5.setTop (mkF m 109 #[.val (.int p1), .val (.int p2), .val (.int p3), .val (.int p4), .val (.int p5), .val (.ref la), .val (.int m4), .val (.ref b5), .val (.int (0 : Int32))] [(.int p3), (.int p2), (.int (0 : Int32)), (.int ix), (.ref b5)])) _
        refine XS.iloadN X5.here hx rfl (hb hby own_d12_109) rfl ?_
        show Steps p.tables e below (T5.setTop (mkF m 110 #[.val (.int p1), .val (.int p2), .val (.int p3), .val (.int p4), .val (.int p5), .val (.ref la), .val (.int m4), .val (.ref b5), .val (.int (0 : Int32))] [(.int p4), (.int p3), (.int p2), (.int (0 : Int32)), (.int ix), (.ref b5)])) _
        exact k_
      have Zc : n0 ≤ h5.size := Nat.le_trans Z0 K0.1
      obtain ⟨_, T16, L16, X16, ⟨rfl, N16q, k16⟩, st16⟩ := own_callS X5 hx hZ (y := (⟨"com/example/anonutils/anonutils/ClusteringOfPinLaw", "id", "(IIIZ)I"⟩ : MethodName)) hown (hw _ (List.mem_of_getElem? (i := 75) rfl)) (hw _ (List.mem_of_getElem? (i := 76) rfl)) (hw _ (List.mem_of_getElem? (i := 73) rfl)) (hw _ (List.mem_of_getElem? (i := 77) rfl)) (by decide) (own_c13 l Z a0 hw [] (0 : Int32) p2 p3 p4 h5 n0 Zc (own_nz g1 (by decide))) e5 (W := 2) (by decide) (by decide) (g := (mkF m 110 #[.val (.int p1), .val (.int p2), .val (.int p3), .val (.int p4), .val (.int p5), .val (.ref la), .val (.int m4), .val (.ref b5), .val (.int (0 : Int32))] [(.int p4), (.int p3), (.int p2), (.int (0 : Int32)), (.int ix), (.ref b5)])) rfl (by rw [hml]; rfl) (argsL := [(.int (0 : Int32)), (.int p2), (.int p3), (.int p4)]) (rest := [(.int ix), (.ref b5)]) (lenOf own_pd9 rfl) rfl rfl rfl (hb hby own_d12_110) (by decide) (by decide)
      have N16 := Fr.app N0 N16q
      refine own_go st16 ?_
      show own_Rch p e below _ (T16.setTop (mkF m 113 #[.val (.int p1), .val (.int p2), .val (.int p3), .val (.int p4), .val (.int p5), .val (.ref la), .val (.int m4), .val (.ref b5), .val (.int (0 : Int32))] [(.int (own_id (0 : Int32) p2 p3 p4)), (.int ix), (.ref b5)]))
      have Vc := Va
      have Kc := K0
      have Ec := Ex5
      rw [← k16] at Vc Kc Ec
      obtain ⟨T17, h17, X17, e17, W17, V17, st17⟩ := own_stI X16 hx hZ rfl Vc hj (i := ix.toNatClampNeg) rfl (by rw [List.length_map, (show ([0, 0, 0, 0] : List Int32).length = 4 from rfl)]; have := own_clampLe (z := ix) (k := 3) (by omega); omega) (g := (mkF m 113 #[.val (.int p1), .val (.int p2), .val (.int p3), .val (.int p4), .val (.int p5), .val (.ref la), .val (.int m4), .val (.ref b5), .val (.int (0 : Int32))] [(.int (own_id (0 : Int32) p2 p3 p4)), (.int ix), (.ref b5)])) rfl rfl (hb hby own_d12_113)
      refine own_go st17 ?_
      have N17 := Fr.snoc X17 N16 gb5
      show own_Rch p e below _ (T17.setTop (mkF m 114 #[.val (.int p1), .val (.int p2), .val (.int p3), .val (.int p4), .val (.int p5), .val (.ref la), .val (.int m4), .val (.ref b5), .val (.int (0 : Int32))] []))
      refine own_go (S' := (T17.setTop (mkF m 117 #[.val (.int p1), .val (.int p2), .val (.int p3), .val (.int p4), .val (.int p5), .val (.ref la), .val (.int m4), .val (.ref b5), .val (.int ((0 : Int32) + (1 : Int32)))] []))) (fun t_ k_ => ?_) ?_
      · refine XS.iinc X17.here hx rfl (hb hby own_d12_114) rfl (l' := #[.val (.int p1), .val (.int p2), .val (.int p3), .val (.int p4), .val (.int p5), .val (.ref la), .val (.int m4), .val (.ref b5), .val (.int ((0 : Int32) + (1 : Int32)))]) rfl ?_
        show Steps p.tables e below (T17.setTop (mkF m 117 #[.val (.int p1), .val (.int p2), .val (.int p3), .val (.int p4), .val (.int p5), .val (.ref la), .val (.int m4), .val (.ref b5), .val (.int ((0 : Int32) + (1 : Int32)))] [])) _
        exact k_
      have q1 : m1 = ((0 : Int32) + (1 : Int32)) := by rw [em1, own_m1, own_inc, if_pos g1, if_pos g2]
      have q2 : w1 = ([0, 0, 0, 0] : List Int32).set ix.toNatClampNeg (own_id (0 : Int32) p2 p3 p4) := by rw [ew1, own_st, if_pos g1, if_pos g2, ← eix]
      have q := A1 T17 _ h17 X17 e17 N17 (Kc.wr W17 (Or.inr sb)) (by rw [q2]; exact (by rw [List.map_set]; exact V17)) (Ec.wr W17)
      first | (rw [q1] at q; exact q) | (rw [← q1]; exact q)
    · skip
      refine own_go (S' := (T5.setTop (mkF m 117 #[.val (.int p1), .val (.int p2), .val (.int p3), .val (.int p4), .val (.int p5), .val (.ref la), .val (.int m4), .val (.ref b5), .val (.int (0 : Int32))] []))) (fun t_ k_ => ?_) ?_
      · refine XS.icmpYes X5.here hx rfl (pc0 := 84) (pc' := 117) rfl (hb hby own_d12_84) rfl (feq g2).2 (by decide) (by decide) ?_
        show Steps p.tables e below (T5.setTop (mkF m 117 #[.val (.int p1), .val (.int p2), .val (.int p3), .val (.int p4), .val (.int p5), .val (.ref la), .val (.int m4), .val (.ref b5), .val (.int (0 : Int32))] [])) _
        exact k_
      have q1 : m1 = (0 : Int32) := by rw [em1, own_m1, own_inc, if_pos g1, if_neg g2]
      have q2 : w1 = [0, 0, 0, 0] := by rw [ew1, own_st, if_pos g1, if_neg g2]
      have q := A1 T5 _ _ X5 e5 N0 K0 (by rw [q2]; exact Va) Ex5
      first | (rw [q1] at q; exact q) | (rw [← q1]; exact q)
  · skip
    refine own_go (S' := (T5.setTop (mkF m 117 #[.val (.int p1), .val (.int p2), .val (.int p3), .val (.int p4), .val (.int p5), .val (.ref la), .val (.int m4), .val (.ref b5), .val (.int (0 : Int32))] []))) (fun t_ k_ => ?_) ?_
    · refine XS.ifYes X5.here hx rfl (pc0 := 76) (pc' := 117) rfl (hb hby own_d12_76) rfl ((if0 _ _).trans (flt g1).2.2.2) (by decide) (by decide) ?_
      show Steps p.tables e below (T5.setTop (mkF m 117 #[.val (.int p1), .val (.int p2), .val (.int p3), .val (.int p4), .val (.int p5), .val (.ref la), .val (.int m4), .val (.ref b5), .val (.int (0 : Int32))] [])) _
      exact k_
    have q1 : m1 = (0 : Int32) := by rw [em1, own_m1, own_inc, if_neg g1]
    have q2 : w1 = [0, 0, 0, 0] := by rw [ew1, own_st, if_neg g1]
    have q := A1 T5 _ _ X5 e5 N0 K0 (by rw [q2]; exact Va) Ex5
    first | (rw [q1] at q; exact q) | (rw [← q1]; exact q)
def own_k (n m1 m2 m3 : Int32) : Int32 := if n = (1 : Int32) then (1 : Int32) else if n = (2 : Int32) then (m1 + (1 : Int32)) else if n = (3 : Int32) then (m2 + (1 : Int32)) else if n = (4 : Int32) then (m3 + (1 : Int32)) else (0 : Int32)
def own_mx (a b : Int32) : Int32 := if a < b then b else a
def own_XS (kk : Nat) (n s rv ds l1 l2 l3 : Int32) : List (List Int32) := (List.range kk).map fun c => own_xs (Int32.ofNat c) n s rv ds 0 l1 l2 l3
def own_lab (l1 l2 l3 : Int32) : List Int32 := [0, l1, l2, l3]
def own_goodG (c : Nat) (n s rv ds l1 l2 l3 : Int32) : Bool :=
  decide (own_m4 (Int32.ofNat c) n 0 l1 l2 l3 = Int32.ofNat (own_xs (Int32.ofNat c) n s rv ds 0 l1 l2 l3).length) && decide ((own_xs (Int32.ofNat c) n s rv ds 0 l1 l2 l3).length ≤ 4) &&
    (List.range 4).all fun i => decide (i < (own_xs (Int32.ofNat c) n s rv ds 0 l1 l2 l3).length → (own_ws (Int32.ofNat c) n s rv ds 0 l1 l2 l3).getD i 0 = (own_xs (Int32.ofNat c) n s rv ds 0 l1 l2 l3).getD i 0)
def own_good (nn : Nat) (s rv ds l1 l2 l3 : Int32) : Bool :=
  let n := Int32.ofNat nn
  let k := own_k n l1 (own_mx l1 l2) (own_mx (own_mx l1 l2) l3)
  let kk := k.toNatClampNeg
  decide (k = Int32.ofNat kk) && decide (kk ≤ 4) && ((List.range kk).all fun c => own_goodG c n s rv ds l1 l2 l3) &&
    match own_run n (own_XS kk n s rv ds l1 l2 l3) 0 0 (List.replicate nn (-1 : Int32)) with
    | none => false
    | some cs => decide (cs.length = nn) && (List.range nn).all fun j => decide (¬ own_id (Int32.ofNat j) n s rv < 0) && decide ((own_id (Int32.ofNat j) n s rv).toNatClampNeg < nn) && decide (cs.getD (own_id (Int32.ofNat j) n s rv).toNatClampNeg 0 = (own_lab l1 l2 l3).getD j 0)
set_option maxRecDepth 65536 in
theorem own_allgood : ∀ nn ∈ List.range 5, ∀ s ∈ ([0, 1, 2, 3] : List Int32), ∀ l1 ∈ ([0, 1] : List Int32), ∀ l2 ∈ ([0, 1, 2] : List Int32), ∀ l3 ∈ ([0, 1, 2, 3] : List Int32), ∀ rv ∈ ([0, 1] : List Int32), ∀ ds ∈ ([0, 1] : List Int32),
    (nn = 0 ∧ s = 0 ∨ s < Int32.ofNat nn) → (¬ l1 + 1 < l2) → (¬ own_mx l1 l2 + 1 < l3) → own_good nn s rv ds l1 l2 l3 = true := by decide +kernel
theorem own_mem4 {s : Int32} (h0 : 0 ≤ s.toInt) (h1 : s.toInt ≤ 3) : s ∈ ([0, 1, 2, 3] : List Int32) := by
  have e0 : (0 : Int32).toInt = 0 := by decide
  have e1 : (1 : Int32).toInt = 1 := by decide
  have e2 : (2 : Int32).toInt = 2 := by decide
  have e3 : (3 : Int32).toInt = 3 := by decide
  simp only [List.mem_cons, List.not_mem_nil, or_false, ← Int32.toInt_inj, e0, e1, e2, e3]; omega
theorem own_mem3 {s : Int32} (h0 : 0 ≤ s.toInt) (h1 : s.toInt ≤ 2) : s ∈ ([0, 1, 2] : List Int32) := by
  have e0 : (0 : Int32).toInt = 0 := by decide
  have e1 : (1 : Int32).toInt = 1 := by decide
  have e2 : (2 : Int32).toInt = 2 := by decide
  simp only [List.mem_cons, List.not_mem_nil, or_false, ← Int32.toInt_inj, e0, e1, e2]; omega
theorem own_mem2 {s : Int32} (h0 : 0 ≤ s.toInt) (h1 : s.toInt ≤ 1) : s ∈ ([0, 1] : List Int32) := by
  have e0 : (0 : Int32).toInt = 0 := by decide
  have e1 : (1 : Int32).toInt = 1 := by decide
  simp only [List.mem_cons, List.not_mem_nil, or_false, ← Int32.toInt_inj, e0, e1]; omega
theorem own_rem (x y : Int32) (hy : 0 < y.toInt) : 0 ≤ ((x &&& (2147483647 : Int32)) % y).toInt ∧ ((x &&& (2147483647 : Int32)) % y).toInt < y.toInt := by
  have h := c_and x 2147483647 (by decide)
  have q := (c_iremV (x &&& (2147483647 : Int32)) y).1 h.1 hy
  exact ⟨q.1, q.2.1⟩
theorem own_plus {x : Int32} {k : Int32} {j : Int} (hk : k.toInt = j) (h : -100 ≤ x.toInt) (h' : x.toInt ≤ 100) (hj : -100 ≤ j ∧ j ≤ 100) : (x + k).toInt = x.toInt + j := by
  have h1 := c_iadd x k
  have r1 := rng32 (x + k)
  rw [hk] at h1
  omega
theorem own_ofNat {x : Int32} (h0 : 0 ≤ x.toInt) (h1 : x.toInt ≤ 4) : ∃ n : Nat, n ≤ 4 ∧ x = Int32.ofNat n := by
  refine ⟨x.toInt.toNat, by omega, ?_⟩
  rw [← Int32.toInt_inj, (own_nat (by omega)).1]; omega
theorem own_mxR (a b : Int32) : a.toInt ≤ (own_mx a b).toInt ∧ b.toInt ≤ (own_mx a b).toInt ∧ ((own_mx a b).toInt = a.toInt ∨ (own_mx a b).toInt = b.toInt) := by
  unfold own_mx
  by_cases h : a < b
  · rw [if_pos h]; rw [Int32.lt_iff_toInt_lt] at h; omega
  · rw [if_neg h]; rw [Int32.lt_iff_toInt_lt] at h; omega
theorem own_XSs {kk i : Nat} {n s rv ds l1 l2 l3 : Int32} (h : i < kk) : (own_XS kk n s rv ds l1 l2 l3).take (i + 1) = (own_XS kk n s rv ds l1 l2 l3).take i ++ [own_xs (Int32.ofNat i) n s rv ds 0 l1 l2 l3] := by
  rw [own_XS, List.take_add_one]; simp [h]
theorem own_XSe {kk i : Nat} {n s rv ds l1 l2 l3 : Int32} (h : kk ≤ i) : (own_XS kk n s rv ds l1 l2 l3).take i = own_XS kk n s rv ds l1 l2 l3 := by
  apply List.take_of_length_le; rw [own_XS]; simpa using h
theorem own_goodGs {c : Nat} {n s rv ds l1 l2 l3 : Int32} (h : own_goodG c n s rv ds l1 l2 l3 = true) : own_m4 (Int32.ofNat c) n 0 l1 l2 l3 = Int32.ofNat (own_xs (Int32.ofNat c) n s rv ds 0 l1 l2 l3).length ∧ (own_xs (Int32.ofNat c) n s rv ds 0 l1 l2 l3).length ≤ 4 ∧
    ∀ i, i < (own_xs (Int32.ofNat c) n s rv ds 0 l1 l2 l3).length → (own_ws (Int32.ofNat c) n s rv ds 0 l1 l2 l3).getD i 0 = (own_xs (Int32.ofNat c) n s rv ds 0 l1 l2 l3).getD i 0 := by
  simp only [own_goodG, Bool.and_eq_true, decide_eq_true_eq, List.all_eq_true, List.mem_range] at h
  obtain ⟨⟨h1, h2⟩, h3⟩ := h
  exact ⟨h1, h2, fun i hi => h3 i (by omega) hi⟩
theorem own_goods {nn : Nat} {s rv ds l1 l2 l3 : Int32} (h : own_good nn s rv ds l1 l2 l3 = true) : ∃ (kk : Nat) (cs : List Int32), own_k (Int32.ofNat nn) l1 (own_mx l1 l2) (own_mx (own_mx l1 l2) l3) = Int32.ofNat kk ∧ kk ≤ 4 ∧
    (∀ c, c < kk → own_goodG c (Int32.ofNat nn) s rv ds l1 l2 l3 = true) ∧ own_run (Int32.ofNat nn) (own_XS kk (Int32.ofNat nn) s rv ds l1 l2 l3) 0 0 (List.replicate nn (-1 : Int32)) = some cs ∧ cs.length = nn ∧
    ∀ j, j < nn → ¬ own_id (Int32.ofNat j) (Int32.ofNat nn) s rv < 0 ∧ (own_id (Int32.ofNat j) (Int32.ofNat nn) s rv).toNatClampNeg < nn ∧ cs.getD (own_id (Int32.ofNat j) (Int32.ofNat nn) s rv).toNatClampNeg 0 = (own_lab l1 l2 l3).getD j 0 := by
  simp only [own_good, Bool.and_eq_true, decide_eq_true_eq, List.all_eq_true, List.mem_range] at h
  obtain ⟨⟨⟨h1, h2⟩, h3⟩, h4⟩ := h
  split at h4
  · cases h4
  · rename_i cs hcs
    simp only [Bool.and_eq_true, decide_eq_true_eq, List.all_eq_true, List.mem_range] at h4
    exact ⟨_, cs, h1, h2, h3, hcs, h4.1, fun j hj => ⟨(h4.2 j hj).1.1, (h4.2 j hj).1.2, (h4.2 j hj).2⟩⟩
/-- the law's own list while it grows, with the labels' array beside it -/
def own_LL (Z : State) (n0 : Nat) (h : Heap) (lb : Addr) (kl : ClassId) (l1 l2 l3 : Int32) (al : Addr) (gs : List (Addr × List Int32)) : Prop :=
  Arv Z h lb kl .int 4 [.int 0, .int l1, .int l2, .int l3] (.int 0) ∧ Exa Z h al "java/util/ArrayList" ∧ lb ≠ al ∧ n0 ≤ al ∧ ∃ (ed : Addr) (ke : ClassId) (mc : Int32) (vs : List Value), Fld Z h al "java/util/ArrayList" "size" "I" (.int (Int32.ofNat gs.length)) ∧ Fld Z h al "java/util/ArrayList" "elementData" "[Ljava/lang/Object;" (.ref ed) ∧ Fld Z h al "java/util/AbstractList" "modCount" "I" (.int mc) ∧ Arv Z h ed ke (.object "java/lang/Object") 10 vs .null ∧ Ovr Z ke "java/lang/Object" ∧ vs.length = 10 ∧ gs.length ≤ 4 ∧
    al ≠ ed ∧ lb ≠ ed ∧ n0 ≤ ed ∧ (∀ g ∈ gs, own_Grp Z h g.1 g.2 ∧ g.1 ≠ al ∧ g.1 ≠ ed) ∧ ∀ i g, gs[i]? = some g → vs.getD i .null = .ref g.1
theorem own_LL.lst {Z : State} {n0 : Nat} {h : Heap} {lb : Addr} {kl : ClassId} {l1 l2 l3 : Int32} {al : Addr} {gs : List (Addr × List Int32)} (G : own_LL Z n0 h lb kl l1 l2 l3 al gs) : own_Lst Z h al gs := by
  obtain ⟨-, E, -, -, ed, ke, mc, vs, F1, F2, F3, V, O, hl, h4, -, -, -, A, r⟩ := G
  exact ⟨E, F1, h4, fun g hg => (A g hg).1, ed, ke, 10, vs, F2, V, fun i hi => (own_ltN (by omega) (by omega : (10 : Nat) ≤ 10)).mpr (by omega), r⟩
theorem own_GrpOf {Z : State} {h : Heap} {b : Addr} {kb : ClassId} {c : Nat} {n s rv ds l1 l2 l3 : Int32} (E : Exa Z h b "[I") (V : Arv Z h b kb .int (own_m4 (Int32.ofNat c) n 0 l1 l2 l3) ((own_ws (Int32.ofNat c) n s rv ds 0 l1 l2 l3).map Value.int) (.int 0)) (g : own_goodG c n s rv ds l1 l2 l3 = true) : own_Grp Z h b (own_xs (Int32.ofNat c) n s rv ds 0 l1 l2 l3) := by
  obtain ⟨g1, g2, g3⟩ := own_goodGs g
  rw [g1] at V
  exact ⟨E, kb, _, V, g2, fun i hi => by rw [own_mapD, g3 i hi]⟩
theorem own_Grp.keepN {Z : State} {h h' : Heap} {a : Addr} {xs : List Int32} {ws : List Addr} (G : own_Grp Z h a xs) (K : Keep h h' ws) (q : a ∉ ws) : own_Grp Z h' a xs := by
  obtain ⟨E, k, vs, V, r⟩ := G
  exact ⟨E.keep K, k, vs, V.keep K q, r⟩
theorem own_Grp.lt {Z : State} {h : Heap} {a : Addr} {xs : List Int32} (G : own_Grp Z h a xs) : a < h.size := G.1.lt
theorem own_zlt {gs : List (Addr × List Int32)} (h : gs.length ≤ 4) : ¬ Int32.ofNat gs.length < 0 ∧ Int32.ofNat gs.length < 10 := ⟨(own_nat (by omega)).2.2.1, (own_ltN (by omega) (by omega : (10 : Nat) ≤ 10)).mpr (by omega)⟩
theorem own_getS {vs : List Value} {i j : Nat} {v : Value} (hj : j < vs.length) : (vs.set j v).getD i .null = if i = j then v else vs.getD i .null := by
  simp only [List.getD_eq_getElem?_getD, List.getElem?_set]
  by_cases q : j = i
  · subst q; simp [hj]
  · simp [q, Ne.symm q]
theorem own_gsI {gs : List (Addr × List Int32)} {x g : Addr × List Int32} {i : Nat} (h : (gs ++ [x])[i]? = some g) : (i < gs.length ∧ gs[i]? = some g) ∨ (i = gs.length ∧ g = x) := by
  by_cases q : i < gs.length
  · rw [List.getElem?_append_left q] at h; exact Or.inl ⟨q, h⟩
  · rw [List.getElem?_append_right (by omega)] at h
    by_cases q2 : i = gs.length
    · subst q2; simp at h; exact Or.inr ⟨rfl, h.symm⟩
    · have : 1 ≤ i - gs.length := by omega
      rw [List.getElem?_eq_none (by simpa using this)] at h; cases h
/-- one array more -/
theorem own_LL.add {Z : State} {n0 : Nat} {h h1 h2 : Heap} {lb : Addr} {kl : ClassId} {l1 l2 l3 : Int32} {al b : Addr} {gs : List (Addr × List Int32)} {xs : List Int32} {ed : Addr} {ke : ClassId} {mc' : Int32} {vs : List Value}
    (VL : Arv Z h lb kl .int 4 [.int 0, .int l1, .int l2, .int l3] (.int 0)) (E : Exa Z h al "java/util/ArrayList") (n1 : lb ≠ al) (na : n0 ≤ al) (V : Arv Z h ed ke (.object "java/lang/Object") 10 vs .null) (O : Ovr Z ke "java/lang/Object") (hl : vs.length = 10) (h4 : gs.length < 4) (ne : al ≠ ed) (nl : lb ≠ ed) (ge : n0 ≤ ed)
    (A : ∀ g ∈ gs, own_Grp Z h g.1 g.2 ∧ g.1 ≠ al ∧ g.1 ≠ ed) (r : ∀ i g, gs[i]? = some g → vs.getD i .null = .ref g.1)
    (K1 : Keep h h1 []) (hb : h.size ≤ b) (G : own_Grp Z h1 b xs) (K2 : Keep h1 h2 [al, ed])
    (V2 : Arv Z h2 ed ke (.object "java/lang/Object") 10 (vs.set (Int32.ofNat gs.length).toNatClampNeg (.ref b)) .null) (E2 : Exa Z h2 al "java/util/ArrayList") (f1 : Fld Z h2 al "java/util/ArrayList" "size" "I" (.int (Int32.ofNat gs.length + 1))) (f2 : Fld Z h2 al "java/util/ArrayList" "elementData" "[Ljava/lang/Object;" (.ref ed)) (f3 : Fld Z h2 al "java/util/AbstractList" "modCount" "I" (.int mc')) : own_LL Z n0 h2 lb kl l1 l2 l3 al (gs ++ [(b, xs)]) := by
  rw [(own_nat (by omega)).2.1] at V2
  rw [(own_nat (by omega)).2.2.2] at f1
  have nb1 : b ≠ al := Nat.ne_of_gt (Nat.lt_of_lt_of_le E.lt hb)
  have nb2 : b ≠ ed := Nat.ne_of_gt (Nat.lt_of_lt_of_le V.lt hb)
  refine ⟨(VL.keep K1 nin0).keep K2 (ninS n1 (ninS nl nin0)), E2, n1, na, ed, ke, mc', _, by simpa using f1, f2, f3, V2, O, by simpa using hl, by simp; omega, ne, nl, ge, fun g hg => ?_, fun i g hi => ?_⟩
  · rcases List.mem_append.mp hg with hg | hg
    · obtain ⟨a1, a2, a3⟩ := A g hg
      exact ⟨(a1.keepN K1 nin0).keepN K2 (ninS a2 (ninS a3 nin0)), a2, a3⟩
    · cases List.mem_singleton.mp hg
      exact ⟨G.keepN K2 (ninS nb1 (ninS nb2 nin0)), nb1, nb2⟩
  · rw [own_getS (by omega)]
    rcases own_gsI hi with ⟨q1, q2⟩ | ⟨q1, q2⟩
    · rw [if_neg (by omega)]; exact r i g q2
    · rw [if_pos q1, q2]
theorem own_pd10 : parseMethodDescriptor "(ILjava/util/List;)Lcom/example/anonutils/anonutils/Clustering;" = some ⟨[.int, (.object "java/util/List")], some (.object "com/example/anonutils/anonutils/Clustering")⟩ := by decide +kernel
theorem own_pd11 : parseMethodDescriptor "(I)I" = some ⟨[.int], some .int⟩ := by decide +kernel
theorem own_pd12 : parseMethodDescriptor "(IIIZZ[I)[I" = some ⟨[.int, .int, .int, .boolean, .boolean, (.array .int)], some (.array .int)⟩ := by decide +kernel
theorem own_pd13 : parseMethodDescriptor "(Ljava/lang/Object;)Z" = some ⟨[(.object "java/lang/Object")], some .boolean⟩ := by decide +kernel
theorem own_c0_ef (m : MethodId) (x0 : Int32) (x1 : Int32) (x2 : Int32) (x3 : Int32) (x4 : Int32) (x5 : Int32) : entryFrame m #[(.int x0), (.int x1), (.int x2), (.int x3), (.int x4), (.int x5)] maxLocals = mkF m 0 #[.val (.int x0), .val (.int x1), .val (.int x2), .val (.int x3), .val (.int x4), .val (.int x5), .unset, .unset, .unset, .unset, .unset, .unset, .unset, .unset, .unset, .unset, .unset, .unset, .unset, .unset, .unset] [] := by first | (simp [entryFrame, mkF, argsToLocals, Value.category, maxLocals]; done) | rfl
set_option maxRecDepth 65536 in
set_option maxHeartbeats 40000000 in
theorem own_c0 (l : Launch) (Z : State) (a0 : Array Value) (hw : ∀ d ∈ tables_1, d.before a0 Z = true) (wsC : List Jvm.Cond) (p1 p2 p3 p4 p5 p6 : Int32) (de : Addr) (kd : ClassId) (h0 : Heap) (n0 : Nat) (Z0 : n0 ≤ h0.size) (S : Sta Z h0 "java/util/ArrayList" "DEFAULTCAPACITY_EMPTY_ELEMENTDATA" "[Ljava/lang/Object;" (.ref de)) (VD : Arv Z h0 de kd (.object "java/lang/Object") 0 [] .null) :
    own_Ctr l Z x code maxLocals ret wsC room_1 h0 #[(.int p1), (.int p2), (.int p3), (.int p4), (.int p5), (.int p6)] (fun v h L => v = some (.int 1) ∧ Fr n0 L) := by
  refine own_ctr (plainFor_of_name own_pn7) ?_
  intro p e s m below meth c s₁ Bd hml0 hx hby hZ hown0 X0 e0
  have hml : c.maxLocals = 21 := hml0
  have hown : s.vm.findClass "com/example/anonutils/anonutils/ClusteringOfPinLaw" = some m.cls := hown0
  have hnm := (name_of_methodNamed Bd.named Bd.method).1
  have N0 := Fr.nil n0
  refine own_cast (own_c0_ef m p1 p2 p3 p4 p5 p6) ?_
  have y0_ : (0 : Int32).toInt = 0 := by decide
  have y1_ : (1 : Int32).toInt = 1 := by decide
  have y2_ : (2 : Int32).toInt = 2 := by decide
  have y5_ : (5 : Int32).toInt = 5 := by decide
  have rn := own_rem p1 5 (by decide)
  have rl1 := c_mask p3 1 1 (by decide) (by decide)
  have hs1 : ((p3 &&& (1 : Int32)) + (2 : Int32)).toInt = (p3 &&& (1 : Int32)).toInt + 2 := own_plus y2_ (by omega) (by omega) (by omega)
  have hz1 : ¬ ((p3 &&& (1 : Int32)) + (2 : Int32)) = (0 : Int32) := fun q => by rw [q, y0_] at hs1; omega
  have rl2 := own_rem p4 ((p3 &&& (1 : Int32)) + (2 : Int32)) (by omega)
  refine own_go (S' := (s₁.setTop (mkF m 32 #[.val (.int p1), .val (.int p2), .val (.int p3), .val (.int p4), .val (.int p5), .val (.int p6), .val (.int ((p1 &&& (2147483647 : Int32)) % (5 : Int32))), .val (.int (p3 &&& (1 : Int32))), .val (.int (p3 &&& (1 : Int32))), .val (.int ((p4 &&& (2147483647 : Int32)) % ((p3 &&& (1 : Int32)) + (2 : Int32)))), .unset, .unset, .unset, .unset, .unset, .unset, .unset, .unset, .unset, .unset, .unset] [(.int ((p4 &&& (2147483647 : Int32)) % ((p3 &&& (1 : Int32)) + (2 : Int32)))), (.int (p3 &&& (1 : Int32)))]))) (fun t_ k_ => ?_) ?_
  · refine XS.iloadN X0.here hx rfl (hb hby at_0) rfl ?_
    show Steps p.tables e below (s₁.setTop (mkF m 1 #[.val (.int p1), .val (.int p2), .val (.int p3), .val (.int p4), .val (.int p5), .val (.int p6), .unset, .unset, .unset, .unset, .unset, .unset, .unset, .unset, .unset, .unset, .unset, .unset, .unset, .unset, .unset] [(.int p1)])) _
    refine X0.ldcInt hx hown (mvT hZ (hw _ (List.mem_of_getElem? (i := 0) rfl))) (g := (mkF m 1 #[.val (.int p1), .val (.int p2), .val (.int p3), .val (.int p4), .val (.int p5), .val (.int p6), .unset, .unset, .unset, .unset, .unset, .unset, .unset, .unset, .unset, .unset, .unset, .unset, .unset, .unset, .unset] [(.int p1)])) rfl (hb hby at_1) _ ?_
    show Steps p.tables e below (s₁.setTop (mkF m 3 #[.val (.int p1), .val (.int p2), .val (.int p3), .val (.int p4), .val (.int p5), .val (.int p6), .unset, .unset, .unset, .unset, .unset, .unset, .unset, .unset, .unset, .unset, .unset, .unset, .unset, .unset, .unset] [(.int (2147483647 : Int32)), (.int p1)])) _
    refine XS.iand X0.here hx rfl (hb hby at_3) rfl ?_
    show Steps p.tables e below (s₁.setTop (mkF m 4 #[.val (.int p1), .val (.int p2), .val (.int p3), .val (.int p4), .val (.int p5), .val (.int p6), .unset, .unset, .unset, .unset, .unset, .unset, .unset, .unset, .unset, .unset, .unset, .unset, .unset, .unset, .unset] [(.int (p1 &&& (2147483647 : Int32)))])) _
    refine XS.iconst X0.here hx rfl (hb hby at_4) ?_
    show Steps p.tables e below (s₁.setTop (mkF m 5 #[.val (.int p1), .val (.int p2), .val (.int p3), .val (.int p4), .val (.int p5), .val (.int p6), .unset, .unset, .unset, .unset, .unset, .unset, .unset, .unset, .unset, .unset, .unset, .unset, .unset, .unset, .unset] [(.int (5 : Int32)), (.int (p1 &&& (2147483647 : Int32)))])) _
    refine iremM X0 hx rfl (hb hby at_5) rfl (by decide) ?_
    show Steps p.tables e below (s₁.setTop (mkF m 6 #[.val (.int p1), .val (.int p2), .val (.int p3), .val (.int p4), .val (.int p5), .val (.int p6), .unset, .unset, .unset, .unset, .unset, .unset, .unset, .unset, .unset, .unset, .unset, .unset, .unset, .unset, .unset] [(.int ((p1 &&& (2147483647 : Int32)) % (5 : Int32)))])) _
    refine XS.istore X0.here hx rfl (hb hby at_6) rfl (l' := #[.val (.int p1), .val (.int p2), .val (.int p3), .val (.int p4), .val (.int p5), .val (.int p6), .val (.int ((p1 &&& (2147483647 : Int32)) % (5 : Int32))), .unset, .unset, .unset, .unset, .unset, .unset, .unset, .unset, .unset, .unset, .unset, .unset, .unset, .unset]) rfl ?_
    show Steps p.tables e below (s₁.setTop (mkF m 8 #[.val (.int p1), .val (.int p2), .val (.int p3), .val (.int p4), .val (.int p5), .val (.int p6), .val (.int ((p1 &&& (2147483647 : Int32)) % (5 : Int32))), .unset, .unset, .unset, .unset, .unset, .unset, .unset, .unset, .unset, .unset, .unset, .unset, .unset, .unset] [])) _
    refine XS.iloadN X0.here hx rfl (hb hby at_8) rfl ?_
    show Steps p.tables e below (s₁.setTop (mkF m 9 #[.val (.int p1), .val (.int p2), .val (.int p3), .val (.int p4), .val (.int p5), .val (.int p6), .val (.int ((p1 &&& (2147483647 : Int32)) % (5 : Int32))), .unset, .unset, .unset, .unset, .unset, .unset, .unset, .unset, .unset, .unset, .unset, .unset, .unset, .unset] [(.int p3)])) _
    refine XS.iconst X0.here hx rfl (hb hby at_9) ?_
    show Steps p.tables e below (s₁.setTop (mkF m 10 #[.val (.int p1), .val (.int p2), .val (.int p3), .val (.int p4), .val (.int p5), .val (.int p6), .val (.int ((p1 &&& (2147483647 : Int32)) % (5 : Int32))), .unset, .unset, .unset, .unset, .unset, .unset, .unset, .unset, .unset, .unset, .unset, .unset, .unset, .unset] [(.int (1 : Int32)), (.int p3)])) _
    refine XS.iand X0.here hx rfl (hb hby at_10) rfl ?_
    show Steps p.tables e below (s₁.setTop (mkF m 11 #[.val (.int p1), .val (.int p2), .val (.int p3), .val (.int p4), .val (.int p5), .val (.int p6), .val (.int ((p1 &&& (2147483647 : Int32)) % (5 : Int32))), .unset, .unset, .unset, .unset, .unset, .unset, .unset, .unset, .unset, .unset, .unset, .unset, .unset, .unset] [(.int (p3 &&& (1 : Int32)))])) _
    refine XS.istore X0.here hx rfl (hb hby at_11) rfl (l' := #[.val (.int p1), .val (.int p2), .val (.int p3), .val (.int p4), .val (.int p5), .val (.int p6), .val (.int ((p1 &&& (2147483647 : Int32)) % (5 : Int32))), .val (.int (p3 &&& (1 : Int32))), .unset, .unset, .unset, .unset, .unset, .unset, .unset, .unset, .unset, .unset, .unset, .unset, .unset]) rfl ?_
    show Steps p.tables e below (s₁.setTop (mkF m 13 #[.val (.int p1), .val (.int p2), .val (.int p3), .val (.int p4), .val (.int p5), .val (.int p6), .val (.int ((p1 &&& (2147483647 : Int32)) % (5 : Int32))), .val (.int (p3 &&& (1 : Int32))), .unset, .unset, .unset, .unset, .unset, .unset, .unset, .unset, .unset, .unset, .unset, .unset, .unset] [])) _
    refine XS.iload X0.here hx rfl (hb hby at_13) rfl ?_
    show Steps p.tables e below (s₁.setTop (mkF m 15 #[.val (.int p1), .val (.int p2), .val (.int p3), .val (.int p4), .val (.int p5), .val (.int p6), .val (.int ((p1 &&& (2147483647 : Int32)) % (5 : Int32))), .val (.int (p3 &&& (1 : Int32))), .unset, .unset, .unset, .unset, .unset, .unset, .unset, .unset, .unset, .unset, .unset, .unset, .unset] [(.int (p3 &&& (1 : Int32)))])) _
    refine XS.istore X0.here hx rfl (hb hby at_15) rfl (l' := #[.val (.int p1), .val (.int p2), .val (.int p3), .val (.int p4), .val (.int p5), .val (.int p6), .val (.int ((p1 &&& (2147483647 : Int32)) % (5 : Int32))), .val (.int (p3 &&& (1 : Int32))), .val (.int (p3 &&& (1 : Int32))), .unset, .unset, .unset, .unset, .unset, .unset, .unset, .unset, .unset, .unset, .unset, .unset]) rfl ?_
    show Steps p.tables e below (s₁.setTop (mkF m 17 #[.val (.int p1), .val (.int p2), .val (.int p3), .val (.int p4), .val (.int p5), .val (.int p6), .val (.int ((p1 &&& (2147483647 : Int32)) % (5 : Int32))), .val (.int (p3 &&& (1 : Int32))), .val (.int (p3 &&& (1 : Int32))), .unset, .unset, .unset, .unset, .unset, .unset, .unset, .unset, .unset, .unset, .unset, .unset] [])) _
    refine XS.iloadN X0.here hx rfl (hb hby at_17) rfl ?_
    show Steps p.tables e below (s₁.setTop (mkF m 18 #[.val (.int p1), .val (.int p2), .val (.int p3), .val (.int p4), .val (.int p5), .val (.int p6), .val (.int ((p1 &&& (2147483647 : Int32)) % (5 : Int32))), .val (.int (p3 &&& (1 : Int32))), .val (.int (p3 &&& (1 : Int32))), .unset, .unset, .unset, .unset, .unset, .unset, .unset, .unset, .unset, .unset, .unset, .unset] [(.int p4)])) _
    refine X0.ldcInt hx hown (mvT hZ (hw _ (List.mem_of_getElem? (i := 0) rfl))) (g := (mkF m 18 #[.val (.int p1), .val (.int p2), .val (.int p3), .val (.int p4), .val (.int p5), .val (.int p6), .val (.int ((p1 &&& (2147483647 : Int32)) % (5 : Int32))), .val (.int (p3 &&& (1 : Int32))), .val (.int (p3 &&& (1 : Int32))), .unset, .unset, .unset, .unset, .unset, .unset, .unset, .unset, .unset, .unset, .unset, .unset] [(.int p4)])) rfl (hb hby at_18) _ ?_
    show Steps p.tables e below (s₁.setTop (mkF m 20 #[.val (.int p1), .val (.int p2), .val (.int p3), .val (.int p4), .val (.int p5), .val (.int p6), .val (.int ((p1 &&& (2147483647 : Int32)) % (5 : Int32))), .val (.int (p3 &&& (1 : Int32))), .val (.int (p3 &&& (1 : Int32))), .unset, .unset, .unset, .unset, .unset, .unset, .unset, .unset, .unset, .unset, .unset, .unset] [(.int (2147483647 : Int32)), (.int p4)])) _
    refine XS.iand X0.here hx rfl (hb hby at_20) rfl ?_
    show Steps p.tables e below (s₁.setTop (mkF m 21 #[.val (.int p1), .val (.int p2), .val (.int p3), .val (.int p4), .val (.int p5), .val (.int p6), .val (.int ((p1 &&& (2147483647 : Int32)) % (5 : Int32))), .val (.int (p3 &&& (1 : Int32))), .val (.int (p3 &&& (1 : Int32))), .unset, .unset, .unset, .unset, .unset, .unset, .unset, .unset, .unset, .unset, .unset, .unset] [(.int (p4 &&& (2147483647 : Int32)))])) _
    refine XS.iload X0.here hx rfl (hb hby at_21) rfl ?_
    show Steps p.tables e below (s₁.setTop (mkF m 23 #[.val (.int p1), .val (.int p2), .val (.int p3), .val (.int p4), .val (.int p5), .val (.int p6), .val (.int ((p1 &&& (2147483647 : Int32)) % (5 : Int32))), .val (.int (p3 &&& (1 : Int32))), .val (.int (p3 &&& (1 : Int32))), .unset, .unset, .unset, .unset, .unset, .unset, .unset, .unset, .unset, .unset, .unset, .unset] [(.int (p3 &&& (1 : Int32))), (.int (p4 &&& (2147483647 : Int32)))])) _
    refine XS.iconst X0.here hx rfl (hb hby at_23) ?_
    show Steps p.tables e below (s₁.setTop (mkF m 24 #[.val (.int p1), .val (.int p2), .val (.int p3), .val (.int p4), .val (.int p5), .val (.int p6), .val (.int ((p1 &&& (2147483647 : Int32)) % (5 : Int32))), .val (.int (p3 &&& (1 : Int32))), .val (.int (p3 &&& (1 : Int32))), .unset, .unset, .unset, .unset, .unset, .unset, .unset, .unset, .unset, .unset, .unset, .unset] [(.int (2 : Int32)), (.int (p3 &&& (1 : Int32))), (.int (p4 &&& (2147483647 : Int32)))])) _
    refine XS.iadd X0.here hx rfl (hb hby at_24) rfl ?_
    show Steps p.tables e below (s₁.setTop (mkF m 25 #[.val (.int p1), .val (.int p2), .val (.int p3), .val (.int p4), .val (.int p5), .val (.int p6), .val (.int ((p1 &&& (2147483647 : Int32)) % (5 : Int32))), .val (.int (p3 &&& (1 : Int32))), .val (.int (p3 &&& (1 : Int32))), .unset, .unset, .unset, .unset, .unset, .unset, .unset, .unset, .unset, .unset, .unset, .unset] [(.int ((p3 &&& (1 : Int32)) + (2 : Int32))), (.int (p4 &&& (2147483647 : Int32)))])) _
    refine iremM X0 hx rfl (hb hby at_25) rfl hz1 ?_
    show Steps p.tables e below (s₁.setTop (mkF m 26 #[.val (.int p1), .val (.int p2), .val (.int p3), .val (.int p4), .val (.int p5), .val (.int p6), .val (.int ((p1 &&& (2147483647 : Int32)) % (5 : Int32))), .val (.int (p3 &&& (1 : Int32))), .val (.int (p3 &&& (1 : Int32))), .unset, .unset, .unset, .unset, .unset, .unset, .unset, .unset, .unset, .unset, .unset, .unset] [(.int ((p4 &&& (2147483647 : Int32)) % ((p3 &&& (1 : Int32)) + (2 : Int32))))])) _
    refine XS.istore X0.here hx rfl (hb hby at_26) rfl (l' := #[.val (.int p1), .val (.int p2), .val (.int p3), .val (.int p4), .val (.int p5), .val (.int p6), .val (.int ((p1 &&& (2147483647 : Int32)) % (5 : Int32))), .val (.int (p3 &&& (1 : Int32))), .val (.int (p3 &&& (1 : Int32))), .val (.int ((p4 &&& (2147483647 : Int32)) % ((p3 &&& (1 : Int32)) + (2 : Int32)))), .unset, .unset, .unset, .unset, .unset, .unset, .unset, .unset, .unset, .unset, .unset]) rfl ?_
    show Steps p.tables e below (s₁.setTop (mkF m 28 #[.val (.int p1), .val (.int p2), .val (.int p3), .val (.int p4), .val (.int p5), .val (.int p6), .val (.int ((p1 &&& (2147483647 : Int32)) % (5 : Int32))), .val (.int (p3 &&& (1 : Int32))), .val (.int (p3 &&& (1 : Int32))), .val (.int ((p4 &&& (2147483647 : Int32)) % ((p3 &&& (1 : Int32)) + (2 : Int32)))), .unset, .unset, .unset, .unset, .unset, .unset, .unset, .unset, .unset, .unset, .unset] [])) _
    refine XS.iload X0.here hx rfl (hb hby at_28) rfl ?_
    show Steps p.tables e below (s₁.setTop (mkF m 30 #[.val (.int p1), .val (.int p2), .val (.int p3), .val (.int p4), .val (.int p5), .val (.int p6), .val (.int ((p1 &&& (2147483647 : Int32)) % (5 : Int32))), .val (.int (p3 &&& (1 : Int32))), .val (.int (p3 &&& (1 : Int32))), .val (.int ((p4 &&& (2147483647 : Int32)) % ((p3 &&& (1 : Int32)) + (2 : Int32)))), .unset, .unset, .unset, .unset, .unset, .unset, .unset, .unset, .unset, .unset, .unset] [(.int (p3 &&& (1 : Int32)))])) _
    refine XS.iload X0.here hx rfl (hb hby at_30) rfl ?_
    show Steps p.tables e below (s₁.setTop (mkF m 32 #[.val (.int p1), .val (.int p2), .val (.int p3), .val (.int p4), .val (.int p5), .val (.int p6), .val (.int ((p1 &&& (2147483647 : Int32)) % (5 : Int32))), .val (.int (p3 &&& (1 : Int32))), .val (.int (p3 &&& (1 : Int32))), .val (.int ((p4 &&& (2147483647 : Int32)) % ((p3 &&& (1 : Int32)) + (2 : Int32)))), .unset, .unset, .unset, .unset, .unset, .unset, .unset, .unset, .unset, .unset, .unset] [(.int ((p4 &&& (2147483647 : Int32)) % ((p3 &&& (1 : Int32)) + (2 : Int32)))), (.int (p3 &&& (1 : Int32)))])) _
    exact k_
  generalize ((p1 &&& (2147483647 : Int32)) % (5 : Int32)) = nI at *
  show own_Rch p e below _ (s₁.setTop (mkF m 32 #[.val (.int p1), .val (.int p2), .val (.int p3), .val (.int p4), .val (.int p5), .val (.int p6), .val (.int nI), .val (.int (p3 &&& (1 : Int32))), .val (.int (p3 &&& (1 : Int32))), .val (.int ((p4 &&& (2147483647 : Int32)) % ((p3 &&& (1 : Int32)) + (2 : Int32)))), .unset, .unset, .unset, .unset, .unset, .unset, .unset, .unset, .unset, .unset, .unset] [(.int ((p4 &&& (2147483647 : Int32)) % ((p3 &&& (1 : Int32)) + (2 : Int32)))), (.int (p3 &&& (1 : Int32)))]))
  generalize ((p4 &&& (2147483647 : Int32)) % ((p3 &&& (1 : Int32)) + (2 : Int32))) = l2 at *
  show own_Rch p e below _ (s₁.setTop (mkF m 32 #[.val (.int p1), .val (.int p2), .val (.int p3), .val (.int p4), .val (.int p5), .val (.int p6), .val (.int nI), .val (.int (p3 &&& (1 : Int32))), .val (.int (p3 &&& (1 : Int32))), .val (.int l2), .unset, .unset, .unset, .unset, .unset, .unset, .unset, .unset, .unset, .unset, .unset] [(.int l2), (.int (p3 &&& (1 : Int32)))]))
  generalize (p3 &&& (1 : Int32)) = l1 at *
  show own_Rch p e below _ (s₁.setTop (mkF m 32 #[.val (.int p1), .val (.int p2), .val (.int p3), .val (.int p4), .val (.int p5), .val (.int p6), .val (.int nI), .val (.int l1), .val (.int l1), .val (.int l2), .unset, .unset, .unset, .unset, .unset, .unset, .unset, .unset, .unset, .unset, .unset] [(.int l2), (.int l1)]))
  obtain ⟨_, T1, L1, X1, ⟨rfl, N1q, k1⟩, st1⟩ := own_callS X0 hx hZ (y := (⟨"java/lang/Math", "max", "(II)I"⟩ : MethodName)) hown (hw _ (List.mem_of_getElem? (i := 1) rfl)) (hw _ (List.mem_of_getElem? (i := 2) rfl)) (hw _ (List.mem_of_getElem? (i := 3) rfl)) (hw _ (List.mem_of_getElem? (i := 4) rfl)) (by decide) (own_c1 l Z a0 hw [] l1 l2 (own_mx l1 l2) h0 n0 Z0 rfl) e0 (W := 0) (by decide) (by decide) (g := (mkF m 32 #[.val (.int p1), .val (.int p2), .val (.int p3), .val (.int p4), .val (.int p5), .val (.int p6), .val (.int nI), .val (.int l1), .val (.int l1), .val (.int l2), .unset, .unset, .unset, .unset, .unset, .unset, .unset, .unset, .unset, .unset, .unset] [(.int l2), (.int l1)])) rfl (by rw [hml]; rfl) (argsL := [(.int l1), (.int l2)]) (rest := []) (lenOf own_pd1 rfl) rfl rfl rfl (hb hby at_32) (by decide) (by decide)
  have N1 := Fr.app N0 N1q
  refine own_go st1 ?_
  show own_Rch p e below _ (T1.setTop (mkF m 35 #[.val (.int p1), .val (.int p2), .val (.int p3), .val (.int p4), .val (.int p5), .val (.int p6), .val (.int nI), .val (.int l1), .val (.int l1), .val (.int l2), .unset, .unset, .unset, .unset, .unset, .unset, .unset, .unset, .unset, .unset, .unset] [(.int (own_mx l1 l2))]))
  have rm2 := own_mxR l1 l2
  have hs2 : (own_mx l1 l2 + (2 : Int32)).toInt = (own_mx l1 l2).toInt + 2 := own_plus y2_ (by omega) (by omega) (by omega)
  have hz2 : ¬ ((own_mx l1 l2) + (2 : Int32)) = (0 : Int32) := fun q => by rw [q, y0_] at hs2; omega
  have rl3 := own_rem p5 ((own_mx l1 l2) + (2 : Int32)) (by omega)
  refine own_go (S' := (T1.setTop (mkF m 53 #[.val (.int p1), .val (.int p2), .val (.int p3), .val (.int p4), .val (.int p5), .val (.int p6), .val (.int nI), .val (.int l1), .val (.int l1), .val (.int l2), .val (.int (own_mx l1 l2)), .val (.int ((p5 &&& (2147483647 : Int32)) % ((own_mx l1 l2) + (2 : Int32)))), .unset, .unset, .unset, .unset, .unset, .unset, .unset, .unset, .unset] [(.int ((p5 &&& (2147483647 : Int32)) % ((own_mx l1 l2) + (2 : Int32)))), (.int (own_mx l1 l2))]))) (fun t_ k_ => ?_) ?_
  · refine XS.istore X1.here hx rfl (hb hby at_35) rfl (l' := #[.val (.int p1), .val (.int p2), .val (.int p3), .val (.int p4), .val (.int p5), .val (.int p6), .val (.int nI), .val (.int l1), .val (.int l1), .val (.int l2), .val (.int (own_mx l1 l2)), .unset, .unset, .unset, .unset, .unset, .unset, .unset, .unset, .unset, .unset]) rfl ?_
    show Steps p.tables e below (T1.setTop (mkF m 37 #[.val (.int p1), .val (.int p2), .val (.int p3), .val (.int p4), .val (.int p5), .val (.int p6), .val (.int nI), .val (.int l1), .val (.int l1), .val (.int l2), .val (.int (own_mx l1 l2)), .unset, .unset, .unset, .unset, .unset, .unset, .unset, .unset, .unset, .unset] [])) _
    refine XS.iload X1.here hx rfl (hb hby at_37) rfl ?_
    show Steps p.tables e below (T1.setTop (mkF m 39 #[.val (.int p1), .val (.int p2), .val (.int p3), .val (.int p4), .val (.int p5), .val (.int p6), .val (.int nI), .val (.int l1), .val (.int l1), .val (.int l2), .val (.int (own_mx l1 l2)), .unset, .unset, .unset, .unset, .unset, .unset, .unset, .unset, .unset, .unset] [(.int p5)])) _
    refine X1.ldcInt hx hown (mvT hZ (hw _ (List.mem_of_getElem? (i := 0) rfl))) (g := (mkF m 39 #[.val (.int p1), .val (.int p2), .val (.int p3), .val (.int p4), .val (.int p5), .val (.int p6), .val (.int nI), .val (.int l1), .val (.int l1), .val (.int l2), .val (.int (own_mx l1 l2)), .unset, .unset, .unset, .unset, .unset, .unset, .unset, .unset, .unset, .unset] [(.int p5)])) rfl (hb hby at_39) _ ?_
    show Steps p.tables e below (T1.setTop (mkF m 41 #[.val (.int p1), .val (.int p2), .val (.int p3), .val (.int p4), .val (.int p5), .val (.int p6), .val (.int nI), .val (.int l1), .val (.int l1), .val (.int l2), .val (.int (own_mx l1 l2)), .unset, .unset, .unset, .unset, .unset, .unset, .unset, .unset, .unset, .unset] [(.int (2147483647 : Int32)), (.int p5)])) _
    refine XS.iand X1.here hx rfl (hb hby at_41) rfl ?_
    show Steps p.tables e below (T1.setTop (mkF m 42 #[.val (.int p1), .val (.int p2), .val (.int p3), .val (.int p4), .val (.int p5), .val (.int p6), .val (.int nI), .val (.int l1), .val (.int l1), .val (.int l2), .val (.int (own_mx l1 l2)), .unset, .unset, .unset, .unset, .unset, .unset, .unset, .unset, .unset, .unset] [(.int (p5 &&& (2147483647 : Int32)))])) _
    refine XS.iload X1.here hx rfl (hb hby at_42) rfl ?_
    show Steps p.tables e below (T1.setTop (mkF m 44 #[.val (.int p1), .val (.int p2), .val (.int p3), .val (.int p4), .val (.int p5), .val (.int p6), .val (.int nI), .val (.int l1), .val (.int l1), .val (.int l2), .val (.int (own_mx l1 l2)), .unset, .unset, .unset, .unset, .unset, .unset, .unset, .unset, .unset, .unset] [(.int (own_mx l1 l2)), (.int (p5 &&& (2147483647 : Int32)))])) _
    refine XS.iconst X1.here hx rfl (hb hby at_44) ?_
    show Steps p.tables e below (T1.setTop (mkF m 45 #[.val (.int p1), .val (.int p2), .val (.int p3), .val (.int p4), .val (.int p5), .val (.int p6), .val (.int nI), .val (.int l1), .val (.int l1), .val (.int l2), .val (.int (own_mx l1 l2)), .unset, .unset, .unset, .unset, .unset, .unset, .unset, .unset, .unset, .unset] [(.int (2 : Int32)), (.int (own_mx l1 l2)), (.int (p5 &&& (2147483647 : Int32)))])) _
    refine XS.iadd X1.here hx rfl (hb hby at_45) rfl ?_
    show Steps p.tables e below (T1.setTop (mkF m 46 #[.val (.int p1), .val (.int p2), .val (.int p3), .val (.int p4), .val (.int p5), .val (.int p6), .val (.int nI), .val (.int l1), .val (.int l1), .val (.int l2), .val (.int (own_mx l1 l2)), .unset, .unset, .unset, .unset, .unset, .unset, .unset, .unset, .unset, .unset] [(.int ((own_mx l1 l2) + (2 : Int32))), (.int (p5 &&& (2147483647 : Int32)))])) _
    refine iremM X1 hx rfl (hb hby at_46) rfl hz2 ?_
    show Steps p.tables e below (T1.setTop (mkF m 47 #[.val (.int p1), .val (.int p2), .val (.int p3), .val (.int p4), .val (.int p5), .val (.int p6), .val (.int nI), .val (.int l1), .val (.int l1), .val (.int l2), .val (.int (own_mx l1 l2)), .unset, .unset, .unset, .unset, .unset, .unset, .unset, .unset, .unset, .unset] [(.int ((p5 &&& (2147483647 : Int32)) % ((own_mx l1 l2) + (2 : Int32))))])) _
    refine XS.istore X1.here hx rfl (hb hby at_47) rfl (l' := #[.val (.int p1), .val (.int p2), .val (.int p3), .val (.int p4), .val (.int p5), .val (.int p6), .val (.int nI), .val (.int l1), .val (.int l1), .val (.int l2), .val (.int (own_mx l1 l2)), .val (.int ((p5 &&& (2147483647 : Int32)) % ((own_mx l1 l2) + (2 : Int32)))), .unset, .unset, .unset, .unset, .unset, .unset, .unset, .unset, .unset]) rfl ?_
    show Steps p.tables e below (T1.setTop (mkF m 49 #[.val (.int p1), .val (.int p2), .val (.int p3), .val (.int p4), .val (.int p5), .val (.int p6), .val (.int nI), .val (.int l1), .val (.int l1), .val (.int l2), .val (.int (own_mx l1 l2)), .val (.int ((p5 &&& (2147483647 : Int32)) % ((own_mx l1 l2) + (2 : Int32)))), .unset, .unset, .unset, .unset, .unset, .unset, .unset, .unset, .unset] [])) _
    refine XS.iload X1.here hx rfl (hb hby at_49) rfl ?_
    show Steps p.tables e below (T1.setTop (mkF m 51 #[.val (.int p1), .val (.int p2), .val (.int p3), .val (.int p4), .val (.int p5), .val (.int p6), .val (.int nI), .val (.int l1), .val (.int l1), .val (.int l2), .val (.int (own_mx l1 l2)), .val (.int ((p5 &&& (2147483647 : Int32)) % ((own_mx l1 l2) + (2 : Int32)))), .unset, .unset, .unset, .unset, .unset, .unset, .unset, .unset, .unset] [(.int (own_mx l1 l2))])) _
    refine XS.iload X1.here hx rfl (hb hby at_51) rfl ?_
    show Steps p.tables e below (T1.setTop (mkF m 53 #[.val (.int p1), .val (.int p2), .val (.int p3), .val (.int p4), .val (.int p5), .val (.int p6), .val (.int nI), .val (.int l1), .val (.int l1), .val (.int l2), .val (.int (own_mx l1 l2)), .val (.int ((p5 &&& (2147483647 : Int32)) % ((own_mx l1 l2) + (2 : Int32)))), .unset, .unset, .unset, .unset, .unset, .unset, .unset, .unset, .unset] [(.int ((p5 &&& (2147483647 : Int32)) % ((own_mx l1 l2) + (2 : Int32)))), (.int (own_mx l1 l2))])) _
    exact k_
  generalize ((p5 &&& (2147483647 : Int32)) % ((own_mx l1 l2) + (2 : Int32))) = l3 at *
  show own_Rch p e below _ (T1.setTop (mkF m 53 #[.val (.int p1), .val (.int p2), .val (.int p3), .val (.int p4), .val (.int p5), .val (.int p6), .val (.int nI), .val (.int l1), .val (.int l1), .val (.int l2), .val (.int (own_mx l1 l2)), .val (.int l3), .unset, .unset, .unset, .unset, .unset, .unset, .unset, .unset, .unset] [(.int l3), (.int (own_mx l1 l2))]))
  obtain ⟨_, T2, L2, X2, ⟨rfl, N2q, k2⟩, st2⟩ := own_callS X1 hx hZ (y := (⟨"java/lang/Math", "max", "(II)I"⟩ : MethodName)) hown (hw _ (List.mem_of_getElem? (i := 1) rfl)) (hw _ (List.mem_of_getElem? (i := 2) rfl)) (hw _ (List.mem_of_getElem? (i := 3) rfl)) (hw _ (List.mem_of_getElem? (i := 4) rfl)) (by decide) (own_c1 l Z a0 hw [] (own_mx l1 l2) l3 (own_mx (own_mx l1 l2) l3) T1.heap n0 (by rw [k1]; exact Z0) rfl) rfl (W := 0) (by decide) (by decide) (g := (mkF m 53 #[.val (.int p1), .val (.int p2), .val (.int p3), .val (.int p4), .val (.int p5), .val (.int p6), .val (.int nI), .val (.int l1), .val (.int l1), .val (.int l2), .val (.int (own_mx l1 l2)), .val (.int l3), .unset, .unset, .unset, .unset, .unset, .unset, .unset, .unset, .unset] [(.int l3), (.int (own_mx l1 l2))])) rfl (by rw [hml]; rfl) (argsL := [(.int (own_mx l1 l2)), (.int l3)]) (rest := []) (lenOf own_pd1 rfl) rfl rfl rfl (hb hby at_53) (by decide) (by decide)
  have N2 := Fr.app N1 N2q
  refine own_go st2 ?_
  show own_Rch p e below _ (T2.setTop (mkF m 56 #[.val (.int p1), .val (.int p2), .val (.int p3), .val (.int p4), .val (.int p5), .val (.int p6), .val (.int nI), .val (.int l1), .val (.int l1), .val (.int l2), .val (.int (own_mx l1 l2)), .val (.int l3), .unset, .unset, .unset, .unset, .unset, .unset, .unset, .unset, .unset] [(.int (own_mx (own_mx l1 l2) l3))]))
  refine own_go (S' := (T2.setTop (mkF m 64 #[.val (.int p1), .val (.int p2), .val (.int p3), .val (.int p4), .val (.int p5), .val (.int p6), .val (.int nI), .val (.int l1), .val (.int l1), .val (.int l2), .val (.int (own_mx l1 l2)), .val (.int l3), .val (.int (own_mx (own_mx l1 l2) l3)), .val (.int (0 : Int32)), .unset, .unset, .unset, .unset, .unset, .unset, .unset] [(.int (1 : Int32)), (.int nI)]))) (fun t_ k_ => ?_) ?_
  · refine XS.istore X2.here hx rfl (hb hby at_56) rfl (l' := #[.val (.int p1), .val (.int p2), .val (.int p3), .val (.int p4), .val (.int p5), .val (.int p6), .val (.int nI), .val (.int l1), .val (.int l1), .val (.int l2), .val (.int (own_mx l1 l2)), .val (.int l3), .val (.int (own_mx (own_mx l1 l2) l3)), .unset, .unset, .unset, .unset, .unset, .unset, .unset, .unset]) rfl ?_
    show Steps p.tables e below (T2.setTop (mkF m 58 #[.val (.int p1), .val (.int p2), .val (.int p3), .val (.int p4), .val (.int p5), .val (.int p6), .val (.int nI), .val (.int l1), .val (.int l1), .val (.int l2), .val (.int (own_mx l1 l2)), .val (.int l3), .val (.int (own_mx (own_mx l1 l2) l3)), .unset, .unset, .unset, .unset, .unset, .unset, .unset, .unset] [])) _
    refine XS.iconst X2.here hx rfl (hb hby at_58) ?_
    show Steps p.tables e below (T2.setTop (mkF m 59 #[.val (.int p1), .val (.int p2), .val (.int p3), .val (.int p4), .val (.int p5), .val (.int p6), .val (.int nI), .val (.int l1), .val (.int l1), .val (.int l2), .val (.int (own_mx l1 l2)), .val (.int l3), .val (.int (own_mx (own_mx l1 l2) l3)), .unset, .unset, .unset, .unset, .unset, .unset, .unset, .unset] [(.int (0 : Int32))])) _
    refine XS.istore X2.here hx rfl (hb hby at_59) rfl (l' := #[.val (.int p1), .val (.int p2), .val (.int p3), .val (.int p4), .val (.int p5), .val (.int p6), .val (.int nI), .val (.int l1), .val (.int l1), .val (.int l2), .val (.int (own_mx l1 l2)), .val (.int l3), .val (.int (own_mx (own_mx l1 l2) l3)), .val (.int (0 : Int32)), .unset, .unset, .unset, .unset, .unset, .unset, .unset]) rfl ?_
    show Steps p.tables e below (T2.setTop (mkF m 61 #[.val (.int p1), .val (.int p2), .val (.int p3), .val (.int p4), .val (.int p5), .val (.int p6), .val (.int nI), .val (.int l1), .val (.int l1), .val (.int l2), .val (.int (own_mx l1 l2)), .val (.int l3), .val (.int (own_mx (own_mx l1 l2) l3)), .val (.int (0 : Int32)), .unset, .unset, .unset, .unset, .unset, .unset, .unset] [])) _
    refine XS.iload X2.here hx rfl (hb hby at_61) rfl ?_
    show Steps p.tables e below (T2.setTop (mkF m 63 #[.val (.int p1), .val (.int p2), .val (.int p3), .val (.int p4), .val (.int p5), .val (.int p6), .val (.int nI), .val (.int l1), .val (.int l1), .val (.int l2), .val (.int (own_mx l1 l2)), .val (.int l3), .val (.int (own_mx (own_mx l1 l2) l3)), .val (.int (0 : Int32)), .unset, .unset, .unset, .unset, .unset, .unset, .unset] [(.int nI)])) _
    refine XS.iconst X2.here hx rfl (hb hby at_63) ?_
    show Steps p.tables e below (T2.setTop (mkF m 64 #[.val (.int p1), .val (.int p2), .val (.int p3), .val (.int p4), .val (.int p5), .val (.int p6), .val (.int nI), .val (.int l1), .val (.int l1), .val (.int l2), .val (.int (own_mx l1 l2)), .val (.int l3), .val (.int (own_mx (own_mx l1 l2) l3)), .val (.int (0 : Int32)), .unset, .unset, .unset, .unset, .unset, .unset, .unset] [(.int (1 : Int32)), (.int nI)])) _
    exact k_
  obtain ⟨kI, ekI⟩ : ∃ z : Int32, z = own_k nI l1 (own_mx l1 l2) (own_mx (own_mx l1 l2) l3) := ⟨_, rfl⟩
  refine own_join (S' := (T2.setTop (mkF m 115 #[.val (.int p1), .val (.int p2), .val (.int p3), .val (.int p4), .val (.int p5), .val (.int p6), .val (.int nI), .val (.int l1), .val (.int l1), .val (.int l2), .val (.int (own_mx l1 l2)), .val (.int l3), .val (.int (own_mx (own_mx l1 l2) l3)), .val (.int kI), .unset, .unset, .unset, .unset, .unset, .unset, .unset] []))) (fun J3 => ?_) ?_
  · skip
    by_cases q1 : nI = (1 : Int32)
    · skip
      refine own_go (S' := (T2.setTop (mkF m 115 #[.val (.int p1), .val (.int p2), .val (.int p3), .val (.int p4), .val (.int p5), .val (.int p6), .val (.int nI), .val (.int l1), .val (.int l1), .val (.int l2), .val (.int (own_mx l1 l2)), .val (.int l3), .val (.int (own_mx (own_mx l1 l2) l3)), .val (.int (1 : Int32)), .unset, .unset, .unset, .unset, .unset, .unset, .unset] []))) (fun t_ k_ => ?_) ?_
      · refine XS.icmpNo X2.here hx rfl (hb hby at_64) rfl (teq q1).2 ?_
        show Steps p.tables e below (T2.setTop (mkF m 67 #[.val (.int p1), .val (.int p2), .val (.int p3), .val (.int p4), .val (.int p5), .val (.int p6), .val (.int nI), .val (.int l1), .val (.int l1), .val (.int l2), .val (.int (own_mx l1 l2)), .val (.int l3), .val (.int (own_mx (own_mx l1 l2) l3)), .val (.int (0 : Int32)), .unset, .unset, .unset, .unset, .unset, .unset, .unset] [])) _
        refine XS.iconst X2.here hx rfl (hb hby at_67) ?_
        show Steps p.tables e below (T2.setTop (mkF m 68 #[.val (.int p1), .val (.int p2), .val (.int p3), .val (.int p4), .val (.int p5), .val (.int p6), .val (.int nI), .val (.int l1), .val (.int l1), .val (.int l2), .val (.int (own_mx l1 l2)), .val (.int l3), .val (.int (own_mx (own_mx l1 l2) l3)), .val (.int (0 : Int32)), .unset, .unset, .unset, .unset, .unset, .unset, .unset] [(.int (1 : Int32))])) _
        refine XS.istore X2.here hx rfl (hb hby at_68) rfl (l' := #[.val (.int p1), .val (.int p2), .val (.int p3), .val (.int p4), .val (.int p5), .val (.int p6), .val (.int nI), .val (.int l1), .val (.int l1), .val (.int l2), .val (.int (own_mx l1 l2)), .val (.int l3), .val (.int (own_mx (own_mx l1 l2) l3)), .val (.int (1 : Int32)), .unset, .unset, .unset, .unset, .unset, .unset, .unset]) rfl ?_
        show Steps p.tables e below (T2.setTop (mkF m 70 #[.val (.int p1), .val (.int p2), .val (.int p3), .val (.int p4), .val (.int p5), .val (.int p6), .val (.int nI), .val (.int l1), .val (.int l1), .val (.int l2), .val (.int (own_mx l1 l2)), .val (.int l3), .val (.int (own_mx (own_mx l1 l2) l3)), .val (.int (1 : Int32)), .unset, .unset, .unset, .unset, .unset, .unset, .unset] [])) _
        refine XS.goto X2.here hx rfl (pc0 := 70) (pc' := 115) rfl (hb hby at_70) (by decide) (by decide) ?_
        show Steps p.tables e below (T2.setTop (mkF m 115 #[.val (.int p1), .val (.int p2), .val (.int p3), .val (.int p4), .val (.int p5), .val (.int p6), .val (.int nI), .val (.int l1), .val (.int l1), .val (.int l2), .val (.int (own_mx l1 l2)), .val (.int l3), .val (.int (own_mx (own_mx l1 l2) l3)), .val (.int (1 : Int32)), .unset, .unset, .unset, .unset, .unset, .unset, .unset] [])) _
        exact k_
      rw [own_k, if_pos q1] at ekI; subst ekI; exact J3
    · skip
      refine own_go (S' := (T2.setTop (mkF m 76 #[.val (.int p1), .val (.int p2), .val (.int p3), .val (.int p4), .val (.int p5), .val (.int p6), .val (.int nI), .val (.int l1), .val (.int l1), .val (.int l2), .val (.int (own_mx l1 l2)), .val (.int l3), .val (.int (own_mx (own_mx l1 l2) l3)), .val (.int (0 : Int32)), .unset, .unset, .unset, .unset, .unset, .unset, .unset] [(.int (2 : Int32)), (.int nI)]))) (fun t_ k_ => ?_) ?_
      · refine XS.icmpYes X2.here hx rfl (pc0 := 64) (pc' := 73) rfl (hb hby at_64) rfl (feq q1).2 (by decide) (by decide) ?_
        show Steps p.tables e below (T2.setTop (mkF m 73 #[.val (.int p1), .val (.int p2), .val (.int p3), .val (.int p4), .val (.int p5), .val (.int p6), .val (.int nI), .val (.int l1), .val (.int l1), .val (.int l2), .val (.int (own_mx l1 l2)), .val (.int l3), .val (.int (own_mx (own_mx l1 l2) l3)), .val (.int (0 : Int32)), .unset, .unset, .unset, .unset, .unset, .unset, .unset] [])) _
        refine XS.iload X2.here hx rfl (hb hby at_73) rfl ?_
        show Steps p.tables e below (T2.setTop (mkF m 75 #[.val (.int p1), .val (.int p2), .val (.int p3), .val (.int p4), .val (.int p5), .val (.int p6), .val (.int nI), .val (.int l1), .val (.int l1), .val (.int l2), .val (.int (own_mx l1 l2)), .val (.int l3), .val (.int (own_mx (own_mx l1 l2) l3)), .val (.int (0 : Int32)), .unset, .unset, .unset, .unset, .unset, .unset, .unset] [(.int nI)])) _
        refine XS.iconst X2.here hx rfl (hb hby at_75) ?_
        show Steps p.tables e below (T2.setTop (mkF m 76 #[.val (.int p1), .val (.int p2), .val (.int p3), .val (.int p4), .val (.int p5), .val (.int p6), .val (.int nI), .val (.int l1), .val (.int l1), .val (.int l2), .val (.int (own_mx l1 l2)), .val (.int l3), .val (.int (own_mx (own_mx l1 l2) l3)), .val (.int (0 : Int32)), .unset, .unset, .unset, .unset, .unset, .unset, .unset] [(.int (2 : Int32)), (.int nI)])) _
        exact k_
      by_cases q2 : nI = (2 : Int32)
      · skip
        refine own_go (S' := (T2.setTop (mkF m 115 #[.val (.int p1), .val (.int p2), .val (.int p3), .val (.int p4), .val (.int p5), .val (.int p6), .val (.int nI), .val (.int l1), .val (.int l1), .val (.int l2), .val (.int (own_mx l1 l2)), .val (.int l3), .val (.int (own_mx (own_mx l1 l2) l3)), .val (.int (l1 + (1 : Int32))), .unset, .unset, .unset, .unset, .unset, .unset, .unset] []))) (fun t_ k_ => ?_) ?_
        · refine XS.icmpNo X2.here hx rfl (hb hby at_76) rfl (teq q2).2 ?_
          show Steps p.tables e below (T2.setTop (mkF m 79 #[.val (.int p1), .val (.int p2), .val (.int p3), .val (.int p4), .val (.int p5), .val (.int p6), .val (.int nI), .val (.int l1), .val (.int l1), .val (.int l2), .val (.int (own_mx l1 l2)), .val (.int l3), .val (.int (own_mx (own_mx l1 l2) l3)), .val (.int (0 : Int32)), .unset, .unset, .unset, .unset, .unset, .unset, .unset] [])) _
          refine XS.iload X2.here hx rfl (hb hby at_79) rfl ?_
          show Steps p.tables e below (T2.setTop (mkF m 81 #[.val (.int p1), .val (.int p2), .val (.int p3), .val (.int p4), .val (.int p5), .val (.int p6), .val (.int nI), .val (.int l1), .val (.int l1), .val (.int l2), .val (.int (own_mx l1 l2)), .val (.int l3), .val (.int (own_mx (own_mx l1 l2) l3)), .val (.int (0 : Int32)), .unset, .unset, .unset, .unset, .unset, .unset, .unset] [(.int l1)])) _
          refine XS.iconst X2.here hx rfl (hb hby at_81) ?_
          show Steps p.tables e below (T2.setTop (mkF m 82 #[.val (.int p1), .val (.int p2), .val (.int p3), .val (.int p4), .val (.int p5), .val (.int p6), .val (.int nI), .val (.int l1), .val (.int l1), .val (.int l2), .val (.int (own_mx l1 l2)), .val (.int l3), .val (.int (own_mx (own_mx l1 l2) l3)), .val (.int (0 : Int32)), .unset, .unset, .unset, .unset, .unset, .unset, .unset] [(.int (1 : Int32)), (.int l1)])) _
          refine XS.iadd X2.here hx rfl (hb hby at_82) rfl ?_
          show Steps p.tables e below (T2.setTop (mkF m 83 #[.val (.int p1), .val (.int p2), .val (.int p3), .val (.int p4), .val (.int p5), .val (.int p6), .val (.int nI), .val (.int l1), .val (.int l1), .val (.int l2), .val (.int (own_mx l1 l2)), .val (.int l3), .val (.int (own_mx (own_mx l1 l2) l3)), .val (.int (0 : Int32)), .unset, .unset, .unset, .unset, .unset, .unset, .unset] [(.int (l1 + (1 : Int32)))])) _
          refine XS.istore X2.here hx rfl (hb hby at_83) rfl (l' := #[.val (.int p1), .val (.int p2), .val (.int p3), .val (.int p4), .val (.int p5), .val (.int p6), .val (.int nI), .val (.int l1), .val (.int l1), .val (.int l2), .val (.int (own_mx l1 l2)), .val (.int l3), .val (.int (own_mx (own_mx l1 l2) l3)), .val (.int (l1 + (1 : Int32))), .unset, .unset, .unset, .unset, .unset, .unset, .unset]) rfl ?_
          show Steps p.tables e below (T2.setTop (mkF m 85 #[.val (.int p1), .val (.int p2), .val (.int p3), .val (.int p4), .val (.int p5), .val (.int p6), .val (.int nI), .val (.int l1), .val (.int l1), .val (.int l2), .val (.int (own_mx l1 l2)), .val (.int l3), .val (.int (own_mx (own_mx l1 l2) l3)), .val (.int (l1 + (1 : Int32))), .unset, .unset, .unset, .unset, .unset, .unset, .unset] [])) _
          refine XS.goto X2.here hx rfl (pc0 := 85) (pc' := 115) rfl (hb hby at_85) (by decide) (by decide) ?_
          show Steps p.tables e below (T2.setTop (mkF m 115 #[.val (.int p1), .val (.int p2), .val (.int p3), .val (.int p4), .val (.int p5), .val (.int p6), .val (.int nI), .val (.int l1), .val (.int l1), .val (.int l2), .val (.int (own_mx l1 l2)), .val (.int l3), .val (.int (own_mx (own_mx l1 l2) l3)), .val (.int (l1 + (1 : Int32))), .unset, .unset, .unset, .unset, .unset, .unset, .unset] [])) _
          exact k_
        rw [own_k, if_neg q1, if_pos q2] at ekI; subst ekI; exact J3
      · skip
        refine own_go (S' := (T2.setTop (mkF m 91 #[.val (.int p1), .val (.int p2), .val (.int p3), .val (.int p4), .val (.int p5), .val (.int p6), .val (.int nI), .val (.int l1), .val (.int l1), .val (.int l2), .val (.int (own_mx l1 l2)), .val (.int l3), .val (.int (own_mx (own_mx l1 l2) l3)), .val (.int (0 : Int32)), .unset, .unset, .unset, .unset, .unset, .unset, .unset] [(.int (3 : Int32)), (.int nI)]))) (fun t_ k_ => ?_) ?_
        · refine XS.icmpYes X2.here hx rfl (pc0 := 76) (pc' := 88) rfl (hb hby at_76) rfl (feq q2).2 (by decide) (by decide) ?_
          show Steps p.tables e below (T2.setTop (mkF m 88 #[.val (.int p1), .val (.int p2), .val (.int p3), .val (.int p4), .val (.int p5), .val (.int p6), .val (.int nI), .val (.int l1), .val (.int l1), .val (.int l2), .val (.int (own_mx l1 l2)), .val (.int l3), .val (.int (own_mx (own_mx l1 l2) l3)), .val (.int (0 : Int32)), .unset, .unset, .unset, .unset, .unset, .unset, .unset] [])) _
          refine XS.iload X2.here hx rfl (hb hby at_88) rfl ?_
          show Steps p.tables e below (T2.setTop (mkF m 90 #[.val (.int p1), .val (.int p2), .val (.int p3), .val (.int p4), .val (.int p5), .val (.int p6), .val (.int nI), .val (.int l1), .val (.int l1), .val (.int l2), .val (.int (own_mx l1 l2)), .val (.int l3), .val (.int (own_mx (own_mx l1 l2) l3)), .val (.int (0 : Int32)), .unset, .unset, .unset, .unset, .unset, .unset, .unset] [(.int nI)])) _
          refine XS.iconst X2.here hx rfl (hb hby at_90) ?_
          show Steps p.tables e below (T2.setTop (mkF m 91 #[.val (.int p1), .val (.int p2), .val (.int p3), .val (.int p4), .val (.int p5), .val (.int p6), .val (.int nI), .val (.int l1), .val (.int l1), .val (.int l2), .val (.int (own_mx l1 l2)), .val (.int l3), .val (.int (own_mx (own_mx l1 l2) l3)), .val (.int (0 : Int32)), .unset, .unset, .unset, .unset, .unset, .unset, .unset] [(.int (3 : Int32)), (.int nI)])) _
          exact k_
        by_cases q3 : nI = (3 : Int32)
        · skip
          refine own_go (S' := (T2.setTop (mkF m 115 #[.val (.int p1), .val (.int p2), .val (.int p3), .val (.int p4), .val (.int p5), .val (.int p6), .val (.int nI), .val (.int l1), .val (.int l1), .val (.int l2), .val (.int (own_mx l1 l2)), .val (.int l3), .val (.int (own_mx (own_mx l1 l2) l3)), .val (.int ((own_mx l1 l2) + (1 : Int32))), .unset, .unset, .unset, .unset, .unset, .unset, .unset] []))) (fun t_ k_ => ?_) ?_
          · refine XS.icmpNo X2.here hx rfl (hb hby at_91) rfl (teq q3).2 ?_
            show Steps p.tables e below (T2.setTop (mkF m 94 #[.val (.int p1), .val (.int p2), .val (.int p3), .val (.int p4), .val (.int p5), .val (.int p6), .val (.int nI), .val (.int l1), .val (.int l1), .val (.int l2), .val (.int (own_mx l1 l2)), .val (.int l3), .val (.int (own_mx (own_mx l1 l2) l3)), .val (.int (0 : Int32)), .unset, .unset, .unset, .unset, .unset, .unset, .unset] [])) _
            refine XS.iload X2.here hx rfl (hb hby at_94) rfl ?_
            show Steps p.tables e below (T2.setTop (mkF m 96 #[.val (.int p1), .val (.int p2), .val (.int p3), .val (.int p4), .val (.int p5), .val (.int p6), .val (.int nI), .val (.int l1), .val (.int l1), .val (.int l2), .val (.int (own_mx l1 l2)), .val (.int l3), .val (.int (own_mx (own_mx l1 l2) l3)), .val (.int (0 : Int32)), .unset, .unset, .unset, .unset, .unset, .unset, .unset] [(.int (own_mx l1 l2))])) _
            refine XS.iconst X2.here hx rfl (hb hby at_96) ?_
            show Steps p.tables e below (T2.setTop (mkF m 97 #[.val (.int p1), .val (.int p2), .val (.int p3), .val (.int p4), .val (.int p5), .val (.int p6), .val (.int nI), .val (.int l1), .val (.int l1), .val (.int l2), .val (.int (own_mx l1 l2)), .val (.int l3), .val (.int (own_mx (own_mx l1 l2) l3)), .val (.int (0 : Int32)), .unset, .unset, .unset, .unset, .unset, .unset, .unset] [(.int (1 : Int32)), (.int (own_mx l1 l2))])) _
            refine XS.iadd X2.here hx rfl (hb hby at_97) rfl ?_
            show Steps p.tables e below (T2.setTop (mkF m 98 #[.val (.int p1), .val (.int p2), .val (.int p3), .val (.int p4), .val (.int p5), .val (.int p6), .val (.int nI), .val (.int l1), .val (.int l1), .val (.int l2), .val (.int (own_mx l1 l2)), .val (.int l3), .val (.int (own_mx (own_mx l1 l2) l3)), .val (.int (0 : Int32)), .unset, .unset, .unset, .unset, .unset, .unset, .unset] [(.int ((own_mx l1 l2) + (1 : Int32)))])) _
            refine XS.istore X2.here hx rfl (hb hby at_98) rfl (l' := #[.val (.int p1), .val (.int p2), .val (.int p3), .val (.int p4), .val (.int p5), .val (.int p6), .val (.int nI), .val (.int l1), .val (.int l1), .val (.int l2), .val (.int (own_mx l1 l2)), .val (.int l3), .val (.int (own_mx (own_mx l1 l2) l3)), .val (.int ((own_mx l1 l2) + (1 : Int32))), .unset, .unset, .unset, .unset, .unset, .unset, .unset]) rfl ?_
            show Steps p.tables e below (T2.setTop (mkF m 100 #[.val (.int p1), .val (.int p2), .val (.int p3), .val (.int p4), .val (.int p5), .val (.int p6), .val (.int nI), .val (.int l1), .val (.int l1), .val (.int l2), .val (.int (own_mx l1 l2)), .val (.int l3), .val (.int (own_mx (own_mx l1 l2) l3)), .val (.int ((own_mx l1 l2) + (1 : Int32))), .unset, .unset, .unset, .unset, .unset, .unset, .unset] [])) _
            refine XS.goto X2.here hx rfl (pc0 := 100) (pc' := 115) rfl (hb hby at_100) (by decide) (by decide) ?_
            show Steps p.tables e below (T2.setTop (mkF m 115 #[.val (.int p1), .val (.int p2), .val (.int p3), .val (.int p4), .val (.int p5), .val (.int p6), .val (.int nI), .val (.int l1), .val (.int l1), .val (.int l2), .val (.int (own_mx l1 l2)), .val (.int l3), .val (.int (own_mx (own_mx l1 l2) l3)), .val (.int ((own_mx l1 l2) + (1 : Int32))), .unset, .unset, .unset, .unset, .unset, .unset, .unset] [])) _
            exact k_
          rw [own_k, if_neg q1, if_neg q2, if_pos q3] at ekI; subst ekI; exact J3
        · skip
          refine own_go (S' := (T2.setTop (mkF m 106 #[.val (.int p1), .val (.int p2), .val (.int p3), .val (.int p4), .val (.int p5), .val (.int p6), .val (.int nI), .val (.int l1), .val (.int l1), .val (.int l2), .val (.int (own_mx l1 l2)), .val (.int l3), .val (.int (own_mx (own_mx l1 l2) l3)), .val (.int (0 : Int32)), .unset, .unset, .unset, .unset, .unset, .unset, .unset] [(.int (4 : Int32)), (.int nI)]))) (fun t_ k_ => ?_) ?_
          · refine XS.icmpYes X2.here hx rfl (pc0 := 91) (pc' := 103) rfl (hb hby at_91) rfl (feq q3).2 (by decide) (by decide) ?_
            show Steps p.tables e below (T2.setTop (mkF m 103 #[.val (.int p1), .val (.int p2), .val (.int p3), .val (.int p4), .val (.int p5), .val (.int p6), .val (.int nI), .val (.int l1), .val (.int l1), .val (.int l2), .val (.int (own_mx l1 l2)), .val (.int l3), .val (.int (own_mx (own_mx l1 l2) l3)), .val (.int (0 : Int32)), .unset, .unset, .unset, .unset, .unset, .unset, .unset] [])) _
            refine XS.iload X2.here hx rfl (hb hby at_103) rfl ?_
            show Steps p.tables e below (T2.setTop (mkF m 105 #[.val (.int p1), .val (.int p2), .val (.int p3), .val (.int p4), .val (.int p5), .val (.int p6), .val (.int nI), .val (.int l1), .val (.int l1), .val (.int l2), .val (.int (own_mx l1 l2)), .val (.int l3), .val (.int (own_mx (own_mx l1 l2) l3)), .val (.int (0 : Int32)), .unset, .unset, .unset, .unset, .unset, .unset, .unset] [(.int nI)])) _
            refine XS.iconst X2.here hx rfl (hb hby at_105) ?_
            show Steps p.tables e below (T2.setTop (mkF m 106 #[.val (.int p1), .val (.int p2), .val (.int p3), .val (.int p4), .val (.int p5), .val (.int p6), .val (.int nI), .val (.int l1), .val (.int l1), .val (.int l2), .val (.int (own_mx l1 l2)), .val (.int l3), .val (.int (own_mx (own_mx l1 l2) l3)), .val (.int (0 : Int32)), .unset, .unset, .unset, .unset, .unset, .unset, .unset] [(.int (4 : Int32)), (.int nI)])) _
            exact k_
          by_cases q4 : nI = (4 : Int32)
          · skip
            refine own_go (S' := (T2.setTop (mkF m 115 #[.val (.int p1), .val (.int p2), .val (.int p3), .val (.int p4), .val (.int p5), .val (.int p6), .val (.int nI), .val (.int l1), .val (.int l1), .val (.int l2), .val (.int (own_mx l1 l2)), .val (.int l3), .val (.int (own_mx (own_mx l1 l2) l3)), .val (.int ((own_mx (own_mx l1 l2) l3) + (1 : Int32))), .unset, .unset, .unset, .unset, .unset, .unset, .unset] []))) (fun t_ k_ => ?_) ?_
            · refine XS.icmpNo X2.here hx rfl (hb hby at_106) rfl (teq q4).2 ?_
              show Steps p.tables e below (T2.setTop (mkF m 109 #[.val (.int p1), .val (.int p2), .val (.int p3), .val (.int p4), .val (.int p5), .val (.int p6), .val (.int nI), .val (.int l1), .val (.int l1), .val (.int l2), .val (.int (own_mx l1 l2)), .val (.int l3), .val (.int (own_mx (own_mx l1 l2) l3)), .val (.int (0 : Int32)), .unset, .unset, .unset, .unset, .unset, .unset, .unset] [])) _
              refine XS.iload X2.here hx rfl (hb hby at_109) rfl ?_
              show Steps p.tables e below (T2.setTop (mkF m 111 #[.val (.int p1), .val (.int p2), .val (.int p3), .val (.int p4), .val (.int p5), .val (.int p6), .val (.int nI), .val (.int l1), .val (.int l1), .val (.int l2), .val (.int (own_mx l1 l2)), .val (.int l3), .val (.int (own_mx (own_mx l1 l2) l3)), .val (.int (0 : Int32)), .unset, .unset, .unset, .unset, .unset, .unset, .unset] [(.int (own_mx (own_mx l1 l2) l3))])) _
              refine XS.iconst X2.here hx rfl (hb hby at_111) ?_
              show Steps p.tables e below (T2.setTop (mkF m 112 #[.val (.int p1), .val (.int p2), .val (.int p3), .val (.int p4), .val (.int p5), .val (.int p6), .val (.int nI), .val (.int l1), .val (.int l1), .val (.int l2), .val (.int (own_mx l1 l2)), .val (.int l3), .val (.int (own_mx (own_mx l1 l2) l3)), .val (.int (0 : Int32)), .unset, .unset, .unset, .unset, .unset, .unset, .unset] [(.int (1 : Int32)), (.int (own_mx (own_mx l1 l2) l3))])) _
              refine XS.iadd X2.here hx rfl (hb hby at_112) rfl ?_
              show Steps p.tables e below (T2.setTop (mkF m 113 #[.val (.int p1), .val (.int p2), .val (.int p3), .val (.int p4), .val (.int p5), .val (.int p6), .val (.int nI), .val (.int l1), .val (.int l1), .val (.int l2), .val (.int (own_mx l1 l2)), .val (.int l3), .val (.int (own_mx (own_mx l1 l2) l3)), .val (.int (0 : Int32)), .unset, .unset, .unset, .unset, .unset, .unset, .unset] [(.int ((own_mx (own_mx l1 l2) l3) + (1 : Int32)))])) _
              refine XS.istore X2.here hx rfl (hb hby at_113) rfl (l' := #[.val (.int p1), .val (.int p2), .val (.int p3), .val (.int p4), .val (.int p5), .val (.int p6), .val (.int nI), .val (.int l1), .val (.int l1), .val (.int l2), .val (.int (own_mx l1 l2)), .val (.int l3), .val (.int (own_mx (own_mx l1 l2) l3)), .val (.int ((own_mx (own_mx l1 l2) l3) + (1 : Int32))), .unset, .unset, .unset, .unset, .unset, .unset, .unset]) rfl ?_
              show Steps p.tables e below (T2.setTop (mkF m 115 #[.val (.int p1), .val (.int p2), .val (.int p3), .val (.int p4), .val (.int p5), .val (.int p6), .val (.int nI), .val (.int l1), .val (.int l1), .val (.int l2), .val (.int (own_mx l1 l2)), .val (.int l3), .val (.int (own_mx (own_mx l1 l2) l3)), .val (.int ((own_mx (own_mx l1 l2) l3) + (1 : Int32))), .unset, .unset, .unset, .unset, .unset, .unset, .unset] [])) _
              exact k_
            rw [own_k, if_neg q1, if_neg q2, if_neg q3, if_pos q4] at ekI; subst ekI; exact J3
          · skip
            refine own_go (S' := (T2.setTop (mkF m 115 #[.val (.int p1), .val (.int p2), .val (.int p3), .val (.int p4), .val (.int p5), .val (.int p6), .val (.int nI), .val (.int l1), .val (.int l1), .val (.int l2), .val (.int (own_mx l1 l2)), .val (.int l3), .val (.int (own_mx (own_mx l1 l2) l3)), .val (.int (0 : Int32)), .unset, .unset, .unset, .unset, .unset, .unset, .unset] []))) (fun t_ k_ => ?_) ?_
            · refine XS.icmpYes X2.here hx rfl (pc0 := 106) (pc' := 115) rfl (hb hby at_106) rfl (feq q4).2 (by decide) (by decide) ?_
              show Steps p.tables e below (T2.setTop (mkF m 115 #[.val (.int p1), .val (.int p2), .val (.int p3), .val (.int p4), .val (.int p5), .val (.int p6), .val (.int nI), .val (.int l1), .val (.int l1), .val (.int l2), .val (.int (own_mx l1 l2)), .val (.int l3), .val (.int (own_mx (own_mx l1 l2) l3)), .val (.int (0 : Int32)), .unset, .unset, .unset, .unset, .unset, .unset, .unset] [])) _
              exact k_
            rw [own_k, if_neg q1, if_neg q2, if_neg q3, if_neg q4] at ekI; subst ekI; exact J3
  refine own_go (S' := (T2.setTop (mkF m 117 #[.val (.int p1), .val (.int p2), .val (.int p3), .val (.int p4), .val (.int p5), .val (.int p6), .val (.int nI), .val (.int l1), .val (.int l1), .val (.int l2), .val (.int (own_mx l1 l2)), .val (.int l3), .val (.int (own_mx (own_mx l1 l2) l3)), .val (.int kI), .unset, .unset, .unset, .unset, .unset, .unset, .unset] [(.int nI)]))) (fun t_ k_ => ?_) ?_
  · refine XS.iload X2.here hx rfl (hb hby at_115) rfl ?_
    show Steps p.tables e below (T2.setTop (mkF m 117 #[.val (.int p1), .val (.int p2), .val (.int p3), .val (.int p4), .val (.int p5), .val (.int p6), .val (.int nI), .val (.int l1), .val (.int l1), .val (.int l2), .val (.int (own_mx l1 l2)), .val (.int l3), .val (.int (own_mx (own_mx l1 l2) l3)), .val (.int kI), .unset, .unset, .unset, .unset, .unset, .unset, .unset] [(.int nI)])) _
    exact k_
  obtain ⟨sI, esI⟩ : ∃ z : Int32, z = if nI = (0 : Int32) then (0 : Int32) else ((p2 &&& (2147483647 : Int32)) % nI) := ⟨_, rfl⟩
  refine own_join (S' := (T2.setTop (mkF m 131 #[.val (.int p1), .val (.int p2), .val (.int p3), .val (.int p4), .val (.int p5), .val (.int p6), .val (.int nI), .val (.int l1), .val (.int l1), .val (.int l2), .val (.int (own_mx l1 l2)), .val (.int l3), .val (.int (own_mx (own_mx l1 l2) l3)), .val (.int kI), .unset, .unset, .unset, .unset, .unset, .unset, .unset] [(.int sI)]))) (fun J4 => ?_) ?_
  · skip
    by_cases hn0 : nI = (0 : Int32)
    · skip
      refine own_go (S' := (T2.setTop (mkF m 131 #[.val (.int p1), .val (.int p2), .val (.int p3), .val (.int p4), .val (.int p5), .val (.int p6), .val (.int nI), .val (.int l1), .val (.int l1), .val (.int l2), .val (.int (own_mx l1 l2)), .val (.int l3), .val (.int (own_mx (own_mx l1 l2) l3)), .val (.int kI), .unset, .unset, .unset, .unset, .unset, .unset, .unset] [(.int (0 : Int32))]))) (fun t_ k_ => ?_) ?_
      · refine XS.ifNo X2.here hx rfl (hb hby at_117) rfl ((if0 _ _).trans (teq hn0).2) ?_
        show Steps p.tables e below (T2.setTop (mkF m 120 #[.val (.int p1), .val (.int p2), .val (.int p3), .val (.int p4), .val (.int p5), .val (.int p6), .val (.int nI), .val (.int l1), .val (.int l1), .val (.int l2), .val (.int (own_mx l1 l2)), .val (.int l3), .val (.int (own_mx (own_mx l1 l2) l3)), .val (.int kI), .unset, .unset, .unset, .unset, .unset, .unset, .unset] [])) _
        refine XS.iconst X2.here hx rfl (hb hby at_120) ?_
        show Steps p.tables e below (T2.setTop (mkF m 121 #[.val (.int p1), .val (.int p2), .val (.int p3), .val (.int p4), .val (.int p5), .val (.int p6), .val (.int nI), .val (.int l1), .val (.int l1), .val (.int l2), .val (.int (own_mx l1 l2)), .val (.int l3), .val (.int (own_mx (own_mx l1 l2) l3)), .val (.int kI), .unset, .unset, .unset, .unset, .unset, .unset, .unset] [(.int (0 : Int32))])) _
        refine XS.goto X2.here hx rfl (pc0 := 121) (pc' := 131) rfl (hb hby at_121) (by decide) (by decide) ?_
        show Steps p.tables e below (T2.setTop (mkF m 131 #[.val (.int p1), .val (.int p2), .val (.int p3), .val (.int p4), .val (.int p5), .val (.int p6), .val (.int nI), .val (.int l1), .val (.int l1), .val (.int l2), .val (.int (own_mx l1 l2)), .val (.int l3), .val (.int (own_mx (own_mx l1 l2) l3)), .val (.int kI), .unset, .unset, .unset, .unset, .unset, .unset, .unset] [(.int (0 : Int32))])) _
        exact k_
      rw [if_pos hn0] at esI; subst esI; exact J4
    · skip
      refine own_go (S' := (T2.setTop (mkF m 131 #[.val (.int p1), .val (.int p2), .val (.int p3), .val (.int p4), .val (.int p5), .val (.int p6), .val (.int nI), .val (.int l1), .val (.int l1), .val (.int l2), .val (.int (own_mx l1 l2)), .val (.int l3), .val (.int (own_mx (own_mx l1 l2) l3)), .val (.int kI), .unset, .unset, .unset, .unset, .unset, .unset, .unset] [(.int ((p2 &&& (2147483647 : Int32)) % nI))]))) (fun t_ k_ => ?_) ?_
      · refine XS.ifYes X2.here hx rfl (pc0 := 117) (pc' := 124) rfl (hb hby at_117) rfl ((if0 _ _).trans (feq hn0).2) (by decide) (by decide) ?_
        show Steps p.tables e below (T2.setTop (mkF m 124 #[.val (.int p1), .val (.int p2), .val (.int p3), .val (.int p4), .val (.int p5), .val (.int p6), .val (.int nI), .val (.int l1), .val (.int l1), .val (.int l2), .val (.int (own_mx l1 l2)), .val (.int l3), .val (.int (own_mx (own_mx l1 l2) l3)), .val (.int kI), .unset, .unset, .unset, .unset, .unset, .unset, .unset] [])) _
        refine XS.iloadN X2.here hx rfl (hb hby at_124) rfl ?_
        show Steps p.tables e below (T2.setTop (mkF m 125 #[.val (.int p1), .val (.int p2), .val (.int p3), .val (.int p4), .val (.int p5), .val (.int p6), .val (.int nI), .val (.int l1), .val (.int l1), .val (.int l2), .val (.int (own_mx l1 l2)), .val (.int l3), .val (.int (own_mx (own_mx l1 l2) l3)), .val (.int kI), .unset, .unset, .unset, .unset, .unset, .unset, .unset] [(.int p2)])) _
        refine X2.ldcInt hx hown (mvT hZ (hw _ (List.mem_of_getElem? (i := 0) rfl))) (g := (mkF m 125 #[.val (.int p1), .val (.int p2), .val (.int p3), .val (.int p4), .val (.int p5), .val (.int p6), .val (.int nI), .val (.int l1), .val (.int l1), .val (.int l2), .val (.int (own_mx l1 l2)), .val (.int l3), .val (.int (own_mx (own_mx l1 l2) l3)), .val (.int kI), .unset, .unset, .unset, .unset, .unset, .unset, .unset] [(.int p2)])) rfl (hb hby at_125) _ ?_
        show Steps p.tables e below (T2.setTop (mkF m 127 #[.val (.int p1), .val (.int p2), .val (.int p3), .val (.int p4), .val (.int p5), .val (.int p6), .val (.int nI), .val (.int l1), .val (.int l1), .val (.int l2), .val (.int (own_mx l1 l2)), .val (.int l3), .val (.int (own_mx (own_mx l1 l2) l3)), .val (.int kI), .unset, .unset, .unset, .unset, .unset, .unset, .unset] [(.int (2147483647 : Int32)), (.int p2)])) _
        refine XS.iand X2.here hx rfl (hb hby at_127) rfl ?_
        show Steps p.tables e below (T2.setTop (mkF m 128 #[.val (.int p1), .val (.int p2), .val (.int p3), .val (.int p4), .val (.int p5), .val (.int p6), .val (.int nI), .val (.int l1), .val (.int l1), .val (.int l2), .val (.int (own_mx l1 l2)), .val (.int l3), .val (.int (own_mx (own_mx l1 l2) l3)), .val (.int kI), .unset, .unset, .unset, .unset, .unset, .unset, .unset] [(.int (p2 &&& (2147483647 : Int32)))])) _
        refine XS.iload X2.here hx rfl (hb hby at_128) rfl ?_
        show Steps p.tables e below (T2.setTop (mkF m 130 #[.val (.int p1), .val (.int p2), .val (.int p3), .val (.int p4), .val (.int p5), .val (.int p6), .val (.int nI), .val (.int l1), .val (.int l1), .val (.int l2), .val (.int (own_mx l1 l2)), .val (.int l3), .val (.int (own_mx (own_mx l1 l2) l3)), .val (.int kI), .unset, .unset, .unset, .unset, .unset, .unset, .unset] [(.int nI), (.int (p2 &&& (2147483647 : Int32)))])) _
        refine iremM X2 hx rfl (hb hby at_130) rfl hn0 ?_
        show Steps p.tables e below (T2.setTop (mkF m 131 #[.val (.int p1), .val (.int p2), .val (.int p3), .val (.int p4), .val (.int p5), .val (.int p6), .val (.int nI), .val (.int l1), .val (.int l1), .val (.int l2), .val (.int (own_mx l1 l2)), .val (.int l3), .val (.int (own_mx (own_mx l1 l2) l3)), .val (.int kI), .unset, .unset, .unset, .unset, .unset, .unset, .unset] [(.int ((p2 &&& (2147483647 : Int32)) % nI))])) _
        exact k_
      rw [if_neg hn0] at esI; subst esI; exact J4
  refine own_go (S' := (T2.setTop (mkF m 137 #[.val (.int p1), .val (.int p2), .val (.int p3), .val (.int p4), .val (.int p5), .val (.int p6), .val (.int nI), .val (.int l1), .val (.int l1), .val (.int l2), .val (.int (own_mx l1 l2)), .val (.int l3), .val (.int (own_mx (own_mx l1 l2) l3)), .val (.int kI), .val (.int sI), .unset, .unset, .unset, .unset, .unset, .unset] [(.int (p6 &&& (1 : Int32)))]))) (fun t_ k_ => ?_) ?_
  · refine XS.istore X2.here hx rfl (hb hby at_131) rfl (l' := #[.val (.int p1), .val (.int p2), .val (.int p3), .val (.int p4), .val (.int p5), .val (.int p6), .val (.int nI), .val (.int l1), .val (.int l1), .val (.int l2), .val (.int (own_mx l1 l2)), .val (.int l3), .val (.int (own_mx (own_mx l1 l2) l3)), .val (.int kI), .val (.int sI), .unset, .unset, .unset, .unset, .unset, .unset]) rfl ?_
    show Steps p.tables e below (T2.setTop (mkF m 133 #[.val (.int p1), .val (.int p2), .val (.int p3), .val (.int p4), .val (.int p5), .val (.int p6), .val (.int nI), .val (.int l1), .val (.int l1), .val (.int l2), .val (.int (own_mx l1 l2)), .val (.int l3), .val (.int (own_mx (own_mx l1 l2) l3)), .val (.int kI), .val (.int sI), .unset, .unset, .unset, .unset, .unset, .unset] [])) _
    refine XS.iload X2.here hx rfl (hb hby at_133) rfl ?_
    show Steps p.tables e below (T2.setTop (mkF m 135 #[.val (.int p1), .val (.int p2), .val (.int p3), .val (.int p4), .val (.int p5), .val (.int p6), .val (.int nI), .val (.int l1), .val (.int l1), .val (.int l2), .val (.int (own_mx l1 l2)), .val (.int l3), .val (.int (own_mx (own_mx l1 l2) l3)), .val (.int kI), .val (.int sI), .unset, .unset, .unset, .unset, .unset, .unset] [(.int p6)])) _
    refine XS.iconst X2.here hx rfl (hb hby at_135) ?_
    show Steps p.tables e below (T2.setTop (mkF m 136 #[.val (.int p1), .val (.int p2), .val (.int p3), .val (.int p4), .val (.int p5), .val (.int p6), .val (.int nI), .val (.int l1), .val (.int l1), .val (.int l2), .val (.int (own_mx l1 l2)), .val (.int l3), .val (.int (own_mx (own_mx l1 l2) l3)), .val (.int kI), .val (.int sI), .unset, .unset, .unset, .unset, .unset, .unset] [(.int (1 : Int32)), (.int p6)])) _
    refine XS.iand X2.here hx rfl (hb hby at_136) rfl ?_
    show Steps p.tables e below (T2.setTop (mkF m 137 #[.val (.int p1), .val (.int p2), .val (.int p3), .val (.int p4), .val (.int p5), .val (.int p6), .val (.int nI), .val (.int l1), .val (.int l1), .val (.int l2), .val (.int (own_mx l1 l2)), .val (.int l3), .val (.int (own_mx (own_mx l1 l2) l3)), .val (.int kI), .val (.int sI), .unset, .unset, .unset, .unset, .unset, .unset] [(.int (p6 &&& (1 : Int32)))])) _
    exact k_
  obtain ⟨rv, erv⟩ : ∃ z : Int32, z = if (p6 &&& (1 : Int32)) = (0 : Int32) then (0 : Int32) else (1 : Int32) := ⟨_, rfl⟩
  refine own_join (S' := (T2.setTop (mkF m 145 #[.val (.int p1), .val (.int p2), .val (.int p3), .val (.int p4), .val (.int p5), .val (.int p6), .val (.int nI), .val (.int l1), .val (.int l1), .val (.int l2), .val (.int (own_mx l1 l2)), .val (.int l3), .val (.int (own_mx (own_mx l1 l2) l3)), .val (.int kI), .val (.int sI), .unset, .unset, .unset, .unset, .unset, .unset] [(.int rv)]))) (fun J5 => ?_) ?_
  · skip
    by_cases hr : (p6 &&& (1 : Int32)) = (0 : Int32)
    · skip
      refine own_go (S' := (T2.setTop (mkF m 145 #[.val (.int p1), .val (.int p2), .val (.int p3), .val (.int p4), .val (.int p5), .val (.int p6), .val (.int nI), .val (.int l1), .val (.int l1), .val (.int l2), .val (.int (own_mx l1 l2)), .val (.int l3), .val (.int (own_mx (own_mx l1 l2) l3)), .val (.int kI), .val (.int sI), .unset, .unset, .unset, .unset, .unset, .unset] [(.int (0 : Int32))]))) (fun t_ k_ => ?_) ?_
      · refine XS.ifYes X2.here hx rfl (pc0 := 137) (pc' := 144) rfl (hb hby at_137) rfl ((if0 _ _).trans (teq hr).1) (by decide) (by decide) ?_
        show Steps p.tables e below (T2.setTop (mkF m 144 #[.val (.int p1), .val (.int p2), .val (.int p3), .val (.int p4), .val (.int p5), .val (.int p6), .val (.int nI), .val (.int l1), .val (.int l1), .val (.int l2), .val (.int (own_mx l1 l2)), .val (.int l3), .val (.int (own_mx (own_mx l1 l2) l3)), .val (.int kI), .val (.int sI), .unset, .unset, .unset, .unset, .unset, .unset] [])) _
        refine XS.iconst X2.here hx rfl (hb hby at_144) ?_
        show Steps p.tables e below (T2.setTop (mkF m 145 #[.val (.int p1), .val (.int p2), .val (.int p3), .val (.int p4), .val (.int p5), .val (.int p6), .val (.int nI), .val (.int l1), .val (.int l1), .val (.int l2), .val (.int (own_mx l1 l2)), .val (.int l3), .val (.int (own_mx (own_mx l1 l2) l3)), .val (.int kI), .val (.int sI), .unset, .unset, .unset, .unset, .unset, .unset] [(.int (0 : Int32))])) _
        exact k_
      rw [if_pos hr] at erv; subst erv; exact J5
    · skip
      refine own_go (S' := (T2.setTop (mkF m 145 #[.val (.int p1), .val (.int p2), .val (.int p3), .val (.int p4), .val (.int p5), .val (.int p6), .val (.int nI), .val (.int l1), .val (.int l1), .val (.int l2), .val (.int (own_mx l1 l2)), .val (.int l3), .val (.int (own_mx (own_mx l1 l2) l3)), .val (.int kI), .val (.int sI), .unset, .unset, .unset, .unset, .unset, .unset] [(.int (1 : Int32))]))) (fun t_ k_ => ?_) ?_
      · refine XS.ifNo X2.here hx rfl (hb hby at_137) rfl ((if0 _ _).trans (feq hr).1) ?_
        show Steps p.tables e below (T2.setTop (mkF m 140 #[.val (.int p1), .val (.int p2), .val (.int p3), .val (.int p4), .val (.int p5), .val (.int p6), .val (.int nI), .val (.int l1), .val (.int l1), .val (.int l2), .val (.int (own_mx l1 l2)), .val (.int l3), .val (.int (own_mx (own_mx l1 l2) l3)), .val (.int kI), .val (.int sI), .unset, .unset, .unset, .unset, .unset, .unset] [])) _
        refine XS.iconst X2.here hx rfl (hb hby at_140) ?_
        show Steps p.tables e below (T2.setTop (mkF m 141 #[.val (.int p1), .val (.int p2), .val (.int p3), .val (.int p4), .val (.int p5), .val (.int p6), .val (.int nI), .val (.int l1), .val (.int l1), .val (.int l2), .val (.int (own_mx l1 l2)), .val (.int l3), .val (.int (own_mx (own_mx l1 l2) l3)), .val (.int kI), .val (.int sI), .unset, .unset, .unset, .unset, .unset, .unset] [(.int (1 : Int32))])) _
        refine XS.goto X2.here hx rfl (pc0 := 141) (pc' := 145) rfl (hb hby at_141) (by decide) (by decide) ?_
        show Steps p.tables e below (T2.setTop (mkF m 145 #[.val (.int p1), .val (.int p2), .val (.int p3), .val (.int p4), .val (.int p5), .val (.int p6), .val (.int nI), .val (.int l1), .val (.int l1), .val (.int l2), .val (.int (own_mx l1 l2)), .val (.int l3), .val (.int (own_mx (own_mx l1 l2) l3)), .val (.int kI), .val (.int sI), .unset, .unset, .unset, .unset, .unset, .unset] [(.int (1 : Int32))])) _
        exact k_
      rw [if_neg hr] at erv; subst erv; exact J5
  refine own_go (S' := (T2.setTop (mkF m 151 #[.val (.int p1), .val (.int p2), .val (.int p3), .val (.int p4), .val (.int p5), .val (.int p6), .val (.int nI), .val (.int l1), .val (.int l1), .val (.int l2), .val (.int (own_mx l1 l2)), .val (.int l3), .val (.int (own_mx (own_mx l1 l2) l3)), .val (.int kI), .val (.int sI), .val (.int rv), .unset, .unset, .unset, .unset, .unset] [(.int (p6 &&& (2 : Int32)))]))) (fun t_ k_ => ?_) ?_
  · refine XS.istore X2.here hx rfl (hb hby at_145) rfl (l' := #[.val (.int p1), .val (.int p2), .val (.int p3), .val (.int p4), .val (.int p5), .val (.int p6), .val (.int nI), .val (.int l1), .val (.int l1), .val (.int l2), .val (.int (own_mx l1 l2)), .val (.int l3), .val (.int (own_mx (own_mx l1 l2) l3)), .val (.int kI), .val (.int sI), .val (.int rv), .unset, .unset, .unset, .unset, .unset]) rfl ?_
    show Steps p.tables e below (T2.setTop (mkF m 147 #[.val (.int p1), .val (.int p2), .val (.int p3), .val (.int p4), .val (.int p5), .val (.int p6), .val (.int nI), .val (.int l1), .val (.int l1), .val (.int l2), .val (.int (own_mx l1 l2)), .val (.int l3), .val (.int (own_mx (own_mx l1 l2) l3)), .val (.int kI), .val (.int sI), .val (.int rv), .unset, .unset, .unset, .unset, .unset] [])) _
    refine XS.iload X2.here hx rfl (hb hby at_147) rfl ?_
    show Steps p.tables e below (T2.setTop (mkF m 149 #[.val (.int p1), .val (.int p2), .val (.int p3), .val (.int p4), .val (.int p5), .val (.int p6), .val (.int nI), .val (.int l1), .val (.int l1), .val (.int l2), .val (.int (own_mx l1 l2)), .val (.int l3), .val (.int (own_mx (own_mx l1 l2) l3)), .val (.int kI), .val (.int sI), .val (.int rv), .unset, .unset, .unset, .unset, .unset] [(.int p6)])) _
    refine XS.iconst X2.here hx rfl (hb hby at_149) ?_
    show Steps p.tables e below (T2.setTop (mkF m 150 #[.val (.int p1), .val (.int p2), .val (.int p3), .val (.int p4), .val (.int p5), .val (.int p6), .val (.int nI), .val (.int l1), .val (.int l1), .val (.int l2), .val (.int (own_mx l1 l2)), .val (.int l3), .val (.int (own_mx (own_mx l1 l2) l3)), .val (.int kI), .val (.int sI), .val (.int rv), .unset, .unset, .unset, .unset, .unset] [(.int (2 : Int32)), (.int p6)])) _
    refine XS.iand X2.here hx rfl (hb hby at_150) rfl ?_
    show Steps p.tables e below (T2.setTop (mkF m 151 #[.val (.int p1), .val (.int p2), .val (.int p3), .val (.int p4), .val (.int p5), .val (.int p6), .val (.int nI), .val (.int l1), .val (.int l1), .val (.int l2), .val (.int (own_mx l1 l2)), .val (.int l3), .val (.int (own_mx (own_mx l1 l2) l3)), .val (.int kI), .val (.int sI), .val (.int rv), .unset, .unset, .unset, .unset, .unset] [(.int (p6 &&& (2 : Int32)))])) _
    exact k_
  obtain ⟨ds, eds⟩ : ∃ z : Int32, z = if (p6 &&& (2 : Int32)) = (0 : Int32) then (0 : Int32) else (1 : Int32) := ⟨_, rfl⟩
  refine own_join (S' := (T2.setTop (mkF m 159 #[.val (.int p1), .val (.int p2), .val (.int p3), .val (.int p4), .val (.int p5), .val (.int p6), .val (.int nI), .val (.int l1), .val (.int l1), .val (.int l2), .val (.int (own_mx l1 l2)), .val (.int l3), .val (.int (own_mx (own_mx l1 l2) l3)), .val (.int kI), .val (.int sI), .val (.int rv), .unset, .unset, .unset, .unset, .unset] [(.int ds)]))) (fun J6 => ?_) ?_
  · skip
    by_cases hd : (p6 &&& (2 : Int32)) = (0 : Int32)
    · skip
      refine own_go (S' := (T2.setTop (mkF m 159 #[.val (.int p1), .val (.int p2), .val (.int p3), .val (.int p4), .val (.int p5), .val (.int p6), .val (.int nI), .val (.int l1), .val (.int l1), .val (.int l2), .val (.int (own_mx l1 l2)), .val (.int l3), .val (.int (own_mx (own_mx l1 l2) l3)), .val (.int kI), .val (.int sI), .val (.int rv), .unset, .unset, .unset, .unset, .unset] [(.int (0 : Int32))]))) (fun t_ k_ => ?_) ?_
      · refine XS.ifYes X2.here hx rfl (pc0 := 151) (pc' := 158) rfl (hb hby at_151) rfl ((if0 _ _).trans (teq hd).1) (by decide) (by decide) ?_
        show Steps p.tables e below (T2.setTop (mkF m 158 #[.val (.int p1), .val (.int p2), .val (.int p3), .val (.int p4), .val (.int p5), .val (.int p6), .val (.int nI), .val (.int l1), .val (.int l1), .val (.int l2), .val (.int (own_mx l1 l2)), .val (.int l3), .val (.int (own_mx (own_mx l1 l2) l3)), .val (.int kI), .val (.int sI), .val (.int rv), .unset, .unset, .unset, .unset, .unset] [])) _
        refine XS.iconst X2.here hx rfl (hb hby at_158) ?_
        show Steps p.tables e below (T2.setTop (mkF m 159 #[.val (.int p1), .val (.int p2), .val (.int p3), .val (.int p4), .val (.int p5), .val (.int p6), .val (.int nI), .val (.int l1), .val (.int l1), .val (.int l2), .val (.int (own_mx l1 l2)), .val (.int l3), .val (.int (own_mx (own_mx l1 l2) l3)), .val (.int kI), .val (.int sI), .val (.int rv), .unset, .unset, .unset, .unset, .unset] [(.int (0 : Int32))])) _
        exact k_
      rw [if_pos hd] at eds; subst eds; exact J6
    · skip
      refine own_go (S' := (T2.setTop (mkF m 159 #[.val (.int p1), .val (.int p2), .val (.int p3), .val (.int p4), .val (.int p5), .val (.int p6), .val (.int nI), .val (.int l1), .val (.int l1), .val (.int l2), .val (.int (own_mx l1 l2)), .val (.int l3), .val (.int (own_mx (own_mx l1 l2) l3)), .val (.int kI), .val (.int sI), .val (.int rv), .unset, .unset, .unset, .unset, .unset] [(.int (1 : Int32))]))) (fun t_ k_ => ?_) ?_
      · refine XS.ifNo X2.here hx rfl (hb hby at_151) rfl ((if0 _ _).trans (feq hd).1) ?_
        show Steps p.tables e below (T2.setTop (mkF m 154 #[.val (.int p1), .val (.int p2), .val (.int p3), .val (.int p4), .val (.int p5), .val (.int p6), .val (.int nI), .val (.int l1), .val (.int l1), .val (.int l2), .val (.int (own_mx l1 l2)), .val (.int l3), .val (.int (own_mx (own_mx l1 l2) l3)), .val (.int kI), .val (.int sI), .val (.int rv), .unset, .unset, .unset, .unset, .unset] [])) _
        refine XS.iconst X2.here hx rfl (hb hby at_154) ?_
        show Steps p.tables e below (T2.setTop (mkF m 155 #[.val (.int p1), .val (.int p2), .val (.int p3), .val (.int p4), .val (.int p5), .val (.int p6), .val (.int nI), .val (.int l1), .val (.int l1), .val (.int l2), .val (.int (own_mx l1 l2)), .val (.int l3), .val (.int (own_mx (own_mx l1 l2) l3)), .val (.int kI), .val (.int sI), .val (.int rv), .unset, .unset, .unset, .unset, .unset] [(.int (1 : Int32))])) _
        refine XS.goto X2.here hx rfl (pc0 := 155) (pc' := 159) rfl (hb hby at_155) (by decide) (by decide) ?_
        show Steps p.tables e below (T2.setTop (mkF m 159 #[.val (.int p1), .val (.int p2), .val (.int p3), .val (.int p4), .val (.int p5), .val (.int p6), .val (.int nI), .val (.int l1), .val (.int l1), .val (.int l2), .val (.int (own_mx l1 l2)), .val (.int l3), .val (.int (own_mx (own_mx l1 l2) l3)), .val (.int kI), .val (.int sI), .val (.int rv), .unset, .unset, .unset, .unset, .unset] [(.int (1 : Int32))])) _
        exact k_
      rw [if_neg hd] at eds; subst eds; exact J6
  refine own_go (S' := (T2.setTop (mkF m 162 #[.val (.int p1), .val (.int p2), .val (.int p3), .val (.int p4), .val (.int p5), .val (.int p6), .val (.int nI), .val (.int l1), .val (.int l1), .val (.int l2), .val (.int (own_mx l1 l2)), .val (.int l3), .val (.int (own_mx (own_mx l1 l2) l3)), .val (.int kI), .val (.int sI), .val (.int rv), .val (.int ds), .unset, .unset, .unset, .unset] [(.int (4 : Int32))]))) (fun t_ k_ => ?_) ?_
  · refine XS.istore X2.here hx rfl (hb hby at_159) rfl (l' := #[.val (.int p1), .val (.int p2), .val (.int p3), .val (.int p4), .val (.int p5), .val (.int p6), .val (.int nI), .val (.int l1), .val (.int l1), .val (.int l2), .val (.int (own_mx l1 l2)), .val (.int l3), .val (.int (own_mx (own_mx l1 l2) l3)), .val (.int kI), .val (.int sI), .val (.int rv), .val (.int ds), .unset, .unset, .unset, .unset]) rfl ?_
    show Steps p.tables e below (T2.setTop (mkF m 161 #[.val (.int p1), .val (.int p2), .val (.int p3), .val (.int p4), .val (.int p5), .val (.int p6), .val (.int nI), .val (.int l1), .val (.int l1), .val (.int l2), .val (.int (own_mx l1 l2)), .val (.int l3), .val (.int (own_mx (own_mx l1 l2) l3)), .val (.int kI), .val (.int sI), .val (.int rv), .val (.int ds), .unset, .unset, .unset, .unset] [])) _
    refine XS.iconst X2.here hx rfl (hb hby at_161) ?_
    show Steps p.tables e below (T2.setTop (mkF m 162 #[.val (.int p1), .val (.int p2), .val (.int p3), .val (.int p4), .val (.int p5), .val (.int p6), .val (.int nI), .val (.int l1), .val (.int l1), .val (.int l2), .val (.int (own_mx l1 l2)), .val (.int l3), .val (.int (own_mx (own_mx l1 l2) l3)), .val (.int kI), .val (.int sI), .val (.int rv), .val (.int ds), .unset, .unset, .unset, .unset] [(.int (4 : Int32))])) _
    exact k_
  obtain ⟨nn, hn4, rfl⟩ := own_ofNat rn.1 (by omega)
  have good : own_good nn sI rv ds l1 l2 l3 = true := by
    have hnn := (own_nat (j := nn) (by omega)).1
    have hsI : 0 ≤ sI.toInt ∧ sI.toInt ≤ 3 ∧ (nn = 0 ∧ sI = 0 ∨ sI < Int32.ofNat nn) := by
      by_cases q : Int32.ofNat nn = (0 : Int32)
      · rw [if_pos q] at esI; subst esI; exact ⟨by omega, by omega, Or.inl ⟨by rw [q, y0_] at hnn; omega, rfl⟩⟩
      · rw [if_neg q] at esI; subst esI
        have h1 : (Int32.ofNat nn).toInt ≠ 0 := fun h => q (by rw [← Int32.toInt_inj, h, y0_])
        have h2 := own_rem p2 (Int32.ofNat nn) (by omega)
        exact ⟨h2.1, by omega, Or.inr (by rw [Int32.lt_iff_toInt_lt]; exact h2.2)⟩
    have hrv : rv ∈ ([0, 1] : List Int32) := by rw [erv]; split <;> decide
    have hds : ds ∈ ([0, 1] : List Int32) := by rw [eds]; split <;> decide
    have s1 : (l1 + 1).toInt = l1.toInt + 1 := own_plus y1_ (by omega) (by omega) (by omega)
    have s2 : (own_mx l1 l2 + 1).toInt = (own_mx l1 l2).toInt + 1 := own_plus y1_ (by omega) (by omega) (by omega)
    exact own_allgood nn (List.mem_range.mpr (by omega)) sI (own_mem4 hsI.1 hsI.2.1) l1 (own_mem2 (by omega) (by omega)) l2 (own_mem3 (by omega) (by omega)) l3 (own_mem4 (by omega) (by omega)) rv hrv ds hds hsI.2.2 (by rw [Int32.lt_iff_toInt_lt]; omega) (by rw [Int32.lt_iff_toInt_lt]; omega)
  obtain ⟨kk, cs, hk, hk4, hG, hrun, hcl, hids⟩ := own_goods good
  rw [hk] at ekI; subst ekI
  have hnz : ∀ j : Nat, j ≤ 10 → Int32.ofNat j < (Int32.ofNat nn) → ¬ (Int32.ofNat nn) = (0 : Int32) := fun j hj q => own_nz q (by rw [(own_nat hj).1]; omega)
  clear esI erv eds good rn rl1 rl2 rl3 hk
  show own_Rch p e below _ (T2.setTop (mkF m 162 #[.val (.int p1), .val (.int p2), .val (.int p3), .val (.int p4), .val (.int p5), .val (.int p6), .val (.int (Int32.ofNat nn)), .val (.int l1), .val (.int l1), .val (.int l2), .val (.int (own_mx l1 l2)), .val (.int l3), .val (.int (own_mx (own_mx l1 l2) l3)), .val (.int (Int32.ofNat kk)), .val (.int sI), .val (.int rv), .val (.int ds), .unset, .unset, .unset, .unset] [(.int (4 : Int32))]))
  have Zk : n0 ≤ T2.heap.size := by rw [k2, k1]; exact Z0
  have hH : T2.heap = h0 := by rw [k2, k1]
  obtain ⟨T7, h7, k7, X7, e7, E7, A7, Ex7, st7⟩ := newPE X2 hx hZ (hw _ (List.mem_of_getElem? (i := 5) rfl)) rfl (g := (mkF m 162 #[.val (.int p1), .val (.int p2), .val (.int p3), .val (.int p4), .val (.int p5), .val (.int p6), .val (.int (Int32.ofNat nn)), .val (.int l1), .val (.int l1), .val (.int l2), .val (.int (own_mx l1 l2)), .val (.int l3), .val (.int (own_mx (own_mx l1 l2) l3)), .val (.int (Int32.ofNat kk)), .val (.int sI), .val (.int rv), .val (.int ds), .unset, .unset, .unset, .unset] [(.int (4 : Int32))])) rfl (hb hby at_162) rfl (by decide) (cap := 4) (by decide) (by decide) (by decide) (by decide) (ad := "[I") (by decide)
  obtain ⟨b7, g7⟩ : ∃ z, z = T2.heap.size := ⟨_, rfl⟩
  rw [← g7] at A7 Ex7 st7
  have gb7 : n0 ≤ b7 := Nat.le_trans Zk (Nat.le_of_eq g7.symm)
  have V7 := Arv.new A7 (by decide)
  refine own_go st7 ?_
  show own_Rch p e below _ (T7.setTop (mkF m 164 #[.val (.int p1), .val (.int p2), .val (.int p3), .val (.int p4), .val (.int p5), .val (.int p6), .val (.int (Int32.ofNat nn)), .val (.int l1), .val (.int l1), .val (.int l2), .val (.int (own_mx l1 l2)), .val (.int l3), .val (.int (own_mx (own_mx l1 l2) l3)), .val (.int (Int32.ofNat kk)), .val (.int sI), .val (.int rv), .val (.int ds), .unset, .unset, .unset, .unset] [(.ref b7)]))
  have Vl : Arv Z h7 b7 k7 .int 4 [(.int (0 : Int32)), (.int (0 : Int32)), (.int (0 : Int32)), (.int (0 : Int32))] (.int (0 : Int32)) := V7.pad (pad_rep [] (.int (0 : Int32)) 4)
  have Kl : Keep h0 h7 [] := by rw [← hH]; exact (Keep.refl _ []).ext E7
  have slb : h0.size ≤ b7 := by rw [← hH]; exact Nat.le_of_eq g7.symm
  refine own_go (S' := (T7.setTop (mkF m 167 #[.val (.int p1), .val (.int p2), .val (.int p3), .val (.int p4), .val (.int p5), .val (.int p6), .val (.int (Int32.ofNat nn)), .val (.int l1), .val (.int l1), .val (.int l2), .val (.int (own_mx l1 l2)), .val (.int l3), .val (.int (own_mx (own_mx l1 l2) l3)), .val (.int (Int32.ofNat kk)), .val (.int sI), .val (.int rv), .val (.int ds), .unset, .unset, .unset, .unset] [(.int (0 : Int32)), (.int (0 : Int32)), (.ref b7), (.ref b7)]))) (fun t_ k_ => ?_) ?_
  · refine XS.dup X7.here hx rfl (hb hby at_164) rfl rfl ?_
    show Steps p.tables e below (T7.setTop (mkF m 165 #[.val (.int p1), .val (.int p2), .val (.int p3), .val (.int p4), .val (.int p5), .val (.int p6), .val (.int (Int32.ofNat nn)), .val (.int l1), .val (.int l1), .val (.int l2), .val (.int (own_mx l1 l2)), .val (.int l3), .val (.int (own_mx (own_mx l1 l2) l3)), .val (.int (Int32.ofNat kk)), .val (.int sI), .val (.int rv), .val (.int ds), .unset, .unset, .unset, .unset] [(.ref b7), (.ref b7)])) _
    refine XS.iconst X7.here hx rfl (hb hby at_165) ?_
    show Steps p.tables e below (T7.setTop (mkF m 166 #[.val (.int p1), .val (.int p2), .val (.int p3), .val (.int p4), .val (.int p5), .val (.int p6), .val (.int (Int32.ofNat nn)), .val (.int l1), .val (.int l1), .val (.int l2), .val (.int (own_mx l1 l2)), .val (.int l3), .val (.int (own_mx (own_mx l1 l2) l3)), .val (.int (Int32.ofNat kk)), .val (.int sI), .val (.int rv), .val (.int ds), .unset, .unset, .unset, .unset] [(.int (0 : Int32)), (.ref b7), (.ref b7)])) _
    refine XS.iconst X7.here hx rfl (hb hby at_166) ?_
    show Steps p.tables e below (T7.setTop (mkF m 167 #[.val (.int p1), .val (.int p2), .val (.int p3), .val (.int p4), .val (.int p5), .val (.int p6), .val (.int (Int32.ofNat nn)), .val (.int l1), .val (.int l1), .val (.int l2), .val (.int (own_mx l1 l2)), .val (.int l3), .val (.int (own_mx (own_mx l1 l2) l3)), .val (.int (Int32.ofNat kk)), .val (.int sI), .val (.int rv), .val (.int ds), .unset, .unset, .unset, .unset] [(.int (0 : Int32)), (.int (0 : Int32)), (.ref b7), (.ref b7)])) _
    exact k_
  obtain ⟨T8, h8, X8, e8, W8, V8, st8⟩ := own_stI X7 hx hZ e7 Vl (by decide) (i := 0) (by decide) (by simp) (g := (mkF m 167 #[.val (.int p1), .val (.int p2), .val (.int p3), .val (.int p4), .val (.int p5), .val (.int p6), .val (.int (Int32.ofNat nn)), .val (.int l1), .val (.int l1), .val (.int l2), .val (.int (own_mx l1 l2)), .val (.int l3), .val (.int (own_mx (own_mx l1 l2) l3)), .val (.int (Int32.ofNat kk)), .val (.int sI), .val (.int rv), .val (.int ds), .unset, .unset, .unset, .unset] [(.int (0 : Int32)), (.int (0 : Int32)), (.ref b7), (.ref b7)])) rfl rfl (hb hby at_167)
  refine own_go st8 ?_
  have N8 := Fr.snoc X8 N2 gb7
  show own_Rch p e below _ (T8.setTop (mkF m 168 #[.val (.int p1), .val (.int p2), .val (.int p3), .val (.int p4), .val (.int p5), .val (.int p6), .val (.int (Int32.ofNat nn)), .val (.int l1), .val (.int l1), .val (.int l2), .val (.int (own_mx l1 l2)), .val (.int l3), .val (.int (own_mx (own_mx l1 l2) l3)), .val (.int (Int32.ofNat kk)), .val (.int sI), .val (.int rv), .val (.int ds), .unset, .unset, .unset, .unset] [(.ref b7)]))
  have Kl0 := Kl.wr W8 (Or.inr slb)
  refine own_go (S' := (T8.setTop (mkF m 172 #[.val (.int p1), .val (.int p2), .val (.int p3), .val (.int p4), .val (.int p5), .val (.int p6), .val (.int (Int32.ofNat nn)), .val (.int l1), .val (.int l1), .val (.int l2), .val (.int (own_mx l1 l2)), .val (.int l3), .val (.int (own_mx (own_mx l1 l2) l3)), .val (.int (Int32.ofNat kk)), .val (.int sI), .val (.int rv), .val (.int ds), .unset, .unset, .unset, .unset] [(.int l1), (.int (1 : Int32)), (.ref b7), (.ref b7)]))) (fun t_ k_ => ?_) ?_
  · refine XS.dup X8.here hx rfl (hb hby at_168) rfl rfl ?_
    show Steps p.tables e below (T8.setTop (mkF m 169 #[.val (.int p1), .val (.int p2), .val (.int p3), .val (.int p4), .val (.int p5), .val (.int p6), .val (.int (Int32.ofNat nn)), .val (.int l1), .val (.int l1), .val (.int l2), .val (.int (own_mx l1 l2)), .val (.int l3), .val (.int (own_mx (own_mx l1 l2) l3)), .val (.int (Int32.ofNat kk)), .val (.int sI), .val (.int rv), .val (.int ds), .unset, .unset, .unset, .unset] [(.ref b7), (.ref b7)])) _
    refine XS.iconst X8.here hx rfl (hb hby at_169) ?_
    show Steps p.tables e below (T8.setTop (mkF m 170 #[.val (.int p1), .val (.int p2), .val (.int p3), .val (.int p4), .val (.int p5), .val (.int p6), .val (.int (Int32.ofNat nn)), .val (.int l1), .val (.int l1), .val (.int l2), .val (.int (own_mx l1 l2)), .val (.int l3), .val (.int (own_mx (own_mx l1 l2) l3)), .val (.int (Int32.ofNat kk)), .val (.int sI), .val (.int rv), .val (.int ds), .unset, .unset, .unset, .unset] [(.int (1 : Int32)), (.ref b7), (.ref b7)])) _
    refine XS.iload X8.here hx rfl (hb hby at_170) rfl ?_
    show Steps p.tables e below (T8.setTop (mkF m 172 #[.val (.int p1), .val (.int p2), .val (.int p3), .val (.int p4), .val (.int p5), .val (.int p6), .val (.int (Int32.ofNat nn)), .val (.int l1), .val (.int l1), .val (.int l2), .val (.int (own_mx l1 l2)), .val (.int l3), .val (.int (own_mx (own_mx l1 l2) l3)), .val (.int (Int32.ofNat kk)), .val (.int sI), .val (.int rv), .val (.int ds), .unset, .unset, .unset, .unset] [(.int l1), (.int (1 : Int32)), (.ref b7), (.ref b7)])) _
    exact k_
  obtain ⟨T9, h9, X9, e9, W9, V9, st9⟩ := own_stI X8 hx hZ e8 V8 (by decide) (i := 1) (by decide) (by simp) (g := (mkF m 172 #[.val (.int p1), .val (.int p2), .val (.int p3), .val (.int p4), .val (.int p5), .val (.int p6), .val (.int (Int32.ofNat nn)), .val (.int l1), .val (.int l1), .val (.int l2), .val (.int (own_mx l1 l2)), .val (.int l3), .val (.int (own_mx (own_mx l1 l2) l3)), .val (.int (Int32.ofNat kk)), .val (.int sI), .val (.int rv), .val (.int ds), .unset, .unset, .unset, .unset] [(.int l1), (.int (1 : Int32)), (.ref b7), (.ref b7)])) rfl rfl (hb hby at_172)
  refine own_go st9 ?_
  have N9 := Fr.snoc X9 N8 gb7
  show own_Rch p e below _ (T9.setTop (mkF m 173 #[.val (.int p1), .val (.int p2), .val (.int p3), .val (.int p4), .val (.int p5), .val (.int p6), .val (.int (Int32.ofNat nn)), .val (.int l1), .val (.int l1), .val (.int l2), .val (.int (own_mx l1 l2)), .val (.int l3), .val (.int (own_mx (own_mx l1 l2) l3)), .val (.int (Int32.ofNat kk)), .val (.int sI), .val (.int rv), .val (.int ds), .unset, .unset, .unset, .unset] [(.ref b7)]))
  have Kl1 := Kl0.wr W9 (Or.inr slb)
  refine own_go (S' := (T9.setTop (mkF m 177 #[.val (.int p1), .val (.int p2), .val (.int p3), .val (.int p4), .val (.int p5), .val (.int p6), .val (.int (Int32.ofNat nn)), .val (.int l1), .val (.int l1), .val (.int l2), .val (.int (own_mx l1 l2)), .val (.int l3), .val (.int (own_mx (own_mx l1 l2) l3)), .val (.int (Int32.ofNat kk)), .val (.int sI), .val (.int rv), .val (.int ds), .unset, .unset, .unset, .unset] [(.int l2), (.int (2 : Int32)), (.ref b7), (.ref b7)]))) (fun t_ k_ => ?_) ?_
  · refine XS.dup X9.here hx rfl (hb hby at_173) rfl rfl ?_
    show Steps p.tables e below (T9.setTop (mkF m 174 #[.val (.int p1), .val (.int p2), .val (.int p3), .val (.int p4), .val (.int p5), .val (.int p6), .val (.int (Int32.ofNat nn)), .val (.int l1), .val (.int l1), .val (.int l2), .val (.int (own_mx l1 l2)), .val (.int l3), .val (.int (own_mx (own_mx l1 l2) l3)), .val (.int (Int32.ofNat kk)), .val (.int sI), .val (.int rv), .val (.int ds), .unset, .unset, .unset, .unset] [(.ref b7), (.ref b7)])) _
    refine XS.iconst X9.here hx rfl (hb hby at_174) ?_
    show Steps p.tables e below (T9.setTop (mkF m 175 #[.val (.int p1), .val (.int p2), .val (.int p3), .val (.int p4), .val (.int p5), .val (.int p6), .val (.int (Int32.ofNat nn)), .val (.int l1), .val (.int l1), .val (.int l2), .val (.int (own_mx l1 l2)), .val (.int l3), .val (.int (own_mx (own_mx l1 l2) l3)), .val (.int (Int32.ofNat kk)), .val (.int sI), .val (.int rv), .val (.int ds), .unset, .unset, .unset, .unset] [(.int (2 : Int32)), (.ref b7), (.ref b7)])) _
    refine XS.iload X9.here hx rfl (hb hby at_175) rfl ?_
    show Steps p.tables e below (T9.setTop (mkF m 177 #[.val (.int p1), .val (.int p2), .val (.int p3), .val (.int p4), .val (.int p5), .val (.int p6), .val (.int (Int32.ofNat nn)), .val (.int l1), .val (.int l1), .val (.int l2), .val (.int (own_mx l1 l2)), .val (.int l3), .val (.int (own_mx (own_mx l1 l2) l3)), .val (.int (Int32.ofNat kk)), .val (.int sI), .val (.int rv), .val (.int ds), .unset, .unset, .unset, .unset] [(.int l2), (.int (2 : Int32)), (.ref b7), (.ref b7)])) _
    exact k_
  obtain ⟨T10, h10, X10, e10, W10, V10, st10⟩ := own_stI X9 hx hZ e9 V9 (by decide) (i := 2) (by decide) (by simp) (g := (mkF m 177 #[.val (.int p1), .val (.int p2), .val (.int p3), .val (.int p4), .val (.int p5), .val (.int p6), .val (.int (Int32.ofNat nn)), .val (.int l1), .val (.int l1), .val (.int l2), .val (.int (own_mx l1 l2)), .val (.int l3), .val (.int (own_mx (own_mx l1 l2) l3)), .val (.int (Int32.ofNat kk)), .val (.int sI), .val (.int rv), .val (.int ds), .unset, .unset, .unset, .unset] [(.int l2), (.int (2 : Int32)), (.ref b7), (.ref b7)])) rfl rfl (hb hby at_177)
  refine own_go st10 ?_
  have N10 := Fr.snoc X10 N9 gb7
  show own_Rch p e below _ (T10.setTop (mkF m 178 #[.val (.int p1), .val (.int p2), .val (.int p3), .val (.int p4), .val (.int p5), .val (.int p6), .val (.int (Int32.ofNat nn)), .val (.int l1), .val (.int l1), .val (.int l2), .val (.int (own_mx l1 l2)), .val (.int l3), .val (.int (own_mx (own_mx l1 l2) l3)), .val (.int (Int32.ofNat kk)), .val (.int sI), .val (.int rv), .val (.int ds), .unset, .unset, .unset, .unset] [(.ref b7)]))
  have Kl2 := Kl1.wr W10 (Or.inr slb)
  refine own_go (S' := (T10.setTop (mkF m 182 #[.val (.int p1), .val (.int p2), .val (.int p3), .val (.int p4), .val (.int p5), .val (.int p6), .val (.int (Int32.ofNat nn)), .val (.int l1), .val (.int l1), .val (.int l2), .val (.int (own_mx l1 l2)), .val (.int l3), .val (.int (own_mx (own_mx l1 l2) l3)), .val (.int (Int32.ofNat kk)), .val (.int sI), .val (.int rv), .val (.int ds), .unset, .unset, .unset, .unset] [(.int l3), (.int (3 : Int32)), (.ref b7), (.ref b7)]))) (fun t_ k_ => ?_) ?_
  · refine XS.dup X10.here hx rfl (hb hby at_178) rfl rfl ?_
    show Steps p.tables e below (T10.setTop (mkF m 179 #[.val (.int p1), .val (.int p2), .val (.int p3), .val (.int p4), .val (.int p5), .val (.int p6), .val (.int (Int32.ofNat nn)), .val (.int l1), .val (.int l1), .val (.int l2), .val (.int (own_mx l1 l2)), .val (.int l3), .val (.int (own_mx (own_mx l1 l2) l3)), .val (.int (Int32.ofNat kk)), .val (.int sI), .val (.int rv), .val (.int ds), .unset, .unset, .unset, .unset] [(.ref b7), (.ref b7)])) _
    refine XS.iconst X10.here hx rfl (hb hby at_179) ?_
    show Steps p.tables e below (T10.setTop (mkF m 180 #[.val (.int p1), .val (.int p2), .val (.int p3), .val (.int p4), .val (.int p5), .val (.int p6), .val (.int (Int32.ofNat nn)), .val (.int l1), .val (.int l1), .val (.int l2), .val (.int (own_mx l1 l2)), .val (.int l3), .val (.int (own_mx (own_mx l1 l2) l3)), .val (.int (Int32.ofNat kk)), .val (.int sI), .val (.int rv), .val (.int ds), .unset, .unset, .unset, .unset] [(.int (3 : Int32)), (.ref b7), (.ref b7)])) _
    refine XS.iload X10.here hx rfl (hb hby at_180) rfl ?_
    show Steps p.tables e below (T10.setTop (mkF m 182 #[.val (.int p1), .val (.int p2), .val (.int p3), .val (.int p4), .val (.int p5), .val (.int p6), .val (.int (Int32.ofNat nn)), .val (.int l1), .val (.int l1), .val (.int l2), .val (.int (own_mx l1 l2)), .val (.int l3), .val (.int (own_mx (own_mx l1 l2) l3)), .val (.int (Int32.ofNat kk)), .val (.int sI), .val (.int rv), .val (.int ds), .unset, .unset, .unset, .unset] [(.int l3), (.int (3 : Int32)), (.ref b7), (.ref b7)])) _
    exact k_
  obtain ⟨T11, h11, X11, e11, W11, V11, st11⟩ := own_stI X10 hx hZ e10 V10 (by decide) (i := 3) (by decide) (by simp) (g := (mkF m 182 #[.val (.int p1), .val (.int p2), .val (.int p3), .val (.int p4), .val (.int p5), .val (.int p6), .val (.int (Int32.ofNat nn)), .val (.int l1), .val (.int l1), .val (.int l2), .val (.int (own_mx l1 l2)), .val (.int l3), .val (.int (own_mx (own_mx l1 l2) l3)), .val (.int (Int32.ofNat kk)), .val (.int sI), .val (.int rv), .val (.int ds), .unset, .unset, .unset, .unset] [(.int l3), (.int (3 : Int32)), (.ref b7), (.ref b7)])) rfl rfl (hb hby at_182)
  refine own_go st11 ?_
  have N11 := Fr.snoc X11 N10 gb7
  show own_Rch p e below _ (T11.setTop (mkF m 183 #[.val (.int p1), .val (.int p2), .val (.int p3), .val (.int p4), .val (.int p5), .val (.int p6), .val (.int (Int32.ofNat nn)), .val (.int l1), .val (.int l1), .val (.int l2), .val (.int (own_mx l1 l2)), .val (.int l3), .val (.int (own_mx (own_mx l1 l2) l3)), .val (.int (Int32.ofNat kk)), .val (.int sI), .val (.int rv), .val (.int ds), .unset, .unset, .unset, .unset] [(.ref b7)]))
  have Kl3 := Kl2.wr W11 (Or.inr slb)
  refine own_go (S' := (T11.setTop (mkF m 185 #[.val (.int p1), .val (.int p2), .val (.int p3), .val (.int p4), .val (.int p5), .val (.int p6), .val (.int (Int32.ofNat nn)), .val (.int l1), .val (.int l1), .val (.int l2), .val (.int (own_mx l1 l2)), .val (.int l3), .val (.int (own_mx (own_mx l1 l2) l3)), .val (.int (Int32.ofNat kk)), .val (.int sI), .val (.int rv), .val (.int ds), .val (.ref b7), .unset, .unset, .unset] []))) (fun t_ k_ => ?_) ?_
  · refine XS.astore X11.here hx rfl (hb hby at_183) rfl rfl (l' := #[.val (.int p1), .val (.int p2), .val (.int p3), .val (.int p4), .val (.int p5), .val (.int p6), .val (.int (Int32.ofNat nn)), .val (.int l1), .val (.int l1), .val (.int l2), .val (.int (own_mx l1 l2)), .val (.int l3), .val (.int (own_mx (own_mx l1 l2) l3)), .val (.int (Int32.ofNat kk)), .val (.int sI), .val (.int rv), .val (.int ds), .val (.ref b7), .unset, .unset, .unset]) rfl ?_
    show Steps p.tables e below (T11.setTop (mkF m 185 #[.val (.int p1), .val (.int p2), .val (.int p3), .val (.int p4), .val (.int p5), .val (.int p6), .val (.int (Int32.ofNat nn)), .val (.int l1), .val (.int l1), .val (.int l2), .val (.int (own_mx l1 l2)), .val (.int l3), .val (.int (own_mx (own_mx l1 l2) l3)), .val (.int (Int32.ofNat kk)), .val (.int sI), .val (.int rv), .val (.int ds), .val (.ref b7), .unset, .unset, .unset] [])) _
    exact k_
  have VL : Arv Z h11 b7 k7 .int 4 [(.int (0 : Int32)), (.int l1), (.int l2), (.int l3)] (.int (0 : Int32)) := V11
  have Zl : n0 ≤ h11.size := Nat.le_trans Z0 Kl3.1
  obtain ⟨T12, h12, X12, e12, E12, A12, D12, -, st12⟩ := newO X11 hx hZ hown (hw _ (List.mem_of_getElem? (i := 6) rfl)) (hw _ (List.mem_of_getElem? (i := 7) rfl)) (hw _ (List.mem_of_getElem? (i := 8) rfl)) e11 (g := (mkF m 185 #[.val (.int p1), .val (.int p2), .val (.int p3), .val (.int p4), .val (.int p5), .val (.int p6), .val (.int (Int32.ofNat nn)), .val (.int l1), .val (.int l1), .val (.int l2), .val (.int (own_mx l1 l2)), .val (.int l3), .val (.int (own_mx (own_mx l1 l2) l3)), .val (.int (Int32.ofNat kk)), .val (.int sI), .val (.int rv), .val (.int ds), .val (.ref b7), .unset, .unset, .unset] [])) rfl (hb hby at_185) (by decide) (by decide)
  obtain ⟨b12, g12⟩ : ∃ z, z = h11.size := ⟨_, rfl⟩
  rw [← g12] at A12 D12 st12
  have gb12 : n0 ≤ b12 := Nat.le_trans Zl (Nat.le_of_eq g12.symm)
  refine own_go st12 ?_
  show own_Rch p e below _ (T12.setTop (mkF m 188 #[.val (.int p1), .val (.int p2), .val (.int p3), .val (.int p4), .val (.int p5), .val (.int p6), .val (.int (Int32.ofNat nn)), .val (.int l1), .val (.int l1), .val (.int l2), .val (.int (own_mx l1 l2)), .val (.int l3), .val (.int (own_mx (own_mx l1 l2) l3)), .val (.int (Int32.ofNat kk)), .val (.int sI), .val (.int rv), .val (.int ds), .val (.ref b7), .unset, .unset, .unset] [(.ref b12)]))
  refine own_go (S' := (T12.setTop (mkF m 189 #[.val (.int p1), .val (.int p2), .val (.int p3), .val (.int p4), .val (.int p5), .val (.int p6), .val (.int (Int32.ofNat nn)), .val (.int l1), .val (.int l1), .val (.int l2), .val (.int (own_mx l1 l2)), .val (.int l3), .val (.int (own_mx (own_mx l1 l2) l3)), .val (.int (Int32.ofNat kk)), .val (.int sI), .val (.int rv), .val (.int ds), .val (.ref b7), .unset, .unset, .unset] [(.ref b12), (.ref b12)]))) (fun t_ k_ => ?_) ?_
  · refine XS.dup X12.here hx rfl (hb hby at_188) rfl rfl ?_
    show Steps p.tables e below (T12.setTop (mkF m 189 #[.val (.int p1), .val (.int p2), .val (.int p3), .val (.int p4), .val (.int p5), .val (.int p6), .val (.int (Int32.ofNat nn)), .val (.int l1), .val (.int l1), .val (.int l2), .val (.int (own_mx l1 l2)), .val (.int l3), .val (.int (own_mx (own_mx l1 l2) l3)), .val (.int (Int32.ofNat kk)), .val (.int sI), .val (.int rv), .val (.int ds), .val (.ref b7), .unset, .unset, .unset] [(.ref b12), (.ref b12)])) _
    exact k_
  have D_size : Fld Z h12 b12 "java/util/ArrayList" "size" "I" (.int 0) := D12 (Or.inl (hw _ (List.mem_of_getElem? (i := 50) rfl))) (ty := .int) (by decide)
  have D_elementData : Fld Z h12 b12 "java/util/ArrayList" "elementData" "[Ljava/lang/Object;" .null := D12 (Or.inl (hw _ (List.mem_of_getElem? (i := 31) rfl))) (ty := (.array (.object "java/lang/Object"))) (by decide)
  have D_modCount : Fld Z h12 b12 "java/util/AbstractList" "modCount" "I" (.int 0) := D12 (Or.inl (hw _ (List.mem_of_getElem? (i := 28) rfl))) (ty := .int) (by decide)
  have Z3 : n0 ≤ h12.size := Nat.le_trans Zl E12.1
  have K3 := Kl3.ext E12
  obtain ⟨_, T13, L13, X13, ⟨rfl, N13q, K13, E13, f113, f213, f313⟩, st13⟩ := own_callC X12 hx hZ (y := (⟨"java/util/ArrayList", "<init>", "()V"⟩ : MethodName)) rfl hown (hw _ (List.mem_of_getElem? (i := 9) rfl)) (hw _ (List.mem_of_getElem? (i := 10) rfl)) (hw _ (List.mem_of_getElem? (i := 8) rfl)) (hw _ (List.mem_of_getElem? (i := 11) rfl)) (by decide) (own_c2 l Z a0 hw [] b12 de h12 n0 Z3 D_size D_elementData D_modCount A12 gb12 (own_staK S K3)) e12 (a := b12) (W := 1) (by decide) (by decide) (g := (mkF m 189 #[.val (.int p1), .val (.int p2), .val (.int p3), .val (.int p4), .val (.int p5), .val (.int p6), .val (.int (Int32.ofNat nn)), .val (.int l1), .val (.int l1), .val (.int l2), .val (.int (own_mx l1 l2)), .val (.int l3), .val (.int (own_mx (own_mx l1 l2) l3)), .val (.int (Int32.ofNat kk)), .val (.int sI), .val (.int rv), .val (.int ds), .val (.ref b7), .unset, .unset, .unset] [(.ref b12), (.ref b12)])) rfl (by rw [hml]; rfl) (argsL := []) (rest := [(.ref b12)]) (lenOf own_pd0 rfl) rfl rfl rfl (hb hby at_189) (by decide) (by decide)
  have N13 := Fr.app N11 N13q
  refine own_go st13 ?_
  show own_Rch p e below _ (T13.setTop (mkF m 192 #[.val (.int p1), .val (.int p2), .val (.int p3), .val (.int p4), .val (.int p5), .val (.int p6), .val (.int (Int32.ofNat nn)), .val (.int l1), .val (.int l1), .val (.int l2), .val (.int (own_mx l1 l2)), .val (.int l3), .val (.int (own_mx (own_mx l1 l2) l3)), .val (.int (Int32.ofNat kk)), .val (.int sI), .val (.int rv), .val (.int ds), .val (.ref b7), .unset, .unset, .unset] [(.ref b12)]))
  refine own_go (S' := (T13.setTop (mkF m 196 #[.val (.int p1), .val (.int p2), .val (.int p3), .val (.int p4), .val (.int p5), .val (.int p6), .val (.int (Int32.ofNat nn)), .val (.int l1), .val (.int l1), .val (.int l2), .val (.int (own_mx l1 l2)), .val (.int l3), .val (.int (own_mx (own_mx l1 l2) l3)), .val (.int (Int32.ofNat kk)), .val (.int sI), .val (.int rv), .val (.int ds), .val (.ref b7), .val (.ref b12), .unset, .unset] [(.int (Int32.ofNat kk))]))) (fun t_ k_ => ?_) ?_
  · refine XS.astore X13.here hx rfl (hb hby at_192) rfl rfl (l' := #[.val (.int p1), .val (.int p2), .val (.int p3), .val (.int p4), .val (.int p5), .val (.int p6), .val (.int (Int32.ofNat nn)), .val (.int l1), .val (.int l1), .val (.int l2), .val (.int (own_mx l1 l2)), .val (.int l3), .val (.int (own_mx (own_mx l1 l2) l3)), .val (.int (Int32.ofNat kk)), .val (.int sI), .val (.int rv), .val (.int ds), .val (.ref b7), .val (.ref b12), .unset, .unset]) rfl ?_
    show Steps p.tables e below (T13.setTop (mkF m 194 #[.val (.int p1), .val (.int p2), .val (.int p3), .val (.int p4), .val (.int p5), .val (.int p6), .val (.int (Int32.ofNat nn)), .val (.int l1), .val (.int l1), .val (.int l2), .val (.int (own_mx l1 l2)), .val (.int l3), .val (.int (own_mx (own_mx l1 l2) l3)), .val (.int (Int32.ofNat kk)), .val (.int sI), .val (.int rv), .val (.int ds), .val (.ref b7), .val (.ref b12), .unset, .unset] [])) _
    refine XS.iload X13.here hx rfl (hb hby at_194) rfl ?_
    show Steps p.tables e below (T13.setTop (mkF m 196 #[.val (.int p1), .val (.int p2), .val (.int p3), .val (.int p4), .val (.int p5), .val (.int p6), .val (.int (Int32.ofNat nn)), .val (.int l1), .val (.int l1), .val (.int l2), .val (.int (own_mx l1 l2)), .val (.int l3), .val (.int (own_mx (own_mx l1 l2) l3)), .val (.int (Int32.ofNat kk)), .val (.int sI), .val (.int rv), .val (.int ds), .val (.ref b7), .val (.ref b12), .unset, .unset] [(.int (Int32.ofNat kk))])) _
    exact k_
  have nla : b7 ≠ b12 := Nat.ne_of_lt (Nat.lt_of_lt_of_le VL.lt (Nat.le_of_eq g12.symm))
  have sal : h0.size ≤ b12 := Nat.le_trans Kl3.1 (Nat.le_of_eq g12.symm)
  have VL1 := (VL.ext E12).keep K13 (ninS nla nin0)
  have K4 : Keep h0 T13.heap [] := K3.trans K13 (fun x hx => Or.inr (by cases List.mem_singleton.mp hx; exact sal))
  have Z4 : n0 ≤ T13.heap.size := Nat.le_trans Z3 K13.1
  have O : ∀ (TO : State) (lcO : List Loc) (hO : Heap) (gs : List (Addr × List Int32)) (XO : Stand p l e room_1 s m #[(.int p1), (.int p2), (.int p3), (.int p4), (.int p5), (.int p6)] below meth c TO lcO 7 33) (eO : TO.heap = hO) (NO : Fr n0 lcO) (hg : gs.map (·.2) = own_XS kk (Int32.ofNat nn) sI rv ds l1 l2 l3) (ZO : n0 ≤ hO.size) (LO : own_Lst Z hO b12 gs) (VO : Arv Z hO b7 k7 .int 4 [(.int (0 : Int32)), (.int l1), (.int l2), (.int l3)] (.int (0 : Int32))), own_Rch p e below (own_Fin s room_1.cells room_1.slots (fun v h L => v = some (.int 1) ∧ Fr n0 L)) (TO.setTop (mkF m 305 #[.val (.int p1), .val (.int p2), .val (.int p3), .val (.int p4), .val (.int p5), .val (.int p6), .val (.int (Int32.ofNat nn)), .val (.int l1), .val (.int l1), .val (.int l2), .val (.int (own_mx l1 l2)), .val (.int l3), .val (.int (own_mx (own_mx l1 l2) l3)), .val (.int (Int32.ofNat kk)), .val (.int sI), .val (.int rv), .val (.int ds), .val (.ref b7), .val (.ref b12), .unset, .unset] [])) := by
    intro TO lcO hO gs XO eO NO hg ZO LO VO
    refine own_go (S' := (TO.setTop (mkF m 309 #[.val (.int p1), .val (.int p2), .val (.int p3), .val (.int p4), .val (.int p5), .val (.int p6), .val (.int (Int32.ofNat nn)), .val (.int l1), .val (.int l1), .val (.int l2), .val (.int (own_mx l1 l2)), .val (.int l3), .val (.int (own_mx (own_mx l1 l2) l3)), .val (.int (Int32.ofNat kk)), .val (.int sI), .val (.int rv), .val (.int ds), .val (.ref b7), .val (.ref b12), .unset, .unset] [(.ref b12), (.int (Int32.ofNat nn))]))) (fun t_ k_ => ?_) ?_
    · refine XS.iload XO.here hx rfl (hb hby at_305) rfl ?_
      show Steps p.tables e below (TO.setTop (mkF m 307 #[.val (.int p1), .val (.int p2), .val (.int p3), .val (.int p4), .val (.int p5), .val (.int p6), .val (.int (Int32.ofNat nn)), .val (.int l1), .val (.int l1), .val (.int l2), .val (.int (own_mx l1 l2)), .val (.int l3), .val (.int (own_mx (own_mx l1 l2) l3)), .val (.int (Int32.ofNat kk)), .val (.int sI), .val (.int rv), .val (.int ds), .val (.ref b7), .val (.ref b12), .unset, .unset] [(.int (Int32.ofNat nn))])) _
      refine XS.aload XO.here hx rfl (hb hby at_307) rfl rfl ?_
      show Steps p.tables e below (TO.setTop (mkF m 309 #[.val (.int p1), .val (.int p2), .val (.int p3), .val (.int p4), .val (.int p5), .val (.int p6), .val (.int (Int32.ofNat nn)), .val (.int l1), .val (.int l1), .val (.int l2), .val (.int (own_mx l1 l2)), .val (.int l3), .val (.int (own_mx (own_mx l1 l2) l3)), .val (.int (Int32.ofNat kk)), .val (.int sI), .val (.int rv), .val (.int ds), .val (.ref b7), .val (.ref b12), .unset, .unset] [(.ref b12), (.int (Int32.ofNat nn))])) _
      exact k_
    obtain ⟨hcn, hgn⟩ : gs.length = kk ∧ True := ⟨by have q := congrArg List.length hg; rw [own_XS] at q; simpa using q, trivial⟩
    obtain ⟨_, T14, L14, X14, ⟨ob, bb, kb, rfl, N14q, K14, E14, Fa14, Fb14, V14⟩, st14⟩ := own_callS XO hx hZ (y := (⟨"com/example/anonutils/anonutils/Clustering", "of", "(ILjava/util/List;)Lcom/example/anonutils/anonutils/Clustering;"⟩ : MethodName)) hown (hw _ (List.mem_of_getElem? (i := 32) rfl)) (hw _ (List.mem_of_getElem? (i := 33) rfl)) (hw _ (List.mem_of_getElem? (i := 34) rfl)) (hw _ (List.mem_of_getElem? (i := 35) rfl)) (by decide) (own_c6 l Z a0 hw [] nn hn4 b12 gs cs hO n0 ZO LO (by rw [hg]; exact hrun)) eO (W := 0) (by decide) (by decide) (g := (mkF m 309 #[.val (.int p1), .val (.int p2), .val (.int p3), .val (.int p4), .val (.int p5), .val (.int p6), .val (.int (Int32.ofNat nn)), .val (.int l1), .val (.int l1), .val (.int l2), .val (.int (own_mx l1 l2)), .val (.int l3), .val (.int (own_mx (own_mx l1 l2) l3)), .val (.int (Int32.ofNat kk)), .val (.int sI), .val (.int rv), .val (.int ds), .val (.ref b7), .val (.ref b12), .unset, .unset] [(.ref b12), (.int (Int32.ofNat nn))])) rfl (by rw [hml]; rfl) (argsL := [(.int (Int32.ofNat nn)), (.ref b12)]) (rest := []) (lenOf own_pd10 rfl) rfl rfl rfl (hb hby at_309) (by decide) (by decide)
    have N14 := Fr.app NO N14q
    refine own_go st14 ?_
    show own_Rch p e below _ (T14.setTop (mkF m 312 #[.val (.int p1), .val (.int p2), .val (.int p3), .val (.int p4), .val (.int p5), .val (.int p6), .val (.int (Int32.ofNat nn)), .val (.int l1), .val (.int l1), .val (.int l2), .val (.int (own_mx l1 l2)), .val (.int l3), .val (.int (own_mx (own_mx l1 l2) l3)), .val (.int (Int32.ofNat kk)), .val (.int sI), .val (.int rv), .val (.int ds), .val (.ref b7), .val (.ref b12), .unset, .unset] [(.ref ob)]))
    refine own_go (S' := (T14.setTop (mkF m 316 #[.val (.int p1), .val (.int p2), .val (.int p3), .val (.int p4), .val (.int p5), .val (.int p6), .val (.int (Int32.ofNat nn)), .val (.int l1), .val (.int l1), .val (.int l2), .val (.int (own_mx l1 l2)), .val (.int l3), .val (.int (own_mx (own_mx l1 l2) l3)), .val (.int (Int32.ofNat kk)), .val (.int sI), .val (.int rv), .val (.int ds), .val (.ref b7), .val (.ref b12), .val (.ref ob), .unset] [(.ref ob)]))) (fun t_ k_ => ?_) ?_
    · refine XS.astore X14.here hx rfl (hb hby at_312) rfl rfl (l' := #[.val (.int p1), .val (.int p2), .val (.int p3), .val (.int p4), .val (.int p5), .val (.int p6), .val (.int (Int32.ofNat nn)), .val (.int l1), .val (.int l1), .val (.int l2), .val (.int (own_mx l1 l2)), .val (.int l3), .val (.int (own_mx (own_mx l1 l2) l3)), .val (.int (Int32.ofNat kk)), .val (.int sI), .val (.int rv), .val (.int ds), .val (.ref b7), .val (.ref b12), .val (.ref ob), .unset]) rfl ?_
      show Steps p.tables e below (T14.setTop (mkF m 314 #[.val (.int p1), .val (.int p2), .val (.int p3), .val (.int p4), .val (.int p5), .val (.int p6), .val (.int (Int32.ofNat nn)), .val (.int l1), .val (.int l1), .val (.int l2), .val (.int (own_mx l1 l2)), .val (.int l3), .val (.int (own_mx (own_mx l1 l2) l3)), .val (.int (Int32.ofNat kk)), .val (.int sI), .val (.int rv), .val (.int ds), .val (.ref b7), .val (.ref b12), .val (.ref ob), .unset] [])) _
      refine XS.aload X14.here hx rfl (hb hby at_314) rfl rfl ?_
      show Steps p.tables e below (T14.setTop (mkF m 316 #[.val (.int p1), .val (.int p2), .val (.int p3), .val (.int p4), .val (.int p5), .val (.int p6), .val (.int (Int32.ofNat nn)), .val (.int l1), .val (.int l1), .val (.int l2), .val (.int (own_mx l1 l2)), .val (.int l3), .val (.int (own_mx (own_mx l1 l2) l3)), .val (.int (Int32.ofNat kk)), .val (.int sI), .val (.int rv), .val (.int ds), .val (.ref b7), .val (.ref b12), .val (.ref ob), .unset] [(.ref ob)])) _
      exact k_
    have ZP : n0 ≤ T14.heap.size := Nat.le_trans ZO K14.1
    have VP := VO.keep K14 nin0
    rw [hcn] at Fb14
    obtain ⟨_, T15, L15, X15, ⟨rfl, N15q, k15⟩, st15⟩ := own_callV X14 hx hZ (y := (⟨"com/example/anonutils/anonutils/Clustering", "recordCount", "()I"⟩ : MethodName)) (z := (⟨"com/example/anonutils/anonutils/Clustering", "recordCount", "()I"⟩ : MethodName)) (C := "com/example/anonutils/anonutils/Clustering") hown (hw _ (List.mem_of_getElem? (i := 61) rfl)) (hw _ (List.mem_of_getElem? (i := 62) rfl)) (notFace_of_selects (args := #[]) (mvT hZ (hw _ (List.mem_of_getElem? (i := 64) rfl)))) (hw _ (List.mem_of_getElem? (i := 64) rfl)) (hw _ (List.mem_of_getElem? (i := 63) rfl)) (hw _ (List.mem_of_getElem? (i := 34) rfl)) (hw _ (List.mem_of_getElem? (i := 65) rfl)) (by decide) (own_c10 l Z a0 hw [] ob bb kb (Int32.ofNat nn) (cs.map Value.int) T14.heap n0 ZP Fa14 V14) rfl E14 (W := 0) (by decide) (by decide) (g := (mkF m 316 #[.val (.int p1), .val (.int p2), .val (.int p3), .val (.int p4), .val (.int p5), .val (.int p6), .val (.int (Int32.ofNat nn)), .val (.int l1), .val (.int l1), .val (.int l2), .val (.int (own_mx l1 l2)), .val (.int l3), .val (.int (own_mx (own_mx l1 l2) l3)), .val (.int (Int32.ofNat kk)), .val (.int sI), .val (.int rv), .val (.int ds), .val (.ref b7), .val (.ref b12), .val (.ref ob), .unset] [(.ref ob)])) rfl (by rw [hml]; rfl) (argsL := []) (rest := []) (lenOf own_pd8 rfl) rfl rfl rfl (hb hby at_316) (by decide) (by decide)
    have N15 := Fr.app N14 N15q
    refine own_go st15 ?_
    show own_Rch p e below _ (T15.setTop (mkF m 319 #[.val (.int p1), .val (.int p2), .val (.int p3), .val (.int p4), .val (.int p5), .val (.int p6), .val (.int (Int32.ofNat nn)), .val (.int l1), .val (.int l1), .val (.int l2), .val (.int (own_mx l1 l2)), .val (.int l3), .val (.int (own_mx (own_mx l1 l2) l3)), .val (.int (Int32.ofNat kk)), .val (.int sI), .val (.int rv), .val (.int ds), .val (.ref b7), .val (.ref b12), .val (.ref ob), .unset] [(.int (Int32.ofNat nn))]))
    refine own_go (S' := (T15.setTop (mkF m 321 #[.val (.int p1), .val (.int p2), .val (.int p3), .val (.int p4), .val (.int p5), .val (.int p6), .val (.int (Int32.ofNat nn)), .val (.int l1), .val (.int l1), .val (.int l2), .val (.int (own_mx l1 l2)), .val (.int l3), .val (.int (own_mx (own_mx l1 l2) l3)), .val (.int (Int32.ofNat kk)), .val (.int sI), .val (.int rv), .val (.int ds), .val (.ref b7), .val (.ref b12), .val (.ref ob), .unset] [(.int (Int32.ofNat nn)), (.int (Int32.ofNat nn))]))) (fun t_ k_ => ?_) ?_
    · refine XS.iload X15.here hx rfl (hb hby at_319) rfl ?_
      show Steps p.tables e below (T15.setTop (mkF m 321 #[.val (.int p1), .val (.int p2), .val (.int p3), .val (.int p4), .val (.int p5), .val (.int p6), .val (.int (Int32.ofNat nn)), .val (.int l1), .val (.int l1), .val (.int l2), .val (.int (own_mx l1 l2)), .val (.int l3), .val (.int (own_mx (own_mx l1 l2) l3)), .val (.int (Int32.ofNat kk)), .val (.int sI), .val (.int rv), .val (.int ds), .val (.ref b7), .val (.ref b12), .val (.ref ob), .unset] [(.int (Int32.ofNat nn)), (.int (Int32.ofNat nn))])) _
      exact k_
    refine own_go (S' := (T15.setTop (mkF m 326 #[.val (.int p1), .val (.int p2), .val (.int p3), .val (.int p4), .val (.int p5), .val (.int p6), .val (.int (Int32.ofNat nn)), .val (.int l1), .val (.int l1), .val (.int l2), .val (.int (own_mx l1 l2)), .val (.int l3), .val (.int (own_mx (own_mx l1 l2) l3)), .val (.int (Int32.ofNat kk)), .val (.int sI), .val (.int rv), .val (.int ds), .val (.ref b7), .val (.ref b12), .val (.ref ob), .unset] [(.ref ob)]))) (fun t_ k_ => ?_) ?_
    · refine XS.icmpNo X15.here hx rfl (hb hby at_321) rfl (teq rfl).2 ?_
      show Steps p.tables e below (T15.setTop (mkF m 324 #[.val (.int p1), .val (.int p2), .val (.int p3), .val (.int p4), .val (.int p5), .val (.int p6), .val (.int (Int32.ofNat nn)), .val (.int l1), .val (.int l1), .val (.int l2), .val (.int (own_mx l1 l2)), .val (.int l3), .val (.int (own_mx (own_mx l1 l2) l3)), .val (.int (Int32.ofNat kk)), .val (.int sI), .val (.int rv), .val (.int ds), .val (.ref b7), .val (.ref b12), .val (.ref ob), .unset] [])) _
      refine XS.aload X15.here hx rfl (hb hby at_324) rfl rfl ?_
      show Steps p.tables e below (T15.setTop (mkF m 326 #[.val (.int p1), .val (.int p2), .val (.int p3), .val (.int p4), .val (.int p5), .val (.int p6), .val (.int (Int32.ofNat nn)), .val (.int l1), .val (.int l1), .val (.int l2), .val (.int (own_mx l1 l2)), .val (.int l3), .val (.int (own_mx (own_mx l1 l2) l3)), .val (.int (Int32.ofNat kk)), .val (.int sI), .val (.int rv), .val (.int ds), .val (.ref b7), .val (.ref b12), .val (.ref ob), .unset] [(.ref ob)])) _
      exact k_
    obtain ⟨_, T16, L16, X16, ⟨rfl, N16q, k16⟩, st16⟩ := own_callV X15 hx hZ (y := (⟨"com/example/anonutils/anonutils/Clustering", "count", "()I"⟩ : MethodName)) (z := (⟨"com/example/anonutils/anonutils/Clustering", "count", "()I"⟩ : MethodName)) (C := "com/example/anonutils/anonutils/Clustering") hown (hw _ (List.mem_of_getElem? (i := 66) rfl)) (hw _ (List.mem_of_getElem? (i := 67) rfl)) (notFace_of_selects (args := #[]) (mvT hZ (hw _ (List.mem_of_getElem? (i := 69) rfl)))) (hw _ (List.mem_of_getElem? (i := 69) rfl)) (hw _ (List.mem_of_getElem? (i := 68) rfl)) (hw _ (List.mem_of_getElem? (i := 34) rfl)) (hw _ (List.mem_of_getElem? (i := 70) rfl)) (by decide) (own_c11 l Z a0 hw [] ob (Int32.ofNat kk) T15.heap n0 (by rw [k15]; exact ZP) (by rw [k15]; exact Fb14)) rfl (by rw [k15]; exact E14) (W := 0) (by decide) (by decide) (g := (mkF m 326 #[.val (.int p1), .val (.int p2), .val (.int p3), .val (.int p4), .val (.int p5), .val (.int p6), .val (.int (Int32.ofNat nn)), .val (.int l1), .val (.int l1), .val (.int l2), .val (.int (own_mx l1 l2)), .val (.int l3), .val (.int (own_mx (own_mx l1 l2) l3)), .val (.int (Int32.ofNat kk)), .val (.int sI), .val (.int rv), .val (.int ds), .val (.ref b7), .val (.ref b12), .val (.ref ob), .unset] [(.ref ob)])) rfl (by rw [hml]; rfl) (argsL := []) (rest := []) (lenOf own_pd8 rfl) rfl rfl rfl (hb hby at_326) (by decide) (by decide)
    have N16 := Fr.app N15 N16q
    refine own_go st16 ?_
    show own_Rch p e below _ (T16.setTop (mkF m 329 #[.val (.int p1), .val (.int p2), .val (.int p3), .val (.int p4), .val (.int p5), .val (.int p6), .val (.int (Int32.ofNat nn)), .val (.int l1), .val (.int l1), .val (.int l2), .val (.int (own_mx l1 l2)), .val (.int l3), .val (.int (own_mx (own_mx l1 l2) l3)), .val (.int (Int32.ofNat kk)), .val (.int sI), .val (.int rv), .val (.int ds), .val (.ref b7), .val (.ref b12), .val (.ref ob), .unset] [(.int (Int32.ofNat kk))]))
    refine own_go (S' := (T16.setTop (mkF m 331 #[.val (.int p1), .val (.int p2), .val (.int p3), .val (.int p4), .val (.int p5), .val (.int p6), .val (.int (Int32.ofNat nn)), .val (.int l1), .val (.int l1), .val (.int l2), .val (.int (own_mx l1 l2)), .val (.int l3), .val (.int (own_mx (own_mx l1 l2) l3)), .val (.int (Int32.ofNat kk)), .val (.int sI), .val (.int rv), .val (.int ds), .val (.ref b7), .val (.ref b12), .val (.ref ob), .unset] [(.int (Int32.ofNat kk)), (.int (Int32.ofNat kk))]))) (fun t_ k_ => ?_) ?_
    · refine XS.iload X16.here hx rfl (hb hby at_329) rfl ?_
      show Steps p.tables e below (T16.setTop (mkF m 331 #[.val (.int p1), .val (.int p2), .val (.int p3), .val (.int p4), .val (.int p5), .val (.int p6), .val (.int (Int32.ofNat nn)), .val (.int l1), .val (.int l1), .val (.int l2), .val (.int (own_mx l1 l2)), .val (.int l3), .val (.int (own_mx (own_mx l1 l2) l3)), .val (.int (Int32.ofNat kk)), .val (.int sI), .val (.int rv), .val (.int ds), .val (.ref b7), .val (.ref b12), .val (.ref ob), .unset] [(.int (Int32.ofNat kk)), (.int (Int32.ofNat kk))])) _
      exact k_
    refine own_go (S' := (T16.setTop (mkF m 341 #[.val (.int p1), .val (.int p2), .val (.int p3), .val (.int p4), .val (.int p5), .val (.int p6), .val (.int (Int32.ofNat nn)), .val (.int l1), .val (.int l1), .val (.int l2), .val (.int (own_mx l1 l2)), .val (.int l3), .val (.int (own_mx (own_mx l1 l2) l3)), .val (.int (Int32.ofNat kk)), .val (.int sI), .val (.int rv), .val (.int ds), .val (.ref b7), .val (.ref b12), .val (.ref ob), .val (.int (1 : Int32))] []))) (fun t_ k_ => ?_) ?_
    · refine XS.icmpNo X16.here hx rfl (hb hby at_331) rfl (teq rfl).2 ?_
      show Steps p.tables e below (T16.setTop (mkF m 334 #[.val (.int p1), .val (.int p2), .val (.int p3), .val (.int p4), .val (.int p5), .val (.int p6), .val (.int (Int32.ofNat nn)), .val (.int l1), .val (.int l1), .val (.int l2), .val (.int (own_mx l1 l2)), .val (.int l3), .val (.int (own_mx (own_mx l1 l2) l3)), .val (.int (Int32.ofNat kk)), .val (.int sI), .val (.int rv), .val (.int ds), .val (.ref b7), .val (.ref b12), .val (.ref ob), .unset] [])) _
      refine XS.iconst X16.here hx rfl (hb hby at_334) ?_
      show Steps p.tables e below (T16.setTop (mkF m 335 #[.val (.int p1), .val (.int p2), .val (.int p3), .val (.int p4), .val (.int p5), .val (.int p6), .val (.int (Int32.ofNat nn)), .val (.int l1), .val (.int l1), .val (.int l2), .val (.int (own_mx l1 l2)), .val (.int l3), .val (.int (own_mx (own_mx l1 l2) l3)), .val (.int (Int32.ofNat kk)), .val (.int sI), .val (.int rv), .val (.int ds), .val (.ref b7), .val (.ref b12), .val (.ref ob), .unset] [(.int (1 : Int32))])) _
      refine XS.goto X16.here hx rfl (pc0 := 335) (pc' := 339) rfl (hb hby at_335) (by decide) (by decide) ?_
      show Steps p.tables e below (T16.setTop (mkF m 339 #[.val (.int p1), .val (.int p2), .val (.int p3), .val (.int p4), .val (.int p5), .val (.int p6), .val (.int (Int32.ofNat nn)), .val (.int l1), .val (.int l1), .val (.int l2), .val (.int (own_mx l1 l2)), .val (.int l3), .val (.int (own_mx (own_mx l1 l2) l3)), .val (.int (Int32.ofNat kk)), .val (.int sI), .val (.int rv), .val (.int ds), .val (.ref b7), .val (.ref b12), .val (.ref ob), .unset] [(.int (1 : Int32))])) _
      refine XS.istore X16.here hx rfl (hb hby at_339) rfl (l' := #[.val (.int p1), .val (.int p2), .val (.int p3), .val (.int p4), .val (.int p5), .val (.int p6), .val (.int (Int32.ofNat nn)), .val (.int l1), .val (.int l1), .val (.int l2), .val (.int (own_mx l1 l2)), .val (.int l3), .val (.int (own_mx (own_mx l1 l2) l3)), .val (.int (Int32.ofNat kk)), .val (.int sI), .val (.int rv), .val (.int ds), .val (.ref b7), .val (.ref b12), .val (.ref ob), .val (.int (1 : Int32))]) rfl ?_
      show Steps p.tables e below (T16.setTop (mkF m 341 #[.val (.int p1), .val (.int p2), .val (.int p3), .val (.int p4), .val (.int p5), .val (.int p6), .val (.int (Int32.ofNat nn)), .val (.int l1), .val (.int l1), .val (.int l2), .val (.int (own_mx l1 l2)), .val (.int l3), .val (.int (own_mx (own_mx l1 l2) l3)), .val (.int (Int32.ofNat kk)), .val (.int sI), .val (.int rv), .val (.int ds), .val (.ref b7), .val (.ref b12), .val (.ref ob), .val (.int (1 : Int32))] [])) _
      exact k_
    have C4 : ∀ (TC4 : State) (lcC4 : List Loc) (hC4 : Heap)  (XC4 : Stand p l e room_1 s m #[(.int p1), (.int p2), (.int p3), (.int p4), (.int p5), (.int p6)] below meth c TC4 lcC4 9 39) (eC4 : TC4.heap = hC4) (NC4 : Fr n0 lcC4) (Z4 : n0 ≤ hC4.size) (E4_ : Exa Z hC4 ob "com/example/anonutils/anonutils/Clustering") (F4_ : Fld Z hC4 ob "com/example/anonutils/anonutils/Clustering" "clusterOf" "[I" (.ref bb)) (V4_ : Arv Z hC4 bb kb .int (Int32.ofNat nn) (cs.map Value.int) (.int 0)) (W4_ : Arv Z hC4 b7 k7 .int 4 [(.int (0 : Int32)), (.int l1), (.int l2), (.int l3)] (.int (0 : Int32))), own_Rch p e below (own_Fin s room_1.cells room_1.slots (fun v h L => v = some (.int 1) ∧ Fr n0 L)) (TC4.setTop (mkF m 500 #[.val (.int p1), .val (.int p2), .val (.int p3), .val (.int p4), .val (.int p5), .val (.int p6), .val (.int (Int32.ofNat nn)), .val (.int l1), .val (.int l1), .val (.int l2), .val (.int (own_mx l1 l2)), .val (.int l3), .val (.int (own_mx (own_mx l1 l2) l3)), .val (.int (Int32.ofNat kk)), .val (.int sI), .val (.int rv), .val (.int ds), .val (.ref b7), .val (.ref b12), .val (.ref ob), .val (.int (1 : Int32))] [])) := by
      intro TC4 lcC4 hC4 XC4 eC4 NC4 Z4 E4_ F4_ V4_ W4_
      refine own_go (S' := (TC4.setTop (mkF m 502 #[.val (.int p1), .val (.int p2), .val (.int p3), .val (.int p4), .val (.int p5), .val (.int p6), .val (.int (Int32.ofNat nn)), .val (.int l1), .val (.int l1), .val (.int l2), .val (.int (own_mx l1 l2)), .val (.int l3), .val (.int (own_mx (own_mx l1 l2) l3)), .val (.int (Int32.ofNat kk)), .val (.int sI), .val (.int rv), .val (.int ds), .val (.ref b7), .val (.ref b12), .val (.ref ob), .val (.int (1 : Int32))] [(.int (1 : Int32))]))) (fun t_ k_ => ?_) ?_
      · refine XS.iload XC4.here hx rfl (hb hby at_500) rfl ?_
        show Steps p.tables e below (TC4.setTop (mkF m 502 #[.val (.int p1), .val (.int p2), .val (.int p3), .val (.int p4), .val (.int p5), .val (.int p6), .val (.int (Int32.ofNat nn)), .val (.int l1), .val (.int l1), .val (.int l2), .val (.int (own_mx l1 l2)), .val (.int l3), .val (.int (own_mx (own_mx l1 l2) l3)), .val (.int (Int32.ofNat kk)), .val (.int sI), .val (.int rv), .val (.int ds), .val (.ref b7), .val (.ref b12), .val (.ref ob), .val (.int (1 : Int32))] [(.int (1 : Int32))])) _
        exact k_
      refine own_retN XC4 hx (t := .boolean) Bd.returns Bd.notSynchronized (by simp) (hb hby at_502) rfl (by decide) (by decide) ?_
      try rw [eC4]
      exact ⟨rfl, NC4⟩
    have C3 : ∀ (TC3 : State) (lcC3 : List Loc) (hC3 : Heap)  (XC3 : Stand p l e room_1 s m #[(.int p1), (.int p2), (.int p3), (.int p4), (.int p5), (.int p6)] below meth c TC3 lcC3 9 39) (eC3 : TC3.heap = hC3) (NC3 : Fr n0 lcC3) (Z3 : n0 ≤ hC3.size) (E3_ : Exa Z hC3 ob "com/example/anonutils/anonutils/Clustering") (F3_ : Fld Z hC3 ob "com/example/anonutils/anonutils/Clustering" "clusterOf" "[I" (.ref bb)) (V3_ : Arv Z hC3 bb kb .int (Int32.ofNat nn) (cs.map Value.int) (.int 0)) (W3_ : Arv Z hC3 b7 k7 .int 4 [(.int (0 : Int32)), (.int l1), (.int l2), (.int l3)] (.int (0 : Int32))), own_Rch p e below (own_Fin s room_1.cells room_1.slots (fun v h L => v = some (.int 1) ∧ Fr n0 L)) (TC3.setTop (mkF m 460 #[.val (.int p1), .val (.int p2), .val (.int p3), .val (.int p4), .val (.int p5), .val (.int p6), .val (.int (Int32.ofNat nn)), .val (.int l1), .val (.int l1), .val (.int l2), .val (.int (own_mx l1 l2)), .val (.int l3), .val (.int (own_mx (own_mx l1 l2) l3)), .val (.int (Int32.ofNat kk)), .val (.int sI), .val (.int rv), .val (.int ds), .val (.ref b7), .val (.ref b12), .val (.ref ob), .val (.int (1 : Int32))] [])) := by
      intro TC3 lcC3 hC3 XC3 eC3 NC3 Z3 E3_ F3_ V3_ W3_
      refine own_go (S' := (TC3.setTop (mkF m 462 #[.val (.int p1), .val (.int p2), .val (.int p3), .val (.int p4), .val (.int p5), .val (.int p6), .val (.int (Int32.ofNat nn)), .val (.int l1), .val (.int l1), .val (.int l2), .val (.int (own_mx l1 l2)), .val (.int l3), .val (.int (own_mx (own_mx l1 l2) l3)), .val (.int (Int32.ofNat kk)), .val (.int sI), .val (.int rv), .val (.int ds), .val (.ref b7), .val (.ref b12), .val (.ref ob), .val (.int (1 : Int32))] [(.int (1 : Int32))]))) (fun t_ k_ => ?_) ?_
      · refine XS.iload XC3.here hx rfl (hb hby at_460) rfl ?_
        show Steps p.tables e below (TC3.setTop (mkF m 462 #[.val (.int p1), .val (.int p2), .val (.int p3), .val (.int p4), .val (.int p5), .val (.int p6), .val (.int (Int32.ofNat nn)), .val (.int l1), .val (.int l1), .val (.int l2), .val (.int (own_mx l1 l2)), .val (.int l3), .val (.int (own_mx (own_mx l1 l2) l3)), .val (.int (Int32.ofNat kk)), .val (.int sI), .val (.int rv), .val (.int ds), .val (.ref b7), .val (.ref b12), .val (.ref ob), .val (.int (1 : Int32))] [(.int (1 : Int32))])) _
        exact k_
      refine own_go (S' := (TC3.setTop (mkF m 468 #[.val (.int p1), .val (.int p2), .val (.int p3), .val (.int p4), .val (.int p5), .val (.int p6), .val (.int (Int32.ofNat nn)), .val (.int l1), .val (.int l1), .val (.int l2), .val (.int (own_mx l1 l2)), .val (.int l3), .val (.int (own_mx (own_mx l1 l2) l3)), .val (.int (Int32.ofNat kk)), .val (.int sI), .val (.int rv), .val (.int ds), .val (.ref b7), .val (.ref b12), .val (.ref ob), .val (.int (1 : Int32))] [(.int (3 : Int32)), (.int (Int32.ofNat nn))]))) (fun t_ k_ => ?_) ?_
      · refine XS.ifNo XC3.here hx rfl (hb hby at_462) rfl ((if0 _ _).trans (feq (by decide)).1) ?_
        show Steps p.tables e below (TC3.setTop (mkF m 465 #[.val (.int p1), .val (.int p2), .val (.int p3), .val (.int p4), .val (.int p5), .val (.int p6), .val (.int (Int32.ofNat nn)), .val (.int l1), .val (.int l1), .val (.int l2), .val (.int (own_mx l1 l2)), .val (.int l3), .val (.int (own_mx (own_mx l1 l2) l3)), .val (.int (Int32.ofNat kk)), .val (.int sI), .val (.int rv), .val (.int ds), .val (.ref b7), .val (.ref b12), .val (.ref ob), .val (.int (1 : Int32))] [])) _
        refine XS.iload XC3.here hx rfl (hb hby at_465) rfl ?_
        show Steps p.tables e below (TC3.setTop (mkF m 467 #[.val (.int p1), .val (.int p2), .val (.int p3), .val (.int p4), .val (.int p5), .val (.int p6), .val (.int (Int32.ofNat nn)), .val (.int l1), .val (.int l1), .val (.int l2), .val (.int (own_mx l1 l2)), .val (.int l3), .val (.int (own_mx (own_mx l1 l2) l3)), .val (.int (Int32.ofNat kk)), .val (.int sI), .val (.int rv), .val (.int ds), .val (.ref b7), .val (.ref b12), .val (.ref ob), .val (.int (1 : Int32))] [(.int (Int32.ofNat nn))])) _
        refine XS.iconst XC3.here hx rfl (hb hby at_467) ?_
        show Steps p.tables e below (TC3.setTop (mkF m 468 #[.val (.int p1), .val (.int p2), .val (.int p3), .val (.int p4), .val (.int p5), .val (.int p6), .val (.int (Int32.ofNat nn)), .val (.int l1), .val (.int l1), .val (.int l2), .val (.int (own_mx l1 l2)), .val (.int l3), .val (.int (own_mx (own_mx l1 l2) l3)), .val (.int (Int32.ofNat kk)), .val (.int sI), .val (.int rv), .val (.int ds), .val (.ref b7), .val (.ref b12), .val (.ref ob), .val (.int (1 : Int32))] [(.int (3 : Int32)), (.int (Int32.ofNat nn))])) _
        exact k_
      by_cases g1 : (3 : Int32) < (Int32.ofNat nn)
      · skip
        refine own_go (S' := (TC3.setTop (mkF m 480 #[.val (.int p1), .val (.int p2), .val (.int p3), .val (.int p4), .val (.int p5), .val (.int p6), .val (.int (Int32.ofNat nn)), .val (.int l1), .val (.int l1), .val (.int l2), .val (.int (own_mx l1 l2)), .val (.int l3), .val (.int (own_mx (own_mx l1 l2) l3)), .val (.int (Int32.ofNat kk)), .val (.int sI), .val (.int rv), .val (.int ds), .val (.ref b7), .val (.ref b12), .val (.ref ob), .val (.int (1 : Int32))] [(.int rv), (.int sI), (.int (Int32.ofNat nn)), (.int (3 : Int32)), (.ref ob)]))) (fun t_ k_ => ?_) ?_
        · refine XS.icmpNo XC3.here hx rfl (hb hby at_468) rfl (tlt g1).2.2.2 ?_
          show Steps p.tables e below (TC3.setTop (mkF m 471 #[.val (.int p1), .val (.int p2), .val (.int p3), .val (.int p4), .val (.int p5), .val (.int p6), .val (.int (Int32.ofNat nn)), .val (.int l1), .val (.int l1), .val (.int l2), .val (.int (own_mx l1 l2)), .val (.int l3), .val (.int (own_mx (own_mx l1 l2) l3)), .val (.int (Int32.ofNat kk)), .val (.int sI), .val (.int rv), .val (.int ds), .val (.ref b7), .val (.ref b12), .val (.ref ob), .val (.int (1 : Int32))] [])) _
          refine XS.aload XC3.here hx rfl (hb hby at_471) rfl rfl ?_
          show Steps p.tables e below (TC3.setTop (mkF m 473 #[.val (.int p1), .val (.int p2), .val (.int p3), .val (.int p4), .val (.int p5), .val (.int p6), .val (.int (Int32.ofNat nn)), .val (.int l1), .val (.int l1), .val (.int l2), .val (.int (own_mx l1 l2)), .val (.int l3), .val (.int (own_mx (own_mx l1 l2) l3)), .val (.int (Int32.ofNat kk)), .val (.int sI), .val (.int rv), .val (.int ds), .val (.ref b7), .val (.ref b12), .val (.ref ob), .val (.int (1 : Int32))] [(.ref ob)])) _
          refine XS.iconst XC3.here hx rfl (hb hby at_473) ?_
          show Steps p.tables e below (TC3.setTop (mkF m 474 #[.val (.int p1), .val (.int p2), .val (.int p3), .val (.int p4), .val (.int p5), .val (.int p6), .val (.int (Int32.ofNat nn)), .val (.int l1), .val (.int l1), .val (.int l2), .val (.int (own_mx l1 l2)), .val (.int l3), .val (.int (own_mx (own_mx l1 l2) l3)), .val (.int (Int32.ofNat kk)), .val (.int sI), .val (.int rv), .val (.int ds), .val (.ref b7), .val (.ref b12), .val (.ref ob), .val (.int (1 : Int32))] [(.int (3 : Int32)), (.ref ob)])) _
          refine XS.iload XC3.here hx rfl (hb hby at_474) rfl ?_
          show Steps p.tables e below (TC3.setTop (mkF m 476 #[.val (.int p1), .val (.int p2), .val (.int p3), .val (.int p4), .val (.int p5), .val (.int p6), .val (.int (Int32.ofNat nn)), .val (.int l1), .val (.int l1), .val (.int l2), .val (.int (own_mx l1 l2)), .val (.int l3), .val (.int (own_mx (own_mx l1 l2) l3)), .val (.int (Int32.ofNat kk)), .val (.int sI), .val (.int rv), .val (.int ds), .val (.ref b7), .val (.ref b12), .val (.ref ob), .val (.int (1 : Int32))] [(.int (Int32.ofNat nn)), (.int (3 : Int32)), (.ref ob)])) _
          refine XS.iload XC3.here hx rfl (hb hby at_476) rfl ?_
          show Steps p.tables e below (TC3.setTop (mkF m 478 #[.val (.int p1), .val (.int p2), .val (.int p3), .val (.int p4), .val (.int p5), .val (.int p6), .val (.int (Int32.ofNat nn)), .val (.int l1), .val (.int l1), .val (.int l2), .val (.int (own_mx l1 l2)), .val (.int l3), .val (.int (own_mx (own_mx l1 l2) l3)), .val (.int (Int32.ofNat kk)), .val (.int sI), .val (.int rv), .val (.int ds), .val (.ref b7), .val (.ref b12), .val (.ref ob), .val (.int (1 : Int32))] [(.int sI), (.int (Int32.ofNat nn)), (.int (3 : Int32)), (.ref ob)])) _
          refine XS.iload XC3.here hx rfl (hb hby at_478) rfl ?_
          show Steps p.tables e below (TC3.setTop (mkF m 480 #[.val (.int p1), .val (.int p2), .val (.int p3), .val (.int p4), .val (.int p5), .val (.int p6), .val (.int (Int32.ofNat nn)), .val (.int l1), .val (.int l1), .val (.int l2), .val (.int (own_mx l1 l2)), .val (.int l3), .val (.int (own_mx (own_mx l1 l2) l3)), .val (.int (Int32.ofNat kk)), .val (.int sI), .val (.int rv), .val (.int ds), .val (.ref b7), .val (.ref b12), .val (.ref ob), .val (.int (1 : Int32))] [(.int rv), (.int sI), (.int (Int32.ofNat nn)), (.int (3 : Int32)), (.ref ob)])) _
          exact k_
        have hj3 : 3 < nn := (own_ltN (by omega : (3 : Nat) ≤ 10) (by omega)).mp g1
        obtain ⟨i1, i2, i3⟩ := hids 3 hj3
        obtain ⟨_, T17, L17, X17, ⟨rfl, N17q, k17⟩, st17⟩ := own_callS XC3 hx hZ (y := (⟨"com/example/anonutils/anonutils/ClusteringOfPinLaw", "id", "(IIIZ)I"⟩ : MethodName)) hown (hw _ (List.mem_of_getElem? (i := 75) rfl)) (hw _ (List.mem_of_getElem? (i := 76) rfl)) (hw _ (List.mem_of_getElem? (i := 73) rfl)) (hw _ (List.mem_of_getElem? (i := 77) rfl)) (by decide) (own_c13 l Z a0 hw [] (Int32.ofNat 3) (Int32.ofNat nn) sI rv hC3 n0 Z3 (hnz 3 (by omega) g1)) eC3 (W := 1) (by decide) (by decide) (g := (mkF m 480 #[.val (.int p1), .val (.int p2), .val (.int p3), .val (.int p4), .val (.int p5), .val (.int p6), .val (.int (Int32.ofNat nn)), .val (.int l1), .val (.int l1), .val (.int l2), .val (.int (own_mx l1 l2)), .val (.int l3), .val (.int (own_mx (own_mx l1 l2) l3)), .val (.int (Int32.ofNat kk)), .val (.int sI), .val (.int rv), .val (.int ds), .val (.ref b7), .val (.ref b12), .val (.ref ob), .val (.int (1 : Int32))] [(.int rv), (.int sI), (.int (Int32.ofNat nn)), (.int (3 : Int32)), (.ref ob)])) rfl (by rw [hml]; rfl) (argsL := [(.int (3 : Int32)), (.int (Int32.ofNat nn)), (.int sI), (.int rv)]) (rest := [(.ref ob)]) (lenOf own_pd9 rfl) rfl rfl rfl (hb hby at_480) (by decide) (by decide)
        have N17 := Fr.app NC3 N17q
        refine own_go st17 ?_
        show own_Rch p e below _ (T17.setTop (mkF m 483 #[.val (.int p1), .val (.int p2), .val (.int p3), .val (.int p4), .val (.int p5), .val (.int p6), .val (.int (Int32.ofNat nn)), .val (.int l1), .val (.int l1), .val (.int l2), .val (.int (own_mx l1 l2)), .val (.int l3), .val (.int (own_mx (own_mx l1 l2) l3)), .val (.int (Int32.ofNat kk)), .val (.int sI), .val (.int rv), .val (.int ds), .val (.ref b7), .val (.ref b12), .val (.ref ob), .val (.int (1 : Int32))] [(.int (own_id (Int32.ofNat 3) (Int32.ofNat nn) sI rv)), (.ref ob)]))
        obtain ⟨_, T18, L18, X18, ⟨rfl, N18q, k18⟩, st18⟩ := own_callV X17 hx hZ (y := (⟨"com/example/anonutils/anonutils/Clustering", "clusterOf", "(I)I"⟩ : MethodName)) (z := (⟨"com/example/anonutils/anonutils/Clustering", "clusterOf", "(I)I"⟩ : MethodName)) (C := "com/example/anonutils/anonutils/Clustering") hown (hw _ (List.mem_of_getElem? (i := 130) rfl)) (hw _ (List.mem_of_getElem? (i := 131) rfl)) (notFace_of_selects (args := #[]) (mvT hZ (hw _ (List.mem_of_getElem? (i := 133) rfl)))) (hw _ (List.mem_of_getElem? (i := 133) rfl)) (hw _ (List.mem_of_getElem? (i := 132) rfl)) (hw _ (List.mem_of_getElem? (i := 34) rfl)) (hw _ (List.mem_of_getElem? (i := 134) rfl)) (by decide) (own_c22 l Z a0 hw [] ob bb kb (own_id (Int32.ofNat 3) (Int32.ofNat nn) sI rv) (Int32.ofNat nn) l3 (cs.map Value.int) T17.heap n0 (by rw [k17]; exact Z3) (by rw [k17]; exact F3_) (by rw [k17]; exact V3_) ⟨i1, own_ltOf (by omega) i1 i2⟩ (by rw [own_mapD, i3]; rfl)) rfl (by rw [k17]; exact E3_) (W := 0) (by decide) (by decide) (g := (mkF m 483 #[.val (.int p1), .val (.int p2), .val (.int p3), .val (.int p4), .val (.int p5), .val (.int p6), .val (.int (Int32.ofNat nn)), .val (.int l1), .val (.int l1), .val (.int l2), .val (.int (own_mx l1 l2)), .val (.int l3), .val (.int (own_mx (own_mx l1 l2) l3)), .val (.int (Int32.ofNat kk)), .val (.int sI), .val (.int rv), .val (.int ds), .val (.ref b7), .val (.ref b12), .val (.ref ob), .val (.int (1 : Int32))] [(.int (own_id (Int32.ofNat 3) (Int32.ofNat nn) sI rv)), (.ref ob)])) rfl (by rw [hml]; rfl) (argsL := [(.int (own_id (Int32.ofNat 3) (Int32.ofNat nn) sI rv))]) (rest := []) (lenOf own_pd11 rfl) rfl rfl rfl (hb hby at_483) (by decide) (by decide)
        have N18 := Fr.app N17 N18q
        refine own_go st18 ?_
        show own_Rch p e below _ (T18.setTop (mkF m 486 #[.val (.int p1), .val (.int p2), .val (.int p3), .val (.int p4), .val (.int p5), .val (.int p6), .val (.int (Int32.ofNat nn)), .val (.int l1), .val (.int l1), .val (.int l2), .val (.int (own_mx l1 l2)), .val (.int l3), .val (.int (own_mx (own_mx l1 l2) l3)), .val (.int (Int32.ofNat kk)), .val (.int sI), .val (.int rv), .val (.int ds), .val (.ref b7), .val (.ref b12), .val (.ref ob), .val (.int (1 : Int32))] [(.int l3)]))
        refine own_go (S' := (T18.setTop (mkF m 489 #[.val (.int p1), .val (.int p2), .val (.int p3), .val (.int p4), .val (.int p5), .val (.int p6), .val (.int (Int32.ofNat nn)), .val (.int l1), .val (.int l1), .val (.int l2), .val (.int (own_mx l1 l2)), .val (.int l3), .val (.int (own_mx (own_mx l1 l2) l3)), .val (.int (Int32.ofNat kk)), .val (.int sI), .val (.int rv), .val (.int ds), .val (.ref b7), .val (.ref b12), .val (.ref ob), .val (.int (1 : Int32))] [(.int (3 : Int32)), (.ref b7), (.int l3)]))) (fun t_ k_ => ?_) ?_
        · refine XS.aload X18.here hx rfl (hb hby at_486) rfl rfl ?_
          show Steps p.tables e below (T18.setTop (mkF m 488 #[.val (.int p1), .val (.int p2), .val (.int p3), .val (.int p4), .val (.int p5), .val (.int p6), .val (.int (Int32.ofNat nn)), .val (.int l1), .val (.int l1), .val (.int l2), .val (.int (own_mx l1 l2)), .val (.int l3), .val (.int (own_mx (own_mx l1 l2) l3)), .val (.int (Int32.ofNat kk)), .val (.int sI), .val (.int rv), .val (.int ds), .val (.ref b7), .val (.ref b12), .val (.ref ob), .val (.int (1 : Int32))] [(.ref b7), (.int l3)])) _
          refine XS.iconst X18.here hx rfl (hb hby at_488) ?_
          show Steps p.tables e below (T18.setTop (mkF m 489 #[.val (.int p1), .val (.int p2), .val (.int p3), .val (.int p4), .val (.int p5), .val (.int p6), .val (.int (Int32.ofNat nn)), .val (.int l1), .val (.int l1), .val (.int l2), .val (.int (own_mx l1 l2)), .val (.int l3), .val (.int (own_mx (own_mx l1 l2) l3)), .val (.int (Int32.ofNat kk)), .val (.int sI), .val (.int rv), .val (.int ds), .val (.ref b7), .val (.ref b12), .val (.ref ob), .val (.int (1 : Int32))] [(.int (3 : Int32)), (.ref b7), (.int l3)])) _
          exact k_
        have Wc3 := W3_
        rw [← k17, ← k18] at Wc3
        refine own_go (own_ial X18 hx hZ rfl Wc3 (by decide) (v := (.int l3)) rfl (g := (mkF m 489 #[.val (.int p1), .val (.int p2), .val (.int p3), .val (.int p4), .val (.int p5), .val (.int p6), .val (.int (Int32.ofNat nn)), .val (.int l1), .val (.int l1), .val (.int l2), .val (.int (own_mx l1 l2)), .val (.int l3), .val (.int (own_mx (own_mx l1 l2) l3)), .val (.int (Int32.ofNat kk)), .val (.int sI), .val (.int rv), .val (.int ds), .val (.ref b7), .val (.ref b12), .val (.ref ob), .val (.int (1 : Int32))] [(.int (3 : Int32)), (.ref b7), (.int l3)])) rfl rfl (hb hby at_489)) ?_
        show own_Rch p e below _ (T18.setTop (mkF m 490 #[.val (.int p1), .val (.int p2), .val (.int p3), .val (.int p4), .val (.int p5), .val (.int p6), .val (.int (Int32.ofNat nn)), .val (.int l1), .val (.int l1), .val (.int l2), .val (.int (own_mx l1 l2)), .val (.int l3), .val (.int (own_mx (own_mx l1 l2) l3)), .val (.int (Int32.ofNat kk)), .val (.int sI), .val (.int rv), .val (.int ds), .val (.ref b7), .val (.ref b12), .val (.ref ob), .val (.int (1 : Int32))] [(.int l3), (.int l3)]))
        refine own_go (S' := (T18.setTop (mkF m 500 #[.val (.int p1), .val (.int p2), .val (.int p3), .val (.int p4), .val (.int p5), .val (.int p6), .val (.int (Int32.ofNat nn)), .val (.int l1), .val (.int l1), .val (.int l2), .val (.int (own_mx l1 l2)), .val (.int l3), .val (.int (own_mx (own_mx l1 l2) l3)), .val (.int (Int32.ofNat kk)), .val (.int sI), .val (.int rv), .val (.int ds), .val (.ref b7), .val (.ref b12), .val (.ref ob), .val (.int (1 : Int32))] []))) (fun t_ k_ => ?_) ?_
        · refine XS.icmpNo X18.here hx rfl (hb hby at_490) rfl (teq rfl).2 ?_
          show Steps p.tables e below (T18.setTop (mkF m 493 #[.val (.int p1), .val (.int p2), .val (.int p3), .val (.int p4), .val (.int p5), .val (.int p6), .val (.int (Int32.ofNat nn)), .val (.int l1), .val (.int l1), .val (.int l2), .val (.int (own_mx l1 l2)), .val (.int l3), .val (.int (own_mx (own_mx l1 l2) l3)), .val (.int (Int32.ofNat kk)), .val (.int sI), .val (.int rv), .val (.int ds), .val (.ref b7), .val (.ref b12), .val (.ref ob), .val (.int (1 : Int32))] [])) _
          refine XS.iconst X18.here hx rfl (hb hby at_493) ?_
          show Steps p.tables e below (T18.setTop (mkF m 494 #[.val (.int p1), .val (.int p2), .val (.int p3), .val (.int p4), .val (.int p5), .val (.int p6), .val (.int (Int32.ofNat nn)), .val (.int l1), .val (.int l1), .val (.int l2), .val (.int (own_mx l1 l2)), .val (.int l3), .val (.int (own_mx (own_mx l1 l2) l3)), .val (.int (Int32.ofNat kk)), .val (.int sI), .val (.int rv), .val (.int ds), .val (.ref b7), .val (.ref b12), .val (.ref ob), .val (.int (1 : Int32))] [(.int (1 : Int32))])) _
          refine XS.goto X18.here hx rfl (pc0 := 494) (pc' := 498) rfl (hb hby at_494) (by decide) (by decide) ?_
          show Steps p.tables e below (T18.setTop (mkF m 498 #[.val (.int p1), .val (.int p2), .val (.int p3), .val (.int p4), .val (.int p5), .val (.int p6), .val (.int (Int32.ofNat nn)), .val (.int l1), .val (.int l1), .val (.int l2), .val (.int (own_mx l1 l2)), .val (.int l3), .val (.int (own_mx (own_mx l1 l2) l3)), .val (.int (Int32.ofNat kk)), .val (.int sI), .val (.int rv), .val (.int ds), .val (.ref b7), .val (.ref b12), .val (.ref ob), .val (.int (1 : Int32))] [(.int (1 : Int32))])) _
          refine XS.istore X18.here hx rfl (hb hby at_498) rfl (l' := #[.val (.int p1), .val (.int p2), .val (.int p3), .val (.int p4), .val (.int p5), .val (.int p6), .val (.int (Int32.ofNat nn)), .val (.int l1), .val (.int l1), .val (.int l2), .val (.int (own_mx l1 l2)), .val (.int l3), .val (.int (own_mx (own_mx l1 l2) l3)), .val (.int (Int32.ofNat kk)), .val (.int sI), .val (.int rv), .val (.int ds), .val (.ref b7), .val (.ref b12), .val (.ref ob), .val (.int (1 : Int32))]) rfl ?_
          show Steps p.tables e below (T18.setTop (mkF m 500 #[.val (.int p1), .val (.int p2), .val (.int p3), .val (.int p4), .val (.int p5), .val (.int p6), .val (.int (Int32.ofNat nn)), .val (.int l1), .val (.int l1), .val (.int l2), .val (.int (own_mx l1 l2)), .val (.int l3), .val (.int (own_mx (own_mx l1 l2) l3)), .val (.int (Int32.ofNat kk)), .val (.int sI), .val (.int rv), .val (.int ds), .val (.ref b7), .val (.ref b12), .val (.ref ob), .val (.int (1 : Int32))] [])) _
          exact k_
        have kq : T18.heap = hC3 := by rw [k18, k17]
        exact C4 _ _ _ X18 rfl N18 (by rw [kq]; exact Z3) (by rw [kq]; exact E3_) (by rw [kq]; exact F3_) (by rw [kq]; exact V3_) (by rw [kq]; exact W3_)
      · skip
        refine own_go (S' := (TC3.setTop (mkF m 500 #[.val (.int p1), .val (.int p2), .val (.int p3), .val (.int p4), .val (.int p5), .val (.int p6), .val (.int (Int32.ofNat nn)), .val (.int l1), .val (.int l1), .val (.int l2), .val (.int (own_mx l1 l2)), .val (.int l3), .val (.int (own_mx (own_mx l1 l2) l3)), .val (.int (Int32.ofNat kk)), .val (.int sI), .val (.int rv), .val (.int ds), .val (.ref b7), .val (.ref b12), .val (.ref ob), .val (.int (1 : Int32))] []))) (fun t_ k_ => ?_) ?_
        · refine XS.icmpYes XC3.here hx rfl (pc0 := 468) (pc' := 500) rfl (hb hby at_468) rfl (flt g1).2.2.2 (by decide) (by decide) ?_
          show Steps p.tables e below (TC3.setTop (mkF m 500 #[.val (.int p1), .val (.int p2), .val (.int p3), .val (.int p4), .val (.int p5), .val (.int p6), .val (.int (Int32.ofNat nn)), .val (.int l1), .val (.int l1), .val (.int l2), .val (.int (own_mx l1 l2)), .val (.int l3), .val (.int (own_mx (own_mx l1 l2) l3)), .val (.int (Int32.ofNat kk)), .val (.int sI), .val (.int rv), .val (.int ds), .val (.ref b7), .val (.ref b12), .val (.ref ob), .val (.int (1 : Int32))] [])) _
          exact k_
        exact C4 _ _ _ XC3 eC3 NC3 Z3 E3_ F3_ V3_ W3_
    have C2 : ∀ (TC2 : State) (lcC2 : List Loc) (hC2 : Heap)  (XC2 : Stand p l e room_1 s m #[(.int p1), (.int p2), (.int p3), (.int p4), (.int p5), (.int p6)] below meth c TC2 lcC2 9 39) (eC2 : TC2.heap = hC2) (NC2 : Fr n0 lcC2) (Z2 : n0 ≤ hC2.size) (E2_ : Exa Z hC2 ob "com/example/anonutils/anonutils/Clustering") (F2_ : Fld Z hC2 ob "com/example/anonutils/anonutils/Clustering" "clusterOf" "[I" (.ref bb)) (V2_ : Arv Z hC2 bb kb .int (Int32.ofNat nn) (cs.map Value.int) (.int 0)) (W2_ : Arv Z hC2 b7 k7 .int 4 [(.int (0 : Int32)), (.int l1), (.int l2), (.int l3)] (.int (0 : Int32))), own_Rch p e below (own_Fin s room_1.cells room_1.slots (fun v h L => v = some (.int 1) ∧ Fr n0 L)) (TC2.setTop (mkF m 420 #[.val (.int p1), .val (.int p2), .val (.int p3), .val (.int p4), .val (.int p5), .val (.int p6), .val (.int (Int32.ofNat nn)), .val (.int l1), .val (.int l1), .val (.int l2), .val (.int (own_mx l1 l2)), .val (.int l3), .val (.int (own_mx (own_mx l1 l2) l3)), .val (.int (Int32.ofNat kk)), .val (.int sI), .val (.int rv), .val (.int ds), .val (.ref b7), .val (.ref b12), .val (.ref ob), .val (.int (1 : Int32))] [])) := by
      intro TC2 lcC2 hC2 XC2 eC2 NC2 Z2 E2_ F2_ V2_ W2_
      refine own_go (S' := (TC2.setTop (mkF m 422 #[.val (.int p1), .val (.int p2), .val (.int p3), .val (.int p4), .val (.int p5), .val (.int p6), .val (.int (Int32.ofNat nn)), .val (.int l1), .val (.int l1), .val (.int l2), .val (.int (own_mx l1 l2)), .val (.int l3), .val (.int (own_mx (own_mx l1 l2) l3)), .val (.int (Int32.ofNat kk)), .val (.int sI), .val (.int rv), .val (.int ds), .val (.ref b7), .val (.ref b12), .val (.ref ob), .val (.int (1 : Int32))] [(.int (1 : Int32))]))) (fun t_ k_ => ?_) ?_
      · refine XS.iload XC2.here hx rfl (hb hby at_420) rfl ?_
        show Steps p.tables e below (TC2.setTop (mkF m 422 #[.val (.int p1), .val (.int p2), .val (.int p3), .val (.int p4), .val (.int p5), .val (.int p6), .val (.int (Int32.ofNat nn)), .val (.int l1), .val (.int l1), .val (.int l2), .val (.int (own_mx l1 l2)), .val (.int l3), .val (.int (own_mx (own_mx l1 l2) l3)), .val (.int (Int32.ofNat kk)), .val (.int sI), .val (.int rv), .val (.int ds), .val (.ref b7), .val (.ref b12), .val (.ref ob), .val (.int (1 : Int32))] [(.int (1 : Int32))])) _
        exact k_
      refine own_go (S' := (TC2.setTop (mkF m 428 #[.val (.int p1), .val (.int p2), .val (.int p3), .val (.int p4), .val (.int p5), .val (.int p6), .val (.int (Int32.ofNat nn)), .val (.int l1), .val (.int l1), .val (.int l2), .val (.int (own_mx l1 l2)), .val (.int l3), .val (.int (own_mx (own_mx l1 l2) l3)), .val (.int (Int32.ofNat kk)), .val (.int sI), .val (.int rv), .val (.int ds), .val (.ref b7), .val (.ref b12), .val (.ref ob), .val (.int (1 : Int32))] [(.int (2 : Int32)), (.int (Int32.ofNat nn))]))) (fun t_ k_ => ?_) ?_
      · refine XS.ifNo XC2.here hx rfl (hb hby at_422) rfl ((if0 _ _).trans (feq (by decide)).1) ?_
        show Steps p.tables e below (TC2.setTop (mkF m 425 #[.val (.int p1), .val (.int p2), .val (.int p3), .val (.int p4), .val (.int p5), .val (.int p6), .val (.int (Int32.ofNat nn)), .val (.int l1), .val (.int l1), .val (.int l2), .val (.int (own_mx l1 l2)), .val (.int l3), .val (.int (own_mx (own_mx l1 l2) l3)), .val (.int (Int32.ofNat kk)), .val (.int sI), .val (.int rv), .val (.int ds), .val (.ref b7), .val (.ref b12), .val (.ref ob), .val (.int (1 : Int32))] [])) _
        refine XS.iload XC2.here hx rfl (hb hby at_425) rfl ?_
        show Steps p.tables e below (TC2.setTop (mkF m 427 #[.val (.int p1), .val (.int p2), .val (.int p3), .val (.int p4), .val (.int p5), .val (.int p6), .val (.int (Int32.ofNat nn)), .val (.int l1), .val (.int l1), .val (.int l2), .val (.int (own_mx l1 l2)), .val (.int l3), .val (.int (own_mx (own_mx l1 l2) l3)), .val (.int (Int32.ofNat kk)), .val (.int sI), .val (.int rv), .val (.int ds), .val (.ref b7), .val (.ref b12), .val (.ref ob), .val (.int (1 : Int32))] [(.int (Int32.ofNat nn))])) _
        refine XS.iconst XC2.here hx rfl (hb hby at_427) ?_
        show Steps p.tables e below (TC2.setTop (mkF m 428 #[.val (.int p1), .val (.int p2), .val (.int p3), .val (.int p4), .val (.int p5), .val (.int p6), .val (.int (Int32.ofNat nn)), .val (.int l1), .val (.int l1), .val (.int l2), .val (.int (own_mx l1 l2)), .val (.int l3), .val (.int (own_mx (own_mx l1 l2) l3)), .val (.int (Int32.ofNat kk)), .val (.int sI), .val (.int rv), .val (.int ds), .val (.ref b7), .val (.ref b12), .val (.ref ob), .val (.int (1 : Int32))] [(.int (2 : Int32)), (.int (Int32.ofNat nn))])) _
        exact k_
      by_cases g1 : (2 : Int32) < (Int32.ofNat nn)
      · skip
        refine own_go (S' := (TC2.setTop (mkF m 440 #[.val (.int p1), .val (.int p2), .val (.int p3), .val (.int p4), .val (.int p5), .val (.int p6), .val (.int (Int32.ofNat nn)), .val (.int l1), .val (.int l1), .val (.int l2), .val (.int (own_mx l1 l2)), .val (.int l3), .val (.int (own_mx (own_mx l1 l2) l3)), .val (.int (Int32.ofNat kk)), .val (.int sI), .val (.int rv), .val (.int ds), .val (.ref b7), .val (.ref b12), .val (.ref ob), .val (.int (1 : Int32))] [(.int rv), (.int sI), (.int (Int32.ofNat nn)), (.int (2 : Int32)), (.ref ob)]))) (fun t_ k_ => ?_) ?_
        · refine XS.icmpNo XC2.here hx rfl (hb hby at_428) rfl (tlt g1).2.2.2 ?_
          show Steps p.tables e below (TC2.setTop (mkF m 431 #[.val (.int p1), .val (.int p2), .val (.int p3), .val (.int p4), .val (.int p5), .val (.int p6), .val (.int (Int32.ofNat nn)), .val (.int l1), .val (.int l1), .val (.int l2), .val (.int (own_mx l1 l2)), .val (.int l3), .val (.int (own_mx (own_mx l1 l2) l3)), .val (.int (Int32.ofNat kk)), .val (.int sI), .val (.int rv), .val (.int ds), .val (.ref b7), .val (.ref b12), .val (.ref ob), .val (.int (1 : Int32))] [])) _
          refine XS.aload XC2.here hx rfl (hb hby at_431) rfl rfl ?_
          show Steps p.tables e below (TC2.setTop (mkF m 433 #[.val (.int p1), .val (.int p2), .val (.int p3), .val (.int p4), .val (.int p5), .val (.int p6), .val (.int (Int32.ofNat nn)), .val (.int l1), .val (.int l1), .val (.int l2), .val (.int (own_mx l1 l2)), .val (.int l3), .val (.int (own_mx (own_mx l1 l2) l3)), .val (.int (Int32.ofNat kk)), .val (.int sI), .val (.int rv), .val (.int ds), .val (.ref b7), .val (.ref b12), .val (.ref ob), .val (.int (1 : Int32))] [(.ref ob)])) _
          refine XS.iconst XC2.here hx rfl (hb hby at_433) ?_
          show Steps p.tables e below (TC2.setTop (mkF m 434 #[.val (.int p1), .val (.int p2), .val (.int p3), .val (.int p4), .val (.int p5), .val (.int p6), .val (.int (Int32.ofNat nn)), .val (.int l1), .val (.int l1), .val (.int l2), .val (.int (own_mx l1 l2)), .val (.int l3), .val (.int (own_mx (own_mx l1 l2) l3)), .val (.int (Int32.ofNat kk)), .val (.int sI), .val (.int rv), .val (.int ds), .val (.ref b7), .val (.ref b12), .val (.ref ob), .val (.int (1 : Int32))] [(.int (2 : Int32)), (.ref ob)])) _
          refine XS.iload XC2.here hx rfl (hb hby at_434) rfl ?_
          show Steps p.tables e below (TC2.setTop (mkF m 436 #[.val (.int p1), .val (.int p2), .val (.int p3), .val (.int p4), .val (.int p5), .val (.int p6), .val (.int (Int32.ofNat nn)), .val (.int l1), .val (.int l1), .val (.int l2), .val (.int (own_mx l1 l2)), .val (.int l3), .val (.int (own_mx (own_mx l1 l2) l3)), .val (.int (Int32.ofNat kk)), .val (.int sI), .val (.int rv), .val (.int ds), .val (.ref b7), .val (.ref b12), .val (.ref ob), .val (.int (1 : Int32))] [(.int (Int32.ofNat nn)), (.int (2 : Int32)), (.ref ob)])) _
          refine XS.iload XC2.here hx rfl (hb hby at_436) rfl ?_
          show Steps p.tables e below (TC2.setTop (mkF m 438 #[.val (.int p1), .val (.int p2), .val (.int p3), .val (.int p4), .val (.int p5), .val (.int p6), .val (.int (Int32.ofNat nn)), .val (.int l1), .val (.int l1), .val (.int l2), .val (.int (own_mx l1 l2)), .val (.int l3), .val (.int (own_mx (own_mx l1 l2) l3)), .val (.int (Int32.ofNat kk)), .val (.int sI), .val (.int rv), .val (.int ds), .val (.ref b7), .val (.ref b12), .val (.ref ob), .val (.int (1 : Int32))] [(.int sI), (.int (Int32.ofNat nn)), (.int (2 : Int32)), (.ref ob)])) _
          refine XS.iload XC2.here hx rfl (hb hby at_438) rfl ?_
          show Steps p.tables e below (TC2.setTop (mkF m 440 #[.val (.int p1), .val (.int p2), .val (.int p3), .val (.int p4), .val (.int p5), .val (.int p6), .val (.int (Int32.ofNat nn)), .val (.int l1), .val (.int l1), .val (.int l2), .val (.int (own_mx l1 l2)), .val (.int l3), .val (.int (own_mx (own_mx l1 l2) l3)), .val (.int (Int32.ofNat kk)), .val (.int sI), .val (.int rv), .val (.int ds), .val (.ref b7), .val (.ref b12), .val (.ref ob), .val (.int (1 : Int32))] [(.int rv), (.int sI), (.int (Int32.ofNat nn)), (.int (2 : Int32)), (.ref ob)])) _
          exact k_
        have hj2 : 2 < nn := (own_ltN (by omega : (2 : Nat) ≤ 10) (by omega)).mp g1
        obtain ⟨i1, i2, i3⟩ := hids 2 hj2
        obtain ⟨_, T19, L19, X19, ⟨rfl, N19q, k19⟩, st19⟩ := own_callS XC2 hx hZ (y := (⟨"com/example/anonutils/anonutils/ClusteringOfPinLaw", "id", "(IIIZ)I"⟩ : MethodName)) hown (hw _ (List.mem_of_getElem? (i := 75) rfl)) (hw _ (List.mem_of_getElem? (i := 76) rfl)) (hw _ (List.mem_of_getElem? (i := 73) rfl)) (hw _ (List.mem_of_getElem? (i := 77) rfl)) (by decide) (own_c13 l Z a0 hw [] (Int32.ofNat 2) (Int32.ofNat nn) sI rv hC2 n0 Z2 (hnz 2 (by omega) g1)) eC2 (W := 1) (by decide) (by decide) (g := (mkF m 440 #[.val (.int p1), .val (.int p2), .val (.int p3), .val (.int p4), .val (.int p5), .val (.int p6), .val (.int (Int32.ofNat nn)), .val (.int l1), .val (.int l1), .val (.int l2), .val (.int (own_mx l1 l2)), .val (.int l3), .val (.int (own_mx (own_mx l1 l2) l3)), .val (.int (Int32.ofNat kk)), .val (.int sI), .val (.int rv), .val (.int ds), .val (.ref b7), .val (.ref b12), .val (.ref ob), .val (.int (1 : Int32))] [(.int rv), (.int sI), (.int (Int32.ofNat nn)), (.int (2 : Int32)), (.ref ob)])) rfl (by rw [hml]; rfl) (argsL := [(.int (2 : Int32)), (.int (Int32.ofNat nn)), (.int sI), (.int rv)]) (rest := [(.ref ob)]) (lenOf own_pd9 rfl) rfl rfl rfl (hb hby at_440) (by decide) (by decide)
        have N19 := Fr.app NC2 N19q
        refine own_go st19 ?_
        show own_Rch p e below _ (T19.setTop (mkF m 443 #[.val (.int p1), .val (.int p2), .val (.int p3), .val (.int p4), .val (.int p5), .val (.int p6), .val (.int (Int32.ofNat nn)), .val (.int l1), .val (.int l1), .val (.int l2), .val (.int (own_mx l1 l2)), .val (.int l3), .val (.int (own_mx (own_mx l1 l2) l3)), .val (.int (Int32.ofNat kk)), .val (.int sI), .val (.int rv), .val (.int ds), .val (.ref b7), .val (.ref b12), .val (.ref ob), .val (.int (1 : Int32))] [(.int (own_id (Int32.ofNat 2) (Int32.ofNat nn) sI rv)), (.ref ob)]))
        obtain ⟨_, T20, L20, X20, ⟨rfl, N20q, k20⟩, st20⟩ := own_callV X19 hx hZ (y := (⟨"com/example/anonutils/anonutils/Clustering", "clusterOf", "(I)I"⟩ : MethodName)) (z := (⟨"com/example/anonutils/anonutils/Clustering", "clusterOf", "(I)I"⟩ : MethodName)) (C := "com/example/anonutils/anonutils/Clustering") hown (hw _ (List.mem_of_getElem? (i := 130) rfl)) (hw _ (List.mem_of_getElem? (i := 131) rfl)) (notFace_of_selects (args := #[]) (mvT hZ (hw _ (List.mem_of_getElem? (i := 133) rfl)))) (hw _ (List.mem_of_getElem? (i := 133) rfl)) (hw _ (List.mem_of_getElem? (i := 132) rfl)) (hw _ (List.mem_of_getElem? (i := 34) rfl)) (hw _ (List.mem_of_getElem? (i := 134) rfl)) (by decide) (own_c22 l Z a0 hw [] ob bb kb (own_id (Int32.ofNat 2) (Int32.ofNat nn) sI rv) (Int32.ofNat nn) l2 (cs.map Value.int) T19.heap n0 (by rw [k19]; exact Z2) (by rw [k19]; exact F2_) (by rw [k19]; exact V2_) ⟨i1, own_ltOf (by omega) i1 i2⟩ (by rw [own_mapD, i3]; rfl)) rfl (by rw [k19]; exact E2_) (W := 0) (by decide) (by decide) (g := (mkF m 443 #[.val (.int p1), .val (.int p2), .val (.int p3), .val (.int p4), .val (.int p5), .val (.int p6), .val (.int (Int32.ofNat nn)), .val (.int l1), .val (.int l1), .val (.int l2), .val (.int (own_mx l1 l2)), .val (.int l3), .val (.int (own_mx (own_mx l1 l2) l3)), .val (.int (Int32.ofNat kk)), .val (.int sI), .val (.int rv), .val (.int ds), .val (.ref b7), .val (.ref b12), .val (.ref ob), .val (.int (1 : Int32))] [(.int (own_id (Int32.ofNat 2) (Int32.ofNat nn) sI rv)), (.ref ob)])) rfl (by rw [hml]; rfl) (argsL := [(.int (own_id (Int32.ofNat 2) (Int32.ofNat nn) sI rv))]) (rest := []) (lenOf own_pd11 rfl) rfl rfl rfl (hb hby at_443) (by decide) (by decide)
        have N20 := Fr.app N19 N20q
        refine own_go st20 ?_
        show own_Rch p e below _ (T20.setTop (mkF m 446 #[.val (.int p1), .val (.int p2), .val (.int p3), .val (.int p4), .val (.int p5), .val (.int p6), .val (.int (Int32.ofNat nn)), .val (.int l1), .val (.int l1), .val (.int l2), .val (.int (own_mx l1 l2)), .val (.int l3), .val (.int (own_mx (own_mx l1 l2) l3)), .val (.int (Int32.ofNat kk)), .val (.int sI), .val (.int rv), .val (.int ds), .val (.ref b7), .val (.ref b12), .val (.ref ob), .val (.int (1 : Int32))] [(.int l2)]))
        refine own_go (S' := (T20.setTop (mkF m 449 #[.val (.int p1), .val (.int p2), .val (.int p3), .val (.int p4), .val (.int p5), .val (.int p6), .val (.int (Int32.ofNat nn)), .val (.int l1), .val (.int l1), .val (.int l2), .val (.int (own_mx l1 l2)), .val (.int l3), .val (.int (own_mx (own_mx l1 l2) l3)), .val (.int (Int32.ofNat kk)), .val (.int sI), .val (.int rv), .val (.int ds), .val (.ref b7), .val (.ref b12), .val (.ref ob), .val (.int (1 : Int32))] [(.int (2 : Int32)), (.ref b7), (.int l2)]))) (fun t_ k_ => ?_) ?_
        · refine XS.aload X20.here hx rfl (hb hby at_446) rfl rfl ?_
          show Steps p.tables e below (T20.setTop (mkF m 448 #[.val (.int p1), .val (.int p2), .val (.int p3), .val (.int p4), .val (.int p5), .val (.int p6), .val (.int (Int32.ofNat nn)), .val (.int l1), .val (.int l1), .val (.int l2), .val (.int (own_mx l1 l2)), .val (.int l3), .val (.int (own_mx (own_mx l1 l2) l3)), .val (.int (Int32.ofNat kk)), .val (.int sI), .val (.int rv), .val (.int ds), .val (.ref b7), .val (.ref b12), .val (.ref ob), .val (.int (1 : Int32))] [(.ref b7), (.int l2)])) _
          refine XS.iconst X20.here hx rfl (hb hby at_448) ?_
          show Steps p.tables e below (T20.setTop (mkF m 449 #[.val (.int p1), .val (.int p2), .val (.int p3), .val (.int p4), .val (.int p5), .val (.int p6), .val (.int (Int32.ofNat nn)), .val (.int l1), .val (.int l1), .val (.int l2), .val (.int (own_mx l1 l2)), .val (.int l3), .val (.int (own_mx (own_mx l1 l2) l3)), .val (.int (Int32.ofNat kk)), .val (.int sI), .val (.int rv), .val (.int ds), .val (.ref b7), .val (.ref b12), .val (.ref ob), .val (.int (1 : Int32))] [(.int (2 : Int32)), (.ref b7), (.int l2)])) _
          exact k_
        have Wc2 := W2_
        rw [← k19, ← k20] at Wc2
        refine own_go (own_ial X20 hx hZ rfl Wc2 (by decide) (v := (.int l2)) rfl (g := (mkF m 449 #[.val (.int p1), .val (.int p2), .val (.int p3), .val (.int p4), .val (.int p5), .val (.int p6), .val (.int (Int32.ofNat nn)), .val (.int l1), .val (.int l1), .val (.int l2), .val (.int (own_mx l1 l2)), .val (.int l3), .val (.int (own_mx (own_mx l1 l2) l3)), .val (.int (Int32.ofNat kk)), .val (.int sI), .val (.int rv), .val (.int ds), .val (.ref b7), .val (.ref b12), .val (.ref ob), .val (.int (1 : Int32))] [(.int (2 : Int32)), (.ref b7), (.int l2)])) rfl rfl (hb hby at_449)) ?_
        show own_Rch p e below _ (T20.setTop (mkF m 450 #[.val (.int p1), .val (.int p2), .val (.int p3), .val (.int p4), .val (.int p5), .val (.int p6), .val (.int (Int32.ofNat nn)), .val (.int l1), .val (.int l1), .val (.int l2), .val (.int (own_mx l1 l2)), .val (.int l3), .val (.int (own_mx (own_mx l1 l2) l3)), .val (.int (Int32.ofNat kk)), .val (.int sI), .val (.int rv), .val (.int ds), .val (.ref b7), .val (.ref b12), .val (.ref ob), .val (.int (1 : Int32))] [(.int l2), (.int l2)]))
        refine own_go (S' := (T20.setTop (mkF m 460 #[.val (.int p1), .val (.int p2), .val (.int p3), .val (.int p4), .val (.int p5), .val (.int p6), .val (.int (Int32.ofNat nn)), .val (.int l1), .val (.int l1), .val (.int l2), .val (.int (own_mx l1 l2)), .val (.int l3), .val (.int (own_mx (own_mx l1 l2) l3)), .val (.int (Int32.ofNat kk)), .val (.int sI), .val (.int rv), .val (.int ds), .val (.ref b7), .val (.ref b12), .val (.ref ob), .val (.int (1 : Int32))] []))) (fun t_ k_ => ?_) ?_
        · refine XS.icmpNo X20.here hx rfl (hb hby at_450) rfl (teq rfl).2 ?_
          show Steps p.tables e below (T20.setTop (mkF m 453 #[.val (.int p1), .val (.int p2), .val (.int p3), .val (.int p4), .val (.int p5), .val (.int p6), .val (.int (Int32.ofNat nn)), .val (.int l1), .val (.int l1), .val (.int l2), .val (.int (own_mx l1 l2)), .val (.int l3), .val (.int (own_mx (own_mx l1 l2) l3)), .val (.int (Int32.ofNat kk)), .val (.int sI), .val (.int rv), .val (.int ds), .val (.ref b7), .val (.ref b12), .val (.ref ob), .val (.int (1 : Int32))] [])) _
          refine XS.iconst X20.here hx rfl (hb hby at_453) ?_
          show Steps p.tables e below (T20.setTop (mkF m 454 #[.val (.int p1), .val (.int p2), .val (.int p3), .val (.int p4), .val (.int p5), .val (.int p6), .val (.int (Int32.ofNat nn)), .val (.int l1), .val (.int l1), .val (.int l2), .val (.int (own_mx l1 l2)), .val (.int l3), .val (.int (own_mx (own_mx l1 l2) l3)), .val (.int (Int32.ofNat kk)), .val (.int sI), .val (.int rv), .val (.int ds), .val (.ref b7), .val (.ref b12), .val (.ref ob), .val (.int (1 : Int32))] [(.int (1 : Int32))])) _
          refine XS.goto X20.here hx rfl (pc0 := 454) (pc' := 458) rfl (hb hby at_454) (by decide) (by decide) ?_
          show Steps p.tables e below (T20.setTop (mkF m 458 #[.val (.int p1), .val (.int p2), .val (.int p3), .val (.int p4), .val (.int p5), .val (.int p6), .val (.int (Int32.ofNat nn)), .val (.int l1), .val (.int l1), .val (.int l2), .val (.int (own_mx l1 l2)), .val (.int l3), .val (.int (own_mx (own_mx l1 l2) l3)), .val (.int (Int32.ofNat kk)), .val (.int sI), .val (.int rv), .val (.int ds), .val (.ref b7), .val (.ref b12), .val (.ref ob), .val (.int (1 : Int32))] [(.int (1 : Int32))])) _
          refine XS.istore X20.here hx rfl (hb hby at_458) rfl (l' := #[.val (.int p1), .val (.int p2), .val (.int p3), .val (.int p4), .val (.int p5), .val (.int p6), .val (.int (Int32.ofNat nn)), .val (.int l1), .val (.int l1), .val (.int l2), .val (.int (own_mx l1 l2)), .val (.int l3), .val (.int (own_mx (own_mx l1 l2) l3)), .val (.int (Int32.ofNat kk)), .val (.int sI), .val (.int rv), .val (.int ds), .val (.ref b7), .val (.ref b12), .val (.ref ob), .val (.int (1 : Int32))]) rfl ?_
          show Steps p.tables e below (T20.setTop (mkF m 460 #[.val (.int p1), .val (.int p2), .val (.int p3), .val (.int p4), .val (.int p5), .val (.int p6), .val (.int (Int32.ofNat nn)), .val (.int l1), .val (.int l1), .val (.int l2), .val (.int (own_mx l1 l2)), .val (.int l3), .val (.int (own_mx (own_mx l1 l2) l3)), .val (.int (Int32.ofNat kk)), .val (.int sI), .val (.int rv), .val (.int ds), .val (.ref b7), .val (.ref b12), .val (.ref ob), .val (.int (1 : Int32))] [])) _
          exact k_
        have kq : T20.heap = hC2 := by rw [k20, k19]
        exact C3 _ _ _ X20 rfl N20 (by rw [kq]; exact Z2) (by rw [kq]; exact E2_) (by rw [kq]; exact F2_) (by rw [kq]; exact V2_) (by rw [kq]; exact W2_)
      · skip
        refine own_go (S' := (TC2.setTop (mkF m 460 #[.val (.int p1), .val (.int p2), .val (.int p3), .val (.int p4), .val (.int p5), .val (.int p6), .val (.int (Int32.ofNat nn)), .val (.int l1), .val (.int l1), .val (.int l2), .val (.int (own_mx l1 l2)), .val (.int l3), .val (.int (own_mx (own_mx l1 l2) l3)), .val (.int (Int32.ofNat kk)), .val (.int sI), .val (.int rv), .val (.int ds), .val (.ref b7), .val (.ref b12), .val (.ref ob), .val (.int (1 : Int32))] []))) (fun t_ k_ => ?_) ?_
        · refine XS.icmpYes XC2.here hx rfl (pc0 := 428) (pc' := 460) rfl (hb hby at_428) rfl (flt g1).2.2.2 (by decide) (by decide) ?_
          show Steps p.tables e below (TC2.setTop (mkF m 460 #[.val (.int p1), .val (.int p2), .val (.int p3), .val (.int p4), .val (.int p5), .val (.int p6), .val (.int (Int32.ofNat nn)), .val (.int l1), .val (.int l1), .val (.int l2), .val (.int (own_mx l1 l2)), .val (.int l3), .val (.int (own_mx (own_mx l1 l2) l3)), .val (.int (Int32.ofNat kk)), .val (.int sI), .val (.int rv), .val (.int ds), .val (.ref b7), .val (.ref b12), .val (.ref ob), .val (.int (1 : Int32))] [])) _
          exact k_
        exact C3 _ _ _ XC2 eC2 NC2 Z2 E2_ F2_ V2_ W2_
    have C1 : ∀ (TC1 : State) (lcC1 : List Loc) (hC1 : Heap)  (XC1 : Stand p l e room_1 s m #[(.int p1), (.int p2), (.int p3), (.int p4), (.int p5), (.int p6)] below meth c TC1 lcC1 9 39) (eC1 : TC1.heap = hC1) (NC1 : Fr n0 lcC1) (Z1 : n0 ≤ hC1.size) (E1_ : Exa Z hC1 ob "com/example/anonutils/anonutils/Clustering") (F1_ : Fld Z hC1 ob "com/example/anonutils/anonutils/Clustering" "clusterOf" "[I" (.ref bb)) (V1_ : Arv Z hC1 bb kb .int (Int32.ofNat nn) (cs.map Value.int) (.int 0)) (W1_ : Arv Z hC1 b7 k7 .int 4 [(.int (0 : Int32)), (.int l1), (.int l2), (.int l3)] (.int (0 : Int32))), own_Rch p e below (own_Fin s room_1.cells room_1.slots (fun v h L => v = some (.int 1) ∧ Fr n0 L)) (TC1.setTop (mkF m 380 #[.val (.int p1), .val (.int p2), .val (.int p3), .val (.int p4), .val (.int p5), .val (.int p6), .val (.int (Int32.ofNat nn)), .val (.int l1), .val (.int l1), .val (.int l2), .val (.int (own_mx l1 l2)), .val (.int l3), .val (.int (own_mx (own_mx l1 l2) l3)), .val (.int (Int32.ofNat kk)), .val (.int sI), .val (.int rv), .val (.int ds), .val (.ref b7), .val (.ref b12), .val (.ref ob), .val (.int (1 : Int32))] [])) := by
      intro TC1 lcC1 hC1 XC1 eC1 NC1 Z1 E1_ F1_ V1_ W1_
      refine own_go (S' := (TC1.setTop (mkF m 382 #[.val (.int p1), .val (.int p2), .val (.int p3), .val (.int p4), .val (.int p5), .val (.int p6), .val (.int (Int32.ofNat nn)), .val (.int l1), .val (.int l1), .val (.int l2), .val (.int (own_mx l1 l2)), .val (.int l3), .val (.int (own_mx (own_mx l1 l2) l3)), .val (.int (Int32.ofNat kk)), .val (.int sI), .val (.int rv), .val (.int ds), .val (.ref b7), .val (.ref b12), .val (.ref ob), .val (.int (1 : Int32))] [(.int (1 : Int32))]))) (fun t_ k_ => ?_) ?_
      · refine XS.iload XC1.here hx rfl (hb hby at_380) rfl ?_
        show Steps p.tables e below (TC1.setTop (mkF m 382 #[.val (.int p1), .val (.int p2), .val (.int p3), .val (.int p4), .val (.int p5), .val (.int p6), .val (.int (Int32.ofNat nn)), .val (.int l1), .val (.int l1), .val (.int l2), .val (.int (own_mx l1 l2)), .val (.int l3), .val (.int (own_mx (own_mx l1 l2) l3)), .val (.int (Int32.ofNat kk)), .val (.int sI), .val (.int rv), .val (.int ds), .val (.ref b7), .val (.ref b12), .val (.ref ob), .val (.int (1 : Int32))] [(.int (1 : Int32))])) _
        exact k_
      refine own_go (S' := (TC1.setTop (mkF m 388 #[.val (.int p1), .val (.int p2), .val (.int p3), .val (.int p4), .val (.int p5), .val (.int p6), .val (.int (Int32.ofNat nn)), .val (.int l1), .val (.int l1), .val (.int l2), .val (.int (own_mx l1 l2)), .val (.int l3), .val (.int (own_mx (own_mx l1 l2) l3)), .val (.int (Int32.ofNat kk)), .val (.int sI), .val (.int rv), .val (.int ds), .val (.ref b7), .val (.ref b12), .val (.ref ob), .val (.int (1 : Int32))] [(.int (1 : Int32)), (.int (Int32.ofNat nn))]))) (fun t_ k_ => ?_) ?_
      · refine XS.ifNo XC1.here hx rfl (hb hby at_382) rfl ((if0 _ _).trans (feq (by decide)).1) ?_
        show Steps p.tables e below (TC1.setTop (mkF m 385 #[.val (.int p1), .val (.int p2), .val (.int p3), .val (.int p4), .val (.int p5), .val (.int p6), .val (.int (Int32.ofNat nn)), .val (.int l1), .val (.int l1), .val (.int l2), .val (.int (own_mx l1 l2)), .val (.int l3), .val (.int (own_mx (own_mx l1 l2) l3)), .val (.int (Int32.ofNat kk)), .val (.int sI), .val (.int rv), .val (.int ds), .val (.ref b7), .val (.ref b12), .val (.ref ob), .val (.int (1 : Int32))] [])) _
        refine XS.iload XC1.here hx rfl (hb hby at_385) rfl ?_
        show Steps p.tables e below (TC1.setTop (mkF m 387 #[.val (.int p1), .val (.int p2), .val (.int p3), .val (.int p4), .val (.int p5), .val (.int p6), .val (.int (Int32.ofNat nn)), .val (.int l1), .val (.int l1), .val (.int l2), .val (.int (own_mx l1 l2)), .val (.int l3), .val (.int (own_mx (own_mx l1 l2) l3)), .val (.int (Int32.ofNat kk)), .val (.int sI), .val (.int rv), .val (.int ds), .val (.ref b7), .val (.ref b12), .val (.ref ob), .val (.int (1 : Int32))] [(.int (Int32.ofNat nn))])) _
        refine XS.iconst XC1.here hx rfl (hb hby at_387) ?_
        show Steps p.tables e below (TC1.setTop (mkF m 388 #[.val (.int p1), .val (.int p2), .val (.int p3), .val (.int p4), .val (.int p5), .val (.int p6), .val (.int (Int32.ofNat nn)), .val (.int l1), .val (.int l1), .val (.int l2), .val (.int (own_mx l1 l2)), .val (.int l3), .val (.int (own_mx (own_mx l1 l2) l3)), .val (.int (Int32.ofNat kk)), .val (.int sI), .val (.int rv), .val (.int ds), .val (.ref b7), .val (.ref b12), .val (.ref ob), .val (.int (1 : Int32))] [(.int (1 : Int32)), (.int (Int32.ofNat nn))])) _
        exact k_
      by_cases g1 : (1 : Int32) < (Int32.ofNat nn)
      · skip
        refine own_go (S' := (TC1.setTop (mkF m 400 #[.val (.int p1), .val (.int p2), .val (.int p3), .val (.int p4), .val (.int p5), .val (.int p6), .val (.int (Int32.ofNat nn)), .val (.int l1), .val (.int l1), .val (.int l2), .val (.int (own_mx l1 l2)), .val (.int l3), .val (.int (own_mx (own_mx l1 l2) l3)), .val (.int (Int32.ofNat kk)), .val (.int sI), .val (.int rv), .val (.int ds), .val (.ref b7), .val (.ref b12), .val (.ref ob), .val (.int (1 : Int32))] [(.int rv), (.int sI), (.int (Int32.ofNat nn)), (.int (1 : Int32)), (.ref ob)]))) (fun t_ k_ => ?_) ?_
        · refine XS.icmpNo XC1.here hx rfl (hb hby at_388) rfl (tlt g1).2.2.2 ?_
          show Steps p.tables e below (TC1.setTop (mkF m 391 #[.val (.int p1), .val (.int p2), .val (.int p3), .val (.int p4), .val (.int p5), .val (.int p6), .val (.int (Int32.ofNat nn)), .val (.int l1), .val (.int l1), .val (.int l2), .val (.int (own_mx l1 l2)), .val (.int l3), .val (.int (own_mx (own_mx l1 l2) l3)), .val (.int (Int32.ofNat kk)), .val (.int sI), .val (.int rv), .val (.int ds), .val (.ref b7), .val (.ref b12), .val (.ref ob), .val (.int (1 : Int32))] [])) _
          refine XS.aload XC1.here hx rfl (hb hby at_391) rfl rfl ?_
          show Steps p.tables e below (TC1.setTop (mkF m 393 #[.val (.int p1), .val (.int p2), .val (.int p3), .val (.int p4), .val (.int p5), .val (.int p6), .val (.int (Int32.ofNat nn)), .val (.int l1), .val (.int l1), .val (.int l2), .val (.int (own_mx l1 l2)), .val (.int l3), .val (.int (own_mx (own_mx l1 l2) l3)), .val (.int (Int32.ofNat kk)), .val (.int sI), .val (.int rv), .val (.int ds), .val (.ref b7), .val (.ref b12), .val (.ref ob), .val (.int (1 : Int32))] [(.ref ob)])) _
          refine XS.iconst XC1.here hx rfl (hb hby at_393) ?_
          show Steps p.tables e below (TC1.setTop (mkF m 394 #[.val (.int p1), .val (.int p2), .val (.int p3), .val (.int p4), .val (.int p5), .val (.int p6), .val (.int (Int32.ofNat nn)), .val (.int l1), .val (.int l1), .val (.int l2), .val (.int (own_mx l1 l2)), .val (.int l3), .val (.int (own_mx (own_mx l1 l2) l3)), .val (.int (Int32.ofNat kk)), .val (.int sI), .val (.int rv), .val (.int ds), .val (.ref b7), .val (.ref b12), .val (.ref ob), .val (.int (1 : Int32))] [(.int (1 : Int32)), (.ref ob)])) _
          refine XS.iload XC1.here hx rfl (hb hby at_394) rfl ?_
          show Steps p.tables e below (TC1.setTop (mkF m 396 #[.val (.int p1), .val (.int p2), .val (.int p3), .val (.int p4), .val (.int p5), .val (.int p6), .val (.int (Int32.ofNat nn)), .val (.int l1), .val (.int l1), .val (.int l2), .val (.int (own_mx l1 l2)), .val (.int l3), .val (.int (own_mx (own_mx l1 l2) l3)), .val (.int (Int32.ofNat kk)), .val (.int sI), .val (.int rv), .val (.int ds), .val (.ref b7), .val (.ref b12), .val (.ref ob), .val (.int (1 : Int32))] [(.int (Int32.ofNat nn)), (.int (1 : Int32)), (.ref ob)])) _
          refine XS.iload XC1.here hx rfl (hb hby at_396) rfl ?_
          show Steps p.tables e below (TC1.setTop (mkF m 398 #[.val (.int p1), .val (.int p2), .val (.int p3), .val (.int p4), .val (.int p5), .val (.int p6), .val (.int (Int32.ofNat nn)), .val (.int l1), .val (.int l1), .val (.int l2), .val (.int (own_mx l1 l2)), .val (.int l3), .val (.int (own_mx (own_mx l1 l2) l3)), .val (.int (Int32.ofNat kk)), .val (.int sI), .val (.int rv), .val (.int ds), .val (.ref b7), .val (.ref b12), .val (.ref ob), .val (.int (1 : Int32))] [(.int sI), (.int (Int32.ofNat nn)), (.int (1 : Int32)), (.ref ob)])) _
          refine XS.iload XC1.here hx rfl (hb hby at_398) rfl ?_
          show Steps p.tables e below (TC1.setTop (mkF m 400 #[.val (.int p1), .val (.int p2), .val (.int p3), .val (.int p4), .val (.int p5), .val (.int p6), .val (.int (Int32.ofNat nn)), .val (.int l1), .val (.int l1), .val (.int l2), .val (.int (own_mx l1 l2)), .val (.int l3), .val (.int (own_mx (own_mx l1 l2) l3)), .val (.int (Int32.ofNat kk)), .val (.int sI), .val (.int rv), .val (.int ds), .val (.ref b7), .val (.ref b12), .val (.ref ob), .val (.int (1 : Int32))] [(.int rv), (.int sI), (.int (Int32.ofNat nn)), (.int (1 : Int32)), (.ref ob)])) _
          exact k_
        have hj1 : 1 < nn := (own_ltN (by omega : (1 : Nat) ≤ 10) (by omega)).mp g1
        obtain ⟨i1, i2, i3⟩ := hids 1 hj1
        obtain ⟨_, T21, L21, X21, ⟨rfl, N21q, k21⟩, st21⟩ := own_callS XC1 hx hZ (y := (⟨"com/example/anonutils/anonutils/ClusteringOfPinLaw", "id", "(IIIZ)I"⟩ : MethodName)) hown (hw _ (List.mem_of_getElem? (i := 75) rfl)) (hw _ (List.mem_of_getElem? (i := 76) rfl)) (hw _ (List.mem_of_getElem? (i := 73) rfl)) (hw _ (List.mem_of_getElem? (i := 77) rfl)) (by decide) (own_c13 l Z a0 hw [] (Int32.ofNat 1) (Int32.ofNat nn) sI rv hC1 n0 Z1 (hnz 1 (by omega) g1)) eC1 (W := 1) (by decide) (by decide) (g := (mkF m 400 #[.val (.int p1), .val (.int p2), .val (.int p3), .val (.int p4), .val (.int p5), .val (.int p6), .val (.int (Int32.ofNat nn)), .val (.int l1), .val (.int l1), .val (.int l2), .val (.int (own_mx l1 l2)), .val (.int l3), .val (.int (own_mx (own_mx l1 l2) l3)), .val (.int (Int32.ofNat kk)), .val (.int sI), .val (.int rv), .val (.int ds), .val (.ref b7), .val (.ref b12), .val (.ref ob), .val (.int (1 : Int32))] [(.int rv), (.int sI), (.int (Int32.ofNat nn)), (.int (1 : Int32)), (.ref ob)])) rfl (by rw [hml]; rfl) (argsL := [(.int (1 : Int32)), (.int (Int32.ofNat nn)), (.int sI), (.int rv)]) (rest := [(.ref ob)]) (lenOf own_pd9 rfl) rfl rfl rfl (hb hby at_400) (by decide) (by decide)
        have N21 := Fr.app NC1 N21q
        refine own_go st21 ?_
        show own_Rch p e below _ (T21.setTop (mkF m 403 #[.val (.int p1), .val (.int p2), .val (.int p3), .val (.int p4), .val (.int p5), .val (.int p6), .val (.int (Int32.ofNat nn)), .val (.int l1), .val (.int l1), .val (.int l2), .val (.int (own_mx l1 l2)), .val (.int l3), .val (.int (own_mx (own_mx l1 l2) l3)), .val (.int (Int32.ofNat kk)), .val (.int sI), .val (.int rv), .val (.int ds), .val (.ref b7), .val (.ref b12), .val (.ref ob), .val (.int (1 : Int32))] [(.int (own_id (Int32.ofNat 1) (Int32.ofNat nn) sI rv)), (.ref ob)]))
        obtain ⟨_, T22, L22, X22, ⟨rfl, N22q, k22⟩, st22⟩ := own_callV X21 hx hZ (y := (⟨"com/example/anonutils/anonutils/Clustering", "clusterOf", "(I)I"⟩ : MethodName)) (z := (⟨"com/example/anonutils/anonutils/Clustering", "clusterOf", "(I)I"⟩ : MethodName)) (C := "com/example/anonutils/anonutils/Clustering") hown (hw _ (List.mem_of_getElem? (i := 130) rfl)) (hw _ (List.mem_of_getElem? (i := 131) rfl)) (notFace_of_selects (args := #[]) (mvT hZ (hw _ (List.mem_of_getElem? (i := 133) rfl)))) (hw _ (List.mem_of_getElem? (i := 133) rfl)) (hw _ (List.mem_of_getElem? (i := 132) rfl)) (hw _ (List.mem_of_getElem? (i := 34) rfl)) (hw _ (List.mem_of_getElem? (i := 134) rfl)) (by decide) (own_c22 l Z a0 hw [] ob bb kb (own_id (Int32.ofNat 1) (Int32.ofNat nn) sI rv) (Int32.ofNat nn) l1 (cs.map Value.int) T21.heap n0 (by rw [k21]; exact Z1) (by rw [k21]; exact F1_) (by rw [k21]; exact V1_) ⟨i1, own_ltOf (by omega) i1 i2⟩ (by rw [own_mapD, i3]; rfl)) rfl (by rw [k21]; exact E1_) (W := 0) (by decide) (by decide) (g := (mkF m 403 #[.val (.int p1), .val (.int p2), .val (.int p3), .val (.int p4), .val (.int p5), .val (.int p6), .val (.int (Int32.ofNat nn)), .val (.int l1), .val (.int l1), .val (.int l2), .val (.int (own_mx l1 l2)), .val (.int l3), .val (.int (own_mx (own_mx l1 l2) l3)), .val (.int (Int32.ofNat kk)), .val (.int sI), .val (.int rv), .val (.int ds), .val (.ref b7), .val (.ref b12), .val (.ref ob), .val (.int (1 : Int32))] [(.int (own_id (Int32.ofNat 1) (Int32.ofNat nn) sI rv)), (.ref ob)])) rfl (by rw [hml]; rfl) (argsL := [(.int (own_id (Int32.ofNat 1) (Int32.ofNat nn) sI rv))]) (rest := []) (lenOf own_pd11 rfl) rfl rfl rfl (hb hby at_403) (by decide) (by decide)
        have N22 := Fr.app N21 N22q
        refine own_go st22 ?_
        show own_Rch p e below _ (T22.setTop (mkF m 406 #[.val (.int p1), .val (.int p2), .val (.int p3), .val (.int p4), .val (.int p5), .val (.int p6), .val (.int (Int32.ofNat nn)), .val (.int l1), .val (.int l1), .val (.int l2), .val (.int (own_mx l1 l2)), .val (.int l3), .val (.int (own_mx (own_mx l1 l2) l3)), .val (.int (Int32.ofNat kk)), .val (.int sI), .val (.int rv), .val (.int ds), .val (.ref b7), .val (.ref b12), .val (.ref ob), .val (.int (1 : Int32))] [(.int l1)]))
        refine own_go (S' := (T22.setTop (mkF m 409 #[.val (.int p1), .val (.int p2), .val (.int p3), .val (.int p4), .val (.int p5), .val (.int p6), .val (.int (Int32.ofNat nn)), .val (.int l1), .val (.int l1), .val (.int l2), .val (.int (own_mx l1 l2)), .val (.int l3), .val (.int (own_mx (own_mx l1 l2) l3)), .val (.int (Int32.ofNat kk)), .val (.int sI), .val (.int rv), .val (.int ds), .val (.ref b7), .val (.ref b12), .val (.ref ob), .val (.int (1 : Int32))] [(.int (1 : Int32)), (.ref b7), (.int l1)]))) (fun t_ k_ => ?_) ?_
        · refine XS.aload X22.here hx rfl (hb hby at_406) rfl rfl ?_
          show Steps p.tables e below (T22.setTop (mkF m 408 #[.val (.int p1), .val (.int p2), .val (.int p3), .val (.int p4), .val (.int p5), .val (.int p6), .val (.int (Int32.ofNat nn)), .val (.int l1), .val (.int l1), .val (.int l2), .val (.int (own_mx l1 l2)), .val (.int l3), .val (.int (own_mx (own_mx l1 l2) l3)), .val (.int (Int32.ofNat kk)), .val (.int sI), .val (.int rv), .val (.int ds), .val (.ref b7), .val (.ref b12), .val (.ref ob), .val (.int (1 : Int32))] [(.ref b7), (.int l1)])) _
          refine XS.iconst X22.here hx rfl (hb hby at_408) ?_
          show Steps p.tables e below (T22.setTop (mkF m 409 #[.val (.int p1), .val (.int p2), .val (.int p3), .val (.int p4), .val (.int p5), .val (.int p6), .val (.int (Int32.ofNat nn)), .val (.int l1), .val (.int l1), .val (.int l2), .val (.int (own_mx l1 l2)), .val (.int l3), .val (.int (own_mx (own_mx l1 l2) l3)), .val (.int (Int32.ofNat kk)), .val (.int sI), .val (.int rv), .val (.int ds), .val (.ref b7), .val (.ref b12), .val (.ref ob), .val (.int (1 : Int32))] [(.int (1 : Int32)), (.ref b7), (.int l1)])) _
          exact k_
        have Wc1 := W1_
        rw [← k21, ← k22] at Wc1
        refine own_go (own_ial X22 hx hZ rfl Wc1 (by decide) (v := (.int l1)) rfl (g := (mkF m 409 #[.val (.int p1), .val (.int p2), .val (.int p3), .val (.int p4), .val (.int p5), .val (.int p6), .val (.int (Int32.ofNat nn)), .val (.int l1), .val (.int l1), .val (.int l2), .val (.int (own_mx l1 l2)), .val (.int l3), .val (.int (own_mx (own_mx l1 l2) l3)), .val (.int (Int32.ofNat kk)), .val (.int sI), .val (.int rv), .val (.int ds), .val (.ref b7), .val (.ref b12), .val (.ref ob), .val (.int (1 : Int32))] [(.int (1 : Int32)), (.ref b7), (.int l1)])) rfl rfl (hb hby at_409)) ?_
        show own_Rch p e below _ (T22.setTop (mkF m 410 #[.val (.int p1), .val (.int p2), .val (.int p3), .val (.int p4), .val (.int p5), .val (.int p6), .val (.int (Int32.ofNat nn)), .val (.int l1), .val (.int l1), .val (.int l2), .val (.int (own_mx l1 l2)), .val (.int l3), .val (.int (own_mx (own_mx l1 l2) l3)), .val (.int (Int32.ofNat kk)), .val (.int sI), .val (.int rv), .val (.int ds), .val (.ref b7), .val (.ref b12), .val (.ref ob), .val (.int (1 : Int32))] [(.int l1), (.int l1)]))
        refine own_go (S' := (T22.setTop (mkF m 420 #[.val (.int p1), .val (.int p2), .val (.int p3), .val (.int p4), .val (.int p5), .val (.int p6), .val (.int (Int32.ofNat nn)), .val (.int l1), .val (.int l1), .val (.int l2), .val (.int (own_mx l1 l2)), .val (.int l3), .val (.int (own_mx (own_mx l1 l2) l3)), .val (.int (Int32.ofNat kk)), .val (.int sI), .val (.int rv), .val (.int ds), .val (.ref b7), .val (.ref b12), .val (.ref ob), .val (.int (1 : Int32))] []))) (fun t_ k_ => ?_) ?_
        · refine XS.icmpNo X22.here hx rfl (hb hby at_410) rfl (teq rfl).2 ?_
          show Steps p.tables e below (T22.setTop (mkF m 413 #[.val (.int p1), .val (.int p2), .val (.int p3), .val (.int p4), .val (.int p5), .val (.int p6), .val (.int (Int32.ofNat nn)), .val (.int l1), .val (.int l1), .val (.int l2), .val (.int (own_mx l1 l2)), .val (.int l3), .val (.int (own_mx (own_mx l1 l2) l3)), .val (.int (Int32.ofNat kk)), .val (.int sI), .val (.int rv), .val (.int ds), .val (.ref b7), .val (.ref b12), .val (.ref ob), .val (.int (1 : Int32))] [])) _
          refine XS.iconst X22.here hx rfl (hb hby at_413) ?_
          show Steps p.tables e below (T22.setTop (mkF m 414 #[.val (.int p1), .val (.int p2), .val (.int p3), .val (.int p4), .val (.int p5), .val (.int p6), .val (.int (Int32.ofNat nn)), .val (.int l1), .val (.int l1), .val (.int l2), .val (.int (own_mx l1 l2)), .val (.int l3), .val (.int (own_mx (own_mx l1 l2) l3)), .val (.int (Int32.ofNat kk)), .val (.int sI), .val (.int rv), .val (.int ds), .val (.ref b7), .val (.ref b12), .val (.ref ob), .val (.int (1 : Int32))] [(.int (1 : Int32))])) _
          refine XS.goto X22.here hx rfl (pc0 := 414) (pc' := 418) rfl (hb hby at_414) (by decide) (by decide) ?_
          show Steps p.tables e below (T22.setTop (mkF m 418 #[.val (.int p1), .val (.int p2), .val (.int p3), .val (.int p4), .val (.int p5), .val (.int p6), .val (.int (Int32.ofNat nn)), .val (.int l1), .val (.int l1), .val (.int l2), .val (.int (own_mx l1 l2)), .val (.int l3), .val (.int (own_mx (own_mx l1 l2) l3)), .val (.int (Int32.ofNat kk)), .val (.int sI), .val (.int rv), .val (.int ds), .val (.ref b7), .val (.ref b12), .val (.ref ob), .val (.int (1 : Int32))] [(.int (1 : Int32))])) _
          refine XS.istore X22.here hx rfl (hb hby at_418) rfl (l' := #[.val (.int p1), .val (.int p2), .val (.int p3), .val (.int p4), .val (.int p5), .val (.int p6), .val (.int (Int32.ofNat nn)), .val (.int l1), .val (.int l1), .val (.int l2), .val (.int (own_mx l1 l2)), .val (.int l3), .val (.int (own_mx (own_mx l1 l2) l3)), .val (.int (Int32.ofNat kk)), .val (.int sI), .val (.int rv), .val (.int ds), .val (.ref b7), .val (.ref b12), .val (.ref ob), .val (.int (1 : Int32))]) rfl ?_
          show Steps p.tables e below (T22.setTop (mkF m 420 #[.val (.int p1), .val (.int p2), .val (.int p3), .val (.int p4), .val (.int p5), .val (.int p6), .val (.int (Int32.ofNat nn)), .val (.int l1), .val (.int l1), .val (.int l2), .val (.int (own_mx l1 l2)), .val (.int l3), .val (.int (own_mx (own_mx l1 l2) l3)), .val (.int (Int32.ofNat kk)), .val (.int sI), .val (.int rv), .val (.int ds), .val (.ref b7), .val (.ref b12), .val (.ref ob), .val (.int (1 : Int32))] [])) _
          exact k_
        have kq : T22.heap = hC1 := by rw [k22, k21]
        exact C2 _ _ _ X22 rfl N22 (by rw [kq]; exact Z1) (by rw [kq]; exact E1_) (by rw [kq]; exact F1_) (by rw [kq]; exact V1_) (by rw [kq]; exact W1_)
      · skip
        refine own_go (S' := (TC1.setTop (mkF m 420 #[.val (.int p1), .val (.int p2), .val (.int p3), .val (.int p4), .val (.int p5), .val (.int p6), .val (.int (Int32.ofNat nn)), .val (.int l1), .val (.int l1), .val (.int l2), .val (.int (own_mx l1 l2)), .val (.int l3), .val (.int (own_mx (own_mx l1 l2) l3)), .val (.int (Int32.ofNat kk)), .val (.int sI), .val (.int rv), .val (.int ds), .val (.ref b7), .val (.ref b12), .val (.ref ob), .val (.int (1 : Int32))] []))) (fun t_ k_ => ?_) ?_
        · refine XS.icmpYes XC1.here hx rfl (pc0 := 388) (pc' := 420) rfl (hb hby at_388) rfl (flt g1).2.2.2 (by decide) (by decide) ?_
          show Steps p.tables e below (TC1.setTop (mkF m 420 #[.val (.int p1), .val (.int p2), .val (.int p3), .val (.int p4), .val (.int p5), .val (.int p6), .val (.int (Int32.ofNat nn)), .val (.int l1), .val (.int l1), .val (.int l2), .val (.int (own_mx l1 l2)), .val (.int l3), .val (.int (own_mx (own_mx l1 l2) l3)), .val (.int (Int32.ofNat kk)), .val (.int sI), .val (.int rv), .val (.int ds), .val (.ref b7), .val (.ref b12), .val (.ref ob), .val (.int (1 : Int32))] [])) _
          exact k_
        exact C2 _ _ _ XC1 eC1 NC1 Z1 E1_ F1_ V1_ W1_
    have ks : T16.heap = T14.heap := by rw [k16, k15]
    have cZP : n0 ≤ T16.heap.size := by rw [ks]; exact ZP
    have cEP : Exa Z T16.heap ob "com/example/anonutils/anonutils/Clustering" := by rw [ks]; exact E14
    have cFP : Fld Z T16.heap ob "com/example/anonutils/anonutils/Clustering" "clusterOf" "[I" (.ref bb) := by rw [ks]; exact Fa14
    have cVPb : Arv Z T16.heap bb kb .int (Int32.ofNat nn) (cs.map Value.int) (.int 0) := by rw [ks]; exact V14
    have cWP : Arv Z T16.heap b7 k7 .int 4 [(.int (0 : Int32)), (.int l1), (.int l2), (.int l3)] (.int (0 : Int32)) := by rw [ks]; exact VP
    refine own_go (S' := (T16.setTop (mkF m 343 #[.val (.int p1), .val (.int p2), .val (.int p3), .val (.int p4), .val (.int p5), .val (.int p6), .val (.int (Int32.ofNat nn)), .val (.int l1), .val (.int l1), .val (.int l2), .val (.int (own_mx l1 l2)), .val (.int l3), .val (.int (own_mx (own_mx l1 l2) l3)), .val (.int (Int32.ofNat kk)), .val (.int sI), .val (.int rv), .val (.int ds), .val (.ref b7), .val (.ref b12), .val (.ref ob), .val (.int (1 : Int32))] [(.int (1 : Int32))]))) (fun t_ k_ => ?_) ?_
    · refine XS.iload X16.here hx rfl (hb hby at_341) rfl ?_
      show Steps p.tables e below (T16.setTop (mkF m 343 #[.val (.int p1), .val (.int p2), .val (.int p3), .val (.int p4), .val (.int p5), .val (.int p6), .val (.int (Int32.ofNat nn)), .val (.int l1), .val (.int l1), .val (.int l2), .val (.int (own_mx l1 l2)), .val (.int l3), .val (.int (own_mx (own_mx l1 l2) l3)), .val (.int (Int32.ofNat kk)), .val (.int sI), .val (.int rv), .val (.int ds), .val (.ref b7), .val (.ref b12), .val (.ref ob), .val (.int (1 : Int32))] [(.int (1 : Int32))])) _
      exact k_
    refine own_go (S' := (T16.setTop (mkF m 348 #[.val (.int p1), .val (.int p2), .val (.int p3), .val (.int p4), .val (.int p5), .val (.int p6), .val (.int (Int32.ofNat nn)), .val (.int l1), .val (.int l1), .val (.int l2), .val (.int (own_mx l1 l2)), .val (.int l3), .val (.int (own_mx (own_mx l1 l2) l3)), .val (.int (Int32.ofNat kk)), .val (.int sI), .val (.int rv), .val (.int ds), .val (.ref b7), .val (.ref b12), .val (.ref ob), .val (.int (1 : Int32))] [(.int (Int32.ofNat nn))]))) (fun t_ k_ => ?_) ?_
    · refine XS.ifNo X16.here hx rfl (hb hby at_343) rfl ((if0 _ _).trans (feq (by decide)).1) ?_
      show Steps p.tables e below (T16.setTop (mkF m 346 #[.val (.int p1), .val (.int p2), .val (.int p3), .val (.int p4), .val (.int p5), .val (.int p6), .val (.int (Int32.ofNat nn)), .val (.int l1), .val (.int l1), .val (.int l2), .val (.int (own_mx l1 l2)), .val (.int l3), .val (.int (own_mx (own_mx l1 l2) l3)), .val (.int (Int32.ofNat kk)), .val (.int sI), .val (.int rv), .val (.int ds), .val (.ref b7), .val (.ref b12), .val (.ref ob), .val (.int (1 : Int32))] [])) _
      refine XS.iload X16.here hx rfl (hb hby at_346) rfl ?_
      show Steps p.tables e below (T16.setTop (mkF m 348 #[.val (.int p1), .val (.int p2), .val (.int p3), .val (.int p4), .val (.int p5), .val (.int p6), .val (.int (Int32.ofNat nn)), .val (.int l1), .val (.int l1), .val (.int l2), .val (.int (own_mx l1 l2)), .val (.int l3), .val (.int (own_mx (own_mx l1 l2) l3)), .val (.int (Int32.ofNat kk)), .val (.int sI), .val (.int rv), .val (.int ds), .val (.ref b7), .val (.ref b12), .val (.ref ob), .val (.int (1 : Int32))] [(.int (Int32.ofNat nn))])) _
      exact k_
    by_cases g1 : (0 : Int32) < (Int32.ofNat nn)
    · skip
      refine own_go (S' := (T16.setTop (mkF m 360 #[.val (.int p1), .val (.int p2), .val (.int p3), .val (.int p4), .val (.int p5), .val (.int p6), .val (.int (Int32.ofNat nn)), .val (.int l1), .val (.int l1), .val (.int l2), .val (.int (own_mx l1 l2)), .val (.int l3), .val (.int (own_mx (own_mx l1 l2) l3)), .val (.int (Int32.ofNat kk)), .val (.int sI), .val (.int rv), .val (.int ds), .val (.ref b7), .val (.ref b12), .val (.ref ob), .val (.int (1 : Int32))] [(.int rv), (.int sI), (.int (Int32.ofNat nn)), (.int (0 : Int32)), (.ref ob)]))) (fun t_ k_ => ?_) ?_
      · refine XS.ifNo X16.here hx rfl (hb hby at_348) rfl ((if0 _ _).trans (tlt g1).2.2.2) ?_
        show Steps p.tables e below (T16.setTop (mkF m 351 #[.val (.int p1), .val (.int p2), .val (.int p3), .val (.int p4), .val (.int p5), .val (.int p6), .val (.int (Int32.ofNat nn)), .val (.int l1), .val (.int l1), .val (.int l2), .val (.int (own_mx l1 l2)), .val (.int l3), .val (.int (own_mx (own_mx l1 l2) l3)), .val (.int (Int32.ofNat kk)), .val (.int sI), .val (.int rv), .val (.int ds), .val (.ref b7), .val (.ref b12), .val (.ref ob), .val (.int (1 : Int32))] [])) _
        refine XS.aload X16.here hx rfl (hb hby at_351) rfl rfl ?_
        show Steps p.tables e below (T16.setTop (mkF m 353 #[.val (.int p1), .val (.int p2), .val (.int p3), .val (.int p4), .val (.int p5), .val (.int p6), .val (.int (Int32.ofNat nn)), .val (.int l1), .val (.int l1), .val (.int l2), .val (.int (own_mx l1 l2)), .val (.int l3), .val (.int (own_mx (own_mx l1 l2) l3)), .val (.int (Int32.ofNat kk)), .val (.int sI), .val (.int rv), .val (.int ds), .val (.ref b7), .val (.ref b12), .val (.ref ob), .val (.int (1 : Int32))] [(.ref ob)])) _
        refine XS.iconst X16.here hx rfl (hb hby at_353) ?_
        show Steps p.tables e below (T16.setTop (mkF m 354 #[.val (.int p1), .val (.int p2), .val (.int p3), .val (.int p4), .val (.int p5), .val (.int p6), .val (.int (Int32.ofNat nn)), .val (.int l1), .val (.int l1), .val (.int l2), .val (.int (own_mx l1 l2)), .val (.int l3), .val (.int (own_mx (own_mx l1 l2) l3)), .val (.int (Int32.ofNat kk)), .val (.int sI), .val (.int rv), .val (.int ds), .val (.ref b7), .val (.ref b12), .val (.ref ob), .val (.int (1 : Int32))] [(.int (0 : Int32)), (.ref ob)])) _
        refine XS.iload X16.here hx rfl (hb hby at_354) rfl ?_
        show Steps p.tables e below (T16.setTop (mkF m 356 #[.val (.int p1), .val (.int p2), .val (.int p3), .val (.int p4), .val (.int p5), .val (.int p6), .val (.int (Int32.ofNat nn)), .val (.int l1), .val (.int l1), .val (.int l2), .val (.int (own_mx l1 l2)), .val (.int l3), .val (.int (own_mx (own_mx l1 l2) l3)), .val (.int (Int32.ofNat kk)), .val (.int sI), .val (.int rv), .val (.int ds), .val (.ref b7), .val (.ref b12), .val (.ref ob), .val (.int (1 : Int32))] [(.int (Int32.ofNat nn)), (.int (0 : Int32)), (.ref ob)])) _
        refine XS.iload X16.here hx rfl (hb hby at_356) rfl ?_
        show Steps p.tables e below (T16.setTop (mkF m 358 #[.val (.int p1), .val (.int p2), .val (.int p3), .val (.int p4), .val (.int p5), .val (.int p6), .val (.int (Int32.ofNat nn)), .val (.int l1), .val (.int l1), .val (.int l2), .val (.int (own_mx l1 l2)), .val (.int l3), .val (.int (own_mx (own_mx l1 l2) l3)), .val (.int (Int32.ofNat kk)), .val (.int sI), .val (.int rv), .val (.int ds), .val (.ref b7), .val (.ref b12), .val (.ref ob), .val (.int (1 : Int32))] [(.int sI), (.int (Int32.ofNat nn)), (.int (0 : Int32)), (.ref ob)])) _
        refine XS.iload X16.here hx rfl (hb hby at_358) rfl ?_
        show Steps p.tables e below (T16.setTop (mkF m 360 #[.val (.int p1), .val (.int p2), .val (.int p3), .val (.int p4), .val (.int p5), .val (.int p6), .val (.int (Int32.ofNat nn)), .val (.int l1), .val (.int l1), .val (.int l2), .val (.int (own_mx l1 l2)), .val (.int l3), .val (.int (own_mx (own_mx l1 l2) l3)), .val (.int (Int32.ofNat kk)), .val (.int sI), .val (.int rv), .val (.int ds), .val (.ref b7), .val (.ref b12), .val (.ref ob), .val (.int (1 : Int32))] [(.int rv), (.int sI), (.int (Int32.ofNat nn)), (.int (0 : Int32)), (.ref ob)])) _
        exact k_
      have hj0 : 0 < nn := (own_ltN (by omega : (0 : Nat) ≤ 10) (by omega)).mp g1
      obtain ⟨i1, i2, i3⟩ := hids 0 hj0
      obtain ⟨_, T23, L23, X23, ⟨rfl, N23q, k23⟩, st23⟩ := own_callS X16 hx hZ (y := (⟨"com/example/anonutils/anonutils/ClusteringOfPinLaw", "id", "(IIIZ)I"⟩ : MethodName)) hown (hw _ (List.mem_of_getElem? (i := 75) rfl)) (hw _ (List.mem_of_getElem? (i := 76) rfl)) (hw _ (List.mem_of_getElem? (i := 73) rfl)) (hw _ (List.mem_of_getElem? (i := 77) rfl)) (by decide) (own_c13 l Z a0 hw [] (Int32.ofNat 0) (Int32.ofNat nn) sI rv T16.heap n0 cZP (hnz 0 (by omega) g1)) rfl (W := 1) (by decide) (by decide) (g := (mkF m 360 #[.val (.int p1), .val (.int p2), .val (.int p3), .val (.int p4), .val (.int p5), .val (.int p6), .val (.int (Int32.ofNat nn)), .val (.int l1), .val (.int l1), .val (.int l2), .val (.int (own_mx l1 l2)), .val (.int l3), .val (.int (own_mx (own_mx l1 l2) l3)), .val (.int (Int32.ofNat kk)), .val (.int sI), .val (.int rv), .val (.int ds), .val (.ref b7), .val (.ref b12), .val (.ref ob), .val (.int (1 : Int32))] [(.int rv), (.int sI), (.int (Int32.ofNat nn)), (.int (0 : Int32)), (.ref ob)])) rfl (by rw [hml]; rfl) (argsL := [(.int (0 : Int32)), (.int (Int32.ofNat nn)), (.int sI), (.int rv)]) (rest := [(.ref ob)]) (lenOf own_pd9 rfl) rfl rfl rfl (hb hby at_360) (by decide) (by decide)
      have N23 := Fr.app N16 N23q
      refine own_go st23 ?_
      show own_Rch p e below _ (T23.setTop (mkF m 363 #[.val (.int p1), .val (.int p2), .val (.int p3), .val (.int p4), .val (.int p5), .val (.int p6), .val (.int (Int32.ofNat nn)), .val (.int l1), .val (.int l1), .val (.int l2), .val (.int (own_mx l1 l2)), .val (.int l3), .val (.int (own_mx (own_mx l1 l2) l3)), .val (.int (Int32.ofNat kk)), .val (.int sI), .val (.int rv), .val (.int ds), .val (.ref b7), .val (.ref b12), .val (.ref ob), .val (.int (1 : Int32))] [(.int (own_id (Int32.ofNat 0) (Int32.ofNat nn) sI rv)), (.ref ob)]))
      obtain ⟨_, T24, L24, X24, ⟨rfl, N24q, k24⟩, st24⟩ := own_callV X23 hx hZ (y := (⟨"com/example/anonutils/anonutils/Clustering", "clusterOf", "(I)I"⟩ : MethodName)) (z := (⟨"com/example/anonutils/anonutils/Clustering", "clusterOf", "(I)I"⟩ : MethodName)) (C := "com/example/anonutils/anonutils/Clustering") hown (hw _ (List.mem_of_getElem? (i := 130) rfl)) (hw _ (List.mem_of_getElem? (i := 131) rfl)) (notFace_of_selects (args := #[]) (mvT hZ (hw _ (List.mem_of_getElem? (i := 133) rfl)))) (hw _ (List.mem_of_getElem? (i := 133) rfl)) (hw _ (List.mem_of_getElem? (i := 132) rfl)) (hw _ (List.mem_of_getElem? (i := 34) rfl)) (hw _ (List.mem_of_getElem? (i := 134) rfl)) (by decide) (own_c22 l Z a0 hw [] ob bb kb (own_id (Int32.ofNat 0) (Int32.ofNat nn) sI rv) (Int32.ofNat nn) (0 : Int32) (cs.map Value.int) T23.heap n0 (by rw [k23]; exact cZP) (by rw [k23]; exact cFP) (by rw [k23]; exact cVPb) ⟨i1, own_ltOf (by omega) i1 i2⟩ (by rw [own_mapD, i3]; rfl)) rfl (by rw [k23]; exact cEP) (W := 0) (by decide) (by decide) (g := (mkF m 363 #[.val (.int p1), .val (.int p2), .val (.int p3), .val (.int p4), .val (.int p5), .val (.int p6), .val (.int (Int32.ofNat nn)), .val (.int l1), .val (.int l1), .val (.int l2), .val (.int (own_mx l1 l2)), .val (.int l3), .val (.int (own_mx (own_mx l1 l2) l3)), .val (.int (Int32.ofNat kk)), .val (.int sI), .val (.int rv), .val (.int ds), .val (.ref b7), .val (.ref b12), .val (.ref ob), .val (.int (1 : Int32))] [(.int (own_id (Int32.ofNat 0) (Int32.ofNat nn) sI rv)), (.ref ob)])) rfl (by rw [hml]; rfl) (argsL := [(.int (own_id (Int32.ofNat 0) (Int32.ofNat nn) sI rv))]) (rest := []) (lenOf own_pd11 rfl) rfl rfl rfl (hb hby at_363) (by decide) (by decide)
      have N24 := Fr.app N23 N24q
      refine own_go st24 ?_
      show own_Rch p e below _ (T24.setTop (mkF m 366 #[.val (.int p1), .val (.int p2), .val (.int p3), .val (.int p4), .val (.int p5), .val (.int p6), .val (.int (Int32.ofNat nn)), .val (.int l1), .val (.int l1), .val (.int l2), .val (.int (own_mx l1 l2)), .val (.int l3), .val (.int (own_mx (own_mx l1 l2) l3)), .val (.int (Int32.ofNat kk)), .val (.int sI), .val (.int rv), .val (.int ds), .val (.ref b7), .val (.ref b12), .val (.ref ob), .val (.int (1 : Int32))] [(.int (0 : Int32))]))
      refine own_go (S' := (T24.setTop (mkF m 369 #[.val (.int p1), .val (.int p2), .val (.int p3), .val (.int p4), .val (.int p5), .val (.int p6), .val (.int (Int32.ofNat nn)), .val (.int l1), .val (.int l1), .val (.int l2), .val (.int (own_mx l1 l2)), .val (.int l3), .val (.int (own_mx (own_mx l1 l2) l3)), .val (.int (Int32.ofNat kk)), .val (.int sI), .val (.int rv), .val (.int ds), .val (.ref b7), .val (.ref b12), .val (.ref ob), .val (.int (1 : Int32))] [(.int (0 : Int32)), (.ref b7), (.int (0 : Int32))]))) (fun t_ k_ => ?_) ?_
      · refine XS.aload X24.here hx rfl (hb hby at_366) rfl rfl ?_
        show Steps p.tables e below (T24.setTop (mkF m 368 #[.val (.int p1), .val (.int p2), .val (.int p3), .val (.int p4), .val (.int p5), .val (.int p6), .val (.int (Int32.ofNat nn)), .val (.int l1), .val (.int l1), .val (.int l2), .val (.int (own_mx l1 l2)), .val (.int l3), .val (.int (own_mx (own_mx l1 l2) l3)), .val (.int (Int32.ofNat kk)), .val (.int sI), .val (.int rv), .val (.int ds), .val (.ref b7), .val (.ref b12), .val (.ref ob), .val (.int (1 : Int32))] [(.ref b7), (.int (0 : Int32))])) _
        refine XS.iconst X24.here hx rfl (hb hby at_368) ?_
        show Steps p.tables e below (T24.setTop (mkF m 369 #[.val (.int p1), .val (.int p2), .val (.int p3), .val (.int p4), .val (.int p5), .val (.int p6), .val (.int (Int32.ofNat nn)), .val (.int l1), .val (.int l1), .val (.int l2), .val (.int (own_mx l1 l2)), .val (.int l3), .val (.int (own_mx (own_mx l1 l2) l3)), .val (.int (Int32.ofNat kk)), .val (.int sI), .val (.int rv), .val (.int ds), .val (.ref b7), .val (.ref b12), .val (.ref ob), .val (.int (1 : Int32))] [(.int (0 : Int32)), (.ref b7), (.int (0 : Int32))])) _
        exact k_
      have Wc0 := cWP
      rw [← k23, ← k24] at Wc0
      refine own_go (own_ial X24 hx hZ rfl Wc0 (by decide) (v := (.int (0 : Int32))) rfl (g := (mkF m 369 #[.val (.int p1), .val (.int p2), .val (.int p3), .val (.int p4), .val (.int p5), .val (.int p6), .val (.int (Int32.ofNat nn)), .val (.int l1), .val (.int l1), .val (.int l2), .val (.int (own_mx l1 l2)), .val (.int l3), .val (.int (own_mx (own_mx l1 l2) l3)), .val (.int (Int32.ofNat kk)), .val (.int sI), .val (.int rv), .val (.int ds), .val (.ref b7), .val (.ref b12), .val (.ref ob), .val (.int (1 : Int32))] [(.int (0 : Int32)), (.ref b7), (.int (0 : Int32))])) rfl rfl (hb hby at_369)) ?_
      show own_Rch p e below _ (T24.setTop (mkF m 370 #[.val (.int p1), .val (.int p2), .val (.int p3), .val (.int p4), .val (.int p5), .val (.int p6), .val (.int (Int32.ofNat nn)), .val (.int l1), .val (.int l1), .val (.int l2), .val (.int (own_mx l1 l2)), .val (.int l3), .val (.int (own_mx (own_mx l1 l2) l3)), .val (.int (Int32.ofNat kk)), .val (.int sI), .val (.int rv), .val (.int ds), .val (.ref b7), .val (.ref b12), .val (.ref ob), .val (.int (1 : Int32))] [(.int (0 : Int32)), (.int (0 : Int32))]))
      refine own_go (S' := (T24.setTop (mkF m 380 #[.val (.int p1), .val (.int p2), .val (.int p3), .val (.int p4), .val (.int p5), .val (.int p6), .val (.int (Int32.ofNat nn)), .val (.int l1), .val (.int l1), .val (.int l2), .val (.int (own_mx l1 l2)), .val (.int l3), .val (.int (own_mx (own_mx l1 l2) l3)), .val (.int (Int32.ofNat kk)), .val (.int sI), .val (.int rv), .val (.int ds), .val (.ref b7), .val (.ref b12), .val (.ref ob), .val (.int (1 : Int32))] []))) (fun t_ k_ => ?_) ?_
      · refine XS.icmpNo X24.here hx rfl (hb hby at_370) rfl (teq rfl).2 ?_
        show Steps p.tables e below (T24.setTop (mkF m 373 #[.val (.int p1), .val (.int p2), .val (.int p3), .val (.int p4), .val (.int p5), .val (.int p6), .val (.int (Int32.ofNat nn)), .val (.int l1), .val (.int l1), .val (.int l2), .val (.int (own_mx l1 l2)), .val (.int l3), .val (.int (own_mx (own_mx l1 l2) l3)), .val (.int (Int32.ofNat kk)), .val (.int sI), .val (.int rv), .val (.int ds), .val (.ref b7), .val (.ref b12), .val (.ref ob), .val (.int (1 : Int32))] [])) _
        refine XS.iconst X24.here hx rfl (hb hby at_373) ?_
        show Steps p.tables e below (T24.setTop (mkF m 374 #[.val (.int p1), .val (.int p2), .val (.int p3), .val (.int p4), .val (.int p5), .val (.int p6), .val (.int (Int32.ofNat nn)), .val (.int l1), .val (.int l1), .val (.int l2), .val (.int (own_mx l1 l2)), .val (.int l3), .val (.int (own_mx (own_mx l1 l2) l3)), .val (.int (Int32.ofNat kk)), .val (.int sI), .val (.int rv), .val (.int ds), .val (.ref b7), .val (.ref b12), .val (.ref ob), .val (.int (1 : Int32))] [(.int (1 : Int32))])) _
        refine XS.goto X24.here hx rfl (pc0 := 374) (pc' := 378) rfl (hb hby at_374) (by decide) (by decide) ?_
        show Steps p.tables e below (T24.setTop (mkF m 378 #[.val (.int p1), .val (.int p2), .val (.int p3), .val (.int p4), .val (.int p5), .val (.int p6), .val (.int (Int32.ofNat nn)), .val (.int l1), .val (.int l1), .val (.int l2), .val (.int (own_mx l1 l2)), .val (.int l3), .val (.int (own_mx (own_mx l1 l2) l3)), .val (.int (Int32.ofNat kk)), .val (.int sI), .val (.int rv), .val (.int ds), .val (.ref b7), .val (.ref b12), .val (.ref ob), .val (.int (1 : Int32))] [(.int (1 : Int32))])) _
        refine XS.istore X24.here hx rfl (hb hby at_378) rfl (l' := #[.val (.int p1), .val (.int p2), .val (.int p3), .val (.int p4), .val (.int p5), .val (.int p6), .val (.int (Int32.ofNat nn)), .val (.int l1), .val (.int l1), .val (.int l2), .val (.int (own_mx l1 l2)), .val (.int l3), .val (.int (own_mx (own_mx l1 l2) l3)), .val (.int (Int32.ofNat kk)), .val (.int sI), .val (.int rv), .val (.int ds), .val (.ref b7), .val (.ref b12), .val (.ref ob), .val (.int (1 : Int32))]) rfl ?_
        show Steps p.tables e below (T24.setTop (mkF m 380 #[.val (.int p1), .val (.int p2), .val (.int p3), .val (.int p4), .val (.int p5), .val (.int p6), .val (.int (Int32.ofNat nn)), .val (.int l1), .val (.int l1), .val (.int l2), .val (.int (own_mx l1 l2)), .val (.int l3), .val (.int (own_mx (own_mx l1 l2) l3)), .val (.int (Int32.ofNat kk)), .val (.int sI), .val (.int rv), .val (.int ds), .val (.ref b7), .val (.ref b12), .val (.ref ob), .val (.int (1 : Int32))] [])) _
        exact k_
      have kq : T24.heap = T16.heap := by rw [k24, k23]
      exact C1 _ _ _ X24 rfl N24 (by rw [kq]; exact cZP) (by rw [kq]; exact cEP) (by rw [kq]; exact cFP) (by rw [kq]; exact cVPb) (by rw [kq]; exact cWP)
    · skip
      refine own_go (S' := (T16.setTop (mkF m 380 #[.val (.int p1), .val (.int p2), .val (.int p3), .val (.int p4), .val (.int p5), .val (.int p6), .val (.int (Int32.ofNat nn)), .val (.int l1), .val (.int l1), .val (.int l2), .val (.int (own_mx l1 l2)), .val (.int l3), .val (.int (own_mx (own_mx l1 l2) l3)), .val (.int (Int32.ofNat kk)), .val (.int sI), .val (.int rv), .val (.int ds), .val (.ref b7), .val (.ref b12), .val (.ref ob), .val (.int (1 : Int32))] []))) (fun t_ k_ => ?_) ?_
      · refine XS.ifYes X16.here hx rfl (pc0 := 348) (pc' := 380) rfl (hb hby at_348) rfl ((if0 _ _).trans (flt g1).2.2.2) (by decide) (by decide) ?_
        show Steps p.tables e below (T16.setTop (mkF m 380 #[.val (.int p1), .val (.int p2), .val (.int p3), .val (.int p4), .val (.int p5), .val (.int p6), .val (.int (Int32.ofNat nn)), .val (.int l1), .val (.int l1), .val (.int l2), .val (.int (own_mx l1 l2)), .val (.int l3), .val (.int (own_mx (own_mx l1 l2) l3)), .val (.int (Int32.ofNat kk)), .val (.int sI), .val (.int rv), .val (.int ds), .val (.ref b7), .val (.ref b12), .val (.ref ob), .val (.int (1 : Int32))] [])) _
        exact k_
      exact C1 _ _ _ X16 rfl N16 cZP cEP cFP cVPb cWP
  have B3 : ∀ (TB3 : State) (lcB3 : List Loc) (hB3 : Heap) (gs : List (Addr × List Int32)) (XB3 : Stand p l e room_1 s m #[(.int p1), (.int p2), (.int p3), (.int p4), (.int p5), (.int p6)] below meth c TB3 lcB3 6 29) (eB3 : TB3.heap = hB3) (NB3 : Fr n0 lcB3) (hg3 : gs.map (·.2) = (own_XS kk (Int32.ofNat nn) sI rv ds l1 l2 l3).take 3) (ZB3 : n0 ≤ hB3.size) (LL3 : own_LL Z n0 hB3 b7 k7 l1 l2 l3 b12 gs), own_Rch p e below (own_Fin s room_1.cells room_1.slots (fun v h L => v = some (.int 1) ∧ Fr n0 L)) (TB3.setTop (mkF m 277 #[.val (.int p1), .val (.int p2), .val (.int p3), .val (.int p4), .val (.int p5), .val (.int p6), .val (.int (Int32.ofNat nn)), .val (.int l1), .val (.int l1), .val (.int l2), .val (.int (own_mx l1 l2)), .val (.int l3), .val (.int (own_mx (own_mx l1 l2) l3)), .val (.int (Int32.ofNat kk)), .val (.int sI), .val (.int rv), .val (.int ds), .val (.ref b7), .val (.ref b12), .unset, .unset] [])) := by
    intro TB3 lcB3 hB3 gs XB3 eB3 NB3 hg3 ZB3 LL3
    refine own_go (S' := (TB3.setTop (mkF m 280 #[.val (.int p1), .val (.int p2), .val (.int p3), .val (.int p4), .val (.int p5), .val (.int p6), .val (.int (Int32.ofNat nn)), .val (.int l1), .val (.int l1), .val (.int l2), .val (.int (own_mx l1 l2)), .val (.int l3), .val (.int (own_mx (own_mx l1 l2) l3)), .val (.int (Int32.ofNat kk)), .val (.int sI), .val (.int rv), .val (.int ds), .val (.ref b7), .val (.ref b12), .unset, .unset] [(.int (3 : Int32)), (.int (Int32.ofNat kk))]))) (fun t_ k_ => ?_) ?_
    · refine XS.iload XB3.here hx rfl (hb hby at_277) rfl ?_
      show Steps p.tables e below (TB3.setTop (mkF m 279 #[.val (.int p1), .val (.int p2), .val (.int p3), .val (.int p4), .val (.int p5), .val (.int p6), .val (.int (Int32.ofNat nn)), .val (.int l1), .val (.int l1), .val (.int l2), .val (.int (own_mx l1 l2)), .val (.int l3), .val (.int (own_mx (own_mx l1 l2) l3)), .val (.int (Int32.ofNat kk)), .val (.int sI), .val (.int rv), .val (.int ds), .val (.ref b7), .val (.ref b12), .unset, .unset] [(.int (Int32.ofNat kk))])) _
      refine XS.iconst XB3.here hx rfl (hb hby at_279) ?_
      show Steps p.tables e below (TB3.setTop (mkF m 280 #[.val (.int p1), .val (.int p2), .val (.int p3), .val (.int p4), .val (.int p5), .val (.int p6), .val (.int (Int32.ofNat nn)), .val (.int l1), .val (.int l1), .val (.int l2), .val (.int (own_mx l1 l2)), .val (.int l3), .val (.int (own_mx (own_mx l1 l2) l3)), .val (.int (Int32.ofNat kk)), .val (.int sI), .val (.int rv), .val (.int ds), .val (.ref b7), .val (.ref b12), .unset, .unset] [(.int (3 : Int32)), (.int (Int32.ofNat kk))])) _
      exact k_
    by_cases g3 : (3 : Int32) < (Int32.ofNat kk)
    · skip
      refine own_go (S' := (TB3.setTop (mkF m 296 #[.val (.int p1), .val (.int p2), .val (.int p3), .val (.int p4), .val (.int p5), .val (.int p6), .val (.int (Int32.ofNat nn)), .val (.int l1), .val (.int l1), .val (.int l2), .val (.int (own_mx l1 l2)), .val (.int l3), .val (.int (own_mx (own_mx l1 l2) l3)), .val (.int (Int32.ofNat kk)), .val (.int sI), .val (.int rv), .val (.int ds), .val (.ref b7), .val (.ref b12), .unset, .unset] [(.ref b7), (.int ds), (.int rv), (.int sI), (.int (Int32.ofNat nn)), (.int (3 : Int32)), (.ref b12)]))) (fun t_ k_ => ?_) ?_
      · refine XS.icmpNo XB3.here hx rfl (hb hby at_280) rfl (tlt g3).2.2.2 ?_
        show Steps p.tables e below (TB3.setTop (mkF m 283 #[.val (.int p1), .val (.int p2), .val (.int p3), .val (.int p4), .val (.int p5), .val (.int p6), .val (.int (Int32.ofNat nn)), .val (.int l1), .val (.int l1), .val (.int l2), .val (.int (own_mx l1 l2)), .val (.int l3), .val (.int (own_mx (own_mx l1 l2) l3)), .val (.int (Int32.ofNat kk)), .val (.int sI), .val (.int rv), .val (.int ds), .val (.ref b7), .val (.ref b12), .unset, .unset] [])) _
        refine XS.aload XB3.here hx rfl (hb hby at_283) rfl rfl ?_
        show Steps p.tables e below (TB3.setTop (mkF m 285 #[.val (.int p1), .val (.int p2), .val (.int p3), .val (.int p4), .val (.int p5), .val (.int p6), .val (.int (Int32.ofNat nn)), .val (.int l1), .val (.int l1), .val (.int l2), .val (.int (own_mx l1 l2)), .val (.int l3), .val (.int (own_mx (own_mx l1 l2) l3)), .val (.int (Int32.ofNat kk)), .val (.int sI), .val (.int rv), .val (.int ds), .val (.ref b7), .val (.ref b12), .unset, .unset] [(.ref b12)])) _
        refine XS.iconst XB3.here hx rfl (hb hby at_285) ?_
        show Steps p.tables e below (TB3.setTop (mkF m 286 #[.val (.int p1), .val (.int p2), .val (.int p3), .val (.int p4), .val (.int p5), .val (.int p6), .val (.int (Int32.ofNat nn)), .val (.int l1), .val (.int l1), .val (.int l2), .val (.int (own_mx l1 l2)), .val (.int l3), .val (.int (own_mx (own_mx l1 l2) l3)), .val (.int (Int32.ofNat kk)), .val (.int sI), .val (.int rv), .val (.int ds), .val (.ref b7), .val (.ref b12), .unset, .unset] [(.int (3 : Int32)), (.ref b12)])) _
        refine XS.iload XB3.here hx rfl (hb hby at_286) rfl ?_
        show Steps p.tables e below (TB3.setTop (mkF m 288 #[.val (.int p1), .val (.int p2), .val (.int p3), .val (.int p4), .val (.int p5), .val (.int p6), .val (.int (Int32.ofNat nn)), .val (.int l1), .val (.int l1), .val (.int l2), .val (.int (own_mx l1 l2)), .val (.int l3), .val (.int (own_mx (own_mx l1 l2) l3)), .val (.int (Int32.ofNat kk)), .val (.int sI), .val (.int rv), .val (.int ds), .val (.ref b7), .val (.ref b12), .unset, .unset] [(.int (Int32.ofNat nn)), (.int (3 : Int32)), (.ref b12)])) _
        refine XS.iload XB3.here hx rfl (hb hby at_288) rfl ?_
        show Steps p.tables e below (TB3.setTop (mkF m 290 #[.val (.int p1), .val (.int p2), .val (.int p3), .val (.int p4), .val (.int p5), .val (.int p6), .val (.int (Int32.ofNat nn)), .val (.int l1), .val (.int l1), .val (.int l2), .val (.int (own_mx l1 l2)), .val (.int l3), .val (.int (own_mx (own_mx l1 l2) l3)), .val (.int (Int32.ofNat kk)), .val (.int sI), .val (.int rv), .val (.int ds), .val (.ref b7), .val (.ref b12), .unset, .unset] [(.int sI), (.int (Int32.ofNat nn)), (.int (3 : Int32)), (.ref b12)])) _
        refine XS.iload XB3.here hx rfl (hb hby at_290) rfl ?_
        show Steps p.tables e below (TB3.setTop (mkF m 292 #[.val (.int p1), .val (.int p2), .val (.int p3), .val (.int p4), .val (.int p5), .val (.int p6), .val (.int (Int32.ofNat nn)), .val (.int l1), .val (.int l1), .val (.int l2), .val (.int (own_mx l1 l2)), .val (.int l3), .val (.int (own_mx (own_mx l1 l2) l3)), .val (.int (Int32.ofNat kk)), .val (.int sI), .val (.int rv), .val (.int ds), .val (.ref b7), .val (.ref b12), .unset, .unset] [(.int rv), (.int sI), (.int (Int32.ofNat nn)), (.int (3 : Int32)), (.ref b12)])) _
        refine XS.iload XB3.here hx rfl (hb hby at_292) rfl ?_
        show Steps p.tables e below (TB3.setTop (mkF m 294 #[.val (.int p1), .val (.int p2), .val (.int p3), .val (.int p4), .val (.int p5), .val (.int p6), .val (.int (Int32.ofNat nn)), .val (.int l1), .val (.int l1), .val (.int l2), .val (.int (own_mx l1 l2)), .val (.int l3), .val (.int (own_mx (own_mx l1 l2) l3)), .val (.int (Int32.ofNat kk)), .val (.int sI), .val (.int rv), .val (.int ds), .val (.ref b7), .val (.ref b12), .unset, .unset] [(.int ds), (.int rv), (.int sI), (.int (Int32.ofNat nn)), (.int (3 : Int32)), (.ref b12)])) _
        refine XS.aload XB3.here hx rfl (hb hby at_294) rfl rfl ?_
        show Steps p.tables e below (TB3.setTop (mkF m 296 #[.val (.int p1), .val (.int p2), .val (.int p3), .val (.int p4), .val (.int p5), .val (.int p6), .val (.int (Int32.ofNat nn)), .val (.int l1), .val (.int l1), .val (.int l2), .val (.int (own_mx l1 l2)), .val (.int l3), .val (.int (own_mx (own_mx l1 l2) l3)), .val (.int (Int32.ofNat kk)), .val (.int sI), .val (.int rv), .val (.int ds), .val (.ref b7), .val (.ref b12), .unset, .unset] [(.ref b7), (.int ds), (.int rv), (.int sI), (.int (Int32.ofNat nn)), (.int (3 : Int32)), (.ref b12)])) _
        exact k_
      have hki : 3 < kk := (own_ltN (by omega : (3 : Nat) ≤ 10) (by omega)).mp g3
      have hgl : gs.length = 3 := by have q := congrArg List.length hg3; rw [own_XS] at q; simp at q; omega
      obtain ⟨VLb, EAb, nlb, nab, ed, ke, mc, vs, f1, f2, f3, V, O_, hvl, h4, ne, nl, ge, Ag, rg⟩ := LL3
      obtain ⟨_, T25, L25, X25, ⟨nb, kb, rfl, N25q, K25, z25, g25, E25, V25⟩, st25⟩ := own_callS XB3 hx hZ (y := (⟨"com/example/anonutils/anonutils/ClusteringOfPinLaw", "members", "(IIIZZ[I)[I"⟩ : MethodName)) hown (hw _ (List.mem_of_getElem? (i := 71) rfl)) (hw _ (List.mem_of_getElem? (i := 72) rfl)) (hw _ (List.mem_of_getElem? (i := 73) rfl)) (hw _ (List.mem_of_getElem? (i := 74) rfl)) (by decide) (own_c12 l Z a0 hw [] (Int32.ofNat 3) (Int32.ofNat nn) sI rv ds b7 k7 0 l1 l2 l3 hB3 n0 ZB3 VLb) eB3 (W := 1) (by decide) (by decide) (g := (mkF m 296 #[.val (.int p1), .val (.int p2), .val (.int p3), .val (.int p4), .val (.int p5), .val (.int p6), .val (.int (Int32.ofNat nn)), .val (.int l1), .val (.int l1), .val (.int l2), .val (.int (own_mx l1 l2)), .val (.int l3), .val (.int (own_mx (own_mx l1 l2) l3)), .val (.int (Int32.ofNat kk)), .val (.int sI), .val (.int rv), .val (.int ds), .val (.ref b7), .val (.ref b12), .unset, .unset] [(.ref b7), (.int ds), (.int rv), (.int sI), (.int (Int32.ofNat nn)), (.int (3 : Int32)), (.ref b12)])) rfl (by rw [hml]; rfl) (argsL := [(.int (3 : Int32)), (.int (Int32.ofNat nn)), (.int sI), (.int rv), (.int ds), (.ref b7)]) (rest := [(.ref b12)]) (lenOf own_pd12 rfl) rfl rfl rfl (hb hby at_296) (by decide) (by decide)
      have N25 := Fr.app NB3 N25q
      refine own_go st25 ?_
      show own_Rch p e below _ (T25.setTop (mkF m 299 #[.val (.int p1), .val (.int p2), .val (.int p3), .val (.int p4), .val (.int p5), .val (.int p6), .val (.int (Int32.ofNat nn)), .val (.int l1), .val (.int l1), .val (.int l2), .val (.int (own_mx l1 l2)), .val (.int l3), .val (.int (own_mx (own_mx l1 l2) l3)), .val (.int (Int32.ofNat kk)), .val (.int sI), .val (.int rv), .val (.int ds), .val (.ref b7), .val (.ref b12), .unset, .unset] [(.ref nb), (.ref b12)]))
      have Zm : n0 ≤ T25.heap.size := Nat.le_trans ZB3 K25.1
      have Gm := own_GrpOf E25 V25 (hG 3 hki)
      obtain ⟨_, T26, L26, X26, ⟨rfl, N26q, K26, V26, E26, mc', w126, w226, w326⟩, st26⟩ := own_callI X25 hx hZ (y := (⟨"java/util/List", "add", "(Ljava/lang/Object;)Z"⟩ : MethodName)) (z := (⟨"java/util/ArrayList", "add", "(Ljava/lang/Object;)Z"⟩ : MethodName)) (C := "java/util/ArrayList") hown (hw _ (List.mem_of_getElem? (i := 78) rfl)) (hw _ (List.mem_of_getElem? (i := 79) rfl)) (hw _ (List.mem_of_getElem? (i := 80) rfl)) (hw _ (List.mem_of_getElem? (i := 81) rfl)) (hw _ (List.mem_of_getElem? (i := 82) rfl)) (hw _ (List.mem_of_getElem? (i := 83) rfl)) (hw _ (List.mem_of_getElem? (i := 84) rfl)) (hw _ (List.mem_of_getElem? (i := 47) rfl)) (hw _ (List.mem_of_getElem? (i := 8) rfl)) (hw _ (List.mem_of_getElem? (i := 85) rfl)) (by decide) (own_c14B l Z a0 hw [] b12 nb ed ke (Int32.ofNat gs.length) mc vs "[I" T25.heap n0 Zm (f1.keep K25 nin0) (f2.keep K25 nin0) (f3.keep K25 nin0) (EAb.keep K25) nab (V.keep K25 nin0) hvl (own_zlt h4) O_ ne ge E25 (hw _ (List.mem_of_getElem? (i := 106) rfl))) rfl (EAb.keep K25) (W := 0) (by decide) (by decide) (g := (mkF m 299 #[.val (.int p1), .val (.int p2), .val (.int p3), .val (.int p4), .val (.int p5), .val (.int p6), .val (.int (Int32.ofNat nn)), .val (.int l1), .val (.int l1), .val (.int l2), .val (.int (own_mx l1 l2)), .val (.int l3), .val (.int (own_mx (own_mx l1 l2) l3)), .val (.int (Int32.ofNat kk)), .val (.int sI), .val (.int rv), .val (.int ds), .val (.ref b7), .val (.ref b12), .unset, .unset] [(.ref nb), (.ref b12)])) rfl (by rw [hml]; rfl) (argsL := [(.ref nb)]) (rest := []) (lenOf own_pd13 rfl) rfl rfl rfl (hb hby at_299) (by decide) (by decide)
      have N26 := Fr.app N25 N26q
      refine own_go st26 ?_
      show own_Rch p e below _ (T26.setTop (mkF m 304 #[.val (.int p1), .val (.int p2), .val (.int p3), .val (.int p4), .val (.int p5), .val (.int p6), .val (.int (Int32.ofNat nn)), .val (.int l1), .val (.int l1), .val (.int l2), .val (.int (own_mx l1 l2)), .val (.int l3), .val (.int (own_mx (own_mx l1 l2) l3)), .val (.int (Int32.ofNat kk)), .val (.int sI), .val (.int rv), .val (.int ds), .val (.ref b7), .val (.ref b12), .unset, .unset] [(.int (1 : Int32))]))
      refine own_go (S' := (T26.setTop (mkF m 305 #[.val (.int p1), .val (.int p2), .val (.int p3), .val (.int p4), .val (.int p5), .val (.int p6), .val (.int (Int32.ofNat nn)), .val (.int l1), .val (.int l1), .val (.int l2), .val (.int (own_mx l1 l2)), .val (.int l3), .val (.int (own_mx (own_mx l1 l2) l3)), .val (.int (Int32.ofNat kk)), .val (.int sI), .val (.int rv), .val (.int ds), .val (.ref b7), .val (.ref b12), .unset, .unset] []))) (fun t_ k_ => ?_) ?_
      · refine XS.pop X26.here hx rfl (hb hby at_304) rfl rfl ?_
        show Steps p.tables e below (T26.setTop (mkF m 305 #[.val (.int p1), .val (.int p2), .val (.int p3), .val (.int p4), .val (.int p5), .val (.int p6), .val (.int (Int32.ofNat nn)), .val (.int l1), .val (.int l1), .val (.int l2), .val (.int (own_mx l1 l2)), .val (.int l3), .val (.int (own_mx (own_mx l1 l2) l3)), .val (.int (Int32.ofNat kk)), .val (.int sI), .val (.int rv), .val (.int ds), .val (.ref b7), .val (.ref b12), .unset, .unset] [])) _
        exact k_
      have LLn := own_LL.add VLb EAb nlb nab V O_ hvl (by omega) ne nl ge Ag rg K25 z25 Gm K26 V26 E26 w126 w226 w326
      have Zd : n0 ≤ T26.heap.size := Nat.le_trans Zm K26.1
      exact O _ _ _ _ X26 rfl N26 (by rw [← own_XSe (kk := kk) (i := 4) hk4, List.map_append, hg3]; exact (own_XSs hki).symm) Zd LLn.lst LLn.1
    · skip
      refine own_go (S' := (TB3.setTop (mkF m 305 #[.val (.int p1), .val (.int p2), .val (.int p3), .val (.int p4), .val (.int p5), .val (.int p6), .val (.int (Int32.ofNat nn)), .val (.int l1), .val (.int l1), .val (.int l2), .val (.int (own_mx l1 l2)), .val (.int l3), .val (.int (own_mx (own_mx l1 l2) l3)), .val (.int (Int32.ofNat kk)), .val (.int sI), .val (.int rv), .val (.int ds), .val (.ref b7), .val (.ref b12), .unset, .unset] []))) (fun t_ k_ => ?_) ?_
      · refine XS.icmpYes XB3.here hx rfl (pc0 := 280) (pc' := 305) rfl (hb hby at_280) rfl (flt g3).2.2.2 (by decide) (by decide) ?_
        show Steps p.tables e below (TB3.setTop (mkF m 305 #[.val (.int p1), .val (.int p2), .val (.int p3), .val (.int p4), .val (.int p5), .val (.int p6), .val (.int (Int32.ofNat nn)), .val (.int l1), .val (.int l1), .val (.int l2), .val (.int (own_mx l1 l2)), .val (.int l3), .val (.int (own_mx (own_mx l1 l2) l3)), .val (.int (Int32.ofNat kk)), .val (.int sI), .val (.int rv), .val (.int ds), .val (.ref b7), .val (.ref b12), .unset, .unset] [])) _
        exact k_
      have hki : kk ≤ 3 := Nat.le_of_not_lt fun q => g3 ((own_ltN (by omega : (3 : Nat) ≤ 10) (by omega)).mpr q)
      have X' := XB3.more (cells' := 7) (slots' := 33) (by decide) (by decide)
      exact O _ _ _ gs X' eB3 NB3 (by rw [hg3, own_XSe hki]) ZB3 LL3.lst LL3.1
  have B2 : ∀ (TB2 : State) (lcB2 : List Loc) (hB2 : Heap) (gs : List (Addr × List Int32)) (XB2 : Stand p l e room_1 s m #[(.int p1), (.int p2), (.int p3), (.int p4), (.int p5), (.int p6)] below meth c TB2 lcB2 5 25) (eB2 : TB2.heap = hB2) (NB2 : Fr n0 lcB2) (hg2 : gs.map (·.2) = (own_XS kk (Int32.ofNat nn) sI rv ds l1 l2 l3).take 2) (ZB2 : n0 ≤ hB2.size) (LL2 : own_LL Z n0 hB2 b7 k7 l1 l2 l3 b12 gs), own_Rch p e below (own_Fin s room_1.cells room_1.slots (fun v h L => v = some (.int 1) ∧ Fr n0 L)) (TB2.setTop (mkF m 249 #[.val (.int p1), .val (.int p2), .val (.int p3), .val (.int p4), .val (.int p5), .val (.int p6), .val (.int (Int32.ofNat nn)), .val (.int l1), .val (.int l1), .val (.int l2), .val (.int (own_mx l1 l2)), .val (.int l3), .val (.int (own_mx (own_mx l1 l2) l3)), .val (.int (Int32.ofNat kk)), .val (.int sI), .val (.int rv), .val (.int ds), .val (.ref b7), .val (.ref b12), .unset, .unset] [])) := by
    intro TB2 lcB2 hB2 gs XB2 eB2 NB2 hg2 ZB2 LL2
    refine own_go (S' := (TB2.setTop (mkF m 252 #[.val (.int p1), .val (.int p2), .val (.int p3), .val (.int p4), .val (.int p5), .val (.int p6), .val (.int (Int32.ofNat nn)), .val (.int l1), .val (.int l1), .val (.int l2), .val (.int (own_mx l1 l2)), .val (.int l3), .val (.int (own_mx (own_mx l1 l2) l3)), .val (.int (Int32.ofNat kk)), .val (.int sI), .val (.int rv), .val (.int ds), .val (.ref b7), .val (.ref b12), .unset, .unset] [(.int (2 : Int32)), (.int (Int32.ofNat kk))]))) (fun t_ k_ => ?_) ?_
    · refine XS.iload XB2.here hx rfl (hb hby at_249) rfl ?_
      show Steps p.tables e below (TB2.setTop (mkF m 251 #[.val (.int p1), .val (.int p2), .val (.int p3), .val (.int p4), .val (.int p5), .val (.int p6), .val (.int (Int32.ofNat nn)), .val (.int l1), .val (.int l1), .val (.int l2), .val (.int (own_mx l1 l2)), .val (.int l3), .val (.int (own_mx (own_mx l1 l2) l3)), .val (.int (Int32.ofNat kk)), .val (.int sI), .val (.int rv), .val (.int ds), .val (.ref b7), .val (.ref b12), .unset, .unset] [(.int (Int32.ofNat kk))])) _
      refine XS.iconst XB2.here hx rfl (hb hby at_251) ?_
      show Steps p.tables e below (TB2.setTop (mkF m 252 #[.val (.int p1), .val (.int p2), .val (.int p3), .val (.int p4), .val (.int p5), .val (.int p6), .val (.int (Int32.ofNat nn)), .val (.int l1), .val (.int l1), .val (.int l2), .val (.int (own_mx l1 l2)), .val (.int l3), .val (.int (own_mx (own_mx l1 l2) l3)), .val (.int (Int32.ofNat kk)), .val (.int sI), .val (.int rv), .val (.int ds), .val (.ref b7), .val (.ref b12), .unset, .unset] [(.int (2 : Int32)), (.int (Int32.ofNat kk))])) _
      exact k_
    by_cases g2 : (2 : Int32) < (Int32.ofNat kk)
    · skip
      refine own_go (S' := (TB2.setTop (mkF m 268 #[.val (.int p1), .val (.int p2), .val (.int p3), .val (.int p4), .val (.int p5), .val (.int p6), .val (.int (Int32.ofNat nn)), .val (.int l1), .val (.int l1), .val (.int l2), .val (.int (own_mx l1 l2)), .val (.int l3), .val (.int (own_mx (own_mx l1 l2) l3)), .val (.int (Int32.ofNat kk)), .val (.int sI), .val (.int rv), .val (.int ds), .val (.ref b7), .val (.ref b12), .unset, .unset] [(.ref b7), (.int ds), (.int rv), (.int sI), (.int (Int32.ofNat nn)), (.int (2 : Int32)), (.ref b12)]))) (fun t_ k_ => ?_) ?_
      · refine XS.icmpNo XB2.here hx rfl (hb hby at_252) rfl (tlt g2).2.2.2 ?_
        show Steps p.tables e below (TB2.setTop (mkF m 255 #[.val (.int p1), .val (.int p2), .val (.int p3), .val (.int p4), .val (.int p5), .val (.int p6), .val (.int (Int32.ofNat nn)), .val (.int l1), .val (.int l1), .val (.int l2), .val (.int (own_mx l1 l2)), .val (.int l3), .val (.int (own_mx (own_mx l1 l2) l3)), .val (.int (Int32.ofNat kk)), .val (.int sI), .val (.int rv), .val (.int ds), .val (.ref b7), .val (.ref b12), .unset, .unset] [])) _
        refine XS.aload XB2.here hx rfl (hb hby at_255) rfl rfl ?_
        show Steps p.tables e below (TB2.setTop (mkF m 257 #[.val (.int p1), .val (.int p2), .val (.int p3), .val (.int p4), .val (.int p5), .val (.int p6), .val (.int (Int32.ofNat nn)), .val (.int l1), .val (.int l1), .val (.int l2), .val (.int (own_mx l1 l2)), .val (.int l3), .val (.int (own_mx (own_mx l1 l2) l3)), .val (.int (Int32.ofNat kk)), .val (.int sI), .val (.int rv), .val (.int ds), .val (.ref b7), .val (.ref b12), .unset, .unset] [(.ref b12)])) _
        refine XS.iconst XB2.here hx rfl (hb hby at_257) ?_
        show Steps p.tables e below (TB2.setTop (mkF m 258 #[.val (.int p1), .val (.int p2), .val (.int p3), .val (.int p4), .val (.int p5), .val (.int p6), .val (.int (Int32.ofNat nn)), .val (.int l1), .val (.int l1), .val (.int l2), .val (.int (own_mx l1 l2)), .val (.int l3), .val (.int (own_mx (own_mx l1 l2) l3)), .val (.int (Int32.ofNat kk)), .val (.int sI), .val (.int rv), .val (.int ds), .val (.ref b7), .val (.ref b12), .unset, .unset] [(.int (2 : Int32)), (.ref b12)])) _
        refine XS.iload XB2.here hx rfl (hb hby at_258) rfl ?_
        show Steps p.tables e below (TB2.setTop (mkF m 260 #[.val (.int p1), .val (.int p2), .val (.int p3), .val (.int p4), .val (.int p5), .val (.int p6), .val (.int (Int32.ofNat nn)), .val (.int l1), .val (.int l1), .val (.int l2), .val (.int (own_mx l1 l2)), .val (.int l3), .val (.int (own_mx (own_mx l1 l2) l3)), .val (.int (Int32.ofNat kk)), .val (.int sI), .val (.int rv), .val (.int ds), .val (.ref b7), .val (.ref b12), .unset, .unset] [(.int (Int32.ofNat nn)), (.int (2 : Int32)), (.ref b12)])) _
        refine XS.iload XB2.here hx rfl (hb hby at_260) rfl ?_
        show Steps p.tables e below (TB2.setTop (mkF m 262 #[.val (.int p1), .val (.int p2), .val (.int p3), .val (.int p4), .val (.int p5), .val (.int p6), .val (.int (Int32.ofNat nn)), .val (.int l1), .val (.int l1), .val (.int l2), .val (.int (own_mx l1 l2)), .val (.int l3), .val (.int (own_mx (own_mx l1 l2) l3)), .val (.int (Int32.ofNat kk)), .val (.int sI), .val (.int rv), .val (.int ds), .val (.ref b7), .val (.ref b12), .unset, .unset] [(.int sI), (.int (Int32.ofNat nn)), (.int (2 : Int32)), (.ref b12)])) _
        refine XS.iload XB2.here hx rfl (hb hby at_262) rfl ?_
        show Steps p.tables e below (TB2.setTop (mkF m 264 #[.val (.int p1), .val (.int p2), .val (.int p3), .val (.int p4), .val (.int p5), .val (.int p6), .val (.int (Int32.ofNat nn)), .val (.int l1), .val (.int l1), .val (.int l2), .val (.int (own_mx l1 l2)), .val (.int l3), .val (.int (own_mx (own_mx l1 l2) l3)), .val (.int (Int32.ofNat kk)), .val (.int sI), .val (.int rv), .val (.int ds), .val (.ref b7), .val (.ref b12), .unset, .unset] [(.int rv), (.int sI), (.int (Int32.ofNat nn)), (.int (2 : Int32)), (.ref b12)])) _
        refine XS.iload XB2.here hx rfl (hb hby at_264) rfl ?_
        show Steps p.tables e below (TB2.setTop (mkF m 266 #[.val (.int p1), .val (.int p2), .val (.int p3), .val (.int p4), .val (.int p5), .val (.int p6), .val (.int (Int32.ofNat nn)), .val (.int l1), .val (.int l1), .val (.int l2), .val (.int (own_mx l1 l2)), .val (.int l3), .val (.int (own_mx (own_mx l1 l2) l3)), .val (.int (Int32.ofNat kk)), .val (.int sI), .val (.int rv), .val (.int ds), .val (.ref b7), .val (.ref b12), .unset, .unset] [(.int ds), (.int rv), (.int sI), (.int (Int32.ofNat nn)), (.int (2 : Int32)), (.ref b12)])) _
        refine XS.aload XB2.here hx rfl (hb hby at_266) rfl rfl ?_
        show Steps p.tables e below (TB2.setTop (mkF m 268 #[.val (.int p1), .val (.int p2), .val (.int p3), .val (.int p4), .val (.int p5), .val (.int p6), .val (.int (Int32.ofNat nn)), .val (.int l1), .val (.int l1), .val (.int l2), .val (.int (own_mx l1 l2)), .val (.int l3), .val (.int (own_mx (own_mx l1 l2) l3)), .val (.int (Int32.ofNat kk)), .val (.int sI), .val (.int rv), .val (.int ds), .val (.ref b7), .val (.ref b12), .unset, .unset] [(.ref b7), (.int ds), (.int rv), (.int sI), (.int (Int32.ofNat nn)), (.int (2 : Int32)), (.ref b12)])) _
        exact k_
      have hki : 2 < kk := (own_ltN (by omega : (2 : Nat) ≤ 10) (by omega)).mp g2
      have hgl : gs.length = 2 := by have q := congrArg List.length hg2; rw [own_XS] at q; simp at q; omega
      obtain ⟨VLb, EAb, nlb, nab, ed, ke, mc, vs, f1, f2, f3, V, O_, hvl, h4, ne, nl, ge, Ag, rg⟩ := LL2
      obtain ⟨_, T27, L27, X27, ⟨nb, kb, rfl, N27q, K27, z27, g27, E27, V27⟩, st27⟩ := own_callS XB2 hx hZ (y := (⟨"com/example/anonutils/anonutils/ClusteringOfPinLaw", "members", "(IIIZZ[I)[I"⟩ : MethodName)) hown (hw _ (List.mem_of_getElem? (i := 71) rfl)) (hw _ (List.mem_of_getElem? (i := 72) rfl)) (hw _ (List.mem_of_getElem? (i := 73) rfl)) (hw _ (List.mem_of_getElem? (i := 74) rfl)) (by decide) (own_c12 l Z a0 hw [] (Int32.ofNat 2) (Int32.ofNat nn) sI rv ds b7 k7 0 l1 l2 l3 hB2 n0 ZB2 VLb) eB2 (W := 1) (by decide) (by decide) (g := (mkF m 268 #[.val (.int p1), .val (.int p2), .val (.int p3), .val (.int p4), .val (.int p5), .val (.int p6), .val (.int (Int32.ofNat nn)), .val (.int l1), .val (.int l1), .val (.int l2), .val (.int (own_mx l1 l2)), .val (.int l3), .val (.int (own_mx (own_mx l1 l2) l3)), .val (.int (Int32.ofNat kk)), .val (.int sI), .val (.int rv), .val (.int ds), .val (.ref b7), .val (.ref b12), .unset, .unset] [(.ref b7), (.int ds), (.int rv), (.int sI), (.int (Int32.ofNat nn)), (.int (2 : Int32)), (.ref b12)])) rfl (by rw [hml]; rfl) (argsL := [(.int (2 : Int32)), (.int (Int32.ofNat nn)), (.int sI), (.int rv), (.int ds), (.ref b7)]) (rest := [(.ref b12)]) (lenOf own_pd12 rfl) rfl rfl rfl (hb hby at_268) (by decide) (by decide)
      have N27 := Fr.app NB2 N27q
      refine own_go st27 ?_
      show own_Rch p e below _ (T27.setTop (mkF m 271 #[.val (.int p1), .val (.int p2), .val (.int p3), .val (.int p4), .val (.int p5), .val (.int p6), .val (.int (Int32.ofNat nn)), .val (.int l1), .val (.int l1), .val (.int l2), .val (.int (own_mx l1 l2)), .val (.int l3), .val (.int (own_mx (own_mx l1 l2) l3)), .val (.int (Int32.ofNat kk)), .val (.int sI), .val (.int rv), .val (.int ds), .val (.ref b7), .val (.ref b12), .unset, .unset] [(.ref nb), (.ref b12)]))
      have Zm : n0 ≤ T27.heap.size := Nat.le_trans ZB2 K27.1
      have Gm := own_GrpOf E27 V27 (hG 2 hki)
      obtain ⟨_, T28, L28, X28, ⟨rfl, N28q, K28, V28, E28, mc', w128, w228, w328⟩, st28⟩ := own_callI X27 hx hZ (y := (⟨"java/util/List", "add", "(Ljava/lang/Object;)Z"⟩ : MethodName)) (z := (⟨"java/util/ArrayList", "add", "(Ljava/lang/Object;)Z"⟩ : MethodName)) (C := "java/util/ArrayList") hown (hw _ (List.mem_of_getElem? (i := 78) rfl)) (hw _ (List.mem_of_getElem? (i := 79) rfl)) (hw _ (List.mem_of_getElem? (i := 80) rfl)) (hw _ (List.mem_of_getElem? (i := 81) rfl)) (hw _ (List.mem_of_getElem? (i := 82) rfl)) (hw _ (List.mem_of_getElem? (i := 83) rfl)) (hw _ (List.mem_of_getElem? (i := 84) rfl)) (hw _ (List.mem_of_getElem? (i := 47) rfl)) (hw _ (List.mem_of_getElem? (i := 8) rfl)) (hw _ (List.mem_of_getElem? (i := 85) rfl)) (by decide) (own_c14B l Z a0 hw [] b12 nb ed ke (Int32.ofNat gs.length) mc vs "[I" T27.heap n0 Zm (f1.keep K27 nin0) (f2.keep K27 nin0) (f3.keep K27 nin0) (EAb.keep K27) nab (V.keep K27 nin0) hvl (own_zlt h4) O_ ne ge E27 (hw _ (List.mem_of_getElem? (i := 106) rfl))) rfl (EAb.keep K27) (W := 0) (by decide) (by decide) (g := (mkF m 271 #[.val (.int p1), .val (.int p2), .val (.int p3), .val (.int p4), .val (.int p5), .val (.int p6), .val (.int (Int32.ofNat nn)), .val (.int l1), .val (.int l1), .val (.int l2), .val (.int (own_mx l1 l2)), .val (.int l3), .val (.int (own_mx (own_mx l1 l2) l3)), .val (.int (Int32.ofNat kk)), .val (.int sI), .val (.int rv), .val (.int ds), .val (.ref b7), .val (.ref b12), .unset, .unset] [(.ref nb), (.ref b12)])) rfl (by rw [hml]; rfl) (argsL := [(.ref nb)]) (rest := []) (lenOf own_pd13 rfl) rfl rfl rfl (hb hby at_271) (by decide) (by decide)
      have N28 := Fr.app N27 N28q
      refine own_go st28 ?_
      show own_Rch p e below _ (T28.setTop (mkF m 276 #[.val (.int p1), .val (.int p2), .val (.int p3), .val (.int p4), .val (.int p5), .val (.int p6), .val (.int (Int32.ofNat nn)), .val (.int l1), .val (.int l1), .val (.int l2), .val (.int (own_mx l1 l2)), .val (.int l3), .val (.int (own_mx (own_mx l1 l2) l3)), .val (.int (Int32.ofNat kk)), .val (.int sI), .val (.int rv), .val (.int ds), .val (.ref b7), .val (.ref b12), .unset, .unset] [(.int (1 : Int32))]))
      refine own_go (S' := (T28.setTop (mkF m 277 #[.val (.int p1), .val (.int p2), .val (.int p3), .val (.int p4), .val (.int p5), .val (.int p6), .val (.int (Int32.ofNat nn)), .val (.int l1), .val (.int l1), .val (.int l2), .val (.int (own_mx l1 l2)), .val (.int l3), .val (.int (own_mx (own_mx l1 l2) l3)), .val (.int (Int32.ofNat kk)), .val (.int sI), .val (.int rv), .val (.int ds), .val (.ref b7), .val (.ref b12), .unset, .unset] []))) (fun t_ k_ => ?_) ?_
      · refine XS.pop X28.here hx rfl (hb hby at_276) rfl rfl ?_
        show Steps p.tables e below (T28.setTop (mkF m 277 #[.val (.int p1), .val (.int p2), .val (.int p3), .val (.int p4), .val (.int p5), .val (.int p6), .val (.int (Int32.ofNat nn)), .val (.int l1), .val (.int l1), .val (.int l2), .val (.int (own_mx l1 l2)), .val (.int l3), .val (.int (own_mx (own_mx l1 l2) l3)), .val (.int (Int32.ofNat kk)), .val (.int sI), .val (.int rv), .val (.int ds), .val (.ref b7), .val (.ref b12), .unset, .unset] [])) _
        exact k_
      have LLn := own_LL.add VLb EAb nlb nab V O_ hvl (by omega) ne nl ge Ag rg K27 z27 Gm K28 V28 E28 w128 w228 w328
      have Zd : n0 ≤ T28.heap.size := Nat.le_trans Zm K28.1
      exact B3 _ _ _ _ X28 rfl N28 (by rw [List.map_append, hg2]; exact (own_XSs hki).symm) Zd LLn
    · skip
      refine own_go (S' := (TB2.setTop (mkF m 277 #[.val (.int p1), .val (.int p2), .val (.int p3), .val (.int p4), .val (.int p5), .val (.int p6), .val (.int (Int32.ofNat nn)), .val (.int l1), .val (.int l1), .val (.int l2), .val (.int (own_mx l1 l2)), .val (.int l3), .val (.int (own_mx (own_mx l1 l2) l3)), .val (.int (Int32.ofNat kk)), .val (.int sI), .val (.int rv), .val (.int ds), .val (.ref b7), .val (.ref b12), .unset, .unset] []))) (fun t_ k_ => ?_) ?_
      · refine XS.icmpYes XB2.here hx rfl (pc0 := 252) (pc' := 277) rfl (hb hby at_252) rfl (flt g2).2.2.2 (by decide) (by decide) ?_
        show Steps p.tables e below (TB2.setTop (mkF m 277 #[.val (.int p1), .val (.int p2), .val (.int p3), .val (.int p4), .val (.int p5), .val (.int p6), .val (.int (Int32.ofNat nn)), .val (.int l1), .val (.int l1), .val (.int l2), .val (.int (own_mx l1 l2)), .val (.int l3), .val (.int (own_mx (own_mx l1 l2) l3)), .val (.int (Int32.ofNat kk)), .val (.int sI), .val (.int rv), .val (.int ds), .val (.ref b7), .val (.ref b12), .unset, .unset] [])) _
        exact k_
      have hki : kk ≤ 2 := Nat.le_of_not_lt fun q => g2 ((own_ltN (by omega : (2 : Nat) ≤ 10) (by omega)).mpr q)
      have X' := XB2.more (cells' := 6) (slots' := 29) (by decide) (by decide)
      exact B3 _ _ _ gs X' eB2 NB2 (by rw [hg2, own_XSe hki, own_XSe (by omega)]) ZB2 LL2
  have B1 : ∀ (TB1 : State) (lcB1 : List Loc) (hB1 : Heap) (gs : List (Addr × List Int32)) (XB1 : Stand p l e room_1 s m #[(.int p1), (.int p2), (.int p3), (.int p4), (.int p5), (.int p6)] below meth c TB1 lcB1 4 21) (eB1 : TB1.heap = hB1) (NB1 : Fr n0 lcB1) (hg1 : gs.map (·.2) = (own_XS kk (Int32.ofNat nn) sI rv ds l1 l2 l3).take 1) (ZB1 : n0 ≤ hB1.size) (LL1 : own_LL Z n0 hB1 b7 k7 l1 l2 l3 b12 gs), own_Rch p e below (own_Fin s room_1.cells room_1.slots (fun v h L => v = some (.int 1) ∧ Fr n0 L)) (TB1.setTop (mkF m 221 #[.val (.int p1), .val (.int p2), .val (.int p3), .val (.int p4), .val (.int p5), .val (.int p6), .val (.int (Int32.ofNat nn)), .val (.int l1), .val (.int l1), .val (.int l2), .val (.int (own_mx l1 l2)), .val (.int l3), .val (.int (own_mx (own_mx l1 l2) l3)), .val (.int (Int32.ofNat kk)), .val (.int sI), .val (.int rv), .val (.int ds), .val (.ref b7), .val (.ref b12), .unset, .unset] [])) := by
    intro TB1 lcB1 hB1 gs XB1 eB1 NB1 hg1 ZB1 LL1
    refine own_go (S' := (TB1.setTop (mkF m 224 #[.val (.int p1), .val (.int p2), .val (.int p3), .val (.int p4), .val (.int p5), .val (.int p6), .val (.int (Int32.ofNat nn)), .val (.int l1), .val (.int l1), .val (.int l2), .val (.int (own_mx l1 l2)), .val (.int l3), .val (.int (own_mx (own_mx l1 l2) l3)), .val (.int (Int32.ofNat kk)), .val (.int sI), .val (.int rv), .val (.int ds), .val (.ref b7), .val (.ref b12), .unset, .unset] [(.int (1 : Int32)), (.int (Int32.ofNat kk))]))) (fun t_ k_ => ?_) ?_
    · refine XS.iload XB1.here hx rfl (hb hby at_221) rfl ?_
      show Steps p.tables e below (TB1.setTop (mkF m 223 #[.val (.int p1), .val (.int p2), .val (.int p3), .val (.int p4), .val (.int p5), .val (.int p6), .val (.int (Int32.ofNat nn)), .val (.int l1), .val (.int l1), .val (.int l2), .val (.int (own_mx l1 l2)), .val (.int l3), .val (.int (own_mx (own_mx l1 l2) l3)), .val (.int (Int32.ofNat kk)), .val (.int sI), .val (.int rv), .val (.int ds), .val (.ref b7), .val (.ref b12), .unset, .unset] [(.int (Int32.ofNat kk))])) _
      refine XS.iconst XB1.here hx rfl (hb hby at_223) ?_
      show Steps p.tables e below (TB1.setTop (mkF m 224 #[.val (.int p1), .val (.int p2), .val (.int p3), .val (.int p4), .val (.int p5), .val (.int p6), .val (.int (Int32.ofNat nn)), .val (.int l1), .val (.int l1), .val (.int l2), .val (.int (own_mx l1 l2)), .val (.int l3), .val (.int (own_mx (own_mx l1 l2) l3)), .val (.int (Int32.ofNat kk)), .val (.int sI), .val (.int rv), .val (.int ds), .val (.ref b7), .val (.ref b12), .unset, .unset] [(.int (1 : Int32)), (.int (Int32.ofNat kk))])) _
      exact k_
    by_cases g1 : (1 : Int32) < (Int32.ofNat kk)
    · skip
      refine own_go (S' := (TB1.setTop (mkF m 240 #[.val (.int p1), .val (.int p2), .val (.int p3), .val (.int p4), .val (.int p5), .val (.int p6), .val (.int (Int32.ofNat nn)), .val (.int l1), .val (.int l1), .val (.int l2), .val (.int (own_mx l1 l2)), .val (.int l3), .val (.int (own_mx (own_mx l1 l2) l3)), .val (.int (Int32.ofNat kk)), .val (.int sI), .val (.int rv), .val (.int ds), .val (.ref b7), .val (.ref b12), .unset, .unset] [(.ref b7), (.int ds), (.int rv), (.int sI), (.int (Int32.ofNat nn)), (.int (1 : Int32)), (.ref b12)]))) (fun t_ k_ => ?_) ?_
      · refine XS.icmpNo XB1.here hx rfl (hb hby at_224) rfl (tlt g1).2.2.2 ?_
        show Steps p.tables e below (TB1.setTop (mkF m 227 #[.val (.int p1), .val (.int p2), .val (.int p3), .val (.int p4), .val (.int p5), .val (.int p6), .val (.int (Int32.ofNat nn)), .val (.int l1), .val (.int l1), .val (.int l2), .val (.int (own_mx l1 l2)), .val (.int l3), .val (.int (own_mx (own_mx l1 l2) l3)), .val (.int (Int32.ofNat kk)), .val (.int sI), .val (.int rv), .val (.int ds), .val (.ref b7), .val (.ref b12), .unset, .unset] [])) _
        refine XS.aload XB1.here hx rfl (hb hby at_227) rfl rfl ?_
        show Steps p.tables e below (TB1.setTop (mkF m 229 #[.val (.int p1), .val (.int p2), .val (.int p3), .val (.int p4), .val (.int p5), .val (.int p6), .val (.int (Int32.ofNat nn)), .val (.int l1), .val (.int l1), .val (.int l2), .val (.int (own_mx l1 l2)), .val (.int l3), .val (.int (own_mx (own_mx l1 l2) l3)), .val (.int (Int32.ofNat kk)), .val (.int sI), .val (.int rv), .val (.int ds), .val (.ref b7), .val (.ref b12), .unset, .unset] [(.ref b12)])) _
        refine XS.iconst XB1.here hx rfl (hb hby at_229) ?_
        show Steps p.tables e below (TB1.setTop (mkF m 230 #[.val (.int p1), .val (.int p2), .val (.int p3), .val (.int p4), .val (.int p5), .val (.int p6), .val (.int (Int32.ofNat nn)), .val (.int l1), .val (.int l1), .val (.int l2), .val (.int (own_mx l1 l2)), .val (.int l3), .val (.int (own_mx (own_mx l1 l2) l3)), .val (.int (Int32.ofNat kk)), .val (.int sI), .val (.int rv), .val (.int ds), .val (.ref b7), .val (.ref b12), .unset, .unset] [(.int (1 : Int32)), (.ref b12)])) _
        refine XS.iload XB1.here hx rfl (hb hby at_230) rfl ?_
        show Steps p.tables e below (TB1.setTop (mkF m 232 #[.val (.int p1), .val (.int p2), .val (.int p3), .val (.int p4), .val (.int p5), .val (.int p6), .val (.int (Int32.ofNat nn)), .val (.int l1), .val (.int l1), .val (.int l2), .val (.int (own_mx l1 l2)), .val (.int l3), .val (.int (own_mx (own_mx l1 l2) l3)), .val (.int (Int32.ofNat kk)), .val (.int sI), .val (.int rv), .val (.int ds), .val (.ref b7), .val (.ref b12), .unset, .unset] [(.int (Int32.ofNat nn)), (.int (1 : Int32)), (.ref b12)])) _
        refine XS.iload XB1.here hx rfl (hb hby at_232) rfl ?_
        show Steps p.tables e below (TB1.setTop (mkF m 234 #[.val (.int p1), .val (.int p2), .val (.int p3), .val (.int p4), .val (.int p5), .val (.int p6), .val (.int (Int32.ofNat nn)), .val (.int l1), .val (.int l1), .val (.int l2), .val (.int (own_mx l1 l2)), .val (.int l3), .val (.int (own_mx (own_mx l1 l2) l3)), .val (.int (Int32.ofNat kk)), .val (.int sI), .val (.int rv), .val (.int ds), .val (.ref b7), .val (.ref b12), .unset, .unset] [(.int sI), (.int (Int32.ofNat nn)), (.int (1 : Int32)), (.ref b12)])) _
        refine XS.iload XB1.here hx rfl (hb hby at_234) rfl ?_
        show Steps p.tables e below (TB1.setTop (mkF m 236 #[.val (.int p1), .val (.int p2), .val (.int p3), .val (.int p4), .val (.int p5), .val (.int p6), .val (.int (Int32.ofNat nn)), .val (.int l1), .val (.int l1), .val (.int l2), .val (.int (own_mx l1 l2)), .val (.int l3), .val (.int (own_mx (own_mx l1 l2) l3)), .val (.int (Int32.ofNat kk)), .val (.int sI), .val (.int rv), .val (.int ds), .val (.ref b7), .val (.ref b12), .unset, .unset] [(.int rv), (.int sI), (.int (Int32.ofNat nn)), (.int (1 : Int32)), (.ref b12)])) _
        refine XS.iload XB1.here hx rfl (hb hby at_236) rfl ?_
        show Steps p.tables e below (TB1.setTop (mkF m 238 #[.val (.int p1), .val (.int p2), .val (.int p3), .val (.int p4), .val (.int p5), .val (.int p6), .val (.int (Int32.ofNat nn)), .val (.int l1), .val (.int l1), .val (.int l2), .val (.int (own_mx l1 l2)), .val (.int l3), .val (.int (own_mx (own_mx l1 l2) l3)), .val (.int (Int32.ofNat kk)), .val (.int sI), .val (.int rv), .val (.int ds), .val (.ref b7), .val (.ref b12), .unset, .unset] [(.int ds), (.int rv), (.int sI), (.int (Int32.ofNat nn)), (.int (1 : Int32)), (.ref b12)])) _
        refine XS.aload XB1.here hx rfl (hb hby at_238) rfl rfl ?_
        show Steps p.tables e below (TB1.setTop (mkF m 240 #[.val (.int p1), .val (.int p2), .val (.int p3), .val (.int p4), .val (.int p5), .val (.int p6), .val (.int (Int32.ofNat nn)), .val (.int l1), .val (.int l1), .val (.int l2), .val (.int (own_mx l1 l2)), .val (.int l3), .val (.int (own_mx (own_mx l1 l2) l3)), .val (.int (Int32.ofNat kk)), .val (.int sI), .val (.int rv), .val (.int ds), .val (.ref b7), .val (.ref b12), .unset, .unset] [(.ref b7), (.int ds), (.int rv), (.int sI), (.int (Int32.ofNat nn)), (.int (1 : Int32)), (.ref b12)])) _
        exact k_
      have hki : 1 < kk := (own_ltN (by omega : (1 : Nat) ≤ 10) (by omega)).mp g1
      have hgl : gs.length = 1 := by have q := congrArg List.length hg1; rw [own_XS] at q; simp at q; omega
      obtain ⟨VLb, EAb, nlb, nab, ed, ke, mc, vs, f1, f2, f3, V, O_, hvl, h4, ne, nl, ge, Ag, rg⟩ := LL1
      obtain ⟨_, T29, L29, X29, ⟨nb, kb, rfl, N29q, K29, z29, g29, E29, V29⟩, st29⟩ := own_callS XB1 hx hZ (y := (⟨"com/example/anonutils/anonutils/ClusteringOfPinLaw", "members", "(IIIZZ[I)[I"⟩ : MethodName)) hown (hw _ (List.mem_of_getElem? (i := 71) rfl)) (hw _ (List.mem_of_getElem? (i := 72) rfl)) (hw _ (List.mem_of_getElem? (i := 73) rfl)) (hw _ (List.mem_of_getElem? (i := 74) rfl)) (by decide) (own_c12 l Z a0 hw [] (Int32.ofNat 1) (Int32.ofNat nn) sI rv ds b7 k7 0 l1 l2 l3 hB1 n0 ZB1 VLb) eB1 (W := 1) (by decide) (by decide) (g := (mkF m 240 #[.val (.int p1), .val (.int p2), .val (.int p3), .val (.int p4), .val (.int p5), .val (.int p6), .val (.int (Int32.ofNat nn)), .val (.int l1), .val (.int l1), .val (.int l2), .val (.int (own_mx l1 l2)), .val (.int l3), .val (.int (own_mx (own_mx l1 l2) l3)), .val (.int (Int32.ofNat kk)), .val (.int sI), .val (.int rv), .val (.int ds), .val (.ref b7), .val (.ref b12), .unset, .unset] [(.ref b7), (.int ds), (.int rv), (.int sI), (.int (Int32.ofNat nn)), (.int (1 : Int32)), (.ref b12)])) rfl (by rw [hml]; rfl) (argsL := [(.int (1 : Int32)), (.int (Int32.ofNat nn)), (.int sI), (.int rv), (.int ds), (.ref b7)]) (rest := [(.ref b12)]) (lenOf own_pd12 rfl) rfl rfl rfl (hb hby at_240) (by decide) (by decide)
      have N29 := Fr.app NB1 N29q
      refine own_go st29 ?_
      show own_Rch p e below _ (T29.setTop (mkF m 243 #[.val (.int p1), .val (.int p2), .val (.int p3), .val (.int p4), .val (.int p5), .val (.int p6), .val (.int (Int32.ofNat nn)), .val (.int l1), .val (.int l1), .val (.int l2), .val (.int (own_mx l1 l2)), .val (.int l3), .val (.int (own_mx (own_mx l1 l2) l3)), .val (.int (Int32.ofNat kk)), .val (.int sI), .val (.int rv), .val (.int ds), .val (.ref b7), .val (.ref b12), .unset, .unset] [(.ref nb), (.ref b12)]))
      have Zm : n0 ≤ T29.heap.size := Nat.le_trans ZB1 K29.1
      have Gm := own_GrpOf E29 V29 (hG 1 hki)
      obtain ⟨_, T30, L30, X30, ⟨rfl, N30q, K30, V30, E30, mc', w130, w230, w330⟩, st30⟩ := own_callI X29 hx hZ (y := (⟨"java/util/List", "add", "(Ljava/lang/Object;)Z"⟩ : MethodName)) (z := (⟨"java/util/ArrayList", "add", "(Ljava/lang/Object;)Z"⟩ : MethodName)) (C := "java/util/ArrayList") hown (hw _ (List.mem_of_getElem? (i := 78) rfl)) (hw _ (List.mem_of_getElem? (i := 79) rfl)) (hw _ (List.mem_of_getElem? (i := 80) rfl)) (hw _ (List.mem_of_getElem? (i := 81) rfl)) (hw _ (List.mem_of_getElem? (i := 82) rfl)) (hw _ (List.mem_of_getElem? (i := 83) rfl)) (hw _ (List.mem_of_getElem? (i := 84) rfl)) (hw _ (List.mem_of_getElem? (i := 47) rfl)) (hw _ (List.mem_of_getElem? (i := 8) rfl)) (hw _ (List.mem_of_getElem? (i := 85) rfl)) (by decide) (own_c14B l Z a0 hw [] b12 nb ed ke (Int32.ofNat gs.length) mc vs "[I" T29.heap n0 Zm (f1.keep K29 nin0) (f2.keep K29 nin0) (f3.keep K29 nin0) (EAb.keep K29) nab (V.keep K29 nin0) hvl (own_zlt h4) O_ ne ge E29 (hw _ (List.mem_of_getElem? (i := 106) rfl))) rfl (EAb.keep K29) (W := 0) (by decide) (by decide) (g := (mkF m 243 #[.val (.int p1), .val (.int p2), .val (.int p3), .val (.int p4), .val (.int p5), .val (.int p6), .val (.int (Int32.ofNat nn)), .val (.int l1), .val (.int l1), .val (.int l2), .val (.int (own_mx l1 l2)), .val (.int l3), .val (.int (own_mx (own_mx l1 l2) l3)), .val (.int (Int32.ofNat kk)), .val (.int sI), .val (.int rv), .val (.int ds), .val (.ref b7), .val (.ref b12), .unset, .unset] [(.ref nb), (.ref b12)])) rfl (by rw [hml]; rfl) (argsL := [(.ref nb)]) (rest := []) (lenOf own_pd13 rfl) rfl rfl rfl (hb hby at_243) (by decide) (by decide)
      have N30 := Fr.app N29 N30q
      refine own_go st30 ?_
      show own_Rch p e below _ (T30.setTop (mkF m 248 #[.val (.int p1), .val (.int p2), .val (.int p3), .val (.int p4), .val (.int p5), .val (.int p6), .val (.int (Int32.ofNat nn)), .val (.int l1), .val (.int l1), .val (.int l2), .val (.int (own_mx l1 l2)), .val (.int l3), .val (.int (own_mx (own_mx l1 l2) l3)), .val (.int (Int32.ofNat kk)), .val (.int sI), .val (.int rv), .val (.int ds), .val (.ref b7), .val (.ref b12), .unset, .unset] [(.int (1 : Int32))]))
      refine own_go (S' := (T30.setTop (mkF m 249 #[.val (.int p1), .val (.int p2), .val (.int p3), .val (.int p4), .val (.int p5), .val (.int p6), .val (.int (Int32.ofNat nn)), .val (.int l1), .val (.int l1), .val (.int l2), .val (.int (own_mx l1 l2)), .val (.int l3), .val (.int (own_mx (own_mx l1 l2) l3)), .val (.int (Int32.ofNat kk)), .val (.int sI), .val (.int rv), .val (.int ds), .val (.ref b7), .val (.ref b12), .unset, .unset] []))) (fun t_ k_ => ?_) ?_
      · refine XS.pop X30.here hx rfl (hb hby at_248) rfl rfl ?_
        show Steps p.tables e below (T30.setTop (mkF m 249 #[.val (.int p1), .val (.int p2), .val (.int p3), .val (.int p4), .val (.int p5), .val (.int p6), .val (.int (Int32.ofNat nn)), .val (.int l1), .val (.int l1), .val (.int l2), .val (.int (own_mx l1 l2)), .val (.int l3), .val (.int (own_mx (own_mx l1 l2) l3)), .val (.int (Int32.ofNat kk)), .val (.int sI), .val (.int rv), .val (.int ds), .val (.ref b7), .val (.ref b12), .unset, .unset] [])) _
        exact k_
      have LLn := own_LL.add VLb EAb nlb nab V O_ hvl (by omega) ne nl ge Ag rg K29 z29 Gm K30 V30 E30 w130 w230 w330
      have Zd : n0 ≤ T30.heap.size := Nat.le_trans Zm K30.1
      exact B2 _ _ _ _ X30 rfl N30 (by rw [List.map_append, hg1]; exact (own_XSs hki).symm) Zd LLn
    · skip
      refine own_go (S' := (TB1.setTop (mkF m 249 #[.val (.int p1), .val (.int p2), .val (.int p3), .val (.int p4), .val (.int p5), .val (.int p6), .val (.int (Int32.ofNat nn)), .val (.int l1), .val (.int l1), .val (.int l2), .val (.int (own_mx l1 l2)), .val (.int l3), .val (.int (own_mx (own_mx l1 l2) l3)), .val (.int (Int32.ofNat kk)), .val (.int sI), .val (.int rv), .val (.int ds), .val (.ref b7), .val (.ref b12), .unset, .unset] []))) (fun t_ k_ => ?_) ?_
      · refine XS.icmpYes XB1.here hx rfl (pc0 := 224) (pc' := 249) rfl (hb hby at_224) rfl (flt g1).2.2.2 (by decide) (by decide) ?_
        show Steps p.tables e below (TB1.setTop (mkF m 249 #[.val (.int p1), .val (.int p2), .val (.int p3), .val (.int p4), .val (.int p5), .val (.int p6), .val (.int (Int32.ofNat nn)), .val (.int l1), .val (.int l1), .val (.int l2), .val (.int (own_mx l1 l2)), .val (.int l3), .val (.int (own_mx (own_mx l1 l2) l3)), .val (.int (Int32.ofNat kk)), .val (.int sI), .val (.int rv), .val (.int ds), .val (.ref b7), .val (.ref b12), .unset, .unset] [])) _
        exact k_
      have hki : kk ≤ 1 := Nat.le_of_not_lt fun q => g1 ((own_ltN (by omega : (1 : Nat) ≤ 10) (by omega)).mpr q)
      have X' := XB1.more (cells' := 5) (slots' := 25) (by decide) (by decide)
      exact B2 _ _ _ gs X' eB1 NB1 (by rw [hg1, own_XSe hki, own_XSe (by omega)]) ZB1 LL1
  have nda : de ≠ b12 := Nat.ne_of_lt (Nat.lt_of_lt_of_le VD.lt sal)
  by_cases g0 : (0 : Int32) < (Int32.ofNat kk)
  · skip
    refine own_go (S' := (T13.setTop (mkF m 212 #[.val (.int p1), .val (.int p2), .val (.int p3), .val (.int p4), .val (.int p5), .val (.int p6), .val (.int (Int32.ofNat nn)), .val (.int l1), .val (.int l1), .val (.int l2), .val (.int (own_mx l1 l2)), .val (.int l3), .val (.int (own_mx (own_mx l1 l2) l3)), .val (.int (Int32.ofNat kk)), .val (.int sI), .val (.int rv), .val (.int ds), .val (.ref b7), .val (.ref b12), .unset, .unset] [(.ref b7), (.int ds), (.int rv), (.int sI), (.int (Int32.ofNat nn)), (.int (0 : Int32)), (.ref b12)]))) (fun t_ k_ => ?_) ?_
    · refine XS.ifNo X13.here hx rfl (hb hby at_196) rfl ((if0 _ _).trans (tlt g0).2.2.2) ?_
      show Steps p.tables e below (T13.setTop (mkF m 199 #[.val (.int p1), .val (.int p2), .val (.int p3), .val (.int p4), .val (.int p5), .val (.int p6), .val (.int (Int32.ofNat nn)), .val (.int l1), .val (.int l1), .val (.int l2), .val (.int (own_mx l1 l2)), .val (.int l3), .val (.int (own_mx (own_mx l1 l2) l3)), .val (.int (Int32.ofNat kk)), .val (.int sI), .val (.int rv), .val (.int ds), .val (.ref b7), .val (.ref b12), .unset, .unset] [])) _
      refine XS.aload X13.here hx rfl (hb hby at_199) rfl rfl ?_
      show Steps p.tables e below (T13.setTop (mkF m 201 #[.val (.int p1), .val (.int p2), .val (.int p3), .val (.int p4), .val (.int p5), .val (.int p6), .val (.int (Int32.ofNat nn)), .val (.int l1), .val (.int l1), .val (.int l2), .val (.int (own_mx l1 l2)), .val (.int l3), .val (.int (own_mx (own_mx l1 l2) l3)), .val (.int (Int32.ofNat kk)), .val (.int sI), .val (.int rv), .val (.int ds), .val (.ref b7), .val (.ref b12), .unset, .unset] [(.ref b12)])) _
      refine XS.iconst X13.here hx rfl (hb hby at_201) ?_
      show Steps p.tables e below (T13.setTop (mkF m 202 #[.val (.int p1), .val (.int p2), .val (.int p3), .val (.int p4), .val (.int p5), .val (.int p6), .val (.int (Int32.ofNat nn)), .val (.int l1), .val (.int l1), .val (.int l2), .val (.int (own_mx l1 l2)), .val (.int l3), .val (.int (own_mx (own_mx l1 l2) l3)), .val (.int (Int32.ofNat kk)), .val (.int sI), .val (.int rv), .val (.int ds), .val (.ref b7), .val (.ref b12), .unset, .unset] [(.int (0 : Int32)), (.ref b12)])) _
      refine XS.iload X13.here hx rfl (hb hby at_202) rfl ?_
      show Steps p.tables e below (T13.setTop (mkF m 204 #[.val (.int p1), .val (.int p2), .val (.int p3), .val (.int p4), .val (.int p5), .val (.int p6), .val (.int (Int32.ofNat nn)), .val (.int l1), .val (.int l1), .val (.int l2), .val (.int (own_mx l1 l2)), .val (.int l3), .val (.int (own_mx (own_mx l1 l2) l3)), .val (.int (Int32.ofNat kk)), .val (.int sI), .val (.int rv), .val (.int ds), .val (.ref b7), .val (.ref b12), .unset, .unset] [(.int (Int32.ofNat nn)), (.int (0 : Int32)), (.ref b12)])) _
      refine XS.iload X13.here hx rfl (hb hby at_204) rfl ?_
      show Steps p.tables e below (T13.setTop (mkF m 206 #[.val (.int p1), .val (.int p2), .val (.int p3), .val (.int p4), .val (.int p5), .val (.int p6), .val (.int (Int32.ofNat nn)), .val (.int l1), .val (.int l1), .val (.int l2), .val (.int (own_mx l1 l2)), .val (.int l3), .val (.int (own_mx (own_mx l1 l2) l3)), .val (.int (Int32.ofNat kk)), .val (.int sI), .val (.int rv), .val (.int ds), .val (.ref b7), .val (.ref b12), .unset, .unset] [(.int sI), (.int (Int32.ofNat nn)), (.int (0 : Int32)), (.ref b12)])) _
      refine XS.iload X13.here hx rfl (hb hby at_206) rfl ?_
      show Steps p.tables e below (T13.setTop (mkF m 208 #[.val (.int p1), .val (.int p2), .val (.int p3), .val (.int p4), .val (.int p5), .val (.int p6), .val (.int (Int32.ofNat nn)), .val (.int l1), .val (.int l1), .val (.int l2), .val (.int (own_mx l1 l2)), .val (.int l3), .val (.int (own_mx (own_mx l1 l2) l3)), .val (.int (Int32.ofNat kk)), .val (.int sI), .val (.int rv), .val (.int ds), .val (.ref b7), .val (.ref b12), .unset, .unset] [(.int rv), (.int sI), (.int (Int32.ofNat nn)), (.int (0 : Int32)), (.ref b12)])) _
      refine XS.iload X13.here hx rfl (hb hby at_208) rfl ?_
      show Steps p.tables e below (T13.setTop (mkF m 210 #[.val (.int p1), .val (.int p2), .val (.int p3), .val (.int p4), .val (.int p5), .val (.int p6), .val (.int (Int32.ofNat nn)), .val (.int l1), .val (.int l1), .val (.int l2), .val (.int (own_mx l1 l2)), .val (.int l3), .val (.int (own_mx (own_mx l1 l2) l3)), .val (.int (Int32.ofNat kk)), .val (.int sI), .val (.int rv), .val (.int ds), .val (.ref b7), .val (.ref b12), .unset, .unset] [(.int ds), (.int rv), (.int sI), (.int (Int32.ofNat nn)), (.int (0 : Int32)), (.ref b12)])) _
      refine XS.aload X13.here hx rfl (hb hby at_210) rfl rfl ?_
      show Steps p.tables e below (T13.setTop (mkF m 212 #[.val (.int p1), .val (.int p2), .val (.int p3), .val (.int p4), .val (.int p5), .val (.int p6), .val (.int (Int32.ofNat nn)), .val (.int l1), .val (.int l1), .val (.int l2), .val (.int (own_mx l1 l2)), .val (.int l3), .val (.int (own_mx (own_mx l1 l2) l3)), .val (.int (Int32.ofNat kk)), .val (.int sI), .val (.int rv), .val (.int ds), .val (.ref b7), .val (.ref b12), .unset, .unset] [(.ref b7), (.int ds), (.int rv), (.int sI), (.int (Int32.ofNat nn)), (.int (0 : Int32)), (.ref b12)])) _
      exact k_
    have hki : 0 < kk := (own_ltN (by omega : (0 : Nat) ≤ 10) (by omega)).mp g0
    obtain ⟨_, T31, L31, X31, ⟨nb, kb, rfl, N31q, K31, z31, g31, E31, V31⟩, st31⟩ := own_callS X13 hx hZ (y := (⟨"com/example/anonutils/anonutils/ClusteringOfPinLaw", "members", "(IIIZZ[I)[I"⟩ : MethodName)) hown (hw _ (List.mem_of_getElem? (i := 71) rfl)) (hw _ (List.mem_of_getElem? (i := 72) rfl)) (hw _ (List.mem_of_getElem? (i := 73) rfl)) (hw _ (List.mem_of_getElem? (i := 74) rfl)) (by decide) (own_c12 l Z a0 hw [] (Int32.ofNat 0) (Int32.ofNat nn) sI rv ds b7 k7 0 l1 l2 l3 T13.heap n0 Z4 VL1) rfl (W := 1) (by decide) (by decide) (g := (mkF m 212 #[.val (.int p1), .val (.int p2), .val (.int p3), .val (.int p4), .val (.int p5), .val (.int p6), .val (.int (Int32.ofNat nn)), .val (.int l1), .val (.int l1), .val (.int l2), .val (.int (own_mx l1 l2)), .val (.int l3), .val (.int (own_mx (own_mx l1 l2) l3)), .val (.int (Int32.ofNat kk)), .val (.int sI), .val (.int rv), .val (.int ds), .val (.ref b7), .val (.ref b12), .unset, .unset] [(.ref b7), (.int ds), (.int rv), (.int sI), (.int (Int32.ofNat nn)), (.int (0 : Int32)), (.ref b12)])) rfl (by rw [hml]; rfl) (argsL := [(.int (0 : Int32)), (.int (Int32.ofNat nn)), (.int sI), (.int rv), (.int ds), (.ref b7)]) (rest := [(.ref b12)]) (lenOf own_pd12 rfl) rfl rfl rfl (hb hby at_212) (by decide) (by decide)
    have N31 := Fr.app N13 N31q
    refine own_go st31 ?_
    show own_Rch p e below _ (T31.setTop (mkF m 215 #[.val (.int p1), .val (.int p2), .val (.int p3), .val (.int p4), .val (.int p5), .val (.int p6), .val (.int (Int32.ofNat nn)), .val (.int l1), .val (.int l1), .val (.int l2), .val (.int (own_mx l1 l2)), .val (.int l3), .val (.int (own_mx (own_mx l1 l2) l3)), .val (.int (Int32.ofNat kk)), .val (.int sI), .val (.int rv), .val (.int ds), .val (.ref b7), .val (.ref b12), .unset, .unset] [(.ref nb), (.ref b12)]))
    have Zm : n0 ≤ T31.heap.size := Nat.le_trans Z4 K31.1
    have Gm := own_GrpOf E31 V31 (hG 0 hki)
    have K5 : Keep h0 T31.heap [] := K4.trans K31 (fun x hx => by cases hx)
    obtain ⟨_, T32, L32, X32, ⟨ed, ke, rfl, N32q, K32, z32, g32, O32, V32, E32, mc', w132, w232, w332⟩, st32⟩ := own_callI X31 hx hZ (y := (⟨"java/util/List", "add", "(Ljava/lang/Object;)Z"⟩ : MethodName)) (z := (⟨"java/util/ArrayList", "add", "(Ljava/lang/Object;)Z"⟩ : MethodName)) (C := "java/util/ArrayList") hown (hw _ (List.mem_of_getElem? (i := 78) rfl)) (hw _ (List.mem_of_getElem? (i := 79) rfl)) (hw _ (List.mem_of_getElem? (i := 80) rfl)) (hw _ (List.mem_of_getElem? (i := 81) rfl)) (hw _ (List.mem_of_getElem? (i := 82) rfl)) (hw _ (List.mem_of_getElem? (i := 83) rfl)) (hw _ (List.mem_of_getElem? (i := 84) rfl)) (hw _ (List.mem_of_getElem? (i := 47) rfl)) (hw _ (List.mem_of_getElem? (i := 8) rfl)) (hw _ (List.mem_of_getElem? (i := 85) rfl)) (by decide) (own_c14A l Z a0 hw [] b12 nb de kd 0 "[I" T31.heap n0 Zm (f113.keep K31 nin0) (f213.keep K31 nin0) (f313.keep K31 nin0) (E13.keep K31) gb12 (own_staK S K5) (VD.keep K5 nin0) nda E31 (hw _ (List.mem_of_getElem? (i := 106) rfl))) rfl (E13.keep K31) (W := 0) (by decide) (by decide) (g := (mkF m 215 #[.val (.int p1), .val (.int p2), .val (.int p3), .val (.int p4), .val (.int p5), .val (.int p6), .val (.int (Int32.ofNat nn)), .val (.int l1), .val (.int l1), .val (.int l2), .val (.int (own_mx l1 l2)), .val (.int l3), .val (.int (own_mx (own_mx l1 l2) l3)), .val (.int (Int32.ofNat kk)), .val (.int sI), .val (.int rv), .val (.int ds), .val (.ref b7), .val (.ref b12), .unset, .unset] [(.ref nb), (.ref b12)])) rfl (by rw [hml]; rfl) (argsL := [(.ref nb)]) (rest := []) (lenOf own_pd13 rfl) rfl rfl rfl (hb hby at_215) (by decide) (by decide)
    have N32 := Fr.app N31 N32q
    refine own_go st32 ?_
    show own_Rch p e below _ (T32.setTop (mkF m 220 #[.val (.int p1), .val (.int p2), .val (.int p3), .val (.int p4), .val (.int p5), .val (.int p6), .val (.int (Int32.ofNat nn)), .val (.int l1), .val (.int l1), .val (.int l2), .val (.int (own_mx l1 l2)), .val (.int l3), .val (.int (own_mx (own_mx l1 l2) l3)), .val (.int (Int32.ofNat kk)), .val (.int sI), .val (.int rv), .val (.int ds), .val (.ref b7), .val (.ref b12), .unset, .unset] [(.int (1 : Int32))]))
    refine own_go (S' := (T32.setTop (mkF m 221 #[.val (.int p1), .val (.int p2), .val (.int p3), .val (.int p4), .val (.int p5), .val (.int p6), .val (.int (Int32.ofNat nn)), .val (.int l1), .val (.int l1), .val (.int l2), .val (.int (own_mx l1 l2)), .val (.int l3), .val (.int (own_mx (own_mx l1 l2) l3)), .val (.int (Int32.ofNat kk)), .val (.int sI), .val (.int rv), .val (.int ds), .val (.ref b7), .val (.ref b12), .unset, .unset] []))) (fun t_ k_ => ?_) ?_
    · refine XS.pop X32.here hx rfl (hb hby at_220) rfl rfl ?_
      show Steps p.tables e below (T32.setTop (mkF m 221 #[.val (.int p1), .val (.int p2), .val (.int p3), .val (.int p4), .val (.int p5), .val (.int p6), .val (.int (Int32.ofNat nn)), .val (.int l1), .val (.int l1), .val (.int l2), .val (.int (own_mx l1 l2)), .val (.int l3), .val (.int (own_mx (own_mx l1 l2) l3)), .val (.int (Int32.ofNat kk)), .val (.int sI), .val (.int rv), .val (.int ds), .val (.ref b7), .val (.ref b12), .unset, .unset] [])) _
      exact k_
    have Zd : n0 ≤ T32.heap.size := Nat.le_trans Zm K32.1
    have x1 : b12 < T31.heap.size := Nat.lt_of_lt_of_le E13.lt K31.1
    have x2 : b7 < T31.heap.size := (VL1.keep K31 nin0).lt
    have x3 : nb < T31.heap.size := E31.lt
    have x4 : nb ≠ b12 := Nat.ne_of_gt (Nat.lt_of_lt_of_le E13.lt z31)
    refine B1 _ _ _ [(nb, (own_xs (Int32.ofNat 0) (Int32.ofNat nn) sI rv ds 0 l1 l2 l3))] X32 rfl N32 (by rw [own_XSs hki]; rfl) Zd ⟨(VL1.keep K31 nin0).keep K32 (ninS nla nin0), E32, nla, gb12, ed, ke, mc', _, w132, w232, w332, V32, O32, rfl, by simp, Nat.ne_of_lt (Nat.lt_of_lt_of_le x1 z32), Nat.ne_of_lt (Nat.lt_of_lt_of_le x2 z32), g32, fun g hg => ?_, fun i g hi => ?_⟩
    · cases List.mem_singleton.mp hg; exact ⟨Gm.keepN K32 (ninS x4 nin0), x4, Nat.ne_of_lt (Nat.lt_of_lt_of_le x3 z32)⟩
    · match i, hi with
      | 0, hi => cases hi; rfl
      | i + 1, hi => simp at hi
  · skip
    have hk0 : kk = 0 := (Nat.eq_zero_or_pos kk).elim id fun z => absurd ((own_ltN (by omega : (0 : Nat) ≤ 10) (by omega)).mpr z) g0
    refine own_go (S' := (T13.setTop (mkF m 224 #[.val (.int p1), .val (.int p2), .val (.int p3), .val (.int p4), .val (.int p5), .val (.int p6), .val (.int (Int32.ofNat nn)), .val (.int l1), .val (.int l1), .val (.int l2), .val (.int (own_mx l1 l2)), .val (.int l3), .val (.int (own_mx (own_mx l1 l2) l3)), .val (.int (Int32.ofNat kk)), .val (.int sI), .val (.int rv), .val (.int ds), .val (.ref b7), .val (.ref b12), .unset, .unset] [(.int (1 : Int32)), (.int (Int32.ofNat kk))]))) (fun t_ k_ => ?_) ?_
    · refine XS.ifYes X13.here hx rfl (pc0 := 196) (pc' := 221) rfl (hb hby at_196) rfl ((if0 _ _).trans (flt g0).2.2.2) (by decide) (by decide) ?_
      show Steps p.tables e below (T13.setTop (mkF m 221 #[.val (.int p1), .val (.int p2), .val (.int p3), .val (.int p4), .val (.int p5), .val (.int p6), .val (.int (Int32.ofNat nn)), .val (.int l1), .val (.int l1), .val (.int l2), .val (.int (own_mx l1 l2)), .val (.int l3), .val (.int (own_mx (own_mx l1 l2) l3)), .val (.int (Int32.ofNat kk)), .val (.int sI), .val (.int rv), .val (.int ds), .val (.ref b7), .val (.ref b12), .unset, .unset] [])) _
      refine XS.iload X13.here hx rfl (hb hby at_221) rfl ?_
      show Steps p.tables e below (T13.setTop (mkF m 223 #[.val (.int p1), .val (.int p2), .val (.int p3), .val (.int p4), .val (.int p5), .val (.int p6), .val (.int (Int32.ofNat nn)), .val (.int l1), .val (.int l1), .val (.int l2), .val (.int (own_mx l1 l2)), .val (.int l3), .val (.int (own_mx (own_mx l1 l2) l3)), .val (.int (Int32.ofNat kk)), .val (.int sI), .val (.int rv), .val (.int ds), .val (.ref b7), .val (.ref b12), .unset, .unset] [(.int (Int32.ofNat kk))])) _
      refine XS.iconst X13.here hx rfl (hb hby at_223) ?_
      show Steps p.tables e below (T13.setTop (mkF m 224 #[.val (.int p1), .val (.int p2), .val (.int p3), .val (.int p4), .val (.int p5), .val (.int p6), .val (.int (Int32.ofNat nn)), .val (.int l1), .val (.int l1), .val (.int l2), .val (.int (own_mx l1 l2)), .val (.int l3), .val (.int (own_mx (own_mx l1 l2) l3)), .val (.int (Int32.ofNat kk)), .val (.int sI), .val (.int rv), .val (.int ds), .val (.ref b7), .val (.ref b12), .unset, .unset] [(.int (1 : Int32)), (.int (Int32.ofNat kk))])) _
      exact k_
    refine own_go (S' := (T13.setTop (mkF m 252 #[.val (.int p1), .val (.int p2), .val (.int p3), .val (.int p4), .val (.int p5), .val (.int p6), .val (.int (Int32.ofNat nn)), .val (.int l1), .val (.int l1), .val (.int l2), .val (.int (own_mx l1 l2)), .val (.int l3), .val (.int (own_mx (own_mx l1 l2) l3)), .val (.int (Int32.ofNat kk)), .val (.int sI), .val (.int rv), .val (.int ds), .val (.ref b7), .val (.ref b12), .unset, .unset] [(.int (2 : Int32)), (.int (Int32.ofNat kk))]))) (fun t_ k_ => ?_) ?_
    · refine XS.icmpYes X13.here hx rfl (pc0 := 224) (pc' := 249) rfl (hb hby at_224) rfl (flt (by rw [hk0]; decide)).2.2.2 (by decide) (by decide) ?_
      show Steps p.tables e below (T13.setTop (mkF m 249 #[.val (.int p1), .val (.int p2), .val (.int p3), .val (.int p4), .val (.int p5), .val (.int p6), .val (.int (Int32.ofNat nn)), .val (.int l1), .val (.int l1), .val (.int l2), .val (.int (own_mx l1 l2)), .val (.int l3), .val (.int (own_mx (own_mx l1 l2) l3)), .val (.int (Int32.ofNat kk)), .val (.int sI), .val (.int rv), .val (.int ds), .val (.ref b7), .val (.ref b12), .unset, .unset] [])) _
      refine XS.iload X13.here hx rfl (hb hby at_249) rfl ?_
      show Steps p.tables e below (T13.setTop (mkF m 251 #[.val (.int p1), .val (.int p2), .val (.int p3), .val (.int p4), .val (.int p5), .val (.int p6), .val (.int (Int32.ofNat nn)), .val (.int l1), .val (.int l1), .val (.int l2), .val (.int (own_mx l1 l2)), .val (.int l3), .val (.int (own_mx (own_mx l1 l2) l3)), .val (.int (Int32.ofNat kk)), .val (.int sI), .val (.int rv), .val (.int ds), .val (.ref b7), .val (.ref b12), .unset, .unset] [(.int (Int32.ofNat kk))])) _
      refine XS.iconst X13.here hx rfl (hb hby at_251) ?_
      show Steps p.tables e below (T13.setTop (mkF m 252 #[.val (.int p1), .val (.int p2), .val (.int p3), .val (.int p4), .val (.int p5), .val (.int p6), .val (.int (Int32.ofNat nn)), .val (.int l1), .val (.int l1), .val (.int l2), .val (.int (own_mx l1 l2)), .val (.int l3), .val (.int (own_mx (own_mx l1 l2) l3)), .val (.int (Int32.ofNat kk)), .val (.int sI), .val (.int rv), .val (.int ds), .val (.ref b7), .val (.ref b12), .unset, .unset] [(.int (2 : Int32)), (.int (Int32.ofNat kk))])) _
      exact k_
    refine own_go (S' := (T13.setTop (mkF m 280 #[.val (.int p1), .val (.int p2), .val (.int p3), .val (.int p4), .val (.int p5), .val (.int p6), .val (.int (Int32.ofNat nn)), .val (.int l1), .val (.int l1), .val (.int l2), .val (.int (own_mx l1 l2)), .val (.int l3), .val (.int (own_mx (own_mx l1 l2) l3)), .val (.int (Int32.ofNat kk)), .val (.int sI), .val (.int rv), .val (.int ds), .val (.ref b7), .val (.ref b12), .unset, .unset] [(.int (3 : Int32)), (.int (Int32.ofNat kk))]))) (fun t_ k_ => ?_) ?_
    · refine XS.icmpYes X13.here hx rfl (pc0 := 252) (pc' := 277) rfl (hb hby at_252) rfl (flt (by rw [hk0]; decide)).2.2.2 (by decide) (by decide) ?_
      show Steps p.tables e below (T13.setTop (mkF m 277 #[.val (.int p1), .val (.int p2), .val (.int p3), .val (.int p4), .val (.int p5), .val (.int p6), .val (.int (Int32.ofNat nn)), .val (.int l1), .val (.int l1), .val (.int l2), .val (.int (own_mx l1 l2)), .val (.int l3), .val (.int (own_mx (own_mx l1 l2) l3)), .val (.int (Int32.ofNat kk)), .val (.int sI), .val (.int rv), .val (.int ds), .val (.ref b7), .val (.ref b12), .unset, .unset] [])) _
      refine XS.iload X13.here hx rfl (hb hby at_277) rfl ?_
      show Steps p.tables e below (T13.setTop (mkF m 279 #[.val (.int p1), .val (.int p2), .val (.int p3), .val (.int p4), .val (.int p5), .val (.int p6), .val (.int (Int32.ofNat nn)), .val (.int l1), .val (.int l1), .val (.int l2), .val (.int (own_mx l1 l2)), .val (.int l3), .val (.int (own_mx (own_mx l1 l2) l3)), .val (.int (Int32.ofNat kk)), .val (.int sI), .val (.int rv), .val (.int ds), .val (.ref b7), .val (.ref b12), .unset, .unset] [(.int (Int32.ofNat kk))])) _
      refine XS.iconst X13.here hx rfl (hb hby at_279) ?_
      show Steps p.tables e below (T13.setTop (mkF m 280 #[.val (.int p1), .val (.int p2), .val (.int p3), .val (.int p4), .val (.int p5), .val (.int p6), .val (.int (Int32.ofNat nn)), .val (.int l1), .val (.int l1), .val (.int l2), .val (.int (own_mx l1 l2)), .val (.int l3), .val (.int (own_mx (own_mx l1 l2) l3)), .val (.int (Int32.ofNat kk)), .val (.int sI), .val (.int rv), .val (.int ds), .val (.ref b7), .val (.ref b12), .unset, .unset] [(.int (3 : Int32)), (.int (Int32.ofNat kk))])) _
      exact k_
    refine own_go (S' := (T13.setTop (mkF m 305 #[.val (.int p1), .val (.int p2), .val (.int p3), .val (.int p4), .val (.int p5), .val (.int p6), .val (.int (Int32.ofNat nn)), .val (.int l1), .val (.int l1), .val (.int l2), .val (.int (own_mx l1 l2)), .val (.int l3), .val (.int (own_mx (own_mx l1 l2) l3)), .val (.int (Int32.ofNat kk)), .val (.int sI), .val (.int rv), .val (.int ds), .val (.ref b7), .val (.ref b12), .unset, .unset] []))) (fun t_ k_ => ?_) ?_
    · refine XS.icmpYes X13.here hx rfl (pc0 := 280) (pc' := 305) rfl (hb hby at_280) rfl (flt (by rw [hk0]; decide)).2.2.2 (by decide) (by decide) ?_
      show Steps p.tables e below (T13.setTop (mkF m 305 #[.val (.int p1), .val (.int p2), .val (.int p3), .val (.int p4), .val (.int p5), .val (.int p6), .val (.int (Int32.ofNat nn)), .val (.int l1), .val (.int l1), .val (.int l2), .val (.int (own_mx l1 l2)), .val (.int l3), .val (.int (own_mx (own_mx l1 l2) l3)), .val (.int (Int32.ofNat kk)), .val (.int sI), .val (.int rv), .val (.int ds), .val (.ref b7), .val (.ref b12), .unset, .unset] [])) _
      exact k_
    have X' := X13.more (cells' := 7) (slots' := 33) (by decide) (by decide)
    exact O _ _ _ [] X' rfl N13 (by rw [hk0]; rfl) Z4 ⟨E13, f113, by decide, fun g hg => (by cases hg), de, kd, 0, [], f213, VD.keep K4 nin0, fun i hi => (by cases hi), fun i g hi => (by simp at hi)⟩ VL1
theorem own_lenOf {args : Array Value} {s : State} {t : Term} {n : Int32} {a : Addr} {cl : Cell} {ty : FieldType} (ea : t.eval args s none [] s = some (.ref a)) (A : Arr s s.heap a cl ty) (h : (Term.length t).eval args s none [] s = some (.int n)) : cl.slots.size < 2 ^ 31 ∧ cl.slots.size.toInt32 = n := by
  have ha : s.arrayAt? a = some cl := A.fin (Vm.Alike.refl _)
  obtain ⟨a', c', e1, e2, e3⟩ := Term.length_spec h
  cases ea.symm.trans e1
  cases ha.symm.trans e2
  refine ⟨?_, (Value.int.inj e3).symm⟩
  by_cases q : cl.slots.size < 2 ^ 31
  · exact q
  · simp [Term.eval, ea, ha] at h
    omega
theorem own_eqI {args : Array Value} {s : State} {t : Term} {n : Int32} (h : (Jvm.Cond.eq t (.int n)).value args s none s [] = some true) : t.eval args s none [] s = some (.int n) := by
  cases ht : t.eval args s none [] s with
  | none => simp [Cond.value, Term.eval, ht] at h
  | some x => cases x <;> simp [Cond.value, Term.eval, ht] at h ⊢; exact h
set_option maxRecDepth 65536 in
set_option maxHeartbeats 40000000 in
theorem comes_1 {Post : Tables → Env → Array Value → State → Outcome → State → Prop} (hpost : ∀ tb e args s v u, (limb_1_1.after args s (.returned v) u = true ∧ limb_1_2.after args s (.returned v) u = true ∧ True) → FrameEnd s (.returned v) u (Jvm.fieldLocs frame_1_writes args s ++ Jvm.arrayLocs frame_1_arrays args s ++ Jvm.staticLocs frame_1_statics s) 32 128 → Post tb e args s (.returned v) u) :
    ArmFor flags0 classFile x code maxLocals ret World_1 tables_1 room_1 Calls_1 rest_1 Pre_1 Post := by
  intro l hfl _ _ p e ha hc hk s m args below hf hA hF happ hP
  obtain ⟨hcalls, hrest, hpre⟩ := hP
  obtain ⟨-, -, -, hnamed, -, -, -, hat⟩ := (Spec.applies_iff hf).mp happ
  obtain ⟨hg, hn⟩ := and_e (Cond.before_iff.mp (show (Jvm.Cond.and given_1 narrow_1).before args s = true from hpre))
  obtain ⟨gc, g0⟩ := and_e hg
  obtain ⟨ga0, g1⟩ := and_e g0
  obtain ⟨ga1, g2⟩ := and_e g1
  obtain ⟨ga2, g3⟩ := and_e g2
  obtain ⟨ga3, g4⟩ := and_e g3
  obtain ⟨ga4, g5⟩ := and_e g4
  obtain ⟨w0, w1, w2, w3, w4, w5, rfl⟩ : ∃ w0 w1 w2 w3 w4 w5 : Value, args = #[w0, w1, w2, w3, w4, w5] := by
    have hs : args.size = 6 := by simpa [Cond.value, given_1] using gc
    obtain ⟨L⟩ := args
    match L, hs with
    | [w0, w1, w2, w3, w4, w5], _ => exact ⟨w0, w1, w2, w3, w4, w5, rfl⟩
  obtain ⟨i0, ei0⟩ := is_v ga0
  obtain rfl : w0 = (.int i0) := Option.some.inj ei0
  obtain ⟨i1, ei1⟩ := is_v ga1
  obtain rfl : w1 = (.int i1) := Option.some.inj ei1
  obtain ⟨i2, ei2⟩ := is_v ga2
  obtain rfl : w2 = (.int i2) := Option.some.inj ei2
  obtain ⟨i3, ei3⟩ := is_v ga3
  obtain rfl : w3 = (.int i3) := Option.some.inj ei3
  obtain ⟨i4, ei4⟩ := is_v ga4
  obtain rfl : w4 = (.int i4) := Option.some.inj ei4
  obtain ⟨i5, ei5⟩ := is_v g5
  obtain rfl : w5 = (.int i5) := Option.some.inj ei5
  have hw := fun d (hd : d ∈ tables_1) => atoms_spec (ws := Jvm.Cond.code x code maxLocals ret :: tables_1) hat d (List.mem_cons_of_mem _ hd)
  have hfit : Fit s := fun {y c} hc i hi => by
    obtain ⟨ha, rfl⟩ := Array.getElem?_eq_some_iff.mp hc
    have q := List.all_eq_true.mp ((Array.all_eq_true_iff_forall_mem.mp hF) _ (Array.getElem_mem ha)) i (List.mem_range.mpr hi)
    simpa [Array.getElem?_eq_getElem hi] using q
  obtain ⟨hsets, hown0⟩ := atoms_of _ (rest_1_c_eq ▸ (show rest_1_c.before _ s = true from hrest))
  obtain ⟨de, ede⟩ := arr_v (Cond.before_iff.mp (hsets _ (List.mem_of_getElem? (i := 6) rfl)))
  have Sd := Sta.start ede (Or.inr ⟨(hw _ (List.mem_of_getElem? (i := 8) rfl)), (hsets _ (List.mem_of_getElem? (i := 2) rfl))⟩)
  obtain ⟨cd, Ad⟩ := Arr.start ede (Cond.before_iff.mp (hsets _ (List.mem_of_getElem? (i := 6) rfl)))
  obtain ⟨hq1, hq2⟩ := own_lenOf ede Ad (own_eqI (Cond.before_iff.mp (hsets _ (List.mem_of_getElem? (i := 8) rfl))))
  have VD := Arv.start (vs := []) (dv := .null) hfit Ad hq1 hq2 (by decide) rfl trivial
  obtain ⟨n, o, h1, h2, h3, _, L, rfl, ⟨rfl, N⟩, hq⟩ := own_c0 l s _ hw tables_1 i0 i1 i2 i3 i4 i5 de cd.cls s.heap s.heap.size (Nat.le_refl _) Sd VD p e ha hc hk s m _ below hf ((Spec.applies_iff_loose hf).mp happ).1 ⟨rfl, State.Warmed39.refl s, rfl⟩ trivial
  refine ⟨n, _, h1, h2, h3, hpost _ _ _ _ _ _ ⟨Cond.after_iff.mpr rfl, Cond.after_iff.mpr (eq_i res_at (Term.int_eval (1)) rfl), trivial⟩ ⟨hq.1, hq.2.1, (hq.2.2.sift fun y hy => Or.inr (N y hy)).mono (by decide) (by decide)⟩⟩
theorem main_1_1 : Claimed_1_1 := comes_1 fun _ _ _ _ _ _ h hF => ⟨h.1, hF⟩
theorem main_1_2 : Claimed_1_2 := comes_1 fun _ _ _ _ _ _ h hF => ⟨h.2.1, hF⟩
end Jvm.Pilot.@@N@@
namespace Jvm.Pilot.@@N@@
open Jvm Jvm.ClassFile Sem Op Lib Jvm.Free Jvm.Stand Jvm.Pilot.@@N@@.Jvm.D
/-! MADE BY PROGRAM (witnessworld.py) out of the Statement's table words and the real class files: 22 classes; the members and pool entries that the words name. The judged class is class 1, her method 1. -/
namespace start1
open Jvm.ClassFile
def u (s : String) : CpInfo := .utf8 (stringToUtf16 s)
/-- a pool by its gaps: so many unusable entries, then the entry; so many at the end -/
def gap : Nat → List CpInfo → List CpInfo
  | 0, r => r
  | n + 1, r => .unusable :: gap n r
def poolList (es : List (Nat × CpInfo)) (last : Nat) : List CpInfo := es.foldr (fun e r => gap e.1 (e.2 :: r)) (gap last [])
def pool (es : List (Nat × CpInfo)) (last : Nat) : Array CpInfo := ⟨poolList es last⟩
def fileOf (pool : Array CpInfo) (this : Nat) (attrs : Array Attribute := #[]) (ms : Array MethodInfo := #[]) (fl : Nat := 33) (sup : Nat := 0) (ifs : Array Nat := #[]) (fds : Array FieldInfo := #[]) : ClassFile where
  minorVersion := 0
  majorVersion := 65
  constantPool := pool
  accessFlags := fl
  thisClass := this
  superClass := sup
  interfaces := ifs
  fields := fds
  methods := ms
  attributes := attrs
def plain (name : String) (sup : Option ClassId) : Class where
  name := name
  kind := .ordinary
  loader := none
  accessFlags := 33
  super := sup
  interfaces := #[]
  cf := none
  fields := #[]
  methods := #[]
  instanceTypes := #[]
  staticTypes := #[]
  resolved := #[]
  callSites := []
  init := .initialized
  statics := none
  mirror := none

def pool0 : Array CpInfo := pool [(5, u "<init>"), (0, u "()V"), (1, .class_ 10), (1, u "java/lang/Object")] 113

def k0c0 : Code := { maxStack := 0, maxLocals := 1, code := object_method_1_code, exceptionTable := #[], attributes := #[] }
def k0m0 : Method := { name := "<init>", desc := "()V", sig := { parameters := [], returnType := none }, accessFlags := 1, code := some k0c0 }
/-- java/lang/Object -/
def k0 : Class := { plain "java/lang/Object" none with
  accessFlags := 33
  interfaces := #[]
  cf := some (fileOf pool0 8 #[] #[{ accessFlags := 1, nameIndex := 5, descriptorIndex := 6, attributes := #[] }] 33 0 #[] #[])
  fields := #[]
  methods := #[k0m0]
  instanceTypes := #[]
  staticTypes := #[]
  resolved := Array.replicate 124 none
  statics := none }

def pool1 : Array CpInfo := pool [(2, .class_ 4), (0, .nameAndType 5 6), (0, u "java/lang/Object"), (0, u "<init>"), (0, u "()V"), (0, .integer 2147483647), (0, .methodref 9 10), (0, .class_ 11), (0, .nameAndType 12 13), (0, u "java/lang/Math"), (0, u "max"), (0, u "(II)I"), (0, .class_ 15), (0, u "java/util/ArrayList"), (0, .methodref 14 3), (0, .methodref 18 19), (0, .class_ 20), (0, .nameAndType 21 22), (0, u "com/example/anonutils/anonutils/ClusteringOfPinLaw"), (0, u "members"), (0, u "(IIIZZ[I)[I"), (0, .interfaceMethodref 24 25), (0, .class_ 26), (0, .nameAndType 27 28), (0, u "java/util/List"), (0, u "add"), (0, u "(Ljava/lang/Object;)Z"), (0, .methodref 30 31), (0, .class_ 32), (0, .nameAndType 33 34), (0, u "com/example/anonutils/anonutils/Clustering"), (0, u "of"), (0, u "(ILjava/util/List;)Lcom/example/anonutils/anonutils/Clustering;"), (0, .methodref 30 36), (0, .nameAndType 37 38), (0, u "recordCount"), (0, u "()I"), (0, .methodref 30 40), (0, .nameAndType 41 38), (0, u "count"), (0, .methodref 18 43), (0, .nameAndType 44 45), (0, u "id"), (0, u "(IIIZ)I"), (0, .methodref 30 47), (0, .nameAndType 48 49), (0, u "clusterOf"), (0, u "(I)I"), (2, u "law"), (0, u "(IIIIII)Z")] 5

def k1m0 : Method := { name := "<init>", desc := "()V", sig := { parameters := [], returnType := none }, accessFlags := 1, code := none }
def k1c1 : Code := { maxStack := 7, maxLocals := 21, code := code, exceptionTable := #[], attributes := #[] }
def k1m1 : Method := { name := "law", desc := "(IIIIII)Z", sig := { parameters := [.int, .int, .int, .int, .int, .int], returnType := some .boolean }, accessFlags := 9, code := some k1c1 }
def k1c2 : Code := { maxStack := 2, maxLocals := 5, code := method_3_code, exceptionTable := #[], attributes := #[] }
def k1m2 : Method := { name := "id", desc := "(IIIZ)I", sig := { parameters := [.int, .int, .int, .boolean], returnType := some .int }, accessFlags := 10, code := some k1c2 }
def k1c3 : Code := { maxStack := 6, maxLocals := 9, code := method_4_code, exceptionTable := #[], attributes := #[] }
def k1m3 : Method := { name := "members", desc := "(IIIZZ[I)[I", sig := { parameters := [.int, .int, .int, .boolean, .boolean, (.array .int)], returnType := some (.array .int) }, accessFlags := 10, code := some k1c3 }
/-- com/example/anonutils/anonutils/ClusteringOfPinLaw -/
def k1 : Class := { plain "com/example/anonutils/anonutils/ClusteringOfPinLaw" (some 0) with
  accessFlags := 49
  interfaces := #[]
  cf := some (fileOf pool1 18 #[] #[{ accessFlags := 1, nameIndex := 5, descriptorIndex := 6, attributes := #[] }, { accessFlags := 9, nameIndex := 52, descriptorIndex := 53, attributes := #[] }, { accessFlags := 10, nameIndex := 44, descriptorIndex := 45, attributes := #[] }, { accessFlags := 10, nameIndex := 21, descriptorIndex := 22, attributes := #[] }] 49 2 #[] #[])
  fields := #[]
  methods := #[k1m0, k1m1, k1m2, k1m3]
  instanceTypes := #[]
  staticTypes := #[]
  resolved := Array.replicate 59 none
  statics := none }

def pool2 : Array CpInfo := pool [(1, .class_ 2), (0, u "java/lang/Math"), (1, .class_ 6), (1, u "java/lang/Object"), (0, u "<init>"), (0, u "()V"), (89, .class_ 100), (1, u "java/lang/Math$RandomNumberGeneratorHolder"), (71, u "negativeZeroFloatBits"), (0, u "J"), (2, u "negativeZeroDoubleBits"), (21, u "max"), (46, u "$assertionsDisabled"), (0, u "Z"), (88, u "(II)I"), (2, u "twoToTheDoubleScaleDown"), (0, u "D"), (4, u "twoToTheDoubleScaleUp"), (9, u "E"), (3, u "PI"), (2, u "TAU"), (2, u "DEGREES_TO_RADIANS"), (0, u "RADIANS_TO_DEGREES")] 94

def k2m0 : Method := { name := "<init>", desc := "()V", sig := { parameters := [], returnType := none }, accessFlags := 2, code := none }
def k2c1 : Code := { maxStack := 2, maxLocals := 2, code := jdk_29_method_65_code, exceptionTable := #[], attributes := #[] }
def k2m1 : Method := { name := "max", desc := "(II)I", sig := { parameters := [.int, .int], returnType := some .int }, accessFlags := 9, code := some k2c1 }
/-- java/lang/Math -/
def k2 : Class := { plain "java/lang/Math" (some 0) with
  accessFlags := 49
  interfaces := #[]
  cf := some (fileOf pool2 1 #[.nestMembers #[98]] #[{ accessFlags := 2, nameIndex := 7, descriptorIndex := 8, attributes := #[] }, { accessFlags := 9, nameIndex := 198, descriptorIndex := 335, attributes := #[] }] 49 4 #[] #[{ accessFlags := 25, nameIndex := 354, descriptorIndex := 339, attributes := #[] }, { accessFlags := 25, nameIndex := 358, descriptorIndex := 339, attributes := #[] }, { accessFlags := 25, nameIndex := 361, descriptorIndex := 339, attributes := #[] }, { accessFlags := 26, nameIndex := 364, descriptorIndex := 339, attributes := #[] }, { accessFlags := 26, nameIndex := 365, descriptorIndex := 339, attributes := #[] }, { accessFlags := 26, nameIndex := 172, descriptorIndex := 173, attributes := #[] }, { accessFlags := 26, nameIndex := 176, descriptorIndex := 173, attributes := #[] }, { accessFlags := 8, nameIndex := 344, descriptorIndex := 339, attributes := #[] }, { accessFlags := 8, nameIndex := 338, descriptorIndex := 339, attributes := #[] }, { accessFlags := 4120, nameIndex := 245, descriptorIndex := 246, attributes := #[] }])
  fields := #[{ name := "E", type := .double, accessFlags := 25, slot := 0, constantValue := 0 }, { name := "PI", type := .double, accessFlags := 25, slot := 1, constantValue := 0 }, { name := "TAU", type := .double, accessFlags := 25, slot := 2, constantValue := 0 }, { name := "DEGREES_TO_RADIANS", type := .double, accessFlags := 26, slot := 3, constantValue := 0 }, { name := "RADIANS_TO_DEGREES", type := .double, accessFlags := 26, slot := 4, constantValue := 0 }, { name := "negativeZeroFloatBits", type := .long, accessFlags := 26, slot := 5, constantValue := 0 }, { name := "negativeZeroDoubleBits", type := .long, accessFlags := 26, slot := 6, constantValue := 0 }, { name := "twoToTheDoubleScaleUp", type := .double, accessFlags := 8, slot := 7, constantValue := 0 }, { name := "twoToTheDoubleScaleDown", type := .double, accessFlags := 8, slot := 8, constantValue := 0 }, { name := "$assertionsDisabled", type := .boolean, accessFlags := 4120, slot := 9, constantValue := 0 }]
  methods := #[k2m0, k2m1]
  instanceTypes := #[]
  staticTypes := #[.double, .double, .double, .double, .double, .long, .long, .double, .double, .boolean]
  resolved := Array.replicate 460 none
  statics := none }

def pool3 : Array CpInfo := pool [(8, .class_ 10), (1, u "java/lang/Iterable"), (24, .class_ 36), (0, u "java/lang/Object")] 25

/-- java/lang/Iterable -/
def k3 : Class := { plain "java/lang/Iterable" (some 0) with
  accessFlags := 1537
  interfaces := #[]
  cf := some (fileOf pool3 8 #[] #[] 1537 35 #[] #[])
  fields := #[]
  methods := #[]
  instanceTypes := #[]
  staticTypes := #[]
  resolved := Array.replicate 62 none
  statics := none }

def pool4 : Array CpInfo := pool [(10, .class_ 12), (1, u "java/util/Collection"), (47, .class_ 61), (0, u "java/lang/Object"), (0, .class_ 63), (0, u "java/lang/Iterable")] 51

/-- java/util/Collection -/
def k4 : Class := { plain "java/util/Collection" (some 0) with
  accessFlags := 1537
  interfaces := #[3]
  cf := some (fileOf pool4 10 #[] #[] 1537 60 #[62] #[])
  fields := #[]
  methods := #[]
  instanceTypes := #[]
  staticTypes := #[]
  resolved := Array.replicate 115 none
  statics := none }

def pool5 : Array CpInfo := pool [(1, .methodref 2 3), (0, .class_ 4), (0, .nameAndType 5 6), (0, u "java/lang/Object"), (0, u "<init>"), (0, u "()V"), (1, .class_ 10), (1, u "java/util/AbstractCollection"), (66, .class_ 78), (0, u "java/util/Collection")] 81

def k5c0 : Code := { maxStack := 1, maxLocals := 1, code := jdk_22_method_1_code, exceptionTable := #[], attributes := #[] }
def k5m0 : Method := { name := "<init>", desc := "()V", sig := { parameters := [], returnType := none }, accessFlags := 4, code := some k5c0 }
/-- java/util/AbstractCollection -/
def k5 : Class := { plain "java/util/AbstractCollection" (some 0) with
  accessFlags := 1057
  interfaces := #[4]
  cf := some (fileOf pool5 8 #[] #[{ accessFlags := 4, nameIndex := 5, descriptorIndex := 6, attributes := #[] }] 1057 2 #[77] #[])
  fields := #[]
  methods := #[k5m0]
  instanceTypes := #[]
  staticTypes := #[]
  resolved := Array.replicate 160 none
  statics := none }

def pool6 : Array CpInfo := pool [(8, .class_ 10), (1, u "java/util/SequencedCollection"), (15, .class_ 27), (0, u "java/lang/Object"), (0, .class_ 29), (0, u "java/util/Collection")] 27

/-- java/util/SequencedCollection -/
def k6 : Class := { plain "java/util/SequencedCollection" (some 0) with
  accessFlags := 1537
  interfaces := #[4]
  cf := some (fileOf pool6 8 #[] #[] 1537 26 #[28] #[])
  fields := #[]
  methods := #[]
  instanceTypes := #[]
  staticTypes := #[]
  resolved := Array.replicate 57 none
  statics := none }

def pool7 : Array CpInfo := pool [(8, .class_ 10), (1, u "java/util/List"), (49, u "add"), (3, u "(Ljava/lang/Object;)Z"), (10, u "get"), (0, u "(I)Ljava/lang/Object;"), (2, u "size"), (0, u "()I"), (22, .class_ 104), (0, u "java/lang/Object"), (15, .class_ 121), (0, u "java/util/SequencedCollection")] 129

def k7m0 : Method := { name := "size", desc := "()I", sig := { parameters := [], returnType := some .int }, accessFlags := 1025, code := none }
def k7m1 : Method := { name := "add", desc := "(Ljava/lang/Object;)Z", sig := { parameters := [(.object "java/lang/Object")], returnType := some .boolean }, accessFlags := 1025, code := none }
def k7m2 : Method := { name := "get", desc := "(I)Ljava/lang/Object;", sig := { parameters := [.int], returnType := some (.object "java/lang/Object") }, accessFlags := 1025, code := none }
/-- java/util/List -/
def k7 : Class := { plain "java/util/List" (some 0) with
  accessFlags := 1537
  interfaces := #[6]
  cf := some (fileOf pool7 8 #[] #[{ accessFlags := 1025, nameIndex := 79, descriptorIndex := 80, attributes := #[] }, { accessFlags := 1025, nameIndex := 60, descriptorIndex := 64, attributes := #[] }, { accessFlags := 1025, nameIndex := 75, descriptorIndex := 76, attributes := #[] }] 1537 103 #[120] #[])
  fields := #[]
  methods := #[k7m0, k7m1, k7m2]
  instanceTypes := #[]
  staticTypes := #[]
  resolved := Array.replicate 251 none
  statics := none }

def pool8 : Array CpInfo := pool [(1, .methodref 2 3), (0, .class_ 4), (0, .nameAndType 5 6), (0, u "java/util/AbstractCollection"), (0, u "<init>"), (0, u "()V"), (0, .fieldref 8 9), (0, .class_ 10), (0, .nameAndType 11 12), (0, u "java/util/AbstractList"), (0, u "modCount"), (0, u "I"), (64, .class_ 78), (0, u "java/util/AbstractList$Itr"), (3, .class_ 83), (0, u "java/util/AbstractList$ListItr"), (9, .class_ 94), (0, u "java/util/AbstractList$RandomAccessSubList"), (3, .class_ 99), (0, u "java/util/AbstractList$SubList"), (33, .class_ 134), (0, u "java/util/List"), (73, .class_ 209), (0, u "java/util/AbstractList$SubList$1"), (0, .class_ 211), (0, u "java/util/AbstractList$RandomAccessSpliterator")] 6

def k8c0 : Code := { maxStack := 2, maxLocals := 1, code := jdk_39_method_1_code, exceptionTable := #[], attributes := #[] }
def k8m0 : Method := { name := "<init>", desc := "()V", sig := { parameters := [], returnType := none }, accessFlags := 4, code := some k8c0 }
/-- java/util/AbstractList -/
def k8 : Class := { plain "java/util/AbstractList" (some 5) with
  accessFlags := 1057
  interfaces := #[7]
  cf := some (fileOf pool8 8 #[.nestMembers #[93, 98, 208, 210, 82, 77]] #[{ accessFlags := 4, nameIndex := 5, descriptorIndex := 6, attributes := #[] }] 1057 2 #[133] #[{ accessFlags := 132, nameIndex := 11, descriptorIndex := 12, attributes := #[] }])
  fields := #[{ name := "modCount", type := .int, accessFlags := 132, slot := 0, constantValue := 0 }]
  methods := #[k8m0]
  instanceTypes := #[.int]
  staticTypes := #[]
  resolved := Array.replicate 218 none
  statics := none }

def pool9 : Array CpInfo := pool [(1, .class_ 2), (0, u "java/util/RandomAccess"), (0, .class_ 4), (0, u "java/lang/Object")] 2

/-- java/util/RandomAccess -/
def k9 : Class := { plain "java/util/RandomAccess" (some 0) with
  accessFlags := 1537
  interfaces := #[]
  cf := some (fileOf pool9 1 #[] #[] 1537 3 #[] #[])
  fields := #[]
  methods := #[]
  instanceTypes := #[]
  staticTypes := #[]
  resolved := Array.replicate 7 none
  statics := none }

def pool10 : Array CpInfo := pool [(1, .class_ 2), (0, u "java/lang/Cloneable"), (0, .class_ 4), (0, u "java/lang/Object")] 2

/-- java/lang/Cloneable -/
def k10 : Class := { plain "java/lang/Cloneable" (some 0) with
  accessFlags := 1537
  interfaces := #[]
  cf := some (fileOf pool10 1 #[] #[] 1537 3 #[] #[])
  fields := #[]
  methods := #[]
  instanceTypes := #[]
  staticTypes := #[]
  resolved := Array.replicate 7 none
  statics := none }

def pool11 : Array CpInfo := pool [(1, .class_ 2), (0, u "java/io/Serializable"), (0, .class_ 4), (0, u "java/lang/Object")] 2

/-- java/io/Serializable -/
def k11 : Class := { plain "java/io/Serializable" (some 0) with
  accessFlags := 1537
  interfaces := #[]
  cf := some (fileOf pool11 1 #[] #[] 1537 3 #[] #[])
  fields := #[]
  methods := #[]
  instanceTypes := #[]
  staticTypes := #[]
  resolved := Array.replicate 7 none
  statics := none }

def pool12 : Array CpInfo := pool [(1, .methodref 2 3), (0, .class_ 4), (0, .nameAndType 5 6), (0, u "java/util/AbstractList"), (0, u "<init>"), (0, u "()V"), (0, .class_ 8), (0, u "java/lang/Object"), (0, .fieldref 10 11), (0, .class_ 12), (0, .nameAndType 13 14), (0, u "java/util/ArrayList"), (0, u "elementData"), (0, u "[Ljava/lang/Object;"), (2, u "EMPTY_ELEMENTDATA"), (21, .fieldref 10 40), (0, .nameAndType 41 14), (0, u "DEFAULTCAPACITY_EMPTY_ELEMENTDATA"), (5, u "()[Ljava/lang/Object;"), (0, .fieldref 10 49), (0, .nameAndType 50 51), (0, u "size"), (0, u "I"), (11, .fieldref 10 64), (0, .nameAndType 65 51), (0, u "modCount"), (3, .methodref 10 70), (0, .nameAndType 71 72), (0, u "grow"), (0, u "(I)[Ljava/lang/Object;"), (6, .methodref 80 81), (0, .class_ 82), (0, .nameAndType 83 84), (0, u "java/lang/Math"), (0, u "max"), (0, u "(II)I"), (11, u "(Ljava/lang/Object;)Z"), (21, .methodref 119 120), (0, .class_ 121), (0, .nameAndType 122 84), (0, u "java/util/Objects"), (0, u "checkIndex"), (0, .methodref 10 124), (0, .nameAndType 13 125), (0, u "(I)Ljava/lang/Object;"), (3, .methodref 10 130), (0, .nameAndType 71 47), (0, .methodref 10 132), (0, .nameAndType 133 134), (0, u "add"), (0, u "(Ljava/lang/Object;[Ljava/lang/Object;I)V"), (13, .class_ 149), (0, u "java/util/List"), (36, u "()I"), (75, .class_ 263), (0, u "java/util/ArrayList$ListItr"), (3, .class_ 268), (0, u "java/util/ArrayList$Itr"), (7, .class_ 277), (0, u "java/util/ArrayList$SubList"), (12, .class_ 291), (0, u "java/util/ArrayList$ArrayListSpliterator"), (37, .class_ 330), (0, u "java/util/RandomAccess"), (0, .class_ 332), (0, u "java/lang/Cloneable"), (0, .class_ 334), (0, u "java/io/Serializable"), (0, u "serialVersionUID"), (0, u "J"), (3, u "DEFAULT_CAPACITY"), (40, u "get"), (118, .class_ 501), (0, u "java/util/ArrayList$SubList$2"), (0, .class_ 503), (0, u "java/util/ArrayList$SubList$1")] 5

def k12c0 : Code := { maxStack := 2, maxLocals := 1, code := jdk_38_method_2_code, exceptionTable := #[], attributes := #[] }
def k12m0 : Method := { name := "<init>", desc := "()V", sig := { parameters := [], returnType := none }, accessFlags := 1, code := some k12c0 }
def k12c1 : Code := { maxStack := 4, maxLocals := 4, code := jdk_38_method_6_code, exceptionTable := #[], attributes := #[] }
def k12m1 : Method := { name := "grow", desc := "(I)[Ljava/lang/Object;", sig := { parameters := [.int], returnType := some (.array (.object "java/lang/Object")) }, accessFlags := 2, code := some k12c1 }
def k12c2 : Code := { maxStack := 3, maxLocals := 1, code := jdk_38_method_7_code, exceptionTable := #[], attributes := #[] }
def k12m2 : Method := { name := "grow", desc := "()[Ljava/lang/Object;", sig := { parameters := [], returnType := some (.array (.object "java/lang/Object")) }, accessFlags := 2, code := some k12c2 }
def k12c3 : Code := { maxStack := 1, maxLocals := 1, code := jdk_38_method_8_code, exceptionTable := #[], attributes := #[] }
def k12m3 : Method := { name := "size", desc := "()I", sig := { parameters := [], returnType := some .int }, accessFlags := 1, code := some k12c3 }
def k12c4 : Code := { maxStack := 2, maxLocals := 2, code := jdk_38_method_18_code, exceptionTable := #[], attributes := #[] }
def k12m4 : Method := { name := "elementData", desc := "(I)Ljava/lang/Object;", sig := { parameters := [.int], returnType := some (.object "java/lang/Object") }, accessFlags := 0, code := some k12c4 }
def k12c5 : Code := { maxStack := 2, maxLocals := 2, code := jdk_38_method_20_code, exceptionTable := #[], attributes := #[] }
def k12m5 : Method := { name := "get", desc := "(I)Ljava/lang/Object;", sig := { parameters := [.int], returnType := some (.object "java/lang/Object") }, accessFlags := 1, code := some k12c5 }
def k12c6 : Code := { maxStack := 3, maxLocals := 4, code := jdk_38_method_24_code, exceptionTable := #[], attributes := #[] }
def k12m6 : Method := { name := "add", desc := "(Ljava/lang/Object;[Ljava/lang/Object;I)V", sig := { parameters := [(.object "java/lang/Object"), (.array (.object "java/lang/Object")), .int], returnType := none }, accessFlags := 2, code := some k12c6 }
def k12c7 : Code := { maxStack := 4, maxLocals := 2, code := jdk_38_method_25_code, exceptionTable := #[], attributes := #[] }
def k12m7 : Method := { name := "add", desc := "(Ljava/lang/Object;)Z", sig := { parameters := [(.object "java/lang/Object")], returnType := some .boolean }, accessFlags := 1, code := some k12c7 }
/-- java/util/ArrayList -/
def k12 : Class := { plain "java/util/ArrayList" (some 8) with
  accessFlags := 33
  interfaces := #[7, 9, 10, 11]
  cf := some (fileOf pool12 10 #[.nestMembers #[290, 276, 500, 502, 262, 267]] #[{ accessFlags := 1, nameIndex := 5, descriptorIndex := 6, attributes := #[] }, { accessFlags := 2, nameIndex := 71, descriptorIndex := 72, attributes := #[] }, { accessFlags := 2, nameIndex := 71, descriptorIndex := 47, attributes := #[] }, { accessFlags := 1, nameIndex := 50, descriptorIndex := 186, attributes := #[] }, { accessFlags := 0, nameIndex := 13, descriptorIndex := 125, attributes := #[] }, { accessFlags := 1, nameIndex := 381, descriptorIndex := 125, attributes := #[] }, { accessFlags := 2, nameIndex := 133, descriptorIndex := 134, attributes := #[] }, { accessFlags := 1, nameIndex := 133, descriptorIndex := 96, attributes := #[] }] 33 2 #[148, 329, 331, 333] #[{ accessFlags := 26, nameIndex := 335, descriptorIndex := 336, attributes := #[] }, { accessFlags := 26, nameIndex := 340, descriptorIndex := 51, attributes := #[] }, { accessFlags := 26, nameIndex := 17, descriptorIndex := 14, attributes := #[] }, { accessFlags := 26, nameIndex := 41, descriptorIndex := 14, attributes := #[] }, { accessFlags := 128, nameIndex := 13, descriptorIndex := 14, attributes := #[] }, { accessFlags := 2, nameIndex := 50, descriptorIndex := 51, attributes := #[] }])
  fields := #[{ name := "serialVersionUID", type := .long, accessFlags := 26, slot := 0, constantValue := 0 }, { name := "DEFAULT_CAPACITY", type := .int, accessFlags := 26, slot := 1, constantValue := 0 }, { name := "EMPTY_ELEMENTDATA", type := (.array (.object "java/lang/Object")), accessFlags := 26, slot := 2, constantValue := 0 }, { name := "DEFAULTCAPACITY_EMPTY_ELEMENTDATA", type := (.array (.object "java/lang/Object")), accessFlags := 26, slot := 3, constantValue := 0 }, { name := "elementData", type := (.array (.object "java/lang/Object")), accessFlags := 128, slot := 1, constantValue := 0 }, { name := "size", type := .int, accessFlags := 2, slot := 2, constantValue := 0 }]
  methods := #[k12m0, k12m1, k12m2, k12m3, k12m4, k12m5, k12m6, k12m7]
  instanceTypes := #[.int, (.array (.object "java/lang/Object")), .int]
  staticTypes := #[.long, .int, (.array (.object "java/lang/Object")), (.array (.object "java/lang/Object"))]
  resolved := Array.replicate 509 none
  statics := some 0 }

def pool13 : Array CpInfo := pool [(1, .methodref 2 3), (0, .class_ 4), (0, .nameAndType 5 6), (0, u "java/lang/Object"), (0, u "<init>"), (0, u "()V"), (0, .fieldref 8 9), (0, .class_ 10), (0, .nameAndType 11 12), (0, u "com/example/anonutils/anonutils/Clustering"), (0, u "clusterOf"), (0, u "[I"), (0, .fieldref 8 14), (0, .nameAndType 15 16), (0, u "count"), (0, u "I"), (0, .methodref 18 19), (0, .class_ 20), (0, .nameAndType 21 22), (0, u "java/util/Arrays"), (0, u "fill"), (0, u "([II)V"), (0, .interfaceMethodref 24 25), (0, .class_ 26), (0, .nameAndType 27 28), (0, u "java/util/List"), (0, u "size"), (0, u "()I"), (0, .interfaceMethodref 24 30), (0, .nameAndType 31 32), (0, u "get"), (0, u "(I)Ljava/lang/Object;"), (0, .class_ 12), (15, .methodref 8 50), (0, .nameAndType 5 22), (3, u "of"), (0, u "(ILjava/util/List;)Lcom/example/anonutils/anonutils/Clustering;"), (5, u "recordCount"), (0, u "(I)I")] 23

def k13c0 : Code := { maxStack := 2, maxLocals := 3, code := prog_1_method_1_code, exceptionTable := #[], attributes := #[] }
def k13m0 : Method := { name := "<init>", desc := "([II)V", sig := { parameters := [(.array .int), .int], returnType := none }, accessFlags := 0, code := some k13c0 }
def k13c1 : Code := { maxStack := 5, maxLocals := 10, code := prog_1_method_2_code, exceptionTable := #[], attributes := #[] }
def k13m1 : Method := { name := "of", desc := "(ILjava/util/List;)Lcom/example/anonutils/anonutils/Clustering;", sig := { parameters := [.int, (.object "java/util/List")], returnType := some (.object "com/example/anonutils/anonutils/Clustering") }, accessFlags := 8, code := some k13c1 }
def k13c2 : Code := { maxStack := 1, maxLocals := 1, code := prog_1_method_4_code, exceptionTable := #[], attributes := #[] }
def k13m2 : Method := { name := "recordCount", desc := "()I", sig := { parameters := [], returnType := some .int }, accessFlags := 0, code := some k13c2 }
def k13c3 : Code := { maxStack := 1, maxLocals := 1, code := prog_1_method_5_code, exceptionTable := #[], attributes := #[] }
def k13m3 : Method := { name := "count", desc := "()I", sig := { parameters := [], returnType := some .int }, accessFlags := 0, code := some k13c3 }
def k13c4 : Code := { maxStack := 2, maxLocals := 2, code := prog_1_method_6_code, exceptionTable := #[], attributes := #[] }
def k13m4 : Method := { name := "clusterOf", desc := "(I)I", sig := { parameters := [.int], returnType := some .int }, accessFlags := 0, code := some k13c4 }
/-- com/example/anonutils/anonutils/Clustering -/
def k13 : Class := { plain "com/example/anonutils/anonutils/Clustering" (some 0) with
  accessFlags := 48
  interfaces := #[]
  cf := some (fileOf pool13 8 #[] #[{ accessFlags := 0, nameIndex := 5, descriptorIndex := 22, attributes := #[] }, { accessFlags := 8, nameIndex := 54, descriptorIndex := 55, attributes := #[] }, { accessFlags := 0, nameIndex := 61, descriptorIndex := 28, attributes := #[] }, { accessFlags := 0, nameIndex := 15, descriptorIndex := 28, attributes := #[] }, { accessFlags := 0, nameIndex := 11, descriptorIndex := 62, attributes := #[] }] 48 2 #[] #[{ accessFlags := 18, nameIndex := 11, descriptorIndex := 12, attributes := #[] }, { accessFlags := 18, nameIndex := 15, descriptorIndex := 16, attributes := #[] }])
  fields := #[{ name := "clusterOf", type := (.array .int), accessFlags := 18, slot := 0, constantValue := 0 }, { name := "count", type := .int, accessFlags := 18, slot := 1, constantValue := 0 }]
  methods := #[k13m0, k13m1, k13m2, k13m3, k13m4]
  instanceTypes := #[(.array .int), .int]
  staticTypes := #[]
  resolved := Array.replicate 86 none
  statics := none }

def pool14 : Array CpInfo := pool [(2, .class_ 4), (1, u "java/lang/Object"), (0, u "<init>"), (0, u "()V"), (7, .class_ 16), (1, u "java/util/Arrays"), (57, .class_ 76), (1, u "java/util/Arrays$NaturalOrder"), (36, .class_ 115), (1, u "java/util/Arrays$LegacyMergeSort"), (1, u "Z"), (257, .class_ 376), (0, u "java/util/Arrays$ArrayList"), (68, u "$assertionsDisabled"), (269, u "MIN_ARRAY_SORT_GRAN"), (0, u "I"), (2, u "INSERTIONSORT_THRESHOLD"), (120, u "fill"), (4, u "([II)V"), (129, .class_ 976), (0, u "java/util/Arrays$ArrayItr")] 52

def k14m0 : Method := { name := "<init>", desc := "()V", sig := { parameters := [], returnType := none }, accessFlags := 2, code := none }
def k14c1 : Code := { maxStack := 3, maxLocals := 4, code := jdk_65_method_103_code, exceptionTable := #[], attributes := #[] }
def k14m1 : Method := { name := "fill", desc := "([II)V", sig := { parameters := [(.array .int), .int], returnType := none }, accessFlags := 9, code := some k14c1 }
/-- java/util/Arrays -/
def k14 : Class := { plain "java/util/Arrays" (some 0) with
  accessFlags := 49
  interfaces := #[]
  cf := some (fileOf pool14 14 #[.nestMembers #[975, 375, 113, 74]] #[{ accessFlags := 2, nameIndex := 5, descriptorIndex := 6, attributes := #[] }, { accessFlags := 9, nameIndex := 840, descriptorIndex := 845, attributes := #[] }] 49 2 #[] #[{ accessFlags := 26, nameIndex := 715, descriptorIndex := 716, attributes := #[] }, { accessFlags := 26, nameIndex := 719, descriptorIndex := 716, attributes := #[] }, { accessFlags := 4120, nameIndex := 445, descriptorIndex := 117, attributes := #[] }])
  fields := #[{ name := "MIN_ARRAY_SORT_GRAN", type := .int, accessFlags := 26, slot := 0, constantValue := 0 }, { name := "INSERTIONSORT_THRESHOLD", type := .int, accessFlags := 26, slot := 1, constantValue := 0 }, { name := "$assertionsDisabled", type := .boolean, accessFlags := 4120, slot := 2, constantValue := 0 }]
  methods := #[k14m0, k14m1]
  instanceTypes := #[]
  staticTypes := #[.int, .int, .boolean]
  resolved := Array.replicate 1029 none
  statics := none }

def pool15 : Array CpInfo := pool [(2, .class_ 4), (1, u "java/lang/Object"), (0, u "<init>"), (0, u "()V"), (35, .class_ 44), (1, u "java/util/Objects"), (60, .methodref 106 107), (0, .class_ 108), (0, .nameAndType 109 110), (0, u "jdk/internal/util/Preconditions"), (0, u "checkIndex"), (0, u "(IILjava/util/function/BiFunction;)I"), (60, u "(II)I")] 12

def k15m0 : Method := { name := "<init>", desc := "()V", sig := { parameters := [], returnType := none }, accessFlags := 2, code := none }
def k15c1 : Code := { maxStack := 3, maxLocals := 2, code := jdk_31_method_17_code, exceptionTable := #[], attributes := #[] }
def k15m1 : Method := { name := "checkIndex", desc := "(II)I", sig := { parameters := [.int, .int], returnType := some .int }, accessFlags := 9, code := some k15c1 }
/-- java/util/Objects -/
def k15 : Class := { plain "java/util/Objects" (some 0) with
  accessFlags := 49
  interfaces := #[]
  cf := some (fileOf pool15 42 #[] #[{ accessFlags := 2, nameIndex := 5, descriptorIndex := 6, attributes := #[] }, { accessFlags := 9, nameIndex := 109, descriptorIndex := 171, attributes := #[] }] 49 2 #[] #[])
  fields := #[]
  methods := #[k15m0, k15m1]
  instanceTypes := #[]
  staticTypes := #[]
  resolved := Array.replicate 184 none
  statics := none }

def pool16 : Array CpInfo := pool [(2, .class_ 4), (1, u "java/lang/Object"), (0, u "<init>"), (0, u "()V"), (17, .class_ 26), (1, u "jdk/internal/util/Preconditions"), (6, u "checkIndex"), (21, .class_ 56), (0, u "jdk/internal/util/Preconditions$4"), (57, .class_ 115), (0, u "jdk/internal/util/Preconditions$1"), (7, u "SIOOBE_FORMATTER"), (0, u "Ljava/util/function/BiFunction;"), (0, .class_ 126), (0, u "jdk/internal/util/Preconditions$2"), (3, u "AIOOBE_FORMATTER"), (0, .class_ 132), (0, u "jdk/internal/util/Preconditions$3"), (3, u "IOOBE_FORMATTER"), (41, u "(IILjava/util/function/BiFunction;)I")] 15

def k16m0 : Method := { name := "<init>", desc := "()V", sig := { parameters := [], returnType := none }, accessFlags := 1, code := none }
def k16c1 : Code := { maxStack := 3, maxLocals := 3, code := jdk_41_method_11_code, exceptionTable := #[], attributes := #[] }
def k16m1 : Method := { name := "checkIndex", desc := "(IILjava/util/function/BiFunction;)I", sig := { parameters := [.int, .int, (.object "java/util/function/BiFunction")], returnType := some .int }, accessFlags := 9, code := some k16c1 }
/-- jdk/internal/util/Preconditions -/
def k16 : Class := { plain "jdk/internal/util/Preconditions" (some 0) with
  accessFlags := 33
  interfaces := #[]
  cf := some (fileOf pool16 24 #[.nestMembers #[55, 131, 125, 114]] #[{ accessFlags := 1, nameIndex := 5, descriptorIndex := 6, attributes := #[] }, { accessFlags := 9, nameIndex := 33, descriptorIndex := 178, attributes := #[] }] 33 2 #[] #[{ accessFlags := 25, nameIndex := 123, descriptorIndex := 124, attributes := #[] }, { accessFlags := 25, nameIndex := 130, descriptorIndex := 124, attributes := #[] }, { accessFlags := 25, nameIndex := 136, descriptorIndex := 124, attributes := #[] }])
  fields := #[{ name := "SIOOBE_FORMATTER", type := (.object "java/util/function/BiFunction"), accessFlags := 25, slot := 0, constantValue := 0 }, { name := "AIOOBE_FORMATTER", type := (.object "java/util/function/BiFunction"), accessFlags := 25, slot := 1, constantValue := 0 }, { name := "IOOBE_FORMATTER", type := (.object "java/util/function/BiFunction"), accessFlags := 25, slot := 2, constantValue := 0 }]
  methods := #[k16m0, k16m1]
  instanceTypes := #[]
  staticTypes := #[(.object "java/util/function/BiFunction"), (.object "java/util/function/BiFunction"), (.object "java/util/function/BiFunction")]
  resolved := Array.replicate 194 none
  statics := none }

/-- the primitive byte -/
def k17 : Class := { plain "byte" none with kind := .primitive 'B', accessFlags := 0x411 }
/-- [B -/
def k18 : Class := { plain "[B" (some 0) with kind := .array 17 .byte, interfaces := #[10, 11], accessFlags := 1041 }

/-- the primitive int -/
def k19 : Class := { plain "int" none with kind := .primitive 'I', accessFlags := 0x411 }
/-- [I -/
def k20 : Class := { plain "[I" (some 0) with kind := .array 19 .int, interfaces := #[10, 11], accessFlags := 1041 }

/-- [Ljava/lang/Object; -/
def k21 : Class := { plain "[Ljava/lang/Object;" (some 0) with kind := .array 0 (.object "java/lang/Object"), interfaces := #[10, 11], accessFlags := 1041 }

def heap : Heap := #[{ cls := 12, slots := #[.long 0, .int 0, .ref 1, .ref 2], vm := .statics 12 },
  { cls := 21, slots := #[], vm := .none },
  { cls := 21, slots := #[], vm := .none }]
def classes : Array Class := #[k0, k1, k2, k3, k4, k5, k6, k7, k8, k9, k10, k11, k12, k13, k14, k15, k16, k17, k18, k19, k20, k21]
def interned : List (Array UInt16 × Addr) := []
def slotsUsed : Nat := 4
def theMethod : MethodId := ⟨1, 1⟩
def args0 : Array Value := #[.int 1, .int 1, .int 1, .int 1, .int 1, .int 1]
def aboutOver (below : List Frame) : State where
  vm := { classes := classes, interned := interned.toArray }
  heap := heap
  slotsUsed := slotsUsed
  threads := #[{ frames := .invoking theMethod args0 :: below }]
def below0 : List Frame := [.native { method := ⟨0, 0⟩, args := #[] }]
def about1 : State := aboutOver below0
def p0 : Program := .bare "" "" ""
def e0 : Env := launch0.env 0 0 0
theorem w_frames : about1.frames = Frame.invoking theMethod args0 :: below0 := rfl
set_option maxRecDepth 65536 in
theorem w_args : argsFit about1.vm theMethod args0 = true := by decide +kernel
set_option maxRecDepth 65536 in
theorem w_heap : heapFits about1 = true := by decide +kernel
set_option maxRecDepth 65536 in
theorem w_runnable : about1.curStatus? = some .runnable := by decide +kernel
set_option maxRecDepth 65536 in
theorem w_alone : about1.alone = true := by decide +kernel
set_option maxRecDepth 65536 in
theorem w_named : about1.methodNamed? x = some theMethod := by decide +kernel
set_option maxRecDepth 65536 in
theorem w_hears : about1.hears theMethod below0 = true := by decide +kernel
set_option maxRecDepth 65536 in
theorem w_ripe : about1.ripe theMethod args0 below0 = true := by decide +kernel
theorem w_running : about1.status = .running := rfl
set_option maxRecDepth 65536 in
theorem w_room : about1.hasRoom e0.platform room_1 = true :=
  launch0.hasRoom_least _ room_1 (by decide +kernel) (by decide +kernel) (by decide +kernel) (by decide +kernel) (by decide +kernel) (by decide +kernel)
theorem allAtoms_all (ts : List Jvm.Cond) (a : Array Jvm.Value) (st : Jvm.State) : (allAtoms ts).before a st = ts.all (fun c => c.before a st) := by
  induction ts with
  | nil => rfl
  | cons c t ih =>
    show (Jvm.Cond.and c (allAtoms t)).before a st = _
    rw [Jvm.Cond.before_and, ih, List.all_cons]
def words1 : List Jvm.Cond := Jvm.Cond.code x code maxLocals ret :: tables_1
/-- a 'code' word, met by the world's own term for the bytes: nothing is compared byte by byte -/
theorem code_word {y : MethodName} {bytes : ByteArray} {mx : Nat} {rt : Option FieldType} {a : Array Value} {s : State} {m : MethodId} {meth : Method} {c : Code} (h1 : s.methodNamed? y = some m) (h2 : s.vm.method? m = some meth) (h3 : meth.code = some c) (h4 : c.code = bytes)
    (h5 : (c.maxLocals == mx && c.exceptionTable.isEmpty && decide (c.maxStack ≤ mostOperands) && decide (meth.sig.returnType = rt) && !meth.locks && decide (parseMethodDescriptor y.desc = some meth.sig)) = true) : (Jvm.Cond.code y bytes mx rt).before a s = true := by
  simp only [Bool.and_eq_true, beq_iff_eq, Bool.not_eq_true', decide_eq_true_eq] at h5
  obtain ⟨⟨⟨⟨⟨g1, g2⟩, g3⟩, g4⟩, g5⟩, g6⟩ := h5
  simp [Cond.before, Cond.holds, Cond.value, h1, h2, h3, h4, g1, g2, g3, g4, g5, g6]
def isCode : Jvm.Cond → Bool
  | .code _ _ _ _ => true
  | _ => false
theorem all_split {L : List Jvm.Cond} {P : Jvm.Cond → Bool} (h1 : L.all (fun c => isCode c || P c) = true) (h2 : ∀ c ∈ L.filter isCode, P c = true) : L.all P = true := by
  refine List.all_eq_true.mpr fun c hc => ?_
  have h := List.all_eq_true.mp h1 c hc
  rcases Bool.eq_false_or_eq_true (isCode c) with hi | hi
  · exact h2 c (List.mem_filter.mpr ⟨hc, hi⟩)
  · simpa [hi] using h
set_option maxRecDepth 65536 in
theorem w_c0 : (Jvm.Cond.code x code maxLocals ret).before args0 about1 = true := code_word (m := ⟨1, 1⟩) (meth := k1m1) (c := k1c1) (by decide +kernel) rfl rfl rfl (by decide +kernel)
set_option maxRecDepth 65536 in
theorem w_c1 : (Jvm.Cond.code ({ cls := "java/lang/Math", name := "max", desc := "(II)I" } : Jvm.MethodName) jdk_29_method_65_code (2 : Nat) (Option.some Jvm.ClassFile.FieldType.int)).before args0 about1 = true := code_word (m := ⟨2, 1⟩) (meth := k2m1) (c := k2c1) (by decide +kernel) rfl rfl rfl (by decide +kernel)
set_option maxRecDepth 65536 in
theorem w_c2 : (Jvm.Cond.code ({ cls := "java/util/ArrayList", name := "<init>", desc := "()V" } : Jvm.MethodName) jdk_38_method_2_code (1 : Nat) (Option.none : Option Jvm.ClassFile.FieldType)).before args0 about1 = true := code_word (m := ⟨12, 0⟩) (meth := k12m0) (c := k12c0) (by decide +kernel) rfl rfl rfl (by decide +kernel)
set_option maxRecDepth 65536 in
theorem w_c3 : (Jvm.Cond.code ({ cls := "java/util/AbstractList", name := "<init>", desc := "()V" } : Jvm.MethodName) jdk_39_method_1_code (1 : Nat) (Option.none : Option Jvm.ClassFile.FieldType)).before args0 about1 = true := code_word (m := ⟨8, 0⟩) (meth := k8m0) (c := k8c0) (by decide +kernel) rfl rfl rfl (by decide +kernel)
set_option maxRecDepth 65536 in
theorem w_c4 : (Jvm.Cond.code ({ cls := "java/util/AbstractCollection", name := "<init>", desc := "()V" } : Jvm.MethodName) jdk_22_method_1_code (1 : Nat) (Option.none : Option Jvm.ClassFile.FieldType)).before args0 about1 = true := code_word (m := ⟨5, 0⟩) (meth := k5m0) (c := k5c0) (by decide +kernel) rfl rfl rfl (by decide +kernel)
set_option maxRecDepth 65536 in
theorem w_c5 : (Jvm.Cond.code ({ cls := "java/lang/Object", name := "<init>", desc := "()V" } : Jvm.MethodName) object_method_1_code (1 : Nat) (Option.none : Option Jvm.ClassFile.FieldType)).before args0 about1 = true := code_word (m := ⟨0, 0⟩) (meth := k0m0) (c := k0c0) (by decide +kernel) rfl rfl rfl (by decide +kernel)
set_option maxRecDepth 65536 in
theorem w_c6 : (Jvm.Cond.code ({ cls := "com/example/anonutils/anonutils/Clustering", name := "of", desc := "(ILjava/util/List;)Lcom/example/anonutils/anonutils/Clustering;" } : Jvm.MethodName) prog_1_method_2_code (10 : Nat) (Option.some (Jvm.ClassFile.FieldType.object "com/example/anonutils/anonutils/Clustering"))).before args0 about1 = true := code_word (m := ⟨13, 1⟩) (meth := k13m1) (c := k13c1) (by decide +kernel) rfl rfl rfl (by decide +kernel)
set_option maxRecDepth 65536 in
theorem w_c7 : (Jvm.Cond.code ({ cls := "java/util/Arrays", name := "fill", desc := "([II)V" } : Jvm.MethodName) jdk_65_method_103_code (4 : Nat) (Option.none : Option Jvm.ClassFile.FieldType)).before args0 about1 = true := code_word (m := ⟨14, 1⟩) (meth := k14m1) (c := k14c1) (by decide +kernel) rfl rfl rfl (by decide +kernel)
set_option maxRecDepth 65536 in
theorem w_c8 : (Jvm.Cond.code ({ cls := "java/util/ArrayList", name := "size", desc := "()I" } : Jvm.MethodName) jdk_38_method_8_code (1 : Nat) (Option.some Jvm.ClassFile.FieldType.int)).before args0 about1 = true := code_word (m := ⟨12, 3⟩) (meth := k12m3) (c := k12c3) (by decide +kernel) rfl rfl rfl (by decide +kernel)
set_option maxRecDepth 65536 in
theorem w_c9 : (Jvm.Cond.code ({ cls := "com/example/anonutils/anonutils/Clustering", name := "<init>", desc := "([II)V" } : Jvm.MethodName) prog_1_method_1_code (3 : Nat) (Option.none : Option Jvm.ClassFile.FieldType)).before args0 about1 = true := code_word (m := ⟨13, 0⟩) (meth := k13m0) (c := k13c0) (by decide +kernel) rfl rfl rfl (by decide +kernel)
set_option maxRecDepth 65536 in
theorem w_c10 : (Jvm.Cond.code ({ cls := "com/example/anonutils/anonutils/Clustering", name := "recordCount", desc := "()I" } : Jvm.MethodName) prog_1_method_4_code (1 : Nat) (Option.some Jvm.ClassFile.FieldType.int)).before args0 about1 = true := code_word (m := ⟨13, 2⟩) (meth := k13m2) (c := k13c2) (by decide +kernel) rfl rfl rfl (by decide +kernel)
set_option maxRecDepth 65536 in
theorem w_c11 : (Jvm.Cond.code ({ cls := "com/example/anonutils/anonutils/Clustering", name := "count", desc := "()I" } : Jvm.MethodName) prog_1_method_5_code (1 : Nat) (Option.some Jvm.ClassFile.FieldType.int)).before args0 about1 = true := code_word (m := ⟨13, 3⟩) (meth := k13m3) (c := k13c3) (by decide +kernel) rfl rfl rfl (by decide +kernel)
set_option maxRecDepth 65536 in
theorem w_c12 : (Jvm.Cond.code ({ cls := "com/example/anonutils/anonutils/ClusteringOfPinLaw", name := "members", desc := "(IIIZZ[I)[I" } : Jvm.MethodName) method_4_code (9 : Nat) (Option.some (Jvm.ClassFile.FieldType.array Jvm.ClassFile.FieldType.int))).before args0 about1 = true := code_word (m := ⟨1, 3⟩) (meth := k1m3) (c := k1c3) (by decide +kernel) rfl rfl rfl (by decide +kernel)
set_option maxRecDepth 65536 in
theorem w_c13 : (Jvm.Cond.code ({ cls := "com/example/anonutils/anonutils/ClusteringOfPinLaw", name := "id", desc := "(IIIZ)I" } : Jvm.MethodName) method_3_code (5 : Nat) (Option.some Jvm.ClassFile.FieldType.int)).before args0 about1 = true := code_word (m := ⟨1, 2⟩) (meth := k1m2) (c := k1c2) (by decide +kernel) rfl rfl rfl (by decide +kernel)
set_option maxRecDepth 65536 in
theorem w_c14 : (Jvm.Cond.code ({ cls := "java/util/ArrayList", name := "add", desc := "(Ljava/lang/Object;)Z" } : Jvm.MethodName) jdk_38_method_25_code (2 : Nat) (Option.some Jvm.ClassFile.FieldType.boolean)).before args0 about1 = true := code_word (m := ⟨12, 7⟩) (meth := k12m7) (c := k12c7) (by decide +kernel) rfl rfl rfl (by decide +kernel)
set_option maxRecDepth 65536 in
theorem w_c15 : (Jvm.Cond.code ({ cls := "java/util/ArrayList", name := "add", desc := "(Ljava/lang/Object;[Ljava/lang/Object;I)V" } : Jvm.MethodName) jdk_38_method_24_code (4 : Nat) (Option.none : Option Jvm.ClassFile.FieldType)).before args0 about1 = true := code_word (m := ⟨12, 6⟩) (meth := k12m6) (c := k12c6) (by decide +kernel) rfl rfl rfl (by decide +kernel)
set_option maxRecDepth 65536 in
theorem w_c16 : (Jvm.Cond.code ({ cls := "java/util/ArrayList", name := "grow", desc := "()[Ljava/lang/Object;" } : Jvm.MethodName) jdk_38_method_7_code (1 : Nat) (Option.some (Jvm.ClassFile.FieldType.array (Jvm.ClassFile.FieldType.object "java/lang/Object")))).before args0 about1 = true := code_word (m := ⟨12, 2⟩) (meth := k12m2) (c := k12c2) (by decide +kernel) rfl rfl rfl (by decide +kernel)
set_option maxRecDepth 65536 in
theorem w_c17 : (Jvm.Cond.code ({ cls := "java/util/ArrayList", name := "grow", desc := "(I)[Ljava/lang/Object;" } : Jvm.MethodName) jdk_38_method_6_code (4 : Nat) (Option.some (Jvm.ClassFile.FieldType.array (Jvm.ClassFile.FieldType.object "java/lang/Object")))).before args0 about1 = true := code_word (m := ⟨12, 1⟩) (meth := k12m1) (c := k12c1) (by decide +kernel) rfl rfl rfl (by decide +kernel)
set_option maxRecDepth 65536 in
theorem w_c18 : (Jvm.Cond.code ({ cls := "java/util/ArrayList", name := "get", desc := "(I)Ljava/lang/Object;" } : Jvm.MethodName) jdk_38_method_20_code (2 : Nat) (Option.some (Jvm.ClassFile.FieldType.object "java/lang/Object"))).before args0 about1 = true := code_word (m := ⟨12, 5⟩) (meth := k12m5) (c := k12c5) (by decide +kernel) rfl rfl rfl (by decide +kernel)
set_option maxRecDepth 65536 in
theorem w_c19 : (Jvm.Cond.code ({ cls := "java/util/Objects", name := "checkIndex", desc := "(II)I" } : Jvm.MethodName) jdk_31_method_17_code (2 : Nat) (Option.some Jvm.ClassFile.FieldType.int)).before args0 about1 = true := code_word (m := ⟨15, 1⟩) (meth := k15m1) (c := k15c1) (by decide +kernel) rfl rfl rfl (by decide +kernel)
set_option maxRecDepth 65536 in
theorem w_c20 : (Jvm.Cond.code ({ cls := "jdk/internal/util/Preconditions", name := "checkIndex", desc := "(IILjava/util/function/BiFunction;)I" } : Jvm.MethodName) jdk_41_method_11_code (3 : Nat) (Option.some Jvm.ClassFile.FieldType.int)).before args0 about1 = true := code_word (m := ⟨16, 1⟩) (meth := k16m1) (c := k16c1) (by decide +kernel) rfl rfl rfl (by decide +kernel)
set_option maxRecDepth 65536 in
theorem w_c21 : (Jvm.Cond.code ({ cls := "java/util/ArrayList", name := "elementData", desc := "(I)Ljava/lang/Object;" } : Jvm.MethodName) jdk_38_method_18_code (2 : Nat) (Option.some (Jvm.ClassFile.FieldType.object "java/lang/Object"))).before args0 about1 = true := code_word (m := ⟨12, 4⟩) (meth := k12m4) (c := k12c4) (by decide +kernel) rfl rfl rfl (by decide +kernel)
set_option maxRecDepth 65536 in
theorem w_c22 : (Jvm.Cond.code ({ cls := "com/example/anonutils/anonutils/Clustering", name := "clusterOf", desc := "(I)I" } : Jvm.MethodName) prog_1_method_6_code (2 : Nat) (Option.some Jvm.ClassFile.FieldType.int)).before args0 about1 = true := code_word (m := ⟨13, 4⟩) (meth := k13m4) (c := k13c4) (by decide +kernel) rfl rfl rfl (by decide +kernel)
def codes1 : List Jvm.Cond := [Jvm.Cond.code x code maxLocals ret, Jvm.Cond.code ({ cls := "java/lang/Math", name := "max", desc := "(II)I" } : Jvm.MethodName) jdk_29_method_65_code (2 : Nat) (Option.some Jvm.ClassFile.FieldType.int), Jvm.Cond.code ({ cls := "java/util/ArrayList", name := "<init>", desc := "()V" } : Jvm.MethodName) jdk_38_method_2_code (1 : Nat) (Option.none : Option Jvm.ClassFile.FieldType), Jvm.Cond.code ({ cls := "java/util/AbstractList", name := "<init>", desc := "()V" } : Jvm.MethodName) jdk_39_method_1_code (1 : Nat) (Option.none : Option Jvm.ClassFile.FieldType), Jvm.Cond.code ({ cls := "java/util/AbstractCollection", name := "<init>", desc := "()V" } : Jvm.MethodName) jdk_22_method_1_code (1 : Nat) (Option.none : Option Jvm.ClassFile.FieldType), Jvm.Cond.code ({ cls := "java/lang/Object", name := "<init>", desc := "()V" } : Jvm.MethodName) object_method_1_code (1 : Nat) (Option.none : Option Jvm.ClassFile.FieldType), Jvm.Cond.code ({ cls := "com/example/anonutils/anonutils/Clustering", name := "of", desc := "(ILjava/util/List;)Lcom/example/anonutils/anonutils/Clustering;" } : Jvm.MethodName) prog_1_method_2_code (10 : Nat) (Option.some (Jvm.ClassFile.FieldType.object "com/example/anonutils/anonutils/Clustering")), Jvm.Cond.code ({ cls := "java/util/Arrays", name := "fill", desc := "([II)V" } : Jvm.MethodName) jdk_65_method_103_code (4 : Nat) (Option.none : Option Jvm.ClassFile.FieldType), Jvm.Cond.code ({ cls := "java/util/ArrayList", name := "size", desc := "()I" } : Jvm.MethodName) jdk_38_method_8_code (1 : Nat) (Option.some Jvm.ClassFile.FieldType.int), Jvm.Cond.code ({ cls := "com/example/anonutils/anonutils/Clustering", name := "<init>", desc := "([II)V" } : Jvm.MethodName) prog_1_method_1_code (3 : Nat) (Option.none : Option Jvm.ClassFile.FieldType), Jvm.Cond.code ({ cls := "com/example/anonutils/anonutils/Clustering", name := "recordCount", desc := "()I" } : Jvm.MethodName) prog_1_method_4_code (1 : Nat) (Option.some Jvm.ClassFile.FieldType.int), Jvm.Cond.code ({ cls := "com/example/anonutils/anonutils/Clustering", name := "count", desc := "()I" } : Jvm.MethodName) prog_1_method_5_code (1 : Nat) (Option.some Jvm.ClassFile.FieldType.int), Jvm.Cond.code ({ cls := "com/example/anonutils/anonutils/ClusteringOfPinLaw", name := "members", desc := "(IIIZZ[I)[I" } : Jvm.MethodName) method_4_code (9 : Nat) (Option.some (Jvm.ClassFile.FieldType.array Jvm.ClassFile.FieldType.int)), Jvm.Cond.code ({ cls := "com/example/anonutils/anonutils/ClusteringOfPinLaw", name := "id", desc := "(IIIZ)I" } : Jvm.MethodName) method_3_code (5 : Nat) (Option.some Jvm.ClassFile.FieldType.int), Jvm.Cond.code ({ cls := "java/util/ArrayList", name := "add", desc := "(Ljava/lang/Object;)Z" } : Jvm.MethodName) jdk_38_method_25_code (2 : Nat) (Option.some Jvm.ClassFile.FieldType.boolean), Jvm.Cond.code ({ cls := "java/util/ArrayList", name := "add", desc := "(Ljava/lang/Object;[Ljava/lang/Object;I)V" } : Jvm.MethodName) jdk_38_method_24_code (4 : Nat) (Option.none : Option Jvm.ClassFile.FieldType), Jvm.Cond.code ({ cls := "java/util/ArrayList", name := "grow", desc := "()[Ljava/lang/Object;" } : Jvm.MethodName) jdk_38_method_7_code (1 : Nat) (Option.some (Jvm.ClassFile.FieldType.array (Jvm.ClassFile.FieldType.object "java/lang/Object"))), Jvm.Cond.code ({ cls := "java/util/ArrayList", name := "grow", desc := "(I)[Ljava/lang/Object;" } : Jvm.MethodName) jdk_38_method_6_code (4 : Nat) (Option.some (Jvm.ClassFile.FieldType.array (Jvm.ClassFile.FieldType.object "java/lang/Object"))), Jvm.Cond.code ({ cls := "java/util/ArrayList", name := "get", desc := "(I)Ljava/lang/Object;" } : Jvm.MethodName) jdk_38_method_20_code (2 : Nat) (Option.some (Jvm.ClassFile.FieldType.object "java/lang/Object")), Jvm.Cond.code ({ cls := "java/util/Objects", name := "checkIndex", desc := "(II)I" } : Jvm.MethodName) jdk_31_method_17_code (2 : Nat) (Option.some Jvm.ClassFile.FieldType.int), Jvm.Cond.code ({ cls := "jdk/internal/util/Preconditions", name := "checkIndex", desc := "(IILjava/util/function/BiFunction;)I" } : Jvm.MethodName) jdk_41_method_11_code (3 : Nat) (Option.some Jvm.ClassFile.FieldType.int), Jvm.Cond.code ({ cls := "java/util/ArrayList", name := "elementData", desc := "(I)Ljava/lang/Object;" } : Jvm.MethodName) jdk_38_method_18_code (2 : Nat) (Option.some (Jvm.ClassFile.FieldType.object "java/lang/Object")), Jvm.Cond.code ({ cls := "com/example/anonutils/anonutils/Clustering", name := "clusterOf", desc := "(I)I" } : Jvm.MethodName) prog_1_method_6_code (2 : Nat) (Option.some Jvm.ClassFile.FieldType.int)]
set_option maxRecDepth 65536 in
theorem codes_eq : words1.filter isCode = codes1 := rfl
theorem w_codes : ∀ c ∈ words1.filter isCode, c.before args0 about1 = true := by
  rw [codes_eq]
  intro c hc
  simp only [codes1, List.mem_cons, List.not_mem_nil, or_false] at hc
  rcases hc with rfl | rfl | rfl | rfl | rfl | rfl | rfl | rfl | rfl | rfl | rfl | rfl | rfl | rfl | rfl | rfl | rfl | rfl | rfl | rfl | rfl | rfl | rfl
  · exact w_c0
  · exact w_c1
  · exact w_c2
  · exact w_c3
  · exact w_c4
  · exact w_c5
  · exact w_c6
  · exact w_c7
  · exact w_c8
  · exact w_c9
  · exact w_c10
  · exact w_c11
  · exact w_c12
  · exact w_c13
  · exact w_c14
  · exact w_c15
  · exact w_c16
  · exact w_c17
  · exact w_c18
  · exact w_c19
  · exact w_c20
  · exact w_c21
  · exact w_c22
set_option maxRecDepth 65536 in
theorem w_t1 : (words1.take 24).all (fun c => isCode c || c.before args0 about1) = true := by decide +kernel
set_option maxRecDepth 65536 in
theorem w_t2 : ((words1.drop 24).take 24).all (fun c => isCode c || c.before args0 about1) = true := by decide +kernel
set_option maxRecDepth 65536 in
theorem w_t3 : (((words1.drop 24).drop 24).take 24).all (fun c => isCode c || c.before args0 about1) = true := by decide +kernel
set_option maxRecDepth 65536 in
theorem w_t4 : ((((words1.drop 24).drop 24).drop 24).take 24).all (fun c => isCode c || c.before args0 about1) = true := by decide +kernel
set_option maxRecDepth 65536 in
theorem w_t5 : (((((words1.drop 24).drop 24).drop 24).drop 24).take 24).all (fun c => isCode c || c.before args0 about1) = true := by decide +kernel
set_option maxRecDepth 65536 in
theorem w_t6 : (((((words1.drop 24).drop 24).drop 24).drop 24).drop 24).all (fun c => isCode c || c.before args0 about1) = true := by decide +kernel
theorem w_tables : (allAtoms (Jvm.Cond.code x code maxLocals ret :: tables_1)).before args0 about1 = true := by
  rw [allAtoms_all]
  show words1.all (fun c => c.before args0 about1) = true
  refine all_split ?_ w_codes
  rw [← List.take_append_drop 24 words1, List.all_append, w_t1, ← List.take_append_drop 24 (words1.drop 24), List.all_append, w_t2, ← List.take_append_drop 24 ((words1.drop 24).drop 24), List.all_append, w_t3, ← List.take_append_drop 24 (((words1.drop 24).drop 24).drop 24), List.all_append, w_t4, ← List.take_append_drop 24 ((((words1.drop 24).drop 24).drop 24).drop 24), List.all_append, w_t5, w_t6]
  rfl
set_option maxRecDepth 65536 in
theorem w_rest : rest_1_c.before args0 about1 = true := by decide +kernel
set_option maxRecDepth 65536 in
theorem w_case : (Jvm.Cond.and given_1 narrow_1).before args0 about1 = true := by decide +kernel
theorem w_applies : (headSpec (Jvm.Cond.code x code maxLocals ret :: tables_1) room_1).applies x e0.platform about1 = true :=
  (Spec.applies_iff w_frames).mpr ⟨w_running, w_runnable, w_alone, w_named, w_hears, w_ripe, w_room, w_tables⟩
theorem atStart : AtStart classFile x code maxLocals ret World_1 tables_1 room_1 Calls_1 rest_1 Pre_1 launch0 p0 e0 about1 theMethod args0 below0 :=
  ⟨lists_1, trivial, launch0.admits_env _ _ _, launch0.least_env, fairChoices_fair.cas, fairChoices_fair.clock, w_frames, w_args, w_heap, w_applies, trivial, w_rest, w_case⟩
end start1
theorem witness_1 : WitnessClaimed_1 := ⟨start1.p0, start1.e0, start1.about1, start1.theMethod, start1.args0, start1.below0, start1.atStart⟩
end Jvm.Pilot.@@N@@
