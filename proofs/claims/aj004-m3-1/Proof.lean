import JvmDerived
import JvmDerived.Pilot.@@N@@Statement
import JvmDerived.Pilot.@@N@@Code
set_option linter.unusedVariables false
set_option linter.unusedSimpArgs false
namespace Jvm.Pilot.@@N@@
open Jvm Jvm.ClassFile Sem Op Lib Jvm.Free Jvm.Stand Jvm.LawKit Jvm.RoadKit Bundle Jvm.Pilot.@@N@@.Jvm.D
/-! own kit: 'from this state the body comes to its end as asked', so that a walk may fork and join -/
def own_Rch (p : Program) (e : Env) (below : List Frame) (F : Outcome → State → Prop) (S : State) : Prop :=
  ∃ s₂ o, Steps p.tables e below S s₂ ∧ s₂.status = .running ∧ Ended s₂ below o ∧ F o s₂
theorem own_go {p : Program} {e : Env} {below : List Frame} {F : Outcome → State → Prop} {S S' : State}
    (h : ∀ t, Steps p.tables e below S' t → Steps p.tables e below S t) (k : own_Rch p e below F S') : own_Rch p e below F S := by
  obtain ⟨a, b, c, d⟩ := k
  exact ⟨a, b, h _ c, d⟩
theorem own_cast {p : Program} {e : Env} {below : List Frame} {F : Outcome → State → Prop} {T : State} {g g' : JFrame} (q : g = g')
    (k : own_Rch p e below F (T.setTop g')) : own_Rch p e below F (T.setTop g) := q ▸ k
theorem own_join {p : Program} {e : Env} {below : List Frame} {F : Outcome → State → Prop} {S S' : State} (h : own_Rch p e below F S' → own_Rch p e below F S) (k : own_Rch p e below F S') : own_Rch p e below F S := h k
theorem own_narR {v : Value} {c : String} (h : v.isRef = true) : narrow (.object c) v = v := by rcases ref_cases h with rfl | ⟨_, rfl⟩ <;> rfl
theorem own_fitR {v : Value} {c : String} (h : v.isRef = true) : fits (.object c) v = true := by rcases ref_cases h with rfl | ⟨_, rfl⟩ <;> rfl
theorem own_staK {Z : State} {h h' : Heap} {C n d : String} {w : Value} (F : Sta Z h C n d w) (K : Keep h h' []) : Sta Z h' C n d w := by
  obtain ⟨cf, i, k, f, st, cell, h1, h2, h3, h4, h5, r⟩ := F
  exact ⟨cf, i, k, f, st, cell, h1, h2, h3, h4, K.2.1 _ _ h5 nin0, r⟩
def own_Fin (s : State) (k n : Nat) (Q : Option Value → Heap → List Loc → Prop) (o : Outcome) (t : State) : Prop :=
  ∃ v L, o = .returned v ∧ Q v t.heap L ∧ FrameEnd s o t L k n
def own_Ctr (l : Launch) (Z : State) (y : MethodName) (bytes : ByteArray) (maxL : Nat) (ret : Option FieldType) (ws : List Jvm.Cond) (rm : Room) (h0 : Heap) (as' : Array Value)
    (Q : Option Value → Heap → List Loc → Prop) : Prop :=
  MetFree l y (head1 (Jvm.Cond.code y bytes maxL ret :: ws) rm) (fun a U => a = as' ∧ Z.Warmed39 U.vm ∧ U.heap = h0) (fun _ _ _ _ _ => True) (fun _ U o U' => ∃ v L, o = .returned v ∧ Q v U'.heap L ∧ FrameEnd U o U' L rm.cells rm.slots)
theorem own_ctr {l : Launch} {Z : State} {y : MethodName} {bytes : ByteArray} {maxL : Nat} {ret : Option FieldType} {ws : List Jvm.Cond} {rm : Room} {h0 : Heap} {as' : Array Value}
    {Q : Option Value → Heap → List Loc → Prop} (hp : plainFor y = true)
    (body : ∀ p e s m below meth c s₁, BodyLoose p l y (head1 (Jvm.Cond.code y bytes maxL ret :: ws) rm) bytes maxL ret e s m as' below meth c s₁ → c.maxLocals = maxL → p.tables.exec = Jvm.exec → c.code = bytes →
      Z.Warmed39 s.vm → s.vm.findClass y.cls = some m.cls → Stand p l e rm s m as' below meth c s₁ [] 0 0 → s₁.heap = h0 →
      own_Rch p e below (own_Fin s rm.cells rm.slots Q) (s₁.setTop (entryFrame m as' maxL))) : own_Ctr l Z y bytes maxL ret ws rm h0 as' Q := by
  refine MetFree.of_bodySF hp hisR ?_
  intro p e s m args below meth c s₁ Bd hml hP hK
  obtain ⟨rfl, hZ, hh⟩ := hP
  exact body p e s m below meth c s₁ Bd hml Bd.exec Bd.bytes hZ (findClass_of_methodNamed Bd.named) (Stand.of_body Bd) (by rw [← hh, Bd.state]; rfl)
section OwnKit
variable {p : Program} {l : Launch} {e : Env} {R : Room} {s : State} {m : MethodId} {args : Array Value} {below : List Frame} {meth : Method} {c : Code} {T : State} {locs : List Loc} {cells slots : Nat} {Z : State} {a0 : Array Value}
theorem own_retI0 (X : Stand p l e R s m args below meth c T locs cells slots) (hx : p.tables.exec = Jvm.exec) {pc : Nat} {Ls : Array Slot} {z : Int32} {rest : List Value} (hret : meth.sig.returnType = some .int) (hd : decode c.code pc = .ok (.ireturn, 1)) {fs : List Frame}
    (hl : ∀ (f : JFrame) (acts : List Action), f.method = m → f.locked = none → f.entered = [] → (doReturn e (T.setTop f) acts (some (.int z))).1 = T.setFrames fs) : Steps p.tables e below (T.setTop (mkF m pc Ls (.int z :: rest))) (T.setFrames fs) :=
  retOut X hx hret rfl (Or.inl ⟨rfl, Or.inl rfl, z, rfl⟩) hd hl
theorem own_retN {K N : Nat} {Q : Option Value → Heap → List Loc → Prop} (X : Stand p l e R s m args below meth c T locs cells slots) (hx : p.tables.exec = Jvm.exec) {pc : Nat} {Ls : Array Slot} {z w : Int32} {t : FieldType} {rest : List Value}
    (hret : meth.sig.returnType = some t) (hlocks : meth.locks = false) (ht : t = .boolean ∨ t = .byte ∨ t = .char ∨ t = .short) (hd : decode c.code pc = .ok (.ireturn, 1)) (hw : nar t z = w) (hK : cells ≤ K) (hN : slots ≤ N)
    (hq : Q (some (.int w)) T.heap locs) : own_Rch p e below (own_Fin s K N Q) (T.setTop (mkF m pc Ls (.int z :: rest))) := by
  subst hw
  obtain ⟨fs, hr, hrun, hended, hW, hsame⟩ := X.leave (v := some (.int (nar t z))) (fun h => by rw [hret] at h; cases h) hlocks
  exact ⟨_, _, retN X hx hret ht hd hr, hrun, hended, _, _, rfl, hq, ⟨_, rfl⟩, hW, hsame.mono hK hN⟩
theorem own_retI {K N : Nat} {Q : Option Value → Heap → List Loc → Prop} (X : Stand p l e R s m args below meth c T locs cells slots) (hx : p.tables.exec = Jvm.exec) {pc : Nat} {Ls : Array Slot} {z : Int32} {rest : List Value}
    (hret : meth.sig.returnType = some .int) (hlocks : meth.locks = false) (hd : decode c.code pc = .ok (.ireturn, 1)) (hK : cells ≤ K) (hN : slots ≤ N)
    (hq : Q (some (.int z)) T.heap locs) : own_Rch p e below (own_Fin s K N Q) (T.setTop (mkF m pc Ls (.int z :: rest))) := by
  obtain ⟨fs, hr, hrun, hended, hW, hsame⟩ := X.leave (v := some (.int z)) (fun h => by rw [hret] at h; cases h) hlocks
  exact ⟨_, _, own_retI0 X hx hret hd hr, hrun, hended, _, _, rfl, hq, ⟨_, rfl⟩, hW, hsame.mono hK hN⟩
theorem own_retJ {K N : Nat} {Q : Option Value → Heap → List Loc → Prop} (X : Stand p l e R s m args below meth c T locs cells slots) (hx : p.tables.exec = Jvm.exec) {pc : Nat} {Ls : Array Slot} {z : Int64} {rest : List Value}
    (hret : meth.sig.returnType = some .long) (hlocks : meth.locks = false) (hd : decode c.code pc = .ok (.lreturn, 1)) (hK : cells ≤ K) (hN : slots ≤ N)
    (hq : Q (some (.long z)) T.heap locs) : own_Rch p e below (own_Fin s K N Q) (T.setTop (mkF m pc Ls (.long z :: rest))) := by
  obtain ⟨fs, hr, hrun, hended, hW, hsame⟩ := X.leave (v := some (.long z)) (fun h => by rw [hret] at h; cases h) hlocks
  exact ⟨_, _, retOut X hx hret rfl (Or.inr (Or.inl ⟨rfl, rfl, z, rfl⟩)) hd hr, hrun, hended, _, _, rfl, hq, ⟨_, rfl⟩, hW, hsame.mono hK hN⟩
theorem own_retA {K N : Nat} {Q : Option Value → Heap → List Loc → Prop} (X : Stand p l e R s m args below meth c T locs cells slots) (hx : p.tables.exec = Jvm.exec) {pc : Nat} {Ls : Array Slot} {w : Value} {t : FieldType} {rest : List Value}
    (hret : meth.sig.returnType = some t) (hlocks : meth.locks = false) (ht : t.isReference = true) (hw : w.isRef = true) (hn : narrow t w = w) (hd : decode c.code pc = .ok (.areturn, 1)) (hK : cells ≤ K) (hN : slots ≤ N)
    (hq : Q (some w) T.heap locs) : own_Rch p e below (own_Fin s K N Q) (T.setTop (mkF m pc Ls (w :: rest))) := by
  obtain ⟨fs, hr, hrun, hended, hW, hsame⟩ := X.leave (v := some w) (fun h => by rw [hret] at h; cases h) hlocks
  exact ⟨_, _, retOut X hx hret hn (Or.inr (Or.inr (Or.inr (Or.inr ⟨rfl, ht, hw⟩)))) hd hr, hrun, hended, _, _, rfl, hq, ⟨_, rfl⟩, hW, hsame.mono hK hN⟩
theorem own_ret0 {K N : Nat} {Q : Option Value → Heap → List Loc → Prop} (X : Stand p l e R s m args below meth c T locs cells slots) (hx : p.tables.exec = Jvm.exec) {pc : Nat} {Ls : Array Slot}
    (hret : meth.sig.returnType = none) (hlocks : meth.locks = false) (hd : decode c.code pc = .ok (.return_, 1)) (hK : cells ≤ K) (hN : slots ≤ N)
    (hq : Q none T.heap locs) : own_Rch p e below (own_Fin s K N Q) (T.setTop (mkF m pc Ls [])) := by
  obtain ⟨fs, hr, hrun, hended, hW, hsame⟩ := X.leave (v := none) (fun _ => rfl) hlocks
  exact ⟨_, _, X.returnOut hx hret hd hr, hrun, hended, _, _, rfl, hq, ⟨_, rfl⟩, hW, hsame.mono hK hN⟩
theorem own_callS (X : Stand p l e R s m args below meth c T locs cells slots) (hx : p.tables.exec = Jvm.exec) (hZ : Z.Warmed39 s.vm) {own : String} {index : Nat} {y : MethodName} {bytes : ByteArray} {maxL : Nat} {ret : Option FieldType}
    (hown : s.vm.findClass own = some m.cls) (w1 : (Jvm.Cond.methodLink own index y).before a0 Z = true) (w2 : (Jvm.Cond.static y).before a0 Z = true) (w3 : (Jvm.Cond.initialized y.cls).before a0 Z = true) (w4 : (Jvm.Cond.code y bytes maxL ret).before a0 Z = true)
    (hy : y.cls ≠ "java/lang/invoke/MethodHandle" ∧ y.cls ≠ "java/lang/invoke/VarHandle") {rm : Room} {h : Heap} {as' : Array Value} {Q : Option Value → Heap → List Loc → Prop} (hM : own_Ctr l Z y bytes maxL ret [] rm h as' Q) (eT : T.heap = h)
    {W : Nat} (hf : rm.frames + 1 ≤ R.frames) (hl : W + (maxL + 11) + rm.locals ≤ R.locals) {g : JFrame} (hg : g.method = m) (hsize : g.locals.size = c.maxLocals) {argsL rest : List Value}
    (hlen : ∀ sig, parseMethodDescriptor y.desc = some sig → argsL.length = sig.parameters.length) (hstack : g.stack = argsL.reverse ++ rest) (has : argsL.toArray = as') (hW : 2 * g.monitorRoom + (rest.map fun v => v.category).sum = W)
    (hdg : decode c.code g.pc = .ok (.invokestatic index, 3)) (hc : cells + rm.cells ≤ R.cells) (hs : slots + rm.slots ≤ R.slots) :
    ∃ v T' L, Stand p l e R s m args below meth c T' (locs ++ L) (cells + rm.cells) (slots + rm.slots) ∧ Q v T'.heap L ∧
      ∀ t, Steps p.tables e below (T'.setTop { g with pc := g.pc + 3, stack := v.toList ++ rest }) t → Steps p.tables e below (T.setTop g) t := by
  obtain ⟨v, _, ⟨T', L', k', n'⟩, -, X', ⟨Lc, hQ, l', y', z'⟩, st⟩ := Jvm.LawKit.callS X hx hown (mvT hZ w1) (mvT hZ w2) (mvT hZ w3) (mvT hZ w4) hy (backOf (Q := Q) (W := W) hM hZ w4 w3 hf hl) hg hsize hlen hstack (Nat.le_of_eq hW) hdg (fun _ _ => ⟨has, eT, hc, hs⟩)
  dsimp only [Pt.U, Pt.locs, Pt.cells, Pt.slots] at X' l' y' z' st hQ
  subst l' y' z'
  exact ⟨v, T', Lc, X', hQ, st⟩
theorem own_callC (X : Stand p l e R s m args below meth c T locs cells slots) (hx : p.tables.exec = Jvm.exec) (hZ : Z.Warmed39 s.vm) {own : String} {index : Nat} {y : MethodName} {bytes : ByteArray} {maxL : Nat} (hy1 : y.name = "<init>")
    (hown : s.vm.findClass own = some m.cls) (w1 : (Jvm.Cond.methodLink own index y).before a0 Z = true) (w2 : (Jvm.Cond.instanceMethod y).before a0 Z = true) (w3 : (Jvm.Cond.initialized y.cls).before a0 Z = true) (w4 : (Jvm.Cond.code y bytes maxL none).before a0 Z = true)
    (hy : y.cls ≠ "java/lang/invoke/MethodHandle" ∧ y.cls ≠ "java/lang/invoke/VarHandle") {rm : Room} {h : Heap} {as' : Array Value} {Q : Option Value → Heap → List Loc → Prop} (hM : own_Ctr l Z y bytes maxL none [] rm h as' Q) (eT : T.heap = h)
    {W : Nat} (hf : rm.frames + 1 ≤ R.frames) (hl : W + (maxL + 11) + rm.locals ≤ R.locals) {g : JFrame} (hg : g.method = m) (hsize : g.locals.size = c.maxLocals) {a : Addr} {argsL rest : List Value}
    (hlen : ∀ sig, parseMethodDescriptor y.desc = some sig → argsL.length = sig.parameters.length) (hstack : g.stack = argsL.reverse ++ .ref a :: rest) (has : (.ref a :: argsL).toArray = as') (hW : 2 * g.monitorRoom + (rest.map fun v => v.category).sum = W)
    (hdg : decode c.code g.pc = .ok (.invokespecial index, 3)) (hc : cells + rm.cells ≤ R.cells) (hs : slots + rm.slots ≤ R.slots) :
    ∃ v T' L, Stand p l e R s m args below meth c T' (locs ++ L) (cells + rm.cells) (slots + rm.slots) ∧ Q v T'.heap L ∧
      ∀ t, Steps p.tables e below (T'.setTop { g with pc := g.pc + 3, stack := v.toList ++ rest }) t → Steps p.tables e below (T.setTop g) t := by
  obtain ⟨v, _, ⟨T', L', k', n'⟩, -, X', ⟨Lc, hQ, l', y', z'⟩, st⟩ := X.specialBack hx hy1 hown (mvT hZ w1) (mvT hZ w2) (mvT hZ w4) hy (backOf (Q := Q) (W := W) hM hZ w4 w3 hf hl) hg hsize (Steps.refl _) hlen hstack (Nat.le_of_eq hW) hdg (fun _ _ => ⟨has, eT, hc, hs⟩)
  dsimp only [Pt.U, Pt.locs, Pt.cells, Pt.slots] at X' l' y' z' st hQ
  subst l' y' z'
  exact ⟨v, T', Lc, X', hQ, fun t k => st.trans k⟩
theorem own_callV (X : Stand p l e R s m args below meth c T locs cells slots) (hx : p.tables.exec = Jvm.exec) (hZ : Z.Warmed39 s.vm) {own C : String} {index : Nat} {y z : MethodName} {bytes : ByteArray} {maxL : Nat} {ret : Option FieldType}
    (hown : s.vm.findClass own = some m.cls) (w1 : (Jvm.Cond.methodLink own index y).before a0 Z = true) (w2 : (Jvm.Cond.declares y).before a0 Z = true) (nf : NotFace s y) (w5 : (Jvm.Cond.selects C y z).before a0 Z = true) (w6 : (Jvm.Cond.instanceMethod z).before a0 Z = true)
    (w3 : (Jvm.Cond.initialized z.cls).before a0 Z = true) (w4 : (Jvm.Cond.code z bytes maxL ret).before a0 Z = true)
    (hy : y.cls ≠ "java/lang/invoke/MethodHandle" ∧ y.cls ≠ "java/lang/invoke/VarHandle") {rm : Room} {h : Heap} {as' : Array Value} {Q : Option Value → Heap → List Loc → Prop} (hM : own_Ctr l Z z bytes maxL ret [] rm h as' Q) (eT : T.heap = h)
    {b : Addr} (E : Exa Z h b C)
    {W : Nat} (hf : rm.frames + 1 ≤ R.frames) (hl : W + (maxL + 11) + rm.locals ≤ R.locals) {g : JFrame} (hg : g.method = m) (hsize : g.locals.size = c.maxLocals) {argsL rest : List Value}
    (hlen : ∀ sig, parseMethodDescriptor y.desc = some sig → argsL.length = sig.parameters.length) (hstack : g.stack = argsL.reverse ++ .ref b :: rest) (has : (.ref b :: argsL).toArray = as') (hW : 2 * g.monitorRoom + (rest.map fun v => v.category).sum = W)
    (hdg : decode c.code g.pc = .ok (.invokevirtual index, 3)) (hc : cells + rm.cells ≤ R.cells) (hs : slots + rm.slots ≤ R.slots) :
    ∃ v T' L, Stand p l e R s m args below meth c T' (locs ++ L) (cells + rm.cells) (slots + rm.slots) ∧ Q v T'.heap L ∧
      ∀ t, Steps p.tables e below (T'.setTop { g with pc := g.pc + 3, stack := v.toList ++ rest }) t → Steps p.tables e below (T.setTop g) t := by
  obtain ⟨cq, kq, qa, qb, qc⟩ := isOf hZ eT E
  obtain ⟨v, _, ⟨T', L', k', n'⟩, -, X', ⟨Lc, hQ, l', y', z'⟩, st⟩ := X.virtualBack hx hown (mvT hZ w1) (mvT hZ w2) nf (mvT hZ w5) (mvT hZ w6) hy (backOf (Q := Q) (W := W) hM hZ w4 w3 hf hl) qa qc hg hsize (Steps.refl _) hlen hstack (Nat.le_of_eq hW) hdg (fun _ _ => ⟨has, eT, hc, hs⟩)
  dsimp only [Pt.U, Pt.locs, Pt.cells, Pt.slots] at X' l' y' z' st hQ
  subst l' y' z'
  exact ⟨v, T', Lc, X', hQ, fun t k => st.trans k⟩
end OwnKit
theorem own_d3_0 : decode prog_8_method_1_code 0 = .ok (.aload_n 0, 1) := by decide +kernel
theorem own_d3_1 : decode prog_8_method_1_code 1 = .ok (.invokespecial 1, 3) := by decide +kernel
theorem own_d3_4 : decode prog_8_method_1_code 4 = .ok (.aload_n 0, 1) := by decide +kernel
theorem own_d3_5 : decode prog_8_method_1_code 5 = .ok (.aload_n 1, 1) := by decide +kernel
theorem own_d3_6 : decode prog_8_method_1_code 6 = .ok (.putfield 7, 3) := by decide +kernel
theorem own_d3_9 : decode prog_8_method_1_code 9 = .ok (.aload_n 0, 1) := by decide +kernel
theorem own_d3_10 : decode prog_8_method_1_code 10 = .ok (.aload_n 2, 1) := by decide +kernel
theorem own_d3_11 : decode prog_8_method_1_code 11 = .ok (.putfield 13, 3) := by decide +kernel
theorem own_d3_14 : decode prog_8_method_1_code 14 = .ok (.aload_n 0, 1) := by decide +kernel
theorem own_d3_15 : decode prog_8_method_1_code 15 = .ok (.aload_n 3, 1) := by decide +kernel
theorem own_d3_16 : decode prog_8_method_1_code 16 = .ok (.putfield 17, 3) := by decide +kernel
theorem own_d3_19 : decode prog_8_method_1_code 19 = .ok (.aload_n 0, 1) := by decide +kernel
theorem own_d3_20 : decode prog_8_method_1_code 20 = .ok (.iload 4, 2) := by decide +kernel
theorem own_d3_22 : decode prog_8_method_1_code 22 = .ok (.putfield 21, 3) := by decide +kernel
theorem own_d3_25 : decode prog_8_method_1_code 25 = .ok (.return_, 1) := by decide +kernel
theorem own_c3_ef (m : MethodId) (x0 : Addr) (x1 : Addr) (x2 : Value) (r2 : x2.isRef = true) (x4 : Int32) : entryFrame m #[(.ref x0), (.ref x1), x2, .null, (.int x4)] 5 = mkF m 0 #[.val (.ref x0), .val (.ref x1), .val x2, .val .null, .val (.int x4)] [] := by rcases ref_cases r2 with rfl | ⟨_, rfl⟩ <;> (first | (simp [entryFrame, mkF, argsToLocals, Value.category]; done) | rfl)
theorem own_pn0 : plainName "com/example/apply_once/applyonce/model/Outcome" = true := by first | (simp [plainName, overriddenIn]; done) | decide +kernel
set_option maxRecDepth 65536 in
set_option maxHeartbeats 40000000 in
theorem own_c3 (l : Launch) (Z : State) (a0 : Array Value) (hw : ∀ d ∈ tables_1, d.before a0 Z = true) (ws : List Jvm.Cond) (a1 a2 : Addr) (v3 : Value) (r3 : v3.isRef = true) (p5 : Int32) (h0 : Heap) (n0 : Nat) (Z0 : n0 ≤ h0.size) (F1 : Fld Z h0 a1 "com/example/apply_once/applyonce/model/Outcome" "status" "Lcom/example/apply_once/applyonce/model/Status;" .null) (F2 : Fld Z h0 a1 "com/example/apply_once/applyonce/model/Outcome" "value" "Ljava/lang/Object;" .null) (F3 : Fld Z h0 a1 "com/example/apply_once/applyonce/model/Outcome" "failure" "Ljava/lang/Exception;" .null) (F4 : Fld Z h0 a1 "com/example/apply_once/applyonce/model/Outcome" "attempt" "I" (.int 0)) (E : Exa Z h0 a1 "com/example/apply_once/applyonce/model/Outcome") (g : n0 ≤ a1) :
    own_Ctr l Z (⟨"com/example/apply_once/applyonce/model/Outcome", "<init>", "(Lcom/example/apply_once/applyonce/model/Status;Ljava/lang/Object;Ljava/lang/Exception;I)V"⟩ : MethodName) prog_8_method_1_code 5 none ws ({ frames := 1, cells := 0, slots := 0, locals := 12 } : Room) h0 #[(.ref a1), (.ref a2), v3, .null, (.int p5)] (fun v h L => v = none ∧ Fr n0 L ∧ Keep h0 h [a1] ∧ Exa Z h a1 "com/example/apply_once/applyonce/model/Outcome" ∧ Fld Z h a1 "com/example/apply_once/applyonce/model/Outcome" "status" "Lcom/example/apply_once/applyonce/model/Status;" (.ref a2) ∧ Fld Z h a1 "com/example/apply_once/applyonce/model/Outcome" "value" "Ljava/lang/Object;" v3 ∧ Fld Z h a1 "com/example/apply_once/applyonce/model/Outcome" "failure" "Ljava/lang/Exception;" .null ∧ Fld Z h a1 "com/example/apply_once/applyonce/model/Outcome" "attempt" "I" (.int p5)) := by
  refine own_ctr (plainFor_of_name own_pn0) ?_
  intro p e s m below meth c s₁ Bd hml0 hx hby hZ hown0 X0 e0
  have hml : c.maxLocals = 5 := hml0
  have hown : s.vm.findClass "com/example/apply_once/applyonce/model/Outcome" = some m.cls := hown0
  have hnm := (name_of_methodNamed Bd.named Bd.method).1
  have N0 := Fr.nil n0
  refine own_cast (own_c3_ef m a1 a2 v3 r3 p5) ?_
  refine own_go (S' := (s₁.setTop (mkF m 1 #[.val (.ref a1), .val (.ref a2), .val v3, .val .null, .val (.int p5)] [(.ref a1)]))) (fun t_ k_ => ?_) ?_
  · refine XS.aloadN X0.here hx rfl (hb hby own_d3_0) rfl rfl ?_
    show Steps p.tables e below (s₁.setTop (mkF m 1 #[.val (.ref a1), .val (.ref a2), .val v3, .val .null, .val (.int p5)] [(.ref a1)])) _
    exact k_
  obtain ⟨T1, X1, e1, st1⟩ := initO X0 hx hZ hown (hw _ (List.mem_of_getElem? (i := 19) rfl)) (hw _ (List.mem_of_getElem? (i := 20) rfl)) (hw _ (List.mem_of_getElem? (i := 21) rfl)) e0 (g := (mkF m 1 #[.val (.ref a1), .val (.ref a2), .val v3, .val .null, .val (.int p5)] [(.ref a1)])) rfl (by rw [hml]; rfl) rfl (hb hby own_d3_1) (by decide) (W := 0) (by show 2 * 0 + _ ≤ _; exact Nat.le_of_eq rfl) (by decide)
  refine own_go st1 ?_
  show own_Rch p e below _ (T1.setTop (mkF m 4 #[.val (.ref a1), .val (.ref a2), .val v3, .val .null, .val (.int p5)] []))
  refine own_go (S' := (T1.setTop (mkF m 6 #[.val (.ref a1), .val (.ref a2), .val v3, .val .null, .val (.int p5)] [(.ref a2), (.ref a1)]))) (fun t_ k_ => ?_) ?_
  · refine XS.aloadN X1.here hx rfl (hb hby own_d3_4) rfl rfl ?_
    show Steps p.tables e below (T1.setTop (mkF m 5 #[.val (.ref a1), .val (.ref a2), .val v3, .val .null, .val (.int p5)] [(.ref a1)])) _
    refine XS.aloadN X1.here hx rfl (hb hby own_d3_5) rfl rfl ?_
    show Steps p.tables e below (T1.setTop (mkF m 6 #[.val (.ref a1), .val (.ref a2), .val v3, .val .null, .val (.int p5)] [(.ref a2), (.ref a1)])) _
    exact k_
  have K0 := Keep.refl h0 [a1]
  obtain ⟨T2, h2, X2, e2, W2, st2⟩ := putF X1 hx hZ hown (host := "") (Or.inl (hw _ (List.mem_of_getElem? (i := 22) rfl))) Via.refl e1 F1 E (Or.inr ⟨(hw _ (List.mem_of_getElem? (i := 23) rfl)), rfl, hnm⟩) (hw _ (List.mem_of_getElem? (i := 13) rfl)) (ty := (.object "com/example/apply_once/applyonce/model/Status")) (by decide) rfl rfl (g := (mkF m 6 #[.val (.ref a1), .val (.ref a2), .val v3, .val .null, .val (.int p5)] [(.ref a2), (.ref a1)])) rfl rfl (hb hby own_d3_6)
  refine own_go st2 ?_
  have N2 := Fr.snoc X2 N0 g
  show own_Rch p e below _ (T2.setTop (mkF m 9 #[.val (.ref a1), .val (.ref a2), .val v3, .val .null, .val (.int p5)] []))
  have K1 := K0.wr W2 (Or.inl (List.mem_of_getElem? (i := 0) rfl))
  have Ea1 := E.wr W2
  have G1_1 := F1.same W2
  have G1_2 := F2.other W2 (Or.inr (slot_ne (Or.inr (hw _ (List.mem_of_getElem? (i := 25) rfl))) (Or.inr (hw _ (List.mem_of_getElem? (i := 23) rfl))) (by decide) (t := (.object "java/lang/Object")) (t' := (.object "com/example/apply_once/applyonce/model/Status")) (by decide) (by decide)))
  have G1_3 := F3.other W2 (Or.inr (slot_ne (Or.inr (hw _ (List.mem_of_getElem? (i := 27) rfl))) (Or.inr (hw _ (List.mem_of_getElem? (i := 23) rfl))) (by decide) (t := (.object "java/lang/Exception")) (t' := (.object "com/example/apply_once/applyonce/model/Status")) (by decide) (by decide)))
  have G1_4 := F4.other W2 (Or.inr (slot_ne (Or.inr (hw _ (List.mem_of_getElem? (i := 29) rfl))) (Or.inr (hw _ (List.mem_of_getElem? (i := 23) rfl))) (by decide) (t := .int) (t' := (.object "com/example/apply_once/applyonce/model/Status")) (by decide) (by decide)))
  refine own_go (S' := (T2.setTop (mkF m 11 #[.val (.ref a1), .val (.ref a2), .val v3, .val .null, .val (.int p5)] [v3, (.ref a1)]))) (fun t_ k_ => ?_) ?_
  · refine XS.aloadN X2.here hx rfl (hb hby own_d3_9) rfl rfl ?_
    show Steps p.tables e below (T2.setTop (mkF m 10 #[.val (.ref a1), .val (.ref a2), .val v3, .val .null, .val (.int p5)] [(.ref a1)])) _
    refine XS.aloadN X2.here hx rfl (hb hby own_d3_10) rfl r3 ?_
    show Steps p.tables e below (T2.setTop (mkF m 11 #[.val (.ref a1), .val (.ref a2), .val v3, .val .null, .val (.int p5)] [v3, (.ref a1)])) _
    exact k_
  obtain ⟨T3, h3, X3, e3, W3, st3⟩ := putF X2 hx hZ hown (host := "") (Or.inl (hw _ (List.mem_of_getElem? (i := 24) rfl))) Via.refl e2 G1_2 Ea1 (Or.inr ⟨(hw _ (List.mem_of_getElem? (i := 25) rfl)), rfl, hnm⟩) (hw _ (List.mem_of_getElem? (i := 13) rfl)) (ty := (.object "java/lang/Object")) (by decide) (own_narR r3) (own_fitR r3) (g := (mkF m 11 #[.val (.ref a1), .val (.ref a2), .val v3, .val .null, .val (.int p5)] [v3, (.ref a1)])) rfl rfl (hb hby own_d3_11)
  refine own_go st3 ?_
  have N3 := Fr.snoc X3 N2 g
  show own_Rch p e below _ (T3.setTop (mkF m 14 #[.val (.ref a1), .val (.ref a2), .val v3, .val .null, .val (.int p5)] []))
  have K2 := K1.wr W3 (Or.inl (List.mem_of_getElem? (i := 0) rfl))
  have Ea2 := Ea1.wr W3
  have G2_1 := G1_1.other W3 (Or.inr (slot_ne (Or.inr (hw _ (List.mem_of_getElem? (i := 23) rfl))) (Or.inr (hw _ (List.mem_of_getElem? (i := 25) rfl))) (by decide) (t := (.object "com/example/apply_once/applyonce/model/Status")) (t' := (.object "java/lang/Object")) (by decide) (by decide)))
  have G2_2 := G1_2.same W3
  have G2_3 := G1_3.other W3 (Or.inr (slot_ne (Or.inr (hw _ (List.mem_of_getElem? (i := 27) rfl))) (Or.inr (hw _ (List.mem_of_getElem? (i := 25) rfl))) (by decide) (t := (.object "java/lang/Exception")) (t' := (.object "java/lang/Object")) (by decide) (by decide)))
  have G2_4 := G1_4.other W3 (Or.inr (slot_ne (Or.inr (hw _ (List.mem_of_getElem? (i := 29) rfl))) (Or.inr (hw _ (List.mem_of_getElem? (i := 25) rfl))) (by decide) (t := .int) (t' := (.object "java/lang/Object")) (by decide) (by decide)))
  refine own_go (S' := (T3.setTop (mkF m 16 #[.val (.ref a1), .val (.ref a2), .val v3, .val .null, .val (.int p5)] [.null, (.ref a1)]))) (fun t_ k_ => ?_) ?_
  · refine XS.aloadN X3.here hx rfl (hb hby own_d3_14) rfl rfl ?_
    show Steps p.tables e below (T3.setTop (mkF m 15 #[.val (.ref a1), .val (.ref a2), .val v3, .val .null, .val (.int p5)] [(.ref a1)])) _
    refine XS.aloadN X3.here hx rfl (hb hby own_d3_15) rfl rfl ?_
    show Steps p.tables e below (T3.setTop (mkF m 16 #[.val (.ref a1), .val (.ref a2), .val v3, .val .null, .val (.int p5)] [.null, (.ref a1)])) _
    exact k_
  obtain ⟨T4, h4, X4, e4, W4, st4⟩ := putF X3 hx hZ hown (host := "") (Or.inl (hw _ (List.mem_of_getElem? (i := 26) rfl))) Via.refl e3 G2_3 Ea2 (Or.inr ⟨(hw _ (List.mem_of_getElem? (i := 27) rfl)), rfl, hnm⟩) (hw _ (List.mem_of_getElem? (i := 13) rfl)) (ty := (.object "java/lang/Exception")) (by decide) rfl rfl (g := (mkF m 16 #[.val (.ref a1), .val (.ref a2), .val v3, .val .null, .val (.int p5)] [.null, (.ref a1)])) rfl rfl (hb hby own_d3_16)
  refine own_go st4 ?_
  have N4 := Fr.snoc X4 N3 g
  show own_Rch p e below _ (T4.setTop (mkF m 19 #[.val (.ref a1), .val (.ref a2), .val v3, .val .null, .val (.int p5)] []))
  have K3 := K2.wr W4 (Or.inl (List.mem_of_getElem? (i := 0) rfl))
  have Ea3 := Ea2.wr W4
  have G3_1 := G2_1.other W4 (Or.inr (slot_ne (Or.inr (hw _ (List.mem_of_getElem? (i := 23) rfl))) (Or.inr (hw _ (List.mem_of_getElem? (i := 27) rfl))) (by decide) (t := (.object "com/example/apply_once/applyonce/model/Status")) (t' := (.object "java/lang/Exception")) (by decide) (by decide)))
  have G3_2 := G2_2.other W4 (Or.inr (slot_ne (Or.inr (hw _ (List.mem_of_getElem? (i := 25) rfl))) (Or.inr (hw _ (List.mem_of_getElem? (i := 27) rfl))) (by decide) (t := (.object "java/lang/Object")) (t' := (.object "java/lang/Exception")) (by decide) (by decide)))
  have G3_3 := G2_3.same W4
  have G3_4 := G2_4.other W4 (Or.inr (slot_ne (Or.inr (hw _ (List.mem_of_getElem? (i := 29) rfl))) (Or.inr (hw _ (List.mem_of_getElem? (i := 27) rfl))) (by decide) (t := .int) (t' := (.object "java/lang/Exception")) (by decide) (by decide)))
  refine own_go (S' := (T4.setTop (mkF m 22 #[.val (.ref a1), .val (.ref a2), .val v3, .val .null, .val (.int p5)] [(.int p5), (.ref a1)]))) (fun t_ k_ => ?_) ?_
  · refine XS.aloadN X4.here hx rfl (hb hby own_d3_19) rfl rfl ?_
    show Steps p.tables e below (T4.setTop (mkF m 20 #[.val (.ref a1), .val (.ref a2), .val v3, .val .null, .val (.int p5)] [(.ref a1)])) _
    refine XS.iload X4.here hx rfl (hb hby own_d3_20) rfl ?_
    show Steps p.tables e below (T4.setTop (mkF m 22 #[.val (.ref a1), .val (.ref a2), .val v3, .val .null, .val (.int p5)] [(.int p5), (.ref a1)])) _
    exact k_
  obtain ⟨T5, h5, X5, e5, W5, st5⟩ := putF X4 hx hZ hown (host := "") (Or.inl (hw _ (List.mem_of_getElem? (i := 28) rfl))) Via.refl e4 G3_4 Ea3 (Or.inr ⟨(hw _ (List.mem_of_getElem? (i := 29) rfl)), rfl, hnm⟩) (hw _ (List.mem_of_getElem? (i := 13) rfl)) (ty := .int) (by decide) rfl rfl (g := (mkF m 22 #[.val (.ref a1), .val (.ref a2), .val v3, .val .null, .val (.int p5)] [(.int p5), (.ref a1)])) rfl rfl (hb hby own_d3_22)
  refine own_go st5 ?_
  have N5 := Fr.snoc X5 N4 g
  show own_Rch p e below _ (T5.setTop (mkF m 25 #[.val (.ref a1), .val (.ref a2), .val v3, .val .null, .val (.int p5)] []))
  have K4 := K3.wr W5 (Or.inl (List.mem_of_getElem? (i := 0) rfl))
  have Ea4 := Ea3.wr W5
  have G4_1 := G3_1.other W5 (Or.inr (slot_ne (Or.inr (hw _ (List.mem_of_getElem? (i := 23) rfl))) (Or.inr (hw _ (List.mem_of_getElem? (i := 29) rfl))) (by decide) (t := (.object "com/example/apply_once/applyonce/model/Status")) (t' := .int) (by decide) (by decide)))
  have G4_2 := G3_2.other W5 (Or.inr (slot_ne (Or.inr (hw _ (List.mem_of_getElem? (i := 25) rfl))) (Or.inr (hw _ (List.mem_of_getElem? (i := 29) rfl))) (by decide) (t := (.object "java/lang/Object")) (t' := .int) (by decide) (by decide)))
  have G4_3 := G3_3.other W5 (Or.inr (slot_ne (Or.inr (hw _ (List.mem_of_getElem? (i := 27) rfl))) (Or.inr (hw _ (List.mem_of_getElem? (i := 29) rfl))) (by decide) (t := (.object "java/lang/Exception")) (t' := .int) (by decide) (by decide)))
  have G4_4 := G3_4.same W5
  refine own_ret0 X5 hx Bd.returns Bd.notSynchronized (hb hby own_d3_25) (by decide) (by decide) ?_
  try rw [e5]
  exact ⟨rfl, N5, K4, Ea4, G4_1, G4_2, G4_3, G4_4⟩
theorem own_pd0 : parseMethodDescriptor "(Lcom/example/apply_once/applyonce/model/Status;Ljava/lang/Object;Ljava/lang/Exception;I)V" = some ⟨[(.object "com/example/apply_once/applyonce/model/Status"), (.object "java/lang/Object"), (.object "java/lang/Exception"), .int], none⟩ := by decide +kernel
theorem own_d2_0 : decode prog_8_method_4_code 0 = .ok (.new 8, 3) := by decide +kernel
theorem own_d2_3 : decode prog_8_method_4_code 3 = .ok (.dup, 1) := by decide +kernel
theorem own_d2_4 : decode prog_8_method_4_code 4 = .ok (.getstatic 36, 3) := by decide +kernel
theorem own_d2_7 : decode prog_8_method_4_code 7 = .ok (.aconst_null, 1) := by decide +kernel
theorem own_d2_8 : decode prog_8_method_4_code 8 = .ok (.aconst_null, 1) := by decide +kernel
theorem own_d2_9 : decode prog_8_method_4_code 9 = .ok (.iconst 0, 1) := by decide +kernel
theorem own_d2_10 : decode prog_8_method_4_code 10 = .ok (.invokespecial 30, 3) := by decide +kernel
theorem own_d2_13 : decode prog_8_method_4_code 13 = .ok (.areturn, 1) := by decide +kernel
theorem own_c2_ef (m : MethodId)  : entryFrame m #[] 0 = mkF m 0 #[] [] := by first | (simp [entryFrame, mkF, argsToLocals, Value.category]; done) | rfl
set_option maxRecDepth 65536 in
set_option maxHeartbeats 40000000 in
theorem own_c2 (l : Launch) (Z : State) (a0 : Array Value) (hw : ∀ d ∈ tables_1, d.before a0 Z = true) (ws : List Jvm.Cond)  (st : Addr) (h0 : Heap) (n0 : Nat) (Z0 : n0 ≤ h0.size) (S_st : Sta Z h0 "com/example/apply_once/applyonce/model/Status" "IN_PROGRESS" "Lcom/example/apply_once/applyonce/model/Status;" (.ref st)) :
    own_Ctr l Z (⟨"com/example/apply_once/applyonce/model/Outcome", "inProgress", "()Lcom/example/apply_once/applyonce/model/Outcome;"⟩ : MethodName) prog_8_method_4_code 0 (some (.object "com/example/apply_once/applyonce/model/Outcome")) ws ({ frames := 2, cells := 1, slots := 4, locals := 34 } : Room) h0 #[] (fun v h L => ∃ b, v = some (.ref b) ∧ Fr n0 L ∧ Keep h0 h [] ∧ h0.size ≤ b ∧ n0 ≤ b ∧ Exa Z h b "com/example/apply_once/applyonce/model/Outcome" ∧ Fld Z h b "com/example/apply_once/applyonce/model/Outcome" "status" "Lcom/example/apply_once/applyonce/model/Status;" (.ref st) ∧ Fld Z h b "com/example/apply_once/applyonce/model/Outcome" "value" "Ljava/lang/Object;" .null ∧ Fld Z h b "com/example/apply_once/applyonce/model/Outcome" "failure" "Ljava/lang/Exception;" .null ∧ Fld Z h b "com/example/apply_once/applyonce/model/Outcome" "attempt" "I" (.int 0)) := by
  refine own_ctr (plainFor_of_name own_pn0) ?_
  intro p e s m below meth c s₁ Bd hml0 hx hby hZ hown0 X0 e0
  have hml : c.maxLocals = 0 := hml0
  have hown : s.vm.findClass "com/example/apply_once/applyonce/model/Outcome" = some m.cls := hown0
  have hnm := (name_of_methodNamed Bd.named Bd.method).1
  have N0 := Fr.nil n0
  refine own_cast (own_c2_ef m ) ?_
  obtain ⟨T1, h1, X1, e1, E1, A1, D1, -, st1⟩ := newO X0 hx hZ hown (hw _ (List.mem_of_getElem? (i := 12) rfl)) (hw _ (List.mem_of_getElem? (i := 13) rfl)) (hw _ (List.mem_of_getElem? (i := 10) rfl)) e0 (g := (mkF m 0 #[] [])) rfl (hb hby own_d2_0) (by decide) (by decide)
  obtain ⟨b1, g1⟩ : ∃ z, z = h0.size := ⟨_, rfl⟩
  rw [← g1] at A1 D1 st1
  have gb1 : n0 ≤ b1 := Nat.le_trans Z0 (Nat.le_of_eq g1.symm)
  refine own_go st1 ?_
  show own_Rch p e below _ (T1.setTop (mkF m 3 #[] [(.ref b1)]))
  refine own_go (S' := (T1.setTop (mkF m 4 #[] [(.ref b1), (.ref b1)]))) (fun t_ k_ => ?_) ?_
  · refine XS.dup X1.here hx rfl (hb hby own_d2_3) rfl rfl ?_
    show Steps p.tables e below (T1.setTop (mkF m 4 #[] [(.ref b1), (.ref b1)])) _
    exact k_
  obtain ⟨T2, X2, e2, st2⟩ := getS2 X1 hx hZ hown (host := "") (Or.inl (hw _ (List.mem_of_getElem? (i := 14) rfl))) Via.refl e1 (S_st.ext E1) (g := (mkF m 4 #[] [(.ref b1), (.ref b1)])) rfl (hb hby own_d2_4)
  refine own_go st2 ?_
  show own_Rch p e below _ (T2.setTop (mkF m 7 #[] [(.ref st), (.ref b1), (.ref b1)]))
  refine own_go (S' := (T2.setTop (mkF m 10 #[] [(.int (0 : Int32)), .null, .null, (.ref st), (.ref b1), (.ref b1)]))) (fun t_ k_ => ?_) ?_
  · refine XS.aconstNull X2.here hx rfl (hb hby own_d2_7) ?_
    show Steps p.tables e below (T2.setTop (mkF m 8 #[] [.null, (.ref st), (.ref b1), (.ref b1)])) _
    refine XS.aconstNull X2.here hx rfl (hb hby own_d2_8) ?_
    show Steps p.tables e below (T2.setTop (mkF m 9 #[] [.null, .null, (.ref st), (.ref b1), (.ref b1)])) _
    refine XS.iconst X2.here hx rfl (hb hby own_d2_9) ?_
    show Steps p.tables e below (T2.setTop (mkF m 10 #[] [(.int (0 : Int32)), .null, .null, (.ref st), (.ref b1), (.ref b1)])) _
    exact k_
  have F_status : Fld Z h1 b1 "com/example/apply_once/applyonce/model/Outcome" "status" "Lcom/example/apply_once/applyonce/model/Status;" .null := D1 (Or.inr (hw _ (List.mem_of_getElem? (i := 23) rfl))) (ty := (.object "com/example/apply_once/applyonce/model/Status")) (by decide)
  have F_value : Fld Z h1 b1 "com/example/apply_once/applyonce/model/Outcome" "value" "Ljava/lang/Object;" .null := D1 (Or.inr (hw _ (List.mem_of_getElem? (i := 25) rfl))) (ty := (.object "java/lang/Object")) (by decide)
  have F_failure : Fld Z h1 b1 "com/example/apply_once/applyonce/model/Outcome" "failure" "Ljava/lang/Exception;" .null := D1 (Or.inr (hw _ (List.mem_of_getElem? (i := 27) rfl))) (ty := (.object "java/lang/Exception")) (by decide)
  have F_attempt : Fld Z h1 b1 "com/example/apply_once/applyonce/model/Outcome" "attempt" "I" (.int 0) := D1 (Or.inr (hw _ (List.mem_of_getElem? (i := 29) rfl))) (ty := .int) (by decide)
  have Z1 : n0 ≤ h1.size := Nat.le_trans Z0 E1.1
  obtain ⟨_, T3, L3, X3, ⟨rfl, N3q, K3, E3, Fa3, Fb3, Fc3, Fd3⟩, st3⟩ := own_callC X2 hx hZ (y := (⟨"com/example/apply_once/applyonce/model/Outcome", "<init>", "(Lcom/example/apply_once/applyonce/model/Status;Ljava/lang/Object;Ljava/lang/Exception;I)V"⟩ : MethodName)) rfl hown (hw _ (List.mem_of_getElem? (i := 16) rfl)) (hw _ (List.mem_of_getElem? (i := 17) rfl)) (hw _ (List.mem_of_getElem? (i := 10) rfl)) (hw _ (List.mem_of_getElem? (i := 18) rfl)) (by decide) (own_c3 l Z a0 hw [] b1 st .null rfl 0 h1 n0 Z1 F_status F_value F_failure F_attempt A1 gb1) e2 (a := b1) (W := 1) (by decide) (by decide) (g := (mkF m 10 #[] [(.int (0 : Int32)), .null, .null, (.ref st), (.ref b1), (.ref b1)])) rfl (by rw [hml]; rfl) (argsL := [(.ref st), .null, .null, (.int (0 : Int32))]) (rest := [(.ref b1)]) (lenOf own_pd0 rfl) rfl rfl rfl (hb hby own_d2_10) (by decide) (by decide)
  have N3 := Fr.app N0 N3q
  refine own_go st3 ?_
  show own_Rch p e below _ (T3.setTop (mkF m 13 #[] [(.ref b1)]))
  have KK : Keep h0 T3.heap [] := ((Keep.refl h0 []).ext E1).trans K3 (fun x hx => Or.inr (by cases List.mem_singleton.mp hx; exact Nat.le_of_eq g1.symm))
  refine own_retA X3 hx Bd.returns Bd.notSynchronized rfl rfl rfl (hb hby own_d2_13) (by decide) (by decide) ?_
  exact ⟨b1, rfl, N3, KK, Nat.le_of_eq g1.symm, gb1, E3, Fa3, Fb3, Fc3, Fd3⟩
theorem own_d5_0 : decode prog_8_method_9_code 0 = .ok (.aload_n 0, 1) := by decide +kernel
theorem own_d5_1 : decode prog_8_method_9_code 1 = .ok (.getfield 7, 3) := by decide +kernel
theorem own_d5_4 : decode prog_8_method_9_code 4 = .ok (.areturn, 1) := by decide +kernel
theorem own_c5_ef (m : MethodId) (x0 : Addr) : entryFrame m #[(.ref x0)] 1 = mkF m 0 #[.val (.ref x0)] [] := by first | (simp [entryFrame, mkF, argsToLocals, Value.category]; done) | rfl
set_option maxRecDepth 65536 in
set_option maxHeartbeats 40000000 in
theorem own_c5 (l : Launch) (Z : State) (a0 : Array Value) (hw : ∀ d ∈ tables_1, d.before a0 Z = true) (ws : List Jvm.Cond) (a1 : Addr) (a2 : Addr) (h0 : Heap) (n0 : Nat) (Z0 : n0 ≤ h0.size) (F1 : Fld Z h0 a1 "com/example/apply_once/applyonce/model/Outcome" "status" "Lcom/example/apply_once/applyonce/model/Status;" (.ref a2)) :
    own_Ctr l Z (⟨"com/example/apply_once/applyonce/model/Outcome", "status", "()Lcom/example/apply_once/applyonce/model/Status;"⟩ : MethodName) prog_8_method_9_code 1 (some (.object "com/example/apply_once/applyonce/model/Status")) ws ({ frames := 0, cells := 0, slots := 0, locals := 0 } : Room) h0 #[(.ref a1)] (fun v h L => v = some (.ref a2) ∧ Fr n0 L ∧ h = h0) := by
  refine own_ctr (plainFor_of_name own_pn0) ?_
  intro p e s m below meth c s₁ Bd hml0 hx hby hZ hown0 X0 e0
  have hml : c.maxLocals = 1 := hml0
  have hown : s.vm.findClass "com/example/apply_once/applyonce/model/Outcome" = some m.cls := hown0
  have hnm := (name_of_methodNamed Bd.named Bd.method).1
  have N0 := Fr.nil n0
  refine own_cast (own_c5_ef m a1) ?_
  refine own_go (S' := (s₁.setTop (mkF m 1 #[.val (.ref a1)] [(.ref a1)]))) (fun t_ k_ => ?_) ?_
  · refine XS.aloadN X0.here hx rfl (hb hby own_d5_0) rfl rfl ?_
    show Steps p.tables e below (s₁.setTop (mkF m 1 #[.val (.ref a1)] [(.ref a1)])) _
    exact k_
  obtain ⟨T1, X1, e1, st1⟩ := getF X0 hx hZ hown (host := "") (Or.inl (hw _ (List.mem_of_getElem? (i := 22) rfl))) Via.refl e0 F1 (g := (mkF m 1 #[.val (.ref a1)] [(.ref a1)])) rfl rfl (hb hby own_d5_1)
  refine own_go st1 ?_
  show own_Rch p e below _ (T1.setTop (mkF m 4 #[.val (.ref a1)] [(.ref a2)]))
  refine own_retA X1 hx Bd.returns Bd.notSynchronized rfl rfl rfl (hb hby own_d5_4) (by decide) (by decide) ?_
  try rw [e1]
  exact ⟨rfl, N0, rfl⟩
def own_pick (k : Int32) (s0 s1 s2 s3 s4 s5 s6 : Addr) : Addr := if k = (0 : Int32) then s0 else if k = (1 : Int32) then s1 else if k = (2 : Int32) then s2 else if k = (3 : Int32) then s3 else if k = (4 : Int32) then s4 else if k = (5 : Int32) then s5 else s6
theorem own_pick2 (k : Int32) (s0 s1 s2 s3 s4 s5 s6 : Addr) (h : k = (2 : Int32)) : own_pick k s0 s1 s2 s3 s4 s5 s6 = s2 := by subst h; rfl
theorem own_pickN (k : Int32) (s0 s1 s2 s3 s4 s5 s6 : Addr) (h : ¬ k = (2 : Int32)) (h0 : s0 ≠ s2) (h1 : s1 ≠ s2) (h3 : s3 ≠ s2) (h4 : s4 ≠ s2) (h5 : s5 ≠ s2) (h6 : s6 ≠ s2) : own_pick k s0 s1 s2 s3 s4 s5 s6 ≠ s2 := by
  unfold own_pick
  by_cases q0 : k = (0 : Int32)
  · rw [if_pos q0]; exact h0
  rw [if_neg q0]
  by_cases q1 : k = (1 : Int32)
  · rw [if_pos q1]; exact h1
  rw [if_neg q1, if_neg h]
  by_cases q3 : k = (3 : Int32)
  · rw [if_pos q3]; exact h3
  rw [if_neg q3]
  by_cases q4 : k = (4 : Int32)
  · rw [if_pos q4]; exact h4
  rw [if_neg q4]
  by_cases q5 : k = (5 : Int32)
  · rw [if_pos q5]; exact h5
  rw [if_neg q5]; exact h6
theorem own_d1_0 : decode method_2_code 0 = .ok (.iload_n 0, 1) := by decide +kernel
theorem own_d1_1 : decode method_2_code 1 = .ok (.ifCond .ne 7, 3) := by decide +kernel
theorem own_d1_4 : decode method_2_code 4 = .ok (.getstatic 7, 3) := by decide +kernel
theorem own_d1_7 : decode method_2_code 7 = .ok (.areturn, 1) := by decide +kernel
theorem own_d1_8 : decode method_2_code 8 = .ok (.iload_n 0, 1) := by decide +kernel
theorem own_d1_9 : decode method_2_code 9 = .ok (.iconst 1, 1) := by decide +kernel
theorem own_d1_10 : decode method_2_code 10 = .ok (.if_icmp .ne 7, 3) := by decide +kernel
theorem own_d1_13 : decode method_2_code 13 = .ok (.getstatic 13, 3) := by decide +kernel
theorem own_d1_16 : decode method_2_code 16 = .ok (.areturn, 1) := by decide +kernel
theorem own_d1_17 : decode method_2_code 17 = .ok (.iload_n 0, 1) := by decide +kernel
theorem own_d1_18 : decode method_2_code 18 = .ok (.iconst 2, 1) := by decide +kernel
theorem own_d1_19 : decode method_2_code 19 = .ok (.if_icmp .ne 7, 3) := by decide +kernel
theorem own_d1_22 : decode method_2_code 22 = .ok (.getstatic 16, 3) := by decide +kernel
theorem own_d1_25 : decode method_2_code 25 = .ok (.areturn, 1) := by decide +kernel
theorem own_d1_26 : decode method_2_code 26 = .ok (.iload_n 0, 1) := by decide +kernel
theorem own_d1_27 : decode method_2_code 27 = .ok (.iconst 3, 1) := by decide +kernel
theorem own_d1_28 : decode method_2_code 28 = .ok (.if_icmp .ne 7, 3) := by decide +kernel
theorem own_d1_31 : decode method_2_code 31 = .ok (.getstatic 19, 3) := by decide +kernel
theorem own_d1_34 : decode method_2_code 34 = .ok (.areturn, 1) := by decide +kernel
theorem own_d1_35 : decode method_2_code 35 = .ok (.iload_n 0, 1) := by decide +kernel
theorem own_d1_36 : decode method_2_code 36 = .ok (.iconst 4, 1) := by decide +kernel
theorem own_d1_37 : decode method_2_code 37 = .ok (.if_icmp .ne 7, 3) := by decide +kernel
theorem own_d1_40 : decode method_2_code 40 = .ok (.getstatic 22, 3) := by decide +kernel
theorem own_d1_43 : decode method_2_code 43 = .ok (.areturn, 1) := by decide +kernel
theorem own_d1_44 : decode method_2_code 44 = .ok (.iload_n 0, 1) := by decide +kernel
theorem own_d1_45 : decode method_2_code 45 = .ok (.iconst 5, 1) := by decide +kernel
theorem own_d1_46 : decode method_2_code 46 = .ok (.if_icmp .ne 7, 3) := by decide +kernel
theorem own_d1_49 : decode method_2_code 49 = .ok (.getstatic 25, 3) := by decide +kernel
theorem own_d1_52 : decode method_2_code 52 = .ok (.areturn, 1) := by decide +kernel
theorem own_d1_53 : decode method_2_code 53 = .ok (.getstatic 28, 3) := by decide +kernel
theorem own_d1_56 : decode method_2_code 56 = .ok (.areturn, 1) := by decide +kernel
theorem own_c1_ef (m : MethodId) (x0 : Int32) : entryFrame m #[(.int x0)] 1 = mkF m 0 #[.val (.int x0)] [] := by first | (simp [entryFrame, mkF, argsToLocals, Value.category]; done) | rfl
theorem own_pn1 : plainName "com/example/apply_once/applyonce/model/OutcomeInProgressPinLaw" = true := by first | (simp [plainName, overriddenIn]; done) | decide +kernel
set_option maxRecDepth 65536 in
set_option maxHeartbeats 40000000 in
theorem own_c1 (l : Launch) (Z : State) (a0 : Array Value) (hw : ∀ d ∈ tables_1, d.before a0 Z = true) (ws : List Jvm.Cond) (p1 : Int32) (s0 s1 s2 s3 s4 s5 s6 : Addr) (h0 : Heap) (n0 : Nat) (Z0 : n0 ≤ h0.size) (S0 : Sta Z h0 "com/example/apply_once/applyonce/model/Status" "EXECUTED" "Lcom/example/apply_once/applyonce/model/Status;" (.ref s0)) (S1 : Sta Z h0 "com/example/apply_once/applyonce/model/Status" "REPLAYED" "Lcom/example/apply_once/applyonce/model/Status;" (.ref s1)) (S2 : Sta Z h0 "com/example/apply_once/applyonce/model/Status" "IN_PROGRESS" "Lcom/example/apply_once/applyonce/model/Status;" (.ref s2)) (S3 : Sta Z h0 "com/example/apply_once/applyonce/model/Status" "KEY_REUSED" "Lcom/example/apply_once/applyonce/model/Status;" (.ref s3)) (S4 : Sta Z h0 "com/example/apply_once/applyonce/model/Status" "FAILED" "Lcom/example/apply_once/applyonce/model/Status;" (.ref s4)) (S5 : Sta Z h0 "com/example/apply_once/applyonce/model/Status" "ATTEMPTS_EXHAUSTED" "Lcom/example/apply_once/applyonce/model/Status;" (.ref s5)) (S6 : Sta Z h0 "com/example/apply_once/applyonce/model/Status" "SUPERSEDED" "Lcom/example/apply_once/applyonce/model/Status;" (.ref s6)) :
    own_Ctr l Z (⟨"com/example/apply_once/applyonce/model/OutcomeInProgressPinLaw", "pick", "(I)Lcom/example/apply_once/applyonce/model/Status;"⟩ : MethodName) method_2_code 1 (some (.object "com/example/apply_once/applyonce/model/Status")) ws ({ frames := 0, cells := 0, slots := 0, locals := 0 } : Room) h0 #[(.int p1)] (fun v h L => v = some (.ref (own_pick p1 s0 s1 s2 s3 s4 s5 s6)) ∧ Fr n0 L ∧ h = h0) := by
  refine own_ctr (plainFor_of_name own_pn1) ?_
  intro p e s m below meth c s₁ Bd hml0 hx hby hZ hown0 X0 e0
  have hml : c.maxLocals = 1 := hml0
  have hown : s.vm.findClass "com/example/apply_once/applyonce/model/OutcomeInProgressPinLaw" = some m.cls := hown0
  have hnm := (name_of_methodNamed Bd.named Bd.method).1
  have N0 := Fr.nil n0
  refine own_cast (own_c1_ef m p1) ?_
  refine own_go (S' := (s₁.setTop (mkF m 1 #[.val (.int p1)] [(.int p1)]))) (fun t_ k_ => ?_) ?_
  · refine XS.iloadN X0.here hx rfl (hb hby own_d1_0) rfl ?_
    show Steps p.tables e below (s₁.setTop (mkF m 1 #[.val (.int p1)] [(.int p1)])) _
    exact k_
  by_cases q0 : p1 = (0 : Int32)
  · skip
    refine own_go (S' := (s₁.setTop (mkF m 4 #[.val (.int p1)] []))) (fun t_ k_ => ?_) ?_
    · refine XS.ifNo X0.here hx rfl (hb hby own_d1_1) rfl ((if0 _ _).trans (teq q0).2) ?_
      show Steps p.tables e below (s₁.setTop (mkF m 4 #[.val (.int p1)] [])) _
      exact k_
    obtain ⟨T1, X1, e1, st1⟩ := getS2 X0 hx hZ hown (host := "") (Or.inl (hw _ (List.mem_of_getElem? (i := 5) rfl))) Via.refl e0 S0 (g := (mkF m 4 #[.val (.int p1)] [])) rfl (hb hby own_d1_4)
    refine own_go st1 ?_
    show own_Rch p e below _ (T1.setTop (mkF m 7 #[.val (.int p1)] [(.ref s0)]))
    refine own_retA X1 hx Bd.returns Bd.notSynchronized rfl rfl rfl (hb hby own_d1_7) (by decide) (by decide) ?_
    try rw [e1]
    exact ⟨by rw [own_pick, if_pos q0], N0, rfl⟩
  · skip
    refine own_go (S' := (s₁.setTop (mkF m 10 #[.val (.int p1)] [(.int (1 : Int32)), (.int p1)]))) (fun t_ k_ => ?_) ?_
    · refine XS.ifYes X0.here hx rfl (pc0 := 1) (pc' := 8) rfl (hb hby own_d1_1) rfl ((if0 _ _).trans (feq q0).2) (by decide) (by decide) ?_
      show Steps p.tables e below (s₁.setTop (mkF m 8 #[.val (.int p1)] [])) _
      refine XS.iloadN X0.here hx rfl (hb hby own_d1_8) rfl ?_
      show Steps p.tables e below (s₁.setTop (mkF m 9 #[.val (.int p1)] [(.int p1)])) _
      refine XS.iconst X0.here hx rfl (hb hby own_d1_9) ?_
      show Steps p.tables e below (s₁.setTop (mkF m 10 #[.val (.int p1)] [(.int (1 : Int32)), (.int p1)])) _
      exact k_
    by_cases q1 : p1 = (1 : Int32)
    · skip
      refine own_go (S' := (s₁.setTop (mkF m 13 #[.val (.int p1)] []))) (fun t_ k_ => ?_) ?_
      · refine XS.icmpNo X0.here hx rfl (hb hby own_d1_10) rfl (teq q1).2 ?_
        show Steps p.tables e below (s₁.setTop (mkF m 13 #[.val (.int p1)] [])) _
        exact k_
      obtain ⟨T2, X2, e2, st2⟩ := getS2 X0 hx hZ hown (host := "") (Or.inl (hw _ (List.mem_of_getElem? (i := 44) rfl))) Via.refl e0 S1 (g := (mkF m 13 #[.val (.int p1)] [])) rfl (hb hby own_d1_13)
      refine own_go st2 ?_
      show own_Rch p e below _ (T2.setTop (mkF m 16 #[.val (.int p1)] [(.ref s1)]))
      refine own_retA X2 hx Bd.returns Bd.notSynchronized rfl rfl rfl (hb hby own_d1_16) (by decide) (by decide) ?_
      try rw [e2]
      exact ⟨by rw [own_pick, if_neg q0, if_pos q1], N0, rfl⟩
    · skip
      refine own_go (S' := (s₁.setTop (mkF m 19 #[.val (.int p1)] [(.int (2 : Int32)), (.int p1)]))) (fun t_ k_ => ?_) ?_
      · refine XS.icmpYes X0.here hx rfl (pc0 := 10) (pc' := 17) rfl (hb hby own_d1_10) rfl (feq q1).2 (by decide) (by decide) ?_
        show Steps p.tables e below (s₁.setTop (mkF m 17 #[.val (.int p1)] [])) _
        refine XS.iloadN X0.here hx rfl (hb hby own_d1_17) rfl ?_
        show Steps p.tables e below (s₁.setTop (mkF m 18 #[.val (.int p1)] [(.int p1)])) _
        refine XS.iconst X0.here hx rfl (hb hby own_d1_18) ?_
        show Steps p.tables e below (s₁.setTop (mkF m 19 #[.val (.int p1)] [(.int (2 : Int32)), (.int p1)])) _
        exact k_
      by_cases q2 : p1 = (2 : Int32)
      · skip
        refine own_go (S' := (s₁.setTop (mkF m 22 #[.val (.int p1)] []))) (fun t_ k_ => ?_) ?_
        · refine XS.icmpNo X0.here hx rfl (hb hby own_d1_19) rfl (teq q2).2 ?_
          show Steps p.tables e below (s₁.setTop (mkF m 22 #[.val (.int p1)] [])) _
          exact k_
        obtain ⟨T3, X3, e3, st3⟩ := getS2 X0 hx hZ hown (host := "") (Or.inl (hw _ (List.mem_of_getElem? (i := 43) rfl))) Via.refl e0 S2 (g := (mkF m 22 #[.val (.int p1)] [])) rfl (hb hby own_d1_22)
        refine own_go st3 ?_
        show own_Rch p e below _ (T3.setTop (mkF m 25 #[.val (.int p1)] [(.ref s2)]))
        refine own_retA X3 hx Bd.returns Bd.notSynchronized rfl rfl rfl (hb hby own_d1_25) (by decide) (by decide) ?_
        try rw [e3]
        exact ⟨by rw [own_pick, if_neg q0, if_neg q1, if_pos q2], N0, rfl⟩
      · skip
        refine own_go (S' := (s₁.setTop (mkF m 28 #[.val (.int p1)] [(.int (3 : Int32)), (.int p1)]))) (fun t_ k_ => ?_) ?_
        · refine XS.icmpYes X0.here hx rfl (pc0 := 19) (pc' := 26) rfl (hb hby own_d1_19) rfl (feq q2).2 (by decide) (by decide) ?_
          show Steps p.tables e below (s₁.setTop (mkF m 26 #[.val (.int p1)] [])) _
          refine XS.iloadN X0.here hx rfl (hb hby own_d1_26) rfl ?_
          show Steps p.tables e below (s₁.setTop (mkF m 27 #[.val (.int p1)] [(.int p1)])) _
          refine XS.iconst X0.here hx rfl (hb hby own_d1_27) ?_
          show Steps p.tables e below (s₁.setTop (mkF m 28 #[.val (.int p1)] [(.int (3 : Int32)), (.int p1)])) _
          exact k_
        by_cases q3 : p1 = (3 : Int32)
        · skip
          refine own_go (S' := (s₁.setTop (mkF m 31 #[.val (.int p1)] []))) (fun t_ k_ => ?_) ?_
          · refine XS.icmpNo X0.here hx rfl (hb hby own_d1_28) rfl (teq q3).2 ?_
            show Steps p.tables e below (s₁.setTop (mkF m 31 #[.val (.int p1)] [])) _
            exact k_
          obtain ⟨T4, X4, e4, st4⟩ := getS2 X0 hx hZ hown (host := "") (Or.inl (hw _ (List.mem_of_getElem? (i := 35) rfl))) Via.refl e0 S3 (g := (mkF m 31 #[.val (.int p1)] [])) rfl (hb hby own_d1_31)
          refine own_go st4 ?_
          show own_Rch p e below _ (T4.setTop (mkF m 34 #[.val (.int p1)] [(.ref s3)]))
          refine own_retA X4 hx Bd.returns Bd.notSynchronized rfl rfl rfl (hb hby own_d1_34) (by decide) (by decide) ?_
          try rw [e4]
          exact ⟨by rw [own_pick, if_neg q0, if_neg q1, if_neg q2, if_pos q3], N0, rfl⟩
        · skip
          refine own_go (S' := (s₁.setTop (mkF m 37 #[.val (.int p1)] [(.int (4 : Int32)), (.int p1)]))) (fun t_ k_ => ?_) ?_
          · refine XS.icmpYes X0.here hx rfl (pc0 := 28) (pc' := 35) rfl (hb hby own_d1_28) rfl (feq q3).2 (by decide) (by decide) ?_
            show Steps p.tables e below (s₁.setTop (mkF m 35 #[.val (.int p1)] [])) _
            refine XS.iloadN X0.here hx rfl (hb hby own_d1_35) rfl ?_
            show Steps p.tables e below (s₁.setTop (mkF m 36 #[.val (.int p1)] [(.int p1)])) _
            refine XS.iconst X0.here hx rfl (hb hby own_d1_36) ?_
            show Steps p.tables e below (s₁.setTop (mkF m 37 #[.val (.int p1)] [(.int (4 : Int32)), (.int p1)])) _
            exact k_
          by_cases q4 : p1 = (4 : Int32)
          · skip
            refine own_go (S' := (s₁.setTop (mkF m 40 #[.val (.int p1)] []))) (fun t_ k_ => ?_) ?_
            · refine XS.icmpNo X0.here hx rfl (hb hby own_d1_37) rfl (teq q4).2 ?_
              show Steps p.tables e below (s₁.setTop (mkF m 40 #[.val (.int p1)] [])) _
              exact k_
            obtain ⟨T5, X5, e5, st5⟩ := getS2 X0 hx hZ hown (host := "") (Or.inl (hw _ (List.mem_of_getElem? (i := 41) rfl))) Via.refl e0 S4 (g := (mkF m 40 #[.val (.int p1)] [])) rfl (hb hby own_d1_40)
            refine own_go st5 ?_
            show own_Rch p e below _ (T5.setTop (mkF m 43 #[.val (.int p1)] [(.ref s4)]))
            refine own_retA X5 hx Bd.returns Bd.notSynchronized rfl rfl rfl (hb hby own_d1_43) (by decide) (by decide) ?_
            try rw [e5]
            exact ⟨by rw [own_pick, if_neg q0, if_neg q1, if_neg q2, if_neg q3, if_pos q4], N0, rfl⟩
          · skip
            refine own_go (S' := (s₁.setTop (mkF m 46 #[.val (.int p1)] [(.int (5 : Int32)), (.int p1)]))) (fun t_ k_ => ?_) ?_
            · refine XS.icmpYes X0.here hx rfl (pc0 := 37) (pc' := 44) rfl (hb hby own_d1_37) rfl (feq q4).2 (by decide) (by decide) ?_
              show Steps p.tables e below (s₁.setTop (mkF m 44 #[.val (.int p1)] [])) _
              refine XS.iloadN X0.here hx rfl (hb hby own_d1_44) rfl ?_
              show Steps p.tables e below (s₁.setTop (mkF m 45 #[.val (.int p1)] [(.int p1)])) _
              refine XS.iconst X0.here hx rfl (hb hby own_d1_45) ?_
              show Steps p.tables e below (s₁.setTop (mkF m 46 #[.val (.int p1)] [(.int (5 : Int32)), (.int p1)])) _
              exact k_
            by_cases q5 : p1 = (5 : Int32)
            · skip
              refine own_go (S' := (s₁.setTop (mkF m 49 #[.val (.int p1)] []))) (fun t_ k_ => ?_) ?_
              · refine XS.icmpNo X0.here hx rfl (hb hby own_d1_46) rfl (teq q5).2 ?_
                show Steps p.tables e below (s₁.setTop (mkF m 49 #[.val (.int p1)] [])) _
                exact k_
              obtain ⟨T6, X6, e6, st6⟩ := getS2 X0 hx hZ hown (host := "") (Or.inl (hw _ (List.mem_of_getElem? (i := 37) rfl))) Via.refl e0 S5 (g := (mkF m 49 #[.val (.int p1)] [])) rfl (hb hby own_d1_49)
              refine own_go st6 ?_
              show own_Rch p e below _ (T6.setTop (mkF m 52 #[.val (.int p1)] [(.ref s5)]))
              refine own_retA X6 hx Bd.returns Bd.notSynchronized rfl rfl rfl (hb hby own_d1_52) (by decide) (by decide) ?_
              try rw [e6]
              exact ⟨by rw [own_pick, if_neg q0, if_neg q1, if_neg q2, if_neg q3, if_neg q4, if_pos q5], N0, rfl⟩
            · skip
              refine own_go (S' := (s₁.setTop (mkF m 53 #[.val (.int p1)] []))) (fun t_ k_ => ?_) ?_
              · refine XS.icmpYes X0.here hx rfl (pc0 := 46) (pc' := 53) rfl (hb hby own_d1_46) rfl (feq q5).2 (by decide) (by decide) ?_
                show Steps p.tables e below (s₁.setTop (mkF m 53 #[.val (.int p1)] [])) _
                exact k_
              obtain ⟨T7, X7, e7, st7⟩ := getS2 X0 hx hZ hown (host := "") (Or.inl (hw _ (List.mem_of_getElem? (i := 39) rfl))) Via.refl e0 S6 (g := (mkF m 53 #[.val (.int p1)] [])) rfl (hb hby own_d1_53)
              refine own_go st7 ?_
              show own_Rch p e below _ (T7.setTop (mkF m 56 #[.val (.int p1)] [(.ref s6)]))
              refine own_retA X7 hx Bd.returns Bd.notSynchronized rfl rfl rfl (hb hby own_d1_56) (by decide) (by decide) ?_
              try rw [e7]
              exact ⟨by rw [own_pick, if_neg q0, if_neg q1, if_neg q2, if_neg q3, if_neg q4, if_neg q5], N0, rfl⟩
theorem own_pd1 : parseMethodDescriptor "(I)Lcom/example/apply_once/applyonce/model/Status;" = some ⟨[.int], some (.object "com/example/apply_once/applyonce/model/Status")⟩ := by decide +kernel
theorem own_pd2 : parseMethodDescriptor "()Lcom/example/apply_once/applyonce/model/Outcome;" = some ⟨[], some (.object "com/example/apply_once/applyonce/model/Outcome")⟩ := by decide +kernel
theorem own_pd3 : parseMethodDescriptor "()Lcom/example/apply_once/applyonce/model/Status;" = some ⟨[], some (.object "com/example/apply_once/applyonce/model/Status")⟩ := by decide +kernel
theorem own_c0_ef (m : MethodId) (x0 : Int32) : entryFrame m #[(.int x0)] maxLocals = mkF m 0 #[.val (.int x0), .unset, .unset, .unset, .unset] [] := by first | (simp [entryFrame, mkF, argsToLocals, Value.category, maxLocals]; done) | rfl
set_option maxRecDepth 65536 in
set_option maxHeartbeats 40000000 in
theorem own_c0 (l : Launch) (Z : State) (a0 : Array Value) (hw : ∀ d ∈ tables_1, d.before a0 Z = true) (ws : List Jvm.Cond) (p1 : Int32) (s0 s1 s2 s3 s4 s5 s6 : Addr) (h0 : Heap) (n0 : Nat) (Z0 : n0 ≤ h0.size) (S0 : Sta Z h0 "com/example/apply_once/applyonce/model/Status" "EXECUTED" "Lcom/example/apply_once/applyonce/model/Status;" (.ref s0)) (S1 : Sta Z h0 "com/example/apply_once/applyonce/model/Status" "REPLAYED" "Lcom/example/apply_once/applyonce/model/Status;" (.ref s1)) (S2 : Sta Z h0 "com/example/apply_once/applyonce/model/Status" "IN_PROGRESS" "Lcom/example/apply_once/applyonce/model/Status;" (.ref s2)) (S3 : Sta Z h0 "com/example/apply_once/applyonce/model/Status" "KEY_REUSED" "Lcom/example/apply_once/applyonce/model/Status;" (.ref s3)) (S4 : Sta Z h0 "com/example/apply_once/applyonce/model/Status" "FAILED" "Lcom/example/apply_once/applyonce/model/Status;" (.ref s4)) (S5 : Sta Z h0 "com/example/apply_once/applyonce/model/Status" "ATTEMPTS_EXHAUSTED" "Lcom/example/apply_once/applyonce/model/Status;" (.ref s5)) (S6 : Sta Z h0 "com/example/apply_once/applyonce/model/Status" "SUPERSEDED" "Lcom/example/apply_once/applyonce/model/Status;" (.ref s6)) (d0 : s0 ≠ s2) (d1 : s1 ≠ s2) (d3 : s3 ≠ s2) (d4 : s4 ≠ s2) (d5 : s5 ≠ s2) (d6 : s6 ≠ s2) :
    own_Ctr l Z x code maxLocals ret ws room_1 h0 #[(.int p1)] (fun v h L => v = some (.int 1) ∧ Fr n0 L) := by
  refine own_ctr (plainFor_of_name own_pn1) ?_
  intro p e s m below meth c s₁ Bd hml0 hx hby hZ hown0 X0 e0
  have hml : c.maxLocals = 5 := hml0
  have hown : s.vm.findClass "com/example/apply_once/applyonce/model/OutcomeInProgressPinLaw" = some m.cls := hown0
  have hnm := (name_of_methodNamed Bd.named Bd.method).1
  have N0 := Fr.nil n0
  refine own_cast (own_c0_ef m p1) ?_
  refine own_go (S' := (s₁.setTop (mkF m 9 #[.val (.int p1), .val (.int ((p1 &&& (2147483647 : Int32)) % (7 : Int32))), .unset, .unset, .unset] [(.int ((p1 &&& (2147483647 : Int32)) % (7 : Int32)))]))) (fun t_ k_ => ?_) ?_
  · refine XS.iloadN X0.here hx rfl (hb hby at_0) rfl ?_
    show Steps p.tables e below (s₁.setTop (mkF m 1 #[.val (.int p1), .unset, .unset, .unset, .unset] [(.int p1)])) _
    refine X0.ldcInt hx hown (mvT hZ (hw _ (List.mem_of_getElem? (i := 0) rfl))) (g := (mkF m 1 #[.val (.int p1), .unset, .unset, .unset, .unset] [(.int p1)])) rfl (hb hby at_1) _ ?_
    show Steps p.tables e below (s₁.setTop (mkF m 3 #[.val (.int p1), .unset, .unset, .unset, .unset] [(.int (2147483647 : Int32)), (.int p1)])) _
    refine XS.iand X0.here hx rfl (hb hby at_3) rfl ?_
    show Steps p.tables e below (s₁.setTop (mkF m 4 #[.val (.int p1), .unset, .unset, .unset, .unset] [(.int (p1 &&& (2147483647 : Int32)))])) _
    refine XS.bipush X0.here hx rfl (hb hby at_4) ?_
    show Steps p.tables e below (s₁.setTop (mkF m 6 #[.val (.int p1), .unset, .unset, .unset, .unset] [(.int (7 : Int32)), (.int (p1 &&& (2147483647 : Int32)))])) _
    refine iremM X0 hx rfl (hb hby at_6) rfl (by decide) ?_
    show Steps p.tables e below (s₁.setTop (mkF m 7 #[.val (.int p1), .unset, .unset, .unset, .unset] [(.int ((p1 &&& (2147483647 : Int32)) % (7 : Int32)))])) _
    refine XS.istoreN X0.here hx rfl (hb hby at_7) rfl (l' := #[.val (.int p1), .val (.int ((p1 &&& (2147483647 : Int32)) % (7 : Int32))), .unset, .unset, .unset]) rfl ?_
    show Steps p.tables e below (s₁.setTop (mkF m 8 #[.val (.int p1), .val (.int ((p1 &&& (2147483647 : Int32)) % (7 : Int32))), .unset, .unset, .unset] [])) _
    refine XS.iloadN X0.here hx rfl (hb hby at_8) rfl ?_
    show Steps p.tables e below (s₁.setTop (mkF m 9 #[.val (.int p1), .val (.int ((p1 &&& (2147483647 : Int32)) % (7 : Int32))), .unset, .unset, .unset] [(.int ((p1 &&& (2147483647 : Int32)) % (7 : Int32)))])) _
    exact k_
  generalize ((p1 &&& (2147483647 : Int32)) % (7 : Int32)) = k
  obtain ⟨_, T1, L1, X1, ⟨rfl, N1q, k1⟩, st1⟩ := own_callS X0 hx hZ (y := (⟨"com/example/apply_once/applyonce/model/OutcomeInProgressPinLaw", "pick", "(I)Lcom/example/apply_once/applyonce/model/Status;"⟩ : MethodName)) hown (hw _ (List.mem_of_getElem? (i := 1) rfl)) (hw _ (List.mem_of_getElem? (i := 2) rfl)) (hw _ (List.mem_of_getElem? (i := 3) rfl)) (hw _ (List.mem_of_getElem? (i := 4) rfl)) (by decide) (own_c1 l Z a0 hw [] k s0 s1 s2 s3 s4 s5 s6 h0 n0 Z0 S0 S1 S2 S3 S4 S5 S6) e0 (W := 0) (by decide) (by decide) (g := (mkF m 9 #[.val (.int p1), .val (.int k), .unset, .unset, .unset] [(.int k)])) rfl (by rw [hml]; rfl) (argsL := [(.int k)]) (rest := []) (lenOf own_pd1 rfl) rfl rfl rfl (hb hby at_9) (by decide) (by decide)
  have N1 := Fr.app N0 N1q
  refine own_go st1 ?_
  show own_Rch p e below _ (T1.setTop (mkF m 12 #[.val (.int p1), .val (.int k), .unset, .unset, .unset] [(.ref (own_pick k s0 s1 s2 s3 s4 s5 s6))]))
  refine own_go (S' := (T1.setTop (mkF m 13 #[.val (.int p1), .val (.int k), .val (.ref (own_pick k s0 s1 s2 s3 s4 s5 s6)), .unset, .unset] []))) (fun t_ k_ => ?_) ?_
  · refine XS.astoreN X1.here hx rfl (hb hby at_12) rfl rfl (l' := #[.val (.int p1), .val (.int k), .val (.ref (own_pick k s0 s1 s2 s3 s4 s5 s6)), .unset, .unset]) rfl ?_
    show Steps p.tables e below (T1.setTop (mkF m 13 #[.val (.int p1), .val (.int k), .val (.ref (own_pick k s0 s1 s2 s3 s4 s5 s6)), .unset, .unset] [])) _
    exact k_
  obtain ⟨_, T2, L2, X2, ⟨ob, rfl, N2q, K2, sz2, g2, E2, Fa2, Fb2, Fc2, Fd2⟩, st2⟩ := own_callS X1 hx hZ (y := (⟨"com/example/apply_once/applyonce/model/Outcome", "inProgress", "()Lcom/example/apply_once/applyonce/model/Outcome;"⟩ : MethodName)) hown (hw _ (List.mem_of_getElem? (i := 8) rfl)) (hw _ (List.mem_of_getElem? (i := 9) rfl)) (hw _ (List.mem_of_getElem? (i := 10) rfl)) (hw _ (List.mem_of_getElem? (i := 11) rfl)) (by decide) (own_c2 l Z a0 hw [] s2 T1.heap n0 (by rw [k1]; exact Z0) (by rw [k1]; exact S2)) rfl (W := 0) (by decide) (by decide) (g := (mkF m 13 #[.val (.int p1), .val (.int k), .val (.ref (own_pick k s0 s1 s2 s3 s4 s5 s6)), .unset, .unset] [])) rfl (by rw [hml]; rfl) (argsL := []) (rest := []) (lenOf own_pd2 rfl) rfl rfl rfl (hb hby at_13) (by decide) (by decide)
  have N2 := Fr.app N1 N2q
  refine own_go st2 ?_
  show own_Rch p e below _ (T2.setTop (mkF m 16 #[.val (.int p1), .val (.int k), .val (.ref (own_pick k s0 s1 s2 s3 s4 s5 s6)), .unset, .unset] [(.ref ob)]))
  refine own_go (S' := (T2.setTop (mkF m 18 #[.val (.int p1), .val (.int k), .val (.ref (own_pick k s0 s1 s2 s3 s4 s5 s6)), .val (.ref ob), .unset] [(.ref ob)]))) (fun t_ k_ => ?_) ?_
  · refine XS.astoreN X2.here hx rfl (hb hby at_16) rfl rfl (l' := #[.val (.int p1), .val (.int k), .val (.ref (own_pick k s0 s1 s2 s3 s4 s5 s6)), .val (.ref ob), .unset]) rfl ?_
    show Steps p.tables e below (T2.setTop (mkF m 17 #[.val (.int p1), .val (.int k), .val (.ref (own_pick k s0 s1 s2 s3 s4 s5 s6)), .val (.ref ob), .unset] [])) _
    refine XS.aloadN X2.here hx rfl (hb hby at_17) rfl rfl ?_
    show Steps p.tables e below (T2.setTop (mkF m 18 #[.val (.int p1), .val (.int k), .val (.ref (own_pick k s0 s1 s2 s3 s4 s5 s6)), .val (.ref ob), .unset] [(.ref ob)])) _
    exact k_
  obtain ⟨_, T3, L3, X3, ⟨rfl, N3q, k3⟩, st3⟩ := own_callV X2 hx hZ (y := (⟨"com/example/apply_once/applyonce/model/Outcome", "status", "()Lcom/example/apply_once/applyonce/model/Status;"⟩ : MethodName)) (z := (⟨"com/example/apply_once/applyonce/model/Outcome", "status", "()Lcom/example/apply_once/applyonce/model/Status;"⟩ : MethodName)) (C := "com/example/apply_once/applyonce/model/Outcome") hown (hw _ (List.mem_of_getElem? (i := 30) rfl)) (hw _ (List.mem_of_getElem? (i := 31) rfl)) (notFace_of_selects (args := #[]) (mvT hZ (hw _ (List.mem_of_getElem? (i := 33) rfl)))) (hw _ (List.mem_of_getElem? (i := 33) rfl)) (hw _ (List.mem_of_getElem? (i := 32) rfl)) (hw _ (List.mem_of_getElem? (i := 10) rfl)) (hw _ (List.mem_of_getElem? (i := 34) rfl)) (by decide) (own_c5 l Z a0 hw [] ob s2 T2.heap n0 (Nat.le_trans (by rw [k1]; exact Z0) K2.1) Fa2) rfl E2 (W := 0) (by decide) (by decide) (g := (mkF m 18 #[.val (.int p1), .val (.int k), .val (.ref (own_pick k s0 s1 s2 s3 s4 s5 s6)), .val (.ref ob), .unset] [(.ref ob)])) rfl (by rw [hml]; rfl) (argsL := []) (rest := []) (lenOf own_pd3 rfl) rfl rfl rfl (hb hby at_18) (by decide) (by decide)
  have N3 := Fr.app N2 N3q
  refine own_go st3 ?_
  show own_Rch p e below _ (T3.setTop (mkF m 21 #[.val (.int p1), .val (.int k), .val (.ref (own_pick k s0 s1 s2 s3 s4 s5 s6)), .val (.ref ob), .unset] [(.ref s2)]))
  refine own_go (S' := (T3.setTop (mkF m 25 #[.val (.int p1), .val (.int k), .val (.ref (own_pick k s0 s1 s2 s3 s4 s5 s6)), .val (.ref ob), .val (.ref s2)] [(.ref s2)]))) (fun t_ k_ => ?_) ?_
  · refine XS.astore X3.here hx rfl (hb hby at_21) rfl rfl (l' := #[.val (.int p1), .val (.int k), .val (.ref (own_pick k s0 s1 s2 s3 s4 s5 s6)), .val (.ref ob), .val (.ref s2)]) rfl ?_
    show Steps p.tables e below (T3.setTop (mkF m 23 #[.val (.int p1), .val (.int k), .val (.ref (own_pick k s0 s1 s2 s3 s4 s5 s6)), .val (.ref ob), .val (.ref s2)] [])) _
    refine XS.aload X3.here hx rfl (hb hby at_23) rfl rfl ?_
    show Steps p.tables e below (T3.setTop (mkF m 25 #[.val (.int p1), .val (.int k), .val (.ref (own_pick k s0 s1 s2 s3 s4 s5 s6)), .val (.ref ob), .val (.ref s2)] [(.ref s2)])) _
    exact k_
  refine own_go (S' := (T3.setTop (mkF m 33 #[.val (.int p1), .val (.int k), .val (.ref (own_pick k s0 s1 s2 s3 s4 s5 s6)), .val (.ref ob), .val (.ref s2)] [(.ref (own_pick k s0 s1 s2 s3 s4 s5 s6)), (.ref s2)]))) (fun t_ k_ => ?_) ?_
  · refine XS.ifnonnullYes X3.here hx rfl (pc0 := 25) (pc' := 30) rfl (hb hby at_25) rfl (by decide) (by decide) ?_
    show Steps p.tables e below (T3.setTop (mkF m 30 #[.val (.int p1), .val (.int k), .val (.ref (own_pick k s0 s1 s2 s3 s4 s5 s6)), .val (.ref ob), .val (.ref s2)] [])) _
    refine XS.aload X3.here hx rfl (hb hby at_30) rfl rfl ?_
    show Steps p.tables e below (T3.setTop (mkF m 32 #[.val (.int p1), .val (.int k), .val (.ref (own_pick k s0 s1 s2 s3 s4 s5 s6)), .val (.ref ob), .val (.ref s2)] [(.ref s2)])) _
    refine XS.aloadN X3.here hx rfl (hb hby at_32) rfl rfl ?_
    show Steps p.tables e below (T3.setTop (mkF m 33 #[.val (.int p1), .val (.int k), .val (.ref (own_pick k s0 s1 s2 s3 s4 s5 s6)), .val (.ref ob), .val (.ref s2)] [(.ref (own_pick k s0 s1 s2 s3 s4 s5 s6)), (.ref s2)])) _
    exact k_
  by_cases hk : k = (2 : Int32)
  · skip
    refine own_go (S' := (T3.setTop (mkF m 43 #[.val (.int p1), .val (.int k), .val (.ref (own_pick k s0 s1 s2 s3 s4 s5 s6)), .val (.ref ob), .val (.ref s2)] [(.int (2 : Int32)), (.int k), (.int (1 : Int32))]))) (fun t_ k_ => ?_) ?_
    · refine Jvm.RoadKit.acmp (g := (mkF m 33 #[.val (.int p1), .val (.int k), .val (.ref (own_pick k s0 s1 s2 s3 s4 s5 s6)), .val (.ref ob), .val (.ref s2)] [(.ref (own_pick k s0 s1 s2 s3 s4 s5 s6)), (.ref s2)])) X3 hx rfl rfl rfl (pc0 := 33) (pc' := 36) (same := true) rfl (hb hby at_33) rfl (decide_eq_true (congrArg Value.ref (own_pick2 k s0 s1 s2 s3 s4 s5 s6 hk).symm)) (by decide) (by decide) ?_
      show Steps p.tables e below (T3.setTop (mkF m 36 #[.val (.int p1), .val (.int k), .val (.ref (own_pick k s0 s1 s2 s3 s4 s5 s6)), .val (.ref ob), .val (.ref s2)] [])) _
      refine XS.iconst X3.here hx rfl (hb hby at_36) ?_
      show Steps p.tables e below (T3.setTop (mkF m 37 #[.val (.int p1), .val (.int k), .val (.ref (own_pick k s0 s1 s2 s3 s4 s5 s6)), .val (.ref ob), .val (.ref s2)] [(.int (1 : Int32))])) _
      refine XS.goto X3.here hx rfl (pc0 := 37) (pc' := 41) rfl (hb hby at_37) (by decide) (by decide) ?_
      show Steps p.tables e below (T3.setTop (mkF m 41 #[.val (.int p1), .val (.int k), .val (.ref (own_pick k s0 s1 s2 s3 s4 s5 s6)), .val (.ref ob), .val (.ref s2)] [(.int (1 : Int32))])) _
      refine XS.iloadN X3.here hx rfl (hb hby at_41) rfl ?_
      show Steps p.tables e below (T3.setTop (mkF m 42 #[.val (.int p1), .val (.int k), .val (.ref (own_pick k s0 s1 s2 s3 s4 s5 s6)), .val (.ref ob), .val (.ref s2)] [(.int k), (.int (1 : Int32))])) _
      refine XS.iconst X3.here hx rfl (hb hby at_42) ?_
      show Steps p.tables e below (T3.setTop (mkF m 43 #[.val (.int p1), .val (.int k), .val (.ref (own_pick k s0 s1 s2 s3 s4 s5 s6)), .val (.ref ob), .val (.ref s2)] [(.int (2 : Int32)), (.int k), (.int (1 : Int32))])) _
      exact k_
    refine own_go (S' := (T3.setTop (mkF m 51 #[.val (.int p1), .val (.int k), .val (.ref (own_pick k s0 s1 s2 s3 s4 s5 s6)), .val (.ref ob), .val (.ref s2)] [(.int (1 : Int32)), (.int (1 : Int32))]))) (fun t_ k_ => ?_) ?_
    · refine XS.icmpNo X3.here hx rfl (hb hby at_43) rfl (teq hk).2 ?_
      show Steps p.tables e below (T3.setTop (mkF m 46 #[.val (.int p1), .val (.int k), .val (.ref (own_pick k s0 s1 s2 s3 s4 s5 s6)), .val (.ref ob), .val (.ref s2)] [(.int (1 : Int32))])) _
      refine XS.iconst X3.here hx rfl (hb hby at_46) ?_
      show Steps p.tables e below (T3.setTop (mkF m 47 #[.val (.int p1), .val (.int k), .val (.ref (own_pick k s0 s1 s2 s3 s4 s5 s6)), .val (.ref ob), .val (.ref s2)] [(.int (1 : Int32)), (.int (1 : Int32))])) _
      refine XS.goto X3.here hx rfl (pc0 := 47) (pc' := 51) rfl (hb hby at_47) (by decide) (by decide) ?_
      show Steps p.tables e below (T3.setTop (mkF m 51 #[.val (.int p1), .val (.int k), .val (.ref (own_pick k s0 s1 s2 s3 s4 s5 s6)), .val (.ref ob), .val (.ref s2)] [(.int (1 : Int32)), (.int (1 : Int32))])) _
      exact k_
    refine own_go (S' := (T3.setTop (mkF m 59 #[.val (.int p1), .val (.int k), .val (.ref (own_pick k s0 s1 s2 s3 s4 s5 s6)), .val (.ref ob), .val (.ref s2)] [(.int (1 : Int32))]))) (fun t_ k_ => ?_) ?_
    · refine XS.icmpNo X3.here hx rfl (hb hby at_51) rfl (teq rfl).2 ?_
      show Steps p.tables e below (T3.setTop (mkF m 54 #[.val (.int p1), .val (.int k), .val (.ref (own_pick k s0 s1 s2 s3 s4 s5 s6)), .val (.ref ob), .val (.ref s2)] [])) _
      refine XS.iconst X3.here hx rfl (hb hby at_54) ?_
      show Steps p.tables e below (T3.setTop (mkF m 55 #[.val (.int p1), .val (.int k), .val (.ref (own_pick k s0 s1 s2 s3 s4 s5 s6)), .val (.ref ob), .val (.ref s2)] [(.int (1 : Int32))])) _
      refine XS.goto X3.here hx rfl (pc0 := 55) (pc' := 59) rfl (hb hby at_55) (by decide) (by decide) ?_
      show Steps p.tables e below (T3.setTop (mkF m 59 #[.val (.int p1), .val (.int k), .val (.ref (own_pick k s0 s1 s2 s3 s4 s5 s6)), .val (.ref ob), .val (.ref s2)] [(.int (1 : Int32))])) _
      exact k_
    refine own_retN X3 hx (t := .boolean) Bd.returns Bd.notSynchronized (by simp) (hb hby at_59) rfl (by decide) (by decide) ?_
    exact ⟨rfl, N3⟩
  · skip
    refine own_go (S' := (T3.setTop (mkF m 43 #[.val (.int p1), .val (.int k), .val (.ref (own_pick k s0 s1 s2 s3 s4 s5 s6)), .val (.ref ob), .val (.ref s2)] [(.int (2 : Int32)), (.int k), (.int (0 : Int32))]))) (fun t_ k_ => ?_) ?_
    · refine Jvm.RoadKit.acmp (g := (mkF m 33 #[.val (.int p1), .val (.int k), .val (.ref (own_pick k s0 s1 s2 s3 s4 s5 s6)), .val (.ref ob), .val (.ref s2)] [(.ref (own_pick k s0 s1 s2 s3 s4 s5 s6)), (.ref s2)])) X3 hx rfl rfl rfl (pc0 := 33) (pc' := 40) (same := false) rfl (hb hby at_33) rfl (decide_eq_false fun q => own_pickN k s0 s1 s2 s3 s4 s5 s6 hk d0 d1 d3 d4 d5 d6 (Value.ref.inj q).symm) (by decide) (by decide) ?_
      show Steps p.tables e below (T3.setTop (mkF m 40 #[.val (.int p1), .val (.int k), .val (.ref (own_pick k s0 s1 s2 s3 s4 s5 s6)), .val (.ref ob), .val (.ref s2)] [])) _
      refine XS.iconst X3.here hx rfl (hb hby at_40) ?_
      show Steps p.tables e below (T3.setTop (mkF m 41 #[.val (.int p1), .val (.int k), .val (.ref (own_pick k s0 s1 s2 s3 s4 s5 s6)), .val (.ref ob), .val (.ref s2)] [(.int (0 : Int32))])) _
      refine XS.iloadN X3.here hx rfl (hb hby at_41) rfl ?_
      show Steps p.tables e below (T3.setTop (mkF m 42 #[.val (.int p1), .val (.int k), .val (.ref (own_pick k s0 s1 s2 s3 s4 s5 s6)), .val (.ref ob), .val (.ref s2)] [(.int k), (.int (0 : Int32))])) _
      refine XS.iconst X3.here hx rfl (hb hby at_42) ?_
      show Steps p.tables e below (T3.setTop (mkF m 43 #[.val (.int p1), .val (.int k), .val (.ref (own_pick k s0 s1 s2 s3 s4 s5 s6)), .val (.ref ob), .val (.ref s2)] [(.int (2 : Int32)), (.int k), (.int (0 : Int32))])) _
      exact k_
    refine own_go (S' := (T3.setTop (mkF m 51 #[.val (.int p1), .val (.int k), .val (.ref (own_pick k s0 s1 s2 s3 s4 s5 s6)), .val (.ref ob), .val (.ref s2)] [(.int (0 : Int32)), (.int (0 : Int32))]))) (fun t_ k_ => ?_) ?_
    · refine XS.icmpYes X3.here hx rfl (pc0 := 43) (pc' := 50) rfl (hb hby at_43) rfl (feq hk).2 (by decide) (by decide) ?_
      show Steps p.tables e below (T3.setTop (mkF m 50 #[.val (.int p1), .val (.int k), .val (.ref (own_pick k s0 s1 s2 s3 s4 s5 s6)), .val (.ref ob), .val (.ref s2)] [(.int (0 : Int32))])) _
      refine XS.iconst X3.here hx rfl (hb hby at_50) ?_
      show Steps p.tables e below (T3.setTop (mkF m 51 #[.val (.int p1), .val (.int k), .val (.ref (own_pick k s0 s1 s2 s3 s4 s5 s6)), .val (.ref ob), .val (.ref s2)] [(.int (0 : Int32)), (.int (0 : Int32))])) _
      exact k_
    refine own_go (S' := (T3.setTop (mkF m 59 #[.val (.int p1), .val (.int k), .val (.ref (own_pick k s0 s1 s2 s3 s4 s5 s6)), .val (.ref ob), .val (.ref s2)] [(.int (1 : Int32))]))) (fun t_ k_ => ?_) ?_
    · refine XS.icmpNo X3.here hx rfl (hb hby at_51) rfl (teq rfl).2 ?_
      show Steps p.tables e below (T3.setTop (mkF m 54 #[.val (.int p1), .val (.int k), .val (.ref (own_pick k s0 s1 s2 s3 s4 s5 s6)), .val (.ref ob), .val (.ref s2)] [])) _
      refine XS.iconst X3.here hx rfl (hb hby at_54) ?_
      show Steps p.tables e below (T3.setTop (mkF m 55 #[.val (.int p1), .val (.int k), .val (.ref (own_pick k s0 s1 s2 s3 s4 s5 s6)), .val (.ref ob), .val (.ref s2)] [(.int (1 : Int32))])) _
      refine XS.goto X3.here hx rfl (pc0 := 55) (pc' := 59) rfl (hb hby at_55) (by decide) (by decide) ?_
      show Steps p.tables e below (T3.setTop (mkF m 59 #[.val (.int p1), .val (.int k), .val (.ref (own_pick k s0 s1 s2 s3 s4 s5 s6)), .val (.ref ob), .val (.ref s2)] [(.int (1 : Int32))])) _
      exact k_
    refine own_retN X3 hx (t := .boolean) Bd.returns Bd.notSynchronized (by simp) (hb hby at_59) rfl (by decide) (by decide) ?_
    exact ⟨rfl, N3⟩
theorem own_eqI {args : Array Value} {s : State} {t : Term} {n : Int32} (h : (Jvm.Cond.eq t (.int n)).value args s none s [] = some true) : t.eval args s none [] s = some (.int n) := by
  cases ht : t.eval args s none [] s with
  | none => simp [Cond.value, Term.eval, ht] at h
  | some x => cases x <;> simp [Cond.value, Term.eval, ht] at h ⊢; exact h
theorem own_ord {args : Array Value} {s : State} {t : Term} {n : Int32} {a : Addr} (ea : t.eval args s none [] s = some (.ref a)) (h : (Jvm.Cond.eq (.field t "java/lang/Enum" "ordinal" "I") (.int n)).value args s none s [] = some true) : s.fieldOf? a "java/lang/Enum" "ordinal" "I" = some (.int n) := by
  rw [← fld_at ea]; exact own_eqI h
set_option maxRecDepth 65536 in
set_option maxHeartbeats 40000000 in
theorem comes_1 {Post : Tables → Env → Array Value → State → Outcome → State → Prop} (hpost : ∀ tb e args s v u, (limb_1_1.after args s (.returned v) u = true ∧ limb_1_2.after args s (.returned v) u = true ∧ True) → FrameEnd s (.returned v) u (Jvm.fieldLocs frame_1_writes args s ++ Jvm.arrayLocs frame_1_arrays args s ++ Jvm.staticLocs frame_1_statics s) 16 128 → Post tb e args s (.returned v) u) :
    ArmFor flags0 classFile x code maxLocals ret World_1 tables_1 room_1 Calls_1 rest_1 Pre_1 Post := by
  intro l hfl _ _ p e ha hc hk s m args below hf hA hF happ hP
  obtain ⟨hcalls, hrest, hpre⟩ := hP
  obtain ⟨-, -, -, hnamed, -, -, -, hat⟩ := (Spec.applies_iff hf).mp happ
  obtain ⟨hg, hn⟩ := and_e (Cond.before_iff.mp (show (Jvm.Cond.and given_1 narrow_1).before args s = true from hpre))
  obtain ⟨gc, g0⟩ := and_e hg
  obtain ⟨w0, rfl⟩ : ∃ w0 : Value, args = #[w0] := by
    have hs : args.size = 1 := by simpa [Cond.value, given_1] using gc
    obtain ⟨L⟩ := args
    match L, hs with
    | [w0], _ => exact ⟨w0, rfl⟩
  obtain ⟨i0, ei0⟩ := is_v g0
  obtain rfl : w0 = (.int i0) := Option.some.inj ei0
  have hw := fun d (hd : d ∈ tables_1) => atoms_spec (ws := Jvm.Cond.code x code maxLocals ret :: tables_1) hat d (List.mem_cons_of_mem _ hd)
  have hfit : Fit s := fun {y c} hc i hi => by
    obtain ⟨ha, rfl⟩ := Array.getElem?_eq_some_iff.mp hc
    have q := List.all_eq_true.mp ((Array.all_eq_true_iff_forall_mem.mp hF) _ (Array.getElem_mem ha)) i (List.mem_range.mpr hi)
    simpa [Array.getElem?_eq_getElem hi] using q
  obtain ⟨ex0, hn0⟩ := and_e hn
  obtain ⟨ex2, hn1⟩ := and_e hn0
  obtain ⟨eo2, hn2⟩ := and_e hn1
  obtain ⟨eo0, hn3⟩ := and_e hn2
  obtain ⟨ex3, hn4⟩ := and_e hn3
  obtain ⟨eo3, hn5⟩ := and_e hn4
  obtain ⟨ex5, hn6⟩ := and_e hn5
  obtain ⟨eo5, hn7⟩ := and_e hn6
  obtain ⟨ex6, hn8⟩ := and_e hn7
  obtain ⟨eo6, hn9⟩ := and_e hn8
  obtain ⟨ex4, hn10⟩ := and_e hn9
  obtain ⟨eo4, hn11⟩ := and_e hn10
  obtain ⟨ex1, hn12⟩ := and_e hn11
  have eo1 := hn12
  obtain ⟨s0, es0⟩ := exa_v ex0
  have S0 := Sta.start es0 (Or.inr ⟨(hw _ (List.mem_of_getElem? (i := 6) rfl)), (hw _ (List.mem_of_getElem? (i := 7) rfl))⟩)
  have o0 := Fld.start (own_ord es0 eo0)
  obtain ⟨s1, es1⟩ := exa_v ex1
  have S1 := Sta.start es1 (Or.inr ⟨(hw _ (List.mem_of_getElem? (i := 6) rfl)), (hw _ (List.mem_of_getElem? (i := 45) rfl))⟩)
  have o1 := Fld.start (own_ord es1 eo1)
  obtain ⟨s2, es2⟩ := exa_v ex2
  have S2 := Sta.start es2 (Or.inr ⟨(hw _ (List.mem_of_getElem? (i := 6) rfl)), (hw _ (List.mem_of_getElem? (i := 15) rfl))⟩)
  have o2 := Fld.start (own_ord es2 eo2)
  obtain ⟨s3, es3⟩ := exa_v ex3
  have S3 := Sta.start es3 (Or.inr ⟨(hw _ (List.mem_of_getElem? (i := 6) rfl)), (hw _ (List.mem_of_getElem? (i := 36) rfl))⟩)
  have o3 := Fld.start (own_ord es3 eo3)
  obtain ⟨s4, es4⟩ := exa_v ex4
  have S4 := Sta.start es4 (Or.inr ⟨(hw _ (List.mem_of_getElem? (i := 6) rfl)), (hw _ (List.mem_of_getElem? (i := 42) rfl))⟩)
  have o4 := Fld.start (own_ord es4 eo4)
  obtain ⟨s5, es5⟩ := exa_v ex5
  have S5 := Sta.start es5 (Or.inr ⟨(hw _ (List.mem_of_getElem? (i := 6) rfl)), (hw _ (List.mem_of_getElem? (i := 38) rfl))⟩)
  have o5 := Fld.start (own_ord es5 eo5)
  obtain ⟨s6, es6⟩ := exa_v ex6
  have S6 := Sta.start es6 (Or.inr ⟨(hw _ (List.mem_of_getElem? (i := 6) rfl)), (hw _ (List.mem_of_getElem? (i := 40) rfl))⟩)
  have o6 := Fld.start (own_ord es6 eo6)
  have d0 : s0 ≠ s2 := Fld.ne o0 o2 (by decide)
  have d1 : s1 ≠ s2 := Fld.ne o1 o2 (by decide)
  have d3 : s3 ≠ s2 := Fld.ne o3 o2 (by decide)
  have d4 : s4 ≠ s2 := Fld.ne o4 o2 (by decide)
  have d5 : s5 ≠ s2 := Fld.ne o5 o2 (by decide)
  have d6 : s6 ≠ s2 := Fld.ne o6 o2 (by decide)
  obtain ⟨n, o, h1, h2, h3, _, L, rfl, ⟨rfl, N⟩, hq⟩ := own_c0 l s _ hw tables_1 i0 s0 s1 s2 s3 s4 s5 s6 s.heap s.heap.size (Nat.le_refl _) S0 S1 S2 S3 S4 S5 S6 d0 d1 d3 d4 d5 d6 p e ha hc hk s m _ below hf ((Spec.applies_iff_loose hf).mp happ).1 ⟨rfl, State.Warmed39.refl s, rfl⟩ trivial
  refine ⟨n, _, h1, h2, h3, hpost _ _ _ _ _ _ ⟨Cond.after_iff.mpr rfl, Cond.after_iff.mpr (eq_i res_at (Term.int_eval (1)) rfl), trivial⟩ ⟨hq.1, hq.2.1, (hq.2.2.sift fun y hy => Or.inr (N y hy)).mono (by decide) (by decide)⟩⟩
theorem main_1_1 : Claimed_1_1 := comes_1 fun _ _ _ _ _ _ h hF => ⟨h.1, hF⟩
theorem main_1_2 : Claimed_1_2 := comes_1 fun _ _ _ _ _ _ h hF => ⟨h.2.1, hF⟩
end Jvm.Pilot.@@N@@
namespace Jvm.Pilot.@@N@@
open Jvm Jvm.ClassFile Sem Op Lib Jvm.Free Jvm.Stand Jvm.Pilot.@@N@@.Jvm.D
/-! MADE BY PROGRAM (witnessworld.py) out of the Statement's table words and the real class files: 13 classes; the members and pool entries that the words name. The judged class is class 1, her method 2. -/
namespace start1
open Jvm.ClassFile
def u (s : String) : CpInfo := .utf8 (stringToUtf16 s)
/-- a pool by its gaps: so many unusable entries, then the entry; so many at the end -/
def gap : Nat → List CpInfo → List CpInfo
  | 0, r => r
  | n + 1, r => .unusable :: gap n r
def poolList (es : List (Nat × CpInfo)) (last : Nat) : List CpInfo := es.foldr (fun e r => gap e.1 (e.2 :: r)) (gap last [])
def pool (es : List (Nat × CpInfo)) (last : Nat) : Array CpInfo := ⟨poolList es last⟩
def fileOf (pool : Array CpInfo) (this : Nat) (attrs : Array Attribute := #[]) (ms : Array MethodInfo := #[]) (fl : Nat := 33) (sup : Nat := 0) (ifs : Array Nat := #[]) (fds : Array FieldInfo := #[]) : ClassFile where
  minorVersion := 0
  majorVersion := 65
  constantPool := pool
  accessFlags := fl
  thisClass := this
  superClass := sup
  interfaces := ifs
  fields := fds
  methods := ms
  attributes := attrs
def plain (name : String) (sup : Option ClassId) : Class where
  name := name
  kind := .ordinary
  loader := none
  accessFlags := 33
  super := sup
  interfaces := #[]
  cf := none
  fields := #[]
  methods := #[]
  instanceTypes := #[]
  staticTypes := #[]
  resolved := #[]
  callSites := []
  init := .initialized
  statics := none
  mirror := none

def pool0 : Array CpInfo := pool [(5, u "<init>"), (0, u "()V"), (1, .class_ 10), (1, u "java/lang/Object")] 113

def k0c0 : Code := { maxStack := 0, maxLocals := 1, code := object_method_1_code, exceptionTable := #[], attributes := #[] }
def k0m0 : Method := { name := "<init>", desc := "()V", sig := { parameters := [], returnType := none }, accessFlags := 1, code := some k0c0 }
/-- java/lang/Object -/
def k0 : Class := { plain "java/lang/Object" none with
  accessFlags := 33
  interfaces := #[]
  cf := some (fileOf pool0 8 #[] #[{ accessFlags := 1, nameIndex := 5, descriptorIndex := 6, attributes := #[] }] 33 0 #[] #[])
  fields := #[]
  methods := #[k0m0]
  instanceTypes := #[]
  staticTypes := #[]
  resolved := Array.replicate 124 none
  statics := none }

def pool1 : Array CpInfo := pool [(2, .class_ 4), (1, u "java/lang/Object"), (0, u "<init>"), (0, u "()V"), (0, .fieldref 8 9), (0, .class_ 10), (0, .nameAndType 11 12), (0, u "com/example/apply_once/applyonce/model/Status"), (0, u "EXECUTED"), (0, u "Lcom/example/apply_once/applyonce/model/Status;"), (0, .fieldref 8 14), (0, .nameAndType 15 12), (0, u "REPLAYED"), (0, .fieldref 8 17), (0, .nameAndType 18 12), (0, u "IN_PROGRESS"), (0, .fieldref 8 20), (0, .nameAndType 21 12), (0, u "KEY_REUSED"), (0, .fieldref 8 23), (0, .nameAndType 24 12), (0, u "FAILED"), (0, .fieldref 8 26), (0, .nameAndType 27 12), (0, u "ATTEMPTS_EXHAUSTED"), (0, .fieldref 8 29), (0, .nameAndType 30 12), (0, u "SUPERSEDED"), (0, .integer 2147483647), (0, .methodref 33 34), (0, .class_ 35), (0, .nameAndType 36 37), (0, u "com/example/apply_once/applyonce/model/OutcomeInProgressPinLaw"), (0, u "pick"), (0, u "(I)Lcom/example/apply_once/applyonce/model/Status;"), (0, .methodref 39 40), (0, .class_ 41), (0, .nameAndType 42 43), (0, u "com/example/apply_once/applyonce/model/Outcome"), (0, u "inProgress"), (0, u "()Lcom/example/apply_once/applyonce/model/Outcome;"), (0, .methodref 39 45), (0, .nameAndType 46 47), (0, u "status"), (0, u "()Lcom/example/apply_once/applyonce/model/Status;"), (3, u "law"), (0, u "(I)Z")] 2

def k1m0 : Method := { name := "<init>", desc := "()V", sig := { parameters := [], returnType := none }, accessFlags := 1, code := none }
def k1c1 : Code := { maxStack := 2, maxLocals := 1, code := method_2_code, exceptionTable := #[], attributes := #[] }
def k1m1 : Method := { name := "pick", desc := "(I)Lcom/example/apply_once/applyonce/model/Status;", sig := { parameters := [.int], returnType := some (.object "com/example/apply_once/applyonce/model/Status") }, accessFlags := 10, code := some k1c1 }
def k1c2 : Code := { maxStack := 3, maxLocals := 5, code := code, exceptionTable := #[], attributes := #[] }
def k1m2 : Method := { name := "law", desc := "(I)Z", sig := { parameters := [.int], returnType := some .boolean }, accessFlags := 9, code := some k1c2 }
/-- com/example/apply_once/applyonce/model/OutcomeInProgressPinLaw -/
def k1 : Class := { plain "com/example/apply_once/applyonce/model/OutcomeInProgressPinLaw" (some 0) with
  accessFlags := 49
  interfaces := #[]
  cf := some (fileOf pool1 33 #[] #[{ accessFlags := 1, nameIndex := 5, descriptorIndex := 6, attributes := #[] }, { accessFlags := 10, nameIndex := 36, descriptorIndex := 37, attributes := #[] }, { accessFlags := 9, nameIndex := 51, descriptorIndex := 52, attributes := #[] }] 49 2 #[] #[])
  fields := #[]
  methods := #[k1m0, k1m1, k1m2]
  instanceTypes := #[]
  staticTypes := #[]
  resolved := Array.replicate 55 none
  statics := none }

def pool2 : Array CpInfo := pool [(1, .class_ 2), (0, u "java/lang/constant/Constable"), (0, .class_ 4), (0, u "java/lang/Object")] 6

/-- java/lang/constant/Constable -/
def k2 : Class := { plain "java/lang/constant/Constable" (some 0) with
  accessFlags := 1537
  interfaces := #[]
  cf := some (fileOf pool2 1 #[] #[] 1537 3 #[] #[])
  fields := #[]
  methods := #[]
  instanceTypes := #[]
  staticTypes := #[]
  resolved := Array.replicate 11 none
  statics := none }

def pool3 : Array CpInfo := pool [(1, .class_ 2), (0, u "java/lang/Comparable"), (0, .class_ 4), (0, u "java/lang/Object")] 7

/-- java/lang/Comparable -/
def k3 : Class := { plain "java/lang/Comparable" (some 0) with
  accessFlags := 1537
  interfaces := #[]
  cf := some (fileOf pool3 1 #[] #[] 1537 3 #[] #[])
  fields := #[]
  methods := #[]
  instanceTypes := #[]
  staticTypes := #[]
  resolved := Array.replicate 12 none
  statics := none }

def pool4 : Array CpInfo := pool [(1, .class_ 2), (0, u "java/io/Serializable"), (0, .class_ 4), (0, u "java/lang/Object")] 2

/-- java/io/Serializable -/
def k4 : Class := { plain "java/io/Serializable" (some 0) with
  accessFlags := 1537
  interfaces := #[]
  cf := some (fileOf pool4 1 #[] #[] 1537 3 #[] #[])
  fields := #[]
  methods := #[]
  instanceTypes := #[]
  staticTypes := #[]
  resolved := Array.replicate 7 none
  statics := none }

def pool5 : Array CpInfo := pool [(2, .class_ 4), (1, u "java/lang/Enum"), (0, u "name"), (0, u "Ljava/lang/String;"), (2, u "ordinal"), (0, u "I"), (1, .class_ 14), (1, u "java/lang/Object"), (4, u "hash"), (86, .class_ 108), (1, u "java/lang/Enum$EnumDesc"), (2, .class_ 112), (0, u "java/lang/constant/Constable"), (0, .class_ 114), (0, u "java/lang/Comparable"), (0, .class_ 116), (0, u "java/io/Serializable")] 87

/-- java/lang/Enum -/
def k5 : Class := { plain "java/lang/Enum" (some 0) with
  accessFlags := 1057
  interfaces := #[2, 3, 4]
  cf := some (fileOf pool5 2 #[.nestMembers #[106]] #[] 1057 12 #[111, 113, 115] #[{ accessFlags := 18, nameIndex := 5, descriptorIndex := 6, attributes := #[] }, { accessFlags := 18, nameIndex := 9, descriptorIndex := 10, attributes := #[] }, { accessFlags := 2, nameIndex := 19, descriptorIndex := 10, attributes := #[] }])
  fields := #[{ name := "name", type := (.object "java/lang/String"), accessFlags := 18, slot := 0, constantValue := 0 }, { name := "ordinal", type := .int, accessFlags := 18, slot := 1, constantValue := 0 }, { name := "hash", type := .int, accessFlags := 2, slot := 2, constantValue := 0 }]
  methods := #[]
  instanceTypes := #[(.object "java/lang/String"), .int, .int]
  staticTypes := #[]
  resolved := Array.replicate 204 none
  statics := none }

def pool6 : Array CpInfo := pool [(1, .class_ 2), (0, u "com/example/apply_once/applyonce/model/Status"), (2, u "EXECUTED"), (0, u "Lcom/example/apply_once/applyonce/model/Status;"), (2, u "REPLAYED"), (2, u "IN_PROGRESS"), (2, u "KEY_REUSED"), (2, u "FAILED"), (2, u "ATTEMPTS_EXHAUSTED"), (2, u "SUPERSEDED"), (2, u "$VALUES"), (0, u "[Lcom/example/apply_once/applyonce/model/Status;"), (6, .class_ 37), (1, u "java/lang/Enum")] 29

/-- com/example/apply_once/applyonce/model/Status -/
def k6 : Class := { plain "com/example/apply_once/applyonce/model/Status" (some 5) with
  accessFlags := 16433
  interfaces := #[]
  cf := some (fileOf pool6 1 #[] #[] 16433 35 #[] #[{ accessFlags := 16409, nameIndex := 5, descriptorIndex := 6, attributes := #[] }, { accessFlags := 16409, nameIndex := 9, descriptorIndex := 6, attributes := #[] }, { accessFlags := 16409, nameIndex := 12, descriptorIndex := 6, attributes := #[] }, { accessFlags := 16409, nameIndex := 15, descriptorIndex := 6, attributes := #[] }, { accessFlags := 16409, nameIndex := 18, descriptorIndex := 6, attributes := #[] }, { accessFlags := 16409, nameIndex := 21, descriptorIndex := 6, attributes := #[] }, { accessFlags := 16409, nameIndex := 24, descriptorIndex := 6, attributes := #[] }, { accessFlags := 4122, nameIndex := 27, descriptorIndex := 28, attributes := #[] }])
  fields := #[{ name := "EXECUTED", type := (.object "com/example/apply_once/applyonce/model/Status"), accessFlags := 16409, slot := 0, constantValue := 0 }, { name := "REPLAYED", type := (.object "com/example/apply_once/applyonce/model/Status"), accessFlags := 16409, slot := 1, constantValue := 0 }, { name := "IN_PROGRESS", type := (.object "com/example/apply_once/applyonce/model/Status"), accessFlags := 16409, slot := 2, constantValue := 0 }, { name := "KEY_REUSED", type := (.object "com/example/apply_once/applyonce/model/Status"), accessFlags := 16409, slot := 3, constantValue := 0 }, { name := "FAILED", type := (.object "com/example/apply_once/applyonce/model/Status"), accessFlags := 16409, slot := 4, constantValue := 0 }, { name := "ATTEMPTS_EXHAUSTED", type := (.object "com/example/apply_once/applyonce/model/Status"), accessFlags := 16409, slot := 5, constantValue := 0 }, { name := "SUPERSEDED", type := (.object "com/example/apply_once/applyonce/model/Status"), accessFlags := 16409, slot := 6, constantValue := 0 }, { name := "$VALUES", type := (.array (.object "com/example/apply_once/applyonce/model/Status")), accessFlags := 4122, slot := 7, constantValue := 0 }]
  methods := #[]
  instanceTypes := #[(.object "java/lang/String"), .int, .int]
  staticTypes := #[(.object "com/example/apply_once/applyonce/model/Status"), (.object "com/example/apply_once/applyonce/model/Status"), (.object "com/example/apply_once/applyonce/model/Status"), (.object "com/example/apply_once/applyonce/model/Status"), (.object "com/example/apply_once/applyonce/model/Status"), (.object "com/example/apply_once/applyonce/model/Status"), (.object "com/example/apply_once/applyonce/model/Status"), (.array (.object "com/example/apply_once/applyonce/model/Status"))]
  resolved := Array.replicate 67 none
  statics := some 0 }

def pool7 : Array CpInfo := pool [(1, .methodref 2 3), (0, .class_ 4), (0, .nameAndType 5 6), (0, u "java/lang/Object"), (0, u "<init>"), (0, u "()V"), (0, .fieldref 8 9), (0, .class_ 10), (0, .nameAndType 11 12), (0, u "com/example/apply_once/applyonce/model/Outcome"), (0, u "status"), (0, u "Lcom/example/apply_once/applyonce/model/Status;"), (0, .fieldref 8 14), (0, .nameAndType 15 16), (0, u "value"), (0, u "Ljava/lang/Object;"), (0, .fieldref 8 18), (0, .nameAndType 19 20), (0, u "failure"), (0, u "Ljava/lang/Exception;"), (0, .fieldref 8 22), (0, .nameAndType 23 24), (0, u "attempt"), (0, u "I"), (1, .class_ 28), (1, u "com/example/apply_once/applyonce/model/Status"), (1, .methodref 8 31), (0, .nameAndType 5 32), (0, u "(Lcom/example/apply_once/applyonce/model/Status;Ljava/lang/Object;Ljava/lang/Exception;I)V"), (3, .fieldref 26 37), (0, .nameAndType 38 12), (0, u "IN_PROGRESS"), (38, u "NO_ATTEMPT"), (11, u "inProgress"), (0, u "()Lcom/example/apply_once/applyonce/model/Outcome;"), (9, u "()Lcom/example/apply_once/applyonce/model/Status;")] 27

def k7c0 : Code := { maxStack := 2, maxLocals := 5, code := prog_8_method_1_code, exceptionTable := #[], attributes := #[] }
def k7m0 : Method := { name := "<init>", desc := "(Lcom/example/apply_once/applyonce/model/Status;Ljava/lang/Object;Ljava/lang/Exception;I)V", sig := { parameters := [(.object "com/example/apply_once/applyonce/model/Status"), (.object "java/lang/Object"), (.object "java/lang/Exception"), .int], returnType := none }, accessFlags := 2, code := some k7c0 }
def k7c1 : Code := { maxStack := 6, maxLocals := 0, code := prog_8_method_4_code, exceptionTable := #[], attributes := #[] }
def k7m1 : Method := { name := "inProgress", desc := "()Lcom/example/apply_once/applyonce/model/Outcome;", sig := { parameters := [], returnType := some (.object "com/example/apply_once/applyonce/model/Outcome") }, accessFlags := 9, code := some k7c1 }
def k7c2 : Code := { maxStack := 1, maxLocals := 1, code := prog_8_method_9_code, exceptionTable := #[], attributes := #[] }
def k7m2 : Method := { name := "status", desc := "()Lcom/example/apply_once/applyonce/model/Status;", sig := { parameters := [], returnType := some (.object "com/example/apply_once/applyonce/model/Status") }, accessFlags := 1, code := some k7c2 }
/-- com/example/apply_once/applyonce/model/Outcome -/
def k7 : Class := { plain "com/example/apply_once/applyonce/model/Outcome" (some 0) with
  accessFlags := 33
  interfaces := #[]
  cf := some (fileOf pool7 8 #[] #[{ accessFlags := 2, nameIndex := 5, descriptorIndex := 32, attributes := #[] }, { accessFlags := 9, nameIndex := 89, descriptorIndex := 90, attributes := #[] }, { accessFlags := 1, nameIndex := 11, descriptorIndex := 100, attributes := #[] }] 33 2 #[] #[{ accessFlags := 26, nameIndex := 77, descriptorIndex := 24, attributes := #[] }, { accessFlags := 18, nameIndex := 11, descriptorIndex := 12, attributes := #[] }, { accessFlags := 18, nameIndex := 15, descriptorIndex := 16, attributes := #[] }, { accessFlags := 18, nameIndex := 19, descriptorIndex := 20, attributes := #[] }, { accessFlags := 18, nameIndex := 23, descriptorIndex := 24, attributes := #[] }])
  fields := #[{ name := "NO_ATTEMPT", type := .int, accessFlags := 26, slot := 0, constantValue := 0 }, { name := "status", type := (.object "com/example/apply_once/applyonce/model/Status"), accessFlags := 18, slot := 0, constantValue := 0 }, { name := "value", type := (.object "java/lang/Object"), accessFlags := 18, slot := 1, constantValue := 0 }, { name := "failure", type := (.object "java/lang/Exception"), accessFlags := 18, slot := 2, constantValue := 0 }, { name := "attempt", type := .int, accessFlags := 18, slot := 3, constantValue := 0 }]
  methods := #[k7m0, k7m1, k7m2]
  instanceTypes := #[(.object "com/example/apply_once/applyonce/model/Status"), (.object "java/lang/Object"), (.object "java/lang/Exception"), .int]
  staticTypes := #[.int]
  resolved := Array.replicate 128 none
  statics := none }

def pool8 : Array CpInfo := pool [(1, u "java/lang/Cloneable"), (0, .class_ 1), (0, u "java/lang/Object"), (0, .class_ 3)] 3

/-- java/lang/Cloneable -/
def k8 : Class := { plain "java/lang/Cloneable" (some 0) with
  accessFlags := 1537
  interfaces := #[]
  cf := some (fileOf pool8 2 #[] #[] 1537 4 #[] #[])
  fields := #[]
  methods := #[]
  instanceTypes := #[]
  staticTypes := #[]
  resolved := Array.replicate 8 none
  statics := none }

/-- the primitive byte -/
def k9 : Class := { plain "byte" none with kind := .primitive 'B', accessFlags := 0x411 }
/-- [B -/
def k10 : Class := { plain "[B" (some 0) with kind := .array 9 .byte, interfaces := #[8, 4], accessFlags := 1041 }

/-- the primitive int -/
def k11 : Class := { plain "int" none with kind := .primitive 'I', accessFlags := 0x411 }
/-- [I -/
def k12 : Class := { plain "[I" (some 0) with kind := .array 11 .int, interfaces := #[8, 4], accessFlags := 1041 }

def heap : Heap := #[{ cls := 6, slots := #[.ref 1, .ref 2, .ref 3, .ref 4, .ref 5, .ref 6, .ref 7, .null], vm := .statics 6 },
  { cls := 6, slots := #[.null, .int 0, .int 0], vm := .none },
  { cls := 6, slots := #[.null, .int 1, .int 0], vm := .none },
  { cls := 6, slots := #[.null, .int 2, .int 0], vm := .none },
  { cls := 6, slots := #[.null, .int 3, .int 0], vm := .none },
  { cls := 6, slots := #[.null, .int 4, .int 0], vm := .none },
  { cls := 6, slots := #[.null, .int 5, .int 0], vm := .none },
  { cls := 6, slots := #[.null, .int 6, .int 0], vm := .none }]
def classes : Array Class := #[k0, k1, k2, k3, k4, k5, k6, k7, k8, k9, k10, k11, k12]
def interned : List (Array UInt16 × Addr) := []
def slotsUsed : Nat := 29
def theMethod : MethodId := ⟨1, 2⟩
def args0 : Array Value := #[.int 5]
def aboutOver (below : List Frame) : State where
  vm := { classes := classes, interned := interned.toArray }
  heap := heap
  slotsUsed := slotsUsed
  threads := #[{ frames := .invoking theMethod args0 :: below }]
def below0 : List Frame := [.native { method := ⟨0, 0⟩, args := #[] }]
def about1 : State := aboutOver below0
def p0 : Program := .bare "" "" ""
def e0 : Env := launch0.env 0 0 0
theorem w_frames : about1.frames = Frame.invoking theMethod args0 :: below0 := rfl
set_option maxRecDepth 65536 in
theorem w_args : argsFit about1.vm theMethod args0 = true := by decide +kernel
set_option maxRecDepth 65536 in
theorem w_heap : heapFits about1 = true := by decide +kernel
set_option maxRecDepth 65536 in
theorem w_runnable : about1.curStatus? = some .runnable := by decide +kernel
set_option maxRecDepth 65536 in
theorem w_alone : about1.alone = true := by decide +kernel
set_option maxRecDepth 65536 in
theorem w_named : about1.methodNamed? x = some theMethod := by decide +kernel
set_option maxRecDepth 65536 in
theorem w_hears : about1.hears theMethod below0 = true := by decide +kernel
set_option maxRecDepth 65536 in
theorem w_ripe : about1.ripe theMethod args0 below0 = true := by decide +kernel
theorem w_running : about1.status = .running := rfl
set_option maxRecDepth 65536 in
theorem w_room : about1.hasRoom e0.platform room_1 = true :=
  launch0.hasRoom_least _ room_1 (by decide +kernel) (by decide +kernel) (by decide +kernel) (by decide +kernel) (by decide +kernel) (by decide +kernel)
theorem allAtoms_all (ts : List Jvm.Cond) (a : Array Jvm.Value) (st : Jvm.State) : (allAtoms ts).before a st = ts.all (fun c => c.before a st) := by
  induction ts with
  | nil => rfl
  | cons c t ih =>
    show (Jvm.Cond.and c (allAtoms t)).before a st = _
    rw [Jvm.Cond.before_and, ih, List.all_cons]
def words1 : List Jvm.Cond := Jvm.Cond.code x code maxLocals ret :: tables_1
/-- a 'code' word, met by the world's own term for the bytes: nothing is compared byte by byte -/
theorem code_word {y : MethodName} {bytes : ByteArray} {mx : Nat} {rt : Option FieldType} {a : Array Value} {s : State} {m : MethodId} {meth : Method} {c : Code} (h1 : s.methodNamed? y = some m) (h2 : s.vm.method? m = some meth) (h3 : meth.code = some c) (h4 : c.code = bytes)
    (h5 : (c.maxLocals == mx && c.exceptionTable.isEmpty && decide (c.maxStack ≤ mostOperands) && decide (meth.sig.returnType = rt) && !meth.locks && decide (parseMethodDescriptor y.desc = some meth.sig)) = true) : (Jvm.Cond.code y bytes mx rt).before a s = true := by
  simp only [Bool.and_eq_true, beq_iff_eq, Bool.not_eq_true', decide_eq_true_eq] at h5
  obtain ⟨⟨⟨⟨⟨g1, g2⟩, g3⟩, g4⟩, g5⟩, g6⟩ := h5
  simp [Cond.before, Cond.holds, Cond.value, h1, h2, h3, h4, g1, g2, g3, g4, g5, g6]
def isCode : Jvm.Cond → Bool
  | .code _ _ _ _ => true
  | _ => false
theorem all_split {L : List Jvm.Cond} {P : Jvm.Cond → Bool} (h1 : L.all (fun c => isCode c || P c) = true) (h2 : ∀ c ∈ L.filter isCode, P c = true) : L.all P = true := by
  refine List.all_eq_true.mpr fun c hc => ?_
  have h := List.all_eq_true.mp h1 c hc
  rcases Bool.eq_false_or_eq_true (isCode c) with hi | hi
  · exact h2 c (List.mem_filter.mpr ⟨hc, hi⟩)
  · simpa [hi] using h
set_option maxRecDepth 65536 in
theorem w_c0 : (Jvm.Cond.code x code maxLocals ret).before args0 about1 = true := code_word (m := ⟨1, 2⟩) (meth := k1m2) (c := k1c2) (by decide +kernel) rfl rfl rfl (by decide +kernel)
set_option maxRecDepth 65536 in
theorem w_c1 : (Jvm.Cond.code ({ cls := "com/example/apply_once/applyonce/model/OutcomeInProgressPinLaw", name := "pick", desc := "(I)Lcom/example/apply_once/applyonce/model/Status;" } : Jvm.MethodName) method_2_code (1 : Nat) (Option.some (Jvm.ClassFile.FieldType.object "com/example/apply_once/applyonce/model/Status"))).before args0 about1 = true := code_word (m := ⟨1, 1⟩) (meth := k1m1) (c := k1c1) (by decide +kernel) rfl rfl rfl (by decide +kernel)
set_option maxRecDepth 65536 in
theorem w_c2 : (Jvm.Cond.code ({ cls := "com/example/apply_once/applyonce/model/Outcome", name := "inProgress", desc := "()Lcom/example/apply_once/applyonce/model/Outcome;" } : Jvm.MethodName) prog_8_method_4_code (0 : Nat) (Option.some (Jvm.ClassFile.FieldType.object "com/example/apply_once/applyonce/model/Outcome"))).before args0 about1 = true := code_word (m := ⟨7, 1⟩) (meth := k7m1) (c := k7c1) (by decide +kernel) rfl rfl rfl (by decide +kernel)
set_option maxRecDepth 65536 in
theorem w_c3 : (Jvm.Cond.code ({ cls := "com/example/apply_once/applyonce/model/Outcome", name := "<init>", desc := "(Lcom/example/apply_once/applyonce/model/Status;Ljava/lang/Object;Ljava/lang/Exception;I)V" } : Jvm.MethodName) prog_8_method_1_code (5 : Nat) (Option.none : Option Jvm.ClassFile.FieldType)).before args0 about1 = true := code_word (m := ⟨7, 0⟩) (meth := k7m0) (c := k7c0) (by decide +kernel) rfl rfl rfl (by decide +kernel)
set_option maxRecDepth 65536 in
theorem w_c4 : (Jvm.Cond.code ({ cls := "java/lang/Object", name := "<init>", desc := "()V" } : Jvm.MethodName) object_method_1_code (1 : Nat) (Option.none : Option Jvm.ClassFile.FieldType)).before args0 about1 = true := code_word (m := ⟨0, 0⟩) (meth := k0m0) (c := k0c0) (by decide +kernel) rfl rfl rfl (by decide +kernel)
set_option maxRecDepth 65536 in
theorem w_c5 : (Jvm.Cond.code ({ cls := "com/example/apply_once/applyonce/model/Outcome", name := "status", desc := "()Lcom/example/apply_once/applyonce/model/Status;" } : Jvm.MethodName) prog_8_method_9_code (1 : Nat) (Option.some (Jvm.ClassFile.FieldType.object "com/example/apply_once/applyonce/model/Status"))).before args0 about1 = true := code_word (m := ⟨7, 2⟩) (meth := k7m2) (c := k7c2) (by decide +kernel) rfl rfl rfl (by decide +kernel)
def codes1 : List Jvm.Cond := [Jvm.Cond.code x code maxLocals ret, Jvm.Cond.code ({ cls := "com/example/apply_once/applyonce/model/OutcomeInProgressPinLaw", name := "pick", desc := "(I)Lcom/example/apply_once/applyonce/model/Status;" } : Jvm.MethodName) method_2_code (1 : Nat) (Option.some (Jvm.ClassFile.FieldType.object "com/example/apply_once/applyonce/model/Status")), Jvm.Cond.code ({ cls := "com/example/apply_once/applyonce/model/Outcome", name := "inProgress", desc := "()Lcom/example/apply_once/applyonce/model/Outcome;" } : Jvm.MethodName) prog_8_method_4_code (0 : Nat) (Option.some (Jvm.ClassFile.FieldType.object "com/example/apply_once/applyonce/model/Outcome")), Jvm.Cond.code ({ cls := "com/example/apply_once/applyonce/model/Outcome", name := "<init>", desc := "(Lcom/example/apply_once/applyonce/model/Status;Ljava/lang/Object;Ljava/lang/Exception;I)V" } : Jvm.MethodName) prog_8_method_1_code (5 : Nat) (Option.none : Option Jvm.ClassFile.FieldType), Jvm.Cond.code ({ cls := "java/lang/Object", name := "<init>", desc := "()V" } : Jvm.MethodName) object_method_1_code (1 : Nat) (Option.none : Option Jvm.ClassFile.FieldType), Jvm.Cond.code ({ cls := "com/example/apply_once/applyonce/model/Outcome", name := "status", desc := "()Lcom/example/apply_once/applyonce/model/Status;" } : Jvm.MethodName) prog_8_method_9_code (1 : Nat) (Option.some (Jvm.ClassFile.FieldType.object "com/example/apply_once/applyonce/model/Status"))]
set_option maxRecDepth 65536 in
theorem codes_eq : words1.filter isCode = codes1 := rfl
theorem w_codes : ∀ c ∈ words1.filter isCode, c.before args0 about1 = true := by
  rw [codes_eq]
  intro c hc
  simp only [codes1, List.mem_cons, List.not_mem_nil, or_false] at hc
  rcases hc with rfl | rfl | rfl | rfl | rfl | rfl
  · exact w_c0
  · exact w_c1
  · exact w_c2
  · exact w_c3
  · exact w_c4
  · exact w_c5
set_option maxRecDepth 65536 in
theorem w_t1 : (words1.take 24).all (fun c => isCode c || c.before args0 about1) = true := by decide +kernel
set_option maxRecDepth 65536 in
theorem w_t2 : (words1.drop 24).all (fun c => isCode c || c.before args0 about1) = true := by decide +kernel
theorem w_tables : (allAtoms (Jvm.Cond.code x code maxLocals ret :: tables_1)).before args0 about1 = true := by
  rw [allAtoms_all]
  show words1.all (fun c => c.before args0 about1) = true
  refine all_split ?_ w_codes
  rw [← List.take_append_drop 24 words1, List.all_append, w_t1, w_t2]
  rfl
set_option maxRecDepth 65536 in
theorem w_case : (Jvm.Cond.and given_1 narrow_1).before args0 about1 = true := by decide +kernel
theorem w_applies : (headSpec (Jvm.Cond.code x code maxLocals ret :: tables_1) room_1).applies x e0.platform about1 = true :=
  (Spec.applies_iff w_frames).mpr ⟨w_running, w_runnable, w_alone, w_named, w_hears, w_ripe, w_room, w_tables⟩
theorem atStart : AtStart classFile x code maxLocals ret World_1 tables_1 room_1 Calls_1 rest_1 Pre_1 launch0 p0 e0 about1 theMethod args0 below0 :=
  ⟨lists_1, trivial, launch0.admits_env _ _ _, launch0.least_env, fairChoices_fair.cas, fairChoices_fair.clock, w_frames, w_args, w_heap, w_applies, trivial, trivial, w_case⟩
end start1
theorem witness_1 : WitnessClaimed_1 := ⟨start1.p0, start1.e0, start1.about1, start1.theMethod, start1.args0, start1.below0, start1.atStart⟩
end Jvm.Pilot.@@N@@
