import JvmDerived
import JvmDerived.Pilot.@@N@@Statement
import JvmDerived.Pilot.@@N@@Code
set_option linter.unusedVariables false
set_option linter.unusedSimpArgs false
namespace Jvm.Pilot.@@N@@
open Jvm Jvm.ClassFile Sem Op Lib Jvm.Free Jvm.Stand Jvm.LawKit Jvm.RoadKit Bundle Jvm.Pilot.@@N@@.Jvm.D
/-! own kit: 'from this state the body comes to its end as asked', so that a walk may fork and join -/
def own_Rch (p : Program) (e : Env) (below : List Frame) (F : Outcome → State → Prop) (S : State) : Prop :=
  ∃ s₂ o, Steps p.tables e below S s₂ ∧ s₂.status = .running ∧ Ended s₂ below o ∧ F o s₂
theorem own_go {p : Program} {e : Env} {below : List Frame} {F : Outcome → State → Prop} {S S' : State}
    (h : ∀ t, Steps p.tables e below S' t → Steps p.tables e below S t) (k : own_Rch p e below F S') : own_Rch p e below F S := by
  obtain ⟨a, b, c, d⟩ := k
  exact ⟨a, b, h _ c, d⟩
theorem own_cast {p : Program} {e : Env} {below : List Frame} {F : Outcome → State → Prop} {T : State} {g g' : JFrame} (q : g = g')
    (k : own_Rch p e below F (T.setTop g')) : own_Rch p e below F (T.setTop g) := q ▸ k
theorem own_join {p : Program} {e : Env} {below : List Frame} {F : Outcome → State → Prop} {S S' : State} (h : own_Rch p e below F S' → own_Rch p e below F S) (k : own_Rch p e below F S') : own_Rch p e below F S := h k
theorem own_narR {v : Value} {c : String} (h : v.isRef = true) : narrow (.object c) v = v := by rcases ref_cases h with rfl | ⟨_, rfl⟩ <;> rfl
theorem own_fitR {v : Value} {c : String} (h : v.isRef = true) : fits (.object c) v = true := by rcases ref_cases h with rfl | ⟨_, rfl⟩ <;> rfl
theorem own_staK {Z : State} {h h' : Heap} {C n d : String} {w : Value} (F : Sta Z h C n d w) (K : Keep h h' []) : Sta Z h' C n d w := by
  obtain ⟨cf, i, k, f, st, cell, h1, h2, h3, h4, h5, r⟩ := F
  exact ⟨cf, i, k, f, st, cell, h1, h2, h3, h4, K.2.1 _ _ h5 nin0, r⟩
def own_Fin (s : State) (k n : Nat) (Q : Option Value → Heap → List Loc → Prop) (o : Outcome) (t : State) : Prop :=
  ∃ v L, o = .returned v ∧ Q v t.heap L ∧ FrameEnd s o t L k n
def own_Ctr (l : Launch) (Z : State) (y : MethodName) (bytes : ByteArray) (maxL : Nat) (ret : Option FieldType) (ws : List Jvm.Cond) (rm : Room) (h0 : Heap) (as' : Array Value)
    (Q : Option Value → Heap → List Loc → Prop) : Prop :=
  MetFree l y (head1 (Jvm.Cond.code y bytes maxL ret :: ws) rm) (fun a U => a = as' ∧ Z.Warmed39 U.vm ∧ U.heap = h0) (fun _ _ _ _ _ => True) (fun _ U o U' => ∃ v L, o = .returned v ∧ Q v U'.heap L ∧ FrameEnd U o U' L rm.cells rm.slots)
theorem own_ctr {l : Launch} {Z : State} {y : MethodName} {bytes : ByteArray} {maxL : Nat} {ret : Option FieldType} {ws : List Jvm.Cond} {rm : Room} {h0 : Heap} {as' : Array Value}
    {Q : Option Value → Heap → List Loc → Prop} (hp : plainFor y = true)
    (body : ∀ p e s m below meth c s₁, BodyLoose p l y (head1 (Jvm.Cond.code y bytes maxL ret :: ws) rm) bytes maxL ret e s m as' below meth c s₁ → c.maxLocals = maxL → p.tables.exec = Jvm.exec → c.code = bytes →
      Z.Warmed39 s.vm → s.vm.findClass y.cls = some m.cls → Stand p l e rm s m as' below meth c s₁ [] 0 0 → s₁.heap = h0 →
      own_Rch p e below (own_Fin s rm.cells rm.slots Q) (s₁.setTop (entryFrame m as' maxL))) : own_Ctr l Z y bytes maxL ret ws rm h0 as' Q := by
  refine MetFree.of_bodySF hp hisR ?_
  intro p e s m args below meth c s₁ Bd hml hP hK
  obtain ⟨rfl, hZ, hh⟩ := hP
  exact body p e s m below meth c s₁ Bd hml Bd.exec Bd.bytes hZ (findClass_of_methodNamed Bd.named) (Stand.of_body Bd) (by rw [← hh, Bd.state]; rfl)
section OwnKit
variable {p : Program} {l : Launch} {e : Env} {R : Room} {s : State} {m : MethodId} {args : Array Value} {below : List Frame} {meth : Method} {c : Code} {T : State} {locs : List Loc} {cells slots : Nat} {Z : State} {a0 : Array Value}
theorem own_retI0 (X : Stand p l e R s m args below meth c T locs cells slots) (hx : p.tables.exec = Jvm.exec) {pc : Nat} {Ls : Array Slot} {z : Int32} {rest : List Value} (hret : meth.sig.returnType = some .int) (hd : decode c.code pc = .ok (.ireturn, 1)) {fs : List Frame}
    (hl : ∀ (f : JFrame) (acts : List Action), f.method = m → f.locked = none → f.entered = [] → (doReturn e (T.setTop f) acts (some (.int z))).1 = T.setFrames fs) : Steps p.tables e below (T.setTop (mkF m pc Ls (.int z :: rest))) (T.setFrames fs) :=
  retOut X hx hret rfl (Or.inl ⟨rfl, Or.inl rfl, z, rfl⟩) hd hl
theorem own_retN {K N : Nat} {Q : Option Value → Heap → List Loc → Prop} (X : Stand p l e R s m args below meth c T locs cells slots) (hx : p.tables.exec = Jvm.exec) {pc : Nat} {Ls : Array Slot} {z w : Int32} {t : FieldType} {rest : List Value}
    (hret : meth.sig.returnType = some t) (hlocks : meth.locks = false) (ht : t = .boolean ∨ t = .byte ∨ t = .char ∨ t = .short) (hd : decode c.code pc = .ok (.ireturn, 1)) (hw : nar t z = w) (hK : cells ≤ K) (hN : slots ≤ N)
    (hq : Q (some (.int w)) T.heap locs) : own_Rch p e below (own_Fin s K N Q) (T.setTop (mkF m pc Ls (.int z :: rest))) := by
  subst hw
  obtain ⟨fs, hr, hrun, hended, hW, hsame⟩ := X.leave (v := some (.int (nar t z))) (fun h => by rw [hret] at h; cases h) hlocks
  exact ⟨_, _, retN X hx hret ht hd hr, hrun, hended, _, _, rfl, hq, ⟨_, rfl⟩, hW, hsame.mono hK hN⟩
theorem own_retI {K N : Nat} {Q : Option Value → Heap → List Loc → Prop} (X : Stand p l e R s m args below meth c T locs cells slots) (hx : p.tables.exec = Jvm.exec) {pc : Nat} {Ls : Array Slot} {z : Int32} {rest : List Value}
    (hret : meth.sig.returnType = some .int) (hlocks : meth.locks = false) (hd : decode c.code pc = .ok (.ireturn, 1)) (hK : cells ≤ K) (hN : slots ≤ N)
    (hq : Q (some (.int z)) T.heap locs) : own_Rch p e below (own_Fin s K N Q) (T.setTop (mkF m pc Ls (.int z :: rest))) := by
  obtain ⟨fs, hr, hrun, hended, hW, hsame⟩ := X.leave (v := some (.int z)) (fun h => by rw [hret] at h; cases h) hlocks
  exact ⟨_, _, own_retI0 X hx hret hd hr, hrun, hended, _, _, rfl, hq, ⟨_, rfl⟩, hW, hsame.mono hK hN⟩
theorem own_retJ {K N : Nat} {Q : Option Value → Heap → List Loc → Prop} (X : Stand p l e R s m args below meth c T locs cells slots) (hx : p.tables.exec = Jvm.exec) {pc : Nat} {Ls : Array Slot} {z : Int64} {rest : List Value}
    (hret : meth.sig.returnType = some .long) (hlocks : meth.locks = false) (hd : decode c.code pc = .ok (.lreturn, 1)) (hK : cells ≤ K) (hN : slots ≤ N)
    (hq : Q (some (.long z)) T.heap locs) : own_Rch p e below (own_Fin s K N Q) (T.setTop (mkF m pc Ls (.long z :: rest))) := by
  obtain ⟨fs, hr, hrun, hended, hW, hsame⟩ := X.leave (v := some (.long z)) (fun h => by rw [hret] at h; cases h) hlocks
  exact ⟨_, _, retOut X hx hret rfl (Or.inr (Or.inl ⟨rfl, rfl, z, rfl⟩)) hd hr, hrun, hended, _, _, rfl, hq, ⟨_, rfl⟩, hW, hsame.mono hK hN⟩
theorem own_retA {K N : Nat} {Q : Option Value → Heap → List Loc → Prop} (X : Stand p l e R s m args below meth c T locs cells slots) (hx : p.tables.exec = Jvm.exec) {pc : Nat} {Ls : Array Slot} {w : Value} {t : FieldType} {rest : List Value}
    (hret : meth.sig.returnType = some t) (hlocks : meth.locks = false) (ht : t.isReference = true) (hw : w.isRef = true) (hn : narrow t w = w) (hd : decode c.code pc = .ok (.areturn, 1)) (hK : cells ≤ K) (hN : slots ≤ N)
    (hq : Q (some w) T.heap locs) : own_Rch p e below (own_Fin s K N Q) (T.setTop (mkF m pc Ls (w :: rest))) := by
  obtain ⟨fs, hr, hrun, hended, hW, hsame⟩ := X.leave (v := some w) (fun h => by rw [hret] at h; cases h) hlocks
  exact ⟨_, _, retOut X hx hret hn (Or.inr (Or.inr (Or.inr (Or.inr ⟨rfl, ht, hw⟩)))) hd hr, hrun, hended, _, _, rfl, hq, ⟨_, rfl⟩, hW, hsame.mono hK hN⟩
theorem own_ret0 {K N : Nat} {Q : Option Value → Heap → List Loc → Prop} (X : Stand p l e R s m args below meth c T locs cells slots) (hx : p.tables.exec = Jvm.exec) {pc : Nat} {Ls : Array Slot}
    (hret : meth.sig.returnType = none) (hlocks : meth.locks = false) (hd : decode c.code pc = .ok (.return_, 1)) (hK : cells ≤ K) (hN : slots ≤ N)
    (hq : Q none T.heap locs) : own_Rch p e below (own_Fin s K N Q) (T.setTop (mkF m pc Ls [])) := by
  obtain ⟨fs, hr, hrun, hended, hW, hsame⟩ := X.leave (v := none) (fun _ => rfl) hlocks
  exact ⟨_, _, X.returnOut hx hret hd hr, hrun, hended, _, _, rfl, hq, ⟨_, rfl⟩, hW, hsame.mono hK hN⟩
theorem own_callS (X : Stand p l e R s m args below meth c T locs cells slots) (hx : p.tables.exec = Jvm.exec) (hZ : Z.Warmed39 s.vm) {own : String} {index : Nat} {y : MethodName} {bytes : ByteArray} {maxL : Nat} {ret : Option FieldType}
    (hown : s.vm.findClass own = some m.cls) (w1 : (Jvm.Cond.methodLink own index y).before a0 Z = true) (w2 : (Jvm.Cond.static y).before a0 Z = true) (w3 : (Jvm.Cond.initialized y.cls).before a0 Z = true) (w4 : (Jvm.Cond.code y bytes maxL ret).before a0 Z = true)
    (hy : y.cls ≠ "java/lang/invoke/MethodHandle" ∧ y.cls ≠ "java/lang/invoke/VarHandle") {rm : Room} {h : Heap} {as' : Array Value} {Q : Option Value → Heap → List Loc → Prop} (hM : own_Ctr l Z y bytes maxL ret [] rm h as' Q) (eT : T.heap = h)
    {W : Nat} (hf : rm.frames + 1 ≤ R.frames) (hl : W + (maxL + 11) + rm.locals ≤ R.locals) {g : JFrame} (hg : g.method = m) (hsize : g.locals.size = c.maxLocals) {argsL rest : List Value}
    (hlen : ∀ sig, parseMethodDescriptor y.desc = some sig → argsL.length = sig.parameters.length) (hstack : g.stack = argsL.reverse ++ rest) (has : argsL.toArray = as') (hW : 2 * g.monitorRoom + (rest.map fun v => v.category).sum = W)
    (hdg : decode c.code g.pc = .ok (.invokestatic index, 3)) (hc : cells + rm.cells ≤ R.cells) (hs : slots + rm.slots ≤ R.slots) :
    ∃ v T' L, Stand p l e R s m args below meth c T' (locs ++ L) (cells + rm.cells) (slots + rm.slots) ∧ Q v T'.heap L ∧
      ∀ t, Steps p.tables e below (T'.setTop { g with pc := g.pc + 3, stack := v.toList ++ rest }) t → Steps p.tables e below (T.setTop g) t := by
  obtain ⟨v, _, ⟨T', L', k', n'⟩, -, X', ⟨Lc, hQ, l', y', z'⟩, st⟩ := Jvm.LawKit.callS X hx hown (mvT hZ w1) (mvT hZ w2) (mvT hZ w3) (mvT hZ w4) hy (backOf (Q := Q) (W := W) hM hZ w4 w3 hf hl) hg hsize hlen hstack (Nat.le_of_eq hW) hdg (fun _ _ => ⟨has, eT, hc, hs⟩)
  dsimp only [Pt.U, Pt.locs, Pt.cells, Pt.slots] at X' l' y' z' st hQ
  subst l' y' z'
  exact ⟨v, T', Lc, X', hQ, st⟩
theorem own_callC (X : Stand p l e R s m args below meth c T locs cells slots) (hx : p.tables.exec = Jvm.exec) (hZ : Z.Warmed39 s.vm) {own : String} {index : Nat} {y : MethodName} {bytes : ByteArray} {maxL : Nat} (hy1 : y.name = "<init>")
    (hown : s.vm.findClass own = some m.cls) (w1 : (Jvm.Cond.methodLink own index y).before a0 Z = true) (w2 : (Jvm.Cond.instanceMethod y).before a0 Z = true) (w3 : (Jvm.Cond.initialized y.cls).before a0 Z = true) (w4 : (Jvm.Cond.code y bytes maxL none).before a0 Z = true)
    (hy : y.cls ≠ "java/lang/invoke/MethodHandle" ∧ y.cls ≠ "java/lang/invoke/VarHandle") {rm : Room} {h : Heap} {as' : Array Value} {Q : Option Value → Heap → List Loc → Prop} (hM : own_Ctr l Z y bytes maxL none [] rm h as' Q) (eT : T.heap = h)
    {W : Nat} (hf : rm.frames + 1 ≤ R.frames) (hl : W + (maxL + 11) + rm.locals ≤ R.locals) {g : JFrame} (hg : g.method = m) (hsize : g.locals.size = c.maxLocals) {a : Addr} {argsL rest : List Value}
    (hlen : ∀ sig, parseMethodDescriptor y.desc = some sig → argsL.length = sig.parameters.length) (hstack : g.stack = argsL.reverse ++ .ref a :: rest) (has : (.ref a :: argsL).toArray = as') (hW : 2 * g.monitorRoom + (rest.map fun v => v.category).sum = W)
    (hdg : decode c.code g.pc = .ok (.invokespecial index, 3)) (hc : cells + rm.cells ≤ R.cells) (hs : slots + rm.slots ≤ R.slots) :
    ∃ v T' L, Stand p l e R s m args below meth c T' (locs ++ L) (cells + rm.cells) (slots + rm.slots) ∧ Q v T'.heap L ∧
      ∀ t, Steps p.tables e below (T'.setTop { g with pc := g.pc + 3, stack := v.toList ++ rest }) t → Steps p.tables e below (T.setTop g) t := by
  obtain ⟨v, _, ⟨T', L', k', n'⟩, -, X', ⟨Lc, hQ, l', y', z'⟩, st⟩ := X.specialBack hx hy1 hown (mvT hZ w1) (mvT hZ w2) (mvT hZ w4) hy (backOf (Q := Q) (W := W) hM hZ w4 w3 hf hl) hg hsize (Steps.refl _) hlen hstack (Nat.le_of_eq hW) hdg (fun _ _ => ⟨has, eT, hc, hs⟩)
  dsimp only [Pt.U, Pt.locs, Pt.cells, Pt.slots] at X' l' y' z' st hQ
  subst l' y' z'
  exact ⟨v, T', Lc, X', hQ, fun t k => st.trans k⟩
theorem own_callV (X : Stand p l e R s m args below meth c T locs cells slots) (hx : p.tables.exec = Jvm.exec) (hZ : Z.Warmed39 s.vm) {own C : String} {index : Nat} {y z : MethodName} {bytes : ByteArray} {maxL : Nat} {ret : Option FieldType}
    (hown : s.vm.findClass own = some m.cls) (w1 : (Jvm.Cond.methodLink own index y).before a0 Z = true) (w2 : (Jvm.Cond.declares y).before a0 Z = true) (nf : NotFace s y) (w5 : (Jvm.Cond.selects C y z).before a0 Z = true) (w6 : (Jvm.Cond.instanceMethod z).before a0 Z = true)
    (w3 : (Jvm.Cond.initialized z.cls).before a0 Z = true) (w4 : (Jvm.Cond.code z bytes maxL ret).before a0 Z = true)
    (hy : y.cls ≠ "java/lang/invoke/MethodHandle" ∧ y.cls ≠ "java/lang/invoke/VarHandle") {rm : Room} {h : Heap} {as' : Array Value} {Q : Option Value → Heap → List Loc → Prop} (hM : own_Ctr l Z z bytes maxL ret [] rm h as' Q) (eT : T.heap = h)
    {b : Addr} (E : Exa Z h b C)
    {W : Nat} (hf : rm.frames + 1 ≤ R.frames) (hl : W + (maxL + 11) + rm.locals ≤ R.locals) {g : JFrame} (hg : g.method = m) (hsize : g.locals.size = c.maxLocals) {argsL rest : List Value}
    (hlen : ∀ sig, parseMethodDescriptor y.desc = some sig → argsL.length = sig.parameters.length) (hstack : g.stack = argsL.reverse ++ .ref b :: rest) (has : (.ref b :: argsL).toArray = as') (hW : 2 * g.monitorRoom + (rest.map fun v => v.category).sum = W)
    (hdg : decode c.code g.pc = .ok (.invokevirtual index, 3)) (hc : cells + rm.cells ≤ R.cells) (hs : slots + rm.slots ≤ R.slots) :
    ∃ v T' L, Stand p l e R s m args below meth c T' (locs ++ L) (cells + rm.cells) (slots + rm.slots) ∧ Q v T'.heap L ∧
      ∀ t, Steps p.tables e below (T'.setTop { g with pc := g.pc + 3, stack := v.toList ++ rest }) t → Steps p.tables e below (T.setTop g) t := by
  obtain ⟨cq, kq, qa, qb, qc⟩ := isOf hZ eT E
  obtain ⟨v, _, ⟨T', L', k', n'⟩, -, X', ⟨Lc, hQ, l', y', z'⟩, st⟩ := X.virtualBack hx hown (mvT hZ w1) (mvT hZ w2) nf (mvT hZ w5) (mvT hZ w6) hy (backOf (Q := Q) (W := W) hM hZ w4 w3 hf hl) qa qc hg hsize (Steps.refl _) hlen hstack (Nat.le_of_eq hW) hdg (fun _ _ => ⟨has, eT, hc, hs⟩)
  dsimp only [Pt.U, Pt.locs, Pt.cells, Pt.slots] at X' l' y' z' st hQ
  subst l' y' z'
  exact ⟨v, T', Lc, X', hQ, fun t k => st.trans k⟩
end OwnKit
def own_up (p : Int32) : Int32 := nar .byte (if p < (97 : Int32) then p else if (122 : Int32) < p then p else (p - (32 : Int32)).toInt8.toInt32)
theorem own_all : ∀ z : BitVec 8, ((((Int8.ofBitVec z).toInt32 &&& (255 : Int32)) < (97 : Int32)) → ((own_up (Int8.ofBitVec z).toInt32 &&& (255 : Int32)) = ((Int8.ofBitVec z).toInt32 &&& (255 : Int32))))
    ∧ (((122 : Int32) < ((Int8.ofBitVec z).toInt32 &&& (255 : Int32))) → ((own_up (Int8.ofBitVec z).toInt32 &&& (255 : Int32)) = ((Int8.ofBitVec z).toInt32 &&& (255 : Int32))))
    ∧ (¬ (((Int8.ofBitVec z).toInt32 &&& (255 : Int32)) < (97 : Int32)) → ¬ ((122 : Int32) < ((Int8.ofBitVec z).toInt32 &&& (255 : Int32))) → ((own_up (Int8.ofBitVec z).toInt32 &&& (255 : Int32)) = (((Int8.ofBitVec z).toInt32 &&& (255 : Int32)) &&& (223 : Int32))))
    ∧ own_up (own_up (Int8.ofBitVec z).toInt32) = own_up (Int8.ofBitVec z).toInt32 := by decide +kernel
theorem own_law (x : Int32) : (((x.toInt8.toInt32 &&& (255 : Int32)) < (97 : Int32)) → ((own_up x.toInt8.toInt32 &&& (255 : Int32)) = (x.toInt8.toInt32 &&& (255 : Int32))))
    ∧ (((122 : Int32) < (x.toInt8.toInt32 &&& (255 : Int32))) → ((own_up x.toInt8.toInt32 &&& (255 : Int32)) = (x.toInt8.toInt32 &&& (255 : Int32))))
    ∧ (¬ ((x.toInt8.toInt32 &&& (255 : Int32)) < (97 : Int32)) → ¬ ((122 : Int32) < (x.toInt8.toInt32 &&& (255 : Int32))) → ((own_up x.toInt8.toInt32 &&& (255 : Int32)) = ((x.toInt8.toInt32 &&& (255 : Int32)) &&& (223 : Int32))))
    ∧ own_up (own_up x.toInt8.toInt32) = own_up x.toInt8.toInt32 := own_all x.toInt8.toBitVec
theorem own_d1_0 : decode prog_40_method_24_code 0 = .ok (.iload_n 0, 1) := by decide +kernel
theorem own_d1_1 : decode prog_40_method_24_code 1 = .ok (.bipush 97, 2) := by decide +kernel
theorem own_d1_3 : decode prog_40_method_24_code 3 = .ok (.if_icmp .lt 17, 3) := by decide +kernel
theorem own_d1_6 : decode prog_40_method_24_code 6 = .ok (.iload_n 0, 1) := by decide +kernel
theorem own_d1_7 : decode prog_40_method_24_code 7 = .ok (.bipush 122, 2) := by decide +kernel
theorem own_d1_9 : decode prog_40_method_24_code 9 = .ok (.if_icmp .gt 11, 3) := by decide +kernel
theorem own_d1_12 : decode prog_40_method_24_code 12 = .ok (.iload_n 0, 1) := by decide +kernel
theorem own_d1_13 : decode prog_40_method_24_code 13 = .ok (.bipush 32, 2) := by decide +kernel
theorem own_d1_15 : decode prog_40_method_24_code 15 = .ok (.isub, 1) := by decide +kernel
theorem own_d1_16 : decode prog_40_method_24_code 16 = .ok (.i2b, 1) := by decide +kernel
theorem own_d1_17 : decode prog_40_method_24_code 17 = .ok (.goto 4, 3) := by decide +kernel
theorem own_d1_20 : decode prog_40_method_24_code 20 = .ok (.iload_n 0, 1) := by decide +kernel
theorem own_d1_21 : decode prog_40_method_24_code 21 = .ok (.ireturn, 1) := by decide +kernel
theorem own_c1_ef (m : MethodId) (x0 : Int32) : entryFrame m #[(.int x0)] 1 = mkF m 0 #[.val (.int x0)] [] := by first | (simp [entryFrame, mkF, argsToLocals, Value.category]; done) | rfl
theorem own_pn0 : plainName "com/example/exdate/exdate/model/Position" = true := by first | (simp [plainName, overriddenIn]; done) | decide +kernel
set_option maxRecDepth 65536 in
set_option maxHeartbeats 40000000 in
theorem own_c1 (l : Launch) (Z : State) (a0 : Array Value) (hw : ∀ d ∈ tables_1, d.before a0 Z = true) (ws : List Jvm.Cond) (p1 : Int32) (h0 : Heap) (n0 : Nat) (Z0 : n0 ≤ h0.size) :
    own_Ctr l Z (⟨"com/example/exdate/exdate/model/Position", "upperCase", "(B)B"⟩ : MethodName) prog_40_method_24_code 1 (some .byte) ws ({ frames := 0, cells := 0, slots := 0, locals := 0 } : Room) h0 #[(.int p1)] (fun v h L => v = some (.int (own_up p1)) ∧ Fr n0 L ∧ h = h0) := by
  refine own_ctr (plainFor_of_name own_pn0) ?_
  intro p e s m below meth c s₁ Bd hml0 hx hby hZ hown0 X0 e0
  have hml : c.maxLocals = 1 := hml0
  have hown : s.vm.findClass "com/example/exdate/exdate/model/Position" = some m.cls := hown0
  have hnm := (name_of_methodNamed Bd.named Bd.method).1
  have N0 := Fr.nil n0
  refine own_cast (own_c1_ef m p1) ?_
  refine own_go (S' := (s₁.setTop (mkF m 3 #[.val (.int p1)] [(.int (97 : Int32)), (.int p1)]))) (fun t k => ?_) ?_
  · refine XS.iloadN X0.here hx rfl (hb hby own_d1_0) rfl ?_
    show Steps p.tables e below (s₁.setTop (mkF m 1 #[.val (.int p1)] [(.int p1)])) _
    refine XS.bipush X0.here hx rfl (hb hby own_d1_1) ?_
    show Steps p.tables e below (s₁.setTop (mkF m 3 #[.val (.int p1)] [(.int (97 : Int32)), (.int p1)])) _
    exact k
  by_cases h1 : p1 < (97 : Int32)
  · skip
    refine own_go (S' := (s₁.setTop (mkF m 21 #[.val (.int p1)] [(.int p1)]))) (fun t k => ?_) ?_
    · refine XS.icmpYes X0.here hx rfl (pc0 := 3) (pc' := 20) rfl (hb hby own_d1_3) rfl (tlt h1).1 (by decide) (by decide) ?_
      show Steps p.tables e below (s₁.setTop (mkF m 20 #[.val (.int p1)] [])) _
      refine XS.iloadN X0.here hx rfl (hb hby own_d1_20) rfl ?_
      show Steps p.tables e below (s₁.setTop (mkF m 21 #[.val (.int p1)] [(.int p1)])) _
      exact k
    refine own_retN X0 hx (t := .byte) Bd.returns Bd.notSynchronized (by simp) (hb hby own_d1_21) rfl (by decide) (by decide) ?_
    try rw [e0]
    exact ⟨by rw [own_up, if_pos h1], N0, rfl⟩
  · skip
    refine own_go (S' := (s₁.setTop (mkF m 9 #[.val (.int p1)] [(.int (122 : Int32)), (.int p1)]))) (fun t k => ?_) ?_
    · refine XS.icmpNo X0.here hx rfl (hb hby own_d1_3) rfl (flt h1).1 ?_
      show Steps p.tables e below (s₁.setTop (mkF m 6 #[.val (.int p1)] [])) _
      refine XS.iloadN X0.here hx rfl (hb hby own_d1_6) rfl ?_
      show Steps p.tables e below (s₁.setTop (mkF m 7 #[.val (.int p1)] [(.int p1)])) _
      refine XS.bipush X0.here hx rfl (hb hby own_d1_7) ?_
      show Steps p.tables e below (s₁.setTop (mkF m 9 #[.val (.int p1)] [(.int (122 : Int32)), (.int p1)])) _
      exact k
    by_cases h2 : (122 : Int32) < p1
    · skip
      refine own_go (S' := (s₁.setTop (mkF m 21 #[.val (.int p1)] [(.int p1)]))) (fun t k => ?_) ?_
      · refine XS.icmpYes X0.here hx rfl (pc0 := 9) (pc' := 20) rfl (hb hby own_d1_9) rfl (tlt h2).2.2.1 (by decide) (by decide) ?_
        show Steps p.tables e below (s₁.setTop (mkF m 20 #[.val (.int p1)] [])) _
        refine XS.iloadN X0.here hx rfl (hb hby own_d1_20) rfl ?_
        show Steps p.tables e below (s₁.setTop (mkF m 21 #[.val (.int p1)] [(.int p1)])) _
        exact k
      refine own_retN X0 hx (t := .byte) Bd.returns Bd.notSynchronized (by simp) (hb hby own_d1_21) rfl (by decide) (by decide) ?_
      try rw [e0]
      exact ⟨by rw [own_up, if_neg h1, if_pos h2], N0, rfl⟩
    · skip
      refine own_go (S' := (s₁.setTop (mkF m 21 #[.val (.int p1)] [(.int ((p1 - (32 : Int32)).toInt8.toInt32))]))) (fun t k => ?_) ?_
      · refine XS.icmpNo X0.here hx rfl (hb hby own_d1_9) rfl (flt h2).2.2.1 ?_
        show Steps p.tables e below (s₁.setTop (mkF m 12 #[.val (.int p1)] [])) _
        refine XS.iloadN X0.here hx rfl (hb hby own_d1_12) rfl ?_
        show Steps p.tables e below (s₁.setTop (mkF m 13 #[.val (.int p1)] [(.int p1)])) _
        refine XS.bipush X0.here hx rfl (hb hby own_d1_13) ?_
        show Steps p.tables e below (s₁.setTop (mkF m 15 #[.val (.int p1)] [(.int (32 : Int32)), (.int p1)])) _
        refine XS.isub X0.here hx rfl (hb hby own_d1_15) rfl ?_
        show Steps p.tables e below (s₁.setTop (mkF m 16 #[.val (.int p1)] [(.int (p1 - (32 : Int32)))])) _
        refine XS.i2b X0.here hx rfl (hb hby own_d1_16) rfl ?_
        show Steps p.tables e below (s₁.setTop (mkF m 17 #[.val (.int p1)] [(.int ((p1 - (32 : Int32)).toInt8.toInt32))])) _
        refine XS.goto X0.here hx rfl (pc0 := 17) (pc' := 21) rfl (hb hby own_d1_17) (by decide) (by decide) ?_
        show Steps p.tables e below (s₁.setTop (mkF m 21 #[.val (.int p1)] [(.int ((p1 - (32 : Int32)).toInt8.toInt32))])) _
        exact k
      refine own_retN X0 hx (t := .byte) Bd.returns Bd.notSynchronized (by simp) (hb hby own_d1_21) rfl (by decide) (by decide) ?_
      try rw [e0]
      exact ⟨by rw [own_up, if_neg h1, if_neg h2], N0, rfl⟩
theorem own_pd0 : parseMethodDescriptor "(B)B" = some ⟨[.byte], some .byte⟩ := by decide +kernel
theorem own_c0_ef (m : MethodId) (x0 : Int32) : entryFrame m #[(.int x0)] maxLocals = mkF m 0 #[.val (.int x0), .unset, .unset, .unset, .unset, .unset] [] := by first | (simp [entryFrame, mkF, argsToLocals, Value.category, maxLocals]; done) | rfl
theorem own_pn1 : plainName "com/example/exdate/exdate/model/PositionUpperCasePinLaw" = true := by first | (simp [plainName, overriddenIn]; done) | decide +kernel
set_option maxRecDepth 65536 in
set_option maxHeartbeats 40000000 in
theorem own_c0 (l : Launch) (Z : State) (a0 : Array Value) (hw : ∀ d ∈ tables_1, d.before a0 Z = true) (ws : List Jvm.Cond) (p1 : Int32) (h0 : Heap) (n0 : Nat) (Z0 : n0 ≤ h0.size) :
    own_Ctr l Z x code maxLocals ret ws room_1 h0 #[(.int p1)] (fun v h L => v = some (.int 1) ∧ Fr n0 L) := by
  refine own_ctr (plainFor_of_name own_pn1) ?_
  intro p e s m below meth c s₁ Bd hml0 hx hby hZ hown0 X0 e0
  have hml : c.maxLocals = 6 := hml0
  have hown : s.vm.findClass "com/example/exdate/exdate/model/PositionUpperCasePinLaw" = some m.cls := hown0
  have hnm := (name_of_methodNamed Bd.named Bd.method).1
  have N0 := Fr.nil n0
  refine own_cast (own_c0_ef m p1) ?_
  refine own_go (S' := (s₁.setTop (mkF m 4 #[.val (.int p1), .val (.int (p1.toInt8.toInt32)), .unset, .unset, .unset, .unset] [(.int (p1.toInt8.toInt32))]))) (fun t k => ?_) ?_
  · refine XS.iloadN X0.here hx rfl (hb hby at_0) rfl ?_
    show Steps p.tables e below (s₁.setTop (mkF m 1 #[.val (.int p1), .unset, .unset, .unset, .unset, .unset] [(.int p1)])) _
    refine XS.i2b X0.here hx rfl (hb hby at_1) rfl ?_
    show Steps p.tables e below (s₁.setTop (mkF m 2 #[.val (.int p1), .unset, .unset, .unset, .unset, .unset] [(.int (p1.toInt8.toInt32))])) _
    refine XS.istoreN X0.here hx rfl (hb hby at_2) rfl (l' := #[.val (.int p1), .val (.int (p1.toInt8.toInt32)), .unset, .unset, .unset, .unset]) rfl ?_
    show Steps p.tables e below (s₁.setTop (mkF m 3 #[.val (.int p1), .val (.int (p1.toInt8.toInt32)), .unset, .unset, .unset, .unset] [])) _
    refine XS.iloadN X0.here hx rfl (hb hby at_3) rfl ?_
    show Steps p.tables e below (s₁.setTop (mkF m 4 #[.val (.int p1), .val (.int (p1.toInt8.toInt32)), .unset, .unset, .unset, .unset] [(.int (p1.toInt8.toInt32))])) _
    exact k
  obtain ⟨q1, q2, q3, q4⟩ := own_law p1
  obtain ⟨_, T1, L1, X1, ⟨rfl, N1q, k1⟩, st1⟩ := own_callS X0 hx hZ (y := (⟨"com/example/exdate/exdate/model/Position", "upperCase", "(B)B"⟩ : MethodName)) hown (hw _ (List.mem_of_getElem? (i := 0) rfl)) (hw _ (List.mem_of_getElem? (i := 1) rfl)) (hw _ (List.mem_of_getElem? (i := 2) rfl)) (hw _ (List.mem_of_getElem? (i := 3) rfl)) (by decide) (own_c1 l Z a0 hw [] p1.toInt8.toInt32 h0 n0 Z0) e0 (W := 0) (by decide) (by decide) (g := (mkF m 4 #[.val (.int p1), .val (.int (p1.toInt8.toInt32)), .unset, .unset, .unset, .unset] [(.int (p1.toInt8.toInt32))])) rfl (by rw [hml]; rfl) (argsL := [(.int (p1.toInt8.toInt32))]) (rest := []) (lenOf own_pd0 rfl) rfl rfl rfl (hb hby at_4) (by decide) (by decide)
  have N1 := Fr.app N0 N1q
  refine own_go st1 ?_
  show own_Rch p e below _ (T1.setTop (mkF m 7 #[.val (.int p1), .val (.int (p1.toInt8.toInt32)), .unset, .unset, .unset, .unset] [(.int (own_up (p1.toInt8.toInt32)))]))
  refine own_go (S' := (T1.setTop (mkF m 17 #[.val (.int p1), .val (.int (p1.toInt8.toInt32)), .val (.int (own_up (p1.toInt8.toInt32))), .val (.int ((p1.toInt8.toInt32) &&& (255 : Int32))), .unset, .unset] [(.int (97 : Int32)), (.int ((p1.toInt8.toInt32) &&& (255 : Int32)))]))) (fun t k => ?_) ?_
  · refine XS.istoreN X1.here hx rfl (hb hby at_7) rfl (l' := #[.val (.int p1), .val (.int (p1.toInt8.toInt32)), .val (.int (own_up (p1.toInt8.toInt32))), .unset, .unset, .unset]) rfl ?_
    show Steps p.tables e below (T1.setTop (mkF m 8 #[.val (.int p1), .val (.int (p1.toInt8.toInt32)), .val (.int (own_up (p1.toInt8.toInt32))), .unset, .unset, .unset] [])) _
    refine XS.iloadN X1.here hx rfl (hb hby at_8) rfl ?_
    show Steps p.tables e below (T1.setTop (mkF m 9 #[.val (.int p1), .val (.int (p1.toInt8.toInt32)), .val (.int (own_up (p1.toInt8.toInt32))), .unset, .unset, .unset] [(.int (p1.toInt8.toInt32))])) _
    refine XS.sipush X1.here hx rfl (hb hby at_9) ?_
    show Steps p.tables e below (T1.setTop (mkF m 12 #[.val (.int p1), .val (.int (p1.toInt8.toInt32)), .val (.int (own_up (p1.toInt8.toInt32))), .unset, .unset, .unset] [(.int (255 : Int32)), (.int (p1.toInt8.toInt32))])) _
    refine XS.iand X1.here hx rfl (hb hby at_12) rfl ?_
    show Steps p.tables e below (T1.setTop (mkF m 13 #[.val (.int p1), .val (.int (p1.toInt8.toInt32)), .val (.int (own_up (p1.toInt8.toInt32))), .unset, .unset, .unset] [(.int ((p1.toInt8.toInt32) &&& (255 : Int32)))])) _
    refine XS.istoreN X1.here hx rfl (hb hby at_13) rfl (l' := #[.val (.int p1), .val (.int (p1.toInt8.toInt32)), .val (.int (own_up (p1.toInt8.toInt32))), .val (.int ((p1.toInt8.toInt32) &&& (255 : Int32))), .unset, .unset]) rfl ?_
    show Steps p.tables e below (T1.setTop (mkF m 14 #[.val (.int p1), .val (.int (p1.toInt8.toInt32)), .val (.int (own_up (p1.toInt8.toInt32))), .val (.int ((p1.toInt8.toInt32) &&& (255 : Int32))), .unset, .unset] [])) _
    refine XS.iloadN X1.here hx rfl (hb hby at_14) rfl ?_
    show Steps p.tables e below (T1.setTop (mkF m 15 #[.val (.int p1), .val (.int (p1.toInt8.toInt32)), .val (.int (own_up (p1.toInt8.toInt32))), .val (.int ((p1.toInt8.toInt32) &&& (255 : Int32))), .unset, .unset] [(.int ((p1.toInt8.toInt32) &&& (255 : Int32)))])) _
    refine XS.bipush X1.here hx rfl (hb hby at_15) ?_
    show Steps p.tables e below (T1.setTop (mkF m 17 #[.val (.int p1), .val (.int (p1.toInt8.toInt32)), .val (.int (own_up (p1.toInt8.toInt32))), .val (.int ((p1.toInt8.toInt32) &&& (255 : Int32))), .unset, .unset] [(.int (97 : Int32)), (.int ((p1.toInt8.toInt32) &&& (255 : Int32)))])) _
    exact k
  by_cases h1 : ((p1.toInt8.toInt32) &&& (255 : Int32)) < (97 : Int32)
  · skip
    refine own_go (S' := (T1.setTop (mkF m 35 #[.val (.int p1), .val (.int (p1.toInt8.toInt32)), .val (.int (own_up (p1.toInt8.toInt32))), .val (.int ((p1.toInt8.toInt32) &&& (255 : Int32))), .val (.int (0 : Int32)), .unset] [(.int (0 : Int32))]))) (fun t k => ?_) ?_
    · refine XS.icmpYes X1.here hx rfl (pc0 := 17) (pc' := 30) rfl (hb hby at_17) rfl (tlt h1).1 (by decide) (by decide) ?_
      show Steps p.tables e below (T1.setTop (mkF m 30 #[.val (.int p1), .val (.int (p1.toInt8.toInt32)), .val (.int (own_up (p1.toInt8.toInt32))), .val (.int ((p1.toInt8.toInt32) &&& (255 : Int32))), .unset, .unset] [])) _
      refine XS.iconst X1.here hx rfl (hb hby at_30) ?_
      show Steps p.tables e below (T1.setTop (mkF m 31 #[.val (.int p1), .val (.int (p1.toInt8.toInt32)), .val (.int (own_up (p1.toInt8.toInt32))), .val (.int ((p1.toInt8.toInt32) &&& (255 : Int32))), .unset, .unset] [(.int (0 : Int32))])) _
      refine XS.istore X1.here hx rfl (hb hby at_31) rfl (l' := #[.val (.int p1), .val (.int (p1.toInt8.toInt32)), .val (.int (own_up (p1.toInt8.toInt32))), .val (.int ((p1.toInt8.toInt32) &&& (255 : Int32))), .val (.int (0 : Int32)), .unset]) rfl ?_
      show Steps p.tables e below (T1.setTop (mkF m 33 #[.val (.int p1), .val (.int (p1.toInt8.toInt32)), .val (.int (own_up (p1.toInt8.toInt32))), .val (.int ((p1.toInt8.toInt32) &&& (255 : Int32))), .val (.int (0 : Int32)), .unset] [])) _
      refine XS.iload X1.here hx rfl (hb hby at_33) rfl ?_
      show Steps p.tables e below (T1.setTop (mkF m 35 #[.val (.int p1), .val (.int (p1.toInt8.toInt32)), .val (.int (own_up (p1.toInt8.toInt32))), .val (.int ((p1.toInt8.toInt32) &&& (255 : Int32))), .val (.int (0 : Int32)), .unset] [(.int (0 : Int32))])) _
      exact k
    refine own_go (S' := (T1.setTop (mkF m 56 #[.val (.int p1), .val (.int (p1.toInt8.toInt32)), .val (.int (own_up (p1.toInt8.toInt32))), .val (.int ((p1.toInt8.toInt32) &&& (255 : Int32))), .val (.int (0 : Int32)), .val (.int ((p1.toInt8.toInt32) &&& (255 : Int32)))] [(.int ((p1.toInt8.toInt32) &&& (255 : Int32))), (.int ((own_up (p1.toInt8.toInt32)) &&& (255 : Int32)))]))) (fun t k => ?_) ?_
    · refine XS.ifYes X1.here hx rfl (pc0 := 35) (pc' := 46) rfl (hb hby at_35) rfl ((if0 _ _).trans (teq (rfl : (0 : Int32) = (0 : Int32))).1) (by decide) (by decide) ?_
      show Steps p.tables e below (T1.setTop (mkF m 46 #[.val (.int p1), .val (.int (p1.toInt8.toInt32)), .val (.int (own_up (p1.toInt8.toInt32))), .val (.int ((p1.toInt8.toInt32) &&& (255 : Int32))), .val (.int (0 : Int32)), .unset] [])) _
      refine XS.iloadN X1.here hx rfl (hb hby at_46) rfl ?_
      show Steps p.tables e below (T1.setTop (mkF m 47 #[.val (.int p1), .val (.int (p1.toInt8.toInt32)), .val (.int (own_up (p1.toInt8.toInt32))), .val (.int ((p1.toInt8.toInt32) &&& (255 : Int32))), .val (.int (0 : Int32)), .unset] [(.int ((p1.toInt8.toInt32) &&& (255 : Int32)))])) _
      refine XS.istore X1.here hx rfl (hb hby at_47) rfl (l' := #[.val (.int p1), .val (.int (p1.toInt8.toInt32)), .val (.int (own_up (p1.toInt8.toInt32))), .val (.int ((p1.toInt8.toInt32) &&& (255 : Int32))), .val (.int (0 : Int32)), .val (.int ((p1.toInt8.toInt32) &&& (255 : Int32)))]) rfl ?_
      show Steps p.tables e below (T1.setTop (mkF m 49 #[.val (.int p1), .val (.int (p1.toInt8.toInt32)), .val (.int (own_up (p1.toInt8.toInt32))), .val (.int ((p1.toInt8.toInt32) &&& (255 : Int32))), .val (.int (0 : Int32)), .val (.int ((p1.toInt8.toInt32) &&& (255 : Int32)))] [])) _
      refine XS.iloadN X1.here hx rfl (hb hby at_49) rfl ?_
      show Steps p.tables e below (T1.setTop (mkF m 50 #[.val (.int p1), .val (.int (p1.toInt8.toInt32)), .val (.int (own_up (p1.toInt8.toInt32))), .val (.int ((p1.toInt8.toInt32) &&& (255 : Int32))), .val (.int (0 : Int32)), .val (.int ((p1.toInt8.toInt32) &&& (255 : Int32)))] [(.int (own_up (p1.toInt8.toInt32)))])) _
      refine XS.sipush X1.here hx rfl (hb hby at_50) ?_
      show Steps p.tables e below (T1.setTop (mkF m 53 #[.val (.int p1), .val (.int (p1.toInt8.toInt32)), .val (.int (own_up (p1.toInt8.toInt32))), .val (.int ((p1.toInt8.toInt32) &&& (255 : Int32))), .val (.int (0 : Int32)), .val (.int ((p1.toInt8.toInt32) &&& (255 : Int32)))] [(.int (255 : Int32)), (.int (own_up (p1.toInt8.toInt32)))])) _
      refine XS.iand X1.here hx rfl (hb hby at_53) rfl ?_
      show Steps p.tables e below (T1.setTop (mkF m 54 #[.val (.int p1), .val (.int (p1.toInt8.toInt32)), .val (.int (own_up (p1.toInt8.toInt32))), .val (.int ((p1.toInt8.toInt32) &&& (255 : Int32))), .val (.int (0 : Int32)), .val (.int ((p1.toInt8.toInt32) &&& (255 : Int32)))] [(.int ((own_up (p1.toInt8.toInt32)) &&& (255 : Int32)))])) _
      refine XS.iload X1.here hx rfl (hb hby at_54) rfl ?_
      show Steps p.tables e below (T1.setTop (mkF m 56 #[.val (.int p1), .val (.int (p1.toInt8.toInt32)), .val (.int (own_up (p1.toInt8.toInt32))), .val (.int ((p1.toInt8.toInt32) &&& (255 : Int32))), .val (.int (0 : Int32)), .val (.int ((p1.toInt8.toInt32) &&& (255 : Int32)))] [(.int ((p1.toInt8.toInt32) &&& (255 : Int32))), (.int ((own_up (p1.toInt8.toInt32)) &&& (255 : Int32)))])) _
      exact k
    refine own_go (S' := (T1.setTop (mkF m 60 #[.val (.int p1), .val (.int (p1.toInt8.toInt32)), .val (.int (own_up (p1.toInt8.toInt32))), .val (.int ((p1.toInt8.toInt32) &&& (255 : Int32))), .val (.int (0 : Int32)), .val (.int ((p1.toInt8.toInt32) &&& (255 : Int32)))] [(.int (own_up (p1.toInt8.toInt32)))]))) (fun t k => ?_) ?_
    · refine XS.icmpNo X1.here hx rfl (hb hby at_56) rfl (teq (q1 h1)).2 ?_
      show Steps p.tables e below (T1.setTop (mkF m 59 #[.val (.int p1), .val (.int (p1.toInt8.toInt32)), .val (.int (own_up (p1.toInt8.toInt32))), .val (.int ((p1.toInt8.toInt32) &&& (255 : Int32))), .val (.int (0 : Int32)), .val (.int ((p1.toInt8.toInt32) &&& (255 : Int32)))] [])) _
      refine XS.iloadN X1.here hx rfl (hb hby at_59) rfl ?_
      show Steps p.tables e below (T1.setTop (mkF m 60 #[.val (.int p1), .val (.int (p1.toInt8.toInt32)), .val (.int (own_up (p1.toInt8.toInt32))), .val (.int ((p1.toInt8.toInt32) &&& (255 : Int32))), .val (.int (0 : Int32)), .val (.int ((p1.toInt8.toInt32) &&& (255 : Int32)))] [(.int (own_up (p1.toInt8.toInt32)))])) _
      exact k
    obtain ⟨_, T2, L2, X2, ⟨rfl, N2q, k2⟩, st2⟩ := own_callS X1 hx hZ (y := (⟨"com/example/exdate/exdate/model/Position", "upperCase", "(B)B"⟩ : MethodName)) hown (hw _ (List.mem_of_getElem? (i := 0) rfl)) (hw _ (List.mem_of_getElem? (i := 1) rfl)) (hw _ (List.mem_of_getElem? (i := 2) rfl)) (hw _ (List.mem_of_getElem? (i := 3) rfl)) (by decide) (own_c1 l Z a0 hw [] (own_up (p1.toInt8.toInt32)) T1.heap n0 (by rw [k1]; exact Z0)) rfl (W := 0) (by decide) (by decide) (g := (mkF m 60 #[.val (.int p1), .val (.int (p1.toInt8.toInt32)), .val (.int (own_up (p1.toInt8.toInt32))), .val (.int ((p1.toInt8.toInt32) &&& (255 : Int32))), .val (.int (0 : Int32)), .val (.int ((p1.toInt8.toInt32) &&& (255 : Int32)))] [(.int (own_up (p1.toInt8.toInt32)))])) rfl (by rw [hml]; rfl) (argsL := [(.int (own_up (p1.toInt8.toInt32)))]) (rest := []) (lenOf own_pd0 rfl) rfl rfl rfl (hb hby at_60) (by decide) (by decide)
    have N2 := Fr.app N1 N2q
    refine own_go st2 ?_
    show own_Rch p e below _ (T2.setTop (mkF m 63 #[.val (.int p1), .val (.int (p1.toInt8.toInt32)), .val (.int (own_up (p1.toInt8.toInt32))), .val (.int ((p1.toInt8.toInt32) &&& (255 : Int32))), .val (.int (0 : Int32)), .val (.int ((p1.toInt8.toInt32) &&& (255 : Int32)))] [(.int (own_up (own_up (p1.toInt8.toInt32))))]))
    refine own_go (S' := (T2.setTop (mkF m 64 #[.val (.int p1), .val (.int (p1.toInt8.toInt32)), .val (.int (own_up (p1.toInt8.toInt32))), .val (.int ((p1.toInt8.toInt32) &&& (255 : Int32))), .val (.int (0 : Int32)), .val (.int ((p1.toInt8.toInt32) &&& (255 : Int32)))] [(.int (own_up (p1.toInt8.toInt32))), (.int (own_up (own_up (p1.toInt8.toInt32))))]))) (fun t k => ?_) ?_
    · refine XS.iloadN X2.here hx rfl (hb hby at_63) rfl ?_
      show Steps p.tables e below (T2.setTop (mkF m 64 #[.val (.int p1), .val (.int (p1.toInt8.toInt32)), .val (.int (own_up (p1.toInt8.toInt32))), .val (.int ((p1.toInt8.toInt32) &&& (255 : Int32))), .val (.int (0 : Int32)), .val (.int ((p1.toInt8.toInt32) &&& (255 : Int32)))] [(.int (own_up (p1.toInt8.toInt32))), (.int (own_up (own_up (p1.toInt8.toInt32))))])) _
      exact k
    refine own_go (S' := (T2.setTop (mkF m 72 #[.val (.int p1), .val (.int (p1.toInt8.toInt32)), .val (.int (own_up (p1.toInt8.toInt32))), .val (.int ((p1.toInt8.toInt32) &&& (255 : Int32))), .val (.int (0 : Int32)), .val (.int ((p1.toInt8.toInt32) &&& (255 : Int32)))] [(.int (1 : Int32))]))) (fun t k => ?_) ?_
    · refine XS.icmpNo X2.here hx rfl (hb hby at_64) rfl (teq q4).2 ?_
      show Steps p.tables e below (T2.setTop (mkF m 67 #[.val (.int p1), .val (.int (p1.toInt8.toInt32)), .val (.int (own_up (p1.toInt8.toInt32))), .val (.int ((p1.toInt8.toInt32) &&& (255 : Int32))), .val (.int (0 : Int32)), .val (.int ((p1.toInt8.toInt32) &&& (255 : Int32)))] [])) _
      refine XS.iconst X2.here hx rfl (hb hby at_67) ?_
      show Steps p.tables e below (T2.setTop (mkF m 68 #[.val (.int p1), .val (.int (p1.toInt8.toInt32)), .val (.int (own_up (p1.toInt8.toInt32))), .val (.int ((p1.toInt8.toInt32) &&& (255 : Int32))), .val (.int (0 : Int32)), .val (.int ((p1.toInt8.toInt32) &&& (255 : Int32)))] [(.int (1 : Int32))])) _
      refine XS.goto X2.here hx rfl (pc0 := 68) (pc' := 72) rfl (hb hby at_68) (by decide) (by decide) ?_
      show Steps p.tables e below (T2.setTop (mkF m 72 #[.val (.int p1), .val (.int (p1.toInt8.toInt32)), .val (.int (own_up (p1.toInt8.toInt32))), .val (.int ((p1.toInt8.toInt32) &&& (255 : Int32))), .val (.int (0 : Int32)), .val (.int ((p1.toInt8.toInt32) &&& (255 : Int32)))] [(.int (1 : Int32))])) _
      exact k
    refine own_retN X2 hx (t := .boolean) Bd.returns Bd.notSynchronized (by simp) (hb hby at_72) rfl (by decide) (by decide) ?_
    exact ⟨rfl, N2⟩
  · skip
    refine own_go (S' := (T1.setTop (mkF m 23 #[.val (.int p1), .val (.int (p1.toInt8.toInt32)), .val (.int (own_up (p1.toInt8.toInt32))), .val (.int ((p1.toInt8.toInt32) &&& (255 : Int32))), .unset, .unset] [(.int (122 : Int32)), (.int ((p1.toInt8.toInt32) &&& (255 : Int32)))]))) (fun t k => ?_) ?_
    · refine XS.icmpNo X1.here hx rfl (hb hby at_17) rfl (flt h1).1 ?_
      show Steps p.tables e below (T1.setTop (mkF m 20 #[.val (.int p1), .val (.int (p1.toInt8.toInt32)), .val (.int (own_up (p1.toInt8.toInt32))), .val (.int ((p1.toInt8.toInt32) &&& (255 : Int32))), .unset, .unset] [])) _
      refine XS.iloadN X1.here hx rfl (hb hby at_20) rfl ?_
      show Steps p.tables e below (T1.setTop (mkF m 21 #[.val (.int p1), .val (.int (p1.toInt8.toInt32)), .val (.int (own_up (p1.toInt8.toInt32))), .val (.int ((p1.toInt8.toInt32) &&& (255 : Int32))), .unset, .unset] [(.int ((p1.toInt8.toInt32) &&& (255 : Int32)))])) _
      refine XS.bipush X1.here hx rfl (hb hby at_21) ?_
      show Steps p.tables e below (T1.setTop (mkF m 23 #[.val (.int p1), .val (.int (p1.toInt8.toInt32)), .val (.int (own_up (p1.toInt8.toInt32))), .val (.int ((p1.toInt8.toInt32) &&& (255 : Int32))), .unset, .unset] [(.int (122 : Int32)), (.int ((p1.toInt8.toInt32) &&& (255 : Int32)))])) _
      exact k
    by_cases h2 : (122 : Int32) < ((p1.toInt8.toInt32) &&& (255 : Int32))
    · skip
      refine own_go (S' := (T1.setTop (mkF m 35 #[.val (.int p1), .val (.int (p1.toInt8.toInt32)), .val (.int (own_up (p1.toInt8.toInt32))), .val (.int ((p1.toInt8.toInt32) &&& (255 : Int32))), .val (.int (0 : Int32)), .unset] [(.int (0 : Int32))]))) (fun t k => ?_) ?_
      · refine XS.icmpYes X1.here hx rfl (pc0 := 23) (pc' := 30) rfl (hb hby at_23) rfl (tlt h2).2.2.1 (by decide) (by decide) ?_
        show Steps p.tables e below (T1.setTop (mkF m 30 #[.val (.int p1), .val (.int (p1.toInt8.toInt32)), .val (.int (own_up (p1.toInt8.toInt32))), .val (.int ((p1.toInt8.toInt32) &&& (255 : Int32))), .unset, .unset] [])) _
        refine XS.iconst X1.here hx rfl (hb hby at_30) ?_
        show Steps p.tables e below (T1.setTop (mkF m 31 #[.val (.int p1), .val (.int (p1.toInt8.toInt32)), .val (.int (own_up (p1.toInt8.toInt32))), .val (.int ((p1.toInt8.toInt32) &&& (255 : Int32))), .unset, .unset] [(.int (0 : Int32))])) _
        refine XS.istore X1.here hx rfl (hb hby at_31) rfl (l' := #[.val (.int p1), .val (.int (p1.toInt8.toInt32)), .val (.int (own_up (p1.toInt8.toInt32))), .val (.int ((p1.toInt8.toInt32) &&& (255 : Int32))), .val (.int (0 : Int32)), .unset]) rfl ?_
        show Steps p.tables e below (T1.setTop (mkF m 33 #[.val (.int p1), .val (.int (p1.toInt8.toInt32)), .val (.int (own_up (p1.toInt8.toInt32))), .val (.int ((p1.toInt8.toInt32) &&& (255 : Int32))), .val (.int (0 : Int32)), .unset] [])) _
        refine XS.iload X1.here hx rfl (hb hby at_33) rfl ?_
        show Steps p.tables e below (T1.setTop (mkF m 35 #[.val (.int p1), .val (.int (p1.toInt8.toInt32)), .val (.int (own_up (p1.toInt8.toInt32))), .val (.int ((p1.toInt8.toInt32) &&& (255 : Int32))), .val (.int (0 : Int32)), .unset] [(.int (0 : Int32))])) _
        exact k
      refine own_go (S' := (T1.setTop (mkF m 56 #[.val (.int p1), .val (.int (p1.toInt8.toInt32)), .val (.int (own_up (p1.toInt8.toInt32))), .val (.int ((p1.toInt8.toInt32) &&& (255 : Int32))), .val (.int (0 : Int32)), .val (.int ((p1.toInt8.toInt32) &&& (255 : Int32)))] [(.int ((p1.toInt8.toInt32) &&& (255 : Int32))), (.int ((own_up (p1.toInt8.toInt32)) &&& (255 : Int32)))]))) (fun t k => ?_) ?_
      · refine XS.ifYes X1.here hx rfl (pc0 := 35) (pc' := 46) rfl (hb hby at_35) rfl ((if0 _ _).trans (teq (rfl : (0 : Int32) = (0 : Int32))).1) (by decide) (by decide) ?_
        show Steps p.tables e below (T1.setTop (mkF m 46 #[.val (.int p1), .val (.int (p1.toInt8.toInt32)), .val (.int (own_up (p1.toInt8.toInt32))), .val (.int ((p1.toInt8.toInt32) &&& (255 : Int32))), .val (.int (0 : Int32)), .unset] [])) _
        refine XS.iloadN X1.here hx rfl (hb hby at_46) rfl ?_
        show Steps p.tables e below (T1.setTop (mkF m 47 #[.val (.int p1), .val (.int (p1.toInt8.toInt32)), .val (.int (own_up (p1.toInt8.toInt32))), .val (.int ((p1.toInt8.toInt32) &&& (255 : Int32))), .val (.int (0 : Int32)), .unset] [(.int ((p1.toInt8.toInt32) &&& (255 : Int32)))])) _
        refine XS.istore X1.here hx rfl (hb hby at_47) rfl (l' := #[.val (.int p1), .val (.int (p1.toInt8.toInt32)), .val (.int (own_up (p1.toInt8.toInt32))), .val (.int ((p1.toInt8.toInt32) &&& (255 : Int32))), .val (.int (0 : Int32)), .val (.int ((p1.toInt8.toInt32) &&& (255 : Int32)))]) rfl ?_
        show Steps p.tables e below (T1.setTop (mkF m 49 #[.val (.int p1), .val (.int (p1.toInt8.toInt32)), .val (.int (own_up (p1.toInt8.toInt32))), .val (.int ((p1.toInt8.toInt32) &&& (255 : Int32))), .val (.int (0 : Int32)), .val (.int ((p1.toInt8.toInt32) &&& (255 : Int32)))] [])) _
        refine XS.iloadN X1.here hx rfl (hb hby at_49) rfl ?_
        show Steps p.tables e below (T1.setTop (mkF m 50 #[.val (.int p1), .val (.int (p1.toInt8.toInt32)), .val (.int (own_up (p1.toInt8.toInt32))), .val (.int ((p1.toInt8.toInt32) &&& (255 : Int32))), .val (.int (0 : Int32)), .val (.int ((p1.toInt8.toInt32) &&& (255 : Int32)))] [(.int (own_up (p1.toInt8.toInt32)))])) _
        refine XS.sipush X1.here hx rfl (hb hby at_50) ?_
        show Steps p.tables e below (T1.setTop (mkF m 53 #[.val (.int p1), .val (.int (p1.toInt8.toInt32)), .val (.int (own_up (p1.toInt8.toInt32))), .val (.int ((p1.toInt8.toInt32) &&& (255 : Int32))), .val (.int (0 : Int32)), .val (.int ((p1.toInt8.toInt32) &&& (255 : Int32)))] [(.int (255 : Int32)), (.int (own_up (p1.toInt8.toInt32)))])) _
        refine XS.iand X1.here hx rfl (hb hby at_53) rfl ?_
        show Steps p.tables e below (T1.setTop (mkF m 54 #[.val (.int p1), .val (.int (p1.toInt8.toInt32)), .val (.int (own_up (p1.toInt8.toInt32))), .val (.int ((p1.toInt8.toInt32) &&& (255 : Int32))), .val (.int (0 : Int32)), .val (.int ((p1.toInt8.toInt32) &&& (255 : Int32)))] [(.int ((own_up (p1.toInt8.toInt32)) &&& (255 : Int32)))])) _
        refine XS.iload X1.here hx rfl (hb hby at_54) rfl ?_
        show Steps p.tables e below (T1.setTop (mkF m 56 #[.val (.int p1), .val (.int (p1.toInt8.toInt32)), .val (.int (own_up (p1.toInt8.toInt32))), .val (.int ((p1.toInt8.toInt32) &&& (255 : Int32))), .val (.int (0 : Int32)), .val (.int ((p1.toInt8.toInt32) &&& (255 : Int32)))] [(.int ((p1.toInt8.toInt32) &&& (255 : Int32))), (.int ((own_up (p1.toInt8.toInt32)) &&& (255 : Int32)))])) _
        exact k
      refine own_go (S' := (T1.setTop (mkF m 60 #[.val (.int p1), .val (.int (p1.toInt8.toInt32)), .val (.int (own_up (p1.toInt8.toInt32))), .val (.int ((p1.toInt8.toInt32) &&& (255 : Int32))), .val (.int (0 : Int32)), .val (.int ((p1.toInt8.toInt32) &&& (255 : Int32)))] [(.int (own_up (p1.toInt8.toInt32)))]))) (fun t k => ?_) ?_
      · refine XS.icmpNo X1.here hx rfl (hb hby at_56) rfl (teq (q2 h2)).2 ?_
        show Steps p.tables e below (T1.setTop (mkF m 59 #[.val (.int p1), .val (.int (p1.toInt8.toInt32)), .val (.int (own_up (p1.toInt8.toInt32))), .val (.int ((p1.toInt8.toInt32) &&& (255 : Int32))), .val (.int (0 : Int32)), .val (.int ((p1.toInt8.toInt32) &&& (255 : Int32)))] [])) _
        refine XS.iloadN X1.here hx rfl (hb hby at_59) rfl ?_
        show Steps p.tables e below (T1.setTop (mkF m 60 #[.val (.int p1), .val (.int (p1.toInt8.toInt32)), .val (.int (own_up (p1.toInt8.toInt32))), .val (.int ((p1.toInt8.toInt32) &&& (255 : Int32))), .val (.int (0 : Int32)), .val (.int ((p1.toInt8.toInt32) &&& (255 : Int32)))] [(.int (own_up (p1.toInt8.toInt32)))])) _
        exact k
      obtain ⟨_, T3, L3, X3, ⟨rfl, N3q, k3⟩, st3⟩ := own_callS X1 hx hZ (y := (⟨"com/example/exdate/exdate/model/Position", "upperCase", "(B)B"⟩ : MethodName)) hown (hw _ (List.mem_of_getElem? (i := 0) rfl)) (hw _ (List.mem_of_getElem? (i := 1) rfl)) (hw _ (List.mem_of_getElem? (i := 2) rfl)) (hw _ (List.mem_of_getElem? (i := 3) rfl)) (by decide) (own_c1 l Z a0 hw [] (own_up (p1.toInt8.toInt32)) T1.heap n0 (by rw [k1]; exact Z0)) rfl (W := 0) (by decide) (by decide) (g := (mkF m 60 #[.val (.int p1), .val (.int (p1.toInt8.toInt32)), .val (.int (own_up (p1.toInt8.toInt32))), .val (.int ((p1.toInt8.toInt32) &&& (255 : Int32))), .val (.int (0 : Int32)), .val (.int ((p1.toInt8.toInt32) &&& (255 : Int32)))] [(.int (own_up (p1.toInt8.toInt32)))])) rfl (by rw [hml]; rfl) (argsL := [(.int (own_up (p1.toInt8.toInt32)))]) (rest := []) (lenOf own_pd0 rfl) rfl rfl rfl (hb hby at_60) (by decide) (by decide)
      have N3 := Fr.app N1 N3q
      refine own_go st3 ?_
      show own_Rch p e below _ (T3.setTop (mkF m 63 #[.val (.int p1), .val (.int (p1.toInt8.toInt32)), .val (.int (own_up (p1.toInt8.toInt32))), .val (.int ((p1.toInt8.toInt32) &&& (255 : Int32))), .val (.int (0 : Int32)), .val (.int ((p1.toInt8.toInt32) &&& (255 : Int32)))] [(.int (own_up (own_up (p1.toInt8.toInt32))))]))
      refine own_go (S' := (T3.setTop (mkF m 64 #[.val (.int p1), .val (.int (p1.toInt8.toInt32)), .val (.int (own_up (p1.toInt8.toInt32))), .val (.int ((p1.toInt8.toInt32) &&& (255 : Int32))), .val (.int (0 : Int32)), .val (.int ((p1.toInt8.toInt32) &&& (255 : Int32)))] [(.int (own_up (p1.toInt8.toInt32))), (.int (own_up (own_up (p1.toInt8.toInt32))))]))) (fun t k => ?_) ?_
      · refine XS.iloadN X3.here hx rfl (hb hby at_63) rfl ?_
        show Steps p.tables e below (T3.setTop (mkF m 64 #[.val (.int p1), .val (.int (p1.toInt8.toInt32)), .val (.int (own_up (p1.toInt8.toInt32))), .val (.int ((p1.toInt8.toInt32) &&& (255 : Int32))), .val (.int (0 : Int32)), .val (.int ((p1.toInt8.toInt32) &&& (255 : Int32)))] [(.int (own_up (p1.toInt8.toInt32))), (.int (own_up (own_up (p1.toInt8.toInt32))))])) _
        exact k
      refine own_go (S' := (T3.setTop (mkF m 72 #[.val (.int p1), .val (.int (p1.toInt8.toInt32)), .val (.int (own_up (p1.toInt8.toInt32))), .val (.int ((p1.toInt8.toInt32) &&& (255 : Int32))), .val (.int (0 : Int32)), .val (.int ((p1.toInt8.toInt32) &&& (255 : Int32)))] [(.int (1 : Int32))]))) (fun t k => ?_) ?_
      · refine XS.icmpNo X3.here hx rfl (hb hby at_64) rfl (teq q4).2 ?_
        show Steps p.tables e below (T3.setTop (mkF m 67 #[.val (.int p1), .val (.int (p1.toInt8.toInt32)), .val (.int (own_up (p1.toInt8.toInt32))), .val (.int ((p1.toInt8.toInt32) &&& (255 : Int32))), .val (.int (0 : Int32)), .val (.int ((p1.toInt8.toInt32) &&& (255 : Int32)))] [])) _
        refine XS.iconst X3.here hx rfl (hb hby at_67) ?_
        show Steps p.tables e below (T3.setTop (mkF m 68 #[.val (.int p1), .val (.int (p1.toInt8.toInt32)), .val (.int (own_up (p1.toInt8.toInt32))), .val (.int ((p1.toInt8.toInt32) &&& (255 : Int32))), .val (.int (0 : Int32)), .val (.int ((p1.toInt8.toInt32) &&& (255 : Int32)))] [(.int (1 : Int32))])) _
        refine XS.goto X3.here hx rfl (pc0 := 68) (pc' := 72) rfl (hb hby at_68) (by decide) (by decide) ?_
        show Steps p.tables e below (T3.setTop (mkF m 72 #[.val (.int p1), .val (.int (p1.toInt8.toInt32)), .val (.int (own_up (p1.toInt8.toInt32))), .val (.int ((p1.toInt8.toInt32) &&& (255 : Int32))), .val (.int (0 : Int32)), .val (.int ((p1.toInt8.toInt32) &&& (255 : Int32)))] [(.int (1 : Int32))])) _
        exact k
      refine own_retN X3 hx (t := .boolean) Bd.returns Bd.notSynchronized (by simp) (hb hby at_72) rfl (by decide) (by decide) ?_
      exact ⟨rfl, N3⟩
    · skip
      refine own_go (S' := (T1.setTop (mkF m 35 #[.val (.int p1), .val (.int (p1.toInt8.toInt32)), .val (.int (own_up (p1.toInt8.toInt32))), .val (.int ((p1.toInt8.toInt32) &&& (255 : Int32))), .val (.int (1 : Int32)), .unset] [(.int (1 : Int32))]))) (fun t k => ?_) ?_
      · refine XS.icmpNo X1.here hx rfl (hb hby at_23) rfl (flt h2).2.2.1 ?_
        show Steps p.tables e below (T1.setTop (mkF m 26 #[.val (.int p1), .val (.int (p1.toInt8.toInt32)), .val (.int (own_up (p1.toInt8.toInt32))), .val (.int ((p1.toInt8.toInt32) &&& (255 : Int32))), .unset, .unset] [])) _
        refine XS.iconst X1.here hx rfl (hb hby at_26) ?_
        show Steps p.tables e below (T1.setTop (mkF m 27 #[.val (.int p1), .val (.int (p1.toInt8.toInt32)), .val (.int (own_up (p1.toInt8.toInt32))), .val (.int ((p1.toInt8.toInt32) &&& (255 : Int32))), .unset, .unset] [(.int (1 : Int32))])) _
        refine XS.goto X1.here hx rfl (pc0 := 27) (pc' := 31) rfl (hb hby at_27) (by decide) (by decide) ?_
        show Steps p.tables e below (T1.setTop (mkF m 31 #[.val (.int p1), .val (.int (p1.toInt8.toInt32)), .val (.int (own_up (p1.toInt8.toInt32))), .val (.int ((p1.toInt8.toInt32) &&& (255 : Int32))), .unset, .unset] [(.int (1 : Int32))])) _
        refine XS.istore X1.here hx rfl (hb hby at_31) rfl (l' := #[.val (.int p1), .val (.int (p1.toInt8.toInt32)), .val (.int (own_up (p1.toInt8.toInt32))), .val (.int ((p1.toInt8.toInt32) &&& (255 : Int32))), .val (.int (1 : Int32)), .unset]) rfl ?_
        show Steps p.tables e below (T1.setTop (mkF m 33 #[.val (.int p1), .val (.int (p1.toInt8.toInt32)), .val (.int (own_up (p1.toInt8.toInt32))), .val (.int ((p1.toInt8.toInt32) &&& (255 : Int32))), .val (.int (1 : Int32)), .unset] [])) _
        refine XS.iload X1.here hx rfl (hb hby at_33) rfl ?_
        show Steps p.tables e below (T1.setTop (mkF m 35 #[.val (.int p1), .val (.int (p1.toInt8.toInt32)), .val (.int (own_up (p1.toInt8.toInt32))), .val (.int ((p1.toInt8.toInt32) &&& (255 : Int32))), .val (.int (1 : Int32)), .unset] [(.int (1 : Int32))])) _
        exact k
      refine own_go (S' := (T1.setTop (mkF m 56 #[.val (.int p1), .val (.int (p1.toInt8.toInt32)), .val (.int (own_up (p1.toInt8.toInt32))), .val (.int ((p1.toInt8.toInt32) &&& (255 : Int32))), .val (.int (1 : Int32)), .val (.int (((p1.toInt8.toInt32) &&& (255 : Int32)) &&& (223 : Int32)))] [(.int (((p1.toInt8.toInt32) &&& (255 : Int32)) &&& (223 : Int32))), (.int ((own_up (p1.toInt8.toInt32)) &&& (255 : Int32)))]))) (fun t k => ?_) ?_
      · refine XS.ifNo X1.here hx rfl (hb hby at_35) rfl ((if0 _ _).trans (feq (by decide : ¬ ((1 : Int32) = (0 : Int32)))).1) ?_
        show Steps p.tables e below (T1.setTop (mkF m 38 #[.val (.int p1), .val (.int (p1.toInt8.toInt32)), .val (.int (own_up (p1.toInt8.toInt32))), .val (.int ((p1.toInt8.toInt32) &&& (255 : Int32))), .val (.int (1 : Int32)), .unset] [])) _
        refine XS.iloadN X1.here hx rfl (hb hby at_38) rfl ?_
        show Steps p.tables e below (T1.setTop (mkF m 39 #[.val (.int p1), .val (.int (p1.toInt8.toInt32)), .val (.int (own_up (p1.toInt8.toInt32))), .val (.int ((p1.toInt8.toInt32) &&& (255 : Int32))), .val (.int (1 : Int32)), .unset] [(.int ((p1.toInt8.toInt32) &&& (255 : Int32)))])) _
        refine XS.sipush X1.here hx rfl (hb hby at_39) ?_
        show Steps p.tables e below (T1.setTop (mkF m 42 #[.val (.int p1), .val (.int (p1.toInt8.toInt32)), .val (.int (own_up (p1.toInt8.toInt32))), .val (.int ((p1.toInt8.toInt32) &&& (255 : Int32))), .val (.int (1 : Int32)), .unset] [(.int (223 : Int32)), (.int ((p1.toInt8.toInt32) &&& (255 : Int32)))])) _
        refine XS.iand X1.here hx rfl (hb hby at_42) rfl ?_
        show Steps p.tables e below (T1.setTop (mkF m 43 #[.val (.int p1), .val (.int (p1.toInt8.toInt32)), .val (.int (own_up (p1.toInt8.toInt32))), .val (.int ((p1.toInt8.toInt32) &&& (255 : Int32))), .val (.int (1 : Int32)), .unset] [(.int (((p1.toInt8.toInt32) &&& (255 : Int32)) &&& (223 : Int32)))])) _
        refine XS.goto X1.here hx rfl (pc0 := 43) (pc' := 47) rfl (hb hby at_43) (by decide) (by decide) ?_
        show Steps p.tables e below (T1.setTop (mkF m 47 #[.val (.int p1), .val (.int (p1.toInt8.toInt32)), .val (.int (own_up (p1.toInt8.toInt32))), .val (.int ((p1.toInt8.toInt32) &&& (255 : Int32))), .val (.int (1 : Int32)), .unset] [(.int (((p1.toInt8.toInt32) &&& (255 : Int32)) &&& (223 : Int32)))])) _
        refine XS.istore X1.here hx rfl (hb hby at_47) rfl (l' := #[.val (.int p1), .val (.int (p1.toInt8.toInt32)), .val (.int (own_up (p1.toInt8.toInt32))), .val (.int ((p1.toInt8.toInt32) &&& (255 : Int32))), .val (.int (1 : Int32)), .val (.int (((p1.toInt8.toInt32) &&& (255 : Int32)) &&& (223 : Int32)))]) rfl ?_
        show Steps p.tables e below (T1.setTop (mkF m 49 #[.val (.int p1), .val (.int (p1.toInt8.toInt32)), .val (.int (own_up (p1.toInt8.toInt32))), .val (.int ((p1.toInt8.toInt32) &&& (255 : Int32))), .val (.int (1 : Int32)), .val (.int (((p1.toInt8.toInt32) &&& (255 : Int32)) &&& (223 : Int32)))] [])) _
        refine XS.iloadN X1.here hx rfl (hb hby at_49) rfl ?_
        show Steps p.tables e below (T1.setTop (mkF m 50 #[.val (.int p1), .val (.int (p1.toInt8.toInt32)), .val (.int (own_up (p1.toInt8.toInt32))), .val (.int ((p1.toInt8.toInt32) &&& (255 : Int32))), .val (.int (1 : Int32)), .val (.int (((p1.toInt8.toInt32) &&& (255 : Int32)) &&& (223 : Int32)))] [(.int (own_up (p1.toInt8.toInt32)))])) _
        refine XS.sipush X1.here hx rfl (hb hby at_50) ?_
        show Steps p.tables e below (T1.setTop (mkF m 53 #[.val (.int p1), .val (.int (p1.toInt8.toInt32)), .val (.int (own_up (p1.toInt8.toInt32))), .val (.int ((p1.toInt8.toInt32) &&& (255 : Int32))), .val (.int (1 : Int32)), .val (.int (((p1.toInt8.toInt32) &&& (255 : Int32)) &&& (223 : Int32)))] [(.int (255 : Int32)), (.int (own_up (p1.toInt8.toInt32)))])) _
        refine XS.iand X1.here hx rfl (hb hby at_53) rfl ?_
        show Steps p.tables e below (T1.setTop (mkF m 54 #[.val (.int p1), .val (.int (p1.toInt8.toInt32)), .val (.int (own_up (p1.toInt8.toInt32))), .val (.int ((p1.toInt8.toInt32) &&& (255 : Int32))), .val (.int (1 : Int32)), .val (.int (((p1.toInt8.toInt32) &&& (255 : Int32)) &&& (223 : Int32)))] [(.int ((own_up (p1.toInt8.toInt32)) &&& (255 : Int32)))])) _
        refine XS.iload X1.here hx rfl (hb hby at_54) rfl ?_
        show Steps p.tables e below (T1.setTop (mkF m 56 #[.val (.int p1), .val (.int (p1.toInt8.toInt32)), .val (.int (own_up (p1.toInt8.toInt32))), .val (.int ((p1.toInt8.toInt32) &&& (255 : Int32))), .val (.int (1 : Int32)), .val (.int (((p1.toInt8.toInt32) &&& (255 : Int32)) &&& (223 : Int32)))] [(.int (((p1.toInt8.toInt32) &&& (255 : Int32)) &&& (223 : Int32))), (.int ((own_up (p1.toInt8.toInt32)) &&& (255 : Int32)))])) _
        exact k
      refine own_go (S' := (T1.setTop (mkF m 60 #[.val (.int p1), .val (.int (p1.toInt8.toInt32)), .val (.int (own_up (p1.toInt8.toInt32))), .val (.int ((p1.toInt8.toInt32) &&& (255 : Int32))), .val (.int (1 : Int32)), .val (.int (((p1.toInt8.toInt32) &&& (255 : Int32)) &&& (223 : Int32)))] [(.int (own_up (p1.toInt8.toInt32)))]))) (fun t k => ?_) ?_
      · refine XS.icmpNo X1.here hx rfl (hb hby at_56) rfl (teq (q3 h1 h2)).2 ?_
        show Steps p.tables e below (T1.setTop (mkF m 59 #[.val (.int p1), .val (.int (p1.toInt8.toInt32)), .val (.int (own_up (p1.toInt8.toInt32))), .val (.int ((p1.toInt8.toInt32) &&& (255 : Int32))), .val (.int (1 : Int32)), .val (.int (((p1.toInt8.toInt32) &&& (255 : Int32)) &&& (223 : Int32)))] [])) _
        refine XS.iloadN X1.here hx rfl (hb hby at_59) rfl ?_
        show Steps p.tables e below (T1.setTop (mkF m 60 #[.val (.int p1), .val (.int (p1.toInt8.toInt32)), .val (.int (own_up (p1.toInt8.toInt32))), .val (.int ((p1.toInt8.toInt32) &&& (255 : Int32))), .val (.int (1 : Int32)), .val (.int (((p1.toInt8.toInt32) &&& (255 : Int32)) &&& (223 : Int32)))] [(.int (own_up (p1.toInt8.toInt32)))])) _
        exact k
      obtain ⟨_, T4, L4, X4, ⟨rfl, N4q, k4⟩, st4⟩ := own_callS X1 hx hZ (y := (⟨"com/example/exdate/exdate/model/Position", "upperCase", "(B)B"⟩ : MethodName)) hown (hw _ (List.mem_of_getElem? (i := 0) rfl)) (hw _ (List.mem_of_getElem? (i := 1) rfl)) (hw _ (List.mem_of_getElem? (i := 2) rfl)) (hw _ (List.mem_of_getElem? (i := 3) rfl)) (by decide) (own_c1 l Z a0 hw [] (own_up (p1.toInt8.toInt32)) T1.heap n0 (by rw [k1]; exact Z0)) rfl (W := 0) (by decide) (by decide) (g := (mkF m 60 #[.val (.int p1), .val (.int (p1.toInt8.toInt32)), .val (.int (own_up (p1.toInt8.toInt32))), .val (.int ((p1.toInt8.toInt32) &&& (255 : Int32))), .val (.int (1 : Int32)), .val (.int (((p1.toInt8.toInt32) &&& (255 : Int32)) &&& (223 : Int32)))] [(.int (own_up (p1.toInt8.toInt32)))])) rfl (by rw [hml]; rfl) (argsL := [(.int (own_up (p1.toInt8.toInt32)))]) (rest := []) (lenOf own_pd0 rfl) rfl rfl rfl (hb hby at_60) (by decide) (by decide)
      have N4 := Fr.app N1 N4q
      refine own_go st4 ?_
      show own_Rch p e below _ (T4.setTop (mkF m 63 #[.val (.int p1), .val (.int (p1.toInt8.toInt32)), .val (.int (own_up (p1.toInt8.toInt32))), .val (.int ((p1.toInt8.toInt32) &&& (255 : Int32))), .val (.int (1 : Int32)), .val (.int (((p1.toInt8.toInt32) &&& (255 : Int32)) &&& (223 : Int32)))] [(.int (own_up (own_up (p1.toInt8.toInt32))))]))
      refine own_go (S' := (T4.setTop (mkF m 64 #[.val (.int p1), .val (.int (p1.toInt8.toInt32)), .val (.int (own_up (p1.toInt8.toInt32))), .val (.int ((p1.toInt8.toInt32) &&& (255 : Int32))), .val (.int (1 : Int32)), .val (.int (((p1.toInt8.toInt32) &&& (255 : Int32)) &&& (223 : Int32)))] [(.int (own_up (p1.toInt8.toInt32))), (.int (own_up (own_up (p1.toInt8.toInt32))))]))) (fun t k => ?_) ?_
      · refine XS.iloadN X4.here hx rfl (hb hby at_63) rfl ?_
        show Steps p.tables e below (T4.setTop (mkF m 64 #[.val (.int p1), .val (.int (p1.toInt8.toInt32)), .val (.int (own_up (p1.toInt8.toInt32))), .val (.int ((p1.toInt8.toInt32) &&& (255 : Int32))), .val (.int (1 : Int32)), .val (.int (((p1.toInt8.toInt32) &&& (255 : Int32)) &&& (223 : Int32)))] [(.int (own_up (p1.toInt8.toInt32))), (.int (own_up (own_up (p1.toInt8.toInt32))))])) _
        exact k
      refine own_go (S' := (T4.setTop (mkF m 72 #[.val (.int p1), .val (.int (p1.toInt8.toInt32)), .val (.int (own_up (p1.toInt8.toInt32))), .val (.int ((p1.toInt8.toInt32) &&& (255 : Int32))), .val (.int (1 : Int32)), .val (.int (((p1.toInt8.toInt32) &&& (255 : Int32)) &&& (223 : Int32)))] [(.int (1 : Int32))]))) (fun t k => ?_) ?_
      · refine XS.icmpNo X4.here hx rfl (hb hby at_64) rfl (teq q4).2 ?_
        show Steps p.tables e below (T4.setTop (mkF m 67 #[.val (.int p1), .val (.int (p1.toInt8.toInt32)), .val (.int (own_up (p1.toInt8.toInt32))), .val (.int ((p1.toInt8.toInt32) &&& (255 : Int32))), .val (.int (1 : Int32)), .val (.int (((p1.toInt8.toInt32) &&& (255 : Int32)) &&& (223 : Int32)))] [])) _
        refine XS.iconst X4.here hx rfl (hb hby at_67) ?_
        show Steps p.tables e below (T4.setTop (mkF m 68 #[.val (.int p1), .val (.int (p1.toInt8.toInt32)), .val (.int (own_up (p1.toInt8.toInt32))), .val (.int ((p1.toInt8.toInt32) &&& (255 : Int32))), .val (.int (1 : Int32)), .val (.int (((p1.toInt8.toInt32) &&& (255 : Int32)) &&& (223 : Int32)))] [(.int (1 : Int32))])) _
        refine XS.goto X4.here hx rfl (pc0 := 68) (pc' := 72) rfl (hb hby at_68) (by decide) (by decide) ?_
        show Steps p.tables e below (T4.setTop (mkF m 72 #[.val (.int p1), .val (.int (p1.toInt8.toInt32)), .val (.int (own_up (p1.toInt8.toInt32))), .val (.int ((p1.toInt8.toInt32) &&& (255 : Int32))), .val (.int (1 : Int32)), .val (.int (((p1.toInt8.toInt32) &&& (255 : Int32)) &&& (223 : Int32)))] [(.int (1 : Int32))])) _
        exact k
      refine own_retN X4 hx (t := .boolean) Bd.returns Bd.notSynchronized (by simp) (hb hby at_72) rfl (by decide) (by decide) ?_
      exact ⟨rfl, N4⟩
set_option maxRecDepth 65536 in
set_option maxHeartbeats 40000000 in
theorem comes_1 {Post : Tables → Env → Array Value → State → Outcome → State → Prop} (hpost : ∀ tb e args s v u, (limb_1_1.after args s (.returned v) u = true ∧ limb_1_2.after args s (.returned v) u = true ∧ True) → FrameEnd s (.returned v) u (Jvm.fieldLocs frame_1_writes args s ++ Jvm.arrayLocs frame_1_arrays args s ++ Jvm.staticLocs frame_1_statics s) 0 0 → Post tb e args s (.returned v) u) :
    ArmFor flags0 classFile x code maxLocals ret World_1 tables_1 room_1 Calls_1 rest_1 Pre_1 Post := by
  intro l hfl _ _ p e ha hc hk s m args below hf hA hF happ hP
  obtain ⟨hcalls, hrest, hpre⟩ := hP
  obtain ⟨-, -, -, hnamed, -, -, -, hat⟩ := (Spec.applies_iff hf).mp happ
  obtain ⟨hg, hn⟩ := and_e (Cond.before_iff.mp (show (Jvm.Cond.and given_1 narrow_1).before args s = true from hpre))
  obtain ⟨gc, g0⟩ := and_e hg
  obtain ⟨w0, rfl⟩ : ∃ w0 : Value, args = #[w0] := by
    have hs : args.size = 1 := by simpa [Cond.value, given_1] using gc
    obtain ⟨L⟩ := args
    match L, hs with
    | [w0], _ => exact ⟨w0, rfl⟩
  obtain ⟨i0, ei0⟩ := is_v g0
  obtain rfl : w0 = (.int i0) := Option.some.inj ei0
  have hw := fun d (hd : d ∈ tables_1) => atoms_spec (ws := Jvm.Cond.code x code maxLocals ret :: tables_1) hat d (List.mem_cons_of_mem _ hd)
  have hfit : Fit s := fun {y c} hc i hi => by
    obtain ⟨ha, rfl⟩ := Array.getElem?_eq_some_iff.mp hc
    have q := List.all_eq_true.mp ((Array.all_eq_true_iff_forall_mem.mp hF) _ (Array.getElem_mem ha)) i (List.mem_range.mpr hi)
    simpa [Array.getElem?_eq_getElem hi] using q
  obtain ⟨n, o, h1, h2, h3, _, L, rfl, ⟨rfl, N⟩, hq⟩ := own_c0 l s _ hw tables_1 i0 s.heap s.heap.size (Nat.le_refl _) p e ha hc hk s m _ below hf ((Spec.applies_iff_loose hf).mp happ).1 ⟨rfl, State.Warmed39.refl s, rfl⟩ trivial
  refine ⟨n, _, h1, h2, h3, hpost _ _ _ _ _ _ ⟨Cond.after_iff.mpr rfl, Cond.after_iff.mpr (eq_i res_at (Term.int_eval (1)) rfl), trivial⟩ ⟨hq.1, hq.2.1, (hq.2.2.sift fun y hy => Or.inr (N y hy)).mono (by decide) (by decide)⟩⟩
theorem main_1_1 : Claimed_1_1 := comes_1 fun _ _ _ _ _ _ h hF => ⟨h.1, hF⟩
theorem main_1_2 : Claimed_1_2 := comes_1 fun _ _ _ _ _ _ h hF => ⟨h.2.1, hF⟩
end Jvm.Pilot.@@N@@
namespace Jvm.Pilot.@@N@@
open Jvm Jvm.ClassFile Sem Op Lib Jvm.Free Jvm.Stand Jvm.Pilot.@@N@@.Jvm.D
/-! MADE BY PROGRAM (witnessworld.py) out of the Statement's table words and the real class files: 7 classes; the members and pool entries that the words name. The judged class is class 1, her method 1. -/
namespace start1
open Jvm.ClassFile
def u (s : String) : CpInfo := .utf8 (stringToUtf16 s)
/-- a pool by its gaps: so many unusable entries, then the entry; so many at the end -/
def gap : Nat → List CpInfo → List CpInfo
  | 0, r => r
  | n + 1, r => .unusable :: gap n r
def poolList (es : List (Nat × CpInfo)) (last : Nat) : List CpInfo := es.foldr (fun e r => gap e.1 (e.2 :: r)) (gap last [])
def pool (es : List (Nat × CpInfo)) (last : Nat) : Array CpInfo := ⟨poolList es last⟩
def fileOf (pool : Array CpInfo) (this : Nat) (attrs : Array Attribute := #[]) (ms : Array MethodInfo := #[]) (fl : Nat := 33) (sup : Nat := 0) (ifs : Array Nat := #[]) (fds : Array FieldInfo := #[]) : ClassFile where
  minorVersion := 0
  majorVersion := 65
  constantPool := pool
  accessFlags := fl
  thisClass := this
  superClass := sup
  interfaces := ifs
  fields := fds
  methods := ms
  attributes := attrs
def plain (name : String) (sup : Option ClassId) : Class where
  name := name
  kind := .ordinary
  loader := none
  accessFlags := 33
  super := sup
  interfaces := #[]
  cf := none
  fields := #[]
  methods := #[]
  instanceTypes := #[]
  staticTypes := #[]
  resolved := #[]
  callSites := []
  init := .initialized
  statics := none
  mirror := none

def pool0 : Array CpInfo := pool [(5, u "<init>"), (0, u "()V"), (1, .class_ 10), (1, u "java/lang/Object")] 113

def k0m0 : Method := { name := "<init>", desc := "()V", sig := { parameters := [], returnType := none }, accessFlags := 1, code := none }
/-- java/lang/Object -/
def k0 : Class := { plain "java/lang/Object" none with
  accessFlags := 33
  interfaces := #[]
  cf := some (fileOf pool0 8 #[] #[{ accessFlags := 1, nameIndex := 5, descriptorIndex := 6, attributes := #[] }] 33 0 #[] #[])
  fields := #[]
  methods := #[k0m0]
  instanceTypes := #[]
  staticTypes := #[]
  resolved := Array.replicate 124 none
  statics := none }

def pool1 : Array CpInfo := pool [(2, .class_ 4), (1, u "java/lang/Object"), (0, u "<init>"), (0, u "()V"), (0, .methodref 8 9), (0, .class_ 10), (0, .nameAndType 11 12), (0, u "com/example/exdate/exdate/model/Position"), (0, u "upperCase"), (0, u "(B)B"), (0, .class_ 14), (0, u "com/example/exdate/exdate/model/PositionUpperCasePinLaw"), (2, u "law"), (0, u "(I)Z")] 3

def k1m0 : Method := { name := "<init>", desc := "()V", sig := { parameters := [], returnType := none }, accessFlags := 2, code := none }
def k1c1 : Code := { maxStack := 2, maxLocals := 6, code := code, exceptionTable := #[], attributes := #[] }
def k1m1 : Method := { name := "law", desc := "(I)Z", sig := { parameters := [.int], returnType := some .boolean }, accessFlags := 9, code := some k1c1 }
/-- com/example/exdate/exdate/model/PositionUpperCasePinLaw -/
def k1 : Class := { plain "com/example/exdate/exdate/model/PositionUpperCasePinLaw" (some 0) with
  accessFlags := 49
  interfaces := #[]
  cf := some (fileOf pool1 13 #[] #[{ accessFlags := 2, nameIndex := 5, descriptorIndex := 6, attributes := #[] }, { accessFlags := 9, nameIndex := 17, descriptorIndex := 18, attributes := #[] }] 49 2 #[] #[])
  fields := #[]
  methods := #[k1m0, k1m1]
  instanceTypes := #[]
  staticTypes := #[]
  resolved := Array.replicate 22 none
  statics := none }

def pool2 : Array CpInfo := pool [(2, .class_ 4), (1, u "java/lang/Object"), (0, u "<init>"), (0, u "()V"), (0, .class_ 8), (0, u "com/example/exdate/exdate/model/Position"), (2, u "text"), (0, u "[B"), (5, u "I"), (2, u "starts"), (0, u "[I"), (2, u "ends"), (4, u "texts"), (0, u "[Ljava/lang/String;"), (11, u "line"), (14, u "used"), (12, u "anyText"), (0, u "Z"), (66, u "upperCase"), (0, u "(B)B"), (13, u "INITIAL_BYTES"), (2, u "NUMBER_BYTES")] 47

def k2m0 : Method := { name := "<init>", desc := "()V", sig := { parameters := [], returnType := none }, accessFlags := 1, code := none }
def k2c1 : Code := { maxStack := 2, maxLocals := 1, code := prog_40_method_24_code, exceptionTable := #[], attributes := #[] }
def k2m1 : Method := { name := "upperCase", desc := "(B)B", sig := { parameters := [.byte], returnType := some .byte }, accessFlags := 8, code := some k2c1 }
/-- com/example/exdate/exdate/model/Position -/
def k2 : Class := { plain "com/example/exdate/exdate/model/Position" (some 0) with
  accessFlags := 49
  interfaces := #[]
  cf := some (fileOf pool2 7 #[] #[{ accessFlags := 1, nameIndex := 5, descriptorIndex := 6, attributes := #[] }, { accessFlags := 8, nameIndex := 139, descriptorIndex := 140, attributes := #[] }] 49 2 #[] #[{ accessFlags := 26, nameIndex := 154, descriptorIndex := 18, attributes := #[] }, { accessFlags := 26, nameIndex := 157, descriptorIndex := 18, attributes := #[] }, { accessFlags := 2, nameIndex := 43, descriptorIndex := 18, attributes := #[] }, { accessFlags := 2, nameIndex := 11, descriptorIndex := 12, attributes := #[] }, { accessFlags := 2, nameIndex := 58, descriptorIndex := 18, attributes := #[] }, { accessFlags := 18, nameIndex := 21, descriptorIndex := 22, attributes := #[] }, { accessFlags := 18, nameIndex := 25, descriptorIndex := 22, attributes := #[] }, { accessFlags := 18, nameIndex := 30, descriptorIndex := 31, attributes := #[] }, { accessFlags := 2, nameIndex := 71, descriptorIndex := 72, attributes := #[] }])
  fields := #[{ name := "INITIAL_BYTES", type := .int, accessFlags := 26, slot := 0, constantValue := 0 }, { name := "NUMBER_BYTES", type := .int, accessFlags := 26, slot := 1, constantValue := 0 }, { name := "line", type := .int, accessFlags := 2, slot := 0, constantValue := 0 }, { name := "text", type := (.array .byte), accessFlags := 2, slot := 1, constantValue := 0 }, { name := "used", type := .int, accessFlags := 2, slot := 2, constantValue := 0 }, { name := "starts", type := (.array .int), accessFlags := 18, slot := 3, constantValue := 0 }, { name := "ends", type := (.array .int), accessFlags := 18, slot := 4, constantValue := 0 }, { name := "texts", type := (.array (.object "java/lang/String")), accessFlags := 18, slot := 5, constantValue := 0 }, { name := "anyText", type := .boolean, accessFlags := 2, slot := 6, constantValue := 0 }]
  methods := #[k2m0, k2m1]
  instanceTypes := #[.int, (.array .byte), .int, (.array .int), (.array .int), (.array (.object "java/lang/String")), .boolean]
  staticTypes := #[.int, .int]
  resolved := Array.replicate 205 none
  statics := none }

def pool3 : Array CpInfo := pool [(1, u "java/lang/Cloneable"), (0, .class_ 1), (0, u "java/lang/Object"), (0, .class_ 3)] 3

/-- java/lang/Cloneable -/
def k3 : Class := { plain "java/lang/Cloneable" (some 0) with
  accessFlags := 1537
  interfaces := #[]
  cf := some (fileOf pool3 2 #[] #[] 1537 4 #[] #[])
  fields := #[]
  methods := #[]
  instanceTypes := #[]
  staticTypes := #[]
  resolved := Array.replicate 8 none
  statics := none }

def pool4 : Array CpInfo := pool [(1, u "java/io/Serializable"), (0, .class_ 1), (0, u "java/lang/Object"), (0, .class_ 3)] 3

/-- java/io/Serializable -/
def k4 : Class := { plain "java/io/Serializable" (some 0) with
  accessFlags := 1537
  interfaces := #[]
  cf := some (fileOf pool4 2 #[] #[] 1537 4 #[] #[])
  fields := #[]
  methods := #[]
  instanceTypes := #[]
  staticTypes := #[]
  resolved := Array.replicate 8 none
  statics := none }

/-- the primitive byte -/
def k5 : Class := { plain "byte" none with kind := .primitive 'B', accessFlags := 0x411 }
/-- [B -/
def k6 : Class := { plain "[B" (some 0) with kind := .array 5 .byte, interfaces := #[3, 4], accessFlags := 1041 }

def heap : Heap := #[]
def classes : Array Class := #[k0, k1, k2, k3, k4, k5, k6]
def interned : List (Array UInt16 × Addr) := []
def slotsUsed : Nat := 0
def theMethod : MethodId := ⟨1, 1⟩
def args0 : Array Value := #[.int 5]
def aboutOver (below : List Frame) : State where
  vm := { classes := classes, interned := interned.toArray }
  heap := heap
  slotsUsed := slotsUsed
  threads := #[{ frames := .invoking theMethod args0 :: below }]
def below0 : List Frame := [.native { method := ⟨0, 0⟩, args := #[] }]
def about1 : State := aboutOver below0
def p0 : Program := .bare "" "" ""
def e0 : Env := launch0.env 0 0 0
theorem w_frames : about1.frames = Frame.invoking theMethod args0 :: below0 := rfl
set_option maxRecDepth 65536 in
theorem w_args : argsFit about1.vm theMethod args0 = true := by decide +kernel
set_option maxRecDepth 65536 in
theorem w_heap : heapFits about1 = true := by decide +kernel
set_option maxRecDepth 65536 in
theorem w_runnable : about1.curStatus? = some .runnable := by decide +kernel
set_option maxRecDepth 65536 in
theorem w_alone : about1.alone = true := by decide +kernel
set_option maxRecDepth 65536 in
theorem w_named : about1.methodNamed? x = some theMethod := by decide +kernel
set_option maxRecDepth 65536 in
theorem w_hears : about1.hears theMethod below0 = true := by decide +kernel
set_option maxRecDepth 65536 in
theorem w_ripe : about1.ripe theMethod args0 below0 = true := by decide +kernel
theorem w_running : about1.status = .running := rfl
set_option maxRecDepth 65536 in
theorem w_room : about1.hasRoom e0.platform room_1 = true :=
  launch0.hasRoom_least _ room_1 (by decide +kernel) (by decide +kernel) (by decide +kernel) (by decide +kernel) (by decide +kernel) (by decide +kernel)
theorem allAtoms_all (ts : List Jvm.Cond) (a : Array Jvm.Value) (st : Jvm.State) : (allAtoms ts).before a st = ts.all (fun c => c.before a st) := by
  induction ts with
  | nil => rfl
  | cons c t ih =>
    show (Jvm.Cond.and c (allAtoms t)).before a st = _
    rw [Jvm.Cond.before_and, ih, List.all_cons]
def words1 : List Jvm.Cond := Jvm.Cond.code x code maxLocals ret :: tables_1
/-- a 'code' word, met by the world's own term for the bytes: nothing is compared byte by byte -/
theorem code_word {y : MethodName} {bytes : ByteArray} {mx : Nat} {rt : Option FieldType} {a : Array Value} {s : State} {m : MethodId} {meth : Method} {c : Code} (h1 : s.methodNamed? y = some m) (h2 : s.vm.method? m = some meth) (h3 : meth.code = some c) (h4 : c.code = bytes)
    (h5 : (c.maxLocals == mx && c.exceptionTable.isEmpty && decide (c.maxStack ≤ mostOperands) && decide (meth.sig.returnType = rt) && !meth.locks && decide (parseMethodDescriptor y.desc = some meth.sig)) = true) : (Jvm.Cond.code y bytes mx rt).before a s = true := by
  simp only [Bool.and_eq_true, beq_iff_eq, Bool.not_eq_true', decide_eq_true_eq] at h5
  obtain ⟨⟨⟨⟨⟨g1, g2⟩, g3⟩, g4⟩, g5⟩, g6⟩ := h5
  simp [Cond.before, Cond.holds, Cond.value, h1, h2, h3, h4, g1, g2, g3, g4, g5, g6]
def isCode : Jvm.Cond → Bool
  | .code _ _ _ _ => true
  | _ => false
theorem all_split {L : List Jvm.Cond} {P : Jvm.Cond → Bool} (h1 : L.all (fun c => isCode c || P c) = true) (h2 : ∀ c ∈ L.filter isCode, P c = true) : L.all P = true := by
  refine List.all_eq_true.mpr fun c hc => ?_
  have h := List.all_eq_true.mp h1 c hc
  rcases Bool.eq_false_or_eq_true (isCode c) with hi | hi
  · exact h2 c (List.mem_filter.mpr ⟨hc, hi⟩)
  · simpa [hi] using h
set_option maxRecDepth 65536 in
theorem w_c0 : (Jvm.Cond.code x code maxLocals ret).before args0 about1 = true := code_word (m := ⟨1, 1⟩) (meth := k1m1) (c := k1c1) (by decide +kernel) rfl rfl rfl (by decide +kernel)
set_option maxRecDepth 65536 in
theorem w_c1 : (Jvm.Cond.code ({ cls := "com/example/exdate/exdate/model/Position", name := "upperCase", desc := "(B)B" } : Jvm.MethodName) prog_40_method_24_code (1 : Nat) (Option.some Jvm.ClassFile.FieldType.byte)).before args0 about1 = true := code_word (m := ⟨2, 1⟩) (meth := k2m1) (c := k2c1) (by decide +kernel) rfl rfl rfl (by decide +kernel)
def codes1 : List Jvm.Cond := [Jvm.Cond.code x code maxLocals ret, Jvm.Cond.code ({ cls := "com/example/exdate/exdate/model/Position", name := "upperCase", desc := "(B)B" } : Jvm.MethodName) prog_40_method_24_code (1 : Nat) (Option.some Jvm.ClassFile.FieldType.byte)]
set_option maxRecDepth 65536 in
theorem codes_eq : words1.filter isCode = codes1 := rfl
theorem w_codes : ∀ c ∈ words1.filter isCode, c.before args0 about1 = true := by
  rw [codes_eq]
  intro c hc
  simp only [codes1, List.mem_cons, List.not_mem_nil, or_false] at hc
  rcases hc with rfl | rfl
  · exact w_c0
  · exact w_c1
set_option maxRecDepth 65536 in
theorem w_t1 : words1.all (fun c => isCode c || c.before args0 about1) = true := by decide +kernel
theorem w_tables : (allAtoms (Jvm.Cond.code x code maxLocals ret :: tables_1)).before args0 about1 = true := by
  rw [allAtoms_all]
  show words1.all (fun c => c.before args0 about1) = true
  refine all_split ?_ w_codes
  rw [w_t1]
set_option maxRecDepth 65536 in
theorem w_case : (Jvm.Cond.and given_1 narrow_1).before args0 about1 = true := by decide +kernel
theorem w_applies : (headSpec (Jvm.Cond.code x code maxLocals ret :: tables_1) room_1).applies x e0.platform about1 = true :=
  (Spec.applies_iff w_frames).mpr ⟨w_running, w_runnable, w_alone, w_named, w_hears, w_ripe, w_room, w_tables⟩
theorem atStart : AtStart classFile x code maxLocals ret World_1 tables_1 room_1 Calls_1 rest_1 Pre_1 launch0 p0 e0 about1 theMethod args0 below0 :=
  ⟨lists_1, trivial, launch0.admits_env _ _ _, launch0.least_env, fairChoices_fair.cas, fairChoices_fair.clock, w_frames, w_args, w_heap, w_applies, trivial, trivial, w_case⟩
end start1
theorem witness_1 : WitnessClaimed_1 := ⟨start1.p0, start1.e0, start1.about1, start1.theMethod, start1.args0, start1.below0, start1.atStart⟩
end Jvm.Pilot.@@N@@
